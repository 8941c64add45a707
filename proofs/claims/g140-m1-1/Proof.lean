import JvmDerived
import JvmDerived.Pilot.@@N@@Statement
import JvmDerived.Pilot.@@N@@Code
set_option linter.unusedVariables false
set_option linter.unusedSimpArgs false
namespace Jvm.RoadKit
open Sem ClassFile Op Lib Jvm.Stand Jvm.Free Jvm.LawKit
section New
variable {p : Program} {l : Launch} {e : Env} {R : Room} {s : State} {m : MethodId} {args : Array Value} {below : List Frame} {meth : Method} {c : Code} {T : State} {locs : List Loc} {cells slots : Nat}
theorem retI (X : Stand p l e R s m args below meth c T locs cells slots) (hx : p.tables.exec = Jvm.exec) {pc : Nat} {Ls : Array Slot} {z : Int32} {rest : List Value} (hret : meth.sig.returnType = some .int) (hd : decode c.code pc = .ok (.ireturn, 1)) {fs : List Frame}
    (hl : ∀ (f : JFrame) (acts : List Action), f.method = m → f.locked = none → f.entered = [] → (doReturn e (T.setTop f) acts (some (.int z))).1 = T.setFrames fs) : Steps p.tables e below (T.setTop (mkF m pc Ls (.int z :: rest))) (T.setFrames fs) := by
  have hm' : T.vm.method? m = some meth := X.method'
  have hn : narrow .int (.int z) = .int z := rfl
  show Steps p.tables e below (T.setTop { method := m, pc := pc, locals := Ls, stack := _ :: rest, locked := none }) _
  jvm_step X.here [X.here.top, hx, hd, hm', hret, hn]
  first | (intro acts; rw [hl _ acts rfl rfl rfl]) | rw [hl _ _ rfl rfl rfl]
  exact Steps.refl _
theorem retR (X : Stand p l e R s m args below meth c T locs cells slots) (hx : p.tables.exec = Jvm.exec) {pc : Nat} {Ls : Array Slot} {w : Value} {t : FieldType} {rest : List Value} (hret : meth.sig.returnType = some t) (hn : narrow t w = w) (ht : t.isReference = true) (hw : w.isRef = true) (hd : decode c.code pc = .ok (.areturn, 1)) {fs : List Frame}
    (hl : ∀ (f : JFrame) (acts : List Action), f.method = m → f.locked = none → f.entered = [] → (doReturn e (T.setTop f) acts (some w)).1 = T.setFrames fs) : Steps p.tables e below (T.setTop (mkF m pc Ls (w :: rest))) (T.setFrames fs) := by
  have hm' : T.vm.method? m = some meth := X.method'
  show Steps p.tables e below (T.setTop { method := m, pc := pc, locals := Ls, stack := _ :: rest, locked := none }) _
  jvm_step X.here [X.here.top, hx, hd, hm', hret, hn, hw]
  try (refine ⟨ht, ?_⟩)
  first | (intro acts; rw [hl _ acts rfl rfl rfl]) | rw [hl _ _ rfl rfl rfl]
  exact Steps.refl _
end New
end Jvm.RoadKit
/- laws to paste: Road.backV, Road.lenW, Road.codOf, StrChars.pair_says, StrChars.lo8_mask, StrChars.shr1, StrChars.shr0, StrChars.narrow_ch, Road.wide_lo, Road.wide_hi (cut by pick.py; bodies as the Statement names them) -/
namespace Jvm.Pilot.@@N@@
namespace StrChars
open Jvm Sem ClassFile Op Lib Jvm.Stand Jvm.Free.XT Jvm.Free.ALB Jvm.Free.JM Jvm.Free
open Jvm.Lib.Cold (StaticIs)
/-- a char array whose places are chars -/
def Ch (a : Addr) (A : Cell) (U : State) : Prop := Arr .char a A U ∧ Typed .char A
theorem Ch.mv {a : Addr} {A : Cell} {U U' : State} (h : Ch a A U) (hal : U.vm.Alike U'.vm) (hh : U'.heap = U.heap) : Ch a A U' := ⟨h.1.mv hal hh, h.2⟩
theorem Ch.keep {a : Addr} {A : Cell} {U U' : State} (h : Ch a A U) (hal : U.vm.Alike U'.vm) (hk : U'.heap[a]? = some A) : Ch a A U' := ⟨h.1.keep hal hk, h.2⟩
/-- what place i of a char[]'s cell holds -/
def cv (A : Cell) (i : Nat) : Int32 := match A.slots[i]? with | some (.int x) => x | _ => 0
theorem Ch.get {a : Addr} {A : Cell} {U : State} (h : Ch a A U) {i : Nat} (hi : i < A.slots.size) : A.slots[i]? = some (.int (cv A i)) := by
  have e := Array.getElem?_eq_getElem hi
  have f := h.2 i _ e
  unfold cv; rw [e]
  generalize A.slots[i] = v at f
  cases v <;> simp [fits] at f ⊢
/-- the byte that i2b leaves of a char -/
def lo8 (x : Int32) : Int32 := x.toInt8.toInt32
theorem fits_lo8 (y : Int32) : fits .byte (.int (lo8 y)) = true := by
  have h1 := y.toInt8.le_toInt
  have h2 := y.toInt8.toInt_lt
  simp only [lo8, fits, Bool.and_eq_true, decide_eq_true_eq, Int32.le_iff_toInt_le, Int8.toInt_toInt32, show (-128 : Int32).toInt = -128 from by decide, show (127 : Int32).toInt = 127 from by decide]
  omega
/-- A' is A but that each place j of lo .. hi - 1 holds f j -/
def Laid (A A' : Cell) (lo hi : Nat) (f : Nat → Value) : Prop := A'.cls = A.cls ∧ A'.vm = A.vm ∧ A'.slots.size = A.slots.size ∧ ∀ i, A'.slots[i]? = if lo ≤ i ∧ i < hi then some (f i) else A.slots[i]?
theorem Laid.zero (A : Cell) (lo : Nat) (f : Nat → Value) : Laid A A lo (lo + 0) f := ⟨rfl, rfl, rfl, fun i => by rw [if_neg (by omega)]⟩
theorem Laid.step {A Ak : Cell} {lo k : Nat} {f : Nat → Value} {v : Value} (h : Laid A Ak lo k f) (hlo : lo ≤ k) (hk : k < Ak.slots.size) (hv : v = f k) : Laid A (Ak.setSlot k v) lo (k + 1) f := by
  refine ⟨h.1, h.2.1, by simpa [Cell.setSlot] using h.2.2.1, fun i => ?_⟩
  by_cases e : k = i
  · subst e; rw [Cell.slots_setSlot_self v hk, if_pos (by omega), hv]
  · rw [Cell.slots_setSlot_ne v e, h.2.2.2 i]
    by_cases q : lo ≤ i ∧ i < k
    · rw [if_pos q, if_pos (by omega)]
    · rw [if_neg q, if_neg (by omega)]
def U16 : String := "java/lang/StringUTF16"
namespace Cmp5
def yN : MethodName := ⟨"java/lang/StringUTF16", "compress", "([CI[BII)I"⟩
abbrev yB : ByteArray := jdk_52_method_21_code
theorem d0 : decode yB 0 = .ok (.iconst 0, 1) := by decide +kernel
theorem d1 : decode yB 1 = .ok (.istore 5, 2) := by decide +kernel
theorem d3 : decode yB 3 = .ok (.iload 5, 2) := by decide +kernel
theorem d5 : decode yB 5 = .ok (.iload 4, 2) := by decide +kernel
theorem d7 : decode yB 7 = .ok (.if_icmp (.ge) 37, 3) := by decide +kernel
theorem d10 : decode yB 10 = .ok (.aload_n 0, 1) := by decide +kernel
theorem d11 : decode yB 11 = .ok (.iload_n 1, 1) := by decide +kernel
theorem d12 : decode yB 12 = .ok (.caload, 1) := by decide +kernel
theorem d13 : decode yB 13 = .ok (.istore 6, 2) := by decide +kernel
theorem d15 : decode yB 15 = .ok (.iload 6, 2) := by decide +kernel
theorem d17 : decode yB 17 = .ok (.sipush 255, 3) := by decide +kernel
theorem d20 : decode yB 20 = .ok (.if_icmp (.le) 6, 3) := by decide +kernel
theorem d26 : decode yB 26 = .ok (.aload_n 2, 1) := by decide +kernel
theorem d27 : decode yB 27 = .ok (.iload_n 3, 1) := by decide +kernel
theorem d28 : decode yB 28 = .ok (.iload 6, 2) := by decide +kernel
theorem d30 : decode yB 30 = .ok (.i2b, 1) := by decide +kernel
theorem d31 : decode yB 31 = .ok (.bastore, 1) := by decide +kernel
theorem d32 : decode yB 32 = .ok (.iinc 1 1, 3) := by decide +kernel
theorem d35 : decode yB 35 = .ok (.iinc 3 1, 3) := by decide +kernel
theorem d38 : decode yB 38 = .ok (.iinc 5 1, 3) := by decide +kernel
theorem d41 : decode yB 41 = .ok (.goto (-38), 3) := by decide +kernel
theorem d44 : decode yB 44 = .ok (.iload 4, 2) := by decide +kernel
theorem d46 : decode yB 46 = .ok (.ireturn, 1) := by decide +kernel
def site : List Cond := []
def tab : Cond := tabOf yN yB 7 (some .int) site
def P (b : Addr) (A : Cell) (d : Addr) (B : Cell) (o q len : Nat) (args : Array Value) (s : State) : Prop := args = #[.ref b, .int (Int32.ofNat o), .ref d, .int (Int32.ofNat q), .int (Int32.ofNat len)] ∧ Ch b A s ∧ Arr .byte d B s ∧ b ≠ d ∧ o + len ≤ A.slots.size ∧ q + len ≤ B.slots.size ∧ ∀ i, i < len → ¬ 255 < cv A (o + i)
def E (b : Addr) (A : Cell) (d : Addr) (B : Cell) (o q len : Nat) (r : Option Value) (s u : State) : Prop := r = some (.int (Int32.ofNat len)) ∧ ∃ B', Put d B' s u ∧ Laid B B' q (q + len) (fun j => Value.int (lo8 (cv A (o + (j - q)))))
/-- no char of the range above 255: len; the places written hold each char's low byte -/
theorem law (l : Launch) (b : Addr) (A : Cell) (d : Addr) (B : Cell) (o q len : Nat) : Law l yN 5 5 0 0 yB 7 (some .int) site (P b A d B o q len) (E b A d B o q len) (copyLocs d q len) 0 0 := by
  refine Law.of_walk (plainFor_of_name (by decide +kernel)) (by decide +kernel) (by decide +kernel) (by decide) (fun _ _ h => by rw [h.1]; rfl) (fun _ U U' hal hh h => ⟨h.1, h.2.1.mv hal hh, h.2.2.1.mv hal hh, h.2.2.2⟩) (fun r U U' V V' h1 hal h2 h => ⟨h.1, h.2.elim fun B' q => ⟨B', q.1.mv h1 h2, q.2⟩⟩) ?_
  intro p e s m args below meth c s₁ X0 hexec hbytes hml hret hlk hnm hown hh0 W hP
  obtain ⟨rfl, hA, hB, hne, l1, l2, hp⟩ := hP
  have c1 : Steps p.tables e below (s₁.setTop (entryFrame m #[.ref b, .int (Int32.ofNat o), .ref d, .int (Int32.ofNat q), .int (Int32.ofNat len)] 7)) (s₁.setTop (mkF m 0 #[.val (.ref b), .val (.int (Int32.ofNat o)), .val (.ref d), .val (.int (Int32.ofNat q)), .val (.int (Int32.ofNat len)), .unset, .unset] [])) := entry rfl
  have hA0 := hA.1.mv X0.warmed.alike hh0
  have hB0 := hB.mv X0.warmed.alike hh0
  have a31 := hA.1.2.2.2
  have c2 : Steps p.tables e below (s₁.setTop (entryFrame m #[.ref b, .int (Int32.ofNat o), .ref d, .int (Int32.ofNat q), .int (Int32.ofNat len)] 7)) (s₁.setTop (mkF m 3 #[.val (.ref b), .val (.int (Int32.ofNat o)), .val (.ref d), .val (.int (Int32.ofNat q)), .val (.int (Int32.ofNat len)), .val (.int 0), .unset] [])) := c1.trans (by
    refine iconstV X0.here hexec rfl 0 (hb hbytes d0) (by decide) ?_
    refine XS.istore X0.here hexec rfl (hb hbytes d1) rfl rfl ?_
    exact Steps.refl _)
  have loop : ∀ (r i : Nat), i + r = len → ∀ (z : Slot), (z = .unset ∨ ∃ w, z = .val w ∧ w.category = 1) → ∀ (Tl : State) (Bk : Cell), Stand p l e { frames := 0, locals := 0, cells := 0, slots := 0 } s m #[.ref b, .int (Int32.ofNat o), .ref d, .int (Int32.ofNat q), .int (Int32.ofNat len)] below meth c Tl ([] ++ copyLocs d q i) 0 0 → Put d Bk s₁ Tl → Laid B Bk q (q + i) (fun j => Value.int (lo8 (cv A (o + (j - q))))) →
      Steps p.tables e below (s₁.setTop (entryFrame m #[.ref b, .int (Int32.ofNat o), .ref d, .int (Int32.ofNat q), .int (Int32.ofNat len)] 7)) (Tl.setTop (mkF m 3 #[.val (.ref b), .val (.int (Int32.ofNat (o + i))), .val (.ref d), .val (.int (Int32.ofNat (q + i))), .val (.int (Int32.ofNat len)), .val (.int (Int32.ofNat i)), z] [])) → ∃ (T' : State) (B' : Cell) (z' : Slot), Stand p l e { frames := 0, locals := 0, cells := 0, slots := 0 } s m #[.ref b, .int (Int32.ofNat o), .ref d, .int (Int32.ofNat q), .int (Int32.ofNat len)] below meth c T' ([] ++ copyLocs d q len) 0 0 ∧ Put d B' s₁ T' ∧ Laid B B' q (q + len) (fun j => Value.int (lo8 (cv A (o + (j - q))))) ∧
      Steps p.tables e below (s₁.setTop (entryFrame m #[.ref b, .int (Int32.ofNat o), .ref d, .int (Int32.ofNat q), .int (Int32.ofNat len)] 7)) (T'.setTop (mkF m 3 #[.val (.ref b), .val (.int (Int32.ofNat (o + len))), .val (.ref d), .val (.int (Int32.ofNat (q + len))), .val (.int (Int32.ofNat len)), .val (.int (Int32.ofNat len)), z'] [])) := by
    intro r
    induction r with
    | zero =>
      intro i hi z hz Tl Bk Xl pl fl cl
      have hil : i = len := by omega
      rw [hil] at Xl fl cl
      exact ⟨Tl, Bk, z, Xl, pl, fl, cl⟩
    | succ r ih =>
      intro i hi z hz Tl Bk Xl pl fl cl
      have all := X0.warmed.alike.symm.trans Xl.warmed.alike
      have hAl := hA0.keep all (pl.other hne hA0.1)
      have hBk := hB0.like all pl.1 fl.1 fl.2.1 fl.2.2.1
      have hlt : q + i < Bk.slots.size := by rw [fl.2.2.1]; omega
      have c3 : Steps p.tables e below (s₁.setTop (entryFrame m #[.ref b, .int (Int32.ofNat o), .ref d, .int (Int32.ofNat q), .int (Int32.ofNat len)] 7)) (Tl.setTop (mkF m 12 #[.val (.ref b), .val (.int (Int32.ofNat (o + i))), .val (.ref d), .val (.int (Int32.ofNat (q + i))), .val (.int (Int32.ofNat len)), .val (.int (Int32.ofNat i)), z] [.int (Int32.ofNat (o + i)), .ref b])) := cl.trans (by
        refine XS.iload Xl.here hexec rfl (hb hbytes d3) rfl ?_
        refine XS.iload Xl.here hexec rfl (hb hbytes d5) rfl ?_
        refine XS.icmpNo Xl.here hexec rfl (hb hbytes d7) rfl (ii_ge_f (lt32 (by omega) (by omega))) ?_
        refine XS.aloadN Xl.here hexec rfl (hb hbytes d10) rfl rfl ?_
        refine XS.iloadN Xl.here hexec rfl (hb hbytes d11) rfl ?_
        exact Steps.refl _)
      have c4 : Steps p.tables e below (s₁.setTop (entryFrame m #[.ref b, .int (Int32.ofNat o), .ref d, .int (Int32.ofNat q), .int (Int32.ofNat len)] 7)) (Tl.setTop (mkF m 13 #[.val (.ref b), .val (.int (Int32.ofNat (o + i))), .val (.ref d), .val (.int (Int32.ofNat (q + i))), .val (.int (Int32.ofNat len)), .val (.int (Int32.ofNat i)), z] [.int (cv A (o + i))])) := c3.trans (by
        refine Xl.aget hexec hAl rfl (hA.get (i := o + i) (by omega)) rfl rfl (hb hbytes d12) ?_
        exact Steps.refl _)
      have c5 : Steps p.tables e below (s₁.setTop (entryFrame m #[.ref b, .int (Int32.ofNat o), .ref d, .int (Int32.ofNat q), .int (Int32.ofNat len)] 7)) (Tl.setTop (mkF m 15 #[.val (.ref b), .val (.int (Int32.ofNat (o + i))), .val (.ref d), .val (.int (Int32.ofNat (q + i))), .val (.int (Int32.ofNat len)), .val (.int (Int32.ofNat i)), .val (.int (cv A (o + i)))] [])) := c4.trans (by
        refine XS.istoreS Xl.here hexec rfl (hb hbytes d13) rfl rfl hz ?_
        exact Steps.refl _)
      have c6 : Steps p.tables e below (s₁.setTop (entryFrame m #[.ref b, .int (Int32.ofNat o), .ref d, .int (Int32.ofNat q), .int (Int32.ofNat len)] 7)) (Tl.setTop (mkF m 31 #[.val (.ref b), .val (.int (Int32.ofNat (o + i))), .val (.ref d), .val (.int (Int32.ofNat (q + i))), .val (.int (Int32.ofNat len)), .val (.int (Int32.ofNat i)), .val (.int (cv A (o + i)))] [.int (lo8 (cv A (o + i))), .int (Int32.ofNat (q + i)), .ref d])) := c5.trans (by
        refine XS.iload Xl.here hexec rfl (hb hbytes d15) rfl ?_
        refine sipushV Xl.here hexec rfl 255 (hb hbytes d17) (by decide) ?_
        refine XS.icmpYes Xl.here hexec rfl (pc0 := 20) rfl (hb hbytes d20) rfl (ii_le_t (hp i (by omega))) (by decide) rfl ?_
        refine XS.aloadN Xl.here hexec rfl (hb hbytes d26) rfl rfl ?_
        refine XS.iloadN Xl.here hexec rfl (hb hbytes d27) rfl ?_
        refine XS.iload Xl.here hexec rfl (hb hbytes d28) rfl ?_
        refine i2b Xl.here hexec rfl (hb hbytes d30) rfl ?_
        exact Steps.refl _)
      obtain ⟨T7, X7, p7, st7⟩ := Xl.aput hexec hBk rfl hlt rfl (fits_lo8 (cv A (o + i))) (g := (mkF m 31 #[.val (.ref b), .val (.int (Int32.ofNat (o + i))), .val (.ref d), .val (.int (Int32.ofNat (q + i))), .val (.int (Int32.ofNat len)), .val (.int (Int32.ofNat i)), .val (.int (cv A (o + i)))] [.int (lo8 (cv A (o + i))), .int (Int32.ofNat (q + i)), .ref d])) rfl (rest := []) rfl (hb hbytes d31)
      have c8 : Steps p.tables e below (s₁.setTop (entryFrame m #[.ref b, .int (Int32.ofNat o), .ref d, .int (Int32.ofNat q), .int (Int32.ofNat len)] 7)) (T7.setTop (mkF m 32 #[.val (.ref b), .val (.int (Int32.ofNat (o + i))), .val (.ref d), .val (.int (Int32.ofNat (q + i))), .val (.int (Int32.ofNat len)), .val (.int (Int32.ofNat i)), .val (.int (cv A (o + i)))] [])) := c6.trans (st7 _ (Steps.refl _))
      have c9 : Steps p.tables e below (s₁.setTop (entryFrame m #[.ref b, .int (Int32.ofNat o), .ref d, .int (Int32.ofNat q), .int (Int32.ofNat len)] 7)) (T7.setTop (mkF m 3 #[.val (.ref b), .val (.int (Int32.ofNat (o + i) + 1)), .val (.ref d), .val (.int (Int32.ofNat (q + i) + 1)), .val (.int (Int32.ofNat len)), .val (.int (Int32.ofNat i + 1)), .val (.int (cv A (o + i)))] [])) := c8.trans (by
        refine iincV X7.here hexec rfl 1 (hb hbytes d32) (by decide) rfl rfl ?_
        refine iincV X7.here hexec rfl 1 (hb hbytes d35) (by decide) rfl rfl ?_
        refine iincV X7.here hexec rfl 1 (hb hbytes d38) (by decide) rfl rfl ?_
        refine XS.goto X7.here hexec rfl (pc0 := 41) rfl (hb hbytes d41) (by decide) rfl ?_
        exact Steps.refl _)
      have c10 : Steps p.tables e below (s₁.setTop (entryFrame m #[.ref b, .int (Int32.ofNat o), .ref d, .int (Int32.ofNat q), .int (Int32.ofNat len)] 7)) (T7.setTop (mkF m 3 #[.val (.ref b), .val (.int (Int32.ofNat (o + (i + 1)))), .val (.ref d), .val (.int (Int32.ofNat (q + (i + 1)))), .val (.int (Int32.ofNat len)), .val (.int (Int32.ofNat (i + 1))), .val (.int (cv A (o + i)))] [])) := by
        have := c9
        rw [succ32, succ32, succ32] at this
        exact this
      exact ih (i + 1) (by omega) _ (Or.inr ⟨_, rfl, rfl⟩) T7 _ (by rw [copyLocs_step, ← List.append_assoc]; exact X7) (pl.trans p7) (fl.step (by omega) hlt (by simp)) c10
  obtain ⟨T9, B9, z9, X9, p9, f9, g9⟩ := loop len 0 (by omega) .unset (Or.inl rfl) s₁ B (by simpa [copyLocs] using X0) ⟨hB0.1, fun _ _ => rfl, rfl⟩ (Laid.zero _ _ _) c2
  have c11 : Steps p.tables e below (s₁.setTop (entryFrame m #[.ref b, .int (Int32.ofNat o), .ref d, .int (Int32.ofNat q), .int (Int32.ofNat len)] 7)) (T9.setTop (mkF m 46 #[.val (.ref b), .val (.int (Int32.ofNat (o + len))), .val (.ref d), .val (.int (Int32.ofNat (q + len))), .val (.int (Int32.ofNat len)), .val (.int (Int32.ofNat len)), z9] [.int (Int32.ofNat len)])) := g9.trans (by
    refine XS.iload X9.here hexec rfl (hb hbytes d3) rfl ?_
    refine XS.iload X9.here hexec rfl (hb hbytes d5) rfl ?_
    refine XS.icmpYes X9.here hexec rfl (pc0 := 7) rfl (hb hbytes d7) rfl (ii_ge_t (nlt32 (by omega) (Nat.le_refl _))) (by decide) rfl ?_
    refine XS.iload X9.here hexec rfl (hb hbytes d44) rfl ?_
    exact Steps.refl _)
  exact ⟨T9, some (.int (Int32.ofNat len)), _, _, _, X9, by simp, rfl, rfl, (fun h => by cases h), ⟨rfl, B9, p9.from hh0, f9⟩, fun fs hl => c11.trans (X9.ireturnOut hexec hret rfl (Or.inl rfl) (hb hbytes d46) hl)⟩
end Cmp5
namespace Cmp3
def yN : MethodName := ⟨"java/lang/StringUTF16", "compress", "([CII)[B"⟩
abbrev yB : ByteArray := jdk_52_method_16_code
theorem d0 : decode yB 0 = .ok (.iload_n 2, 1) := by decide +kernel
theorem d1 : decode yB 1 = .ok (.newarray .byte, 2) := by decide +kernel
theorem d3 : decode yB 3 = .ok (.astore_n 3, 1) := by decide +kernel
theorem d4 : decode yB 4 = .ok (.aload_n 0, 1) := by decide +kernel
theorem d5 : decode yB 5 = .ok (.iload_n 1, 1) := by decide +kernel
theorem d6 : decode yB 6 = .ok (.aload_n 3, 1) := by decide +kernel
theorem d7 : decode yB 7 = .ok (.iconst 0, 1) := by decide +kernel
theorem d8 : decode yB 8 = .ok (.iload_n 2, 1) := by decide +kernel
theorem d9 : decode yB 9 = .ok (.invokestatic 115, 3) := by decide +kernel
theorem d12 : decode yB 12 = .ok (.istore 4, 2) := by decide +kernel
theorem d14 : decode yB 14 = .ok (.iload 4, 2) := by decide +kernel
theorem d16 : decode yB 16 = .ok (.iload_n 2, 1) := by decide +kernel
theorem d17 : decode yB 17 = .ok (.if_icmp (.eq) 40, 3) := by decide +kernel
theorem d57 : decode yB 57 = .ok (.aload_n 3, 1) := by decide +kernel
theorem d58 : decode yB 58 = .ok (.areturn, 1) := by decide +kernel
def site : List Cond := [.arrayClass .byte, Cmp5.tab] ++ staticW U16 115 Cmp5.yN
def tab : Cond := tabOf yN yB 6 (some (.array .byte)) site
def P (b : Addr) (A : Cell) (o len : Nat) (args : Array Value) (s : State) : Prop := args = #[.ref b, .int (Int32.ofNat o), .int (Int32.ofNat len)] ∧ Ch b A s ∧ o + len ≤ A.slots.size ∧ len ≤ 536870912 ∧ ∀ i, i < len → ¬ 255 < cv A (o + i)
def E (b : Addr) (A : Cell) (o len : Nat) (r : Option Value) (s u : State) : Prop := NewArr .byte "[B" len (fun j => .int (lo8 (cv A (o + j)))) r s u ∧ u.heap.size = s.heap.size + 1
/-- no char of the range above 255: a new byte[] of their low bytes -/
theorem law (l : Launch) (b : Addr) (A : Cell) (o len : Nat) : Law l yN 3 3 1 18 yB 6 (some (.array .byte)) site (P b A o len) (E b A o len) [] 1 len := by
  refine Law.of_walk (plainFor_of_name (by decide +kernel)) (by decide +kernel) (by decide +kernel) (by decide) (fun _ _ h => by rw [h.1]; rfl) (fun _ U U' hal hh h => ⟨h.1, h.2.1.mv hal hh, h.2.2⟩) (fun r U U' V V' h1 hal h2 h => ⟨NewArr.mv r U U' V V' h1 hal h2 h.1, by rw [h1, h2]; exact h.2⟩) ?_
  intro p e s m args below meth c s₁ X0 hexec hbytes hml hret hlk hnm hown hh0 W hP
  obtain ⟨rfl, hA, l1, l2, hp⟩ := hP
  have a31 := hA.1.2.2.2
  have c1 : Steps p.tables e below (s₁.setTop (entryFrame m #[.ref b, .int (Int32.ofNat o), .int (Int32.ofNat len)] 6)) (s₁.setTop (mkF m 0 #[.val (.ref b), .val (.int (Int32.ofNat o)), .val (.int (Int32.ofNat len)), .unset, .unset, .unset] [])) := entry rfl
  have c2 : Steps p.tables e below (s₁.setTop (entryFrame m #[.ref b, .int (Int32.ofNat o), .int (Int32.ofNat len)] 6)) (s₁.setTop (mkF m 1 #[.val (.ref b), .val (.int (Int32.ofNat o)), .val (.int (Int32.ofNat len)), .unset, .unset, .unset] [.int (Int32.ofNat len)])) := c1.trans (by
    refine XS.iloadN X0.here hexec rfl (hb hbytes d0) rfl ?_
    exact Steps.refl _)
  obtain ⟨T3, B3, X3, ba3, bs3, bv3, bh3, bf3, st3⟩ := X0.anew hexec (atype := .byte) (wk W (.arrayClass .byte)) rfl (by show len * 1 ≤ _; omega) (by omega) (g := (mkF m 1 #[.val (.ref b), .val (.int (Int32.ofNat o)), .val (.int (Int32.ofNat len)), .unset, .unset, .unset] [.int (Int32.ofNat len)])) rfl (hb hbytes d1) (rest := []) rfl (Nat.le_refl _) (by show 0 + len ≤ len; omega)
  rw [hh0] at ba3 st3
  have kp3 : XT.Kept s T3 := (XT.Kept.of_eq hh0).push bh3
  have hA3 := hA.keep X3.warmed.alike (kp3 _ _ hA.1.1)
  have hne : b ≠ s.heap.size := hA.1.ne
  have c4 : Steps p.tables e below (s₁.setTop (entryFrame m #[.ref b, .int (Int32.ofNat o), .int (Int32.ofNat len)] 6)) (T3.setTop (mkF m 3 #[.val (.ref b), .val (.int (Int32.ofNat o)), .val (.int (Int32.ofNat len)), .unset, .unset, .unset] [.ref s.heap.size])) := c2.trans (st3 _ (Steps.refl _))
  have c5 : Steps p.tables e below (s₁.setTop (entryFrame m #[.ref b, .int (Int32.ofNat o), .int (Int32.ofNat len)] 6)) (T3.setTop (mkF m 9 #[.val (.ref b), .val (.int (Int32.ofNat o)), .val (.int (Int32.ofNat len)), .val (.ref s.heap.size), .unset, .unset] [.int (Int32.ofNat len), .int 0, .ref s.heap.size, .int (Int32.ofNat o), .ref b])) := c4.trans (by
    refine XS.astoreN X3.here hexec rfl (hb hbytes d3) rfl rfl rfl ?_
    refine XS.aloadN X3.here hexec rfl (hb hbytes d4) rfl rfl ?_
    refine XS.iloadN X3.here hexec rfl (hb hbytes d5) rfl ?_
    refine XS.aloadN X3.here hexec rfl (hb hbytes d6) rfl rfl ?_
    refine iconstV X3.here hexec rfl 0 (hb hbytes d7) (by decide) ?_
    refine XS.iloadN X3.here hexec rfl (hb hbytes d8) rfl ?_
    exact Steps.refl _)
  obtain ⟨v6, T6, X6, E6, g6⟩ := X3.callS hexec (Cmp5.law l b A s.heap.size B3 o 0 len) hown (wks W (staticW U16 115 Cmp5.yN)) (wk W Cmp5.tab) (W := 0) (Nat.le_of_ble_eq_true rfl) (Nat.le_of_ble_eq_true rfl) (Nat.le_refl _) (by show 0 + len + 0 ≤ len; omega) (g := (mkF m 9 #[.val (.ref b), .val (.int (Int32.ofNat o)), .val (.int (Int32.ofNat len)), .val (.ref s.heap.size), .unset, .unset] [.int (Int32.ofNat len), .int (Int32.ofNat 0), .ref s.heap.size, .int (Int32.ofNat o), .ref b])) rfl (by rw [hml]; rfl) c5 (argsL := [.ref b, .int (Int32.ofNat o), .ref s.heap.size, .int (Int32.ofNat 0), .int (Int32.ofNat len)]) (rest := []) rfl rfl (by show 2 * 0 + 0 ≤ _; decide) (hb hbytes d9) (⟨rfl, hA3, ba3, hne, l1, by rw [bs3]; simp, hp⟩)
  obtain ⟨rfl, B6, p6, f6⟩ := E6
  have c7 : Steps p.tables e below (s₁.setTop (entryFrame m #[.ref b, .int (Int32.ofNat o), .int (Int32.ofNat len)] 6)) (T6.setTop (mkF m 12 #[.val (.ref b), .val (.int (Int32.ofNat o)), .val (.int (Int32.ofNat len)), .val (.ref s.heap.size), .unset, .unset] [.int (Int32.ofNat len)])) := g6
  have c8 : Steps p.tables e below (s₁.setTop (entryFrame m #[.ref b, .int (Int32.ofNat o), .int (Int32.ofNat len)] 6)) (T6.setTop (mkF m 58 #[.val (.ref b), .val (.int (Int32.ofNat o)), .val (.int (Int32.ofNat len)), .val (.ref s.heap.size), .val (.int (Int32.ofNat len)), .unset] [.ref s.heap.size])) := c7.trans (by
    refine XS.istore X6.here hexec rfl (hb hbytes d12) rfl rfl ?_
    refine XS.iload X6.here hexec rfl (hb hbytes d14) rfl ?_
    refine XS.iloadN X6.here hexec rfl (hb hbytes d16) rfl ?_
    refine XS.icmpYes X6.here hexec rfl (pc0 := 17) rfl (hb hbytes d17) rfl (ii_eq_t rfl) (by decide) rfl ?_
    refine XS.aloadN X6.here hexec rfl (hb hbytes d57) rfl rfl ?_
    exact Steps.refl _)
  have X8 := X6.wide (L' := []) (cells' := 1) (slots' := len) (fun x hx hlt => by
    simp only [List.nil_append, copyLocs, List.mem_map, List.mem_range] at hx
    obtain ⟨i, -, rfl⟩ := hx
    exact absurd hlt (Nat.lt_irrefl _)) (Nat.le_refl _) (by omega)
  exact ⟨T6, some (.ref s.heap.size), _, _, _, X8, rfl, rfl, rfl, (fun h => by cases h), ⟨⟨rfl, B6, ba3.like (X3.warmed.alike.symm.trans X6.warmed.alike) p6.1 f6.1 f6.2.1 f6.2.2.1, f6.2.1.trans bv3, by rw [X6.warmed.alike.findClass, f6.1]; exact bf3, by rw [f6.2.2.1, bs3]; simp, fun j hj => by rw [f6.2.2.2 j, if_pos (by omega)]; rfl, kp3.put p6 (Nat.le_refl _)⟩, by rw [p6.2.2, bh3, hh0]; simp⟩, fun fs hl => c8.trans (X8.areturnOut hexec rfl hret rfl (hb hbytes d58) hl)⟩
end Cmp3
namespace CodL
def yN : MethodName := ⟨"java/lang/StringUTF16", "coderFromArrayLen", "([BI)B"⟩
abbrev yB : ByteArray := jdk_52_method_15_code
theorem d0 : decode yB 0 = .ok (.iload_n 1, 1) := by decide +kernel
theorem d1 : decode yB 1 = .ok (.aload_n 0, 1) := by decide +kernel
theorem d2 : decode yB 2 = .ok (.arraylength, 1) := by decide +kernel
theorem d3 : decode yB 3 = .ok (.isub, 1) := by decide +kernel
theorem d4 : decode yB 4 = .ok (.bipush 31, 2) := by decide +kernel
theorem d6 : decode yB 6 = .ok (.iushr, 1) := by decide +kernel
theorem d7 : decode yB 7 = .ok (.i2b, 1) := by decide +kernel
theorem d8 : decode yB 8 = .ok (.ireturn, 1) := by decide +kernel
def site : List Cond := []
def tab : Cond := tabOf yN yB 2 (some .byte) site
def P (d : Addr) (B : Cell) (args : Array Value) (s : State) : Prop := args = #[.ref d, .int (Int32.ofNat B.slots.size)] ∧ Arr .byte d B s
def E (r : Option Value) (s u : State) : Prop := XT.PureE (some (.int 0)) r s u
/-- an array as long as the number of chars: LATIN1 -/
theorem law (l : Launch) (d : Addr) (B : Cell) : Law l yN 2 2 0 0 yB 2 (some .byte) site (P d B) E [] 0 0 := by
  refine Law.of_walk (plainFor_of_name (by decide +kernel)) (by decide +kernel) (by decide +kernel) (by decide) (fun _ _ h => by rw [h.1]; rfl) (fun _ U U' hal hh h => ⟨h.1, h.2.mv hal hh⟩) (fun r U U' V V' h1 hal h2 h => XT.PureE.mv r U U' V V' h1 hal h2 h) ?_
  intro p e s m args below meth c s₁ X0 hexec hbytes hml hret hlk hnm hown hh0 W hP
  obtain ⟨rfl, hB⟩ := hP
  have hB0 := hB.mv X0.warmed.alike hh0
  have c1 : Steps p.tables e below (s₁.setTop (entryFrame m #[.ref d, .int (Int32.ofNat B.slots.size)] 2)) (s₁.setTop (mkF m 0 #[.val (.ref d), .val (.int (Int32.ofNat B.slots.size))] [])) := entry rfl
  have c2 : Steps p.tables e below (s₁.setTop (entryFrame m #[.ref d, .int (Int32.ofNat B.slots.size)] 2)) (s₁.setTop (mkF m 2 #[.val (.ref d), .val (.int (Int32.ofNat B.slots.size))] [.ref d, .int (Int32.ofNat B.slots.size)])) := c1.trans (by
    refine XS.iloadN X0.here hexec rfl (hb hbytes d0) rfl ?_
    refine XS.aloadN X0.here hexec rfl (hb hbytes d1) rfl rfl ?_
    exact Steps.refl _)
  have c3 : Steps p.tables e below (s₁.setTop (entryFrame m #[.ref d, .int (Int32.ofNat B.slots.size)] 2)) (s₁.setTop (mkF m 8 #[.val (.ref d), .val (.int (Int32.ofNat B.slots.size))] [.int (lo8 (ushr (Int32.ofNat B.slots.size - Int32.ofNat B.slots.size) 31))])) := c2.trans (by
    refine X0.alen hexec hB0 rfl rfl (hb hbytes d2) ?_
    refine XS.isub X0.here hexec rfl (hb hbytes d3) rfl ?_
    refine bipushV X0.here hexec rfl 31 (hb hbytes d4) (by decide) ?_
    refine iushr X0.here hexec rfl (hb hbytes d6) rfl ?_
    refine i2b X0.here hexec rfl (hb hbytes d7) rfl ?_
    exact Steps.refl _)
  have e0 : lo8 (ushr (Int32.ofNat B.slots.size - Int32.ofNat B.slots.size) 31) = 0 := by rw [Int32.sub_self]; decide
  rw [e0] at c3
  exact ⟨s₁, some (.int 0), _, _, _, X0, rfl, rfl, rfl, (fun h => by cases h), ⟨rfl, hh0⟩, fun fs hl => c3.trans (X0.ireturnOut hexec hret rfl (Or.inr (Or.inr (Or.inl rfl))) (hb hbytes d8) hl)⟩
end CodL
/-- the String at a is Latin-1 over a new byte[] (the heap's one new cell): the low bytes of the len chars of A from o on; every cell but a is kept -/
def Got (a : Addr) (D : Cell) (fV fC : Field) (A : Cell) (o len : Nat) (r : Option Value) (s u : State) : Prop := r = none ∧ ∃ D' V : Cell, Blank "java/lang/String" a D' u ∧ Same D D' [fV.slot, fC.slot] ∧ D'.slots[fV.slot]? = some (.ref s.heap.size) ∧ D'.slots[fC.slot]? = some (.int 0) ∧ Arr .byte s.heap.size V u ∧ V.vm = .none ∧ u.vm.findClass "[B" = some V.cls ∧ V.slots.size = len ∧ (∀ j, j < len → V.slots[j]? = some (.int (lo8 (cv A (o + j))))) ∧ (∀ (y : Addr) (c : Cell), y ≠ a → s.heap[y]? = some c → u.heap[y]? = some c) ∧ u.heap.size = s.heap.size + 1
theorem Got.mv {a : Addr} {D A : Cell} {fV fC : Field} {o len : Nat} : ∀ r (U U' V V' : State), U'.heap = U.heap → V.vm.Alike V'.vm → V'.heap = V.heap → Got a D fV fC A o len r U V → Got a D fV fC A o len r U' V' :=
  fun r U U' V V' h1 hal h2 ⟨e0, D', X, a1, a2, a3, a4, a5, a6, a7, a8, a9, a10, a11⟩ => ⟨e0, D', X, a1.mv hal h2, a2, by rw [h1]; exact a3, a4, by rw [h1]; exact a5.mv hal h2, a6, by rw [hal.findClass]; exact a7, a8, a9, by rw [h1, h2]; exact a10, by rw [h1, h2]; exact a11⟩
namespace New4
def yN : MethodName := ⟨"java/lang/String", "<init>", "([CIILjava/lang/Void;)V"⟩
abbrev yB : ByteArray := jdk_42_method_149_code
theorem d0 : decode yB 0 = .ok (.aload_n 0, 1) := by decide +kernel
theorem d1 : decode yB 1 = .ok (.invokespecial 1, 3) := by decide +kernel
theorem d4 : decode yB 4 = .ok (.iload_n 3, 1) := by decide +kernel
theorem d5 : decode yB 5 = .ok (.ifCond (.ne) 22, 3) := by decide +kernel
theorem d27 : decode yB 27 = .ok (.getstatic 38, 3) := by decide +kernel
theorem d30 : decode yB 30 = .ok (.ifCond (.eq) 28, 3) := by decide +kernel
theorem d33 : decode yB 33 = .ok (.aload_n 1, 1) := by decide +kernel
theorem d34 : decode yB 34 = .ok (.iload_n 2, 1) := by decide +kernel
theorem d35 : decode yB 35 = .ok (.iload_n 3, 1) := by decide +kernel
theorem d36 : decode yB 36 = .ok (.invokestatic 177, 3) := by decide +kernel
theorem d39 : decode yB 39 = .ok (.astore 5, 2) := by decide +kernel
theorem d41 : decode yB 41 = .ok (.aload_n 0, 1) := by decide +kernel
theorem d42 : decode yB 42 = .ok (.aload 5, 2) := by decide +kernel
theorem d44 : decode yB 44 = .ok (.iload_n 3, 1) := by decide +kernel
theorem d45 : decode yB 45 = .ok (.invokestatic 47, 3) := by decide +kernel
theorem d48 : decode yB 48 = .ok (.putfield 15, 3) := by decide +kernel
theorem d51 : decode yB 51 = .ok (.aload_n 0, 1) := by decide +kernel
theorem d52 : decode yB 52 = .ok (.aload 5, 2) := by decide +kernel
theorem d54 : decode yB 54 = .ok (.putfield 9, 3) := by decide +kernel
theorem d57 : decode yB 57 = .ok (.return_, 1) := by decide +kernel
def site : List Cond := [.fieldLink "java/lang/String" 38 "java/lang/String" "COMPACT_STRINGS" "Z", Cmp3.tab, CodL.tab, .laysFinal "java/lang/String" "java/lang/String" "value" "[B", .fieldLink "java/lang/String" 9 "java/lang/String" "value" "[B", .laysFinal "java/lang/String" "java/lang/String" "coder" "B", .fieldLink "java/lang/String" 15 "java/lang/String" "coder" "B"] ++ objW "java/lang/String" 1 ++ staticW "java/lang/String" 177 Cmp3.yN ++ staticW "java/lang/String" 47 CodL.yN
def tab : Cond := tabOf yN yB 6 none site
def P (a : Addr) (D : Cell) (fV fC : Field) (b : Addr) (A : Cell) (z : Int32) (o len : Nat) (args : Array Value) (s : State) : Prop := args = #[.ref a, .ref b, .int (Int32.ofNat o), .int (Int32.ofNat len), .null] ∧ Blank "java/lang/String" a D s ∧ Found "java/lang/String" "value" "[B" fV s ∧ Found "java/lang/String" "coder" "B" fC s ∧ Ch b A s ∧ StaticIs s "java/lang/String" "COMPACT_STRINGS" "Z" (.int z) ∧ ¬ z = 0 ∧ 0 < len ∧ o + len ≤ A.slots.size ∧ len ≤ 536870912 ∧ ∀ i, i < len → ¬ 255 < cv A (o + i)
def E (a : Addr) (D : Cell) (fV fC : Field) (A : Cell) (o len : Nat) (r : Option Value) (s u : State) : Prop := Got a D fV fC A o len r s u
/-- len > 0, no char of the range above 255: a Latin-1 String of their low bytes -/
theorem law (l : Launch) (a : Addr) (D : Cell) (fV fC : Field) (b : Addr) (A : Cell) (z : Int32) (o len : Nat) : Law l yN 5 4 2 35 yB 6 none site (P a D fV fC b A z o len) (E a D fV fC A o len) [⟨a, fC.slot⟩, ⟨a, fV.slot⟩] 1 len := by
  refine Law.of_walk (plainFor_of_name (by decide +kernel)) (by decide +kernel) (by decide +kernel) (by decide) (fun _ _ h => by rw [h.1]; rfl) (fun _ U U' hal hh h => ⟨h.1, h.2.1.mv hal hh, h.2.2.1.al hal, h.2.2.2.1.al hal, h.2.2.2.2.1.mv hal hh, h.2.2.2.2.2.1.there hal hh, h.2.2.2.2.2.2⟩) (fun r U U' V V' h1 hal h2 h => Got.mv r U U' V V' h1 hal h2 h) ?_
  intro p e s m args below meth c s₁ X0 hexec hbytes hml hret hlk hnm hown hh0 W hP
  obtain ⟨rfl, hB, f1, f2, hA, s1, hz, l0, l1, l2, hp⟩ := hP
  have a31 := hA.1.2.2.2
  have c1 : Steps p.tables e below (s₁.setTop (entryFrame m #[.ref a, .ref b, .int (Int32.ofNat o), .int (Int32.ofNat len), .null] 6)) (s₁.setTop (mkF m 0 #[.val (.ref a), .val (.ref b), .val (.int (Int32.ofNat o)), .val (.int (Int32.ofNat len)), .val .null, .unset] [])) := entry rfl
  have c2 : Steps p.tables e below (s₁.setTop (entryFrame m #[.ref a, .ref b, .int (Int32.ofNat o), .int (Int32.ofNat len), .null] 6)) (s₁.setTop (mkF m 1 #[.val (.ref a), .val (.ref b), .val (.int (Int32.ofNat o)), .val (.int (Int32.ofNat len)), .val .null, .unset] [.ref a])) := c1.trans (by
    refine XS.aloadN X0.here hexec rfl (hb hbytes d0) rfl rfl ?_
    exact Steps.refl _)
  obtain ⟨T3, X3, q3, st3⟩ := X0.oinit hexec hown (wks W (objW "java/lang/String" 1)) (g := (mkF m 1 #[.val (.ref a), .val (.ref b), .val (.int (Int32.ofNat o)), .val (.int (Int32.ofNat len)), .val .null, .unset] [.ref a])) rfl (by rw [hml]; rfl) (rest := []) rfl (hb hbytes d1) (W := 0) (by show 2 * 0 + 0 ≤ _; decide) (Nat.le_of_ble_eq_true rfl) (Nat.le_of_ble_eq_true rfl)
  have hh3 := q3.trans hh0
  have c4 : Steps p.tables e below (s₁.setTop (entryFrame m #[.ref a, .ref b, .int (Int32.ofNat o), .int (Int32.ofNat len), .null] 6)) (T3.setTop (mkF m 27 #[.val (.ref a), .val (.ref b), .val (.int (Int32.ofNat o)), .val (.int (Int32.ofNat len)), .val .null, .unset] [])) := (c2.trans (st3 _ (Steps.refl _))).trans (by
    refine XS.iloadN X3.here hexec rfl (hb hbytes d4) rfl ?_
    refine XS.ifYes X3.here hexec rfl (pc0 := 5) rfl (hb hbytes d5) rfl (i0_ne_t (nz32 (by omega) l0)) (by decide) rfl ?_
    exact Steps.refl _)
  obtain ⟨T5, X5, q5, st5⟩ := X3.sget hexec hown (wk W (.fieldLink "java/lang/String" 38 "java/lang/String" "COMPACT_STRINGS" "Z")) s1 (fun _ _ h => by rw [hh3]; exact h) (g := (mkF m 27 #[.val (.ref a), .val (.ref b), .val (.int (Int32.ofNat o)), .val (.int (Int32.ofNat len)), .val .null, .unset] [])) rfl (hb hbytes d27)
  have hh5 := q5.trans hh3
  have c6 : Steps p.tables e below (s₁.setTop (entryFrame m #[.ref a, .ref b, .int (Int32.ofNat o), .int (Int32.ofNat len), .null] 6)) (T5.setTop (mkF m 30 #[.val (.ref a), .val (.ref b), .val (.int (Int32.ofNat o)), .val (.int (Int32.ofNat len)), .val .null, .unset] [.int z])) := c4.trans (st5 _ (Steps.refl _))
  have c7 : Steps p.tables e below (s₁.setTop (entryFrame m #[.ref a, .ref b, .int (Int32.ofNat o), .int (Int32.ofNat len), .null] 6)) (T5.setTop (mkF m 36 #[.val (.ref a), .val (.ref b), .val (.int (Int32.ofNat o)), .val (.int (Int32.ofNat len)), .val .null, .unset] [.int (Int32.ofNat len), .int (Int32.ofNat o), .ref b])) := c6.trans (by
    refine XS.ifNo X5.here hexec rfl (hb hbytes d30) rfl (i0_eq_f hz) ?_
    refine XS.aloadN X5.here hexec rfl (hb hbytes d33) rfl rfl ?_
    refine XS.iloadN X5.here hexec rfl (hb hbytes d34) rfl ?_
    refine XS.iloadN X5.here hexec rfl (hb hbytes d35) rfl ?_
    exact Steps.refl _)
  obtain ⟨v8, T8, X8, E8, g8⟩ := X5.callS hexec (Cmp3.law l b A o len) hown (wks W (staticW "java/lang/String" 177 Cmp3.yN)) (wk W Cmp3.tab) (W := 0) (Nat.le_of_ble_eq_true rfl) (Nat.le_of_ble_eq_true rfl) (Nat.le_refl _) (by show 0 + len ≤ len; omega) (g := (mkF m 36 #[.val (.ref a), .val (.ref b), .val (.int (Int32.ofNat o)), .val (.int (Int32.ofNat len)), .val .null, .unset] [.int (Int32.ofNat len), .int (Int32.ofNat o), .ref b])) rfl (by rw [hml]; rfl) c7 (argsL := [.ref b, .int (Int32.ofNat o), .int (Int32.ofNat len)]) (rest := []) rfl rfl (by show 2 * 0 + 0 ≤ _; decide) (hb hbytes d36) (⟨rfl, hA.mv X5.warmed.alike hh5, l1, l2, hp⟩)
  obtain ⟨e8, z8⟩ := E8
  obtain ⟨rfl, N, n1, n2, n3, n4, n5, n6⟩ := NewArr.mv _ T5 s _ _ hh5.symm (Vm.Alike.refl _) rfl e8
  rw [hh5] at z8
  have hB1 := hB.keep X8.warmed.alike (n6 _ _ hB.1)
  have hne : s.heap.size ≠ a := (Nat.ne_of_lt (Array.getElem?_eq_some_iff.mp hB.1).1).symm
  have c9 : Steps p.tables e below (s₁.setTop (entryFrame m #[.ref a, .ref b, .int (Int32.ofNat o), .int (Int32.ofNat len), .null] 6)) (T8.setTop (mkF m 39 #[.val (.ref a), .val (.ref b), .val (.int (Int32.ofNat o)), .val (.int (Int32.ofNat len)), .val .null, .unset] [.ref s.heap.size])) := g8
  have c10 : Steps p.tables e below (s₁.setTop (entryFrame m #[.ref a, .ref b, .int (Int32.ofNat o), .int (Int32.ofNat len), .null] 6)) (T8.setTop (mkF m 45 #[.val (.ref a), .val (.ref b), .val (.int (Int32.ofNat o)), .val (.int (Int32.ofNat len)), .val .null, .val (.ref s.heap.size)] [.int (Int32.ofNat N.slots.size), .ref s.heap.size, .ref a])) := by
    have hc : Steps p.tables e below (s₁.setTop (entryFrame m #[.ref a, .ref b, .int (Int32.ofNat o), .int (Int32.ofNat len), .null] 6)) (T8.setTop (mkF m 45 #[.val (.ref a), .val (.ref b), .val (.int (Int32.ofNat o)), .val (.int (Int32.ofNat len)), .val .null, .val (.ref s.heap.size)] [.int (Int32.ofNat len), .ref s.heap.size, .ref a])) := c9.trans (by
      refine XS.astore X8.here hexec rfl (hb hbytes d39) rfl rfl rfl ?_
      refine XS.aloadN X8.here hexec rfl (hb hbytes d41) rfl rfl ?_
      refine XS.aload X8.here hexec rfl (hb hbytes d42) rfl rfl ?_
      refine XS.iloadN X8.here hexec rfl (hb hbytes d44) rfl ?_
      exact Steps.refl _)
    rw [n4]; exact hc
  obtain ⟨v11, T11, X11, E11, g11⟩ := X8.callS hexec (CodL.law l s.heap.size N) hown (wks W (staticW "java/lang/String" 47 CodL.yN)) (wk W CodL.tab) (W := 1) (Nat.le_of_ble_eq_true rfl) (Nat.le_of_ble_eq_true rfl) (Nat.le_refl _) (by show 0 + len + 0 ≤ len; omega) (g := (mkF m 45 #[.val (.ref a), .val (.ref b), .val (.int (Int32.ofNat o)), .val (.int (Int32.ofNat len)), .val .null, .val (.ref s.heap.size)] [.int (Int32.ofNat N.slots.size), .ref s.heap.size, .ref a])) rfl (by rw [hml]; rfl) c10 (argsL := [.ref s.heap.size, .int (Int32.ofNat N.slots.size)]) (rest := [.ref a]) rfl rfl (by show 2 * 0 + (1 + 0) ≤ _; decide) (hb hbytes d45) (⟨rfl, n1⟩)
  obtain ⟨rfl, q11⟩ := E11
  have hB11 := hB1.mv (X8.warmed.alike.symm.trans X11.warmed.alike) q11
  have c12 : Steps p.tables e below (s₁.setTop (entryFrame m #[.ref a, .ref b, .int (Int32.ofNat o), .int (Int32.ofNat len), .null] 6)) (T11.setTop (mkF m 48 #[.val (.ref a), .val (.ref b), .val (.int (Int32.ofNat o)), .val (.int (Int32.ofNat len)), .val .null, .val (.ref s.heap.size)] [.int 0, .ref a])) := g11
  obtain ⟨T13, X13, p13, bl13, sl13, st13⟩ := X11.finit hexec hown (wk W (.fieldLink "java/lang/String" 15 "java/lang/String" "coder" "B")) (Or.inr ⟨_, (wk W (.laysFinal "java/lang/String" "java/lang/String" "coder" "B"))⟩) (Or.inl ⟨rfl, hnm⟩) f2 (Or.inl rfl) hB11 (t := .byte) (by decide +kernel) rfl (g := (mkF m 48 #[.val (.ref a), .val (.ref b), .val (.int (Int32.ofNat o)), .val (.int (Int32.ofNat len)), .val .null, .val (.ref s.heap.size)] [.int 0, .ref a])) rfl (rest := []) rfl (hb hbytes d48)
  have c14 : Steps p.tables e below (s₁.setTop (entryFrame m #[.ref a, .ref b, .int (Int32.ofNat o), .int (Int32.ofNat len), .null] 6)) (T13.setTop (mkF m 54 #[.val (.ref a), .val (.ref b), .val (.int (Int32.ofNat o)), .val (.int (Int32.ofNat len)), .val .null, .val (.ref s.heap.size)] [.ref s.heap.size, .ref a])) := (c12.trans (st13 _ (Steps.refl _))).trans (by
    refine XS.aloadN X13.here hexec rfl (hb hbytes d51) rfl rfl ?_
    refine XS.aload X13.here hexec rfl (hb hbytes d52) rfl rfl ?_
    exact Steps.refl _)
  obtain ⟨T15, X15, p15, bl15, sl15, st15⟩ := X13.finit hexec hown (wk W (.fieldLink "java/lang/String" 9 "java/lang/String" "value" "[B")) (Or.inr ⟨_, (wk W (.laysFinal "java/lang/String" "java/lang/String" "value" "[B"))⟩) (Or.inl ⟨rfl, hnm⟩) f1 (Or.inl rfl) bl13 (t := (.array .byte)) (by decide +kernel) rfl (g := (mkF m 54 #[.val (.ref a), .val (.ref b), .val (.int (Int32.ofNat o)), .val (.int (Int32.ofNat len)), .val .null, .val (.ref s.heap.size)] [.ref s.heap.size, .ref a])) rfl (rest := []) rfl (hb hbytes d54)
  have c16 : Steps p.tables e below (s₁.setTop (entryFrame m #[.ref a, .ref b, .int (Int32.ofNat o), .int (Int32.ofNat len), .null] 6)) (T15.setTop (mkF m 57 #[.val (.ref a), .val (.ref b), .val (.int (Int32.ofNat o)), .val (.int (Int32.ofNat len)), .val .null, .val (.ref s.heap.size)] [])) := c14.trans (st15 _ (Steps.refl _))
  have ap := apart (Or.inr ⟨_, (wk W (.laysFinal "java/lang/String" "java/lang/String" "value" "[B"))⟩) (Or.inr ⟨_, (wk W (.laysFinal "java/lang/String" "java/lang/String" "coder" "B"))⟩) f1 f2 (t₁ := .array .byte) (t₂ := .byte) (by decide +kernel) (by decide +kernel) (by decide)
  have al := X8.warmed.alike.symm.trans X15.warmed.alike
  have n7 : T11.heap[s.heap.size]? = some N := by rw [q11]; exact n1.1
  exact ⟨T15, none, _, _, _, X15, by simp, rfl, by omega, (fun _ => rfl), ⟨rfl, _, N, bl15, ((Same.refl D _).set _ (by simp)).set _ (by simp), sl15, (Cell.slots_setSlot_ne _ ap).trans sl13, n1.keep al (p15.other hne (p13.other hne n7)), n2, by rw [al.findClass]; exact n3, n4, n5, fun y c h1 h2 => p15.other h1 (p13.other h1 (by rw [q11]; exact n6 y c h2)), by rw [p15.2.2, p13.2.2, q11]; exact z8⟩, fun fs hl => c16.trans (X15.returnOut hexec hret (hb hbytes d57) hl)⟩
end New4
namespace New1
def yN : MethodName := ⟨"java/lang/String", "<init>", "([C)V"⟩
abbrev yB : ByteArray := jdk_42_method_3_code
theorem d0 : decode yB 0 = .ok (.aload_n 0, 1) := by decide +kernel
theorem d1 : decode yB 1 = .ok (.aload_n 1, 1) := by decide +kernel
theorem d2 : decode yB 2 = .ok (.iconst 0, 1) := by decide +kernel
theorem d3 : decode yB 3 = .ok (.aload_n 1, 1) := by decide +kernel
theorem d4 : decode yB 4 = .ok (.arraylength, 1) := by decide +kernel
theorem d5 : decode yB 5 = .ok (.aconst_null, 1) := by decide +kernel
theorem d6 : decode yB 6 = .ok (.invokespecial 27, 3) := by decide +kernel
theorem d9 : decode yB 9 = .ok (.return_, 1) := by decide +kernel
def site : List Cond := [New4.tab] ++ initW "java/lang/String" 27 New4.yN
def tab : Cond := tabOf yN yB 2 none site
def P (a : Addr) (D : Cell) (fV fC : Field) (b : Addr) (A : Cell) (z : Int32) (args : Array Value) (s : State) : Prop := args = #[.ref a, .ref b] ∧ Blank "java/lang/String" a D s ∧ Found "java/lang/String" "value" "[B" fV s ∧ Found "java/lang/String" "coder" "B" fC s ∧ Ch b A s ∧ StaticIs s "java/lang/String" "COMPACT_STRINGS" "Z" (.int z) ∧ ¬ z = 0 ∧ 0 < A.slots.size ∧ A.slots.size ≤ 536870912 ∧ ∀ i, i < A.slots.size → ¬ 255 < cv A i
def E (a : Addr) (D : Cell) (fV fC : Field) (A : Cell) (r : Option Value) (s u : State) : Prop := Got a D fV fC A 0 A.slots.size r s u
/-- new String(chars), not empty, no char above 255: a Latin-1 String of their low bytes -/
theorem law (l : Launch) (a : Addr) (D : Cell) (fV fC : Field) (b : Addr) (A : Cell) (z : Int32) : Law l yN 2 1 3 52 yB 2 none site (P a D fV fC b A z) (E a D fV fC A) [⟨a, fC.slot⟩, ⟨a, fV.slot⟩] 1 A.slots.size := by
  refine Law.of_walk (plainFor_of_name (by decide +kernel)) (by decide +kernel) (by decide +kernel) (by decide) (fun _ _ h => by rw [h.1]; rfl) (fun _ U U' hal hh h => ⟨h.1, h.2.1.mv hal hh, h.2.2.1.al hal, h.2.2.2.1.al hal, h.2.2.2.2.1.mv hal hh, h.2.2.2.2.2.1.there hal hh, h.2.2.2.2.2.2⟩) (fun r U U' V V' h1 hal h2 h => Got.mv r U U' V V' h1 hal h2 h) ?_
  intro p e s m args below meth c s₁ X0 hexec hbytes hml hret hlk hnm hown hh0 W hP
  obtain ⟨rfl, hB, f1, f2, hA, s1, hz, l0, l2, hp⟩ := hP
  have c1 : Steps p.tables e below (s₁.setTop (entryFrame m #[.ref a, .ref b] 2)) (s₁.setTop (mkF m 0 #[.val (.ref a), .val (.ref b)] [])) := entry rfl
  have c2 : Steps p.tables e below (s₁.setTop (entryFrame m #[.ref a, .ref b] 2)) (s₁.setTop (mkF m 6 #[.val (.ref a), .val (.ref b)] [.null, .int (Int32.ofNat A.slots.size), .int 0, .ref b, .ref a])) := c1.trans (by
    refine XS.aloadN X0.here hexec rfl (hb hbytes d0) rfl rfl ?_
    refine XS.aloadN X0.here hexec rfl (hb hbytes d1) rfl rfl ?_
    refine iconstV X0.here hexec rfl 0 (hb hbytes d2) (by decide) ?_
    refine XS.aloadN X0.here hexec rfl (hb hbytes d3) rfl rfl ?_
    refine X0.alen hexec (hA.1.mv X0.warmed.alike hh0) rfl rfl (hb hbytes d4) ?_
    refine XS.aconstNull X0.here hexec rfl (hb hbytes d5) ?_
    exact Steps.refl _)
  obtain ⟨v3, T3, X3, E3, g3⟩ := X0.callN hexec (New4.law l a D fV fC b A z 0 A.slots.size) rfl hown (wks W (initW "java/lang/String" 27 New4.yN)) (W New4.tab (by simp only [site, List.mem_cons, List.mem_append, true_or, or_true])) (W := 0) (Nat.le_of_ble_eq_true rfl) (Nat.le_of_ble_eq_true rfl) (Nat.le_refl _) (by show 0 + A.slots.size ≤ A.slots.size; omega) (g := (mkF m 6 #[.val (.ref a), .val (.ref b)] [.null, .int (Int32.ofNat A.slots.size), .int (Int32.ofNat 0), .ref b, .ref a])) rfl (by rw [hml]; rfl) c2 (argsL := [.ref b, .int (Int32.ofNat 0), .int (Int32.ofNat A.slots.size), .null]) (rest := []) rfl rfl (by show 2 * 0 + 0 ≤ _; decide) (hb hbytes d6) (⟨rfl, hB.mv X0.warmed.alike hh0, f1.al X0.warmed.alike, f2.al X0.warmed.alike, hA.mv X0.warmed.alike hh0, s1.there X0.warmed.alike hh0, hz, l0, by omega, l2, fun i hi => by rw [Nat.zero_add]; exact hp i hi⟩)
  have e0 := Got.mv _ s₁ s _ _ hh0.symm (Vm.Alike.refl _) rfl E3
  obtain rfl := e0.1
  have c4 : Steps p.tables e below (s₁.setTop (entryFrame m #[.ref a, .ref b] 2)) (T3.setTop (mkF m 9 #[.val (.ref a), .val (.ref b)] [])) := g3
  exact ⟨T3, none, _, _, _, X3, by simp, rfl, by omega, (fun _ => rfl), e0, fun fs hl => c4.trans (X3.returnOut hexec hret (hb hbytes d9) hl)⟩
theorem pays {l : Launch} {R : Room} {p : Program} {e : Env} {below : List Frame} {s : State} {sargs : Array Value} {len W : Nat} (a : Addr) (D : Cell) (fV fC : Field) (b : Addr) (A : Cell) (z : Int32) (htab : tab.before sargs s = true) (hfr : 4 ≤ R.frames) (hlo : W + 65 ≤ R.locals) :
    Back l R p e below s sargs yN len W (fun A₁ a₁ => A₁.cells + 1 ≤ R.cells ∧ A₁.slots + A.slots.size ≤ R.slots ∧ P a D fV fC b A z a₁ A₁.U) (fun A₁ _ v₁ B₁ => E a D fV fC A v₁ A₁.U B₁.U ∧ B₁.locs = A₁.locs ++ [⟨a, fC.slot⟩, ⟨a, fV.slot⟩] ∧ B₁.cells = A₁.cells + 1 ∧ B₁.slots = A₁.slots + A.slots.size) :=
  (law l a D fV fC b A z).pays htab hfr (by omega)
end New1
/-- the byte, read back as charAt reads it, is the char -/
theorem lo8_mask {x : Int32} (h0 : ¬ x < 0) (h1 : ¬ 255 < x) : lo8 x &&& 255 = x := by
  have t : ∀ k : Fin 256, lo8 (Int32.ofNat k.val) &&& 255 = Int32.ofNat k.val := by decide +kernel
  rw [Int32.lt_iff_toInt_lt] at h0 h1
  have e0 : (0 : Int32).toInt = 0 := rfl
  have e1 : (255 : Int32).toInt = 255 := rfl
  obtain ⟨k, hk⟩ : ∃ k : Nat, x.toInt = k := ⟨x.toInt.toNat, by omega⟩
  have hx : x = Int32.ofNat k := Int32.toInt_inj.mp (by rw [hk, Int32.toInt_ofNat_small (by omega)])
  rw [hx]
  exact t ⟨k, by omega⟩
end StrChars
namespace StrChars.Road
open Jvm Sem ClassFile Op Lib Jvm.Stand Jvm.Free Jvm.Free.XT
open Jvm.Lib.Cold (StaticIs)
abbrev ST : String := "java/lang/String"
/-- every table word that New1's law asks, flat -/
abbrev words : List Jvm.Cond := [.code New1.yN New1.yB 2 none, .initialized ST, .methodLink ST 27 New4.yN, .instanceMethod New4.yN,
  .code New4.yN New4.yB 6 none, .fieldLink ST 38 ST "COMPACT_STRINGS" "Z", .laysFinal ST ST "value" "[B", .fieldLink ST 9 ST "value" "[B", .laysFinal ST ST "coder" "B", .fieldLink ST 15 ST "coder" "B",
  .methodLink ST 1 Lib.objectInit, .instanceMethod Lib.objectInit, .code Lib.objectInit ⟨#[0xb1]⟩ 1 none, .methodLink ST 177 Cmp3.yN, .static Cmp3.yN, .methodLink ST 47 CodL.yN, .static CodL.yN,
  .code Cmp3.yN Cmp3.yB 6 (some (.array .byte)), .initialized U16, .arrayClass .byte, .methodLink U16 115 Cmp5.yN, .static Cmp5.yN, .code Cmp5.yN Cmp5.yB 7 (some .int), .code CodL.yN CodL.yB 2 (some .byte)]
theorem tab_of {a : Array Value} {s : State} (h : ∀ w ∈ words, w.before a s = true) : New1.tab.before a s = true := by
  have h5 : Cmp5.tab.before a s = true := unparts (wk h (.code Cmp5.yN Cmp5.yB 7 (some .int))) (wks h (.initialized Cmp5.yN.cls :: Cmp5.site))
  have hc : CodL.tab.before a s = true := unparts (wk h (.code CodL.yN CodL.yB 2 (some .byte))) (wks h (.initialized CodL.yN.cls :: CodL.site))
  have q5 : ∀ w ∈ Cmp5.tab :: words, w.before a s = true := fun w hw => (List.mem_cons.mp hw).elim (fun e => e ▸ h5) (h w)
  have h3 : Cmp3.tab.before a s = true := unparts (wk q5 (.code Cmp3.yN Cmp3.yB 6 (some (.array .byte)))) (wks q5 (.initialized Cmp3.yN.cls :: Cmp3.site))
  have q3 : ∀ w ∈ Cmp3.tab :: CodL.tab :: words, w.before a s = true := fun w hw => (List.mem_cons.mp hw).elim (fun e => e ▸ h3) fun hw => (List.mem_cons.mp hw).elim (fun e => e ▸ hc) (h w)
  have h4 : New4.tab.before a s = true := unparts (wk q3 (.code New4.yN New4.yB 6 none)) (wks q3 (.initialized New4.yN.cls :: New4.site))
  have q4 : ∀ w ∈ New4.tab :: words, w.before a s = true := fun w hw => (List.mem_cons.mp hw).elim (fun e => e ▸ h4) (h w)
  exact unparts (wk q4 (.code New1.yN New1.yB 2 none)) (wks q4 (.initialized New1.yN.cls :: New1.site))
/-- the words ride from the start Z to the walk's own state -/
theorem moved {Z s : State} {a0 args : Array Value} (hZ : Z.Warmed39 s.vm) (hw : ∀ d ∈ words, d.before a0 Z = true) : ∀ d ∈ words, d.before args s = true := fun d hd => by
  have q := hw d hd
  have t : ∀ d ∈ words, d = .arrayClass .byte ∨ (d.onTables && d.keepsFace) = true := by decide +kernel
  rcases t d hd with rfl | t
  · exact RoadKit.mvA hZ q
  · exact RoadKit.mv hZ q t
/-- WHAT COMES BACK, over the tables of the start Z: h the heap at the call, h' behind it -/
def Q (Z : State) (x : Addr) (A : Cell) (h : Heap) (v : Option Value) (h' : Heap) (L : List Loc) : Prop := v = none ∧ (∀ y ∈ L, y.base = x) ∧ RoadKit.Keep h h' [x] ∧ h'.size = h.size + 1 ∧ RoadKit.Exa Z h' x ST ∧ RoadKit.Fld Z h' x ST "value" "[B" (.ref h.size) ∧ RoadKit.Fld Z h' x ST "coder" "B" (.int 0) ∧
  (∃ V : Cell, RoadKit.Arr Z h' h.size V .byte ∧ V.vm = .none ∧ Z.vm.findClass "[B" = some V.cls ∧ V.slots.size = A.slots.size ∧ ∀ j, j < A.slots.size → V.slots[j]? = some (.int (lo8 (cv A j)))) ∧
  ∀ (O n d : String) (w : Value), RoadKit.Fld Z h x O n d w → RoadKit.slotOf Z O n d ≠ RoadKit.slotOf Z ST "value" "[B" → RoadKit.slotOf Z O n d ≠ RoadKit.slotOf Z ST "coder" "B" → RoadKit.Fld Z h' x O n d w
/-- **new String(chars) AT A CALL, IN THE ROAD'S FORM**: for specialBack behind newO: x the fresh String, b the char[] with the cell A -/
theorem back {p : Program} {l : Launch} {e : Env} {R : Room} {s : State} {args : Array Value} {below : List Frame} {len W : Nat} {Z : State} {a0 : Array Value} {h : Heap} (hZ : Z.Warmed39 s.vm) (hw : ∀ d ∈ words, d.before a0 Z = true) {kI : Nat} (wi : (Jvm.Cond.instantiable ST kI).before a0 Z = true)
    {x b : Addr} {A : Cell} {z : Int32} {v0 c0 : Value} (E : RoadKit.Exa Z h x ST) (V : RoadKit.Fld Z h x ST "value" "[B" v0) (C : RoadKit.Fld Z h x ST "coder" "B" c0) (K : RoadKit.Arr Z h b A .char) (hty : Typed .char A) (S : RoadKit.Sta Z h ST "COMPACT_STRINGS" "Z" (.int z)) (hz : ¬ z = 0)
    (l0 : 0 < A.slots.size) (l2 : A.slots.size ≤ 536870912) (hp : ∀ i, i < A.slots.size → ¬ 255 < cv A i) (hfr : 4 ≤ R.frames) (hlo : W + 65 ≤ R.locals) :
    Back l R p e below s args New1.yN len W (fun P a => a = #[.ref x, .ref b] ∧ P.U.heap = h ∧ P.cells + 1 ≤ R.cells ∧ P.slots + A.slots.size ≤ R.slots)
      (fun P _ v B => ∃ L, Q Z x A h v B.U.heap L ∧ B.locs = P.locs ++ L ∧ B.cells = P.cells + 1 ∧ B.slots = P.slots + A.slots.size) := by
  intro m meth c P g ig mk a X hg hsize hdg hW hn hp'
  obtain ⟨rfl, rfl, r1, r2⟩ := hp'
  have al : Z.vm.Alike P.U.vm := hZ.alike.trans X.warmed.alike
  obtain ⟨D, cfV, kV, iV, fV, hD, gV, stV, knV, obV, asV, slV⟩ := id V
  obtain ⟨D', cfC, kC, iC, fC, hD', gC, stC, -, -, asC, slC⟩ := id C
  cases hD.symm.trans hD'
  obtain ⟨D2, kD, e1, e2, e3, e4, e5⟩ := id E
  cases hD.symm.trans e1
  obtain ⟨c2, k2, i1, i2, i3, -⟩ := Cond.instantiable_spec wi
  cases e2.symm.trans i1
  cases e3.symm.trans i2
  obtain ⟨kU, u1, u2⟩ := al.2.2 _ _ e3
  have hB : Blank ST x D P.U := ⟨hD, ⟨knV, fun q hq => by rw [hq] at obV; cases obV⟩, by rw [al.findClass]; exact e2, kU, u1, by rw [u2]; exact i3, by rw [u2]; exact e5 i3⟩
  have F1 : Found ST "value" "[B" fV P.U := ⟨SBG.found_only al ⟨cfV, kV, iV, gV⟩, stV⟩
  have F2 : Found ST "coder" "B" fC P.U := ⟨SBG.found_only al ⟨cfC, kC, iC, gC⟩, stC⟩
  have hA : Ch b A P.U := ⟨⟨K.1, State.isArrayOf_alike al K.2.1, K.2.2, by omega⟩, hty⟩
  have hS : StaticIs P.U ST "COMPACT_STRINGS" "Z" (.int z) := by
    obtain ⟨cfS, iS, kS, fS, st, cS, t1, t2, t3, t4, t5, t6, t7⟩ := S
    exact StaticIs.there (s := { Z with heap := P.U.heap }) ⟨cfS, iS, kS, fS, st, cS, t1, t2, t3, t4, t5, (fun q => by rw [q] at t6; cases t6), t7⟩ al rfl
  obtain ⟨v, B, X', ⟨⟨hv, E', V', q1, q2, q3, q4, q5, q6, q7, q8, q9, q10, q11⟩, hl, hc, hs⟩, st⟩ := New1.pays x D fV fC b A z (tab_of (moved hZ hw)) hfr hlo m meth c P g ig mk _ X hg hsize hdg hW hn ⟨r1, r2, rfl, hB, F1, F2, hA, hS, hz, l0, l2, hp⟩
  have al' : Z.vm.Alike B.U.vm := hZ.alike.trans X'.warmed.alike
  have hsz : E'.slots.size = D.slots.size := by
    obtain ⟨-, -, -, kB, w1, w2, w3⟩ := q1
    obtain ⟨kB', y1, y2⟩ := al'.2.2 _ _ e3
    rw [q2.2.1] at w1
    cases w1.symm.trans y1
    rw [w3, e5 i3, y2]
  refine ⟨v, B, X', ⟨_, ⟨hv, ?_, ⟨by omega, fun y cy hy hn' => q10 y cy (by simpa using hn') hy, fun y cy hy => ?_⟩, q11, ⟨E', _, q1.1, by rw [q2.2.1]; exact e2, by rw [q2.2.1]; exact e3, by rw [q2.1]; exact obV, fun _ => by rw [hsz]; exact e5 i3⟩,
    ⟨E', cfV, kV, iV, fV, q1.1, gV, stV, by rw [q2.1]; exact knV, by rw [q2.1]; exact obV, by rw [q2.2.1]; exact asV, q3⟩, ⟨E', cfC, kC, iC, fC, q1.1, gC, stC, by rw [q2.1]; exact knV, by rw [q2.1]; exact obV, by rw [q2.2.1]; exact asC, q4⟩,
    ⟨V', ⟨q5.1, State.isArrayOf_alike al'.symm q5.2.1, q5.2.2.1⟩, q6, by rw [← al'.findClass]; exact q7, q8, fun j hj => by have := q9 j hj; rwa [Nat.zero_add] at this⟩, fun O n d w F n1 n2 => ?_⟩, hl, hc, hs⟩, st⟩
  · intro y hy
    simp only [List.mem_cons, List.not_mem_nil, or_false] at hy
    rcases hy with rfl | rfl <;> rfl
  · by_cases q : y = x
    · subst q
      cases hD.symm.trans hy
      exact ⟨E', q1.1, q2.2.1, q2.1, hsz⟩
    · exact ⟨cy, q10 y cy q hy, rfl, rfl, rfl⟩
  · obtain ⟨D3, cf, k, i, f, g1, g2, g3, g4, g5, g6, g7⟩ := F
    cases hD.symm.trans g1
    simp only [RoadKit.slotOf, g2, gV, gC, Option.map_some, Option.getD_some] at n1 n2
    exact ⟨E', cf, k, i, f, q1.1, g2, g3, by rw [q2.1]; exact g4, by rw [q2.1]; exact g5, by rw [q2.2.1]; exact g6, by rw [q2.2.2 f.slot (by simp [n1, n2])]; exact g7⟩
end StrChars.Road
namespace StrChars.Road
open Jvm Sem ClassFile Op Lib Jvm.Stand Jvm.Free Jvm.Free.XT
/-- WHAT COMES BACK, the byte[] as a list of values -/
def QA (Z : State) (x : Addr) (zn : Int32) (cs : List Int32) (h : Heap) (v : Option Value) (h' : Heap) (L : List Loc) : Prop := v = none ∧ (∀ y ∈ L, y.base = x) ∧ RoadKit.Keep h h' [x] ∧ h'.size = h.size + 1 ∧ RoadKit.Exa Z h' x ST ∧ RoadKit.Fld Z h' x ST "value" "[B" (.ref h.size) ∧ RoadKit.Fld Z h' x ST "coder" "B" (.int 0) ∧
  (∃ kb, Z.vm.findClass "[B" = some kb ∧ RoadKit.Arv Z h' h.size kb .byte zn (cs.map fun c => .int (lo8 c)) (.int 0)) ∧
  ∀ (O n d : String) (w : Value), RoadKit.Fld Z h x O n d w → RoadKit.slotOf Z O n d ≠ RoadKit.slotOf Z ST "value" "[B" → RoadKit.slotOf Z O n d ≠ RoadKit.slotOf Z ST "coder" "B" → RoadKit.Fld Z h' x O n d w
/-- **new String(chars) AT A CALL, THE ARRAYS AS LISTS**: the char[] at b holds cs, not empty, no char above 255 -/
theorem backArv {p : Program} {l : Launch} {e : Env} {R : Room} {s : State} {args : Array Value} {below : List Frame} {len W : Nat} {Z : State} {a0 : Array Value} {h : Heap} (hZ : Z.Warmed39 s.vm) (hw : ∀ d ∈ words, d.before a0 Z = true) {kI : Nat} (wi : (Jvm.Cond.instantiable ST kI).before a0 Z = true)
    {x b : Addr} {k : ClassId} {zn z : Int32} {cs : List Int32} {dv v0 c0 : Value} (E : RoadKit.Exa Z h x ST) (V : RoadKit.Fld Z h x ST "value" "[B" v0) (C : RoadKit.Fld Z h x ST "coder" "B" c0) (K : RoadKit.Arv Z h b k .char zn (cs.map Value.int) dv) (S : RoadKit.Sta Z h ST "COMPACT_STRINGS" "Z" (.int z)) (hz : ¬ z = 0)
    (hlen : zn.toNatClampNeg = cs.length) (h0 : 0 < cs.length) (hbig : cs.length ≤ 536870912) (hall : ∀ c ∈ cs, ¬ 255 < c) (hfr : 4 ≤ R.frames) (hlo : W + 65 ≤ R.locals) :
    Back l R p e below s args New1.yN len W (fun P a => a = #[.ref x, .ref b] ∧ P.U.heap = h ∧ P.cells + 1 ≤ R.cells ∧ P.slots + cs.length ≤ R.slots)
      (fun P _ v B => ∃ L, QA Z x zn cs h v B.U.heap L ∧ B.locs = P.locs ++ L ∧ B.cells = P.cells + 1 ∧ B.slots = P.slots + cs.length) := by
  obtain ⟨A, K1, K2, K3, K4, K5, K6⟩ := K
  have e : A.slots.size = cs.length := K3.trans hlen
  have hat : ∀ (i : Nat) (hi : i < cs.length), A.slots[i]? = some (.int cs[i]) := fun i hi => by rw [K5 i (by omega)]; simp [List.getD_eq_getElem?_getD, hi]
  have hcv : ∀ (i : Nat) (hi : i < cs.length), cv A i = cs[i] := fun i hi => by unfold cv; rw [hat i hi]
  have hty : Typed .char A := fun i v hv => by
    have hi : i < A.slots.size := (Array.getElem?_eq_some_iff.mp hv).1
    have q := K5 i hi
    rw [hv] at q
    rw [Option.some.inj q]
    exact K6 i hi
  refine Back.mono (back hZ hw wi E V C K1 hty S hz (by omega) (by omega) (fun i hi => by rw [hcv i (by omega)]; exact hall _ (List.getElem_mem _)) hfr hlo) (fun P a hp => ⟨hp.1, hp.2.1, hp.2.2.1, by rw [e]; exact hp.2.2.2⟩) (fun P a v B hp hq => ?_)
  obtain ⟨L, ⟨q1, q2, q3, q4, q5, q6, q7, ⟨V', v1, v2, v3, v4, v5⟩, q9⟩, hl, hc, hs⟩ := hq
  refine ⟨L, ⟨q1, q2, q3, q4, q5, q6, q7, ⟨V'.cls, v3, V', v1, rfl, by rw [v4, e, hlen], K4, fun i hi => ?_, fun i hi => ?_⟩, q9⟩, hl, hc, by rw [hs, e]⟩
  · have hi' : i < cs.length := by omega
    rw [v5 i (by omega), hcv i hi']; simp [List.getD_eq_getElem?_getD, hi']
  · have hi' : i < cs.length := by omega
    simp only [List.getD_eq_getElem?_getD, List.getElem?_map, List.getElem?_eq_getElem hi', Option.map_some, Option.getD_some]
    exact fits_lo8 _
end StrChars.Road
namespace StrChars.Road
open Jvm Sem ClassFile Op Lib Jvm.Stand Jvm.Free Jvm.Free.XT
/-- WHAT COMES BACK, in the writer's own shape -/
def QV (Z : State) (x : Addr) (N : Int32) (bs : List Int32) (h : Heap) (n0 : Nat) (v : Option Value) (h' : Heap) (L : List Loc) : Prop := v = none ∧ RoadKit.Fr n0 L ∧ RoadKit.Keep h h' [x] ∧ RoadKit.Exa Z h' x ST ∧ RoadKit.Fld Z h' x ST "coder" "B" (.int 0) ∧
  ∃ (t : Addr) (kb : ClassId), n0 ≤ t ∧ h.size ≤ t ∧ ¬ t = x ∧ RoadKit.Fld Z h' x ST "value" "[B" (.ref t) ∧ RoadKit.Arv Z h' t kb .byte N (bs.map Value.int) (.int 0)
/-- **new String(chars) AT A CALL, FOR THE WRITER**: a char[] of n known ints, each 0 to 255 -/
theorem backV {p : Program} {l : Launch} {e : Env} {R : Room} {s : State} {args : Array Value} {below : List Frame} {len W : Nat} {Z : State} {a0 : Array Value} {h : Heap} (hZ : Z.Warmed39 s.vm) (hw : ∀ d ∈ words, d.before a0 Z = true) {kI : Nat} (wi : (Jvm.Cond.instantiable ST kI).before a0 Z = true)
    {x b : Addr} {kC : ClassId} {cs bs : List Int32} {d v0 c0 : Value} {z N : Int32} {n n0 : Nat} (hx0 : n0 ≤ x) (hh0 : n0 ≤ h.size) (E : RoadKit.Exa Z h x ST) (V : RoadKit.Fld Z h x ST "value" "[B" v0) (C : RoadKit.Fld Z h x ST "coder" "B" c0) (K : RoadKit.Arv Z h b kC .char N (cs.map Value.int) d) (S : RoadKit.Sta Z h ST "COMPACT_STRINGS" "Z" (.int z)) (hz : ¬ z = 0)
    (hn : cs.length = n) (hN : N = Int32.ofNat n) (l0 : 0 < n) (l2 : n ≤ 4000) (hp : ∀ c ∈ cs, ¬ c < 0 ∧ ¬ (255 : Int32) < c) (hb : bs = cs.map (fun c => c.toInt8.toInt32)) (hfr : 4 ≤ R.frames) (hlo : W + 65 ≤ R.locals) :
    Back l R p e below s args (⟨"java/lang/String", "<init>", "([C)V"⟩ : MethodName) len W (fun P a => a = #[.ref x, .ref b] ∧ P.U.heap = h ∧ P.cells + 1 ≤ R.cells ∧ P.slots + n ≤ R.slots)
      (fun P _ v B => ∃ L, QV Z x N bs h n0 v B.U.heap L ∧ B.locs = P.locs ++ L ∧ B.cells = P.cells + 1 ∧ B.slots = P.slots + n) := by
  subst hn hN hb
  refine Back.mono (backArv hZ hw wi E V C K S hz (n32 (by omega)) l0 (by omega) (fun c hc => (hp c hc).2) hfr hlo) (fun P a hp => hp) (fun P a v B hp hq => ?_)
  obtain ⟨L, ⟨q1, q2, q3, q4, q5, q6, q7, ⟨kb, v1, v2⟩, q9⟩, hl, hc, hs⟩ := hq
  exact ⟨L, ⟨q1, fun y hy => by rw [q2 y hy]; exact hx0, q3, q5, q7, h.size, kb, hh0, Nat.le_refl _, Nat.ne_of_gt E.lt, q6, by rw [List.map_map]; exact v2⟩, hl, hc, hs⟩
end StrChars.Road
namespace StrChars
open Jvm Sem ClassFile Op Lib Jvm.Stand Jvm.Free.XT Jvm.Free.ALB Jvm.Free.JM Jvm.Free
open Jvm.Lib.Cold (StaticIs)
def hi8 (x : Int32) : Int32 := lo8 (x >>> ((8 : Int32) &&& 31))
/-- what StringUTF16.getChar makes of two bytes -/
def pairCh (u v : Int32) : Int32 := (((u &&& 255) <<< ((0 : Int32) &&& 31)) ||| ((v &&& 255) <<< ((8 : Int32) &&& 31))).toUInt32.toUInt16.toUInt32.toInt32
theorem shr0 (c : Int32) : c >>> ((0 : Int32) &&& 31) = c := by
  have e : ((0 : Int32) &&& 31) = 0 := by decide
  rw [e]
  apply Int32.toBitVec_inj.mp
  rw [Int32.toBitVec_shiftRight]
  have e1 : ((0 : Int32).toBitVec.smod 32) = 0#32 := by decide
  rw [e1, BitVec.sshiftRight_eq']
  exact BitVec.sshiftRight_zero
theorem lo8_and (x : Int32) : (lo8 x &&& 255).toBitVec.toNat = x.toBitVec.toNat % 256 := by
  have h : (lo8 x).toBitVec = (x.toBitVec.signExtend 8).signExtend 32 := by rw [lo8, Int8.toBitVec_toInt32, Int32.toBitVec_toInt8]
  rw [Int32.toBitVec_and, BitVec.toNat_and, h]
  have e : ((x.toBitVec.signExtend 8).signExtend 32).toNat % 256 = x.toBitVec.toNat % 256 := by
    rw [BitVec.toNat_signExtend]
    have hlt := x.toBitVec.isLt
    simp only [BitVec.toNat_setWidth, BitVec.toNat_signExtend]
    split <;> split <;> omega
  rw [← e]
  exact Nat.and_two_pow_sub_one_eq_mod _ 8
theorem pair_says {c : Int32} (h0 : ¬ c < 0) (h1 : ¬ 65535 < c) : pairCh (lo8 c) (hi8 c) = c := by
  rw [Int32.lt_iff_toInt_lt] at h0 h1
  have e0 : (0 : Int32).toInt = 0 := rfl
  have e1 : (65535 : Int32).toInt = 65535 := rfl
  have hc : c.toInt = c.toBitVec.toNat := by
    have := c.toBitVec.isLt
    have e : c.toInt = c.toBitVec.toInt := rfl
    rw [e] at h0 h1
    rw [e]
    rw [BitVec.toInt_eq_toNat_cond] at h0 h1 ⊢
    split at h0 <;> split <;> omega
  have hn : c.toBitVec.toNat < 65536 := by omega
  have a1 := lo8_and c
  have a2 : (hi8 c &&& 255).toBitVec.toNat = c.toBitVec.toNat / 256 := by
    rw [hi8, lo8_and]
    have e : ((8 : Int32) &&& 31) = 8 := by decide
    rw [e, Int32.toBitVec_shiftRight]
    have e2 : ((8 : Int32).toBitVec.smod 32) = 8#32 := by decide
    rw [e2, BitVec.sshiftRight_eq', BitVec.toNat_sshiftRight_of_msb_false (by rw [BitVec.msb_eq_false_iff_two_mul_lt]; omega)]
    show c.toBitVec.toNat >>> 8 % 256 = _
    rw [Nat.shiftRight_eq_div_pow]
    omega
  unfold pairCh
  apply Int32.toBitVec_inj.mp
  apply BitVec.eq_of_toNat_eq
  have f0 : ((0 : Int32) &&& 31) = 0 := by decide
  have f8 : ((8 : Int32) &&& 31) = 8 := by decide
  rw [f0, f8]
  have g : (((lo8 c &&& 255) <<< (0 : Int32)) ||| ((hi8 c &&& 255) <<< (8 : Int32))).toBitVec.toNat = c.toBitVec.toNat := by
    rw [Int32.toBitVec_or, Int32.toBitVec_shiftLeft, Int32.toBitVec_shiftLeft]
    have s0 : ((0 : Int32).toBitVec.smod 32) = 0#32 := by decide
    have s8 : ((8 : Int32).toBitVec.smod 32) = 8#32 := by decide
    rw [s0, s8, BitVec.toNat_or]
    simp only [BitVec.shiftLeft_eq', BitVec.toNat_shiftLeft, a1, a2]
    show (c.toBitVec.toNat % 256) <<< 0 % 2 ^ 32 ||| (c.toBitVec.toNat / 256) <<< 8 % 2 ^ 32 = _
    rw [Nat.shiftLeft_zero, Nat.mod_eq_of_lt (show c.toBitVec.toNat % 256 < 2 ^ 32 by omega), Nat.mod_eq_of_lt (show (c.toBitVec.toNat / 256) <<< 8 < 2 ^ 32 by rw [Nat.shiftLeft_eq]; omega), Nat.or_comm, ← Nat.shiftLeft_add_eq_or_of_lt (by omega), Nat.shiftLeft_eq]
    omega
  show BitVec.toNat (((((lo8 c &&& 255) <<< (0 : Int32)) ||| ((hi8 c &&& 255) <<< (8 : Int32))).toBitVec.setWidth 16).setWidth 32) = _
  rw [BitVec.toNat_setWidth, BitVec.toNat_setWidth, g]
  omega
end StrChars
namespace StrChars
open Jvm Sem ClassFile Op Lib Jvm.Stand Jvm.Free.XT Jvm.Free.ALB Jvm.Free.JM Jvm.Free
open Jvm.Lib.Cold (StaticIs)
theorem shr1 {n : Nat} (h : 2 * n < 2 ^ 31) : Int32.ofNat (2 * n) >>> ((1 : Int32) &&& 31) = Int32.ofNat n := by
  have e : ((1 : Int32) &&& 31) = 1 := by decide
  rw [e]
  apply Int32.toBitVec_inj.mp
  rw [Int32.toBitVec_shiftRight]
  have e1 : ((1 : Int32).toBitVec.smod 32) = 1#32 := by decide
  have hm : (BitVec.ofNat 32 (2 * n)).toNat = 2 * n := by rw [BitVec.toNat_ofNat, Nat.mod_eq_of_lt (by omega)]
  rw [e1, BitVec.sshiftRight_eq']
  apply BitVec.eq_of_toNat_eq
  show ((BitVec.ofNat 32 (2 * n)).sshiftRight 1).toNat = (BitVec.ofNat 32 n).toNat
  rw [BitVec.toNat_sshiftRight_of_msb_false (by rw [BitVec.msb_eq_false_iff_two_mul_lt, hm]; omega), hm, BitVec.toNat_ofNat, Nat.shiftRight_eq_div_pow]
  omega
theorem narrow_ch {c : Int32} (h0 : ¬ c < 0) (h1 : ¬ 65535 < c) : narrow .char (.int c) = .int c := by
  have q : narrow .char (.int (pairCh (lo8 c) (hi8 c))) = .int (pairCh (lo8 c) (hi8 c)) := narrow_c _
  rwa [pair_says h0 h1] at q
/-- the array's cell V codes the n chars f 0 .. f (n - 1) by the coder cd, as the JDK does: coder 1 just where some char is above 255 -/
def Cod (cd : Int32) (n : Nat) (f : Nat → Int32) (V : Cell) : Prop := (cd = 0 ∧ V.slots.size = n ∧ ∀ j, j < n → V.slots[j]? = some (.int (lo8 (f j))) ∧ ¬ 255 < f j) ∨ (cd = 1 ∧ V.slots.size = 2 * n ∧ (∀ j, j < n → V.slots[2 * j]? = some (.int (lo8 (f j))) ∧ V.slots[2 * j + 1]? = some (.int (hi8 (f j)))) ∧ ∃ j, j < n ∧ 255 < f j)
theorem Cod.cd {cd : Int32} {n : Nat} {f : Nat → Int32} {V : Cell} (h : Cod cd n f V) : cd = 0 ∨ cd = 1 := h.imp (fun q => q.1) fun q => q.1
theorem Cod.len {cd : Int32} {n : Nat} {f : Nat → Int32} {V : Cell} (h : Cod cd n f V) (hs : V.slots.size < 2 ^ 31) : Int32.ofNat V.slots.size >>> (cd &&& 31) = Int32.ofNat n := by
  rcases h with ⟨rfl, h, -⟩ | ⟨rfl, h, -⟩
  · rw [shr0, h]
  · rw [h, shr1 (by omega)]
/-- **x is a String of the n chars f 0 .. f (n - 1)**, Latin-1 or UTF-16; its array at t has the cell V -/
def Txt (x t : Addr) (V : Cell) (cd : Int32) (n : Nat) (f : Nat → Int32) (U : State) : Prop := Exact "java/lang/String" x U ∧ Has x "java/lang/String" "value" "[B" (.ref t) U ∧ Has x "java/lang/String" "coder" "B" (.int cd) U ∧ XT.Arr .byte t V U ∧ Cod cd n f V ∧ ∀ j, j < n → ¬ f j < 0 ∧ ¬ 65535 < f j
theorem Txt.mv {x t : Addr} {V : Cell} {cd : Int32} {n : Nat} {f : Nat → Int32} {U U' : State} (h : Txt x t V cd n f U) (hal : U.vm.Alike U'.vm) (hh : U'.heap = U.heap) : Txt x t V cd n f U' := ⟨h.1.mv hal hh, h.2.1.mv hal hh, h.2.2.1.mv hal hh, h.2.2.2.1.mv hal hh, h.2.2.2.2⟩
namespace Cdr
def yN : MethodName := ⟨"java/lang/String", "coder", "()B"⟩
abbrev yB : ByteArray := jdk_42_method_152_code
theorem d0 : decode yB 0 = .ok (.getstatic 38, 3) := by decide +kernel
theorem d3 : decode yB 3 = .ok (.ifCond (.eq) 10, 3) := by decide +kernel
theorem d6 : decode yB 6 = .ok (.aload_n 0, 1) := by decide +kernel
theorem d7 : decode yB 7 = .ok (.getfield 15, 3) := by decide +kernel
theorem d10 : decode yB 10 = .ok (.goto 4, 3) := by decide +kernel
theorem d14 : decode yB 14 = .ok (.ireturn, 1) := by decide +kernel
def site : List Cond := [.fieldLink "java/lang/String" 38 "java/lang/String" "COMPACT_STRINGS" "Z", .fieldLink "java/lang/String" 15 "java/lang/String" "coder" "B"]
def tab : Cond := tabOf yN yB 1 (some .byte) site
def P (x : Addr) (cd z : Int32) (args : Array Value) (s : State) : Prop := args = #[.ref x] ∧ Has x "java/lang/String" "coder" "B" (.int cd) s ∧ (cd = 0 ∨ cd = 1) ∧ StaticIs s "java/lang/String" "COMPACT_STRINGS" "Z" (.int z) ∧ ¬ z = 0
def E (cd : Int32) (r : Option Value) (s u : State) : Prop := XT.PureE (some (.int cd)) r s u
theorem law (l : Launch) (x : Addr) (cd z : Int32) : Law l yN 1 0 0 0 yB 1 (some .byte) site (P x cd z) (E cd) [] 0 0 := by
  refine Law.of_walk (plainFor_of_name (by decide +kernel)) (by decide +kernel) (by decide +kernel) (by decide) (fun _ _ h => by rw [h.1]; rfl) (fun _ U U' hal hh h => ⟨h.1, h.2.1.mv hal hh, h.2.2.1, h.2.2.2.1.there hal hh, h.2.2.2.2⟩) (fun r U U' V V' h1 hal h2 h => XT.PureE.mv r U U' V V' h1 hal h2 h) ?_
  intro p e s m args below meth c s₁ X0 hexec hbytes hml hret hlk hnm hown hh0 W hP
  obtain ⟨rfl, hx, hc, s1, hz⟩ := hP
  have c1 : Steps p.tables e below (s₁.setTop (entryFrame m #[.ref x] 1)) (s₁.setTop (mkF m 0 #[.val (.ref x)] [])) := entry rfl
  obtain ⟨T2, X2, q2, st2⟩ := X0.sget hexec hown (wk W (.fieldLink "java/lang/String" 38 "java/lang/String" "COMPACT_STRINGS" "Z")) s1 (fun _ _ h => by rw [hh0]; exact h) (g := (mkF m 0 #[.val (.ref x)] [])) rfl (hb hbytes d0)
  have hh2 := q2.trans hh0
  have c3 : Steps p.tables e below (s₁.setTop (entryFrame m #[.ref x] 1)) (T2.setTop (mkF m 7 #[.val (.ref x)] [.ref x])) := (c1.trans (st2 _ (Steps.refl _))).trans (by
    refine XS.ifNo X2.here hexec rfl (hb hbytes d3) rfl (i0_eq_f hz) ?_
    refine XS.aloadN X2.here hexec rfl (hb hbytes d6) rfl rfl ?_
    exact Steps.refl _)
  obtain ⟨T4, X4, q4, st4⟩ := X2.hget hexec hown (wk W (.fieldLink "java/lang/String" 15 "java/lang/String" "coder" "B")) (hx.mv X2.warmed.alike hh2) (g := (mkF m 7 #[.val (.ref x)] [.ref x])) rfl (rest := []) rfl (hb hbytes d7)
  have c5 : Steps p.tables e below (s₁.setTop (entryFrame m #[.ref x] 1)) (T4.setTop (mkF m 14 #[.val (.ref x)] [.int cd])) := (c3.trans (st4 _ (Steps.refl _))).trans (by
    refine XS.goto X4.here hexec rfl (pc0 := 10) rfl (hb hbytes d10) (by decide) rfl ?_
    exact Steps.refl _)
  exact ⟨T4, some (.int cd), _, _, _, X4, rfl, rfl, rfl, (fun h => by cases h), ⟨rfl, q4.trans hh2⟩, fun fs hl => c5.trans (X4.ireturnOut hexec hret (by rcases hc with rfl | rfl <;> rfl) (Or.inr (Or.inr (Or.inl rfl))) (hb hbytes d14) hl)⟩
end Cdr
namespace Len
def yN : MethodName := ⟨"java/lang/String", "length", "()I"⟩
abbrev yB : ByteArray := jdk_42_method_54_code
theorem d0 : decode yB 0 = .ok (.aload_n 0, 1) := by decide +kernel
theorem d1 : decode yB 1 = .ok (.getfield 9, 3) := by decide +kernel
theorem d4 : decode yB 4 = .ok (.arraylength, 1) := by decide +kernel
theorem d5 : decode yB 5 = .ok (.aload_n 0, 1) := by decide +kernel
theorem d6 : decode yB 6 = .ok (.invokevirtual 335, 3) := by decide +kernel
theorem d9 : decode yB 9 = .ok (.ishr, 1) := by decide +kernel
theorem d10 : decode yB 10 = .ok (.ireturn, 1) := by decide +kernel
def site : List Cond := [.fieldLink "java/lang/String" 9 "java/lang/String" "value" "[B", Cdr.tab] ++ virtW "java/lang/String" 335 "java/lang/String" Cdr.yN Cdr.yN
def tab : Cond := tabOf yN yB 1 (some .int) site
def P (x t : Addr) (V : Cell) (cd : Int32) (n : Nat) (f : Nat → Int32) (z : Int32) (args : Array Value) (s : State) : Prop := args = #[.ref x] ∧ Txt x t V cd n f s ∧ StaticIs s "java/lang/String" "COMPACT_STRINGS" "Z" (.int z) ∧ ¬ z = 0
def E (n : Nat) (r : Option Value) (s u : State) : Prop := XT.PureE (some (.int (Int32.ofNat n))) r s u
/-- length() of a String of n chars, in either coding -/
theorem law (l : Launch) (x t : Addr) (V : Cell) (cd : Int32) (n : Nat) (f : Nat → Int32) (z : Int32) : Law l yN 1 0 1 13 yB 1 (some .int) site (P x t V cd n f z) (E n) [] 0 0 := by
  refine Law.of_walk (plainFor_of_name (by decide +kernel)) (by decide +kernel) (by decide +kernel) (by decide) (fun _ _ h => by rw [h.1]; rfl) (fun _ U U' hal hh h => ⟨h.1, h.2.1.mv hal hh, h.2.2.1.there hal hh, h.2.2.2⟩) (fun r U U' V V' h1 hal h2 h => XT.PureE.mv r U U' V V' h1 hal h2 h) ?_
  intro p e s m args below meth c s₁ X0 hexec hbytes hml hret hlk hnm hown hh0 W hP
  obtain ⟨rfl, hx, s1, hz⟩ := hP
  have v31 := hx.2.2.2.1.2.2.2
  have c1 : Steps p.tables e below (s₁.setTop (entryFrame m #[.ref x] 1)) (s₁.setTop (mkF m 1 #[.val (.ref x)] [.ref x])) := Steps.trans (entry rfl) (by
    show Steps p.tables e below (s₁.setTop (mkF m 0 #[.val (.ref x)] [])) _
    refine XS.aloadN X0.here hexec rfl (hb hbytes d0) rfl rfl ?_
    exact Steps.refl _)
  obtain ⟨T2, X2, q2, st2⟩ := X0.hget hexec hown (wk W (.fieldLink "java/lang/String" 9 "java/lang/String" "value" "[B")) (hx.mv X0.warmed.alike hh0).2.1 (g := (mkF m 1 #[.val (.ref x)] [.ref x])) rfl (rest := []) rfl (hb hbytes d1)
  have hh2 := q2.trans hh0
  have hx2 := hx.mv X2.warmed.alike hh2
  have c3 : Steps p.tables e below (s₁.setTop (entryFrame m #[.ref x] 1)) (T2.setTop (mkF m 6 #[.val (.ref x)] [.ref x, .int (Int32.ofNat V.slots.size)])) := (c1.trans (st2 _ (Steps.refl _))).trans (by
    refine X2.alen hexec hx2.2.2.2.1 rfl rfl (hb hbytes d4) ?_
    refine XS.aloadN X2.here hexec rfl (hb hbytes d5) rfl rfl ?_
    exact Steps.refl _)
  obtain ⟨v4, T4, X4, E4, g4⟩ := X2.callV hexec (Cdr.law l x cd z) hown (wks W (virtW "java/lang/String" 335 "java/lang/String" Cdr.yN Cdr.yN)) rfl (by decide) (wk W Cdr.tab) (W := 1) (Nat.le_of_ble_eq_true rfl) (Nat.le_of_ble_eq_true rfl) (Nat.le_refl _) (Nat.le_refl _) (hx2.1.fc X2.warmed.alike) hx2.1.is (g := (mkF m 6 #[.val (.ref x)] [.ref x, .int (Int32.ofNat V.slots.size)])) rfl (by rw [hml]; rfl) c3 (argsL := []) (rest := [.int (Int32.ofNat V.slots.size)]) rfl rfl (by show 2 * 0 + (1 + 0) ≤ _; decide) (hb hbytes d6) (⟨rfl, hx2.2.2.1, hx.2.2.2.2.1.cd, s1.there X2.warmed.alike hh2, hz⟩)
  obtain ⟨rfl, q4⟩ := E4
  have c5 : Steps p.tables e below (s₁.setTop (entryFrame m #[.ref x] 1)) (T4.setTop (mkF m 10 #[.val (.ref x)] [.int (Int32.ofNat V.slots.size >>> (cd &&& 31))])) := Steps.trans g4 (by
    refine ishr X4.here hexec rfl (hb hbytes d9) rfl ?_
    exact Steps.refl _)
  rw [hx.2.2.2.2.1.len v31] at c5
  exact ⟨T4, some (.int (Int32.ofNat n)), _, _, _, X4, rfl, rfl, rfl, (fun h => by cases h), ⟨rfl, q4.trans hh2⟩, fun fs hl => c5.trans (X4.ireturnOut hexec hret rfl (Or.inl rfl) (hb hbytes d10) hl)⟩
theorem pays {l : Launch} {R : Room} {p : Program} {e : Env} {below : List Frame} {s : State} {sargs : Array Value} {len W : Nat} (x t : Addr) (V : Cell) (cd : Int32) (n : Nat) (f : Nat → Int32) (z : Int32) (htab : tab.before sargs s = true) (hfr : 2 ≤ R.frames) (hlo : W + 25 ≤ R.locals) :
    Back l R p e below s sargs yN len W (fun A₁ a₁ => A₁.cells + 0 ≤ R.cells ∧ A₁.slots + 0 ≤ R.slots ∧ P x t V cd n f z a₁ A₁.U) (fun A₁ _ v₁ B₁ => E n v₁ A₁.U B₁.U ∧ B₁.locs = A₁.locs ++ [] ∧ B₁.cells = A₁.cells + 0 ∧ B₁.slots = A₁.slots + 0) :=
  (law l x t V cd n f z).pays htab hfr (by omega)
end Len
end StrChars
namespace StrChars.Road
open Jvm Sem ClassFile Op Lib Jvm.Stand Jvm.Free Jvm.Free.XT
open Jvm.Lib.Cold (StaticIs)
theorem consq {a : Array Value} {s : State} {c : Jvm.Cond} {L : List Jvm.Cond} (h0 : c.before a s = true) (h : ∀ w ∈ L, w.before a s = true) : ∀ w ∈ c :: L, w.before a s = true := fun w hw => (List.mem_cons.mp hw).elim (fun e => e ▸ h0) (h w)
/-- the words of String.length(), either coding -/
abbrev wordsLen : List Jvm.Cond := [.code Len.yN Len.yB 1 (some .int), .initialized ST, .fieldLink ST 9 ST "value" "[B", .fieldLink ST 38 ST "COMPACT_STRINGS" "Z", .fieldLink ST 15 ST "coder" "B", .code Cdr.yN Cdr.yB 1 (some .byte), .methodLink ST 335 Cdr.yN, .declares Cdr.yN, .selects ST Cdr.yN Cdr.yN, .instanceMethod Cdr.yN]
theorem tabLen_of {a : Array Value} {s : State} (h : ∀ w ∈ wordsLen, w.before a s = true) : Len.tab.before a s = true := by
  have hc : Cdr.tab.before a s = true := unparts (wk h (.code Cdr.yN Cdr.yB 1 (some .byte))) (wks h (.initialized Cdr.yN.cls :: Cdr.site))
  have q := consq hc h
  exact unparts (wk q (.code Len.yN Len.yB 1 (some .int))) (wks q (.initialized Len.yN.cls :: Len.site))
theorem movedLen {Z s : State} {a0 args : Array Value} (hZ : Z.Warmed39 s.vm) (hw : ∀ d ∈ wordsLen, d.before a0 Z = true) : ∀ d ∈ wordsLen, d.before args s = true := fun d hd => by
  have q := hw d hd
  have t : ∀ d ∈ wordsLen, d = .arrayClass .byte ∨ (d.onTables && d.keepsFace) = true := by decide +kernel
  rcases t d hd with rfl | t
  · exact RoadKit.mvA hZ q
  · exact RoadKit.mv hZ q t
/-- the bytes of the chars cs, low before high -/
def wideBytes : List Int32 → List Value
  | [] => []
  | c :: cs => .int (lo8 c) :: .int (hi8 c) :: wideBytes cs
theorem wide_lo (d : Value) : ∀ (cs : List Int32) (j : Nat), j < cs.length → (wideBytes cs).getD (2 * j) d = .int (lo8 (cs.getD j 0))
  | [], j, h => absurd h (Nat.not_lt_zero j)
  | c :: cs, 0, _ => rfl
  | c :: cs, j + 1, h => by
    have q := wide_lo d cs j (by simpa using h)
    rw [show 2 * (j + 1) = 2 * j + 1 + 1 from by omega]
    simpa [wideBytes] using q
theorem wide_hi (d : Value) : ∀ (cs : List Int32) (j : Nat), j < cs.length → (wideBytes cs).getD (2 * j + 1) d = .int (hi8 (cs.getD j 0))
  | [], j, h => absurd h (Nat.not_lt_zero j)
  | c :: cs, 0, _ => rfl
  | c :: cs, j + 1, h => by
    have q := wide_hi d cs j (by simpa using h)
    rw [show 2 * (j + 1) + 1 = 2 * j + 1 + 1 + 1 from by omega]
    simpa [wideBytes] using q
theorem low_at (d : Value) (cs : List Int32) (j : Nat) (h : j < cs.length) : (cs.map fun c => Value.int (lo8 c)).getD j d = .int (lo8 (cs.getD j 0)) := by
  simp [List.getD_eq_getElem?_getD, h]
/-- an array of N2 bytes vs codes the chars cs by the coder cd -/
def CodA (cs : List Int32) (cd N2 : Int32) (vs : List Value) : Prop := (cd = 0 ∧ N2 = Int32.ofNat cs.length ∧ vs = (cs.map fun c => Value.int (lo8 c)) ∧ ∀ c ∈ cs, ¬ 255 < c) ∨ (cd = 1 ∧ N2 = Int32.ofNat (2 * cs.length) ∧ vs = wideBytes cs ∧ ∃ c ∈ cs, 255 < c)
theorem CodA.cod {cs : List Int32} {cd N2 : Int32} {vs : List Value} {V : Cell} (h : CodA cs cd N2 vs) (hn : 2 * cs.length < 2 ^ 31) (hs : V.slots.size = N2.toNatClampNeg) (hv : RoadKit.Has V vs (.int 0)) : Cod cd cs.length (fun j => cs.getD j 0) V := by
  rcases h with ⟨rfl, rfl, rfl, h⟩ | ⟨rfl, rfl, rfl, c, hc, hw⟩
  · rw [n32 (by omega)] at hs
    exact Or.inl ⟨rfl, hs, fun j hj => ⟨by rw [hv j (by omega), low_at _ _ _ hj], by
      have e : cs.getD j 0 = cs[j] := by simp [List.getD_eq_getElem?_getD, hj]
      show ¬ 255 < cs.getD j 0
      rw [e]; exact h _ (List.getElem_mem _)⟩⟩
  · rw [n32 (by omega)] at hs
    obtain ⟨j, hj, rfl⟩ := List.getElem_of_mem hc
    exact Or.inr ⟨rfl, hs, fun j hj => ⟨by rw [hv _ (by omega), wide_lo _ _ _ hj], by rw [hv _ (by omega), wide_hi _ _ _ hj]⟩, j, hj, by
      have e : cs.getD j 0 = cs[j] := by simp [List.getD_eq_getElem?_getD, hj]
      show 255 < cs.getD j 0
      rw [e]; exact hw⟩
/-- an object of exactly java/lang/String, its two fields found: as the laws ask it -/
theorem strObj {Z U : State} {a0 : Array Value} {kI : Nat} (wi : (Jvm.Cond.instantiable ST kI).before a0 Z = true) (al : Z.vm.Alike U.vm) {x : Addr} {v0 c0 : Value} (E : RoadKit.Exa Z U.heap x ST) (V : RoadKit.Fld Z U.heap x ST "value" "[B" v0) (C : RoadKit.Fld Z U.heap x ST "coder" "B" c0) :
    ∃ (D : Cell) (fV fC : Field), Blank ST x D U ∧ Found ST "value" "[B" fV U ∧ Found ST "coder" "B" fC U ∧ D.slots[fV.slot]? = some v0 ∧ D.slots[fC.slot]? = some c0 ∧ RoadKit.slotOf Z ST "value" "[B" = fV.slot ∧ RoadKit.slotOf Z ST "coder" "B" = fC.slot := by
  obtain ⟨D, cfV, kV, iV, fV, hD, gV, stV, knV, obV, asV, slV⟩ := V
  obtain ⟨D', cfC, kC, iC, fC, hD', gC, stC, -, -, asC, slC⟩ := C
  cases hD.symm.trans hD'
  obtain ⟨D2, kD, e1, e2, e3, e4, e5⟩ := E
  cases hD.symm.trans e1
  obtain ⟨c2, k2, i1, i2, i3, -⟩ := Cond.instantiable_spec wi
  cases e2.symm.trans i1
  cases e3.symm.trans i2
  obtain ⟨kU, u1, u2⟩ := al.2.2 _ _ e3
  exact ⟨D, fV, fC, ⟨hD, ⟨knV, fun q hq => by rw [hq] at obV; cases obV⟩, by rw [al.findClass]; exact e2, kU, u1, by rw [u2]; exact i3, by rw [u2]; exact e5 i3⟩, ⟨SBG.found_only al ⟨cfV, kV, iV, gV⟩, stV⟩, ⟨SBG.found_only al ⟨cfC, kC, iC, gC⟩, stC⟩, slV, slC, by simp [RoadKit.slotOf, gV], by simp [RoadKit.slotOf, gC]⟩
theorem sta_is {Z U : State} (al : Z.vm.Alike U.vm) {C n d : String} {v : Value} (S : RoadKit.Sta Z U.heap C n d v) : StaticIs U C n d v := by
  obtain ⟨cfS, iS, kS, fS, st, cS, t1, t2, t3, t4, t5, t6, t7⟩ := S
  exact StaticIs.there (s := { Z with heap := U.heap }) ⟨cfS, iS, kS, fS, st, cS, t1, t2, t3, t4, t5, (fun q => by rw [q] at t6; cases t6), t7⟩ al rfl
/-- **length() OF SUCH A STRING** -/
theorem lenW {p : Program} {l : Launch} {e : Env} {R : Room} {s : State} {args : Array Value} {below : List Frame} {len W : Nat} {Z : State} {a0 : Array Value} {h : Heap} (hZ : Z.Warmed39 s.vm) (hw : ∀ d ∈ wordsLen, d.before a0 Z = true) {kI : Nat} (wi : (Jvm.Cond.instantiable ST kI).before a0 Z = true)
    {x t : Addr} {kb : ClassId} {cs : List Int32} {cd N2 z : Int32} {vs : List Value} (E : RoadKit.Exa Z h x ST) (V : RoadKit.Fld Z h x ST "value" "[B" (.ref t)) (C : RoadKit.Fld Z h x ST "coder" "B" (.int cd)) (K : RoadKit.Arv Z h t kb .byte N2 vs (.int 0)) (hc : CodA cs cd N2 vs) (hb : ∀ c ∈ cs, ¬ c < 0 ∧ ¬ (65535 : Int32) < c)
    (S : RoadKit.Sta Z h ST "COMPACT_STRINGS" "Z" (.int z)) (hz : ¬ z = 0) (l2 : cs.length ≤ 4000) (hfr : 2 ≤ R.frames) (hlo : W + 25 ≤ R.locals) :
    Back l R p e below s args (⟨"java/lang/String", "length", "()I"⟩ : MethodName) len W (fun P a => a = #[.ref x] ∧ P.U.heap = h ∧ P.cells + 0 ≤ R.cells ∧ P.slots + 0 ≤ R.slots)
      (fun P _ v B => ∃ L, (v = some (.int (Int32.ofNat cs.length)) ∧ L = [] ∧ B.U.heap = h) ∧ B.locs = P.locs ++ L ∧ B.cells = P.cells + 0 ∧ B.slots = P.slots + 0) := by
  obtain ⟨A, K1, K2, K3, K4, K5, K6⟩ := K
  have hcod := hc.cod (by omega) K3 K5
  intro m meth c P g ig mk a X hg hsize hdg hW hn hp'
  obtain ⟨rfl, rfl, r1, r2⟩ := hp'
  have al : Z.vm.Alike P.U.vm := hZ.alike.trans X.warmed.alike
  obtain ⟨D, fV, fC, hB, F1, F2, g1, g2, -, -⟩ := strObj wi al E V C
  have hx : Txt x t A cd cs.length (fun j => cs.getD j 0) P.U := ⟨⟨_, hB.2.2.1, D, hB.1, rfl, by cases q : D.vm <;> first | rfl | exact absurd q (hB.2.1.2 _)⟩, Has.of hB F1 g1, Has.of hB F2 g2, ⟨K1.1, State.isArrayOf_alike al K1.2.1, K1.2.2, by rcases hcod with ⟨-, q, -⟩ | ⟨-, q, -⟩ <;> omega⟩, hcod, fun j hj => by
    have e : cs.getD j 0 = cs[j] := by simp [List.getD_eq_getElem?_getD, hj]
    show ¬ cs.getD j 0 < 0 ∧ ¬ 65535 < cs.getD j 0
    rw [e]; exact hb _ (List.getElem_mem _)⟩
  obtain ⟨v, B, X', ⟨⟨hv, hh⟩, hl, hk, hs⟩, st⟩ := Len.pays x t A cd cs.length (fun j => cs.getD j 0) z (tabLen_of (movedLen hZ hw)) hfr hlo m meth c P g ig mk _ X hg hsize hdg hW hn ⟨r1, r2, rfl, hx, sta_is al S, hz⟩
  exact ⟨v, B, X', ⟨[], ⟨hv, rfl, hh⟩, hl, hk, hs⟩, st⟩
end StrChars.Road
namespace StrChars.Road
open Jvm Sem ClassFile Op Lib Jvm.Stand Jvm.Free Jvm.Free.XT
open Jvm.Lib.Cold (StaticIs)
/-- what backV says of its String, as the contracts of this text ask it: cs's low bytes, coder 0 -/
theorem codOf {cs : List Int32} {n : Nat} (hn : cs.length = n) (hb : ∀ c ∈ cs, ¬ 255 < c) : CodA cs 0 (Int32.ofNat n) ((cs.map lo8).map Value.int) := Or.inl ⟨rfl, by rw [hn], by simp [List.map_map, Function.comp_def], hb⟩
end StrChars.Road
end Jvm.Pilot.@@N@@
namespace Jvm.Pilot.@@N@@
open Jvm Jvm.ClassFile Sem Op Lib Jvm.Free Jvm.Stand Jvm.LawKit Jvm.RoadKit Bundle Jvm.Pilot.@@N@@.Jvm.D
def own_Go (p : Program) (e : Env) (below : List Frame) (A : State) (G : Outcome → State → Prop) : Prop := ∃ s₂ o, Steps p.tables e below A s₂ ∧ s₂.status = .running ∧ Ended s₂ below o ∧ G o s₂
theorem own_go {p : Program} {e : Env} {below : List Frame} {A B : State} {G : Outcome → State → Prop} (st : ∀ t, Steps p.tables e below B t → Steps p.tables e below A t) (k : own_Go p e below B G) : own_Go p e below A G := by
  obtain ⟨t, o, h1, h2⟩ := k
  exact ⟨t, o, st t h1, h2⟩
theorem own_gos {p : Program} {e : Env} {below : List Frame} {A B : State} {G : Outcome → State → Prop} (st : Steps p.tables e below A B) (k : own_Go p e below B G) : own_Go p e below A G := by
  obtain ⟨t, o, h1, h2⟩ := k
  exact ⟨t, o, st.trans h1, h2⟩
theorem own_fin {p : Program} {l : Launch} {e : Env} {R : Room} {s : State} {m : MethodId} {args : Array Value} {below : List Frame} {meth : Method} {c : Code} {T : State} {locs : List Loc} {cells slots : Nat} (X : Stand p l e R s m args below meth c T locs cells slots) {v : Option Value} (hv : meth.sig.returnType = none → v = none) (hl : meth.locks = false) {A : State}
    (ret : ∀ fs : List Frame, (∀ (f : JFrame) (acts : List Action), f.method = m → f.locked = none → f.entered = [] → (doReturn e (T.setTop f) acts v).1 = T.setFrames fs) → Steps p.tables e below A (T.setFrames fs)) {QQ : Option Value → Heap → List Loc → Prop} (hQ : QQ v T.heap locs) {C S : Nat} (hc : cells ≤ C) (hs : slots ≤ S) :
    own_Go p e below A (fun o U' => ∃ v L, o = .returned v ∧ QQ v U'.heap L ∧ FrameEnd s o U' L C S) := by
  obtain ⟨fs, hr, hrun, hended, hW, hsame⟩ := X.leave hv hl
  exact ⟨_, _, ret fs hr, hrun, hended, v, locs, rfl, hQ, ⟨_, rfl⟩, hW, hsame.mono hc hs⟩
theorem own_finW {p : Program} {l : Launch} {e : Env} {R : Room} {s : State} {vm1 : Vm} {m : MethodId} {args : Array Value} {below : List Frame} {meth : Method} {c : Code} {T : State} {locs : List Loc} {cells slots : Nat} (X : Stand p l e R (s.setVm vm1) m args below meth c T locs cells slots) {h0 h : Heap} (hh : s.heap = h0) {Z : State} {a0 : Array Value} (hZ : Z.Warmed39 (s.setVm vm1).vm) {n : Nat} (hS : s.Since vm1 n) (hn : n ≤ T.heap.size) {v : Option Value} (hv : meth.sig.returnType = none → v = none) (hl : meth.locks = false) {A : State}
    (ret : ∀ fs : List Frame, (∀ (f : JFrame) (acts : List Action), f.method = m → f.locked = none → f.entered = [] → (doReturn e (T.setTop f) acts v).1 = T.setFrames fs) → Steps p.tables e below A (T.setFrames fs)) {QQ : Option Value → Heap → List Loc → Prop} (hQ : QQ v T.heap locs) {EL : List (String × Nat)} (hEL : EW Z a0 EL) (eT : T.heap = h) (C : CHr Z EL s.vm h0 vm1 h) {CC SS : Nat} (hc : cells ≤ CC) (hs : slots ≤ SS) :
    own_Go p e below A (fun o U' => ∃ v L, o = .returned v ∧ QQ v U'.heap L ∧ CHr Z EL s.vm s.heap U'.vm U'.heap ∧ ReturnedEndW s o U' L CC SS) := by
  obtain ⟨fs, hr, hrun, hended, hE⟩ := X.leaveW hS hn hv hl
  have hC := C.trans (CHv.at X hZ hEL C.1)
  subst hh eT
  exact ⟨_, _, ret fs hr, hrun, hended, v, locs, rfl, hQ, hC, hE.1, hE.2.1, hE.2.2.1, hE.2.2.2.mono hc hs⟩
def own_EL : List (String × Nat) := [("java/lang/String", 7)]
theorem own_wSt {Z : State} {a0 : Array Value} (hw : ∀ d ∈ tables_1, d.before a0 Z = true) : ∀ a ∈ Bundle.stringAtoms, a.before a0 Z = true := fun d hd => hw d ((by decide +kernel : ∀ d ∈ Bundle.stringAtoms, d ∈ tables_1) d hd)
theorem own_hELt {Z : State} {a0 : Array Value} (hw : ∀ d ∈ tables_1, d.before a0 Z = true) : EW Z a0 own_EL := (EW.cons (hw _ (List.mem_of_getElem? (i := 127) rfl)) (by decide) EW.nil)
theorem own_and255 (x : Int32) : ¬ nar .char ((x &&& (255 : Int32)).toUInt32.toUInt16.toUInt32.toInt32) < 0 ∧ ¬ (255 : Int32) < nar .char ((x &&& (255 : Int32)).toUInt32.toUInt16.toUInt32.toInt32) := by
  have t : ∀ k : Fin 256, ¬ nar .char ((Int32.ofNat k.val).toUInt32.toUInt16.toUInt32.toInt32) < 0 ∧ ¬ (255 : Int32) < nar .char ((Int32.ofNat k.val).toUInt32.toUInt16.toUInt32.toInt32) := by decide +kernel
  have h : (x &&& 255).toBitVec.toNat < 256 := by
    simp only [Int32.toBitVec_and, BitVec.toNat_and]
    exact Nat.lt_succ_of_le Nat.and_le_right
  have e : (x &&& 255) = Int32.ofNat (x &&& 255).toBitVec.toNat := by
    apply Int32.toBitVec_inj.mp
    show _ = BitVec.ofNat 32 _
    rw [BitVec.ofNat_toNat]; simp
  rw [e]
  exact t ⟨_, h⟩
theorem own_up (cs : List Int32) (h : ∀ c ∈ cs, ¬ c < 0 ∧ ¬ (255 : Int32) < c) : ∀ c ∈ cs, ¬ c < 0 ∧ ¬ (65535 : Int32) < c := fun c hc => ⟨(h c hc).1, fun q => (h c hc).2 (by rw [Int32.lt_iff_toInt_lt] at q ⊢; have e1 : (65535 : Int32).toInt = 65535 := rfl; have e2 : (255 : Int32).toInt = 255 := rfl; omega)⟩
theorem own_safeNull {Z : State} {EL : List (String × Nat)} {vm : Vm} {h : Heap} {x : Addr} (hal : Z.vm.Alike vm) (E : Exa Z h x "java/lang/String") (F : Fld Z h x "java/lang/String" "value" "[B" .null) : Safe Z EL vm h x := fun B => by
  obtain ⟨cell, k, e1, e2, e3, -, -⟩ := E
  obtain ⟨cell', cf, kf, i, f, f1, f2, -, -, -, -, f7⟩ := F
  cases e1.symm.trans f1
  obtain ⟨p, -, u, a, -, q, -, G, rfl | rfl⟩ := B
  · cases (show h[q.sa]? = some q.sC from G.ha).symm.trans e1
    obtain ⟨cS, ⟨⟨s1, s2, s3, ⟨cv, kv, iv, s4, s4'⟩, -, s6, s7, s8, -⟩, -⟩, -⟩ := G
    obtain ⟨k', hf'⟩ := ff_back (U := Wst Z vm h) hal s4
    cases f2.symm.trans hf'
    rw [f7] at s8
    cases s8
  · cases (show h[q.sd]? = some q.SA from G.hd).symm.trans e1
    obtain ⟨cS, -, -, hB, -⟩ := G
    have hB : vm.findClass "[B" = some q.SA.cls := hB
    rw [hal.findClass] at hB
    obtain ⟨k1, q1, q2⟩ := Vm.findClass_spec hB
    obtain ⟨k2, q3, q4⟩ := Vm.findClass_spec e2
    cases q1.symm.trans q3
    exact absurd (q2.symm.trans q4) (by decide)
theorem own_catR {v : Value} (h : v.isRef = true) : v.category = 1 := by cases v <;> first | rfl | cases h
def QPure (r : Option Value) (h0 : Heap) (n0 : Nat) (v : Option Value) (h : Heap) (L : List Loc) : Prop := v = r ∧ Fr n0 L ∧ h = h0
theorem own_selP {Z s : State} {a0 args : Array Value} {y : MethodName} {n : Nat} (hZ : Z.Warmed39 s.vm) (wi : (Cond.instantiable y.cls n).before a0 Z = true) (wp : (Cond.privateMethod y).before a0 Z = true) (wm : (Cond.instanceMethod y).before a0 Z = true) (hy : y.cls ≠ "java/lang/invoke/MethodHandle" ∧ y.cls ≠ "java/lang/invoke/VarHandle") : (Cond.selects y.cls y y).before args s = true := by
  have wi' : (Cond.instantiable y.cls n).before args s = true := mvT hZ wi
  have wm' : (Cond.instanceMethod y).before args s = true := mvT hZ wm
  obtain ⟨c, k, h1, h2, h3, h4⟩ := Cond.instantiable_spec wi'
  refine Jvm.Stand.selects_self_of_private h1 h2 ?_ (Cond.privateMethod_at (mvP hZ wp (args := args))) wm' hy
  have h5 := h4.1
  cases hi : k.isInterface <;> simp_all
theorem own_ti {i : Nat} (h : i < 2147483648) : (Int32.ofNat i).toInt = (i : Int) := Int32.toInt_ofNat_of_lt (by omega)
theorem own_tn {i : Nat} (h : i < 2147483648) : (Int32.ofNat i).toNatClampNeg = i := by
  show (Int32.ofNat i).toInt.toNat = i
  rw [own_ti h]; rfl
theorem own_nn0 {i : Nat} (h : i < 2147483648) : ¬ Int32.ofNat i < (0 : Int32) := by
  rw [Int32.lt_iff_toInt_lt, own_ti h]
  show ¬ (i : Int) < 0
  omega
theorem own_lti {i j : Nat} (hi : i < 2147483648) (hj : j < 2147483648) : Int32.ofNat i < Int32.ofNat j ↔ i < j := by
  rw [Int32.lt_iff_toInt_lt, own_ti hi, own_ti hj]; omega
theorem own_inc (i : Nat) : Int32.ofNat i + (1 : Int32) = Int32.ofNat (i + 1) := (Int32.ofNat_add i 1).symm
theorem own_inb {i j : Nat} (hi : i < j) (hj : j < 2147483648) : ¬ Int32.ofNat i < (0 : Int32) ∧ Int32.ofNat i < Int32.ofNat j := ⟨own_nn0 (by omega), (own_lti (by omega) hj).mpr hi⟩
theorem own_shl1 {n : Nat} (h : n ≤ 4000) : Int32.ofNat n <<< ((1 : Int32) &&& 31) = Int32.ofNat (2 * n) := by
  apply Int32.toBitVec_inj.mp
  show (BitVec.ofNat 32 n) <<< ((((1 : Int32) &&& 31).toBitVec).smod 32#32) = BitVec.ofNat 32 (2 * n)
  have e : (((1 : Int32) &&& 31).toBitVec).smod 32#32 = 1#32 := by decide
  rw [e]
  apply BitVec.eq_of_toNat_eq
  rw [BitVec.shiftLeft_eq', BitVec.toNat_shiftLeft, BitVec.toNat_ofNat, BitVec.toNat_ofNat, Nat.shiftLeft_eq]
  show n % 4294967296 * 2 % 4294967296 = 2 * n % 4294967296
  omega
theorem own_nb (x : Int32) : nar .byte (x.toInt8.toInt32) = x.toInt8.toInt32 := by simp [nar]
theorem own_nc {c : Int32} (h0 : ¬ c < 0) (h1 : ¬ (65535 : Int32) < c) : nar .char c = c := by
  have h := StrChars.narrow_ch h0 h1
  exact Value.int.inj h
def own_lat (cs : List Int32) : List Value := cs.map fun c => Value.int (StrChars.lo8 c)
def own_part (cs : List Int32) (i : Nat) : List Value := own_lat (cs.take i) ++ List.replicate (cs.length - i) (Value.int (0 : Int32))
def own_wpart (cs : List Int32) (i : Nat) : List Value := StrChars.Road.wideBytes (cs.take i) ++ List.replicate (2 * (cs.length - i)) (Value.int (0 : Int32))
theorem own_gd {cs : List Int32} {i n : Nat} {d : Value} (hn : cs.length = n) (hi : i < n) (h : n < 2147483648) : (cs.map Value.int).getD (Int32.ofNat i).toNatClampNeg d = Value.int (cs.getD i 0) := by
  rw [own_tn (by omega)]
  simp [List.getD_eq_getElem?_getD, hn, hi]
theorem own_set1 {cs : List Int32} {i : Nat} (hi : i < cs.length) : (own_part cs i).set i (Value.int (StrChars.lo8 (cs.getD i 0))) = own_part cs (i + 1) := by
  apply List.ext_getElem?
  intro j
  simp only [own_part, own_lat, List.getElem?_set, List.getElem?_append, List.length_append, List.length_map, List.length_take, List.length_replicate, List.getElem?_map, List.getElem?_take, List.getElem?_replicate]
  have e : cs.getD i 0 = cs[i] := by simp [List.getD_eq_getElem?_getD, hi]
  by_cases q : i = j
  · subst q
    have h1 : i < min i cs.length + (cs.length - i) := by omega
    have h2 : i < min (i + 1) cs.length := by omega
    rw [if_pos rfl, if_pos h1, if_pos h2, if_pos (by omega), e]
    simp [hi]
  · rw [if_neg q]
    by_cases a : j < i
    · have h1 : j < min i cs.length := by omega
      have h2 : j < min (i + 1) cs.length := by omega
      rw [if_pos h1, if_pos h2, if_pos a, if_pos (by omega)]
    · have h1 : ¬ j < min i cs.length := by omega
      have h2 : ¬ j < min (i + 1) cs.length := by omega
      rw [if_neg h1, if_neg h2]
      by_cases b : j < cs.length
      · rw [if_pos (by omega), if_pos (by omega)]
      · rw [if_neg (by omega), if_neg (by omega)]
theorem own_part0 (cs : List Int32) : own_part cs 0 = List.replicate cs.length (Value.int (0 : Int32)) := by simp [own_part, own_lat]
theorem own_partn (cs : List Int32) : own_part cs cs.length = own_lat cs := by simp [own_part]
theorem own_partl {cs : List Int32} {i : Nat} (hi : i ≤ cs.length) : (own_part cs i).length = cs.length := by simp [own_part, own_lat]; omega
theorem own_wl : ∀ cs : List Int32, (StrChars.Road.wideBytes cs).length = 2 * cs.length
  | [] => rfl
  | _ :: cs => by simp [StrChars.Road.wideBytes, own_wl cs]; omega
theorem own_wa : ∀ (as bs : List Int32), StrChars.Road.wideBytes (as ++ bs) = StrChars.Road.wideBytes as ++ StrChars.Road.wideBytes bs
  | [], _ => rfl
  | a :: as, bs => by simp [StrChars.Road.wideBytes, own_wa as bs]
theorem own_set2 {cs : List Int32} {i : Nat} (hi : i < cs.length) : ((own_wpart cs i).set (2 * i) (Value.int (StrChars.lo8 (cs.getD i 0)))).set (2 * i + 1) (Value.int (StrChars.hi8 (cs.getD i 0))) = own_wpart cs (i + 1) := by
  have e : cs.take (i + 1) = cs.take i ++ [cs[i]] := by rw [List.take_succ_eq_append_getElem hi]
  have e2 : cs.getD i 0 = cs[i] := by simp [List.getD_eq_getElem?_getD, hi]
  have e3 : List.replicate (2 * (cs.length - i)) (Value.int (0 : Int32)) = Value.int 0 :: Value.int 0 :: List.replicate (2 * (cs.length - (i + 1))) (Value.int (0 : Int32)) := by
    rw [show 2 * (cs.length - i) = 2 * (cs.length - (i + 1)) + 1 + 1 by omega]; rfl
  have l : (StrChars.Road.wideBytes (cs.take i)).length = 2 * i := by rw [own_wl, List.length_take]; omega
  unfold own_wpart
  rw [e, e2, own_wa, e3, List.set_append_right _ _ (by omega), l, Nat.sub_self, List.set_cons_zero, List.set_append_right _ _ (by omega), l, show 2 * i + 1 - 2 * i = 0 + 1 by omega, List.set_cons_succ, List.set_cons_zero, List.append_assoc]
  rfl
theorem own_wpart0 (cs : List Int32) : own_wpart cs 0 = List.replicate (2 * cs.length) (Value.int (0 : Int32)) := by simp [own_wpart, StrChars.Road.wideBytes]
theorem own_wpartn (cs : List Int32) : own_wpart cs cs.length = StrChars.Road.wideBytes cs := by simp [own_wpart]
theorem own_wpartl {cs : List Int32} {i : Nat} (hi : i ≤ cs.length) : (own_wpart cs i).length = 2 * cs.length := by simp [own_wpart, own_wl]; omega
theorem own_rpl {n : Nat} : (List.replicate n (Value.int (0 : Int32))).length = n := List.length_replicate
def own_Ok (cs : List Int32) : Prop := (∀ c ∈ cs, ¬ c < 0 ∧ ¬ (65535 : Int32) < c) ∧ cs.length ≤ 4000
theorem own_Ok.at {cs : List Int32} (h : own_Ok cs) {i : Nat} (hi : i < cs.length) : ¬ cs.getD i 0 < 0 ∧ ¬ (65535 : Int32) < cs.getD i 0 := by
  have e : cs.getD i 0 = cs[i] := by simp [List.getD_eq_getElem?_getD, hi]
  rw [e]; exact h.1 _ (List.getElem_mem _)
theorem own_all {cs : List Int32} (h : ∀ j, j < cs.length → ¬ (255 : Int32) < cs.getD j 0) : ∀ c ∈ cs, ¬ (255 : Int32) < c := fun c hc => by
  obtain ⟨j, hj, rfl⟩ := List.getElem_of_mem hc
  have := h j hj
  rwa [show cs.getD j 0 = cs[j] by simp [List.getD_eq_getElem?_getD, hj]] at this
def own_cfa (n N2 : Int32) : Int32 := (((n - N2).toUInt32 >>> ((31 : Int32) &&& 31).toUInt32).toInt32).toInt8.toInt32
theorem own_cfa1 {k : Nat} (h1 : 0 < k) (h2 : k ≤ 4000) : own_cfa (Int32.ofNat k) (Int32.ofNat (2 * k)) = 1 := by
  have q : ((Int32.ofNat k - Int32.ofNat (2 * k)).toUInt32 >>> ((31 : Int32) &&& 31).toUInt32).toInt32 = 1 := by
    apply Int32.toBitVec_inj.mp
    show (BitVec.ofNat 32 k - BitVec.ofNat 32 (2 * k)) >>> ((((31 : Int32) &&& 31).toUInt32.mod 32).toBitVec) = 1#32
    have e : (((31 : Int32) &&& 31).toUInt32.mod 32).toBitVec = 31#32 := by decide
    rw [e]
    apply BitVec.eq_of_toNat_eq
    rw [BitVec.ushiftRight_eq', BitVec.toNat_ushiftRight, BitVec.toNat_sub, BitVec.toNat_ofNat, BitVec.toNat_ofNat, Nat.shiftRight_eq_div_pow]
    show (4294967296 - 2 * k % 4294967296 + k % 4294967296) % 4294967296 / 2147483648 = 1
    omega
  unfold own_cfa; rw [q]; decide
theorem own_cod {cs : List Int32} {cd N2 : Int32} {vs : List Value} (h : StrChars.Road.CodA cs cd N2 vs) (h1 : 0 < cs.length) (h2 : cs.length ≤ 4000) : own_cfa (Int32.ofNat cs.length) N2 = cd := by
  rcases h with ⟨rfl, rfl, -⟩ | ⟨rfl, rfl, -⟩
  · unfold own_cfa; rw [Int32.sub_self]; decide
  · exact own_cfa1 h1 h2
theorem own_cd01 {cs : List Int32} {cd N2 : Int32} {vs : List Value} (h : StrChars.Road.CodA cs cd N2 vs) : cd = 0 ∨ cd = 1 := h.imp (fun q => q.1) fun q => q.1
def QC5 (Z : State) (b : Addr) (kb : ClassId) (cs : List Int32) (h0 : Heap) (n0 : Nat) (v : Option Value) (h : Heap) (L : List Loc) : Prop := ∃ r : Nat, v = some (.int (Int32.ofNat r)) ∧ Fr n0 L ∧ Keep h0 h [b] ∧ ((r = cs.length ∧ (∀ c ∈ cs, ¬ (255 : Int32) < c) ∧ Arv Z h b kb .byte (Int32.ofNat cs.length) (own_lat cs) (.int (0 : Int32))) ∨ (r < cs.length ∧ (255 : Int32) < cs.getD r 0))
def QPut (Z : State) (b : Addr) (kb : ClassId) (N : Int32) (vs : List Value) (h0 : Heap) (n0 : Nat) (v : Option Value) (h : Heap) (L : List Loc) : Prop := v = none ∧ Fr n0 L ∧ Keep h0 h [b] ∧ Arv Z h b kb .byte N vs (.int (0 : Int32))
def QNew (Z : State) (N : Int32) (vs : List Value) (h0 : Heap) (n0 : Nat) (v : Option Value) (h : Heap) (L : List Loc) : Prop := ∃ (t : Addr) (k : ClassId), v = some (.ref t) ∧ Fr n0 L ∧ Keep h0 h [] ∧ h0.size ≤ t ∧ Arv Z h t k .byte N vs (.int (0 : Int32))
def QCmp (Z : State) (cs : List Int32) (h0 : Heap) (n0 : Nat) (v : Option Value) (h : Heap) (L : List Loc) : Prop := ∃ (t : Addr) (k : ClassId) (cd N2 : Int32) (vs : List Value), v = some (.ref t) ∧ Fr n0 L ∧ Keep h0 h [] ∧ h0.size ≤ t ∧ Arv Z h t k .byte N2 vs (.int (0 : Int32)) ∧ StrChars.Road.CodA cs cd N2 vs
def QSt (Z : State) (x : Addr) (cs : List Int32) (h0 : Heap) (n0 : Nat) (v : Option Value) (h : Heap) (L : List Loc) : Prop := ∃ (t : Addr) (k : ClassId) (cd N2 : Int32) (vs : List Value), v = none ∧ Fr n0 L ∧ Keep h0 h [x] ∧ Fld Z h x "java/lang/String" "value" "[B" (.ref t) ∧ Fld Z h x "java/lang/String" "coder" "B" (.int cd) ∧ Arv Z h t k .byte N2 vs (.int (0 : Int32)) ∧ StrChars.Road.CodA cs cd N2 vs
theorem own_nn (x : Int32) : 0 ≤ (x &&& (2147483647 : Int32)).toInt := by
  have e : (x &&& (2147483647 : Int32)).toInt = ((x.toBitVec &&& 2147483647#32).toNat : Int) := by
    show (x.toBitVec &&& 2147483647#32).toInt = _
    rw [BitVec.toInt_eq_toNat_of_lt]
    rw [BitVec.toNat_and]
    have := @Nat.and_le_right x.toBitVec.toNat (2147483647#32).toNat
    simp at this ⊢; omega
  rw [e]; exact Int.natCast_nonneg _
theorem own_i7 (x : Int32) : (x &&& (2147483647 : Int32)) % (7 : Int32) = 0 ∨ (x &&& (2147483647 : Int32)) % (7 : Int32) = 1 ∨ (x &&& (2147483647 : Int32)) % (7 : Int32) = 2 ∨ (x &&& (2147483647 : Int32)) % (7 : Int32) = 3 ∨ (x &&& (2147483647 : Int32)) % (7 : Int32) = 4 ∨ (x &&& (2147483647 : Int32)) % (7 : Int32) = 5 ∨ (x &&& (2147483647 : Int32)) % (7 : Int32) = 6 := by
  have h := own_nn x
  have e : ((x &&& (2147483647 : Int32)) % (7 : Int32)).toInt = (x &&& (2147483647 : Int32)).toInt.tmod 7 := Int32.toInt_mod ..
  rw [Int.tmod_eq_emod_of_nonneg h] at e
  generalize (x &&& (2147483647 : Int32)) % (7 : Int32) = y at e ⊢
  generalize (x &&& (2147483647 : Int32)).toInt = z at e
  have : z % 7 = 0 ∨ z % 7 = 1 ∨ z % 7 = 2 ∨ z % 7 = 3 ∨ z % 7 = 4 ∨ z % 7 = 5 ∨ z % 7 = 6 := by omega
  rcases this with q | q | q | q | q | q | q <;> rw [q] at e
  · exact Or.inl (Int32.toInt_inj.mp e)
  · exact Or.inr (Or.inl (Int32.toInt_inj.mp e))
  · exact Or.inr (Or.inr (Or.inl (Int32.toInt_inj.mp e)))
  · exact Or.inr (Or.inr (Or.inr (Or.inl (Int32.toInt_inj.mp e))))
  · exact Or.inr (Or.inr (Or.inr (Or.inr (Or.inl (Int32.toInt_inj.mp e)))))
  · exact Or.inr (Or.inr (Or.inr (Or.inr (Or.inr (Or.inl (Int32.toInt_inj.mp e))))))
  · exact Or.inr (Or.inr (Or.inr (Or.inr (Or.inr (Or.inr (Int32.toInt_inj.mp e))))))

theorem own_none : ∀ c ∈ ([] : List Int32), ¬ c < 0 ∧ ¬ (255 : Int32) < c := fun c hc => nomatch hc
theorem own_i2c (x : Int32) : ¬ x.toUInt32.toUInt16.toUInt32.toInt32 < 0 ∧ ¬ (65535 : Int32) < x.toUInt32.toUInt16.toUInt32.toInt32 := by
  obtain ⟨u, hu⟩ : ∃ u, u = x.toUInt32.toUInt16 := ⟨_, rfl⟩
  rw [← hu]
  have h : u.toUInt32.toInt32.toInt = (u.toNat : Int) := by
    have h1 : u.toUInt32.toInt32 = Int32.ofNat u.toNat := by
      apply Int32.toBitVec_inj.mp
      apply BitVec.eq_of_toNat_eq
      have := u.toNat_lt
      show u.toUInt32.toNat = (BitVec.ofNat 32 u.toNat).toNat
      rw [UInt16.toNat_toUInt32, BitVec.toNat_ofNat]; omega
    rw [h1]; exact own_ti (by have := u.toNat_lt; omega)
  have hl := u.toNat_lt
  rw [Int32.lt_iff_toInt_lt, Int32.lt_iff_toInt_lt, h]
  have e0 : (0 : Int32).toInt = 0 := rfl
  have e1 : (65535 : Int32).toInt = 65535 := rfl
  rw [e0, e1]; omega
def own_wild (c : Int32) : Int32 := if c = (42 : Int32) then 1 else if c = (63 : Int32) then 1 else 0
def own_ise (cs : List Int32) : Int32 := if (42 : Int32) ∈ cs then 1 else if (63 : Int32) ∈ cs then 1 else 0
theorem own_wild0 {c : Int32} (h : own_wild c = 0) : ¬ c = 42 ∧ ¬ c = 63 := by
  unfold own_wild at h
  by_cases q : c = 42
  · rw [if_pos q] at h; exact absurd h (by decide)
  · rw [if_neg q] at h
    by_cases r : c = 63
    · rw [if_pos r] at h; exact absurd h (by decide)
    · exact ⟨q, r⟩
theorem own_wild1 {c : Int32} (h : ¬ own_wild c = 0) : c = 42 ∨ c = 63 := by
  by_cases q : c = 42
  · exact Or.inl q
  · by_cases r : c = 63
    · exact Or.inr r
    · exact absurd (by unfold own_wild; rw [if_neg q, if_neg r]) h
theorem own_ise_y {cs : List Int32} {c : Int32} (m : c ∈ cs) (h : ¬ own_wild c = 0) : own_ise cs = 1 := by
  unfold own_ise
  rcases own_wild1 h with q | q
  · rw [if_pos (q ▸ m)]
  · by_cases r : (42 : Int32) ∈ cs
    · rw [if_pos r]
    · rw [if_neg r, if_pos (q ▸ m)]
theorem own_ise_n {cs : List Int32} (h : ∀ c ∈ cs, own_wild c = 0) : own_ise cs = 0 := by
  unfold own_ise
  rw [if_neg (fun q => (own_wild0 (h _ q)).1 rfl), if_neg (fun q => (own_wild0 (h _ q)).2 rfl)]
theorem own_ixy {cs : List Int32} {r ch : Int32} (h : (¬ r < 0 ∧ ch ∈ cs) ∨ (r < 0 ∧ ¬ ch ∈ cs)) (q : ¬ r < 0) : ch ∈ cs := h.elim (fun z => z.2) fun z => absurd z.1 q
theorem own_ixn {cs : List Int32} {r ch : Int32} (h : (¬ r < 0 ∧ ch ∈ cs) ∨ (r < 0 ∧ ¬ ch ∈ cs)) (q : r < 0) : ¬ ch ∈ cs := h.elim (fun z => absurd q z.1) fun z => z.2
def QE0 (Z : State) (a1 : Addr) (h0 : Heap) (n0 : Nat) (v : Option Value) (h : Heap) (L : List Loc) : Prop := ∃ (t : Addr) (k : ClassId), v = none ∧ Fr n0 L ∧ Keep h0 h [a1] ∧ Fld Z h a1 "java/lang/String" "value" "[B" (.ref t) ∧ Fld Z h a1 "java/lang/String" "coder" "B" (.int (0 : Int32)) ∧ Arv Z h t k .byte (0 : Int32) [] (.int (0 : Int32))
theorem d_jdk_42_m149_0 : decode jdk_42_method_149_code 0 = .ok (.aload_n 0, 1) := by decide +kernel
theorem d_jdk_42_m149_1 : decode jdk_42_method_149_code 1 = .ok (.invokespecial 1, 3) := by decide +kernel
theorem d_jdk_42_m149_4 : decode jdk_42_method_149_code 4 = .ok (.iload_n 3, 1) := by decide +kernel
theorem d_jdk_42_m149_5 : decode jdk_42_method_149_code 5 = .ok (.ifCond .ne 22, 3) := by decide +kernel
theorem d_jdk_42_m149_8 : decode jdk_42_method_149_code 8 = .ok (.aload_n 0, 1) := by decide +kernel
theorem d_jdk_42_m149_9 : decode jdk_42_method_149_code 9 = .ok (.ldc 7, 2) := by decide +kernel
theorem d_jdk_42_m149_11 : decode jdk_42_method_149_code 11 = .ok (.getfield 9, 3) := by decide +kernel
theorem d_jdk_42_m149_14 : decode jdk_42_method_149_code 14 = .ok (.putfield 9, 3) := by decide +kernel
theorem d_jdk_42_m149_17 : decode jdk_42_method_149_code 17 = .ok (.aload_n 0, 1) := by decide +kernel
theorem d_jdk_42_m149_18 : decode jdk_42_method_149_code 18 = .ok (.ldc 7, 2) := by decide +kernel
theorem d_jdk_42_m149_20 : decode jdk_42_method_149_code 20 = .ok (.getfield 15, 3) := by decide +kernel
theorem d_jdk_42_m149_23 : decode jdk_42_method_149_code 23 = .ok (.putfield 15, 3) := by decide +kernel
theorem d_jdk_42_m149_26 : decode jdk_42_method_149_code 26 = .ok (.return_, 1) := by decide +kernel
theorem pn_0 : plainName "java/lang/String" = true := by first | (simp [plainName, overriddenIn]; done) | decide +kernel
theorem ef_rm_i4e (m : MethodId) (x0 : Addr) (x1 : Addr) (x2 : Int32) (x3 : Int32) : entryFrame m #[(.ref x0), (.ref x1), (.int x2), (.int x3), .null] 6 = mkF m 0 #[.val (.ref x0), .val (.ref x1), .val (.int x2), .val (.int x3), .val .null, .unset] [] := by
   first | (simp [entryFrame, mkF, argsToLocals, Value.category]; done) | rfl
set_option maxRecDepth 65536 in
set_option maxHeartbeats 40000000 in
theorem rm_i4e (l : Launch) (Z : State) (a0 : Array Value) (hw : ∀ d ∈ tables_1, d.before a0 Z = true) (ws : List Jvm.Cond) (a1 : Addr) (a2 : Addr) (h0 : Heap) (n0 : Nat) (O0 : Old Z n0 h0) (E_a : Exa Z h0 a1 "java/lang/String") (F_v : Fld Z h0 a1 "java/lang/String" "value" "[B" .null) (F_c : Fld Z h0 a1 "java/lang/String" "coder" "B" (.int (0 : Int32))) (g_a : n0 ≤ a1) :
    MetFree l (⟨"java/lang/String", "<init>", "([CIILjava/lang/Void;)V"⟩ : MethodName) (head1 (Jvm.Cond.code (⟨"java/lang/String", "<init>", "([CIILjava/lang/Void;)V"⟩ : MethodName) jdk_42_method_149_code 6 none :: ws) ({ frames := 1, cells := 4, slots := 8, locals := 12 } : Room)) (fun aA U => aA = #[(.ref a1), (.ref a2), (.int (0 : Int32)), (.int (0 : Int32)), .null] ∧ Z.Warmed39 U.vm ∧ U.heap = h0 ∧ CHv Z own_EL U.vm h0) (fun _ _ _ _ _ => True) (fun _ U oO U' => ∃ rV rL, oO = .returned rV ∧ QE0 Z a1 h0 n0 rV U'.heap rL ∧ CHr Z own_EL U.vm U.heap U'.vm U'.heap ∧ ReturnedEndW U oO U' rL 4 8) := by
  refine MetFree.of_bodySF (plainFor_of_name pn_0) hisR ?_
  intro p e s m args below meth cC s₁ Bd hml0 hP hK
  obtain ⟨rfl, hZ, hh, hC0⟩ := hP
  have hx := Bd.exec
  have hby := Bd.bytes
  have hml : cC.maxLocals = 6 := hml0
  have hown : s.vm.findClass "java/lang/String" = some m.cls := findClass_of_methodNamed Bd.named
  have hnm := (name_of_methodNamed Bd.named Bd.method).1
  have hrt := Bd.returns
  have hlk : meth.locks = false := Bd.notSynchronized
  have X0 : Stand p l e ({ frames := 1, cells := 4, slots := 8, locals := 12 } : Room) (s.setVm s.vm) m #[(.ref a1), (.ref a2), (.int (0 : Int32)), (.int (0 : Int32)), .null] below meth cC s₁ [] 0 0 := Stand.of_body Bd
  have e0 : s₁.heap = h0 := by rw [← hh, Bd.state]; rfl
  have N0 := Fr.nil n0
  have Z0 : n0 ≤ h0.size := O0.1 ▸ O0.2.1
  have hS0 : s.Since s.vm 0 := (State.WarmedH.refl s).since 0
  have C0 : CHr Z own_EL s.vm h0 s.vm h0 := CHr.refl hC0
  have own_wS := own_wSt hw
  have own_hEL := own_hELt hw
  show own_Go p e below (s₁.setTop (entryFrame m #[(.ref a1), (.ref a2), (.int (0 : Int32)), (.int (0 : Int32)), .null] 6)) (fun oO U' => ∃ rV rL, oO = .returned rV ∧ QE0 Z a1 h0 n0 rV U'.heap rL ∧ CHr Z own_EL s.vm s.heap U'.vm U'.heap ∧ ReturnedEndW s oO U' rL 4 8)
  refine own_go (fun _ k => castTop (ef_rm_i4e m a1 a2 _ _) k) ?_
  show own_Go p e below (s₁.setTop (mkF m 0 #[.val (.ref a1), .val (.ref a2), .val (.int (0 : Int32)), .val (.int (0 : Int32)), .val .null, .unset] [])) _
  refine own_go (fun _ k => XS.aloadN X0.here hx rfl (hb hby d_jdk_42_m149_0) rfl rfl k) ?_
  show own_Go p e below (s₁.setTop (mkF m 1 #[.val (.ref a1), .val (.ref a2), .val (.int (0 : Int32)), .val (.int (0 : Int32)), .val .null, .unset] [(.ref a1)])) _
  obtain ⟨T1, X1, e1, st1⟩ := initO X0 hx hZ hown (hw _ (List.mem_of_getElem? (i := 13) rfl)) (hw _ (List.mem_of_getElem? (i := 14) rfl)) (hw _ (List.mem_of_getElem? (i := 15) rfl)) e0 (g := (mkF m 1 #[.val (.ref a1), .val (.ref a2), .val (.int (0 : Int32)), .val (.int (0 : Int32)), .val .null, .unset] [(.ref a1)])) rfl (by rw [hml]; rfl) rfl (hb hby d_jdk_42_m149_1) (by decide) (W := 0) (by show 2 * 0 + _ ≤ _; exact Nat.le_of_eq rfl) (by decide)
  refine own_go st1 ?_
  show own_Go p e below (T1.setTop (mkF m 4 #[.val (.ref a1), .val (.ref a2), .val (.int (0 : Int32)), .val (.int (0 : Int32)), .val .null, .unset] [])) _
  refine own_go (fun _ k => XS.iloadN X1.here hx rfl (hb hby d_jdk_42_m149_4) rfl k) ?_
  show own_Go p e below (T1.setTop (mkF m 5 #[.val (.ref a1), .val (.ref a2), .val (.int (0 : Int32)), .val (.int (0 : Int32)), .val .null, .unset] [(.int (0 : Int32))])) _
  refine own_go (fun _ k => XS.ifNo X1.here hx rfl (hb hby d_jdk_42_m149_5) rfl ((if0 _ _).trans (teq (by decide : (0 : Int32) = (0 : Int32))).2) k) ?_
  show own_Go p e below (T1.setTop (mkF m 8 #[.val (.ref a1), .val (.ref a2), .val (.int (0 : Int32)), .val (.int (0 : Int32)), .val .null, .unset] [])) _
  refine own_go (fun _ k => XS.aloadN X1.here hx rfl (hb hby d_jdk_42_m149_8) rfl rfl k) ?_
  show own_Go p e below (T1.setTop (mkF m 9 #[.val (.ref a1), .val (.ref a2), .val (.int (0 : Int32)), .val (.int (0 : Int32)), .val .null, .unset] [(.ref a1)])) _
  obtain ⟨aL2, T2, h2, k12, b2, kb2, X2, e2, E2, hS2, hk2, hZ2, hown2, Ea2, Fc2, Fv2, Va2, la2, lb2, A2, Li2, sf2, st2⟩ := ldcCH X1 hx hZ hown (hw _ (List.mem_of_getElem? (i := 127) rfl)) own_wS e1 hS0 (Nat.zero_le _) own_hEL (by decide) C0.1 (vs := []) (z := (0 : Int32)) ⟨by decide, by decide⟩ (by decide) (by decide) (g := (mkF m 9 #[.val (.ref a1), .val (.ref a2), .val (.int (0 : Int32)), .val (.int (0 : Int32)), .val .null, .unset] [(.ref a1)])) rfl (hb hby d_jdk_42_m149_9) (n := 0) (by decide) (by decide) (by decide) (by decide)
  refine own_go st2 ?_
  have C3 := C0.trans A2
  have sf4 : Safe Z own_EL T2.vm h2 a1 := own_safeNull hZ2.alike (E_a.ext E2) (F_v.ext E2)
  show own_Go p e below (T2.setTop (mkF m 11 #[.val (.ref a1), .val (.ref a2), .val (.int (0 : Int32)), .val (.int (0 : Int32)), .val .null, .unset] [(.ref aL2), (.ref a1)])) _
  obtain ⟨T5, X5, e5, st5⟩ := getF X2 hx hZ2 hown2 (host := "") (Or.inl (hw _ (List.mem_of_getElem? (i := 30) rfl))) Via.refl e2 Fv2 (g := (mkF m 11 #[.val (.ref a1), .val (.ref a2), .val (.int (0 : Int32)), .val (.int (0 : Int32)), .val .null, .unset] [(.ref aL2), (.ref a1)])) rfl rfl (hb hby d_jdk_42_m149_11)
  refine own_go st5 ?_
  show own_Go p e below (T5.setTop (mkF m 14 #[.val (.ref a1), .val (.ref a2), .val (.int (0 : Int32)), .val (.int (0 : Int32)), .val .null, .unset] [(.ref b2), (.ref a1)])) _
  obtain ⟨T6, h6, X6, e6, W6, st6⟩ := putF X5 hx hZ2 hown2 (host := "") (Or.inl (hw _ (List.mem_of_getElem? (i := 30) rfl))) Via.refl e5 (F_v.ext E2) (E_a.ext E2) (Or.inr ⟨(hw _ (List.mem_of_getElem? (i := 31) rfl)), rfl, hnm⟩) (hw _ (List.mem_of_getElem? (i := 4) rfl)) (ty := (.array .byte)) (by decide) rfl rfl (g := (mkF m 14 #[.val (.ref a1), .val (.ref a2), .val (.int (0 : Int32)), .val (.int (0 : Int32)), .val .null, .unset] [(.ref b2), (.ref a1)])) rfl rfl (hb hby d_jdk_42_m149_14)
  refine own_go st6 ?_
  have N6 := Fr.snoc X6 N0 g_a
  have C7 := C3.trans (CHr.wr W6 sf4 C3.1)
  have Fw6 := (F_v.ext E2).same W6
  show own_Go p e below (T6.setTop (mkF m 17 #[.val (.ref a1), .val (.ref a2), .val (.int (0 : Int32)), .val (.int (0 : Int32)), .val .null, .unset] [])) _
  refine own_go (fun _ k => XS.aloadN X6.here hx rfl (hb hby d_jdk_42_m149_17) rfl rfl k) ?_
  show own_Go p e below (T6.setTop (mkF m 18 #[.val (.ref a1), .val (.ref a2), .val (.int (0 : Int32)), .val (.int (0 : Int32)), .val .null, .unset] [(.ref a1)])) _
  obtain ⟨aL8, T8, h8, k18, b8, kb8, X8, e8, E8, hS8, hk8, hZ8, hown8, Ea8, Fc8, Fv8, Va8, la8, lb8, A8, Li8, sf8, st8⟩ := ldcCH X6 hx hZ2 hown2 (hw _ (List.mem_of_getElem? (i := 127) rfl)) own_wS e6 hS2 (Nat.le_trans hk2 (Keep.of_wr W6).1) own_hEL (by decide) C7.1 (vs := []) (z := (0 : Int32)) ⟨by decide, by decide⟩ (by decide) (by decide) (g := (mkF m 18 #[.val (.ref a1), .val (.ref a2), .val (.int (0 : Int32)), .val (.int (0 : Int32)), .val .null, .unset] [(.ref a1)])) rfl (hb hby d_jdk_42_m149_18) (n := 0) (by decide) (by decide) (by decide) (by decide)
  refine own_go st8 ?_
  have C9 := C7.trans A8
  have f10 := (A8.safe (Nat.lt_of_lt_of_le E_a.lt (Nat.le_trans E2.1 (Keep.of_wr W6).1)) (Safe.wr W6 sf4 C3.1 sf4))
  show own_Go p e below (T8.setTop (mkF m 20 #[.val (.ref a1), .val (.ref a2), .val (.int (0 : Int32)), .val (.int (0 : Int32)), .val .null, .unset] [(.ref aL8), (.ref a1)])) _
  obtain ⟨T11, X11, e11, st11⟩ := getF X8 hx hZ8 hown8 (host := "") (Or.inl (hw _ (List.mem_of_getElem? (i := 28) rfl))) Via.refl e8 Fc8 (g := (mkF m 20 #[.val (.ref a1), .val (.ref a2), .val (.int (0 : Int32)), .val (.int (0 : Int32)), .val .null, .unset] [(.ref aL8), (.ref a1)])) rfl rfl (hb hby d_jdk_42_m149_20)
  refine own_go st11 ?_
  show own_Go p e below (T11.setTop (mkF m 23 #[.val (.ref a1), .val (.ref a2), .val (.int (0 : Int32)), .val (.int (0 : Int32)), .val .null, .unset] [(.int (0 : Int32)), (.ref a1)])) _
  have f12 := (((F_c.ext E2).other W6 (Or.inr (slot_ne (Or.inr (hw _ (List.mem_of_getElem? (i := 29) rfl))) (Or.inr (hw _ (List.mem_of_getElem? (i := 31) rfl))) (by decide) (t := .byte) (t' := (.array .byte)) (by decide) (by decide)))).ext E8)
  have f13 := (((E_a.ext E2).wr W6).ext E8)
  obtain ⟨T14, h14, X14, e14, W14, st14⟩ := putFN X11 hx hZ8 hown8 (hw _ (List.mem_of_getElem? (i := 28) rfl)) Via.refl e11 f12 f13 (Or.inr ⟨(hw _ (List.mem_of_getElem? (i := 29) rfl)), rfl, hnm⟩) (hw _ (List.mem_of_getElem? (i := 4) rfl)) (ty := .byte) (v' := (.int (0 : Int32))) (by decide) rfl rfl (g := (mkF m 23 #[.val (.ref a1), .val (.ref a2), .val (.int (0 : Int32)), .val (.int (0 : Int32)), .val .null, .unset] [(.int (0 : Int32)), (.ref a1)])) rfl rfl (hb hby d_jdk_42_m149_23)
  refine own_go st14 ?_
  have N14 := Fr.snoc X14 N6 g_a
  have C15 := C9.trans (CHr.wr W14 f10 C9.1)
  have Fw14 := f12.same W14
  show own_Go p e below (T14.setTop (mkF m 26 #[.val (.ref a1), .val (.ref a2), .val (.int (0 : Int32)), .val (.int (0 : Int32)), .val .null, .unset] [])) _
  have f16 := (((((Keep.refl h0 [a1]).ext E2).wr W6 (Or.inl (List.mem_of_getElem? (i := 0) rfl))).ext E8).wr W14 (Or.inl (List.mem_of_getElem? (i := 0) rfl)))
  have f17 := ((Fw6.ext E8).other W14 (Or.inr (slot_ne (Or.inr (hw _ (List.mem_of_getElem? (i := 31) rfl))) (Or.inr (hw _ (List.mem_of_getElem? (i := 29) rfl))) (by decide) (t := (.array .byte)) (t' := .byte) (by decide) (by decide))))
  have f18 := (((Va2.other W6 (Ne.symm (sf2 _ sf4).2)).ext E8).other W14 (Ne.symm (sf2 _ sf4).2))
  refine own_finW (v := none) X14 hh hZ8 hS8 (by rw [e14]; exact (Nat.le_trans hk8 (Keep.of_wr W14).1)) (fun _ => rfl) hlk (fun fs hr => X14.returnOut hx hrt (hb hby d_jdk_42_m149_26) hr) (QQ := QE0 Z a1 h0 n0) ?_ own_hEL e14 (C15) (by decide) (by decide)
  rw [e14]
  exact ⟨b2, kb2, rfl, N14, f16, f17, Fw14, f18⟩

theorem d_jdk_42_m3_0 : decode jdk_42_method_3_code 0 = .ok (.aload_n 0, 1) := by decide +kernel
theorem d_jdk_42_m3_1 : decode jdk_42_method_3_code 1 = .ok (.aload_n 1, 1) := by decide +kernel
theorem d_jdk_42_m3_2 : decode jdk_42_method_3_code 2 = .ok (.iconst 0, 1) := by decide +kernel
theorem d_jdk_42_m3_3 : decode jdk_42_method_3_code 3 = .ok (.aload_n 1, 1) := by decide +kernel
theorem d_jdk_42_m3_4 : decode jdk_42_method_3_code 4 = .ok (.arraylength, 1) := by decide +kernel
theorem d_jdk_42_m3_5 : decode jdk_42_method_3_code 5 = .ok (.aconst_null, 1) := by decide +kernel
theorem d_jdk_42_m3_6 : decode jdk_42_method_3_code 6 = .ok (.invokespecial 27, 3) := by decide +kernel
theorem pd_0 : parseMethodDescriptor "([CIILjava/lang/Void;)V" = some ⟨[(.array .char), .int, .int, (.object "java/lang/Void")], none⟩ := by decide +kernel
theorem d_jdk_42_m3_9 : decode jdk_42_method_3_code 9 = .ok (.return_, 1) := by decide +kernel
theorem ef_rm_i1e (m : MethodId) (x0 : Addr) (x1 : Addr) : entryFrame m #[(.ref x0), (.ref x1)] 2 = mkF m 0 #[.val (.ref x0), .val (.ref x1)] [] := by
   first | (simp [entryFrame, mkF, argsToLocals, Value.category]; done) | rfl
set_option maxRecDepth 65536 in
set_option maxHeartbeats 40000000 in
theorem rm_i1e (l : Launch) (Z : State) (a0 : Array Value) (hw : ∀ d ∈ tables_1, d.before a0 Z = true) (ws : List Jvm.Cond) (a1 : Addr) (a2 : Addr) (k2 : ClassId) (h0 : Heap) (n0 : Nat) (O0 : Old Z n0 h0) (E_a : Exa Z h0 a1 "java/lang/String") (F_v : Fld Z h0 a1 "java/lang/String" "value" "[B" .null) (F_c : Fld Z h0 a1 "java/lang/String" "coder" "B" (.int (0 : Int32))) (g_a : n0 ≤ a1) (V_a2 : Arv Z h0 a2 k2 .char (0 : Int32) [] (.int (0 : Int32))) :
    MetFree l (⟨"java/lang/String", "<init>", "([C)V"⟩ : MethodName) (head1 (Jvm.Cond.code (⟨"java/lang/String", "<init>", "([C)V"⟩ : MethodName) jdk_42_method_3_code 2 none :: ws) ({ frames := 2, cells := 4, slots := 8, locals := 29 } : Room)) (fun aA U => aA = #[(.ref a1), (.ref a2)] ∧ Z.Warmed39 U.vm ∧ U.heap = h0 ∧ CHv Z own_EL U.vm h0) (fun _ _ _ _ _ => True) (fun _ U oO U' => ∃ rV rL, oO = .returned rV ∧ QE0 Z a1 h0 n0 rV U'.heap rL ∧ CHr Z own_EL U.vm U.heap U'.vm U'.heap ∧ ReturnedEndW U oO U' rL 4 8) := by
  refine MetFree.of_bodySF (plainFor_of_name pn_0) hisR ?_
  intro p e s m args below meth cC s₁ Bd hml0 hP hK
  obtain ⟨rfl, hZ, hh, hC0⟩ := hP
  have hx := Bd.exec
  have hby := Bd.bytes
  have hml : cC.maxLocals = 2 := hml0
  have hown : s.vm.findClass "java/lang/String" = some m.cls := findClass_of_methodNamed Bd.named
  have hnm := (name_of_methodNamed Bd.named Bd.method).1
  have hrt := Bd.returns
  have hlk : meth.locks = false := Bd.notSynchronized
  have X0 : Stand p l e ({ frames := 2, cells := 4, slots := 8, locals := 29 } : Room) (s.setVm s.vm) m #[(.ref a1), (.ref a2)] below meth cC s₁ [] 0 0 := Stand.of_body Bd
  have e0 : s₁.heap = h0 := by rw [← hh, Bd.state]; rfl
  have N0 := Fr.nil n0
  have Z0 : n0 ≤ h0.size := O0.1 ▸ O0.2.1
  have hS0 : s.Since s.vm 0 := (State.WarmedH.refl s).since 0
  have C0 : CHr Z own_EL s.vm h0 s.vm h0 := CHr.refl hC0
  have own_wS := own_wSt hw
  have own_hEL := own_hELt hw
  show own_Go p e below (s₁.setTop (entryFrame m #[(.ref a1), (.ref a2)] 2)) (fun oO U' => ∃ rV rL, oO = .returned rV ∧ QE0 Z a1 h0 n0 rV U'.heap rL ∧ CHr Z own_EL s.vm s.heap U'.vm U'.heap ∧ ReturnedEndW s oO U' rL 4 8)
  refine own_go (fun _ k => castTop (ef_rm_i1e m a1 a2) k) ?_
  show own_Go p e below (s₁.setTop (mkF m 0 #[.val (.ref a1), .val (.ref a2)] [])) _
  refine own_go (fun _ k => XS.aloadN X0.here hx rfl (hb hby d_jdk_42_m3_0) rfl rfl k) ?_
  show own_Go p e below (s₁.setTop (mkF m 1 #[.val (.ref a1), .val (.ref a2)] [(.ref a1)])) _
  refine own_go (fun _ k => XS.aloadN X0.here hx rfl (hb hby d_jdk_42_m3_1) rfl rfl k) ?_
  show own_Go p e below (s₁.setTop (mkF m 2 #[.val (.ref a1), .val (.ref a2)] [(.ref a2), (.ref a1)])) _
  refine own_go (fun _ k => XS.iconst X0.here hx rfl (hb hby d_jdk_42_m3_2) k) ?_
  show own_Go p e below (s₁.setTop (mkF m 3 #[.val (.ref a1), .val (.ref a2)] [(.int (0 : Int32)), (.ref a2), (.ref a1)])) _
  refine own_go (fun _ k => XS.aloadN X0.here hx rfl (hb hby d_jdk_42_m3_3) rfl rfl k) ?_
  show own_Go p e below (s₁.setTop (mkF m 4 #[.val (.ref a1), .val (.ref a2)] [(.ref a2), (.int (0 : Int32)), (.ref a2), (.ref a1)])) _
  obtain ⟨c19, A19, q19, S19, M19, Hs19, Gs19⟩ := id V_a2
  refine own_go (fun _ k => X0.arraylength hx (by rw [e0]; exact A19.1) (State.isArrayOf_alike hZ.alike A19.2.1) (g := (mkF m 4 #[.val (.ref a1), .val (.ref a2)] [(.ref a2), (.int (0 : Int32)), (.ref a2), (.ref a1)])) rfl rfl (hb hby d_jdk_42_m3_4) _ k) ?_
  rw [len_of S19 M19]
  show own_Go p e below (s₁.setTop (mkF m 5 #[.val (.ref a1), .val (.ref a2)] [(.int (0 : Int32)), (.int (0 : Int32)), (.ref a2), (.ref a1)])) _
  refine own_go (fun _ k => XS.aconstNull X0.here hx rfl (hb hby d_jdk_42_m3_5) k) ?_
  show own_Go p e below (s₁.setTop (mkF m 6 #[.val (.ref a1), .val (.ref a2)] [.null, (.int (0 : Int32)), (.int (0 : Int32)), (.ref a2), (.ref a1)])) _
  obtain ⟨v20, _, ⟨T20, L20, k20, n20⟩, -, X20, hS20, hg20, ⟨Lc20, hQ20, l20, y20, z20, A20⟩, st20⟩ := X0.specialBackS hx (y := (⟨"java/lang/String", "<init>", "([CIILjava/lang/Void;)V"⟩ : MethodName)) rfl hown (mvT hZ (hw _ (List.mem_of_getElem? (i := 9) rfl))) (mvT hZ (hw _ (List.mem_of_getElem? (i := 10) rfl))) (mvT hZ (hw _ (List.mem_of_getElem? (i := 12) rfl))) (by decide) (backOfSH (W := 0) (rm_i4e l Z a0 hw [] a1 a2 h0 n0 O0 E_a F_v F_c g_a) hZ (hw _ (List.mem_of_getElem? (i := 12) rfl)) (hw _ (List.mem_of_getElem? (i := 5) rfl)) (by decide) (by decide) own_hEL C0.1) (g := (mkF m 6 #[.val (.ref a1), .val (.ref a2)] [.null, (.int (0 : Int32)), (.int (0 : Int32)), (.ref a2), (.ref a1)])) rfl (by rw [hml]; rfl) (Steps.refl _) (a := a1) (argsL := [(.ref a2), (.int (0 : Int32)), (.int (0 : Int32)), .null]) (rest := []) (lenOf pd_0 rfl) rfl (by show 2 * 0 + _ ≤ _; exact Nat.le_of_eq rfl) (hb hby d_jdk_42_m3_6) (fun _ _ => ⟨rfl, e0, (by decide : 0 + 4 ≤ _), (by decide : 0 + 8 ≤ _)⟩)
  dsimp only [Pt.U, Pt.locs, Pt.cells, Pt.slots] at X20 l20 y20 z20 st20 hQ20 hS20 hg20 A20
  subst l20 y20 z20
  refine own_gos st20 ?_
  obtain ⟨X20, hS20, hZ20, hown20⟩ := rebS hS0 (k0 := _) (n1 := s₁.heap.size) (by rw [e0]; exact (Nat.zero_le _)) X20 hS20 hg20 hZ hown
  obtain ⟨t20, kt20, rfl, Nq20, K20, Fv20, Fc20, Vt20⟩ := hQ20
  have C21 := C0.trans A20
  have N20 := Fr.app N0 Nq20
  show own_Go p e below (T20.setTop (mkF m 9 #[.val (.ref a1), .val (.ref a2)] [])) _
  have f22 := ((Keep.refl h0 [a1]).trans K20 (allS (Or.inl (List.mem_of_getElem? (i := 0) rfl)) all0))
  refine own_finW (v := none) X20 hh hZ20 hS20 (by rw [(rfl : T20.heap = T20.heap)]; exact (Nat.le_refl _)) (fun _ => rfl) hlk (fun fs hr => X20.returnOut hx hrt (hb hby d_jdk_42_m3_9) hr) (QQ := QE0 Z a1 h0 n0) ?_ own_hEL (rfl : T20.heap = T20.heap) (C21) (by decide) (by decide)
  exact ⟨t20, kt20, rfl, N20, f22, Fv20, Fc20, Vt20⟩

theorem d_jdk_52_m21_0 : decode jdk_52_method_21_code 0 = .ok (.iconst 0, 1) := by decide +kernel
theorem d_jdk_52_m21_1 : decode jdk_52_method_21_code 1 = .ok (.istore 5, 2) := by decide +kernel
theorem d_jdk_52_m21_3 : decode jdk_52_method_21_code 3 = .ok (.iload 5, 2) := by decide +kernel
theorem d_jdk_52_m21_5 : decode jdk_52_method_21_code 5 = .ok (.iload 4, 2) := by decide +kernel
theorem d_jdk_52_m21_7 : decode jdk_52_method_21_code 7 = .ok (.if_icmp .ge 37, 3) := by decide +kernel
theorem d_jdk_52_m21_44 : decode jdk_52_method_21_code 44 = .ok (.iload 4, 2) := by decide +kernel
theorem d_jdk_52_m21_46 : decode jdk_52_method_21_code 46 = .ok (.ireturn, 1) := by decide +kernel
theorem d_jdk_52_m21_10 : decode jdk_52_method_21_code 10 = .ok (.aload_n 0, 1) := by decide +kernel
theorem d_jdk_52_m21_11 : decode jdk_52_method_21_code 11 = .ok (.iload_n 1, 1) := by decide +kernel
theorem d_jdk_52_m21_12 : decode jdk_52_method_21_code 12 = .ok (.caload, 1) := by decide +kernel
theorem d_jdk_52_m21_13 : decode jdk_52_method_21_code 13 = .ok (.istore 6, 2) := by decide +kernel
theorem d_jdk_52_m21_15 : decode jdk_52_method_21_code 15 = .ok (.iload 6, 2) := by decide +kernel
theorem d_jdk_52_m21_17 : decode jdk_52_method_21_code 17 = .ok (.sipush 255, 3) := by decide +kernel
theorem d_jdk_52_m21_20 : decode jdk_52_method_21_code 20 = .ok (.if_icmp .le 6, 3) := by decide +kernel
theorem d_jdk_52_m21_23 : decode jdk_52_method_21_code 23 = .ok (.iload 5, 2) := by decide +kernel
theorem d_jdk_52_m21_25 : decode jdk_52_method_21_code 25 = .ok (.ireturn, 1) := by decide +kernel
theorem d_jdk_52_m21_26 : decode jdk_52_method_21_code 26 = .ok (.aload_n 2, 1) := by decide +kernel
theorem d_jdk_52_m21_27 : decode jdk_52_method_21_code 27 = .ok (.iload_n 3, 1) := by decide +kernel
theorem d_jdk_52_m21_28 : decode jdk_52_method_21_code 28 = .ok (.iload 6, 2) := by decide +kernel
theorem d_jdk_52_m21_30 : decode jdk_52_method_21_code 30 = .ok (.i2b, 1) := by decide +kernel
theorem d_jdk_52_m21_31 : decode jdk_52_method_21_code 31 = .ok (.bastore, 1) := by decide +kernel
theorem d_jdk_52_m21_32 : decode jdk_52_method_21_code 32 = .ok (.iinc 1 1, 3) := by decide +kernel
theorem d_jdk_52_m21_35 : decode jdk_52_method_21_code 35 = .ok (.iinc 3 1, 3) := by decide +kernel
theorem d_jdk_52_m21_38 : decode jdk_52_method_21_code 38 = .ok (.iinc 5 1, 3) := by decide +kernel
theorem d_jdk_52_m21_41 : decode jdk_52_method_21_code 41 = .ok (.goto (-38), 3) := by decide +kernel
theorem pn_1 : plainName "java/lang/StringUTF16" = true := by first | (simp [plainName, overriddenIn]; done) | decide +kernel
theorem ef_rm_cmp5 (m : MethodId) (x0 : Addr) (x1 : Int32) (x2 : Addr) (x3 : Int32) (x4 : Int32) : entryFrame m #[(.ref x0), (.int x1), (.ref x2), (.int x3), (.int x4)] 7 = mkF m 0 #[.val (.ref x0), .val (.int x1), .val (.ref x2), .val (.int x3), .val (.int x4), .unset, .unset] [] := by
   first | (simp [entryFrame, mkF, argsToLocals, Value.category]; done) | rfl
set_option maxRecDepth 65536 in
set_option maxHeartbeats 40000000 in
theorem rm_cmp5 (l : Launch) (Z : State) (a0 : Array Value) (hw : ∀ d ∈ tables_1, d.before a0 Z = true) (ws : List Jvm.Cond) (a : Addr) (ka : ClassId) (da : Value) (cs : List Int32) (b : Addr) (kb : ClassId) (h0 : Heap) (n0 : Nat) (O0 : Old Z n0 h0) (hok : own_Ok cs) (V_a : Arv Z h0 a ka .char (Int32.ofNat cs.length) (cs.map Value.int) da) (V_b : Arv Z h0 b kb .byte (Int32.ofNat cs.length) (List.replicate cs.length (.int (0 : Int32))) (.int (0 : Int32))) (g_b : n0 ≤ b) (hab : a ≠ b) :
    MetFree l (⟨"java/lang/StringUTF16", "compress", "([CI[BII)I"⟩ : MethodName) (head1 (Jvm.Cond.code (⟨"java/lang/StringUTF16", "compress", "([CI[BII)I"⟩ : MethodName) jdk_52_method_21_code 7 (some .int) :: ws) ({ frames := 0, cells := 0, slots := 0, locals := 0 } : Room)) (fun aA U => aA = #[(.ref a), (.int (0 : Int32)), (.ref b), (.int (0 : Int32)), (.int (Int32.ofNat cs.length))] ∧ Z.Warmed39 U.vm ∧ U.heap = h0) (fun _ _ _ _ _ => True) (fun _ U oO U' => ∃ rV rL, oO = .returned rV ∧ QC5 Z b kb cs h0 n0 rV U'.heap rL ∧ FrameEnd U oO U' rL 0 0) := by
  refine MetFree.of_bodySF (plainFor_of_name pn_1) hisR ?_
  intro p e s m args below meth cC s₁ Bd hml0 hP hK
  obtain ⟨rfl, hZ, hh⟩ := hP
  have hx := Bd.exec
  have hby := Bd.bytes
  have hml : cC.maxLocals = 7 := hml0
  have hown : s.vm.findClass "java/lang/StringUTF16" = some m.cls := findClass_of_methodNamed Bd.named
  have hnm := (name_of_methodNamed Bd.named Bd.method).1
  have hrt := Bd.returns
  have hlk : meth.locks = false := Bd.notSynchronized
  have X0 : Stand p l e ({ frames := 0, cells := 0, slots := 0, locals := 0 } : Room) s m #[(.ref a), (.int (0 : Int32)), (.ref b), (.int (0 : Int32)), (.int (Int32.ofNat cs.length))] below meth cC s₁ [] 0 0 := Stand.of_body Bd
  have e0 : s₁.heap = h0 := by rw [← hh, Bd.state]; rfl
  have N0 := Fr.nil n0
  have Z0 : n0 ≤ h0.size := O0.1 ▸ O0.2.1
  show own_Go p e below (s₁.setTop (entryFrame m #[(.ref a), (.int (0 : Int32)), (.ref b), (.int (0 : Int32)), (.int (Int32.ofNat cs.length))] 7)) (fun oO U' => ∃ rV rL, oO = .returned rV ∧ QC5 Z b kb cs h0 n0 rV U'.heap rL ∧ FrameEnd s oO U' rL 0 0)
  refine own_go (fun _ k => castTop (ef_rm_cmp5 m a _ b _ _) k) ?_
  have hlen : cs.length ≤ 4000 := hok.2
  show own_Go p e below (s₁.setTop (mkF m 0 #[.val (.ref a), .val (.int (0 : Int32)), .val (.ref b), .val (.int (0 : Int32)), .val (.int (Int32.ofNat cs.length)), .unset, .unset] [])) _
  refine own_go (fun _ k => XS.iconst X0.here hx rfl (hb hby d_jdk_52_m21_0) k) ?_
  show own_Go p e below (s₁.setTop (mkF m 1 #[.val (.ref a), .val (.int (0 : Int32)), .val (.ref b), .val (.int (0 : Int32)), .val (.int (Int32.ofNat cs.length)), .unset, .unset] [(.int (0 : Int32))])) _
  refine own_go (fun _ k => XS.istore X0.here hx rfl (hb hby d_jdk_52_m21_1) rfl (l' := #[.val (.ref a), .val (.int (0 : Int32)), .val (.ref b), .val (.int (0 : Int32)), .val (.int (Int32.ofNat cs.length)), .val (.int (0 : Int32)), .unset]) rfl k) ?_
  show own_Go p e below (s₁.setTop (mkF m 3 #[.val (.ref a), .val (.int (0 : Int32)), .val (.ref b), .val (.int (0 : Int32)), .val (.int (Int32.ofNat cs.length)), .val (.int (0 : Int32)), .unset] [])) _
  have loop : ∀ (kT iloop : Nat) (sl : Slot) (T : State) (locs : List Loc) (h : Heap), iloop + kT = cs.length → Stand p l e ({ frames := 0, cells := 0, slots := 0, locals := 0 } : Room) s m #[(.ref a), (.int (0 : Int32)), (.ref b), (.int (0 : Int32)), (.int (Int32.ofNat cs.length))] below meth cC T locs 0 0 → T.heap = h → Fr n0 locs → Old Z n0 h → Keep h0 h [b] → Arv Z h a ka .char (Int32.ofNat cs.length) (cs.map Value.int) da → Arv Z h b kb .byte (Int32.ofNat cs.length) (own_part cs iloop) (.int (0 : Int32)) → (∀ j, j < iloop → ¬ (255 : Int32) < cs.getD j 0) → ((sl = .unset ∨ ∃ w, sl = .val w ∧ w.category = 1)) → own_Go p e below (T.setTop (mkF m 3 #[.val (.ref a), .val (.int (Int32.ofNat iloop)), .val (.ref b), .val (.int (Int32.ofNat iloop)), .val (.int (Int32.ofNat cs.length)), .val (.int (Int32.ofNat iloop)), sl] [])) (fun oO U' => ∃ rV rL, oO = .returned rV ∧ QC5 Z b kb cs h0 n0 rV U'.heap rL ∧ FrameEnd s oO U' rL 0 0) := by
    intro kT
    induction kT with
    | zero =>
      intro iloop sl T23 L23 h23 hik X23 e23 N23 O23 K23 J0_23 J1_23 hall hsl
      have Z0_23 : n0 ≤ h23.size := O23.1 ▸ O23.2.1
      have hin : iloop = cs.length := by omega
      have hlt : ¬ ((Int32.ofNat iloop) < (Int32.ofNat cs.length)) := by rw [own_lti (by omega) (by omega)]; omega
      show own_Go p e below (T23.setTop (mkF m 3 #[.val (.ref a), .val (.int (Int32.ofNat iloop)), .val (.ref b), .val (.int (Int32.ofNat iloop)), .val (.int (Int32.ofNat cs.length)), .val (.int (Int32.ofNat iloop)), sl] [])) _
      refine own_go (fun _ k => XS.iload X23.here hx rfl (hb hby d_jdk_52_m21_3) rfl k) ?_
      show own_Go p e below (T23.setTop (mkF m 5 #[.val (.ref a), .val (.int (Int32.ofNat iloop)), .val (.ref b), .val (.int (Int32.ofNat iloop)), .val (.int (Int32.ofNat cs.length)), .val (.int (Int32.ofNat iloop)), sl] [(.int (Int32.ofNat iloop))])) _
      refine own_go (fun _ k => XS.iload X23.here hx rfl (hb hby d_jdk_52_m21_5) rfl k) ?_
      show own_Go p e below (T23.setTop (mkF m 7 #[.val (.ref a), .val (.int (Int32.ofNat iloop)), .val (.ref b), .val (.int (Int32.ofNat iloop)), .val (.int (Int32.ofNat cs.length)), .val (.int (Int32.ofNat iloop)), sl] [(.int (Int32.ofNat cs.length)), (.int (Int32.ofNat iloop))])) _
      refine own_go (fun _ k => XS.icmpYes X23.here hx rfl (pc0 := 7) (pc' := 44) rfl (hb hby d_jdk_52_m21_7) rfl (flt hlt).2.1 (by decide) (by decide) k) ?_
      show own_Go p e below (T23.setTop (mkF m 44 #[.val (.ref a), .val (.int (Int32.ofNat iloop)), .val (.ref b), .val (.int (Int32.ofNat iloop)), .val (.int (Int32.ofNat cs.length)), .val (.int (Int32.ofNat iloop)), sl] [])) _
      refine own_go (fun _ k => XS.iload X23.here hx rfl (hb hby d_jdk_52_m21_44) rfl k) ?_
      show own_Go p e below (T23.setTop (mkF m 46 #[.val (.ref a), .val (.int (Int32.ofNat iloop)), .val (.ref b), .val (.int (Int32.ofNat iloop)), .val (.int (Int32.ofNat cs.length)), .val (.int (Int32.ofNat iloop)), sl] [(.int (Int32.ofNat cs.length))])) _
      refine own_fin (v := (some (.int (Int32.ofNat cs.length)))) X23 (fun h => by rw [hrt] at h; cases h) hlk (fun fs hr => retI X23 hx hrt (hb hby d_jdk_52_m21_46) hr) (QQ := QC5 Z b kb cs h0 n0) ?_ (by decide) (by decide)
      rw [e23]
      exact ⟨cs.length, rfl, N23, K23, Or.inl ⟨rfl, own_all (fun j hj => hall j (by omega)), by have q := J1_23; rw [hin, own_partn] at q; exact q⟩⟩
    | succ kT ih =>
      intro iloop sl T24 L24 h24 hik X24 e24 N24 O24 K24 J0_24 J1_24 hall hsl
      have Z0_24 : n0 ≤ h24.size := O24.1 ▸ O24.2.1
      have hi : iloop < cs.length := by omega
      have hlt : (Int32.ofNat iloop) < (Int32.ofNat cs.length) := (own_lti (by omega) (by omega)).mpr hi
      show own_Go p e below (T24.setTop (mkF m 3 #[.val (.ref a), .val (.int (Int32.ofNat iloop)), .val (.ref b), .val (.int (Int32.ofNat iloop)), .val (.int (Int32.ofNat cs.length)), .val (.int (Int32.ofNat iloop)), sl] [])) _
      refine own_go (fun _ k => XS.iload X24.here hx rfl (hb hby d_jdk_52_m21_3) rfl k) ?_
      show own_Go p e below (T24.setTop (mkF m 5 #[.val (.ref a), .val (.int (Int32.ofNat iloop)), .val (.ref b), .val (.int (Int32.ofNat iloop)), .val (.int (Int32.ofNat cs.length)), .val (.int (Int32.ofNat iloop)), sl] [(.int (Int32.ofNat iloop))])) _
      refine own_go (fun _ k => XS.iload X24.here hx rfl (hb hby d_jdk_52_m21_5) rfl k) ?_
      show own_Go p e below (T24.setTop (mkF m 7 #[.val (.ref a), .val (.int (Int32.ofNat iloop)), .val (.ref b), .val (.int (Int32.ofNat iloop)), .val (.int (Int32.ofNat cs.length)), .val (.int (Int32.ofNat iloop)), sl] [(.int (Int32.ofNat cs.length)), (.int (Int32.ofNat iloop))])) _
      refine own_go (fun _ k => XS.icmpNo X24.here hx rfl (hb hby d_jdk_52_m21_7) rfl (tlt hlt).2.1 k) ?_
      show own_Go p e below (T24.setTop (mkF m 10 #[.val (.ref a), .val (.int (Int32.ofNat iloop)), .val (.ref b), .val (.int (Int32.ofNat iloop)), .val (.int (Int32.ofNat cs.length)), .val (.int (Int32.ofNat iloop)), sl] [])) _
      refine own_go (fun _ k => XS.aloadN X24.here hx rfl (hb hby d_jdk_52_m21_10) rfl rfl k) ?_
      show own_Go p e below (T24.setTop (mkF m 11 #[.val (.ref a), .val (.int (Int32.ofNat iloop)), .val (.ref b), .val (.int (Int32.ofNat iloop)), .val (.int (Int32.ofNat cs.length)), .val (.int (Int32.ofNat iloop)), sl] [(.ref a)])) _
      refine own_go (fun _ k => XS.iloadN X24.here hx rfl (hb hby d_jdk_52_m21_11) rfl k) ?_
      show own_Go p e below (T24.setTop (mkF m 12 #[.val (.ref a), .val (.int (Int32.ofNat iloop)), .val (.ref b), .val (.int (Int32.ofNat iloop)), .val (.int (Int32.ofNat cs.length)), .val (.int (Int32.ofNat iloop)), sl] [(.int (Int32.ofNat iloop)), (.ref a)])) _
      obtain ⟨c25, A25, q25, S25, M25, Hs25, Gs25⟩ := id J0_24
      have hi25 := inb_of (j := (Int32.ofNat iloop)) S25 (own_inb hi (by omega))
      refine own_go (fun _ k => X24.caload hx (j := (Int32.ofNat iloop)) (v := (.int (cs.getD iloop 0))) (by rw [e24]; exact A25.1) (State.isArrayOf_alike hZ.alike A25.2.1) A25.2.2 hi25 (Has.at Hs25 hi25 (own_gd rfl hi (by omega))) (g := (mkF m 12 #[.val (.ref a), .val (.int (Int32.ofNat iloop)), .val (.ref b), .val (.int (Int32.ofNat iloop)), .val (.int (Int32.ofNat cs.length)), .val (.int (Int32.ofNat iloop)), sl] [(.int (Int32.ofNat iloop)), (.ref a)])) rfl rfl (hb hby d_jdk_52_m21_12) _ k) ?_
      show own_Go p e below (T24.setTop (mkF m 13 #[.val (.ref a), .val (.int (Int32.ofNat iloop)), .val (.ref b), .val (.int (Int32.ofNat iloop)), .val (.int (Int32.ofNat cs.length)), .val (.int (Int32.ofNat iloop)), sl] [(.int (cs.getD iloop 0))])) _
      refine own_go (fun _ k => XS.istoreS X24.here hx rfl (hb hby d_jdk_52_m21_13) rfl rfl hsl k) ?_
      show own_Go p e below (T24.setTop (mkF m 15 #[.val (.ref a), .val (.int (Int32.ofNat iloop)), .val (.ref b), .val (.int (Int32.ofNat iloop)), .val (.int (Int32.ofNat cs.length)), .val (.int (Int32.ofNat iloop)), .val (.int (cs.getD iloop 0))] [])) _
      refine own_go (fun _ k => XS.iload X24.here hx rfl (hb hby d_jdk_52_m21_15) rfl k) ?_
      show own_Go p e below (T24.setTop (mkF m 17 #[.val (.ref a), .val (.int (Int32.ofNat iloop)), .val (.ref b), .val (.int (Int32.ofNat iloop)), .val (.int (Int32.ofNat cs.length)), .val (.int (Int32.ofNat iloop)), .val (.int (cs.getD iloop 0))] [(.int (cs.getD iloop 0))])) _
      refine own_go (fun _ k => XS.sipush X24.here hx rfl (hb hby d_jdk_52_m21_17) k) ?_
      show own_Go p e below (T24.setTop (mkF m 20 #[.val (.ref a), .val (.int (Int32.ofNat iloop)), .val (.ref b), .val (.int (Int32.ofNat iloop)), .val (.int (Int32.ofNat cs.length)), .val (.int (Int32.ofNat iloop)), .val (.int (cs.getD iloop 0))] [(.int (255 : Int32)), (.int (cs.getD iloop 0))])) _
      by_cases hc26 : (255 : Int32) < (cs.getD iloop 0)
      · skip
        refine own_go (fun _ k => XS.icmpNo X24.here hx rfl (hb hby d_jdk_52_m21_20) rfl (tlt hc26).2.2.2 k) ?_
        show own_Go p e below (T24.setTop (mkF m 23 #[.val (.ref a), .val (.int (Int32.ofNat iloop)), .val (.ref b), .val (.int (Int32.ofNat iloop)), .val (.int (Int32.ofNat cs.length)), .val (.int (Int32.ofNat iloop)), .val (.int (cs.getD iloop 0))] [])) _
        refine own_go (fun _ k => XS.iload X24.here hx rfl (hb hby d_jdk_52_m21_23) rfl k) ?_
        show own_Go p e below (T24.setTop (mkF m 25 #[.val (.ref a), .val (.int (Int32.ofNat iloop)), .val (.ref b), .val (.int (Int32.ofNat iloop)), .val (.int (Int32.ofNat cs.length)), .val (.int (Int32.ofNat iloop)), .val (.int (cs.getD iloop 0))] [(.int (Int32.ofNat iloop))])) _
        refine own_fin (v := (some (.int (Int32.ofNat iloop)))) X24 (fun h => by rw [hrt] at h; cases h) hlk (fun fs hr => retI X24 hx hrt (hb hby d_jdk_52_m21_25) hr) (QQ := QC5 Z b kb cs h0 n0) ?_ (by decide) (by decide)
        rw [e24]
        exact ⟨iloop, rfl, N24, K24, Or.inr ⟨hi, hc26⟩⟩
      · skip
        refine own_go (fun _ k => XS.icmpYes X24.here hx rfl (pc0 := 20) (pc' := 26) rfl (hb hby d_jdk_52_m21_20) rfl (flt hc26).2.2.2 (by decide) (by decide) k) ?_
        show own_Go p e below (T24.setTop (mkF m 26 #[.val (.ref a), .val (.int (Int32.ofNat iloop)), .val (.ref b), .val (.int (Int32.ofNat iloop)), .val (.int (Int32.ofNat cs.length)), .val (.int (Int32.ofNat iloop)), .val (.int (cs.getD iloop 0))] [])) _
        refine own_go (fun _ k => XS.aloadN X24.here hx rfl (hb hby d_jdk_52_m21_26) rfl rfl k) ?_
        show own_Go p e below (T24.setTop (mkF m 27 #[.val (.ref a), .val (.int (Int32.ofNat iloop)), .val (.ref b), .val (.int (Int32.ofNat iloop)), .val (.int (Int32.ofNat cs.length)), .val (.int (Int32.ofNat iloop)), .val (.int (cs.getD iloop 0))] [(.ref b)])) _
        refine own_go (fun _ k => XS.iloadN X24.here hx rfl (hb hby d_jdk_52_m21_27) rfl k) ?_
        show own_Go p e below (T24.setTop (mkF m 28 #[.val (.ref a), .val (.int (Int32.ofNat iloop)), .val (.ref b), .val (.int (Int32.ofNat iloop)), .val (.int (Int32.ofNat cs.length)), .val (.int (Int32.ofNat iloop)), .val (.int (cs.getD iloop 0))] [(.int (Int32.ofNat iloop)), (.ref b)])) _
        refine own_go (fun _ k => XS.iload X24.here hx rfl (hb hby d_jdk_52_m21_28) rfl k) ?_
        show own_Go p e below (T24.setTop (mkF m 30 #[.val (.ref a), .val (.int (Int32.ofNat iloop)), .val (.ref b), .val (.int (Int32.ofNat iloop)), .val (.int (Int32.ofNat cs.length)), .val (.int (Int32.ofNat iloop)), .val (.int (cs.getD iloop 0))] [(.int (cs.getD iloop 0)), (.int (Int32.ofNat iloop)), (.ref b)])) _
        refine own_go (fun _ k => XS.i2b X24.here hx rfl (hb hby d_jdk_52_m21_30) rfl k) ?_
        show own_Go p e below (T24.setTop (mkF m 31 #[.val (.ref a), .val (.int (Int32.ofNat iloop)), .val (.ref b), .val (.int (Int32.ofNat iloop)), .val (.int (Int32.ofNat cs.length)), .val (.int (Int32.ofNat iloop)), .val (.int (cs.getD iloop 0))] [(.int ((cs.getD iloop 0).toInt8.toInt32)), (.int (Int32.ofNat iloop)), (.ref b)])) _
        obtain ⟨c27, A27, q27, S27, M27, Hs27, Gs27⟩ := id J1_24
        obtain ⟨T28, h28, X28, e28, W28, st28⟩ := stB X24 hx hZ e24 A27 (j := (Int32.ofNat iloop)) (inb_of S27 (own_inb hi (by omega))) (g := (mkF m 31 #[.val (.ref a), .val (.int (Int32.ofNat iloop)), .val (.ref b), .val (.int (Int32.ofNat iloop)), .val (.int (Int32.ofNat cs.length)), .val (.int (Int32.ofNat iloop)), .val (.int (cs.getD iloop 0))] [(.int ((cs.getD iloop 0).toInt8.toInt32)), (.int (Int32.ofNat iloop)), (.ref b)])) rfl rfl (hb hby d_jdk_52_m21_31)
        refine own_go st28 ?_
        have N28 := Fr.snoc X28 N24 g_b
        have V28 : Arv Z h28 b kb .byte (Int32.ofNat cs.length) (own_part cs (iloop + 1)) (.int (0 : Int32)) := Eq.mp (congrArg (fun LL => Arv Z h28 b kb .byte (Int32.ofNat cs.length) LL (.int (0 : Int32))) (show ((own_part cs iloop) : List Value).set iloop (.int (nar .byte ((cs.getD iloop 0).toInt8.toInt32))) = (own_part cs (iloop + 1)) from (by rw [own_nb]; exact own_set1 hi))) (Arv.set A27 q27 S27 M27 Hs27 Gs27 (fits_nar_byte _) W28 iloop (own_tn (by omega)) (by rw [own_partl (by omega)]; exact hi))
        show own_Go p e below (T28.setTop (mkF m 32 #[.val (.ref a), .val (.int (Int32.ofNat iloop)), .val (.ref b), .val (.int (Int32.ofNat iloop)), .val (.int (Int32.ofNat cs.length)), .val (.int (Int32.ofNat iloop)), .val (.int (cs.getD iloop 0))] [])) _
        refine own_go (fun _ k => XS.iinc X28.here hx rfl (hb hby d_jdk_52_m21_32) rfl (l' := #[.val (.ref a), .val (.int ((Int32.ofNat iloop) + (1 : Int32))), .val (.ref b), .val (.int (Int32.ofNat iloop)), .val (.int (Int32.ofNat cs.length)), .val (.int (Int32.ofNat iloop)), .val (.int (cs.getD iloop 0))]) rfl k) ?_
        show own_Go p e below (T28.setTop (mkF m 35 #[.val (.ref a), .val (.int ((Int32.ofNat iloop) + (1 : Int32))), .val (.ref b), .val (.int (Int32.ofNat iloop)), .val (.int (Int32.ofNat cs.length)), .val (.int (Int32.ofNat iloop)), .val (.int (cs.getD iloop 0))] [])) _
        refine own_go (fun _ k => XS.iinc X28.here hx rfl (hb hby d_jdk_52_m21_35) rfl (l' := #[.val (.ref a), .val (.int ((Int32.ofNat iloop) + (1 : Int32))), .val (.ref b), .val (.int ((Int32.ofNat iloop) + (1 : Int32))), .val (.int (Int32.ofNat cs.length)), .val (.int (Int32.ofNat iloop)), .val (.int (cs.getD iloop 0))]) rfl k) ?_
        show own_Go p e below (T28.setTop (mkF m 38 #[.val (.ref a), .val (.int ((Int32.ofNat iloop) + (1 : Int32))), .val (.ref b), .val (.int ((Int32.ofNat iloop) + (1 : Int32))), .val (.int (Int32.ofNat cs.length)), .val (.int (Int32.ofNat iloop)), .val (.int (cs.getD iloop 0))] [])) _
        refine own_go (fun _ k => XS.iinc X28.here hx rfl (hb hby d_jdk_52_m21_38) rfl (l' := #[.val (.ref a), .val (.int ((Int32.ofNat iloop) + (1 : Int32))), .val (.ref b), .val (.int ((Int32.ofNat iloop) + (1 : Int32))), .val (.int (Int32.ofNat cs.length)), .val (.int ((Int32.ofNat iloop) + (1 : Int32))), .val (.int (cs.getD iloop 0))]) rfl k) ?_
        show own_Go p e below (T28.setTop (mkF m 41 #[.val (.ref a), .val (.int ((Int32.ofNat iloop) + (1 : Int32))), .val (.ref b), .val (.int ((Int32.ofNat iloop) + (1 : Int32))), .val (.int (Int32.ofNat cs.length)), .val (.int ((Int32.ofNat iloop) + (1 : Int32))), .val (.int (cs.getD iloop 0))] [])) _
        refine own_go (fun _ k => XS.goto X28.here hx rfl (pc0 := 41) (pc' := 3) rfl (hb hby d_jdk_52_m21_41) (by decide) (by decide) k) ?_
        show own_Go p e below (T28.setTop (mkF m 3 #[.val (.ref a), .val (.int ((Int32.ofNat iloop) + (1 : Int32))), .val (.ref b), .val (.int ((Int32.ofNat iloop) + (1 : Int32))), .val (.int (Int32.ofNat cs.length)), .val (.int ((Int32.ofNat iloop) + (1 : Int32))), .val (.int (cs.getD iloop 0))] [])) _
        rw [own_inc]
        have f29 := (K24.wr W28 (Or.inl (List.mem_of_getElem? (i := 0) rfl)))
        exact ih (iloop + 1) (.val (.int (cs.getD iloop 0))) T28 _ h28 (by omega) X28 e28 N28 (O24.wr W28 g_b) f29 (J0_24.other W28 hab) V28 (fun j hj => (Nat.lt_succ_iff_lt_or_eq.mp hj).elim (fun q => hall j q) (fun q => q ▸ hc26)) (Or.inr ⟨_, rfl, rfl⟩)
  exact loop (cs.length) 0 .unset s₁ _ h0 (by omega) X0 e0 N0 O0 (Keep.refl h0 [b]) V_a (own_part0 cs ▸ V_b) (fun j hj => absurd hj (Nat.not_lt_zero _)) (Or.inl rfl)

theorem d_jdk_52_m4_0 : decode jdk_52_method_4_code 0 = .ok (.getstatic 44, 3) := by decide +kernel
theorem d_jdk_52_m4_3 : decode jdk_52_method_4_code 3 = .ok (.ifCond .ne 25, 3) := by decide +kernel
theorem d_jdk_52_m4_28 : decode jdk_52_method_4_code 28 = .ok (.iload_n 1, 1) := by decide +kernel
theorem d_jdk_52_m4_29 : decode jdk_52_method_4_code 29 = .ok (.iconst 1, 1) := by decide +kernel
theorem d_jdk_52_m4_30 : decode jdk_52_method_4_code 30 = .ok (.ishl, 1) := by decide +kernel
theorem d_jdk_52_m4_31 : decode jdk_52_method_4_code 31 = .ok (.istore_n 1, 1) := by decide +kernel
theorem d_jdk_52_m4_32 : decode jdk_52_method_4_code 32 = .ok (.aload_n 0, 1) := by decide +kernel
theorem d_jdk_52_m4_33 : decode jdk_52_method_4_code 33 = .ok (.iload_n 1, 1) := by decide +kernel
theorem d_jdk_52_m4_34 : decode jdk_52_method_4_code 34 = .ok (.iinc 1 1, 3) := by decide +kernel
theorem d_jdk_52_m4_37 : decode jdk_52_method_4_code 37 = .ok (.iload_n 2, 1) := by decide +kernel
theorem d_jdk_52_m4_38 : decode jdk_52_method_4_code 38 = .ok (.getstatic 59, 3) := by decide +kernel
theorem d_jdk_52_m4_41 : decode jdk_52_method_4_code 41 = .ok (.ishr, 1) := by decide +kernel
theorem d_jdk_52_m4_42 : decode jdk_52_method_4_code 42 = .ok (.i2b, 1) := by decide +kernel
theorem d_jdk_52_m4_43 : decode jdk_52_method_4_code 43 = .ok (.bastore, 1) := by decide +kernel
theorem d_jdk_52_m4_44 : decode jdk_52_method_4_code 44 = .ok (.aload_n 0, 1) := by decide +kernel
theorem d_jdk_52_m4_45 : decode jdk_52_method_4_code 45 = .ok (.iload_n 1, 1) := by decide +kernel
theorem d_jdk_52_m4_46 : decode jdk_52_method_4_code 46 = .ok (.iload_n 2, 1) := by decide +kernel
theorem d_jdk_52_m4_47 : decode jdk_52_method_4_code 47 = .ok (.getstatic 63, 3) := by decide +kernel
theorem d_jdk_52_m4_50 : decode jdk_52_method_4_code 50 = .ok (.ishr, 1) := by decide +kernel
theorem d_jdk_52_m4_51 : decode jdk_52_method_4_code 51 = .ok (.i2b, 1) := by decide +kernel
theorem d_jdk_52_m4_52 : decode jdk_52_method_4_code 52 = .ok (.bastore, 1) := by decide +kernel
theorem d_jdk_52_m4_53 : decode jdk_52_method_4_code 53 = .ok (.return_, 1) := by decide +kernel
theorem ef_rm_put (m : MethodId) (x0 : Addr) (x1 : Int32) (x2 : Int32) : entryFrame m #[(.ref x0), (.int x1), (.int x2)] 3 = mkF m 0 #[.val (.ref x0), .val (.int x1), .val (.int x2)] [] := by
   first | (simp [entryFrame, mkF, argsToLocals, Value.category]; done) | rfl
set_option maxRecDepth 65536 in
set_option maxHeartbeats 40000000 in
theorem rm_put (l : Launch) (Z : State) (a0 : Array Value) (hw : ∀ d ∈ tables_1, d.before a0 Z = true) (ws : List Jvm.Cond) (b : Addr) (kb : ClassId) (N : Nat) (vs : List Value) (i : Nat) (c : Int32) (h0 : Heap) (n0 : Nat) (O0 : Old Z n0 h0) (OA : Sta Z Z.heap "java/lang/StringUTF16" "$assertionsDisabled" "Z" (.int (1 : Int32))) (OH : Sta Z Z.heap "java/lang/StringUTF16" "HI_BYTE_SHIFT" "I" (.int (0 : Int32))) (OL : Sta Z Z.heap "java/lang/StringUTF16" "LO_BYTE_SHIFT" "I" (.int (8 : Int32))) (V_b : Arv Z h0 b kb .byte (Int32.ofNat N) vs (.int (0 : Int32))) (g_b : n0 ≤ b) (hv : vs.length = N) (hi : 2 * i + 1 < N) (hN : N ≤ 8000) :
    MetFree l (⟨"java/lang/StringUTF16", "putChar", "([BII)V"⟩ : MethodName) (head1 (Jvm.Cond.code (⟨"java/lang/StringUTF16", "putChar", "([BII)V"⟩ : MethodName) jdk_52_method_4_code 3 none :: ws) ({ frames := 0, cells := 0, slots := 0, locals := 0 } : Room)) (fun aA U => aA = #[(.ref b), (.int (Int32.ofNat i)), (.int c)] ∧ Z.Warmed39 U.vm ∧ U.heap = h0) (fun _ _ _ _ _ => True) (fun _ U oO U' => ∃ rV rL, oO = .returned rV ∧ QPut Z b kb (Int32.ofNat N) ((vs.set (2 * i) (.int (StrChars.lo8 c))).set (2 * i + 1) (.int (StrChars.hi8 c))) h0 n0 rV U'.heap rL ∧ FrameEnd U oO U' rL 0 0) := by
  refine MetFree.of_bodySF (plainFor_of_name pn_1) hisR ?_
  intro p e s m args below meth cC s₁ Bd hml0 hP hK
  obtain ⟨rfl, hZ, hh⟩ := hP
  have hx := Bd.exec
  have hby := Bd.bytes
  have hml : cC.maxLocals = 3 := hml0
  have hown : s.vm.findClass "java/lang/StringUTF16" = some m.cls := findClass_of_methodNamed Bd.named
  have hnm := (name_of_methodNamed Bd.named Bd.method).1
  have hrt := Bd.returns
  have hlk : meth.locks = false := Bd.notSynchronized
  have X0 : Stand p l e ({ frames := 0, cells := 0, slots := 0, locals := 0 } : Room) s m #[(.ref b), (.int (Int32.ofNat i)), (.int c)] below meth cC s₁ [] 0 0 := Stand.of_body Bd
  have e0 : s₁.heap = h0 := by rw [← hh, Bd.state]; rfl
  have N0 := Fr.nil n0
  have Z0 : n0 ≤ h0.size := O0.1 ▸ O0.2.1
  show own_Go p e below (s₁.setTop (entryFrame m #[(.ref b), (.int (Int32.ofNat i)), (.int c)] 3)) (fun oO U' => ∃ rV rL, oO = .returned rV ∧ QPut Z b kb (Int32.ofNat N) ((vs.set (2 * i) (.int (StrChars.lo8 c))).set (2 * i + 1) (.int (StrChars.hi8 c))) h0 n0 rV U'.heap rL ∧ FrameEnd s oO U' rL 0 0)
  refine own_go (fun _ k => castTop (ef_rm_put m b _ c) k) ?_
  show own_Go p e below (s₁.setTop (mkF m 0 #[.val (.ref b), .val (.int (Int32.ofNat i)), .val (.int c)] [])) _
  obtain ⟨T30, X30, e30, st30⟩ := getS2 X0 hx hZ hown (host := "") (Or.inl (hw _ (List.mem_of_getElem? (i := 95) rfl))) Via.refl e0 (OA.ext O0.2) (g := (mkF m 0 #[.val (.ref b), .val (.int (Int32.ofNat i)), .val (.int c)] [])) rfl (hb hby d_jdk_52_m4_0)
  refine own_go st30 ?_
  show own_Go p e below (T30.setTop (mkF m 3 #[.val (.ref b), .val (.int (Int32.ofNat i)), .val (.int c)] [(.int (1 : Int32))])) _
  refine own_go (fun _ k => XS.ifYes X30.here hx rfl (pc0 := 3) (pc' := 28) rfl (hb hby d_jdk_52_m4_3) rfl ((if0 _ _).trans (feq (by decide : ¬ ((1 : Int32) = (0 : Int32)))).2) (by decide) (by decide) k) ?_
  show own_Go p e below (T30.setTop (mkF m 28 #[.val (.ref b), .val (.int (Int32.ofNat i)), .val (.int c)] [])) _
  refine own_go (fun _ k => XS.iloadN X30.here hx rfl (hb hby d_jdk_52_m4_28) rfl k) ?_
  show own_Go p e below (T30.setTop (mkF m 29 #[.val (.ref b), .val (.int (Int32.ofNat i)), .val (.int c)] [(.int (Int32.ofNat i))])) _
  refine own_go (fun _ k => XS.iconst X30.here hx rfl (hb hby d_jdk_52_m4_29) k) ?_
  show own_Go p e below (T30.setTop (mkF m 30 #[.val (.ref b), .val (.int (Int32.ofNat i)), .val (.int c)] [(.int (1 : Int32)), (.int (Int32.ofNat i))])) _
  refine own_go (fun _ k => XS.ishl X30.here hx rfl (hb hby d_jdk_52_m4_30) rfl k) ?_
  show own_Go p e below (T30.setTop (mkF m 31 #[.val (.ref b), .val (.int (Int32.ofNat i)), .val (.int c)] [(.int ((Int32.ofNat i) <<< ((1 : Int32) &&& 31)))])) _
  rw [own_shl1 (by omega : i ≤ 4000)]
  show own_Go p e below (T30.setTop (mkF m 31 #[.val (.ref b), .val (.int (Int32.ofNat i)), .val (.int c)] [(.int (Int32.ofNat (2 * i)))])) _
  refine own_go (fun _ k => XS.istoreN X30.here hx rfl (hb hby d_jdk_52_m4_31) rfl (l' := #[.val (.ref b), .val (.int (Int32.ofNat (2 * i))), .val (.int c)]) rfl k) ?_
  show own_Go p e below (T30.setTop (mkF m 32 #[.val (.ref b), .val (.int (Int32.ofNat (2 * i))), .val (.int c)] [])) _
  refine own_go (fun _ k => XS.aloadN X30.here hx rfl (hb hby d_jdk_52_m4_32) rfl rfl k) ?_
  show own_Go p e below (T30.setTop (mkF m 33 #[.val (.ref b), .val (.int (Int32.ofNat (2 * i))), .val (.int c)] [(.ref b)])) _
  refine own_go (fun _ k => XS.iloadN X30.here hx rfl (hb hby d_jdk_52_m4_33) rfl k) ?_
  show own_Go p e below (T30.setTop (mkF m 34 #[.val (.ref b), .val (.int (Int32.ofNat (2 * i))), .val (.int c)] [(.int (Int32.ofNat (2 * i))), (.ref b)])) _
  refine own_go (fun _ k => XS.iinc X30.here hx rfl (hb hby d_jdk_52_m4_34) rfl (l' := #[.val (.ref b), .val (.int ((Int32.ofNat (2 * i)) + (1 : Int32))), .val (.int c)]) rfl k) ?_
  show own_Go p e below (T30.setTop (mkF m 37 #[.val (.ref b), .val (.int ((Int32.ofNat (2 * i)) + (1 : Int32))), .val (.int c)] [(.int (Int32.ofNat (2 * i))), (.ref b)])) _
  rw [own_inc]
  show own_Go p e below (T30.setTop (mkF m 37 #[.val (.ref b), .val (.int (Int32.ofNat (2 * i + 1))), .val (.int c)] [(.int (Int32.ofNat (2 * i))), (.ref b)])) _
  refine own_go (fun _ k => XS.iloadN X30.here hx rfl (hb hby d_jdk_52_m4_37) rfl k) ?_
  show own_Go p e below (T30.setTop (mkF m 38 #[.val (.ref b), .val (.int (Int32.ofNat (2 * i + 1))), .val (.int c)] [(.int c), (.int (Int32.ofNat (2 * i))), (.ref b)])) _
  obtain ⟨T31, X31, e31, st31⟩ := getS2 X30 hx hZ hown (host := "") (Or.inl (hw _ (List.mem_of_getElem? (i := 96) rfl))) Via.refl e30 (OH.ext O0.2) (g := (mkF m 38 #[.val (.ref b), .val (.int (Int32.ofNat (2 * i + 1))), .val (.int c)] [(.int c), (.int (Int32.ofNat (2 * i))), (.ref b)])) rfl (hb hby d_jdk_52_m4_38)
  refine own_go st31 ?_
  show own_Go p e below (T31.setTop (mkF m 41 #[.val (.ref b), .val (.int (Int32.ofNat (2 * i + 1))), .val (.int c)] [(.int (0 : Int32)), (.int c), (.int (Int32.ofNat (2 * i))), (.ref b)])) _
  refine own_go (fun _ k => XS.ishr X31.here hx rfl (hb hby d_jdk_52_m4_41) rfl k) ?_
  show own_Go p e below (T31.setTop (mkF m 42 #[.val (.ref b), .val (.int (Int32.ofNat (2 * i + 1))), .val (.int c)] [(.int (c >>> ((0 : Int32) &&& 31))), (.int (Int32.ofNat (2 * i))), (.ref b)])) _
  refine own_go (fun _ k => XS.i2b X31.here hx rfl (hb hby d_jdk_52_m4_42) rfl k) ?_
  show own_Go p e below (T31.setTop (mkF m 43 #[.val (.ref b), .val (.int (Int32.ofNat (2 * i + 1))), .val (.int c)] [(.int ((c >>> ((0 : Int32) &&& 31)).toInt8.toInt32)), (.int (Int32.ofNat (2 * i))), (.ref b)])) _
  obtain ⟨c32, A32, q32, S32, M32, Hs32, Gs32⟩ := id V_b
  obtain ⟨T33, h33, X33, e33, W33, st33⟩ := stB X31 hx hZ e31 A32 (j := (Int32.ofNat (2 * i))) (inb_of S32 (own_inb (by omega) (by omega))) (g := (mkF m 43 #[.val (.ref b), .val (.int (Int32.ofNat (2 * i + 1))), .val (.int c)] [(.int ((c >>> ((0 : Int32) &&& 31)).toInt8.toInt32)), (.int (Int32.ofNat (2 * i))), (.ref b)])) rfl rfl (hb hby d_jdk_52_m4_43)
  refine own_go st33 ?_
  have N33 := Fr.snoc X33 N0 g_b
  have V33 : Arv Z h33 b kb .byte (Int32.ofNat N) (vs.set (2 * i) (.int (StrChars.lo8 c))) (.int (0 : Int32)) := Eq.mp (congrArg (fun LL => Arv Z h33 b kb .byte (Int32.ofNat N) LL (.int (0 : Int32))) (show (vs : List Value).set (2 * i) (.int (nar .byte ((c >>> ((0 : Int32) &&& 31)).toInt8.toInt32))) = (vs.set (2 * i) (.int (StrChars.lo8 c))) from (by rw [own_nb, StrChars.shr0]; rfl))) (Arv.set A32 q32 S32 M32 Hs32 Gs32 (fits_nar_byte _) W33 (2 * i) (own_tn (by omega)) (by omega))
  show own_Go p e below (T33.setTop (mkF m 44 #[.val (.ref b), .val (.int (Int32.ofNat (2 * i + 1))), .val (.int c)] [])) _
  refine own_go (fun _ k => XS.aloadN X33.here hx rfl (hb hby d_jdk_52_m4_44) rfl rfl k) ?_
  show own_Go p e below (T33.setTop (mkF m 45 #[.val (.ref b), .val (.int (Int32.ofNat (2 * i + 1))), .val (.int c)] [(.ref b)])) _
  refine own_go (fun _ k => XS.iloadN X33.here hx rfl (hb hby d_jdk_52_m4_45) rfl k) ?_
  show own_Go p e below (T33.setTop (mkF m 46 #[.val (.ref b), .val (.int (Int32.ofNat (2 * i + 1))), .val (.int c)] [(.int (Int32.ofNat (2 * i + 1))), (.ref b)])) _
  refine own_go (fun _ k => XS.iloadN X33.here hx rfl (hb hby d_jdk_52_m4_46) rfl k) ?_
  show own_Go p e below (T33.setTop (mkF m 47 #[.val (.ref b), .val (.int (Int32.ofNat (2 * i + 1))), .val (.int c)] [(.int c), (.int (Int32.ofNat (2 * i + 1))), (.ref b)])) _
  obtain ⟨T34, X34, e34, st34⟩ := getS2 X33 hx hZ hown (host := "") (Or.inl (hw _ (List.mem_of_getElem? (i := 97) rfl))) Via.refl e33 (OL.ext (O0.wr W33 g_b).2) (g := (mkF m 47 #[.val (.ref b), .val (.int (Int32.ofNat (2 * i + 1))), .val (.int c)] [(.int c), (.int (Int32.ofNat (2 * i + 1))), (.ref b)])) rfl (hb hby d_jdk_52_m4_47)
  refine own_go st34 ?_
  show own_Go p e below (T34.setTop (mkF m 50 #[.val (.ref b), .val (.int (Int32.ofNat (2 * i + 1))), .val (.int c)] [(.int (8 : Int32)), (.int c), (.int (Int32.ofNat (2 * i + 1))), (.ref b)])) _
  refine own_go (fun _ k => XS.ishr X34.here hx rfl (hb hby d_jdk_52_m4_50) rfl k) ?_
  show own_Go p e below (T34.setTop (mkF m 51 #[.val (.ref b), .val (.int (Int32.ofNat (2 * i + 1))), .val (.int c)] [(.int (c >>> ((8 : Int32) &&& 31))), (.int (Int32.ofNat (2 * i + 1))), (.ref b)])) _
  refine own_go (fun _ k => XS.i2b X34.here hx rfl (hb hby d_jdk_52_m4_51) rfl k) ?_
  show own_Go p e below (T34.setTop (mkF m 52 #[.val (.ref b), .val (.int (Int32.ofNat (2 * i + 1))), .val (.int c)] [(.int ((c >>> ((8 : Int32) &&& 31)).toInt8.toInt32)), (.int (Int32.ofNat (2 * i + 1))), (.ref b)])) _
  obtain ⟨c35, A35, q35, S35, M35, Hs35, Gs35⟩ := id V33
  obtain ⟨T36, h36, X36, e36, W36, st36⟩ := stB X34 hx hZ e34 A35 (j := (Int32.ofNat (2 * i + 1))) (inb_of S35 (own_inb (by omega) (by omega))) (g := (mkF m 52 #[.val (.ref b), .val (.int (Int32.ofNat (2 * i + 1))), .val (.int c)] [(.int ((c >>> ((8 : Int32) &&& 31)).toInt8.toInt32)), (.int (Int32.ofNat (2 * i + 1))), (.ref b)])) rfl rfl (hb hby d_jdk_52_m4_52)
  refine own_go st36 ?_
  have N36 := Fr.snoc X36 N33 g_b
  have V36 : Arv Z h36 b kb .byte (Int32.ofNat N) ((vs.set (2 * i) (.int (StrChars.lo8 c))).set (2 * i + 1) (.int (StrChars.hi8 c))) (.int (0 : Int32)) := Eq.mp (congrArg (fun LL => Arv Z h36 b kb .byte (Int32.ofNat N) LL (.int (0 : Int32))) (show ((vs.set (2 * i) (.int (StrChars.lo8 c))) : List Value).set (2 * i + 1) (.int (nar .byte ((c >>> ((8 : Int32) &&& 31)).toInt8.toInt32))) = ((vs.set (2 * i) (.int (StrChars.lo8 c))).set (2 * i + 1) (.int (StrChars.hi8 c))) from (by rw [own_nb]; rfl))) (Arv.set A35 q35 S35 M35 Hs35 Gs35 (fits_nar_byte _) W36 (2 * i + 1) (own_tn (by omega)) (by rw [List.length_set]; omega))
  show own_Go p e below (T36.setTop (mkF m 53 #[.val (.ref b), .val (.int (Int32.ofNat (2 * i + 1))), .val (.int c)] [])) _
  have f37 := (((Keep.refl h0 [b]).wr W33 (Or.inl (List.mem_of_getElem? (i := 0) rfl))).wr W36 (Or.inl (List.mem_of_getElem? (i := 0) rfl)))
  refine own_fin (v := none) X36 (fun _ => rfl) hlk (fun fs hr => X36.returnOut hx hrt (hb hby d_jdk_52_m4_53) hr) (QQ := QPut Z b kb (Int32.ofNat N) ((vs.set (2 * i) (.int (StrChars.lo8 c))).set (2 * i + 1) (.int (StrChars.hi8 c))) h0 n0) ?_ (by decide) (by decide)
  rw [e36]
  exact ⟨rfl, N36, f37, V36⟩

theorem d_jdk_52_m5_0 : decode jdk_52_method_5_code 0 = .ok (.getstatic 44, 3) := by decide +kernel
theorem d_jdk_52_m5_3 : decode jdk_52_method_5_code 3 = .ok (.ifCond .ne 25, 3) := by decide +kernel
theorem d_jdk_52_m5_28 : decode jdk_52_method_5_code 28 = .ok (.iload_n 1, 1) := by decide +kernel
theorem d_jdk_52_m5_29 : decode jdk_52_method_5_code 29 = .ok (.iconst 1, 1) := by decide +kernel
theorem d_jdk_52_m5_30 : decode jdk_52_method_5_code 30 = .ok (.ishl, 1) := by decide +kernel
theorem d_jdk_52_m5_31 : decode jdk_52_method_5_code 31 = .ok (.istore_n 1, 1) := by decide +kernel
theorem d_jdk_52_m5_32 : decode jdk_52_method_5_code 32 = .ok (.aload_n 0, 1) := by decide +kernel
theorem d_jdk_52_m5_33 : decode jdk_52_method_5_code 33 = .ok (.iload_n 1, 1) := by decide +kernel
theorem d_jdk_52_m5_34 : decode jdk_52_method_5_code 34 = .ok (.iinc 1 1, 3) := by decide +kernel
theorem d_jdk_52_m5_37 : decode jdk_52_method_5_code 37 = .ok (.baload, 1) := by decide +kernel
theorem d_jdk_52_m5_38 : decode jdk_52_method_5_code 38 = .ok (.sipush 255, 3) := by decide +kernel
theorem d_jdk_52_m5_41 : decode jdk_52_method_5_code 41 = .ok (.iand, 1) := by decide +kernel
theorem d_jdk_52_m5_42 : decode jdk_52_method_5_code 42 = .ok (.getstatic 59, 3) := by decide +kernel
theorem d_jdk_52_m5_45 : decode jdk_52_method_5_code 45 = .ok (.ishl, 1) := by decide +kernel
theorem d_jdk_52_m5_46 : decode jdk_52_method_5_code 46 = .ok (.aload_n 0, 1) := by decide +kernel
theorem d_jdk_52_m5_47 : decode jdk_52_method_5_code 47 = .ok (.iload_n 1, 1) := by decide +kernel
theorem d_jdk_52_m5_48 : decode jdk_52_method_5_code 48 = .ok (.baload, 1) := by decide +kernel
theorem d_jdk_52_m5_49 : decode jdk_52_method_5_code 49 = .ok (.sipush 255, 3) := by decide +kernel
theorem d_jdk_52_m5_52 : decode jdk_52_method_5_code 52 = .ok (.iand, 1) := by decide +kernel
theorem d_jdk_52_m5_53 : decode jdk_52_method_5_code 53 = .ok (.getstatic 63, 3) := by decide +kernel
theorem d_jdk_52_m5_56 : decode jdk_52_method_5_code 56 = .ok (.ishl, 1) := by decide +kernel
theorem d_jdk_52_m5_57 : decode jdk_52_method_5_code 57 = .ok (.ior, 1) := by decide +kernel
theorem d_jdk_52_m5_58 : decode jdk_52_method_5_code 58 = .ok (.i2c, 1) := by decide +kernel
theorem d_jdk_52_m5_59 : decode jdk_52_method_5_code 59 = .ok (.ireturn, 1) := by decide +kernel
theorem ef_rm_get (m : MethodId) (x0 : Addr) (x1 : Int32) : entryFrame m #[(.ref x0), (.int x1)] 2 = mkF m 0 #[.val (.ref x0), .val (.int x1)] [] := by
   first | (simp [entryFrame, mkF, argsToLocals, Value.category]; done) | rfl
set_option maxRecDepth 65536 in
set_option maxHeartbeats 40000000 in
theorem rm_get (l : Launch) (Z : State) (a0 : Array Value) (hw : ∀ d ∈ tables_1, d.before a0 Z = true) (ws : List Jvm.Cond) (b : Addr) (kb : ClassId) (N : Nat) (vs : List Value) (i : Nat) (c : Int32) (h0 : Heap) (n0 : Nat) (O0 : Old Z n0 h0) (OA : Sta Z Z.heap "java/lang/StringUTF16" "$assertionsDisabled" "Z" (.int (1 : Int32))) (OH : Sta Z Z.heap "java/lang/StringUTF16" "HI_BYTE_SHIFT" "I" (.int (0 : Int32))) (OL : Sta Z Z.heap "java/lang/StringUTF16" "LO_BYTE_SHIFT" "I" (.int (8 : Int32))) (V_b : Arv Z h0 b kb .byte (Int32.ofNat N) vs (.int (0 : Int32))) (h1 : vs.getD (2 * i) (.int (0 : Int32)) = .int (StrChars.lo8 c)) (h2 : vs.getD (2 * i + 1) (.int (0 : Int32)) = .int (StrChars.hi8 c)) (hi : 2 * i + 1 < N) (hN : N ≤ 8000) (hc : ¬ c < 0 ∧ ¬ (65535 : Int32) < c) :
    MetFree l (⟨"java/lang/StringUTF16", "getChar", "([BI)C"⟩ : MethodName) (head1 (Jvm.Cond.code (⟨"java/lang/StringUTF16", "getChar", "([BI)C"⟩ : MethodName) jdk_52_method_5_code 2 (some .char) :: ws) ({ frames := 0, cells := 0, slots := 0, locals := 0 } : Room)) (fun aA U => aA = #[(.ref b), (.int (Int32.ofNat i))] ∧ Z.Warmed39 U.vm ∧ U.heap = h0) (fun _ _ _ _ _ => True) (fun _ U oO U' => ∃ rV rL, oO = .returned rV ∧ QPure (some (.int c)) h0 n0 rV U'.heap rL ∧ FrameEnd U oO U' rL 0 0) := by
  refine MetFree.of_bodySF (plainFor_of_name pn_1) hisR ?_
  intro p e s m args below meth cC s₁ Bd hml0 hP hK
  obtain ⟨rfl, hZ, hh⟩ := hP
  have hx := Bd.exec
  have hby := Bd.bytes
  have hml : cC.maxLocals = 2 := hml0
  have hown : s.vm.findClass "java/lang/StringUTF16" = some m.cls := findClass_of_methodNamed Bd.named
  have hnm := (name_of_methodNamed Bd.named Bd.method).1
  have hrt := Bd.returns
  have hlk : meth.locks = false := Bd.notSynchronized
  have X0 : Stand p l e ({ frames := 0, cells := 0, slots := 0, locals := 0 } : Room) s m #[(.ref b), (.int (Int32.ofNat i))] below meth cC s₁ [] 0 0 := Stand.of_body Bd
  have e0 : s₁.heap = h0 := by rw [← hh, Bd.state]; rfl
  have N0 := Fr.nil n0
  have Z0 : n0 ≤ h0.size := O0.1 ▸ O0.2.1
  show own_Go p e below (s₁.setTop (entryFrame m #[(.ref b), (.int (Int32.ofNat i))] 2)) (fun oO U' => ∃ rV rL, oO = .returned rV ∧ QPure (some (.int c)) h0 n0 rV U'.heap rL ∧ FrameEnd s oO U' rL 0 0)
  refine own_go (fun _ k => castTop (ef_rm_get m b _) k) ?_
  show own_Go p e below (s₁.setTop (mkF m 0 #[.val (.ref b), .val (.int (Int32.ofNat i))] [])) _
  obtain ⟨T38, X38, e38, st38⟩ := getS2 X0 hx hZ hown (host := "") (Or.inl (hw _ (List.mem_of_getElem? (i := 95) rfl))) Via.refl e0 (OA.ext O0.2) (g := (mkF m 0 #[.val (.ref b), .val (.int (Int32.ofNat i))] [])) rfl (hb hby d_jdk_52_m5_0)
  refine own_go st38 ?_
  show own_Go p e below (T38.setTop (mkF m 3 #[.val (.ref b), .val (.int (Int32.ofNat i))] [(.int (1 : Int32))])) _
  refine own_go (fun _ k => XS.ifYes X38.here hx rfl (pc0 := 3) (pc' := 28) rfl (hb hby d_jdk_52_m5_3) rfl ((if0 _ _).trans (feq (by decide : ¬ ((1 : Int32) = (0 : Int32)))).2) (by decide) (by decide) k) ?_
  show own_Go p e below (T38.setTop (mkF m 28 #[.val (.ref b), .val (.int (Int32.ofNat i))] [])) _
  refine own_go (fun _ k => XS.iloadN X38.here hx rfl (hb hby d_jdk_52_m5_28) rfl k) ?_
  show own_Go p e below (T38.setTop (mkF m 29 #[.val (.ref b), .val (.int (Int32.ofNat i))] [(.int (Int32.ofNat i))])) _
  refine own_go (fun _ k => XS.iconst X38.here hx rfl (hb hby d_jdk_52_m5_29) k) ?_
  show own_Go p e below (T38.setTop (mkF m 30 #[.val (.ref b), .val (.int (Int32.ofNat i))] [(.int (1 : Int32)), (.int (Int32.ofNat i))])) _
  refine own_go (fun _ k => XS.ishl X38.here hx rfl (hb hby d_jdk_52_m5_30) rfl k) ?_
  show own_Go p e below (T38.setTop (mkF m 31 #[.val (.ref b), .val (.int (Int32.ofNat i))] [(.int ((Int32.ofNat i) <<< ((1 : Int32) &&& 31)))])) _
  rw [own_shl1 (by omega : i ≤ 4000)]
  show own_Go p e below (T38.setTop (mkF m 31 #[.val (.ref b), .val (.int (Int32.ofNat i))] [(.int (Int32.ofNat (2 * i)))])) _
  refine own_go (fun _ k => XS.istoreN X38.here hx rfl (hb hby d_jdk_52_m5_31) rfl (l' := #[.val (.ref b), .val (.int (Int32.ofNat (2 * i)))]) rfl k) ?_
  show own_Go p e below (T38.setTop (mkF m 32 #[.val (.ref b), .val (.int (Int32.ofNat (2 * i)))] [])) _
  refine own_go (fun _ k => XS.aloadN X38.here hx rfl (hb hby d_jdk_52_m5_32) rfl rfl k) ?_
  show own_Go p e below (T38.setTop (mkF m 33 #[.val (.ref b), .val (.int (Int32.ofNat (2 * i)))] [(.ref b)])) _
  refine own_go (fun _ k => XS.iloadN X38.here hx rfl (hb hby d_jdk_52_m5_33) rfl k) ?_
  show own_Go p e below (T38.setTop (mkF m 34 #[.val (.ref b), .val (.int (Int32.ofNat (2 * i)))] [(.int (Int32.ofNat (2 * i))), (.ref b)])) _
  refine own_go (fun _ k => XS.iinc X38.here hx rfl (hb hby d_jdk_52_m5_34) rfl (l' := #[.val (.ref b), .val (.int ((Int32.ofNat (2 * i)) + (1 : Int32)))]) rfl k) ?_
  show own_Go p e below (T38.setTop (mkF m 37 #[.val (.ref b), .val (.int ((Int32.ofNat (2 * i)) + (1 : Int32)))] [(.int (Int32.ofNat (2 * i))), (.ref b)])) _
  rw [own_inc]
  show own_Go p e below (T38.setTop (mkF m 37 #[.val (.ref b), .val (.int (Int32.ofNat (2 * i + 1)))] [(.int (Int32.ofNat (2 * i))), (.ref b)])) _
  obtain ⟨c39, A39, q39, S39, M39, Hs39, Gs39⟩ := id V_b
  have hi39 := inb_of (j := (Int32.ofNat (2 * i))) S39 (own_inb (by omega) (by omega))
  refine own_go (fun _ k => X38.baloadBytes hx (j := (Int32.ofNat (2 * i))) (v := (.int (StrChars.lo8 c))) (by rw [e38]; exact A39.1) (State.isArrayOf_alike hZ.alike A39.2.1) A39.2.2 hi39 (Has.at Hs39 hi39 (by rw [own_tn (by omega)]; exact h1)) (g := (mkF m 37 #[.val (.ref b), .val (.int (Int32.ofNat (2 * i + 1)))] [(.int (Int32.ofNat (2 * i))), (.ref b)])) rfl rfl (hb hby d_jdk_52_m5_37) _ k) ?_
  show own_Go p e below (T38.setTop (mkF m 38 #[.val (.ref b), .val (.int (Int32.ofNat (2 * i + 1)))] [(.int (StrChars.lo8 c))])) _
  refine own_go (fun _ k => XS.sipush X38.here hx rfl (hb hby d_jdk_52_m5_38) k) ?_
  show own_Go p e below (T38.setTop (mkF m 41 #[.val (.ref b), .val (.int (Int32.ofNat (2 * i + 1)))] [(.int (255 : Int32)), (.int (StrChars.lo8 c))])) _
  refine own_go (fun _ k => XS.iand X38.here hx rfl (hb hby d_jdk_52_m5_41) rfl k) ?_
  show own_Go p e below (T38.setTop (mkF m 42 #[.val (.ref b), .val (.int (Int32.ofNat (2 * i + 1)))] [(.int ((StrChars.lo8 c) &&& (255 : Int32)))])) _
  obtain ⟨T40, X40, e40, st40⟩ := getS2 X38 hx hZ hown (host := "") (Or.inl (hw _ (List.mem_of_getElem? (i := 96) rfl))) Via.refl e38 (OH.ext O0.2) (g := (mkF m 42 #[.val (.ref b), .val (.int (Int32.ofNat (2 * i + 1)))] [(.int ((StrChars.lo8 c) &&& (255 : Int32)))])) rfl (hb hby d_jdk_52_m5_42)
  refine own_go st40 ?_
  show own_Go p e below (T40.setTop (mkF m 45 #[.val (.ref b), .val (.int (Int32.ofNat (2 * i + 1)))] [(.int (0 : Int32)), (.int ((StrChars.lo8 c) &&& (255 : Int32)))])) _
  refine own_go (fun _ k => XS.ishl X40.here hx rfl (hb hby d_jdk_52_m5_45) rfl k) ?_
  show own_Go p e below (T40.setTop (mkF m 46 #[.val (.ref b), .val (.int (Int32.ofNat (2 * i + 1)))] [(.int (((StrChars.lo8 c) &&& (255 : Int32)) <<< ((0 : Int32) &&& 31)))])) _
  refine own_go (fun _ k => XS.aloadN X40.here hx rfl (hb hby d_jdk_52_m5_46) rfl rfl k) ?_
  show own_Go p e below (T40.setTop (mkF m 47 #[.val (.ref b), .val (.int (Int32.ofNat (2 * i + 1)))] [(.ref b), (.int (((StrChars.lo8 c) &&& (255 : Int32)) <<< ((0 : Int32) &&& 31)))])) _
  refine own_go (fun _ k => XS.iloadN X40.here hx rfl (hb hby d_jdk_52_m5_47) rfl k) ?_
  show own_Go p e below (T40.setTop (mkF m 48 #[.val (.ref b), .val (.int (Int32.ofNat (2 * i + 1)))] [(.int (Int32.ofNat (2 * i + 1))), (.ref b), (.int (((StrChars.lo8 c) &&& (255 : Int32)) <<< ((0 : Int32) &&& 31)))])) _
  obtain ⟨c41, A41, q41, S41, M41, Hs41, Gs41⟩ := id V_b
  have hi41 := inb_of (j := (Int32.ofNat (2 * i + 1))) S41 (own_inb (by omega) (by omega))
  refine own_go (fun _ k => X40.baloadBytes hx (j := (Int32.ofNat (2 * i + 1))) (v := (.int (StrChars.hi8 c))) (by rw [e40]; exact A41.1) (State.isArrayOf_alike hZ.alike A41.2.1) A41.2.2 hi41 (Has.at Hs41 hi41 (by rw [own_tn (by omega)]; exact h2)) (g := (mkF m 48 #[.val (.ref b), .val (.int (Int32.ofNat (2 * i + 1)))] [(.int (Int32.ofNat (2 * i + 1))), (.ref b), (.int (((StrChars.lo8 c) &&& (255 : Int32)) <<< ((0 : Int32) &&& 31)))])) rfl rfl (hb hby d_jdk_52_m5_48) _ k) ?_
  show own_Go p e below (T40.setTop (mkF m 49 #[.val (.ref b), .val (.int (Int32.ofNat (2 * i + 1)))] [(.int (StrChars.hi8 c)), (.int (((StrChars.lo8 c) &&& (255 : Int32)) <<< ((0 : Int32) &&& 31)))])) _
  refine own_go (fun _ k => XS.sipush X40.here hx rfl (hb hby d_jdk_52_m5_49) k) ?_
  show own_Go p e below (T40.setTop (mkF m 52 #[.val (.ref b), .val (.int (Int32.ofNat (2 * i + 1)))] [(.int (255 : Int32)), (.int (StrChars.hi8 c)), (.int (((StrChars.lo8 c) &&& (255 : Int32)) <<< ((0 : Int32) &&& 31)))])) _
  refine own_go (fun _ k => XS.iand X40.here hx rfl (hb hby d_jdk_52_m5_52) rfl k) ?_
  show own_Go p e below (T40.setTop (mkF m 53 #[.val (.ref b), .val (.int (Int32.ofNat (2 * i + 1)))] [(.int ((StrChars.hi8 c) &&& (255 : Int32))), (.int (((StrChars.lo8 c) &&& (255 : Int32)) <<< ((0 : Int32) &&& 31)))])) _
  obtain ⟨T42, X42, e42, st42⟩ := getS2 X40 hx hZ hown (host := "") (Or.inl (hw _ (List.mem_of_getElem? (i := 97) rfl))) Via.refl e40 (OL.ext O0.2) (g := (mkF m 53 #[.val (.ref b), .val (.int (Int32.ofNat (2 * i + 1)))] [(.int ((StrChars.hi8 c) &&& (255 : Int32))), (.int (((StrChars.lo8 c) &&& (255 : Int32)) <<< ((0 : Int32) &&& 31)))])) rfl (hb hby d_jdk_52_m5_53)
  refine own_go st42 ?_
  show own_Go p e below (T42.setTop (mkF m 56 #[.val (.ref b), .val (.int (Int32.ofNat (2 * i + 1)))] [(.int (8 : Int32)), (.int ((StrChars.hi8 c) &&& (255 : Int32))), (.int (((StrChars.lo8 c) &&& (255 : Int32)) <<< ((0 : Int32) &&& 31)))])) _
  refine own_go (fun _ k => XS.ishl X42.here hx rfl (hb hby d_jdk_52_m5_56) rfl k) ?_
  show own_Go p e below (T42.setTop (mkF m 57 #[.val (.ref b), .val (.int (Int32.ofNat (2 * i + 1)))] [(.int (((StrChars.hi8 c) &&& (255 : Int32)) <<< ((8 : Int32) &&& 31))), (.int (((StrChars.lo8 c) &&& (255 : Int32)) <<< ((0 : Int32) &&& 31)))])) _
  refine own_go (fun _ k => XS.ior X42.here hx rfl (hb hby d_jdk_52_m5_57) rfl k) ?_
  show own_Go p e below (T42.setTop (mkF m 58 #[.val (.ref b), .val (.int (Int32.ofNat (2 * i + 1)))] [(.int ((((StrChars.lo8 c) &&& (255 : Int32)) <<< ((0 : Int32) &&& 31)) ||| (((StrChars.hi8 c) &&& (255 : Int32)) <<< ((8 : Int32) &&& 31))))])) _
  refine own_go (fun _ k => XS.i2c X42.here hx rfl (hb hby d_jdk_52_m5_58) rfl k) ?_
  show own_Go p e below (T42.setTop (mkF m 59 #[.val (.ref b), .val (.int (Int32.ofNat (2 * i + 1)))] [(.int (((((StrChars.lo8 c) &&& (255 : Int32)) <<< ((0 : Int32) &&& 31)) ||| (((StrChars.hi8 c) &&& (255 : Int32)) <<< ((8 : Int32) &&& 31))).toUInt32.toUInt16.toUInt32.toInt32))])) _
  refine own_fin (v := (some (.int (nar .char (((((StrChars.lo8 c) &&& (255 : Int32)) <<< ((0 : Int32) &&& 31)) ||| (((StrChars.hi8 c) &&& (255 : Int32)) <<< ((8 : Int32) &&& 31))).toUInt32.toUInt16.toUInt32.toInt32))))) X42 (fun h => by rw [hrt] at h; cases h) hlk (fun fs hr => retN X42 hx (t := .char) hrt (by simp) (hb hby d_jdk_52_m5_59) hr) (QQ := QPure (some (.int c)) h0 n0) ?_ (by decide) (by decide)
  rw [e42]
  exact ⟨congrArg (fun z => some (Value.int z)) ((congrArg (nar .char) (StrChars.pair_says hc.1 hc.2)).trans (own_nc hc.1 hc.2)), N0, rfl⟩

theorem d_jdk_52_m3_0 : decode jdk_52_method_3_code 0 = .ok (.iload_n 0, 1) := by decide +kernel
theorem d_jdk_52_m3_1 : decode jdk_52_method_3_code 1 = .ok (.ifCond .ge 11, 3) := by decide +kernel
theorem d_jdk_52_m3_12 : decode jdk_52_method_3_code 12 = .ok (.iload_n 0, 1) := by decide +kernel
theorem d_jdk_52_m3_13 : decode jdk_52_method_3_code 13 = .ok (.ldc 20, 2) := by decide +kernel
theorem d_jdk_52_m3_15 : decode jdk_52_method_3_code 15 = .ok (.if_icmp .lt 40, 3) := by decide +kernel
theorem d_jdk_52_m3_55 : decode jdk_52_method_3_code 55 = .ok (.iload_n 0, 1) := by decide +kernel
theorem d_jdk_52_m3_56 : decode jdk_52_method_3_code 56 = .ok (.iconst 1, 1) := by decide +kernel
theorem d_jdk_52_m3_57 : decode jdk_52_method_3_code 57 = .ok (.ishl, 1) := by decide +kernel
theorem d_jdk_52_m3_58 : decode jdk_52_method_3_code 58 = .ok (.ireturn, 1) := by decide +kernel
theorem ef_rm_nbl (m : MethodId) (x0 : Int32) : entryFrame m #[(.int x0)] 1 = mkF m 0 #[.val (.int x0)] [] := by
   first | (simp [entryFrame, mkF, argsToLocals, Value.category]; done) | rfl
set_option maxRecDepth 65536 in
set_option maxHeartbeats 40000000 in
theorem rm_nbl (l : Launch) (Z : State) (a0 : Array Value) (hw : ∀ d ∈ tables_1, d.before a0 Z = true) (ws : List Jvm.Cond) (n : Nat) (h0 : Heap) (n0 : Nat) (O0 : Old Z n0 h0) (hn : n ≤ 4000) :
    MetFree l (⟨"java/lang/StringUTF16", "newBytesLength", "(I)I"⟩ : MethodName) (head1 (Jvm.Cond.code (⟨"java/lang/StringUTF16", "newBytesLength", "(I)I"⟩ : MethodName) jdk_52_method_3_code 1 (some .int) :: ws) ({ frames := 0, cells := 0, slots := 0, locals := 0 } : Room)) (fun aA U => aA = #[(.int (Int32.ofNat n))] ∧ Z.Warmed39 U.vm ∧ U.heap = h0) (fun _ _ _ _ _ => True) (fun _ U oO U' => ∃ rV rL, oO = .returned rV ∧ QPure (some (.int (Int32.ofNat (2 * n)))) h0 n0 rV U'.heap rL ∧ FrameEnd U oO U' rL 0 0) := by
  refine MetFree.of_bodySF (plainFor_of_name pn_1) hisR ?_
  intro p e s m args below meth cC s₁ Bd hml0 hP hK
  obtain ⟨rfl, hZ, hh⟩ := hP
  have hx := Bd.exec
  have hby := Bd.bytes
  have hml : cC.maxLocals = 1 := hml0
  have hown : s.vm.findClass "java/lang/StringUTF16" = some m.cls := findClass_of_methodNamed Bd.named
  have hnm := (name_of_methodNamed Bd.named Bd.method).1
  have hrt := Bd.returns
  have hlk : meth.locks = false := Bd.notSynchronized
  have X0 : Stand p l e ({ frames := 0, cells := 0, slots := 0, locals := 0 } : Room) s m #[(.int (Int32.ofNat n))] below meth cC s₁ [] 0 0 := Stand.of_body Bd
  have e0 : s₁.heap = h0 := by rw [← hh, Bd.state]; rfl
  have N0 := Fr.nil n0
  have Z0 : n0 ≤ h0.size := O0.1 ▸ O0.2.1
  show own_Go p e below (s₁.setTop (entryFrame m #[(.int (Int32.ofNat n))] 1)) (fun oO U' => ∃ rV rL, oO = .returned rV ∧ QPure (some (.int (Int32.ofNat (2 * n)))) h0 n0 rV U'.heap rL ∧ FrameEnd s oO U' rL 0 0)
  refine own_go (fun _ k => castTop (ef_rm_nbl m _) k) ?_
  show own_Go p e below (s₁.setTop (mkF m 0 #[.val (.int (Int32.ofNat n))] [])) _
  refine own_go (fun _ k => XS.iloadN X0.here hx rfl (hb hby d_jdk_52_m3_0) rfl k) ?_
  show own_Go p e below (s₁.setTop (mkF m 1 #[.val (.int (Int32.ofNat n))] [(.int (Int32.ofNat n))])) _
  refine own_go (fun _ k => XS.ifYes X0.here hx rfl (pc0 := 1) (pc' := 12) rfl (hb hby d_jdk_52_m3_1) rfl ((if0 _ _).trans (flt (own_nn0 (by omega))).2.1) (by decide) (by decide) k) ?_
  show own_Go p e below (s₁.setTop (mkF m 12 #[.val (.int (Int32.ofNat n))] [])) _
  refine own_go (fun _ k => XS.iloadN X0.here hx rfl (hb hby d_jdk_52_m3_12) rfl k) ?_
  show own_Go p e below (s₁.setTop (mkF m 13 #[.val (.int (Int32.ofNat n))] [(.int (Int32.ofNat n))])) _
  refine own_go (fun _ k => X0.ldcInt hx hown (mvT hZ (hw _ (List.mem_of_getElem? (i := 91) rfl))) (g := (mkF m 13 #[.val (.int (Int32.ofNat n))] [(.int (Int32.ofNat n))])) rfl (hb hby d_jdk_52_m3_13) _ k) ?_
  show own_Go p e below (s₁.setTop (mkF m 15 #[.val (.int (Int32.ofNat n))] [(.int (1073741823 : Int32)), (.int (Int32.ofNat n))])) _
  refine own_go (fun _ k => XS.icmpYes X0.here hx rfl (pc0 := 15) (pc' := 55) rfl (hb hby d_jdk_52_m3_15) rfl (tlt ((own_lti (j := 1073741823) (by omega) (by decide)).mpr (by omega))).1 (by decide) (by decide) k) ?_
  show own_Go p e below (s₁.setTop (mkF m 55 #[.val (.int (Int32.ofNat n))] [])) _
  refine own_go (fun _ k => XS.iloadN X0.here hx rfl (hb hby d_jdk_52_m3_55) rfl k) ?_
  show own_Go p e below (s₁.setTop (mkF m 56 #[.val (.int (Int32.ofNat n))] [(.int (Int32.ofNat n))])) _
  refine own_go (fun _ k => XS.iconst X0.here hx rfl (hb hby d_jdk_52_m3_56) k) ?_
  show own_Go p e below (s₁.setTop (mkF m 57 #[.val (.int (Int32.ofNat n))] [(.int (1 : Int32)), (.int (Int32.ofNat n))])) _
  refine own_go (fun _ k => XS.ishl X0.here hx rfl (hb hby d_jdk_52_m3_57) rfl k) ?_
  show own_Go p e below (s₁.setTop (mkF m 58 #[.val (.int (Int32.ofNat n))] [(.int ((Int32.ofNat n) <<< ((1 : Int32) &&& 31)))])) _
  refine own_fin (v := (some (.int ((Int32.ofNat n) <<< ((1 : Int32) &&& 31))))) X0 (fun h => by rw [hrt] at h; cases h) hlk (fun fs hr => retI X0 hx hrt (hb hby d_jdk_52_m3_58) hr) (QQ := QPure (some (.int (Int32.ofNat (2 * n)))) h0 n0) ?_ (by decide) (by decide)
  rw [e0]
  exact ⟨congrArg (fun z => some (Value.int z)) (own_shl1 hn), N0, rfl⟩

theorem d_jdk_52_m2_0 : decode jdk_52_method_2_code 0 = .ok (.iload_n 0, 1) := by decide +kernel
theorem d_jdk_52_m2_1 : decode jdk_52_method_2_code 1 = .ok (.invokestatic 11, 3) := by decide +kernel
theorem pd_1 : parseMethodDescriptor "(I)I" = some ⟨[.int], some .int⟩ := by decide +kernel
theorem d_jdk_52_m2_4 : decode jdk_52_method_2_code 4 = .ok (.newarray .byte, 2) := by decide +kernel
theorem d_jdk_52_m2_6 : decode jdk_52_method_2_code 6 = .ok (.areturn, 1) := by decide +kernel
theorem ef_rm_nbf (m : MethodId) (x0 : Int32) : entryFrame m #[(.int x0)] 1 = mkF m 0 #[.val (.int x0)] [] := by
   first | (simp [entryFrame, mkF, argsToLocals, Value.category]; done) | rfl
set_option maxRecDepth 65536 in
set_option maxHeartbeats 40000000 in
theorem rm_nbf (l : Launch) (Z : State) (a0 : Array Value) (hw : ∀ d ∈ tables_1, d.before a0 Z = true) (ws : List Jvm.Cond) (n : Nat) (h0 : Heap) (n0 : Nat) (O0 : Old Z n0 h0) (hn : n ≤ 6) :
    MetFree l (⟨"java/lang/StringUTF16", "newBytesFor", "(I)[B"⟩ : MethodName) (head1 (Jvm.Cond.code (⟨"java/lang/StringUTF16", "newBytesFor", "(I)[B"⟩ : MethodName) jdk_52_method_2_code 1 (some (.array .byte)) :: ws) ({ frames := 1, cells := 1, slots := 12, locals := 12 } : Room)) (fun aA U => aA = #[(.int (Int32.ofNat n))] ∧ Z.Warmed39 U.vm ∧ U.heap = h0) (fun _ _ _ _ _ => True) (fun _ U oO U' => ∃ rV rL, oO = .returned rV ∧ QNew Z (Int32.ofNat (2 * n)) (List.replicate (2 * n) (.int (0 : Int32))) h0 n0 rV U'.heap rL ∧ FrameEnd U oO U' rL 1 12) := by
  refine MetFree.of_bodySF (plainFor_of_name pn_1) hisR ?_
  intro p e s m args below meth cC s₁ Bd hml0 hP hK
  obtain ⟨rfl, hZ, hh⟩ := hP
  have hx := Bd.exec
  have hby := Bd.bytes
  have hml : cC.maxLocals = 1 := hml0
  have hown : s.vm.findClass "java/lang/StringUTF16" = some m.cls := findClass_of_methodNamed Bd.named
  have hnm := (name_of_methodNamed Bd.named Bd.method).1
  have hrt := Bd.returns
  have hlk : meth.locks = false := Bd.notSynchronized
  have X0 : Stand p l e ({ frames := 1, cells := 1, slots := 12, locals := 12 } : Room) s m #[(.int (Int32.ofNat n))] below meth cC s₁ [] 0 0 := Stand.of_body Bd
  have e0 : s₁.heap = h0 := by rw [← hh, Bd.state]; rfl
  have N0 := Fr.nil n0
  have Z0 : n0 ≤ h0.size := O0.1 ▸ O0.2.1
  show own_Go p e below (s₁.setTop (entryFrame m #[(.int (Int32.ofNat n))] 1)) (fun oO U' => ∃ rV rL, oO = .returned rV ∧ QNew Z (Int32.ofNat (2 * n)) (List.replicate (2 * n) (.int (0 : Int32))) h0 n0 rV U'.heap rL ∧ FrameEnd s oO U' rL 1 12)
  refine own_go (fun _ k => castTop (ef_rm_nbf m _) k) ?_
  show own_Go p e below (s₁.setTop (mkF m 0 #[.val (.int (Int32.ofNat n))] [])) _
  refine own_go (fun _ k => XS.iloadN X0.here hx rfl (hb hby d_jdk_52_m2_0) rfl k) ?_
  show own_Go p e below (s₁.setTop (mkF m 1 #[.val (.int (Int32.ofNat n))] [(.int (Int32.ofNat n))])) _
  obtain ⟨v43, _, ⟨T43, L43, k43, n43⟩, -, X43, ⟨Lc43, hQ43, l43, y43, z43⟩, st43⟩ := Jvm.LawKit.callS X0 hx (y := (⟨"java/lang/StringUTF16", "newBytesLength", "(I)I"⟩ : MethodName)) hown (mvT hZ (hw _ (List.mem_of_getElem? (i := 88) rfl))) (mvT hZ (hw _ (List.mem_of_getElem? (i := 89) rfl))) (mvT hZ (hw _ (List.mem_of_getElem? (i := 19) rfl))) (mvT hZ (hw _ (List.mem_of_getElem? (i := 90) rfl))) (by decide) (backOf (W := 0) (rm_nbl l Z a0 hw [] n h0 n0 O0 (by omega)) hZ (hw _ (List.mem_of_getElem? (i := 90) rfl)) (hw _ (List.mem_of_getElem? (i := 19) rfl)) (by decide) (by decide)) (g := (mkF m 1 #[.val (.int (Int32.ofNat n))] [(.int (Int32.ofNat n))])) rfl (by rw [hml]; rfl) (argsL := [(.int (Int32.ofNat n))]) (rest := []) (lenOf pd_1 rfl) rfl (by show 2 * 0 + _ ≤ _; exact Nat.le_of_eq rfl) (hb hby d_jdk_52_m2_1) (fun _ _ => ⟨rfl, e0, (by decide : 0 + 0 ≤ _), (by decide : 0 + 0 ≤ _)⟩)
  dsimp only [Pt.U, Pt.locs, Pt.cells, Pt.slots] at X43 l43 y43 z43 st43 hQ43
  subst l43 y43 z43
  refine own_go st43 ?_
  obtain ⟨rfl, Nq43, e43⟩ := hQ43
  have N43 := Fr.app N0 Nq43
  show own_Go p e below (T43.setTop (mkF m 4 #[.val (.int (Int32.ofNat n))] [(.int (Int32.ofNat (2 * n)))])) _
  obtain ⟨T44, h44, k44, X44, e44, E44, A44, st44⟩ := newP X43 hx hZ (hw _ (List.mem_of_getElem? (i := 21) rfl)) e43 (g := (mkF m 4 #[.val (.int (Int32.ofNat n))] [(.int (Int32.ofNat (2 * n)))])) rfl (hb hby d_jdk_52_m2_4) rfl (own_nn0 (by omega)) (cap := 12) (by rw [own_tn (by omega)]; omega) (by decide) (by decide) (by decide)
  obtain ⟨b44, g44⟩ : ∃ z, z = h0.size := ⟨_, rfl⟩
  rw [← g44] at A44 st44
  refine own_go st44 ?_
  have V44 : Arv Z h44 b44 k44 .byte (Int32.ofNat (2 * n)) (List.replicate ((Int32.ofNat (2 * n))).toNatClampNeg (.int (0 : Int32))) (.int (0 : Int32)) := (Arv.new A44 (own_nn0 (by omega))).pad (pad_rep [] (.int (0 : Int32)) _)
  show own_Go p e below (T44.setTop (mkF m 6 #[.val (.int (Int32.ofNat n))] [(.ref b44)])) _
  have f45 := ((Keep.refl h0 []).ext E44)
  refine own_fin (v := (some (.ref b44))) X44 (fun h => by rw [hrt] at h; cases h) hlk (fun fs hr => retR X44 hx hrt (by rfl) rfl rfl (hb hby d_jdk_52_m2_6) hr) (QQ := QNew Z (Int32.ofNat (2 * n)) (List.replicate (2 * n) (.int (0 : Int32))) h0 n0) ?_ (by decide) (by decide)
  rw [e44]
  exact ⟨b44, _, rfl, N43, f45, (Nat.le_of_eq g44.symm), by have q := V44; rw [own_tn (by omega)] at q; exact q⟩

theorem d_jdk_52_m14_0 : decode jdk_52_method_14_code 0 = .ok (.iload_n 2, 1) := by decide +kernel
theorem d_jdk_52_m14_1 : decode jdk_52_method_14_code 1 = .ok (.invokestatic 107, 3) := by decide +kernel
theorem pd_2 : parseMethodDescriptor "(I)[B" = some ⟨[.int], some (.array .byte)⟩ := by decide +kernel
theorem d_jdk_52_m14_4 : decode jdk_52_method_14_code 4 = .ok (.astore_n 3, 1) := by decide +kernel
theorem d_jdk_52_m14_5 : decode jdk_52_method_14_code 5 = .ok (.iconst 0, 1) := by decide +kernel
theorem d_jdk_52_m14_6 : decode jdk_52_method_14_code 6 = .ok (.istore 4, 2) := by decide +kernel
theorem d_jdk_52_m14_8 : decode jdk_52_method_14_code 8 = .ok (.iload 4, 2) := by decide +kernel
theorem d_jdk_52_m14_10 : decode jdk_52_method_14_code 10 = .ok (.iload_n 2, 1) := by decide +kernel
theorem d_jdk_52_m14_11 : decode jdk_52_method_14_code 11 = .ok (.if_icmp .ge 21, 3) := by decide +kernel
theorem d_jdk_52_m14_32 : decode jdk_52_method_14_code 32 = .ok (.aload_n 3, 1) := by decide +kernel
theorem d_jdk_52_m14_33 : decode jdk_52_method_14_code 33 = .ok (.areturn, 1) := by decide +kernel
theorem d_jdk_52_m14_14 : decode jdk_52_method_14_code 14 = .ok (.aload_n 3, 1) := by decide +kernel
theorem d_jdk_52_m14_15 : decode jdk_52_method_14_code 15 = .ok (.iload 4, 2) := by decide +kernel
theorem d_jdk_52_m14_17 : decode jdk_52_method_14_code 17 = .ok (.aload_n 0, 1) := by decide +kernel
theorem d_jdk_52_m14_18 : decode jdk_52_method_14_code 18 = .ok (.iload_n 1, 1) := by decide +kernel
theorem d_jdk_52_m14_19 : decode jdk_52_method_14_code 19 = .ok (.caload, 1) := by decide +kernel
theorem d_jdk_52_m14_20 : decode jdk_52_method_14_code 20 = .ok (.invokestatic 111, 3) := by decide +kernel
theorem pd_3 : parseMethodDescriptor "([BII)V" = some ⟨[(.array .byte), .int, .int], none⟩ := by decide +kernel
theorem d_jdk_52_m14_23 : decode jdk_52_method_14_code 23 = .ok (.iinc 1 1, 3) := by decide +kernel
theorem d_jdk_52_m14_26 : decode jdk_52_method_14_code 26 = .ok (.iinc 4 1, 3) := by decide +kernel
theorem d_jdk_52_m14_29 : decode jdk_52_method_14_code 29 = .ok (.goto (-21), 3) := by decide +kernel
theorem ef_rm_tob (m : MethodId) (x0 : Addr) (x1 : Int32) (x2 : Int32) : entryFrame m #[(.ref x0), (.int x1), (.int x2)] 5 = mkF m 0 #[.val (.ref x0), .val (.int x1), .val (.int x2), .unset, .unset] [] := by
   first | (simp [entryFrame, mkF, argsToLocals, Value.category]; done) | rfl
set_option maxRecDepth 65536 in
set_option maxHeartbeats 40000000 in
theorem rm_tob (l : Launch) (Z : State) (a0 : Array Value) (hw : ∀ d ∈ tables_1, d.before a0 Z = true) (ws : List Jvm.Cond) (a : Addr) (ka : ClassId) (da : Value) (cs : List Int32) (h0 : Heap) (n0 : Nat) (O0 : Old Z n0 h0) (OA : Sta Z Z.heap "java/lang/StringUTF16" "$assertionsDisabled" "Z" (.int (1 : Int32))) (OH : Sta Z Z.heap "java/lang/StringUTF16" "HI_BYTE_SHIFT" "I" (.int (0 : Int32))) (OL : Sta Z Z.heap "java/lang/StringUTF16" "LO_BYTE_SHIFT" "I" (.int (8 : Int32))) (hok : own_Ok cs) (V_a : Arv Z h0 a ka .char (Int32.ofNat cs.length) (cs.map Value.int) da) (hcap : cs.length ≤ 6) :
    MetFree l (⟨"java/lang/StringUTF16", "toBytes", "([CII)[B"⟩ : MethodName) (head1 (Jvm.Cond.code (⟨"java/lang/StringUTF16", "toBytes", "([CII)[B"⟩ : MethodName) jdk_52_method_14_code 5 (some (.array .byte)) :: ws) ({ frames := 2, cells := 1, slots := 12, locals := 24 } : Room)) (fun aA U => aA = #[(.ref a), (.int (0 : Int32)), (.int (Int32.ofNat cs.length))] ∧ Z.Warmed39 U.vm ∧ U.heap = h0) (fun _ _ _ _ _ => True) (fun _ U oO U' => ∃ rV rL, oO = .returned rV ∧ QNew Z (Int32.ofNat (2 * cs.length)) (StrChars.Road.wideBytes cs) h0 n0 rV U'.heap rL ∧ FrameEnd U oO U' rL 1 12) := by
  refine MetFree.of_bodySF (plainFor_of_name pn_1) hisR ?_
  intro p e s m args below meth cC s₁ Bd hml0 hP hK
  obtain ⟨rfl, hZ, hh⟩ := hP
  have hx := Bd.exec
  have hby := Bd.bytes
  have hml : cC.maxLocals = 5 := hml0
  have hown : s.vm.findClass "java/lang/StringUTF16" = some m.cls := findClass_of_methodNamed Bd.named
  have hnm := (name_of_methodNamed Bd.named Bd.method).1
  have hrt := Bd.returns
  have hlk : meth.locks = false := Bd.notSynchronized
  have X0 : Stand p l e ({ frames := 2, cells := 1, slots := 12, locals := 24 } : Room) s m #[(.ref a), (.int (0 : Int32)), (.int (Int32.ofNat cs.length))] below meth cC s₁ [] 0 0 := Stand.of_body Bd
  have e0 : s₁.heap = h0 := by rw [← hh, Bd.state]; rfl
  have N0 := Fr.nil n0
  have Z0 : n0 ≤ h0.size := O0.1 ▸ O0.2.1
  show own_Go p e below (s₁.setTop (entryFrame m #[(.ref a), (.int (0 : Int32)), (.int (Int32.ofNat cs.length))] 5)) (fun oO U' => ∃ rV rL, oO = .returned rV ∧ QNew Z (Int32.ofNat (2 * cs.length)) (StrChars.Road.wideBytes cs) h0 n0 rV U'.heap rL ∧ FrameEnd s oO U' rL 1 12)
  refine own_go (fun _ k => castTop (ef_rm_tob m a _ _) k) ?_
  have hlen : cs.length ≤ 4000 := hok.2
  show own_Go p e below (s₁.setTop (mkF m 0 #[.val (.ref a), .val (.int (0 : Int32)), .val (.int (Int32.ofNat cs.length)), .unset, .unset] [])) _
  refine own_go (fun _ k => XS.iloadN X0.here hx rfl (hb hby d_jdk_52_m14_0) rfl k) ?_
  show own_Go p e below (s₁.setTop (mkF m 1 #[.val (.ref a), .val (.int (0 : Int32)), .val (.int (Int32.ofNat cs.length)), .unset, .unset] [(.int (Int32.ofNat cs.length))])) _
  obtain ⟨v46, _, ⟨T46, L46, k46, n46⟩, -, X46, ⟨Lc46, hQ46, l46, y46, z46⟩, st46⟩ := Jvm.LawKit.callS X0 hx (y := (⟨"java/lang/StringUTF16", "newBytesFor", "(I)[B"⟩ : MethodName)) hown (mvT hZ (hw _ (List.mem_of_getElem? (i := 85) rfl))) (mvT hZ (hw _ (List.mem_of_getElem? (i := 86) rfl))) (mvT hZ (hw _ (List.mem_of_getElem? (i := 19) rfl))) (mvT hZ (hw _ (List.mem_of_getElem? (i := 87) rfl))) (by decide) (backOf (W := 0) (rm_nbf l Z a0 hw [] cs.length h0 n0 O0 hcap) hZ (hw _ (List.mem_of_getElem? (i := 87) rfl)) (hw _ (List.mem_of_getElem? (i := 19) rfl)) (by decide) (by decide)) (g := (mkF m 1 #[.val (.ref a), .val (.int (0 : Int32)), .val (.int (Int32.ofNat cs.length)), .unset, .unset] [(.int (Int32.ofNat cs.length))])) rfl (by rw [hml]; rfl) (argsL := [(.int (Int32.ofNat cs.length))]) (rest := []) (lenOf pd_2 rfl) rfl (by show 2 * 0 + _ ≤ _; exact Nat.le_of_eq rfl) (hb hby d_jdk_52_m14_1) (fun _ _ => ⟨rfl, e0, (by decide : 0 + 1 ≤ _), (by decide : 0 + 12 ≤ _)⟩)
  dsimp only [Pt.U, Pt.locs, Pt.cells, Pt.slots] at X46 l46 y46 z46 st46 hQ46
  subst l46 y46 z46
  refine own_go st46 ?_
  obtain ⟨t46, kt46, rfl, Nq46, K46, tg46, Vt46⟩ := hQ46
  have N46 := Fr.app N0 Nq46
  show own_Go p e below (T46.setTop (mkF m 4 #[.val (.ref a), .val (.int (0 : Int32)), .val (.int (Int32.ofNat cs.length)), .unset, .unset] [(.ref t46)])) _
  refine own_go (fun _ k => XS.astoreN X46.here hx rfl (hb hby d_jdk_52_m14_4) rfl rfl (l' := #[.val (.ref a), .val (.int (0 : Int32)), .val (.int (Int32.ofNat cs.length)), .val (.ref t46), .unset]) rfl k) ?_
  show own_Go p e below (T46.setTop (mkF m 5 #[.val (.ref a), .val (.int (0 : Int32)), .val (.int (Int32.ofNat cs.length)), .val (.ref t46), .unset] [])) _
  refine own_go (fun _ k => XS.iconst X46.here hx rfl (hb hby d_jdk_52_m14_5) k) ?_
  show own_Go p e below (T46.setTop (mkF m 6 #[.val (.ref a), .val (.int (0 : Int32)), .val (.int (Int32.ofNat cs.length)), .val (.ref t46), .unset] [(.int (0 : Int32))])) _
  refine own_go (fun _ k => XS.istore X46.here hx rfl (hb hby d_jdk_52_m14_6) rfl (l' := #[.val (.ref a), .val (.int (0 : Int32)), .val (.int (Int32.ofNat cs.length)), .val (.ref t46), .val (.int (0 : Int32))]) rfl k) ?_
  show own_Go p e below (T46.setTop (mkF m 8 #[.val (.ref a), .val (.int (0 : Int32)), .val (.int (Int32.ofNat cs.length)), .val (.ref t46), .val (.int (0 : Int32))] [])) _
  have ne47 : a ≠ t46 := Nat.ne_of_lt (Nat.lt_of_lt_of_le V_a.lt tg46)
  have loop : ∀ (kT iloop : Nat) (T : State) (locs : List Loc) (h : Heap), iloop + kT = cs.length → Stand p l e ({ frames := 2, cells := 1, slots := 12, locals := 24 } : Room) s m #[(.ref a), (.int (0 : Int32)), (.int (Int32.ofNat cs.length))] below meth cC T locs 1 12 → T.heap = h → Fr n0 locs → Old Z n0 h → Keep h0 h [] → Arv Z h a ka .char (Int32.ofNat cs.length) (cs.map Value.int) da → Arv Z h t46 kt46 .byte (Int32.ofNat (2 * cs.length)) (own_wpart cs iloop) (.int (0 : Int32)) → own_Go p e below (T.setTop (mkF m 8 #[.val (.ref a), .val (.int (Int32.ofNat iloop)), .val (.int (Int32.ofNat cs.length)), .val (.ref t46), .val (.int (Int32.ofNat iloop))] [])) (fun oO U' => ∃ rV rL, oO = .returned rV ∧ QNew Z (Int32.ofNat (2 * cs.length)) (StrChars.Road.wideBytes cs) h0 n0 rV U'.heap rL ∧ FrameEnd s oO U' rL 1 12) := by
    intro kT
    induction kT with
    | zero =>
      intro iloop T48 L48 h48 hik X48 e48 N48 O48 K48 J0_48 J1_48
      have Z0_48 : n0 ≤ h48.size := O48.1 ▸ O48.2.1
      have hin : iloop = cs.length := by omega
      have hlt : ¬ ((Int32.ofNat iloop) < (Int32.ofNat cs.length)) := by rw [own_lti (by omega) (by omega)]; omega
      show own_Go p e below (T48.setTop (mkF m 8 #[.val (.ref a), .val (.int (Int32.ofNat iloop)), .val (.int (Int32.ofNat cs.length)), .val (.ref t46), .val (.int (Int32.ofNat iloop))] [])) _
      refine own_go (fun _ k => XS.iload X48.here hx rfl (hb hby d_jdk_52_m14_8) rfl k) ?_
      show own_Go p e below (T48.setTop (mkF m 10 #[.val (.ref a), .val (.int (Int32.ofNat iloop)), .val (.int (Int32.ofNat cs.length)), .val (.ref t46), .val (.int (Int32.ofNat iloop))] [(.int (Int32.ofNat iloop))])) _
      refine own_go (fun _ k => XS.iloadN X48.here hx rfl (hb hby d_jdk_52_m14_10) rfl k) ?_
      show own_Go p e below (T48.setTop (mkF m 11 #[.val (.ref a), .val (.int (Int32.ofNat iloop)), .val (.int (Int32.ofNat cs.length)), .val (.ref t46), .val (.int (Int32.ofNat iloop))] [(.int (Int32.ofNat cs.length)), (.int (Int32.ofNat iloop))])) _
      refine own_go (fun _ k => XS.icmpYes X48.here hx rfl (pc0 := 11) (pc' := 32) rfl (hb hby d_jdk_52_m14_11) rfl (flt hlt).2.1 (by decide) (by decide) k) ?_
      show own_Go p e below (T48.setTop (mkF m 32 #[.val (.ref a), .val (.int (Int32.ofNat iloop)), .val (.int (Int32.ofNat cs.length)), .val (.ref t46), .val (.int (Int32.ofNat iloop))] [])) _
      refine own_go (fun _ k => XS.aloadN X48.here hx rfl (hb hby d_jdk_52_m14_32) rfl rfl k) ?_
      show own_Go p e below (T48.setTop (mkF m 33 #[.val (.ref a), .val (.int (Int32.ofNat iloop)), .val (.int (Int32.ofNat cs.length)), .val (.ref t46), .val (.int (Int32.ofNat iloop))] [(.ref t46)])) _
      refine own_fin (v := (some (.ref t46))) X48 (fun h => by rw [hrt] at h; cases h) hlk (fun fs hr => retR X48 hx hrt (by rfl) rfl rfl (hb hby d_jdk_52_m14_33) hr) (QQ := QNew Z (Int32.ofNat (2 * cs.length)) (StrChars.Road.wideBytes cs) h0 n0) ?_ (by decide) (by decide)
      rw [e48]
      exact ⟨t46, _, rfl, N48, K48, tg46, by have q := J1_48; rw [hin, own_wpartn] at q; exact q⟩
    | succ kT ih =>
      intro iloop T49 L49 h49 hik X49 e49 N49 O49 K49 J0_49 J1_49
      have Z0_49 : n0 ≤ h49.size := O49.1 ▸ O49.2.1
      have hi : iloop < cs.length := by omega
      have hlt : (Int32.ofNat iloop) < (Int32.ofNat cs.length) := (own_lti (by omega) (by omega)).mpr hi
      show own_Go p e below (T49.setTop (mkF m 8 #[.val (.ref a), .val (.int (Int32.ofNat iloop)), .val (.int (Int32.ofNat cs.length)), .val (.ref t46), .val (.int (Int32.ofNat iloop))] [])) _
      refine own_go (fun _ k => XS.iload X49.here hx rfl (hb hby d_jdk_52_m14_8) rfl k) ?_
      show own_Go p e below (T49.setTop (mkF m 10 #[.val (.ref a), .val (.int (Int32.ofNat iloop)), .val (.int (Int32.ofNat cs.length)), .val (.ref t46), .val (.int (Int32.ofNat iloop))] [(.int (Int32.ofNat iloop))])) _
      refine own_go (fun _ k => XS.iloadN X49.here hx rfl (hb hby d_jdk_52_m14_10) rfl k) ?_
      show own_Go p e below (T49.setTop (mkF m 11 #[.val (.ref a), .val (.int (Int32.ofNat iloop)), .val (.int (Int32.ofNat cs.length)), .val (.ref t46), .val (.int (Int32.ofNat iloop))] [(.int (Int32.ofNat cs.length)), (.int (Int32.ofNat iloop))])) _
      refine own_go (fun _ k => XS.icmpNo X49.here hx rfl (hb hby d_jdk_52_m14_11) rfl (tlt hlt).2.1 k) ?_
      show own_Go p e below (T49.setTop (mkF m 14 #[.val (.ref a), .val (.int (Int32.ofNat iloop)), .val (.int (Int32.ofNat cs.length)), .val (.ref t46), .val (.int (Int32.ofNat iloop))] [])) _
      refine own_go (fun _ k => XS.aloadN X49.here hx rfl (hb hby d_jdk_52_m14_14) rfl rfl k) ?_
      show own_Go p e below (T49.setTop (mkF m 15 #[.val (.ref a), .val (.int (Int32.ofNat iloop)), .val (.int (Int32.ofNat cs.length)), .val (.ref t46), .val (.int (Int32.ofNat iloop))] [(.ref t46)])) _
      refine own_go (fun _ k => XS.iload X49.here hx rfl (hb hby d_jdk_52_m14_15) rfl k) ?_
      show own_Go p e below (T49.setTop (mkF m 17 #[.val (.ref a), .val (.int (Int32.ofNat iloop)), .val (.int (Int32.ofNat cs.length)), .val (.ref t46), .val (.int (Int32.ofNat iloop))] [(.int (Int32.ofNat iloop)), (.ref t46)])) _
      refine own_go (fun _ k => XS.aloadN X49.here hx rfl (hb hby d_jdk_52_m14_17) rfl rfl k) ?_
      show own_Go p e below (T49.setTop (mkF m 18 #[.val (.ref a), .val (.int (Int32.ofNat iloop)), .val (.int (Int32.ofNat cs.length)), .val (.ref t46), .val (.int (Int32.ofNat iloop))] [(.ref a), (.int (Int32.ofNat iloop)), (.ref t46)])) _
      refine own_go (fun _ k => XS.iloadN X49.here hx rfl (hb hby d_jdk_52_m14_18) rfl k) ?_
      show own_Go p e below (T49.setTop (mkF m 19 #[.val (.ref a), .val (.int (Int32.ofNat iloop)), .val (.int (Int32.ofNat cs.length)), .val (.ref t46), .val (.int (Int32.ofNat iloop))] [(.int (Int32.ofNat iloop)), (.ref a), (.int (Int32.ofNat iloop)), (.ref t46)])) _
      obtain ⟨c50, A50, q50, S50, M50, Hs50, Gs50⟩ := id J0_49
      have hi50 := inb_of (j := (Int32.ofNat iloop)) S50 (own_inb hi (by omega))
      refine own_go (fun _ k => X49.caload hx (j := (Int32.ofNat iloop)) (v := (.int (cs.getD iloop 0))) (by rw [e49]; exact A50.1) (State.isArrayOf_alike hZ.alike A50.2.1) A50.2.2 hi50 (Has.at Hs50 hi50 (own_gd rfl hi (by omega))) (g := (mkF m 19 #[.val (.ref a), .val (.int (Int32.ofNat iloop)), .val (.int (Int32.ofNat cs.length)), .val (.ref t46), .val (.int (Int32.ofNat iloop))] [(.int (Int32.ofNat iloop)), (.ref a), (.int (Int32.ofNat iloop)), (.ref t46)])) rfl rfl (hb hby d_jdk_52_m14_19) _ k) ?_
      show own_Go p e below (T49.setTop (mkF m 20 #[.val (.ref a), .val (.int (Int32.ofNat iloop)), .val (.int (Int32.ofNat cs.length)), .val (.ref t46), .val (.int (Int32.ofNat iloop))] [(.int (cs.getD iloop 0)), (.int (Int32.ofNat iloop)), (.ref t46)])) _
      obtain ⟨v51, _, ⟨T51, L51, k51, n51⟩, -, X51, ⟨Lc51, hQ51, l51, y51, z51⟩, st51⟩ := Jvm.LawKit.callS X49 hx (y := (⟨"java/lang/StringUTF16", "putChar", "([BII)V"⟩ : MethodName)) hown (mvT hZ (hw _ (List.mem_of_getElem? (i := 92) rfl))) (mvT hZ (hw _ (List.mem_of_getElem? (i := 93) rfl))) (mvT hZ (hw _ (List.mem_of_getElem? (i := 19) rfl))) (mvT hZ (hw _ (List.mem_of_getElem? (i := 94) rfl))) (by decide) (backOf (W := 0) (rm_put l Z a0 hw [] t46 kt46 (2 * cs.length) (own_wpart cs iloop) iloop (cs.getD iloop 0) h49 n0 O49 OA OH OL J1_49 (Nat.le_trans Z0 tg46) (own_wpartl (by omega)) (by omega) (by omega)) hZ (hw _ (List.mem_of_getElem? (i := 94) rfl)) (hw _ (List.mem_of_getElem? (i := 19) rfl)) (by decide) (by decide)) (g := (mkF m 20 #[.val (.ref a), .val (.int (Int32.ofNat iloop)), .val (.int (Int32.ofNat cs.length)), .val (.ref t46), .val (.int (Int32.ofNat iloop))] [(.int (cs.getD iloop 0)), (.int (Int32.ofNat iloop)), (.ref t46)])) rfl (by rw [hml]; rfl) (argsL := [(.ref t46), (.int (Int32.ofNat iloop)), (.int (cs.getD iloop 0))]) (rest := []) (lenOf pd_3 rfl) rfl (by show 2 * 0 + _ ≤ _; exact Nat.le_of_eq rfl) (hb hby d_jdk_52_m14_20) (fun _ _ => ⟨rfl, e49, (by decide : 1 + 0 ≤ _), (by decide : 12 + 0 ≤ _)⟩)
      dsimp only [Pt.U, Pt.locs, Pt.cells, Pt.slots] at X51 l51 y51 z51 st51 hQ51
      subst l51 y51 z51
      refine own_go st51 ?_
      obtain ⟨rfl, Nq51, K51, Vb51⟩ := hQ51
      have N51 := Fr.app N49 Nq51
      show own_Go p e below (T51.setTop (mkF m 23 #[.val (.ref a), .val (.int (Int32.ofNat iloop)), .val (.int (Int32.ofNat cs.length)), .val (.ref t46), .val (.int (Int32.ofNat iloop))] [])) _
      refine own_go (fun _ k => XS.iinc X51.here hx rfl (hb hby d_jdk_52_m14_23) rfl (l' := #[.val (.ref a), .val (.int ((Int32.ofNat iloop) + (1 : Int32))), .val (.int (Int32.ofNat cs.length)), .val (.ref t46), .val (.int (Int32.ofNat iloop))]) rfl k) ?_
      show own_Go p e below (T51.setTop (mkF m 26 #[.val (.ref a), .val (.int ((Int32.ofNat iloop) + (1 : Int32))), .val (.int (Int32.ofNat cs.length)), .val (.ref t46), .val (.int (Int32.ofNat iloop))] [])) _
      refine own_go (fun _ k => XS.iinc X51.here hx rfl (hb hby d_jdk_52_m14_26) rfl (l' := #[.val (.ref a), .val (.int ((Int32.ofNat iloop) + (1 : Int32))), .val (.int (Int32.ofNat cs.length)), .val (.ref t46), .val (.int ((Int32.ofNat iloop) + (1 : Int32)))]) rfl k) ?_
      show own_Go p e below (T51.setTop (mkF m 29 #[.val (.ref a), .val (.int ((Int32.ofNat iloop) + (1 : Int32))), .val (.int (Int32.ofNat cs.length)), .val (.ref t46), .val (.int ((Int32.ofNat iloop) + (1 : Int32)))] [])) _
      refine own_go (fun _ k => XS.goto X51.here hx rfl (pc0 := 29) (pc' := 8) rfl (hb hby d_jdk_52_m14_29) (by decide) (by decide) k) ?_
      show own_Go p e below (T51.setTop (mkF m 8 #[.val (.ref a), .val (.int ((Int32.ofNat iloop) + (1 : Int32))), .val (.int (Int32.ofNat cs.length)), .val (.ref t46), .val (.int ((Int32.ofNat iloop) + (1 : Int32)))] [])) _
      rw [own_inc]
      have f52 := (J0_49.keep K51 (ninS ne47 nin0))
      have f53 := (O49.keep K51 (allS (Nat.le_trans Z0 tg46) all0))
      have f54 := (K49.trans K51 (allS (Or.inr tg46) all0))
      exact ih (iloop + 1) T51 _ T51.heap (by omega) X51 (rfl : T51.heap = T51.heap) N51 f53 f54 f52 (own_set2 hi ▸ Vb51) 
  have f55 := ((Keep.refl h0 []).trans K46 all0)
  exact loop (cs.length) 0 T46 _ T46.heap (by omega) X46 (rfl : T46.heap = T46.heap) N46 (O0.keep K46 all0) f55 (V_a.keep K46 nin0) (own_wpart0 cs ▸ Vt46) 

theorem own_ne_n {r n : Nat} (h : r < n) (hn : n ≤ 4000) : ¬ Int32.ofNat r = Int32.ofNat n := fun q => by
  have e := congrArg Int32.toInt q
  rw [own_ti (by omega), own_ti (by omega)] at e
  omega
theorem own_ne_0 {n : Nat} (h : 0 < n) (hn : n ≤ 4000) : ¬ Int32.ofNat n = (0 : Int32) := fun q => own_ne_n h hn q.symm
theorem own_getm {cs : List Int32} {r : Nat} (h : r < cs.length) : cs.getD r 0 ∈ cs := by
  rw [show cs.getD r 0 = cs[r] by simp [List.getD_eq_getElem?_getD, h]]; exact List.getElem_mem _
theorem own_ncd {cs : List Int32} {cd N2 : Int32} {vs : List Value} (h : StrChars.Road.CodA cs cd N2 vs) : nar .byte cd = cd := by
  rcases own_cd01 h with rfl | rfl <;> decide
theorem d_jdk_52_m16_0 : decode jdk_52_method_16_code 0 = .ok (.iload_n 2, 1) := by decide +kernel
theorem d_jdk_52_m16_1 : decode jdk_52_method_16_code 1 = .ok (.newarray .byte, 2) := by decide +kernel
theorem d_jdk_52_m16_3 : decode jdk_52_method_16_code 3 = .ok (.astore_n 3, 1) := by decide +kernel
theorem d_jdk_52_m16_4 : decode jdk_52_method_16_code 4 = .ok (.aload_n 0, 1) := by decide +kernel
theorem d_jdk_52_m16_5 : decode jdk_52_method_16_code 5 = .ok (.iload_n 1, 1) := by decide +kernel
theorem d_jdk_52_m16_6 : decode jdk_52_method_16_code 6 = .ok (.aload_n 3, 1) := by decide +kernel
theorem d_jdk_52_m16_7 : decode jdk_52_method_16_code 7 = .ok (.iconst 0, 1) := by decide +kernel
theorem d_jdk_52_m16_8 : decode jdk_52_method_16_code 8 = .ok (.iload_n 2, 1) := by decide +kernel
theorem d_jdk_52_m16_9 : decode jdk_52_method_16_code 9 = .ok (.invokestatic 115, 3) := by decide +kernel
theorem pd_4 : parseMethodDescriptor "([CI[BII)I" = some ⟨[(.array .char), .int, (.array .byte), .int, .int], some .int⟩ := by decide +kernel
theorem d_jdk_52_m16_12 : decode jdk_52_method_16_code 12 = .ok (.istore 4, 2) := by decide +kernel
theorem d_jdk_52_m16_14 : decode jdk_52_method_16_code 14 = .ok (.iload 4, 2) := by decide +kernel
theorem d_jdk_52_m16_16 : decode jdk_52_method_16_code 16 = .ok (.iload_n 2, 1) := by decide +kernel
theorem d_jdk_52_m16_17 : decode jdk_52_method_16_code 17 = .ok (.if_icmp .eq 40, 3) := by decide +kernel
theorem d_jdk_52_m16_57 : decode jdk_52_method_16_code 57 = .ok (.aload_n 3, 1) := by decide +kernel
theorem d_jdk_52_m16_58 : decode jdk_52_method_16_code 58 = .ok (.areturn, 1) := by decide +kernel
theorem d_jdk_52_m16_20 : decode jdk_52_method_16_code 20 = .ok (.aload_n 0, 1) := by decide +kernel
theorem d_jdk_52_m16_21 : decode jdk_52_method_16_code 21 = .ok (.iload_n 1, 1) := by decide +kernel
theorem d_jdk_52_m16_22 : decode jdk_52_method_16_code 22 = .ok (.iload_n 2, 1) := by decide +kernel
theorem d_jdk_52_m16_23 : decode jdk_52_method_16_code 23 = .ok (.invokestatic 119, 3) := by decide +kernel
theorem pd_5 : parseMethodDescriptor "([CII)[B" = some ⟨[(.array .char), .int, .int], some (.array .byte)⟩ := by decide +kernel
theorem d_jdk_52_m16_26 : decode jdk_52_method_16_code 26 = .ok (.astore 5, 2) := by decide +kernel
theorem d_jdk_52_m16_28 : decode jdk_52_method_16_code 28 = .ok (.aload 5, 2) := by decide +kernel
theorem d_jdk_52_m16_30 : decode jdk_52_method_16_code 30 = .ok (.iload 4, 2) := by decide +kernel
theorem d_jdk_52_m16_32 : decode jdk_52_method_16_code 32 = .ok (.invokestatic 71, 3) := by decide +kernel
theorem pd_6 : parseMethodDescriptor "([BI)C" = some ⟨[(.array .byte), .int], some .char⟩ := by decide +kernel
theorem d_jdk_52_m16_35 : decode jdk_52_method_16_code 35 = .ok (.sipush 255, 3) := by decide +kernel
theorem d_jdk_52_m16_38 : decode jdk_52_method_16_code 38 = .ok (.if_icmp .gt 16, 3) := by decide +kernel
theorem d_jdk_52_m16_54 : decode jdk_52_method_16_code 54 = .ok (.aload 5, 2) := by decide +kernel
theorem d_jdk_52_m16_56 : decode jdk_52_method_16_code 56 = .ok (.areturn, 1) := by decide +kernel
theorem ef_rm_cmp3 (m : MethodId) (x0 : Addr) (x1 : Int32) (x2 : Int32) : entryFrame m #[(.ref x0), (.int x1), (.int x2)] 6 = mkF m 0 #[.val (.ref x0), .val (.int x1), .val (.int x2), .unset, .unset, .unset] [] := by
   first | (simp [entryFrame, mkF, argsToLocals, Value.category]; done) | rfl
set_option maxRecDepth 65536 in
set_option maxHeartbeats 40000000 in
theorem rm_cmp3 (l : Launch) (Z : State) (a0 : Array Value) (hw : ∀ d ∈ tables_1, d.before a0 Z = true) (ws : List Jvm.Cond) (a : Addr) (ka : ClassId) (da : Value) (cs : List Int32) (h0 : Heap) (n0 : Nat) (O0 : Old Z n0 h0) (OA : Sta Z Z.heap "java/lang/StringUTF16" "$assertionsDisabled" "Z" (.int (1 : Int32))) (OH : Sta Z Z.heap "java/lang/StringUTF16" "HI_BYTE_SHIFT" "I" (.int (0 : Int32))) (OL : Sta Z Z.heap "java/lang/StringUTF16" "LO_BYTE_SHIFT" "I" (.int (8 : Int32))) (hok : own_Ok cs) (V_a : Arv Z h0 a ka .char (Int32.ofNat cs.length) (cs.map Value.int) da) (hcap : cs.length ≤ 6) :
    MetFree l (⟨"java/lang/StringUTF16", "compress", "([CII)[B"⟩ : MethodName) (head1 (Jvm.Cond.code (⟨"java/lang/StringUTF16", "compress", "([CII)[B"⟩ : MethodName) jdk_52_method_16_code 6 (some (.array .byte)) :: ws) ({ frames := 3, cells := 2, slots := 18, locals := 40 } : Room)) (fun aA U => aA = #[(.ref a), (.int (0 : Int32)), (.int (Int32.ofNat cs.length))] ∧ Z.Warmed39 U.vm ∧ U.heap = h0) (fun _ _ _ _ _ => True) (fun _ U oO U' => ∃ rV rL, oO = .returned rV ∧ QCmp Z cs h0 n0 rV U'.heap rL ∧ FrameEnd U oO U' rL 2 18) := by
  refine MetFree.of_bodySF (plainFor_of_name pn_1) hisR ?_
  intro p e s m args below meth cC s₁ Bd hml0 hP hK
  obtain ⟨rfl, hZ, hh⟩ := hP
  have hx := Bd.exec
  have hby := Bd.bytes
  have hml : cC.maxLocals = 6 := hml0
  have hown : s.vm.findClass "java/lang/StringUTF16" = some m.cls := findClass_of_methodNamed Bd.named
  have hnm := (name_of_methodNamed Bd.named Bd.method).1
  have hrt := Bd.returns
  have hlk : meth.locks = false := Bd.notSynchronized
  have X0 : Stand p l e ({ frames := 3, cells := 2, slots := 18, locals := 40 } : Room) s m #[(.ref a), (.int (0 : Int32)), (.int (Int32.ofNat cs.length))] below meth cC s₁ [] 0 0 := Stand.of_body Bd
  have e0 : s₁.heap = h0 := by rw [← hh, Bd.state]; rfl
  have N0 := Fr.nil n0
  have Z0 : n0 ≤ h0.size := O0.1 ▸ O0.2.1
  show own_Go p e below (s₁.setTop (entryFrame m #[(.ref a), (.int (0 : Int32)), (.int (Int32.ofNat cs.length))] 6)) (fun oO U' => ∃ rV rL, oO = .returned rV ∧ QCmp Z cs h0 n0 rV U'.heap rL ∧ FrameEnd s oO U' rL 2 18)
  refine own_go (fun _ k => castTop (ef_rm_cmp3 m a _ _) k) ?_
  have hlen : cs.length ≤ 4000 := hok.2
  show own_Go p e below (s₁.setTop (mkF m 0 #[.val (.ref a), .val (.int (0 : Int32)), .val (.int (Int32.ofNat cs.length)), .unset, .unset, .unset] [])) _
  refine own_go (fun _ k => XS.iloadN X0.here hx rfl (hb hby d_jdk_52_m16_0) rfl k) ?_
  show own_Go p e below (s₁.setTop (mkF m 1 #[.val (.ref a), .val (.int (0 : Int32)), .val (.int (Int32.ofNat cs.length)), .unset, .unset, .unset] [(.int (Int32.ofNat cs.length))])) _
  obtain ⟨T56, h56, k56, X56, e56, E56, A56, st56⟩ := newP X0 hx hZ (hw _ (List.mem_of_getElem? (i := 21) rfl)) e0 (g := (mkF m 1 #[.val (.ref a), .val (.int (0 : Int32)), .val (.int (Int32.ofNat cs.length)), .unset, .unset, .unset] [(.int (Int32.ofNat cs.length))])) rfl (hb hby d_jdk_52_m16_1) rfl (own_nn0 (by omega)) (cap := 6) (by rw [own_tn (by omega)]; exact hcap) (by decide) (by decide) (by decide)
  obtain ⟨b56, g56⟩ : ∃ z, z = h0.size := ⟨_, rfl⟩
  rw [← g56] at A56 st56
  refine own_go st56 ?_
  have V56 : Arv Z h56 b56 k56 .byte (Int32.ofNat cs.length) (List.replicate ((Int32.ofNat cs.length)).toNatClampNeg (.int (0 : Int32))) (.int (0 : Int32)) := (Arv.new A56 (own_nn0 (by omega))).pad (pad_rep [] (.int (0 : Int32)) _)
  show own_Go p e below (T56.setTop (mkF m 3 #[.val (.ref a), .val (.int (0 : Int32)), .val (.int (Int32.ofNat cs.length)), .unset, .unset, .unset] [(.ref b56)])) _
  have Vb0 : Arv Z h56 b56 k56 .byte (Int32.ofNat cs.length) (List.replicate cs.length (.int (0 : Int32))) (.int (0 : Int32)) := by have q := V56; rw [own_tn (by omega)] at q; exact q
  refine own_go (fun _ k => XS.astoreN X56.here hx rfl (hb hby d_jdk_52_m16_3) rfl rfl (l' := #[.val (.ref a), .val (.int (0 : Int32)), .val (.int (Int32.ofNat cs.length)), .val (.ref b56), .unset, .unset]) rfl k) ?_
  show own_Go p e below (T56.setTop (mkF m 4 #[.val (.ref a), .val (.int (0 : Int32)), .val (.int (Int32.ofNat cs.length)), .val (.ref b56), .unset, .unset] [])) _
  refine own_go (fun _ k => XS.aloadN X56.here hx rfl (hb hby d_jdk_52_m16_4) rfl rfl k) ?_
  show own_Go p e below (T56.setTop (mkF m 5 #[.val (.ref a), .val (.int (0 : Int32)), .val (.int (Int32.ofNat cs.length)), .val (.ref b56), .unset, .unset] [(.ref a)])) _
  refine own_go (fun _ k => XS.iloadN X56.here hx rfl (hb hby d_jdk_52_m16_5) rfl k) ?_
  show own_Go p e below (T56.setTop (mkF m 6 #[.val (.ref a), .val (.int (0 : Int32)), .val (.int (Int32.ofNat cs.length)), .val (.ref b56), .unset, .unset] [(.int (0 : Int32)), (.ref a)])) _
  refine own_go (fun _ k => XS.aloadN X56.here hx rfl (hb hby d_jdk_52_m16_6) rfl rfl k) ?_
  show own_Go p e below (T56.setTop (mkF m 7 #[.val (.ref a), .val (.int (0 : Int32)), .val (.int (Int32.ofNat cs.length)), .val (.ref b56), .unset, .unset] [(.ref b56), (.int (0 : Int32)), (.ref a)])) _
  refine own_go (fun _ k => XS.iconst X56.here hx rfl (hb hby d_jdk_52_m16_7) k) ?_
  show own_Go p e below (T56.setTop (mkF m 8 #[.val (.ref a), .val (.int (0 : Int32)), .val (.int (Int32.ofNat cs.length)), .val (.ref b56), .unset, .unset] [(.int (0 : Int32)), (.ref b56), (.int (0 : Int32)), (.ref a)])) _
  refine own_go (fun _ k => XS.iloadN X56.here hx rfl (hb hby d_jdk_52_m16_8) rfl k) ?_
  show own_Go p e below (T56.setTop (mkF m 9 #[.val (.ref a), .val (.int (0 : Int32)), .val (.int (Int32.ofNat cs.length)), .val (.ref b56), .unset, .unset] [(.int (Int32.ofNat cs.length)), (.int (0 : Int32)), (.ref b56), (.int (0 : Int32)), (.ref a)])) _
  have ne57 : a ≠ b56 := Nat.ne_of_lt (Nat.lt_of_lt_of_le V_a.lt (Nat.le_of_eq g56.symm))
  obtain ⟨v58, _, ⟨T58, L58, k58, n58⟩, -, X58, ⟨Lc58, hQ58, l58, y58, z58⟩, st58⟩ := Jvm.LawKit.callS X56 hx (y := (⟨"java/lang/StringUTF16", "compress", "([CI[BII)I"⟩ : MethodName)) hown (mvT hZ (hw _ (List.mem_of_getElem? (i := 22) rfl))) (mvT hZ (hw _ (List.mem_of_getElem? (i := 23) rfl))) (mvT hZ (hw _ (List.mem_of_getElem? (i := 19) rfl))) (mvT hZ (hw _ (List.mem_of_getElem? (i := 24) rfl))) (by decide) (backOf (W := 0) (rm_cmp5 l Z a0 hw [] a ka da cs b56 k56 h56 n0 (O0.ext E56) hok (V_a.ext E56) Vb0 (Nat.le_trans Z0 (Nat.le_of_eq g56.symm)) ne57) hZ (hw _ (List.mem_of_getElem? (i := 24) rfl)) (hw _ (List.mem_of_getElem? (i := 19) rfl)) (by decide) (by decide)) (g := (mkF m 9 #[.val (.ref a), .val (.int (0 : Int32)), .val (.int (Int32.ofNat cs.length)), .val (.ref b56), .unset, .unset] [(.int (Int32.ofNat cs.length)), (.int (0 : Int32)), (.ref b56), (.int (0 : Int32)), (.ref a)])) rfl (by rw [hml]; rfl) (argsL := [(.ref a), (.int (0 : Int32)), (.ref b56), (.int (0 : Int32)), (.int (Int32.ofNat cs.length))]) (rest := []) (lenOf pd_4 rfl) rfl (by show 2 * 0 + _ ≤ _; exact Nat.le_of_eq rfl) (hb hby d_jdk_52_m16_9) (fun _ _ => ⟨rfl, e56, (by decide : 1 + 0 ≤ _), (by decide : 6 + 0 ≤ _)⟩)
  dsimp only [Pt.U, Pt.locs, Pt.cells, Pt.slots] at X58 l58 y58 z58 st58 hQ58
  subst l58 y58 z58
  refine own_go st58 ?_
  obtain ⟨r58, rfl, Nq58, K58, hr58⟩ := hQ58
  have N58 := Fr.app N0 Nq58
  show own_Go p e below (T58.setTop (mkF m 12 #[.val (.ref a), .val (.int (0 : Int32)), .val (.int (Int32.ofNat cs.length)), .val (.ref b56), .unset, .unset] [(.int (Int32.ofNat r58))])) _
  refine own_go (fun _ k => XS.istore X58.here hx rfl (hb hby d_jdk_52_m16_12) rfl (l' := #[.val (.ref a), .val (.int (0 : Int32)), .val (.int (Int32.ofNat cs.length)), .val (.ref b56), .val (.int (Int32.ofNat r58)), .unset]) rfl k) ?_
  show own_Go p e below (T58.setTop (mkF m 14 #[.val (.ref a), .val (.int (0 : Int32)), .val (.int (Int32.ofNat cs.length)), .val (.ref b56), .val (.int (Int32.ofNat r58)), .unset] [])) _
  rcases hr58 with ⟨hr1, hall, Vl⟩ | ⟨hr1, hbig⟩
  · subst hr1
    show own_Go p e below (T58.setTop (mkF m 14 #[.val (.ref a), .val (.int (0 : Int32)), .val (.int (Int32.ofNat cs.length)), .val (.ref b56), .val (.int (Int32.ofNat cs.length)), .unset] [])) _
    refine own_go (fun _ k => XS.iload X58.here hx rfl (hb hby d_jdk_52_m16_14) rfl k) ?_
    show own_Go p e below (T58.setTop (mkF m 16 #[.val (.ref a), .val (.int (0 : Int32)), .val (.int (Int32.ofNat cs.length)), .val (.ref b56), .val (.int (Int32.ofNat cs.length)), .unset] [(.int (Int32.ofNat cs.length))])) _
    refine own_go (fun _ k => XS.iloadN X58.here hx rfl (hb hby d_jdk_52_m16_16) rfl k) ?_
    show own_Go p e below (T58.setTop (mkF m 17 #[.val (.ref a), .val (.int (0 : Int32)), .val (.int (Int32.ofNat cs.length)), .val (.ref b56), .val (.int (Int32.ofNat cs.length)), .unset] [(.int (Int32.ofNat cs.length)), (.int (Int32.ofNat cs.length))])) _
    refine own_go (fun _ k => XS.icmpYes X58.here hx rfl (pc0 := 17) (pc' := 57) rfl (hb hby d_jdk_52_m16_17) rfl (teq (rfl : (Int32.ofNat cs.length) = (Int32.ofNat cs.length))).1 (by decide) (by decide) k) ?_
    show own_Go p e below (T58.setTop (mkF m 57 #[.val (.ref a), .val (.int (0 : Int32)), .val (.int (Int32.ofNat cs.length)), .val (.ref b56), .val (.int (Int32.ofNat cs.length)), .unset] [])) _
    refine own_go (fun _ k => XS.aloadN X58.here hx rfl (hb hby d_jdk_52_m16_57) rfl rfl k) ?_
    show own_Go p e below (T58.setTop (mkF m 58 #[.val (.ref a), .val (.int (0 : Int32)), .val (.int (Int32.ofNat cs.length)), .val (.ref b56), .val (.int (Int32.ofNat cs.length)), .unset] [(.ref b56)])) _
    have f59 := (((Keep.refl h0 []).ext E56).trans K58 (allS (Or.inr (Nat.le_of_eq g56.symm)) all0))
    refine own_fin (v := (some (.ref b56))) X58 (fun h => by rw [hrt] at h; cases h) hlk (fun fs hr => retR X58 hx hrt (by rfl) rfl rfl (hb hby d_jdk_52_m16_58) hr) (QQ := QCmp Z cs h0 n0) ?_ (by decide) (by decide)
    exact ⟨b56, _, 0, _, _, rfl, N58, f59, (Nat.le_of_eq g56.symm), Vl, Or.inl ⟨rfl, rfl, rfl, hall⟩⟩
  · skip
    show own_Go p e below (T58.setTop (mkF m 14 #[.val (.ref a), .val (.int (0 : Int32)), .val (.int (Int32.ofNat cs.length)), .val (.ref b56), .val (.int (Int32.ofNat r58)), .unset] [])) _
    refine own_go (fun _ k => XS.iload X58.here hx rfl (hb hby d_jdk_52_m16_14) rfl k) ?_
    show own_Go p e below (T58.setTop (mkF m 16 #[.val (.ref a), .val (.int (0 : Int32)), .val (.int (Int32.ofNat cs.length)), .val (.ref b56), .val (.int (Int32.ofNat r58)), .unset] [(.int (Int32.ofNat r58))])) _
    refine own_go (fun _ k => XS.iloadN X58.here hx rfl (hb hby d_jdk_52_m16_16) rfl k) ?_
    show own_Go p e below (T58.setTop (mkF m 17 #[.val (.ref a), .val (.int (0 : Int32)), .val (.int (Int32.ofNat cs.length)), .val (.ref b56), .val (.int (Int32.ofNat r58)), .unset] [(.int (Int32.ofNat cs.length)), (.int (Int32.ofNat r58))])) _
    refine own_go (fun _ k => XS.icmpNo X58.here hx rfl (hb hby d_jdk_52_m16_17) rfl (feq (own_ne_n hr1 hlen)).1 k) ?_
    show own_Go p e below (T58.setTop (mkF m 20 #[.val (.ref a), .val (.int (0 : Int32)), .val (.int (Int32.ofNat cs.length)), .val (.ref b56), .val (.int (Int32.ofNat r58)), .unset] [])) _
    refine own_go (fun _ k => XS.aloadN X58.here hx rfl (hb hby d_jdk_52_m16_20) rfl rfl k) ?_
    show own_Go p e below (T58.setTop (mkF m 21 #[.val (.ref a), .val (.int (0 : Int32)), .val (.int (Int32.ofNat cs.length)), .val (.ref b56), .val (.int (Int32.ofNat r58)), .unset] [(.ref a)])) _
    refine own_go (fun _ k => XS.iloadN X58.here hx rfl (hb hby d_jdk_52_m16_21) rfl k) ?_
    show own_Go p e below (T58.setTop (mkF m 22 #[.val (.ref a), .val (.int (0 : Int32)), .val (.int (Int32.ofNat cs.length)), .val (.ref b56), .val (.int (Int32.ofNat r58)), .unset] [(.int (0 : Int32)), (.ref a)])) _
    refine own_go (fun _ k => XS.iloadN X58.here hx rfl (hb hby d_jdk_52_m16_22) rfl k) ?_
    show own_Go p e below (T58.setTop (mkF m 23 #[.val (.ref a), .val (.int (0 : Int32)), .val (.int (Int32.ofNat cs.length)), .val (.ref b56), .val (.int (Int32.ofNat r58)), .unset] [(.int (Int32.ofNat cs.length)), (.int (0 : Int32)), (.ref a)])) _
    have f60 := ((V_a.ext E56).keep K58 (ninS ne57 nin0))
    have f61 := ((O0.ext E56).keep K58 (allS (Nat.le_trans Z0 (Nat.le_of_eq g56.symm)) all0))
    obtain ⟨v62, _, ⟨T62, L62, k62, n62⟩, -, X62, ⟨Lc62, hQ62, l62, y62, z62⟩, st62⟩ := Jvm.LawKit.callS X58 hx (y := (⟨"java/lang/StringUTF16", "toBytes", "([CII)[B"⟩ : MethodName)) hown (mvT hZ (hw _ (List.mem_of_getElem? (i := 82) rfl))) (mvT hZ (hw _ (List.mem_of_getElem? (i := 83) rfl))) (mvT hZ (hw _ (List.mem_of_getElem? (i := 19) rfl))) (mvT hZ (hw _ (List.mem_of_getElem? (i := 84) rfl))) (by decide) (backOf (W := 0) (rm_tob l Z a0 hw [] a ka da cs T58.heap n0 f61 OA OH OL hok f60 hcap) hZ (hw _ (List.mem_of_getElem? (i := 84) rfl)) (hw _ (List.mem_of_getElem? (i := 19) rfl)) (by decide) (by decide)) (g := (mkF m 23 #[.val (.ref a), .val (.int (0 : Int32)), .val (.int (Int32.ofNat cs.length)), .val (.ref b56), .val (.int (Int32.ofNat r58)), .unset] [(.int (Int32.ofNat cs.length)), (.int (0 : Int32)), (.ref a)])) rfl (by rw [hml]; rfl) (argsL := [(.ref a), (.int (0 : Int32)), (.int (Int32.ofNat cs.length))]) (rest := []) (lenOf pd_5 rfl) rfl (by show 2 * 0 + _ ≤ _; exact Nat.le_of_eq rfl) (hb hby d_jdk_52_m16_23) (fun _ _ => ⟨rfl, (rfl : T58.heap = T58.heap), (by decide : 1 + 1 ≤ _), (by decide : 6 + 12 ≤ _)⟩)
    dsimp only [Pt.U, Pt.locs, Pt.cells, Pt.slots] at X62 l62 y62 z62 st62 hQ62
    subst l62 y62 z62
    refine own_go st62 ?_
    obtain ⟨t62, kt62, rfl, Nq62, K62, tg62, Vt62⟩ := hQ62
    have N62 := Fr.app N58 Nq62
    show own_Go p e below (T62.setTop (mkF m 26 #[.val (.ref a), .val (.int (0 : Int32)), .val (.int (Int32.ofNat cs.length)), .val (.ref b56), .val (.int (Int32.ofNat r58)), .unset] [(.ref t62)])) _
    refine own_go (fun _ k => XS.astore X62.here hx rfl (hb hby d_jdk_52_m16_26) rfl rfl (l' := #[.val (.ref a), .val (.int (0 : Int32)), .val (.int (Int32.ofNat cs.length)), .val (.ref b56), .val (.int (Int32.ofNat r58)), .val (.ref t62)]) rfl k) ?_
    show own_Go p e below (T62.setTop (mkF m 28 #[.val (.ref a), .val (.int (0 : Int32)), .val (.int (Int32.ofNat cs.length)), .val (.ref b56), .val (.int (Int32.ofNat r58)), .val (.ref t62)] [])) _
    refine own_go (fun _ k => XS.aload X62.here hx rfl (hb hby d_jdk_52_m16_28) rfl rfl k) ?_
    show own_Go p e below (T62.setTop (mkF m 30 #[.val (.ref a), .val (.int (0 : Int32)), .val (.int (Int32.ofNat cs.length)), .val (.ref b56), .val (.int (Int32.ofNat r58)), .val (.ref t62)] [(.ref t62)])) _
    refine own_go (fun _ k => XS.iload X62.here hx rfl (hb hby d_jdk_52_m16_30) rfl k) ?_
    show own_Go p e below (T62.setTop (mkF m 32 #[.val (.ref a), .val (.int (0 : Int32)), .val (.int (Int32.ofNat cs.length)), .val (.ref b56), .val (.int (Int32.ofNat r58)), .val (.ref t62)] [(.int (Int32.ofNat r58)), (.ref t62)])) _
    obtain ⟨v63, _, ⟨T63, L63, k63, n63⟩, -, X63, ⟨Lc63, hQ63, l63, y63, z63⟩, st63⟩ := Jvm.LawKit.callS X62 hx (y := (⟨"java/lang/StringUTF16", "getChar", "([BI)C"⟩ : MethodName)) hown (mvT hZ (hw _ (List.mem_of_getElem? (i := 98) rfl))) (mvT hZ (hw _ (List.mem_of_getElem? (i := 99) rfl))) (mvT hZ (hw _ (List.mem_of_getElem? (i := 19) rfl))) (mvT hZ (hw _ (List.mem_of_getElem? (i := 100) rfl))) (by decide) (backOf (W := 0) (rm_get l Z a0 hw [] t62 kt62 (2 * cs.length) (StrChars.Road.wideBytes cs) r58 (cs.getD r58 0) T62.heap n0 (f61.keep K62 all0) OA OH OL Vt62 (StrChars.Road.wide_lo _ cs _ hr1) (StrChars.Road.wide_hi _ cs _ hr1) (by omega) (by omega) (hok.at hr1)) hZ (hw _ (List.mem_of_getElem? (i := 100) rfl)) (hw _ (List.mem_of_getElem? (i := 19) rfl)) (by decide) (by decide)) (g := (mkF m 32 #[.val (.ref a), .val (.int (0 : Int32)), .val (.int (Int32.ofNat cs.length)), .val (.ref b56), .val (.int (Int32.ofNat r58)), .val (.ref t62)] [(.int (Int32.ofNat r58)), (.ref t62)])) rfl (by rw [hml]; rfl) (argsL := [(.ref t62), (.int (Int32.ofNat r58))]) (rest := []) (lenOf pd_6 rfl) rfl (by show 2 * 0 + _ ≤ _; exact Nat.le_of_eq rfl) (hb hby d_jdk_52_m16_32) (fun _ _ => ⟨rfl, (rfl : T62.heap = T62.heap), (by decide : 2 + 0 ≤ _), (by decide : 18 + 0 ≤ _)⟩)
    dsimp only [Pt.U, Pt.locs, Pt.cells, Pt.slots] at X63 l63 y63 z63 st63 hQ63
    subst l63 y63 z63
    refine own_go st63 ?_
    obtain ⟨rfl, Nq63, e63⟩ := hQ63
    have N63 := Fr.app N62 Nq63
    show own_Go p e below (T63.setTop (mkF m 35 #[.val (.ref a), .val (.int (0 : Int32)), .val (.int (Int32.ofNat cs.length)), .val (.ref b56), .val (.int (Int32.ofNat r58)), .val (.ref t62)] [(.int (cs.getD r58 0))])) _
    refine own_go (fun _ k => XS.sipush X63.here hx rfl (hb hby d_jdk_52_m16_35) k) ?_
    show own_Go p e below (T63.setTop (mkF m 38 #[.val (.ref a), .val (.int (0 : Int32)), .val (.int (Int32.ofNat cs.length)), .val (.ref b56), .val (.int (Int32.ofNat r58)), .val (.ref t62)] [(.int (255 : Int32)), (.int (cs.getD r58 0))])) _
    refine own_go (fun _ k => XS.icmpYes X63.here hx rfl (pc0 := 38) (pc' := 54) rfl (hb hby d_jdk_52_m16_38) rfl (tlt hbig).2.2.1 (by decide) (by decide) k) ?_
    show own_Go p e below (T63.setTop (mkF m 54 #[.val (.ref a), .val (.int (0 : Int32)), .val (.int (Int32.ofNat cs.length)), .val (.ref b56), .val (.int (Int32.ofNat r58)), .val (.ref t62)] [])) _
    refine own_go (fun _ k => XS.aload X63.here hx rfl (hb hby d_jdk_52_m16_54) rfl rfl k) ?_
    show own_Go p e below (T63.setTop (mkF m 56 #[.val (.ref a), .val (.int (0 : Int32)), .val (.int (Int32.ofNat cs.length)), .val (.ref b56), .val (.int (Int32.ofNat r58)), .val (.ref t62)] [(.ref t62)])) _
    have f64 := ((((Keep.refl h0 []).ext E56).trans K58 (allS (Or.inr (Nat.le_of_eq g56.symm)) all0)).trans K62 all0)
    refine own_fin (v := (some (.ref t62))) X63 (fun h => by rw [hrt] at h; cases h) hlk (fun fs hr => retR X63 hx hrt (by rfl) rfl rfl (hb hby d_jdk_52_m16_56) hr) (QQ := QCmp Z cs h0 n0) ?_ (by decide) (by decide)
    rw [e63]
    exact ⟨t62, _, 1, _, _, rfl, N63, f64, (Nat.le_trans (Nat.le_trans E56.1 K58.1) tg62), Vt62, Or.inr ⟨rfl, rfl, rfl, _, own_getm hr1, hbig⟩⟩

theorem d_jdk_52_m15_0 : decode jdk_52_method_15_code 0 = .ok (.iload_n 1, 1) := by decide +kernel
theorem d_jdk_52_m15_1 : decode jdk_52_method_15_code 1 = .ok (.aload_n 0, 1) := by decide +kernel
theorem d_jdk_52_m15_2 : decode jdk_52_method_15_code 2 = .ok (.arraylength, 1) := by decide +kernel
theorem d_jdk_52_m15_3 : decode jdk_52_method_15_code 3 = .ok (.isub, 1) := by decide +kernel
theorem d_jdk_52_m15_4 : decode jdk_52_method_15_code 4 = .ok (.bipush 31, 2) := by decide +kernel
theorem d_jdk_52_m15_6 : decode jdk_52_method_15_code 6 = .ok (.iushr, 1) := by decide +kernel
theorem d_jdk_52_m15_7 : decode jdk_52_method_15_code 7 = .ok (.i2b, 1) := by decide +kernel
theorem d_jdk_52_m15_8 : decode jdk_52_method_15_code 8 = .ok (.ireturn, 1) := by decide +kernel
theorem ef_rm_cfa (m : MethodId) (x0 : Addr) (x1 : Int32) : entryFrame m #[(.ref x0), (.int x1)] 2 = mkF m 0 #[.val (.ref x0), .val (.int x1)] [] := by
   first | (simp [entryFrame, mkF, argsToLocals, Value.category]; done) | rfl
set_option maxRecDepth 65536 in
set_option maxHeartbeats 40000000 in
theorem rm_cfa (l : Launch) (Z : State) (a0 : Array Value) (hw : ∀ d ∈ tables_1, d.before a0 Z = true) (ws : List Jvm.Cond) (t : Addr) (k : ClassId) (N2 : Int32) (vs : List Value) (cs : List Int32) (cd : Int32) (h0 : Heap) (n0 : Nat) (O0 : Old Z n0 h0) (V_t : Arv Z h0 t k .byte N2 vs (.int (0 : Int32))) (hC : StrChars.Road.CodA cs cd N2 vs) (h1 : 0 < cs.length) (h2 : cs.length ≤ 4000) :
    MetFree l (⟨"java/lang/StringUTF16", "coderFromArrayLen", "([BI)B"⟩ : MethodName) (head1 (Jvm.Cond.code (⟨"java/lang/StringUTF16", "coderFromArrayLen", "([BI)B"⟩ : MethodName) jdk_52_method_15_code 2 (some .byte) :: ws) ({ frames := 0, cells := 0, slots := 0, locals := 0 } : Room)) (fun aA U => aA = #[(.ref t), (.int (Int32.ofNat cs.length))] ∧ Z.Warmed39 U.vm ∧ U.heap = h0) (fun _ _ _ _ _ => True) (fun _ U oO U' => ∃ rV rL, oO = .returned rV ∧ QPure (some (.int cd)) h0 n0 rV U'.heap rL ∧ FrameEnd U oO U' rL 0 0) := by
  refine MetFree.of_bodySF (plainFor_of_name pn_1) hisR ?_
  intro p e s m args below meth cC s₁ Bd hml0 hP hK
  obtain ⟨rfl, hZ, hh⟩ := hP
  have hx := Bd.exec
  have hby := Bd.bytes
  have hml : cC.maxLocals = 2 := hml0
  have hown : s.vm.findClass "java/lang/StringUTF16" = some m.cls := findClass_of_methodNamed Bd.named
  have hnm := (name_of_methodNamed Bd.named Bd.method).1
  have hrt := Bd.returns
  have hlk : meth.locks = false := Bd.notSynchronized
  have X0 : Stand p l e ({ frames := 0, cells := 0, slots := 0, locals := 0 } : Room) s m #[(.ref t), (.int (Int32.ofNat cs.length))] below meth cC s₁ [] 0 0 := Stand.of_body Bd
  have e0 : s₁.heap = h0 := by rw [← hh, Bd.state]; rfl
  have N0 := Fr.nil n0
  have Z0 : n0 ≤ h0.size := O0.1 ▸ O0.2.1
  show own_Go p e below (s₁.setTop (entryFrame m #[(.ref t), (.int (Int32.ofNat cs.length))] 2)) (fun oO U' => ∃ rV rL, oO = .returned rV ∧ QPure (some (.int cd)) h0 n0 rV U'.heap rL ∧ FrameEnd s oO U' rL 0 0)
  refine own_go (fun _ k => castTop (ef_rm_cfa m t _) k) ?_
  show own_Go p e below (s₁.setTop (mkF m 0 #[.val (.ref t), .val (.int (Int32.ofNat cs.length))] [])) _
  refine own_go (fun _ k => XS.iloadN X0.here hx rfl (hb hby d_jdk_52_m15_0) rfl k) ?_
  show own_Go p e below (s₁.setTop (mkF m 1 #[.val (.ref t), .val (.int (Int32.ofNat cs.length))] [(.int (Int32.ofNat cs.length))])) _
  refine own_go (fun _ k => XS.aloadN X0.here hx rfl (hb hby d_jdk_52_m15_1) rfl rfl k) ?_
  show own_Go p e below (s₁.setTop (mkF m 2 #[.val (.ref t), .val (.int (Int32.ofNat cs.length))] [(.ref t), (.int (Int32.ofNat cs.length))])) _
  obtain ⟨c65, A65, q65, S65, M65, Hs65, Gs65⟩ := id V_t
  refine own_go (fun _ k => X0.arraylength hx (by rw [e0]; exact A65.1) (State.isArrayOf_alike hZ.alike A65.2.1) (g := (mkF m 2 #[.val (.ref t), .val (.int (Int32.ofNat cs.length))] [(.ref t), (.int (Int32.ofNat cs.length))])) rfl rfl (hb hby d_jdk_52_m15_2) _ k) ?_
  rw [len_of S65 M65]
  show own_Go p e below (s₁.setTop (mkF m 3 #[.val (.ref t), .val (.int (Int32.ofNat cs.length))] [(.int N2), (.int (Int32.ofNat cs.length))])) _
  refine own_go (fun _ k => XS.isub X0.here hx rfl (hb hby d_jdk_52_m15_3) rfl k) ?_
  show own_Go p e below (s₁.setTop (mkF m 4 #[.val (.ref t), .val (.int (Int32.ofNat cs.length))] [(.int ((Int32.ofNat cs.length) - N2))])) _
  refine own_go (fun _ k => XS.bipush X0.here hx rfl (hb hby d_jdk_52_m15_4) k) ?_
  show own_Go p e below (s₁.setTop (mkF m 6 #[.val (.ref t), .val (.int (Int32.ofNat cs.length))] [(.int (31 : Int32)), (.int ((Int32.ofNat cs.length) - N2))])) _
  refine own_go (fun _ k => XS.iushr X0.here hx rfl (hb hby d_jdk_52_m15_6) rfl k) ?_
  show own_Go p e below (s₁.setTop (mkF m 7 #[.val (.ref t), .val (.int (Int32.ofNat cs.length))] [(.int ((((Int32.ofNat cs.length) - N2).toUInt32 >>> ((31 : Int32) &&& 31).toUInt32).toInt32))])) _
  refine own_go (fun _ k => XS.i2b X0.here hx rfl (hb hby d_jdk_52_m15_7) rfl k) ?_
  show own_Go p e below (s₁.setTop (mkF m 8 #[.val (.ref t), .val (.int (Int32.ofNat cs.length))] [(.int (((((Int32.ofNat cs.length) - N2).toUInt32 >>> ((31 : Int32) &&& 31).toUInt32).toInt32).toInt8.toInt32))])) _
  refine own_fin (v := (some (.int (nar .byte (((((Int32.ofNat cs.length) - N2).toUInt32 >>> ((31 : Int32) &&& 31).toUInt32).toInt32).toInt8.toInt32))))) X0 (fun h => by rw [hrt] at h; cases h) hlk (fun fs hr => retN X0 hx (t := .byte) hrt (by simp) (hb hby d_jdk_52_m15_8) hr) (QQ := QPure (some (.int cd)) h0 n0) ?_ (by decide) (by decide)
  rw [e0]
  exact ⟨congrArg (fun z => some (Value.int z)) ((own_nb _).trans (own_cod hC h1 h2)), N0, rfl⟩

theorem d_jdk_42_m149_27 : decode jdk_42_method_149_code 27 = .ok (.getstatic 38, 3) := by decide +kernel
theorem d_jdk_42_m149_30 : decode jdk_42_method_149_code 30 = .ok (.ifCond .eq 28, 3) := by decide +kernel
theorem d_jdk_42_m149_33 : decode jdk_42_method_149_code 33 = .ok (.aload_n 1, 1) := by decide +kernel
theorem d_jdk_42_m149_34 : decode jdk_42_method_149_code 34 = .ok (.iload_n 2, 1) := by decide +kernel
theorem d_jdk_42_m149_35 : decode jdk_42_method_149_code 35 = .ok (.iload_n 3, 1) := by decide +kernel
theorem d_jdk_42_m149_36 : decode jdk_42_method_149_code 36 = .ok (.invokestatic 177, 3) := by decide +kernel
theorem d_jdk_42_m149_39 : decode jdk_42_method_149_code 39 = .ok (.astore 5, 2) := by decide +kernel
theorem d_jdk_42_m149_41 : decode jdk_42_method_149_code 41 = .ok (.aload_n 0, 1) := by decide +kernel
theorem d_jdk_42_m149_42 : decode jdk_42_method_149_code 42 = .ok (.aload 5, 2) := by decide +kernel
theorem d_jdk_42_m149_44 : decode jdk_42_method_149_code 44 = .ok (.iload_n 3, 1) := by decide +kernel
theorem d_jdk_42_m149_45 : decode jdk_42_method_149_code 45 = .ok (.invokestatic 47, 3) := by decide +kernel
theorem pd_7 : parseMethodDescriptor "([BI)B" = some ⟨[(.array .byte), .int], some .byte⟩ := by decide +kernel
theorem d_jdk_42_m149_48 : decode jdk_42_method_149_code 48 = .ok (.putfield 15, 3) := by decide +kernel
theorem d_jdk_42_m149_51 : decode jdk_42_method_149_code 51 = .ok (.aload_n 0, 1) := by decide +kernel
theorem d_jdk_42_m149_52 : decode jdk_42_method_149_code 52 = .ok (.aload 5, 2) := by decide +kernel
theorem d_jdk_42_m149_54 : decode jdk_42_method_149_code 54 = .ok (.putfield 9, 3) := by decide +kernel
theorem d_jdk_42_m149_57 : decode jdk_42_method_149_code 57 = .ok (.return_, 1) := by decide +kernel
theorem ef_rm_i4 (m : MethodId) (x0 : Addr) (x1 : Addr) (x2 : Int32) (x3 : Int32) : entryFrame m #[(.ref x0), (.ref x1), (.int x2), (.int x3), .null] 6 = mkF m 0 #[.val (.ref x0), .val (.ref x1), .val (.int x2), .val (.int x3), .val .null, .unset] [] := by
   first | (simp [entryFrame, mkF, argsToLocals, Value.category]; done) | rfl
set_option maxRecDepth 65536 in
set_option maxHeartbeats 40000000 in
theorem rm_i4 (l : Launch) (Z : State) (a0 : Array Value) (hw : ∀ d ∈ tables_1, d.before a0 Z = true) (ws : List Jvm.Cond) (x : Addr) (a : Addr) (ka : ClassId) (da : Value) (cs : List Int32) (G1 : Int32) (h0 : Heap) (n0 : Nat) (O0 : Old Z n0 h0) (E_x : Exa Z h0 x "java/lang/String") (F_v : Fld Z h0 x "java/lang/String" "value" "[B" .null) (F_c : Fld Z h0 x "java/lang/String" "coder" "B" (.int (0 : Int32))) (g_x : n0 ≤ x) (OA : Sta Z Z.heap "java/lang/StringUTF16" "$assertionsDisabled" "Z" (.int (1 : Int32))) (OH : Sta Z Z.heap "java/lang/StringUTF16" "HI_BYTE_SHIFT" "I" (.int (0 : Int32))) (OL : Sta Z Z.heap "java/lang/StringUTF16" "LO_BYTE_SHIFT" "I" (.int (8 : Int32))) (O2 : Sta Z Z.heap "java/lang/String" "COMPACT_STRINGS" "Z" (.int G1)) (P5 : ¬ (G1 = (0 : Int32))) (hok : own_Ok cs) (V_a : Arv Z h0 a ka .char (Int32.ofNat cs.length) (cs.map Value.int) da) (hcap : cs.length ≤ 6) (h1 : 0 < cs.length) :
    MetFree l (⟨"java/lang/String", "<init>", "([CIILjava/lang/Void;)V"⟩ : MethodName) (head1 (Jvm.Cond.code (⟨"java/lang/String", "<init>", "([CIILjava/lang/Void;)V"⟩ : MethodName) jdk_42_method_149_code 6 none :: ws) ({ frames := 4, cells := 2, slots := 18, locals := 57 } : Room)) (fun aA U => aA = #[(.ref x), (.ref a), (.int (0 : Int32)), (.int (Int32.ofNat cs.length)), .null] ∧ Z.Warmed39 U.vm ∧ U.heap = h0) (fun _ _ _ _ _ => True) (fun _ U oO U' => ∃ rV rL, oO = .returned rV ∧ QSt Z x cs h0 n0 rV U'.heap rL ∧ FrameEnd U oO U' rL 2 18) := by
  refine MetFree.of_bodySF (plainFor_of_name pn_0) hisR ?_
  intro p e s m args below meth cC s₁ Bd hml0 hP hK
  obtain ⟨rfl, hZ, hh⟩ := hP
  have hx := Bd.exec
  have hby := Bd.bytes
  have hml : cC.maxLocals = 6 := hml0
  have hown : s.vm.findClass "java/lang/String" = some m.cls := findClass_of_methodNamed Bd.named
  have hnm := (name_of_methodNamed Bd.named Bd.method).1
  have hrt := Bd.returns
  have hlk : meth.locks = false := Bd.notSynchronized
  have X0 : Stand p l e ({ frames := 4, cells := 2, slots := 18, locals := 57 } : Room) s m #[(.ref x), (.ref a), (.int (0 : Int32)), (.int (Int32.ofNat cs.length)), .null] below meth cC s₁ [] 0 0 := Stand.of_body Bd
  have e0 : s₁.heap = h0 := by rw [← hh, Bd.state]; rfl
  have N0 := Fr.nil n0
  have Z0 : n0 ≤ h0.size := O0.1 ▸ O0.2.1
  show own_Go p e below (s₁.setTop (entryFrame m #[(.ref x), (.ref a), (.int (0 : Int32)), (.int (Int32.ofNat cs.length)), .null] 6)) (fun oO U' => ∃ rV rL, oO = .returned rV ∧ QSt Z x cs h0 n0 rV U'.heap rL ∧ FrameEnd s oO U' rL 2 18)
  refine own_go (fun _ k => castTop (ef_rm_i4 m x a _ _) k) ?_
  have hlen : cs.length ≤ 4000 := hok.2
  have hxa := Exa.neArv E_x V_a (hw _ (List.mem_of_getElem? (i := 4) rfl))
  show own_Go p e below (s₁.setTop (mkF m 0 #[.val (.ref x), .val (.ref a), .val (.int (0 : Int32)), .val (.int (Int32.ofNat cs.length)), .val .null, .unset] [])) _
  refine own_go (fun _ k => XS.aloadN X0.here hx rfl (hb hby d_jdk_42_m149_0) rfl rfl k) ?_
  show own_Go p e below (s₁.setTop (mkF m 1 #[.val (.ref x), .val (.ref a), .val (.int (0 : Int32)), .val (.int (Int32.ofNat cs.length)), .val .null, .unset] [(.ref x)])) _
  obtain ⟨T66, X66, e66, st66⟩ := initO X0 hx hZ hown (hw _ (List.mem_of_getElem? (i := 13) rfl)) (hw _ (List.mem_of_getElem? (i := 14) rfl)) (hw _ (List.mem_of_getElem? (i := 15) rfl)) e0 (g := (mkF m 1 #[.val (.ref x), .val (.ref a), .val (.int (0 : Int32)), .val (.int (Int32.ofNat cs.length)), .val .null, .unset] [(.ref x)])) rfl (by rw [hml]; rfl) rfl (hb hby d_jdk_42_m149_1) (by decide) (W := 0) (by show 2 * 0 + _ ≤ _; exact Nat.le_of_eq rfl) (by decide)
  refine own_go st66 ?_
  show own_Go p e below (T66.setTop (mkF m 4 #[.val (.ref x), .val (.ref a), .val (.int (0 : Int32)), .val (.int (Int32.ofNat cs.length)), .val .null, .unset] [])) _
  refine own_go (fun _ k => XS.iloadN X66.here hx rfl (hb hby d_jdk_42_m149_4) rfl k) ?_
  show own_Go p e below (T66.setTop (mkF m 5 #[.val (.ref x), .val (.ref a), .val (.int (0 : Int32)), .val (.int (Int32.ofNat cs.length)), .val .null, .unset] [(.int (Int32.ofNat cs.length))])) _
  refine own_go (fun _ k => XS.ifYes X66.here hx rfl (pc0 := 5) (pc' := 27) rfl (hb hby d_jdk_42_m149_5) rfl ((if0 _ _).trans (feq (own_ne_0 h1 hlen)).2) (by decide) (by decide) k) ?_
  show own_Go p e below (T66.setTop (mkF m 27 #[.val (.ref x), .val (.ref a), .val (.int (0 : Int32)), .val (.int (Int32.ofNat cs.length)), .val .null, .unset] [])) _
  obtain ⟨T67, X67, e67, st67⟩ := getS2 X66 hx hZ hown (host := "") (Or.inl (hw _ (List.mem_of_getElem? (i := 16) rfl))) Via.refl e66 (O2.ext O0.2) (g := (mkF m 27 #[.val (.ref x), .val (.ref a), .val (.int (0 : Int32)), .val (.int (Int32.ofNat cs.length)), .val .null, .unset] [])) rfl (hb hby d_jdk_42_m149_27)
  refine own_go st67 ?_
  show own_Go p e below (T67.setTop (mkF m 30 #[.val (.ref x), .val (.ref a), .val (.int (0 : Int32)), .val (.int (Int32.ofNat cs.length)), .val .null, .unset] [(.int G1)])) _
  refine own_go (fun _ k => XS.ifNo X67.here hx rfl (hb hby d_jdk_42_m149_30) rfl ((if0 _ _).trans (feq P5).1) k) ?_
  show own_Go p e below (T67.setTop (mkF m 33 #[.val (.ref x), .val (.ref a), .val (.int (0 : Int32)), .val (.int (Int32.ofNat cs.length)), .val .null, .unset] [])) _
  refine own_go (fun _ k => XS.aloadN X67.here hx rfl (hb hby d_jdk_42_m149_33) rfl rfl k) ?_
  show own_Go p e below (T67.setTop (mkF m 34 #[.val (.ref x), .val (.ref a), .val (.int (0 : Int32)), .val (.int (Int32.ofNat cs.length)), .val .null, .unset] [(.ref a)])) _
  refine own_go (fun _ k => XS.iloadN X67.here hx rfl (hb hby d_jdk_42_m149_34) rfl k) ?_
  show own_Go p e below (T67.setTop (mkF m 35 #[.val (.ref x), .val (.ref a), .val (.int (0 : Int32)), .val (.int (Int32.ofNat cs.length)), .val .null, .unset] [(.int (0 : Int32)), (.ref a)])) _
  refine own_go (fun _ k => XS.iloadN X67.here hx rfl (hb hby d_jdk_42_m149_35) rfl k) ?_
  show own_Go p e below (T67.setTop (mkF m 36 #[.val (.ref x), .val (.ref a), .val (.int (0 : Int32)), .val (.int (Int32.ofNat cs.length)), .val .null, .unset] [(.int (Int32.ofNat cs.length)), (.int (0 : Int32)), (.ref a)])) _
  obtain ⟨v68, _, ⟨T68, L68, k68, n68⟩, -, X68, ⟨Lc68, hQ68, l68, y68, z68⟩, st68⟩ := Jvm.LawKit.callS X67 hx (y := (⟨"java/lang/StringUTF16", "compress", "([CII)[B"⟩ : MethodName)) hown (mvT hZ (hw _ (List.mem_of_getElem? (i := 17) rfl))) (mvT hZ (hw _ (List.mem_of_getElem? (i := 18) rfl))) (mvT hZ (hw _ (List.mem_of_getElem? (i := 19) rfl))) (mvT hZ (hw _ (List.mem_of_getElem? (i := 20) rfl))) (by decide) (backOf (W := 0) (rm_cmp3 l Z a0 hw [] a ka da cs h0 n0 O0 OA OH OL hok V_a hcap) hZ (hw _ (List.mem_of_getElem? (i := 20) rfl)) (hw _ (List.mem_of_getElem? (i := 19) rfl)) (by decide) (by decide)) (g := (mkF m 36 #[.val (.ref x), .val (.ref a), .val (.int (0 : Int32)), .val (.int (Int32.ofNat cs.length)), .val .null, .unset] [(.int (Int32.ofNat cs.length)), (.int (0 : Int32)), (.ref a)])) rfl (by rw [hml]; rfl) (argsL := [(.ref a), (.int (0 : Int32)), (.int (Int32.ofNat cs.length))]) (rest := []) (lenOf pd_5 rfl) rfl (by show 2 * 0 + _ ≤ _; exact Nat.le_of_eq rfl) (hb hby d_jdk_42_m149_36) (fun _ _ => ⟨rfl, e67, (by decide : 0 + 2 ≤ _), (by decide : 0 + 18 ≤ _)⟩)
  dsimp only [Pt.U, Pt.locs, Pt.cells, Pt.slots] at X68 l68 y68 z68 st68 hQ68
  subst l68 y68 z68
  refine own_go st68 ?_
  obtain ⟨t68, kt68, cd68, N268, vs68, rfl, Nq68, K68, tg68, Vt68, hC68⟩ := hQ68
  have N68 := Fr.app N0 Nq68
  show own_Go p e below (T68.setTop (mkF m 39 #[.val (.ref x), .val (.ref a), .val (.int (0 : Int32)), .val (.int (Int32.ofNat cs.length)), .val .null, .unset] [(.ref t68)])) _
  refine own_go (fun _ k => XS.astore X68.here hx rfl (hb hby d_jdk_42_m149_39) rfl rfl (l' := #[.val (.ref x), .val (.ref a), .val (.int (0 : Int32)), .val (.int (Int32.ofNat cs.length)), .val .null, .val (.ref t68)]) rfl k) ?_
  show own_Go p e below (T68.setTop (mkF m 41 #[.val (.ref x), .val (.ref a), .val (.int (0 : Int32)), .val (.int (Int32.ofNat cs.length)), .val .null, .val (.ref t68)] [])) _
  refine own_go (fun _ k => XS.aloadN X68.here hx rfl (hb hby d_jdk_42_m149_41) rfl rfl k) ?_
  show own_Go p e below (T68.setTop (mkF m 42 #[.val (.ref x), .val (.ref a), .val (.int (0 : Int32)), .val (.int (Int32.ofNat cs.length)), .val .null, .val (.ref t68)] [(.ref x)])) _
  refine own_go (fun _ k => XS.aload X68.here hx rfl (hb hby d_jdk_42_m149_42) rfl rfl k) ?_
  show own_Go p e below (T68.setTop (mkF m 44 #[.val (.ref x), .val (.ref a), .val (.int (0 : Int32)), .val (.int (Int32.ofNat cs.length)), .val .null, .val (.ref t68)] [(.ref t68), (.ref x)])) _
  refine own_go (fun _ k => XS.iloadN X68.here hx rfl (hb hby d_jdk_42_m149_44) rfl k) ?_
  show own_Go p e below (T68.setTop (mkF m 45 #[.val (.ref x), .val (.ref a), .val (.int (0 : Int32)), .val (.int (Int32.ofNat cs.length)), .val .null, .val (.ref t68)] [(.int (Int32.ofNat cs.length)), (.ref t68), (.ref x)])) _
  obtain ⟨v69, _, ⟨T69, L69, k69, n69⟩, -, X69, ⟨Lc69, hQ69, l69, y69, z69⟩, st69⟩ := Jvm.LawKit.callS X68 hx (y := (⟨"java/lang/StringUTF16", "coderFromArrayLen", "([BI)B"⟩ : MethodName)) hown (mvT hZ (hw _ (List.mem_of_getElem? (i := 25) rfl))) (mvT hZ (hw _ (List.mem_of_getElem? (i := 26) rfl))) (mvT hZ (hw _ (List.mem_of_getElem? (i := 19) rfl))) (mvT hZ (hw _ (List.mem_of_getElem? (i := 27) rfl))) (by decide) (backOf (W := 1) (rm_cfa l Z a0 hw [] t68 kt68 N268 vs68 cs cd68 T68.heap n0 (O0.keep K68 all0) Vt68 hC68 h1 hlen) hZ (hw _ (List.mem_of_getElem? (i := 27) rfl)) (hw _ (List.mem_of_getElem? (i := 19) rfl)) (by decide) (by decide)) (g := (mkF m 45 #[.val (.ref x), .val (.ref a), .val (.int (0 : Int32)), .val (.int (Int32.ofNat cs.length)), .val .null, .val (.ref t68)] [(.int (Int32.ofNat cs.length)), (.ref t68), (.ref x)])) rfl (by rw [hml]; rfl) (argsL := [(.ref t68), (.int (Int32.ofNat cs.length))]) (rest := [(.ref x)]) (lenOf pd_7 rfl) rfl (by show 2 * 0 + _ ≤ _; exact Nat.le_of_eq rfl) (hb hby d_jdk_42_m149_45) (fun _ _ => ⟨rfl, (rfl : T68.heap = T68.heap), (by decide : 2 + 0 ≤ _), (by decide : 18 + 0 ≤ _)⟩)
  dsimp only [Pt.U, Pt.locs, Pt.cells, Pt.slots] at X69 l69 y69 z69 st69 hQ69
  subst l69 y69 z69
  refine own_go st69 ?_
  obtain ⟨rfl, Nq69, e69⟩ := hQ69
  have N69 := Fr.app N68 Nq69
  show own_Go p e below (T69.setTop (mkF m 48 #[.val (.ref x), .val (.ref a), .val (.int (0 : Int32)), .val (.int (Int32.ofNat cs.length)), .val .null, .val (.ref t68)] [(.int cd68), (.ref x)])) _
  obtain ⟨T70, h70, X70, e70, W70, st70⟩ := putFN X69 hx hZ hown (hw _ (List.mem_of_getElem? (i := 28) rfl)) Via.refl e69 (F_c.keep K68 nin0) (E_x.keep K68) (Or.inr ⟨(hw _ (List.mem_of_getElem? (i := 29) rfl)), rfl, hnm⟩) (hw _ (List.mem_of_getElem? (i := 4) rfl)) (ty := .byte) (v' := (.int (nar .byte cd68))) (by decide) rfl (fits_nar_byte _) (g := (mkF m 48 #[.val (.ref x), .val (.ref a), .val (.int (0 : Int32)), .val (.int (Int32.ofNat cs.length)), .val .null, .val (.ref t68)] [(.int cd68), (.ref x)])) rfl rfl (hb hby d_jdk_42_m149_48)
  refine own_go st70 ?_
  have N70 := Fr.snoc X70 N69 g_x
  have Fw70 := (F_c.keep K68 nin0).same W70
  show own_Go p e below (T70.setTop (mkF m 51 #[.val (.ref x), .val (.ref a), .val (.int (0 : Int32)), .val (.int (Int32.ofNat cs.length)), .val .null, .val (.ref t68)] [])) _
  refine own_go (fun _ k => XS.aloadN X70.here hx rfl (hb hby d_jdk_42_m149_51) rfl rfl k) ?_
  show own_Go p e below (T70.setTop (mkF m 52 #[.val (.ref x), .val (.ref a), .val (.int (0 : Int32)), .val (.int (Int32.ofNat cs.length)), .val .null, .val (.ref t68)] [(.ref x)])) _
  refine own_go (fun _ k => XS.aload X70.here hx rfl (hb hby d_jdk_42_m149_52) rfl rfl k) ?_
  show own_Go p e below (T70.setTop (mkF m 54 #[.val (.ref x), .val (.ref a), .val (.int (0 : Int32)), .val (.int (Int32.ofNat cs.length)), .val .null, .val (.ref t68)] [(.ref t68), (.ref x)])) _
  have f71 := ((F_v.keep K68 nin0).other W70 (Or.inr (slot_ne (Or.inr (hw _ (List.mem_of_getElem? (i := 31) rfl))) (Or.inr (hw _ (List.mem_of_getElem? (i := 29) rfl))) (by decide) (t := (.array .byte)) (t' := .byte) (by decide) (by decide))))
  obtain ⟨T72, h72, X72, e72, W72, st72⟩ := putF X70 hx hZ hown (host := "") (Or.inl (hw _ (List.mem_of_getElem? (i := 30) rfl))) Via.refl e70 f71 ((E_x.keep K68).wr W70) (Or.inr ⟨(hw _ (List.mem_of_getElem? (i := 31) rfl)), rfl, hnm⟩) (hw _ (List.mem_of_getElem? (i := 4) rfl)) (ty := (.array .byte)) (by decide) rfl rfl (g := (mkF m 54 #[.val (.ref x), .val (.ref a), .val (.int (0 : Int32)), .val (.int (Int32.ofNat cs.length)), .val .null, .val (.ref t68)] [(.ref t68), (.ref x)])) rfl rfl (hb hby d_jdk_42_m149_54)
  refine own_go st72 ?_
  have N72 := Fr.snoc X72 N70 g_x
  have Fw72 := f71.same W72
  show own_Go p e below (T72.setTop (mkF m 57 #[.val (.ref x), .val (.ref a), .val (.int (0 : Int32)), .val (.int (Int32.ofNat cs.length)), .val .null, .val (.ref t68)] [])) _
  have f73 := (Fw70.other W72 (Or.inr (slot_ne (Or.inr (hw _ (List.mem_of_getElem? (i := 29) rfl))) (Or.inr (hw _ (List.mem_of_getElem? (i := 31) rfl))) (by decide) (t := .byte) (t' := (.array .byte)) (by decide) (by decide))))
  have f74 := ((((Keep.refl h0 [x]).trans K68 all0).wr W70 (Or.inl (List.mem_of_getElem? (i := 0) rfl))).wr W72 (Or.inl (List.mem_of_getElem? (i := 0) rfl)))
  have ne75 : x ≠ t68 := Nat.ne_of_lt (Nat.lt_of_lt_of_le E_x.lt tg68)
  have f76 := ((Vt68.other W70 (Ne.symm ne75)).other W72 (Ne.symm ne75))
  refine own_fin (v := none) X72 (fun _ => rfl) hlk (fun fs hr => X72.returnOut hx hrt (hb hby d_jdk_42_m149_57) hr) (QQ := QSt Z x cs h0 n0) ?_ (by decide) (by decide)
  rw [e72]
  exact ⟨t68, _, _, _, _, rfl, N72, f74, Fw72, (own_ncd hC68 ▸ f73), f76, hC68⟩

theorem ef_rm_i1 (m : MethodId) (x0 : Addr) (x1 : Addr) : entryFrame m #[(.ref x0), (.ref x1)] 2 = mkF m 0 #[.val (.ref x0), .val (.ref x1)] [] := by
   first | (simp [entryFrame, mkF, argsToLocals, Value.category]; done) | rfl
set_option maxRecDepth 65536 in
set_option maxHeartbeats 40000000 in
theorem rm_i1 (l : Launch) (Z : State) (a0 : Array Value) (hw : ∀ d ∈ tables_1, d.before a0 Z = true) (ws : List Jvm.Cond) (x : Addr) (a : Addr) (ka : ClassId) (da : Value) (cs : List Int32) (G1 : Int32) (h0 : Heap) (n0 : Nat) (O0 : Old Z n0 h0) (E_x : Exa Z h0 x "java/lang/String") (F_v : Fld Z h0 x "java/lang/String" "value" "[B" .null) (F_c : Fld Z h0 x "java/lang/String" "coder" "B" (.int (0 : Int32))) (g_x : n0 ≤ x) (OA : Sta Z Z.heap "java/lang/StringUTF16" "$assertionsDisabled" "Z" (.int (1 : Int32))) (OH : Sta Z Z.heap "java/lang/StringUTF16" "HI_BYTE_SHIFT" "I" (.int (0 : Int32))) (OL : Sta Z Z.heap "java/lang/StringUTF16" "LO_BYTE_SHIFT" "I" (.int (8 : Int32))) (O2 : Sta Z Z.heap "java/lang/String" "COMPACT_STRINGS" "Z" (.int G1)) (P5 : ¬ (G1 = (0 : Int32))) (hok : own_Ok cs) (V_a : Arv Z h0 a ka .char (Int32.ofNat cs.length) (cs.map Value.int) da) (hcap : cs.length ≤ 6) (h1 : 0 < cs.length) :
    MetFree l (⟨"java/lang/String", "<init>", "([C)V"⟩ : MethodName) (head1 (Jvm.Cond.code (⟨"java/lang/String", "<init>", "([C)V"⟩ : MethodName) jdk_42_method_3_code 2 none :: ws) ({ frames := 5, cells := 2, slots := 18, locals := 74 } : Room)) (fun aA U => aA = #[(.ref x), (.ref a)] ∧ Z.Warmed39 U.vm ∧ U.heap = h0) (fun _ _ _ _ _ => True) (fun _ U oO U' => ∃ rV rL, oO = .returned rV ∧ QSt Z x cs h0 n0 rV U'.heap rL ∧ FrameEnd U oO U' rL 2 18) := by
  refine MetFree.of_bodySF (plainFor_of_name pn_0) hisR ?_
  intro p e s m args below meth cC s₁ Bd hml0 hP hK
  obtain ⟨rfl, hZ, hh⟩ := hP
  have hx := Bd.exec
  have hby := Bd.bytes
  have hml : cC.maxLocals = 2 := hml0
  have hown : s.vm.findClass "java/lang/String" = some m.cls := findClass_of_methodNamed Bd.named
  have hnm := (name_of_methodNamed Bd.named Bd.method).1
  have hrt := Bd.returns
  have hlk : meth.locks = false := Bd.notSynchronized
  have X0 : Stand p l e ({ frames := 5, cells := 2, slots := 18, locals := 74 } : Room) s m #[(.ref x), (.ref a)] below meth cC s₁ [] 0 0 := Stand.of_body Bd
  have e0 : s₁.heap = h0 := by rw [← hh, Bd.state]; rfl
  have N0 := Fr.nil n0
  have Z0 : n0 ≤ h0.size := O0.1 ▸ O0.2.1
  show own_Go p e below (s₁.setTop (entryFrame m #[(.ref x), (.ref a)] 2)) (fun oO U' => ∃ rV rL, oO = .returned rV ∧ QSt Z x cs h0 n0 rV U'.heap rL ∧ FrameEnd s oO U' rL 2 18)
  refine own_go (fun _ k => castTop (ef_rm_i1 m x a) k) ?_
  have hlen : cs.length ≤ 4000 := hok.2
  have hxa := Exa.neArv E_x V_a (hw _ (List.mem_of_getElem? (i := 4) rfl))
  show own_Go p e below (s₁.setTop (mkF m 0 #[.val (.ref x), .val (.ref a)] [])) _
  refine own_go (fun _ k => XS.aloadN X0.here hx rfl (hb hby d_jdk_42_m3_0) rfl rfl k) ?_
  show own_Go p e below (s₁.setTop (mkF m 1 #[.val (.ref x), .val (.ref a)] [(.ref x)])) _
  refine own_go (fun _ k => XS.aloadN X0.here hx rfl (hb hby d_jdk_42_m3_1) rfl rfl k) ?_
  show own_Go p e below (s₁.setTop (mkF m 2 #[.val (.ref x), .val (.ref a)] [(.ref a), (.ref x)])) _
  refine own_go (fun _ k => XS.iconst X0.here hx rfl (hb hby d_jdk_42_m3_2) k) ?_
  show own_Go p e below (s₁.setTop (mkF m 3 #[.val (.ref x), .val (.ref a)] [(.int (0 : Int32)), (.ref a), (.ref x)])) _
  refine own_go (fun _ k => XS.aloadN X0.here hx rfl (hb hby d_jdk_42_m3_3) rfl rfl k) ?_
  show own_Go p e below (s₁.setTop (mkF m 4 #[.val (.ref x), .val (.ref a)] [(.ref a), (.int (0 : Int32)), (.ref a), (.ref x)])) _
  obtain ⟨c77, A77, q77, S77, M77, Hs77, Gs77⟩ := id V_a
  refine own_go (fun _ k => X0.arraylength hx (by rw [e0]; exact A77.1) (State.isArrayOf_alike hZ.alike A77.2.1) (g := (mkF m 4 #[.val (.ref x), .val (.ref a)] [(.ref a), (.int (0 : Int32)), (.ref a), (.ref x)])) rfl rfl (hb hby d_jdk_42_m3_4) _ k) ?_
  rw [len_of S77 M77]
  show own_Go p e below (s₁.setTop (mkF m 5 #[.val (.ref x), .val (.ref a)] [(.int (Int32.ofNat cs.length)), (.int (0 : Int32)), (.ref a), (.ref x)])) _
  refine own_go (fun _ k => XS.aconstNull X0.here hx rfl (hb hby d_jdk_42_m3_5) k) ?_
  show own_Go p e below (s₁.setTop (mkF m 6 #[.val (.ref x), .val (.ref a)] [.null, (.int (Int32.ofNat cs.length)), (.int (0 : Int32)), (.ref a), (.ref x)])) _
  obtain ⟨v78, _, ⟨T78, L78, k78, n78⟩, -, X78, ⟨Lc78, hQ78, l78, y78, z78⟩, st78⟩ := X0.specialBack hx (y := (⟨"java/lang/String", "<init>", "([CIILjava/lang/Void;)V"⟩ : MethodName)) rfl hown (mvT hZ (hw _ (List.mem_of_getElem? (i := 9) rfl))) (mvT hZ (hw _ (List.mem_of_getElem? (i := 10) rfl))) (mvT hZ (hw _ (List.mem_of_getElem? (i := 12) rfl))) (by decide) (backOf (W := 0) (rm_i4 l Z a0 hw [] x a ka da cs G1 h0 n0 O0 E_x F_v F_c g_x OA OH OL O2 P5 hok V_a hcap h1) hZ (hw _ (List.mem_of_getElem? (i := 12) rfl)) (hw _ (List.mem_of_getElem? (i := 5) rfl)) (by decide) (by decide)) (g := (mkF m 6 #[.val (.ref x), .val (.ref a)] [.null, (.int (Int32.ofNat cs.length)), (.int (0 : Int32)), (.ref a), (.ref x)])) rfl (by rw [hml]; rfl) (Steps.refl _) (a := x) (argsL := [(.ref a), (.int (0 : Int32)), (.int (Int32.ofNat cs.length)), .null]) (rest := []) (lenOf pd_0 rfl) rfl (by show 2 * 0 + _ ≤ _; exact Nat.le_of_eq rfl) (hb hby d_jdk_42_m3_6) (fun _ _ => ⟨rfl, e0, (by decide : 0 + 2 ≤ _), (by decide : 0 + 18 ≤ _)⟩)
  dsimp only [Pt.U, Pt.locs, Pt.cells, Pt.slots] at X78 l78 y78 z78 st78 hQ78
  subst l78 y78 z78
  refine own_gos st78 ?_
  obtain ⟨t78, kt78, cd78, N278, vs78, rfl, Nq78, K78, Fv78, Fc78, Vt78, hC78⟩ := hQ78
  have N78 := Fr.app N0 Nq78
  show own_Go p e below (T78.setTop (mkF m 9 #[.val (.ref x), .val (.ref a)] [])) _
  have f79 := ((Keep.refl h0 [x]).trans K78 (allS (Or.inl (List.mem_of_getElem? (i := 0) rfl)) all0))
  refine own_fin (v := none) X78 (fun _ => rfl) hlk (fun fs hr => X78.returnOut hx hrt (hb hby d_jdk_42_m3_9) hr) (QQ := QSt Z x cs h0 n0) ?_ (by decide) (by decide)
  exact ⟨t78, _, _, _, _, rfl, N78, f79, Fv78, Fc78, Vt78, hC78⟩

def QIx (cs : List Int32) (ch : Int32) (h0 : Heap) (n0 : Nat) (v : Option Value) (h : Heap) (L : List Loc) : Prop := ∃ r : Int32, v = some (.int r) ∧ Fr n0 L ∧ h = h0 ∧ ((¬ r < 0 ∧ ch ∈ cs) ∨ (r < 0 ∧ ¬ ch ∈ cs))
theorem own_loinj {x c : Int32} (h0 : ¬ x < 0) (h1 : ¬ (255 : Int32) < x) (g0 : ¬ c < 0) (g1 : ¬ (255 : Int32) < c) (e : StrChars.lo8 x = c.toInt8.toInt32) : x = c := by
  have e' : StrChars.lo8 x = StrChars.lo8 c := e
  rw [← StrChars.lo8_mask h0 h1, ← StrChars.lo8_mask g0 g1, e']
theorem own_lgd {cs : List Int32} {i : Nat} (hi : i < cs.length) (h : cs.length ≤ 4000) : (own_lat cs).getD (Int32.ofNat i).toNatClampNeg (.int (0 : Int32)) = Value.int (StrChars.lo8 (cs.getD i 0)) := by
  rw [own_tn (by omega)]
  simp [own_lat, List.getD_eq_getElem?_getD, hi]
theorem own_nomem {cs : List Int32} {c : Int32} (h : ∀ j, j < cs.length → ¬ cs.getD j 0 = c) : ¬ c ∈ cs := fun q => by
  obtain ⟨j, hj, e⟩ := List.getElem_of_mem q
  exact h j hj (by rw [show cs.getD j 0 = cs[j] by simp [List.getD_eq_getElem?_getD, hj]]; exact e)
theorem own_mem_of {cs : List Int32} {c : Int32} {i : Nat} (hi : i < cs.length) (e : cs.getD i 0 = c) : c ∈ cs := e ▸ own_getm hi
theorem own_minself (x : Int32) : x = if x < x then x else x := by split <;> rfl
theorem own_empty {cs : List Int32} {c : Int32} (h : ¬ (0 : Int32) < Int32.ofNat cs.length) (hl : cs.length ≤ 4000) : ¬ c ∈ cs := by
  have : ¬ 0 < cs.length := fun q => h ((own_lti (i := 0) (by omega) (by omega)).mpr q)
  have e : cs = [] := List.eq_nil_of_length_eq_zero (by omega)
  rw [e]; exact List.not_mem_nil
theorem own_irr (x : Int32) : ¬ x < x := by rw [Int32.lt_iff_toInt_lt]; omega
theorem own_lt65 {c : Int32} (h : ¬ (255 : Int32) < c) : c < (65536 : Int32) := by
  rw [Int32.lt_iff_toInt_lt] at h ⊢
  have e1 : (65536 : Int32).toInt = 65536 := rfl
  have e2 : (255 : Int32).toInt = 255 := rfl
  omega
theorem own_wpos {cs : List Int32} {c : Int32} (h : c ∈ cs) : 0 < cs.length := List.length_pos_of_mem h
theorem d_jdk_42_m154_0 : decode jdk_42_method_154_code 0 = .ok (.getstatic 38, 3) := by decide +kernel
theorem d_jdk_42_m154_3 : decode jdk_42_method_154_code 3 = .ok (.ifCond .eq 14, 3) := by decide +kernel
theorem d_jdk_42_m154_6 : decode jdk_42_method_154_code 6 = .ok (.aload_n 0, 1) := by decide +kernel
theorem d_jdk_42_m154_7 : decode jdk_42_method_154_code 7 = .ok (.getfield 15, 3) := by decide +kernel
theorem d_jdk_42_m154_10 : decode jdk_42_method_154_code 10 = .ok (.ifCond .ne 7, 3) := by decide +kernel
theorem d_jdk_42_m154_13 : decode jdk_42_method_154_code 13 = .ok (.iconst 1, 1) := by decide +kernel
theorem d_jdk_42_m154_14 : decode jdk_42_method_154_code 14 = .ok (.goto 4, 3) := by decide +kernel
theorem d_jdk_42_m154_18 : decode jdk_42_method_154_code 18 = .ok (.ireturn, 1) := by decide +kernel
theorem ef_rm_lat (m : MethodId) (x0 : Addr) : entryFrame m #[(.ref x0)] 1 = mkF m 0 #[.val (.ref x0)] [] := by
   first | (simp [entryFrame, mkF, argsToLocals, Value.category]; done) | rfl
set_option maxRecDepth 65536 in
set_option maxHeartbeats 40000000 in
theorem rm_lat (l : Launch) (Z : State) (a0 : Array Value) (hw : ∀ d ∈ tables_1, d.before a0 Z = true) (ws : List Jvm.Cond) (a1 : Addr) (G1 : Int32) (h0 : Heap) (n0 : Nat) (O0 : Old Z n0 h0) (E_a : Exa Z h0 a1 "java/lang/String") (F_c : Fld Z h0 a1 "java/lang/String" "coder" "B" (.int (0 : Int32))) (O2 : Sta Z Z.heap "java/lang/String" "COMPACT_STRINGS" "Z" (.int G1)) (P5 : ¬ (G1 = (0 : Int32))) :
    MetFree l (⟨"java/lang/String", "isLatin1", "()Z"⟩ : MethodName) (head1 (Jvm.Cond.code (⟨"java/lang/String", "isLatin1", "()Z"⟩ : MethodName) jdk_42_method_154_code 1 (some .boolean) :: ws) ({ frames := 0, cells := 0, slots := 0, locals := 0 } : Room)) (fun aA U => aA = #[(.ref a1)] ∧ Z.Warmed39 U.vm ∧ U.heap = h0) (fun _ _ _ _ _ => True) (fun _ U oO U' => ∃ rV rL, oO = .returned rV ∧ QPure (some (.int (1 : Int32))) h0 n0 rV U'.heap rL ∧ FrameEnd U oO U' rL 0 0) := by
  refine MetFree.of_bodySF (plainFor_of_name pn_0) hisR ?_
  intro p e s m args below meth cC s₁ Bd hml0 hP hK
  obtain ⟨rfl, hZ, hh⟩ := hP
  have hx := Bd.exec
  have hby := Bd.bytes
  have hml : cC.maxLocals = 1 := hml0
  have hown : s.vm.findClass "java/lang/String" = some m.cls := findClass_of_methodNamed Bd.named
  have hnm := (name_of_methodNamed Bd.named Bd.method).1
  have hrt := Bd.returns
  have hlk : meth.locks = false := Bd.notSynchronized
  have X0 : Stand p l e ({ frames := 0, cells := 0, slots := 0, locals := 0 } : Room) s m #[(.ref a1)] below meth cC s₁ [] 0 0 := Stand.of_body Bd
  have e0 : s₁.heap = h0 := by rw [← hh, Bd.state]; rfl
  have N0 := Fr.nil n0
  have Z0 : n0 ≤ h0.size := O0.1 ▸ O0.2.1
  show own_Go p e below (s₁.setTop (entryFrame m #[(.ref a1)] 1)) (fun oO U' => ∃ rV rL, oO = .returned rV ∧ QPure (some (.int (1 : Int32))) h0 n0 rV U'.heap rL ∧ FrameEnd s oO U' rL 0 0)
  refine own_go (fun _ k => castTop (ef_rm_lat m a1) k) ?_
  show own_Go p e below (s₁.setTop (mkF m 0 #[.val (.ref a1)] [])) _
  obtain ⟨T80, X80, e80, st80⟩ := getS2 X0 hx hZ hown (host := "") (Or.inl (hw _ (List.mem_of_getElem? (i := 16) rfl))) Via.refl e0 (O2.ext O0.2) (g := (mkF m 0 #[.val (.ref a1)] [])) rfl (hb hby d_jdk_42_m154_0)
  refine own_go st80 ?_
  show own_Go p e below (T80.setTop (mkF m 3 #[.val (.ref a1)] [(.int G1)])) _
  refine own_go (fun _ k => XS.ifNo X80.here hx rfl (hb hby d_jdk_42_m154_3) rfl ((if0 _ _).trans (feq P5).1) k) ?_
  show own_Go p e below (T80.setTop (mkF m 6 #[.val (.ref a1)] [])) _
  refine own_go (fun _ k => XS.aloadN X80.here hx rfl (hb hby d_jdk_42_m154_6) rfl rfl k) ?_
  show own_Go p e below (T80.setTop (mkF m 7 #[.val (.ref a1)] [(.ref a1)])) _
  obtain ⟨T81, X81, e81, st81⟩ := getF X80 hx hZ hown (host := "") (Or.inl (hw _ (List.mem_of_getElem? (i := 28) rfl))) Via.refl e80 F_c (g := (mkF m 7 #[.val (.ref a1)] [(.ref a1)])) rfl rfl (hb hby d_jdk_42_m154_7)
  refine own_go st81 ?_
  show own_Go p e below (T81.setTop (mkF m 10 #[.val (.ref a1)] [(.int (0 : Int32))])) _
  refine own_go (fun _ k => XS.ifNo X81.here hx rfl (hb hby d_jdk_42_m154_10) rfl ((if0 _ _).trans (teq (by decide : (0 : Int32) = (0 : Int32))).2) k) ?_
  show own_Go p e below (T81.setTop (mkF m 13 #[.val (.ref a1)] [])) _
  refine own_go (fun _ k => XS.iconst X81.here hx rfl (hb hby d_jdk_42_m154_13) k) ?_
  show own_Go p e below (T81.setTop (mkF m 14 #[.val (.ref a1)] [(.int (1 : Int32))])) _
  refine own_go (fun _ k => XS.goto X81.here hx rfl (pc0 := 14) (pc' := 18) rfl (hb hby d_jdk_42_m154_14) (by decide) (by decide) k) ?_
  show own_Go p e below (T81.setTop (mkF m 18 #[.val (.ref a1)] [(.int (1 : Int32))])) _
  refine own_fin (v := (some (.int (nar .boolean (1 : Int32))))) X81 (fun h => by rw [hrt] at h; cases h) hlk (fun fs hr => retN X81 hx (t := .boolean) hrt (by simp) (hb hby d_jdk_42_m154_18) hr) (QQ := QPure (some (.int (1 : Int32))) h0 n0) ?_ (by decide) (by decide)
  rw [e81]
  exact ⟨rfl, N0, rfl⟩

theorem d_jdk_29_m69_0 : decode jdk_29_method_69_code 0 = .ok (.iload_n 0, 1) := by decide +kernel
theorem d_jdk_29_m69_1 : decode jdk_29_method_69_code 1 = .ok (.iload_n 1, 1) := by decide +kernel
theorem d_jdk_29_m69_2 : decode jdk_29_method_69_code 2 = .ok (.if_icmp .gt 7, 3) := by decide +kernel
theorem d_jdk_29_m69_9 : decode jdk_29_method_69_code 9 = .ok (.iload_n 1, 1) := by decide +kernel
theorem d_jdk_29_m69_10 : decode jdk_29_method_69_code 10 = .ok (.ireturn, 1) := by decide +kernel
theorem d_jdk_29_m69_5 : decode jdk_29_method_69_code 5 = .ok (.iload_n 0, 1) := by decide +kernel
theorem d_jdk_29_m69_6 : decode jdk_29_method_69_code 6 = .ok (.goto 4, 3) := by decide +kernel
theorem ef_rm_min (m : MethodId) (x0 : Int32) (x1 : Int32) : entryFrame m #[(.int x0), (.int x1)] 2 = mkF m 0 #[.val (.int x0), .val (.int x1)] [] := by
   first | (simp [entryFrame, mkF, argsToLocals, Value.category]; done) | rfl
set_option maxRecDepth 65536 in
set_option maxHeartbeats 40000000 in
theorem rm_min (l : Launch) (Z : State) (a0 : Array Value) (hw : ∀ d ∈ tables_1, d.before a0 Z = true) (ws : List Jvm.Cond) (p1 : Int32) (p2 : Int32) (r : Int32) (h0 : Heap) (n0 : Nat) (O0 : Old Z n0 h0) (hr0 : r = if p2 < p1 then p2 else p1) :
    MetFree l (⟨"java/lang/Math", "min", "(II)I"⟩ : MethodName) (head1 (Jvm.Cond.code (⟨"java/lang/Math", "min", "(II)I"⟩ : MethodName) jdk_29_method_69_code 2 (some .int) :: ws) ({ frames := 0, cells := 0, slots := 0, locals := 0 } : Room)) (fun aA U => aA = #[(.int p1), (.int p2)] ∧ Z.Warmed39 U.vm ∧ U.heap = h0) (fun _ _ _ _ _ => True) (fun _ U oO U' => ∃ rV rL, oO = .returned rV ∧ QPure (some (.int r)) h0 n0 rV U'.heap rL ∧ FrameEnd U oO U' rL 0 0) := by
  refine MetFree.of_bodySF (Jvm.Free.JP.mathPlain rfl (by decide +kernel)) hisR ?_
  intro p e s m args below meth cC s₁ Bd hml0 hP hK
  obtain ⟨rfl, hZ, hh⟩ := hP
  have hx := Bd.exec
  have hby := Bd.bytes
  have hml : cC.maxLocals = 2 := hml0
  have hown : s.vm.findClass "java/lang/Math" = some m.cls := findClass_of_methodNamed Bd.named
  have hnm := (name_of_methodNamed Bd.named Bd.method).1
  have hrt := Bd.returns
  have hlk : meth.locks = false := Bd.notSynchronized
  have X0 : Stand p l e ({ frames := 0, cells := 0, slots := 0, locals := 0 } : Room) s m #[(.int p1), (.int p2)] below meth cC s₁ [] 0 0 := Stand.of_body Bd
  have e0 : s₁.heap = h0 := by rw [← hh, Bd.state]; rfl
  have N0 := Fr.nil n0
  have Z0 : n0 ≤ h0.size := O0.1 ▸ O0.2.1
  show own_Go p e below (s₁.setTop (entryFrame m #[(.int p1), (.int p2)] 2)) (fun oO U' => ∃ rV rL, oO = .returned rV ∧ QPure (some (.int r)) h0 n0 rV U'.heap rL ∧ FrameEnd s oO U' rL 0 0)
  refine own_go (fun _ k => castTop (ef_rm_min m p1 p2) k) ?_
  show own_Go p e below (s₁.setTop (mkF m 0 #[.val (.int p1), .val (.int p2)] [])) _
  refine own_go (fun _ k => XS.iloadN X0.here hx rfl (hb hby d_jdk_29_m69_0) rfl k) ?_
  show own_Go p e below (s₁.setTop (mkF m 1 #[.val (.int p1), .val (.int p2)] [(.int p1)])) _
  refine own_go (fun _ k => XS.iloadN X0.here hx rfl (hb hby d_jdk_29_m69_1) rfl k) ?_
  show own_Go p e below (s₁.setTop (mkF m 2 #[.val (.int p1), .val (.int p2)] [(.int p2), (.int p1)])) _
  by_cases hc82 : p2 < p1
  · skip
    refine own_go (fun _ k => XS.icmpYes X0.here hx rfl (pc0 := 2) (pc' := 9) rfl (hb hby d_jdk_29_m69_2) rfl (tlt hc82).2.2.1 (by decide) (by decide) k) ?_
    show own_Go p e below (s₁.setTop (mkF m 9 #[.val (.int p1), .val (.int p2)] [])) _
    refine own_go (fun _ k => XS.iloadN X0.here hx rfl (hb hby d_jdk_29_m69_9) rfl k) ?_
    show own_Go p e below (s₁.setTop (mkF m 10 #[.val (.int p1), .val (.int p2)] [(.int p2)])) _
    refine own_fin (v := (some (.int p2))) X0 (fun h => by rw [hrt] at h; cases h) hlk (fun fs hr => retI X0 hx hrt (hb hby d_jdk_29_m69_10) hr) (QQ := QPure (some (.int r)) h0 n0) ?_ (by decide) (by decide)
    rw [e0]
    exact ⟨by rw [hr0, if_pos hc82], N0, rfl⟩
  · skip
    refine own_go (fun _ k => XS.icmpNo X0.here hx rfl (hb hby d_jdk_29_m69_2) rfl (flt hc82).2.2.1 k) ?_
    show own_Go p e below (s₁.setTop (mkF m 5 #[.val (.int p1), .val (.int p2)] [])) _
    refine own_go (fun _ k => XS.iloadN X0.here hx rfl (hb hby d_jdk_29_m69_5) rfl k) ?_
    show own_Go p e below (s₁.setTop (mkF m 6 #[.val (.int p1), .val (.int p2)] [(.int p1)])) _
    refine own_go (fun _ k => XS.goto X0.here hx rfl (pc0 := 6) (pc' := 10) rfl (hb hby d_jdk_29_m69_6) (by decide) (by decide) k) ?_
    show own_Go p e below (s₁.setTop (mkF m 10 #[.val (.int p1), .val (.int p2)] [(.int p1)])) _
    refine own_fin (v := (some (.int p1))) X0 (fun h => by rw [hrt] at h; cases h) hlk (fun fs hr => retI X0 hx hrt (hb hby d_jdk_29_m69_10) hr) (QQ := QPure (some (.int r)) h0 n0) ?_ (by decide) (by decide)
    rw [e0]
    exact ⟨by rw [hr0, if_neg hc82], N0, rfl⟩

theorem d_jdk_29_m65_0 : decode jdk_29_method_65_code 0 = .ok (.iload_n 0, 1) := by decide +kernel
theorem d_jdk_29_m65_1 : decode jdk_29_method_65_code 1 = .ok (.iload_n 1, 1) := by decide +kernel
theorem d_jdk_29_m65_2 : decode jdk_29_method_65_code 2 = .ok (.if_icmp .lt 7, 3) := by decide +kernel
theorem d_jdk_29_m65_9 : decode jdk_29_method_65_code 9 = .ok (.iload_n 1, 1) := by decide +kernel
theorem d_jdk_29_m65_10 : decode jdk_29_method_65_code 10 = .ok (.ireturn, 1) := by decide +kernel
theorem d_jdk_29_m65_5 : decode jdk_29_method_65_code 5 = .ok (.iload_n 0, 1) := by decide +kernel
theorem d_jdk_29_m65_6 : decode jdk_29_method_65_code 6 = .ok (.goto 4, 3) := by decide +kernel
theorem ef_rm_max (m : MethodId) (x0 : Int32) (x1 : Int32) : entryFrame m #[(.int x0), (.int x1)] 2 = mkF m 0 #[.val (.int x0), .val (.int x1)] [] := by
   first | (simp [entryFrame, mkF, argsToLocals, Value.category]; done) | rfl
set_option maxRecDepth 65536 in
set_option maxHeartbeats 40000000 in
theorem rm_max (l : Launch) (Z : State) (a0 : Array Value) (hw : ∀ d ∈ tables_1, d.before a0 Z = true) (ws : List Jvm.Cond) (p1 : Int32) (p2 : Int32) (r : Int32) (h0 : Heap) (n0 : Nat) (O0 : Old Z n0 h0) (hr0 : r = if p1 < p2 then p2 else p1) :
    MetFree l (⟨"java/lang/Math", "max", "(II)I"⟩ : MethodName) (head1 (Jvm.Cond.code (⟨"java/lang/Math", "max", "(II)I"⟩ : MethodName) jdk_29_method_65_code 2 (some .int) :: ws) ({ frames := 0, cells := 0, slots := 0, locals := 0 } : Room)) (fun aA U => aA = #[(.int p1), (.int p2)] ∧ Z.Warmed39 U.vm ∧ U.heap = h0) (fun _ _ _ _ _ => True) (fun _ U oO U' => ∃ rV rL, oO = .returned rV ∧ QPure (some (.int r)) h0 n0 rV U'.heap rL ∧ FrameEnd U oO U' rL 0 0) := by
  refine MetFree.of_bodySF (Jvm.Free.JP.mathPlain rfl (by decide +kernel)) hisR ?_
  intro p e s m args below meth cC s₁ Bd hml0 hP hK
  obtain ⟨rfl, hZ, hh⟩ := hP
  have hx := Bd.exec
  have hby := Bd.bytes
  have hml : cC.maxLocals = 2 := hml0
  have hown : s.vm.findClass "java/lang/Math" = some m.cls := findClass_of_methodNamed Bd.named
  have hnm := (name_of_methodNamed Bd.named Bd.method).1
  have hrt := Bd.returns
  have hlk : meth.locks = false := Bd.notSynchronized
  have X0 : Stand p l e ({ frames := 0, cells := 0, slots := 0, locals := 0 } : Room) s m #[(.int p1), (.int p2)] below meth cC s₁ [] 0 0 := Stand.of_body Bd
  have e0 : s₁.heap = h0 := by rw [← hh, Bd.state]; rfl
  have N0 := Fr.nil n0
  have Z0 : n0 ≤ h0.size := O0.1 ▸ O0.2.1
  show own_Go p e below (s₁.setTop (entryFrame m #[(.int p1), (.int p2)] 2)) (fun oO U' => ∃ rV rL, oO = .returned rV ∧ QPure (some (.int r)) h0 n0 rV U'.heap rL ∧ FrameEnd s oO U' rL 0 0)
  refine own_go (fun _ k => castTop (ef_rm_max m p1 p2) k) ?_
  show own_Go p e below (s₁.setTop (mkF m 0 #[.val (.int p1), .val (.int p2)] [])) _
  refine own_go (fun _ k => XS.iloadN X0.here hx rfl (hb hby d_jdk_29_m65_0) rfl k) ?_
  show own_Go p e below (s₁.setTop (mkF m 1 #[.val (.int p1), .val (.int p2)] [(.int p1)])) _
  refine own_go (fun _ k => XS.iloadN X0.here hx rfl (hb hby d_jdk_29_m65_1) rfl k) ?_
  show own_Go p e below (s₁.setTop (mkF m 2 #[.val (.int p1), .val (.int p2)] [(.int p2), (.int p1)])) _
  by_cases hc83 : p1 < p2
  · skip
    refine own_go (fun _ k => XS.icmpYes X0.here hx rfl (pc0 := 2) (pc' := 9) rfl (hb hby d_jdk_29_m65_2) rfl (tlt hc83).1 (by decide) (by decide) k) ?_
    show own_Go p e below (s₁.setTop (mkF m 9 #[.val (.int p1), .val (.int p2)] [])) _
    refine own_go (fun _ k => XS.iloadN X0.here hx rfl (hb hby d_jdk_29_m65_9) rfl k) ?_
    show own_Go p e below (s₁.setTop (mkF m 10 #[.val (.int p1), .val (.int p2)] [(.int p2)])) _
    refine own_fin (v := (some (.int p2))) X0 (fun h => by rw [hrt] at h; cases h) hlk (fun fs hr => retI X0 hx hrt (hb hby d_jdk_29_m65_10) hr) (QQ := QPure (some (.int r)) h0 n0) ?_ (by decide) (by decide)
    rw [e0]
    exact ⟨by rw [hr0, if_pos hc83], N0, rfl⟩
  · skip
    refine own_go (fun _ k => XS.icmpNo X0.here hx rfl (hb hby d_jdk_29_m65_2) rfl (flt hc83).1 k) ?_
    show own_Go p e below (s₁.setTop (mkF m 5 #[.val (.int p1), .val (.int p2)] [])) _
    refine own_go (fun _ k => XS.iloadN X0.here hx rfl (hb hby d_jdk_29_m65_5) rfl k) ?_
    show own_Go p e below (s₁.setTop (mkF m 6 #[.val (.int p1), .val (.int p2)] [(.int p1)])) _
    refine own_go (fun _ k => XS.goto X0.here hx rfl (pc0 := 6) (pc' := 10) rfl (hb hby d_jdk_29_m65_6) (by decide) (by decide) k) ?_
    show own_Go p e below (s₁.setTop (mkF m 10 #[.val (.int p1), .val (.int p2)] [(.int p1)])) _
    refine own_fin (v := (some (.int p1))) X0 (fun h => by rw [hrt] at h; cases h) hlk (fun fs hr => retI X0 hx hrt (hb hby d_jdk_29_m65_10) hr) (QQ := QPure (some (.int r)) h0 n0) ?_ (by decide) (by decide)
    rw [e0]
    exact ⟨by rw [hr0, if_neg hc83], N0, rfl⟩

theorem d_jdk_41_m12_0 : decode jdk_41_method_12_code 0 = .ok (.iload_n 0, 1) := by decide +kernel
theorem d_jdk_41_m12_1 : decode jdk_41_method_12_code 1 = .ok (.ifCond .lt 13, 3) := by decide +kernel
theorem d_jdk_41_m12_4 : decode jdk_41_method_12_code 4 = .ok (.iload_n 0, 1) := by decide +kernel
theorem d_jdk_41_m12_5 : decode jdk_41_method_12_code 5 = .ok (.iload_n 1, 1) := by decide +kernel
theorem d_jdk_41_m12_6 : decode jdk_41_method_12_code 6 = .ok (.if_icmp .gt 8, 3) := by decide +kernel
theorem d_jdk_41_m12_9 : decode jdk_41_method_12_code 9 = .ok (.iload_n 1, 1) := by decide +kernel
theorem d_jdk_41_m12_10 : decode jdk_41_method_12_code 10 = .ok (.iload_n 2, 1) := by decide +kernel
theorem d_jdk_41_m12_11 : decode jdk_41_method_12_code 11 = .ok (.if_icmp .le 11, 3) := by decide +kernel
theorem d_jdk_41_m12_22 : decode jdk_41_method_12_code 22 = .ok (.iload_n 0, 1) := by decide +kernel
theorem d_jdk_41_m12_23 : decode jdk_41_method_12_code 23 = .ok (.ireturn, 1) := by decide +kernel
theorem pn_2 : plainName "jdk/internal/util/Preconditions" = true := by first | (simp [plainName, overriddenIn]; done) | decide +kernel
theorem ef_rm_cft (m : MethodId) (x0 : Int32) (x1 : Int32) (x2 : Int32) (f4 : Value) (r_f4 : f4.isRef = true) : entryFrame m #[(.int x0), (.int x1), (.int x2), f4] 4 = mkF m 0 #[.val (.int x0), .val (.int x1), .val (.int x2), .val f4] [] := by
  cases f4 <;> first | (cases r_f4; done) | skip
  all_goals  first | (simp [entryFrame, mkF, argsToLocals, Value.category]; done) | rfl
set_option maxRecDepth 65536 in
set_option maxHeartbeats 40000000 in
theorem rm_cft (l : Launch) (Z : State) (a0 : Array Value) (hw : ∀ d ∈ tables_1, d.before a0 Z = true) (ws : List Jvm.Cond) (p1 : Int32) (p2 : Int32) (p3 : Int32) (f4 : Value) (h0 : Heap) (n0 : Nat) (O0 : Old Z n0 h0) (r4 : f4.isRef = true) (q1 : ¬ (p1 < (0 : Int32))) (q2 : ¬ (p2 < p1)) (q3 : ¬ (p3 < p2)) :
    MetFree l (⟨"jdk/internal/util/Preconditions", "checkFromToIndex", "(IIILjava/util/function/BiFunction;)I"⟩ : MethodName) (head1 (Jvm.Cond.code (⟨"jdk/internal/util/Preconditions", "checkFromToIndex", "(IIILjava/util/function/BiFunction;)I"⟩ : MethodName) jdk_41_method_12_code 4 (some .int) :: ws) ({ frames := 0, cells := 0, slots := 0, locals := 0 } : Room)) (fun aA U => aA = #[(.int p1), (.int p2), (.int p3), f4] ∧ Z.Warmed39 U.vm ∧ U.heap = h0) (fun _ _ _ _ _ => True) (fun _ U oO U' => ∃ rV rL, oO = .returned rV ∧ QPure (some (.int p1)) h0 n0 rV U'.heap rL ∧ FrameEnd U oO U' rL 0 0) := by
  refine MetFree.of_bodySF (plainFor_of_name pn_2) hisR ?_
  intro p e s m args below meth cC s₁ Bd hml0 hP hK
  obtain ⟨rfl, hZ, hh⟩ := hP
  have hx := Bd.exec
  have hby := Bd.bytes
  have hml : cC.maxLocals = 4 := hml0
  have hown : s.vm.findClass "jdk/internal/util/Preconditions" = some m.cls := findClass_of_methodNamed Bd.named
  have hnm := (name_of_methodNamed Bd.named Bd.method).1
  have hrt := Bd.returns
  have hlk : meth.locks = false := Bd.notSynchronized
  have X0 : Stand p l e ({ frames := 0, cells := 0, slots := 0, locals := 0 } : Room) s m #[(.int p1), (.int p2), (.int p3), f4] below meth cC s₁ [] 0 0 := Stand.of_body Bd
  have e0 : s₁.heap = h0 := by rw [← hh, Bd.state]; rfl
  have N0 := Fr.nil n0
  have Z0 : n0 ≤ h0.size := O0.1 ▸ O0.2.1
  show own_Go p e below (s₁.setTop (entryFrame m #[(.int p1), (.int p2), (.int p3), f4] 4)) (fun oO U' => ∃ rV rL, oO = .returned rV ∧ QPure (some (.int p1)) h0 n0 rV U'.heap rL ∧ FrameEnd s oO U' rL 0 0)
  refine own_go (fun _ k => castTop (ef_rm_cft m p1 p2 p3 f4 r4) k) ?_
  show own_Go p e below (s₁.setTop (mkF m 0 #[.val (.int p1), .val (.int p2), .val (.int p3), .val f4] [])) _
  refine own_go (fun _ k => XS.iloadN X0.here hx rfl (hb hby d_jdk_41_m12_0) rfl k) ?_
  show own_Go p e below (s₁.setTop (mkF m 1 #[.val (.int p1), .val (.int p2), .val (.int p3), .val f4] [(.int p1)])) _
  refine own_go (fun _ k => XS.ifNo X0.here hx rfl (hb hby d_jdk_41_m12_1) rfl ((if0 _ _).trans (flt q1).1) k) ?_
  show own_Go p e below (s₁.setTop (mkF m 4 #[.val (.int p1), .val (.int p2), .val (.int p3), .val f4] [])) _
  refine own_go (fun _ k => XS.iloadN X0.here hx rfl (hb hby d_jdk_41_m12_4) rfl k) ?_
  show own_Go p e below (s₁.setTop (mkF m 5 #[.val (.int p1), .val (.int p2), .val (.int p3), .val f4] [(.int p1)])) _
  refine own_go (fun _ k => XS.iloadN X0.here hx rfl (hb hby d_jdk_41_m12_5) rfl k) ?_
  show own_Go p e below (s₁.setTop (mkF m 6 #[.val (.int p1), .val (.int p2), .val (.int p3), .val f4] [(.int p2), (.int p1)])) _
  refine own_go (fun _ k => XS.icmpNo X0.here hx rfl (hb hby d_jdk_41_m12_6) rfl (flt q2).2.2.1 k) ?_
  show own_Go p e below (s₁.setTop (mkF m 9 #[.val (.int p1), .val (.int p2), .val (.int p3), .val f4] [])) _
  refine own_go (fun _ k => XS.iloadN X0.here hx rfl (hb hby d_jdk_41_m12_9) rfl k) ?_
  show own_Go p e below (s₁.setTop (mkF m 10 #[.val (.int p1), .val (.int p2), .val (.int p3), .val f4] [(.int p2)])) _
  refine own_go (fun _ k => XS.iloadN X0.here hx rfl (hb hby d_jdk_41_m12_10) rfl k) ?_
  show own_Go p e below (s₁.setTop (mkF m 11 #[.val (.int p1), .val (.int p2), .val (.int p3), .val f4] [(.int p3), (.int p2)])) _
  refine own_go (fun _ k => XS.icmpYes X0.here hx rfl (pc0 := 11) (pc' := 22) rfl (hb hby d_jdk_41_m12_11) rfl (flt q3).2.2.2 (by decide) (by decide) k) ?_
  show own_Go p e below (s₁.setTop (mkF m 22 #[.val (.int p1), .val (.int p2), .val (.int p3), .val f4] [])) _
  refine own_go (fun _ k => XS.iloadN X0.here hx rfl (hb hby d_jdk_41_m12_22) rfl k) ?_
  show own_Go p e below (s₁.setTop (mkF m 23 #[.val (.int p1), .val (.int p2), .val (.int p3), .val f4] [(.int p1)])) _
  refine own_fin (v := (some (.int p1))) X0 (fun h => by rw [hrt] at h; cases h) hlk (fun fs hr => retI X0 hx hrt (hb hby d_jdk_41_m12_23) hr) (QQ := QPure (some (.int p1)) h0 n0) ?_ (by decide) (by decide)
  rw [e0]
  exact ⟨rfl, N0, rfl⟩

theorem d_jdk_42_m158_0 : decode jdk_42_method_158_code 0 = .ok (.iload_n 0, 1) := by decide +kernel
theorem d_jdk_42_m158_1 : decode jdk_42_method_158_code 1 = .ok (.iload_n 1, 1) := by decide +kernel
theorem d_jdk_42_m158_2 : decode jdk_42_method_158_code 2 = .ok (.iload_n 2, 1) := by decide +kernel
theorem d_jdk_42_m158_3 : decode jdk_42_method_158_code 3 = .ok (.getstatic 1053, 3) := by decide +kernel
theorem d_jdk_42_m158_6 : decode jdk_42_method_158_code 6 = .ok (.invokestatic 1062, 3) := by decide +kernel
theorem pd_8 : parseMethodDescriptor "(IIILjava/util/function/BiFunction;)I" = some ⟨[.int, .int, .int, (.object "java/util/function/BiFunction")], some .int⟩ := by decide +kernel
theorem d_jdk_42_m158_9 : decode jdk_42_method_158_code 9 = .ok (.pop, 1) := by decide +kernel
theorem d_jdk_42_m158_10 : decode jdk_42_method_158_code 10 = .ok (.return_, 1) := by decide +kernel
theorem ef_rm_cbe (m : MethodId) (x0 : Int32) (x1 : Int32) (x2 : Int32) : entryFrame m #[(.int x0), (.int x1), (.int x2)] 3 = mkF m 0 #[.val (.int x0), .val (.int x1), .val (.int x2)] [] := by
   first | (simp [entryFrame, mkF, argsToLocals, Value.category]; done) | rfl
set_option maxRecDepth 65536 in
set_option maxHeartbeats 40000000 in
theorem rm_cbe (l : Launch) (Z : State) (a0 : Array Value) (hw : ∀ d ∈ tables_1, d.before a0 Z = true) (ws : List Jvm.Cond) (p1 : Int32) (p2 : Int32) (p3 : Int32) (G3 : Value) (h0 : Heap) (n0 : Nat) (O0 : Old Z n0 h0) (O4 : Sta Z Z.heap "jdk/internal/util/Preconditions" "SIOOBE_FORMATTER" "Ljava/util/function/BiFunction;" G3) (rG3 : G3.isRef = true) (q1 : ¬ (p1 < (0 : Int32))) (q2 : ¬ (p2 < p1)) (q3 : ¬ (p3 < p2)) :
    MetFree l (⟨"java/lang/String", "checkBoundsBeginEnd", "(III)V"⟩ : MethodName) (head1 (Jvm.Cond.code (⟨"java/lang/String", "checkBoundsBeginEnd", "(III)V"⟩ : MethodName) jdk_42_method_158_code 3 none :: ws) ({ frames := 1, cells := 0, slots := 0, locals := 15 } : Room)) (fun aA U => aA = #[(.int p1), (.int p2), (.int p3)] ∧ Z.Warmed39 U.vm ∧ U.heap = h0) (fun _ _ _ _ _ => True) (fun _ U oO U' => ∃ rV rL, oO = .returned rV ∧ QPure (none) h0 n0 rV U'.heap rL ∧ FrameEnd U oO U' rL 0 0) := by
  refine MetFree.of_bodySF (plainFor_of_name pn_0) hisR ?_
  intro p e s m args below meth cC s₁ Bd hml0 hP hK
  obtain ⟨rfl, hZ, hh⟩ := hP
  have hx := Bd.exec
  have hby := Bd.bytes
  have hml : cC.maxLocals = 3 := hml0
  have hown : s.vm.findClass "java/lang/String" = some m.cls := findClass_of_methodNamed Bd.named
  have hnm := (name_of_methodNamed Bd.named Bd.method).1
  have hrt := Bd.returns
  have hlk : meth.locks = false := Bd.notSynchronized
  have X0 : Stand p l e ({ frames := 1, cells := 0, slots := 0, locals := 15 } : Room) s m #[(.int p1), (.int p2), (.int p3)] below meth cC s₁ [] 0 0 := Stand.of_body Bd
  have e0 : s₁.heap = h0 := by rw [← hh, Bd.state]; rfl
  have N0 := Fr.nil n0
  have Z0 : n0 ≤ h0.size := O0.1 ▸ O0.2.1
  show own_Go p e below (s₁.setTop (entryFrame m #[(.int p1), (.int p2), (.int p3)] 3)) (fun oO U' => ∃ rV rL, oO = .returned rV ∧ QPure (none) h0 n0 rV U'.heap rL ∧ FrameEnd s oO U' rL 0 0)
  refine own_go (fun _ k => castTop (ef_rm_cbe m p1 p2 p3) k) ?_
  show own_Go p e below (s₁.setTop (mkF m 0 #[.val (.int p1), .val (.int p2), .val (.int p3)] [])) _
  refine own_go (fun _ k => XS.iloadN X0.here hx rfl (hb hby d_jdk_42_m158_0) rfl k) ?_
  show own_Go p e below (s₁.setTop (mkF m 1 #[.val (.int p1), .val (.int p2), .val (.int p3)] [(.int p1)])) _
  refine own_go (fun _ k => XS.iloadN X0.here hx rfl (hb hby d_jdk_42_m158_1) rfl k) ?_
  show own_Go p e below (s₁.setTop (mkF m 2 #[.val (.int p1), .val (.int p2), .val (.int p3)] [(.int p2), (.int p1)])) _
  refine own_go (fun _ k => XS.iloadN X0.here hx rfl (hb hby d_jdk_42_m158_2) rfl k) ?_
  show own_Go p e below (s₁.setTop (mkF m 3 #[.val (.int p1), .val (.int p2), .val (.int p3)] [(.int p3), (.int p2), (.int p1)])) _
  obtain ⟨T84, X84, e84, st84⟩ := getS2 X0 hx hZ hown (host := "") (Or.inl (hw _ (List.mem_of_getElem? (i := 119) rfl))) Via.refl e0 (O4.ext O0.2) (g := (mkF m 3 #[.val (.int p1), .val (.int p2), .val (.int p3)] [(.int p3), (.int p2), (.int p1)])) rfl (hb hby d_jdk_42_m158_3)
  refine own_go st84 ?_
  show own_Go p e below (T84.setTop (mkF m 6 #[.val (.int p1), .val (.int p2), .val (.int p3)] [G3, (.int p3), (.int p2), (.int p1)])) _
  obtain ⟨v85, _, ⟨T85, L85, k85, n85⟩, -, X85, ⟨Lc85, hQ85, l85, y85, z85⟩, st85⟩ := Jvm.LawKit.callS X84 hx (y := (⟨"jdk/internal/util/Preconditions", "checkFromToIndex", "(IIILjava/util/function/BiFunction;)I"⟩ : MethodName)) hown (mvT hZ (hw _ (List.mem_of_getElem? (i := 121) rfl))) (mvT hZ (hw _ (List.mem_of_getElem? (i := 122) rfl))) (mvT hZ (hw _ (List.mem_of_getElem? (i := 120) rfl))) (mvT hZ (hw _ (List.mem_of_getElem? (i := 123) rfl))) (by decide) (backOf (W := 0) (rm_cft l Z a0 hw [] p1 p2 p3 G3 h0 n0 O0 rG3 q1 q2 q3) hZ (hw _ (List.mem_of_getElem? (i := 123) rfl)) (hw _ (List.mem_of_getElem? (i := 120) rfl)) (by decide) (by decide)) (g := (mkF m 6 #[.val (.int p1), .val (.int p2), .val (.int p3)] [G3, (.int p3), (.int p2), (.int p1)])) rfl (by rw [hml]; rfl) (argsL := [(.int p1), (.int p2), (.int p3), G3]) (rest := []) (lenOf pd_8 rfl) rfl (by show 2 * 0 + _ ≤ _; exact Nat.le_of_eq rfl) (hb hby d_jdk_42_m158_6) (fun _ _ => ⟨rfl, e84, (by decide : 0 + 0 ≤ _), (by decide : 0 + 0 ≤ _)⟩)
  dsimp only [Pt.U, Pt.locs, Pt.cells, Pt.slots] at X85 l85 y85 z85 st85 hQ85
  subst l85 y85 z85
  refine own_go st85 ?_
  obtain ⟨rfl, Nq85, e85⟩ := hQ85
  have N85 := Fr.app N0 Nq85
  show own_Go p e below (T85.setTop (mkF m 9 #[.val (.int p1), .val (.int p2), .val (.int p3)] [(.int p1)])) _
  refine own_go (fun _ k => XS.pop X85.here hx rfl (hb hby d_jdk_42_m158_9) rfl rfl k) ?_
  show own_Go p e below (T85.setTop (mkF m 10 #[.val (.int p1), .val (.int p2), .val (.int p3)] [])) _
  refine own_fin (v := none) X85 (fun _ => rfl) hlk (fun fs hr => X85.returnOut hx hrt (hb hby d_jdk_42_m158_10) hr) (QQ := QPure (none) h0 n0) ?_ (by decide) (by decide)
  rw [e85]
  exact ⟨rfl, N85, rfl⟩

theorem d_jdk_43_m23_0 : decode jdk_43_method_23_code 0 = .ok (.iload_n 1, 1) := by decide +kernel
theorem d_jdk_43_m23_1 : decode jdk_43_method_23_code 1 = .ok (.i2b, 1) := by decide +kernel
theorem d_jdk_43_m23_2 : decode jdk_43_method_23_code 2 = .ok (.istore 4, 2) := by decide +kernel
theorem d_jdk_43_m23_4 : decode jdk_43_method_23_code 4 = .ok (.iload_n 2, 1) := by decide +kernel
theorem d_jdk_43_m23_5 : decode jdk_43_method_23_code 5 = .ok (.istore 5, 2) := by decide +kernel
theorem d_jdk_43_m23_7 : decode jdk_43_method_23_code 7 = .ok (.iload 5, 2) := by decide +kernel
theorem d_jdk_43_m23_9 : decode jdk_43_method_23_code 9 = .ok (.iload_n 3, 1) := by decide +kernel
theorem d_jdk_43_m23_10 : decode jdk_43_method_23_code 10 = .ok (.if_icmp .ge 21, 3) := by decide +kernel
theorem d_jdk_43_m23_31 : decode jdk_43_method_23_code 31 = .ok (.iconst (-1), 1) := by decide +kernel
theorem d_jdk_43_m23_32 : decode jdk_43_method_23_code 32 = .ok (.ireturn, 1) := by decide +kernel
theorem d_jdk_43_m23_13 : decode jdk_43_method_23_code 13 = .ok (.aload_n 0, 1) := by decide +kernel
theorem d_jdk_43_m23_14 : decode jdk_43_method_23_code 14 = .ok (.iload 5, 2) := by decide +kernel
theorem d_jdk_43_m23_16 : decode jdk_43_method_23_code 16 = .ok (.baload, 1) := by decide +kernel
theorem d_jdk_43_m23_17 : decode jdk_43_method_23_code 17 = .ok (.iload 4, 2) := by decide +kernel
theorem d_jdk_43_m23_19 : decode jdk_43_method_23_code 19 = .ok (.if_icmp .ne 6, 3) := by decide +kernel
theorem d_jdk_43_m23_22 : decode jdk_43_method_23_code 22 = .ok (.iload 5, 2) := by decide +kernel
theorem d_jdk_43_m23_24 : decode jdk_43_method_23_code 24 = .ok (.ireturn, 1) := by decide +kernel
theorem d_jdk_43_m23_25 : decode jdk_43_method_23_code 25 = .ok (.iinc 5 1, 3) := by decide +kernel
theorem d_jdk_43_m23_28 : decode jdk_43_method_23_code 28 = .ok (.goto (-21), 3) := by decide +kernel
theorem pn_3 : plainName "java/lang/StringLatin1" = true := by first | (simp [plainName, overriddenIn]; done) | decide +kernel
theorem ef_rm_lic (m : MethodId) (x0 : Addr) (x1 : Int32) (x2 : Int32) (x3 : Int32) : entryFrame m #[(.ref x0), (.int x1), (.int x2), (.int x3)] 6 = mkF m 0 #[.val (.ref x0), .val (.int x1), .val (.int x2), .val (.int x3), .unset, .unset] [] := by
   first | (simp [entryFrame, mkF, argsToLocals, Value.category]; done) | rfl
set_option maxRecDepth 65536 in
set_option maxHeartbeats 40000000 in
theorem rm_lic (l : Launch) (Z : State) (a0 : Array Value) (hw : ∀ d ∈ tables_1, d.before a0 Z = true) (ws : List Jvm.Cond) (t : Addr) (k : ClassId) (cs : List Int32) (ch : Int32) (h0 : Heap) (n0 : Nat) (O0 : Old Z n0 h0) (V_t : Arv Z h0 t k .byte (Int32.ofNat cs.length) (own_lat cs) (.int (0 : Int32))) (hok : own_Ok cs) (ha : ∀ c ∈ cs, ¬ (255 : Int32) < c) (hc0 : ¬ ch < 0) (hc1 : ¬ (255 : Int32) < ch) :
    MetFree l (⟨"java/lang/StringLatin1", "indexOfChar", "([BIII)I"⟩ : MethodName) (head1 (Jvm.Cond.code (⟨"java/lang/StringLatin1", "indexOfChar", "([BIII)I"⟩ : MethodName) jdk_43_method_23_code 6 (some .int) :: ws) ({ frames := 0, cells := 0, slots := 0, locals := 0 } : Room)) (fun aA U => aA = #[(.ref t), (.int ch), (.int (0 : Int32)), (.int (Int32.ofNat cs.length))] ∧ Z.Warmed39 U.vm ∧ U.heap = h0) (fun _ _ _ _ _ => True) (fun _ U oO U' => ∃ rV rL, oO = .returned rV ∧ QIx cs ch h0 n0 rV U'.heap rL ∧ FrameEnd U oO U' rL 0 0) := by
  refine MetFree.of_bodySF (plainFor_of_name pn_3) hisR ?_
  intro p e s m args below meth cC s₁ Bd hml0 hP hK
  obtain ⟨rfl, hZ, hh⟩ := hP
  have hx := Bd.exec
  have hby := Bd.bytes
  have hml : cC.maxLocals = 6 := hml0
  have hown : s.vm.findClass "java/lang/StringLatin1" = some m.cls := findClass_of_methodNamed Bd.named
  have hnm := (name_of_methodNamed Bd.named Bd.method).1
  have hrt := Bd.returns
  have hlk : meth.locks = false := Bd.notSynchronized
  have X0 : Stand p l e ({ frames := 0, cells := 0, slots := 0, locals := 0 } : Room) s m #[(.ref t), (.int ch), (.int (0 : Int32)), (.int (Int32.ofNat cs.length))] below meth cC s₁ [] 0 0 := Stand.of_body Bd
  have e0 : s₁.heap = h0 := by rw [← hh, Bd.state]; rfl
  have N0 := Fr.nil n0
  have Z0 : n0 ≤ h0.size := O0.1 ▸ O0.2.1
  show own_Go p e below (s₁.setTop (entryFrame m #[(.ref t), (.int ch), (.int (0 : Int32)), (.int (Int32.ofNat cs.length))] 6)) (fun oO U' => ∃ rV rL, oO = .returned rV ∧ QIx cs ch h0 n0 rV U'.heap rL ∧ FrameEnd s oO U' rL 0 0)
  refine own_go (fun _ k => castTop (ef_rm_lic m t ch _ _) k) ?_
  have hlen : cs.length ≤ 4000 := hok.2
  show own_Go p e below (s₁.setTop (mkF m 0 #[.val (.ref t), .val (.int ch), .val (.int (0 : Int32)), .val (.int (Int32.ofNat cs.length)), .unset, .unset] [])) _
  refine own_go (fun _ k => XS.iloadN X0.here hx rfl (hb hby d_jdk_43_m23_0) rfl k) ?_
  show own_Go p e below (s₁.setTop (mkF m 1 #[.val (.ref t), .val (.int ch), .val (.int (0 : Int32)), .val (.int (Int32.ofNat cs.length)), .unset, .unset] [(.int ch)])) _
  refine own_go (fun _ k => XS.i2b X0.here hx rfl (hb hby d_jdk_43_m23_1) rfl k) ?_
  show own_Go p e below (s₁.setTop (mkF m 2 #[.val (.ref t), .val (.int ch), .val (.int (0 : Int32)), .val (.int (Int32.ofNat cs.length)), .unset, .unset] [(.int (ch.toInt8.toInt32))])) _
  refine own_go (fun _ k => XS.istore X0.here hx rfl (hb hby d_jdk_43_m23_2) rfl (l' := #[.val (.ref t), .val (.int ch), .val (.int (0 : Int32)), .val (.int (Int32.ofNat cs.length)), .val (.int (ch.toInt8.toInt32)), .unset]) rfl k) ?_
  show own_Go p e below (s₁.setTop (mkF m 4 #[.val (.ref t), .val (.int ch), .val (.int (0 : Int32)), .val (.int (Int32.ofNat cs.length)), .val (.int (ch.toInt8.toInt32)), .unset] [])) _
  refine own_go (fun _ k => XS.iloadN X0.here hx rfl (hb hby d_jdk_43_m23_4) rfl k) ?_
  show own_Go p e below (s₁.setTop (mkF m 5 #[.val (.ref t), .val (.int ch), .val (.int (0 : Int32)), .val (.int (Int32.ofNat cs.length)), .val (.int (ch.toInt8.toInt32)), .unset] [(.int (0 : Int32))])) _
  refine own_go (fun _ k => XS.istore X0.here hx rfl (hb hby d_jdk_43_m23_5) rfl (l' := #[.val (.ref t), .val (.int ch), .val (.int (0 : Int32)), .val (.int (Int32.ofNat cs.length)), .val (.int (ch.toInt8.toInt32)), .val (.int (0 : Int32))]) rfl k) ?_
  show own_Go p e below (s₁.setTop (mkF m 7 #[.val (.ref t), .val (.int ch), .val (.int (0 : Int32)), .val (.int (Int32.ofNat cs.length)), .val (.int (ch.toInt8.toInt32)), .val (.int (0 : Int32))] [])) _
  have loop : ∀ (kT iloop : Nat) (T : State) (locs : List Loc) (h : Heap), iloop + kT = cs.length → Stand p l e ({ frames := 0, cells := 0, slots := 0, locals := 0 } : Room) s m #[(.ref t), (.int ch), (.int (0 : Int32)), (.int (Int32.ofNat cs.length))] below meth cC T locs 0 0 → T.heap = h → Fr n0 locs → Old Z n0 h → Keep h0 h [] → Arv Z h t k .byte (Int32.ofNat cs.length) (own_lat cs) (.int (0 : Int32)) → (∀ j, j < iloop → ¬ cs.getD j 0 = ch) → (h = h0) → own_Go p e below (T.setTop (mkF m 7 #[.val (.ref t), .val (.int ch), .val (.int (0 : Int32)), .val (.int (Int32.ofNat cs.length)), .val (.int (ch.toInt8.toInt32)), .val (.int (Int32.ofNat iloop))] [])) (fun oO U' => ∃ rV rL, oO = .returned rV ∧ QIx cs ch h0 n0 rV U'.heap rL ∧ FrameEnd s oO U' rL 0 0) := by
    intro kT
    induction kT with
    | zero =>
      intro iloop T86 L86 h86 hik X86 e86 N86 O86 K86 J0_86 hall hhe
      have Z0_86 : n0 ≤ h86.size := O86.1 ▸ O86.2.1
      have hin : iloop = cs.length := by omega
      have hlt : ¬ ((Int32.ofNat iloop) < (Int32.ofNat cs.length)) := by rw [own_lti (by omega) (by omega)]; omega
      show own_Go p e below (T86.setTop (mkF m 7 #[.val (.ref t), .val (.int ch), .val (.int (0 : Int32)), .val (.int (Int32.ofNat cs.length)), .val (.int (ch.toInt8.toInt32)), .val (.int (Int32.ofNat iloop))] [])) _
      refine own_go (fun _ k => XS.iload X86.here hx rfl (hb hby d_jdk_43_m23_7) rfl k) ?_
      show own_Go p e below (T86.setTop (mkF m 9 #[.val (.ref t), .val (.int ch), .val (.int (0 : Int32)), .val (.int (Int32.ofNat cs.length)), .val (.int (ch.toInt8.toInt32)), .val (.int (Int32.ofNat iloop))] [(.int (Int32.ofNat iloop))])) _
      refine own_go (fun _ k => XS.iloadN X86.here hx rfl (hb hby d_jdk_43_m23_9) rfl k) ?_
      show own_Go p e below (T86.setTop (mkF m 10 #[.val (.ref t), .val (.int ch), .val (.int (0 : Int32)), .val (.int (Int32.ofNat cs.length)), .val (.int (ch.toInt8.toInt32)), .val (.int (Int32.ofNat iloop))] [(.int (Int32.ofNat cs.length)), (.int (Int32.ofNat iloop))])) _
      refine own_go (fun _ k => XS.icmpYes X86.here hx rfl (pc0 := 10) (pc' := 31) rfl (hb hby d_jdk_43_m23_10) rfl (flt hlt).2.1 (by decide) (by decide) k) ?_
      show own_Go p e below (T86.setTop (mkF m 31 #[.val (.ref t), .val (.int ch), .val (.int (0 : Int32)), .val (.int (Int32.ofNat cs.length)), .val (.int (ch.toInt8.toInt32)), .val (.int (Int32.ofNat iloop))] [])) _
      refine own_go (fun _ k => XS.iconst X86.here hx rfl (hb hby d_jdk_43_m23_31) k) ?_
      show own_Go p e below (T86.setTop (mkF m 32 #[.val (.ref t), .val (.int ch), .val (.int (0 : Int32)), .val (.int (Int32.ofNat cs.length)), .val (.int (ch.toInt8.toInt32)), .val (.int (Int32.ofNat iloop))] [(.int (-1 : Int32))])) _
      refine own_fin (v := (some (.int (-1 : Int32)))) X86 (fun h => by rw [hrt] at h; cases h) hlk (fun fs hr => retI X86 hx hrt (hb hby d_jdk_43_m23_32) hr) (QQ := QIx cs ch h0 n0) ?_ (by decide) (by decide)
      rw [e86]
      exact ⟨_, rfl, N86, hhe, Or.inr ⟨by decide, own_nomem (fun j hj => hall j (by omega))⟩⟩
    | succ kT ih =>
      intro iloop T87 L87 h87 hik X87 e87 N87 O87 K87 J0_87 hall hhe
      have Z0_87 : n0 ≤ h87.size := O87.1 ▸ O87.2.1
      have hi : iloop < cs.length := by omega
      have hlt : (Int32.ofNat iloop) < (Int32.ofNat cs.length) := (own_lti (by omega) (by omega)).mpr hi
      show own_Go p e below (T87.setTop (mkF m 7 #[.val (.ref t), .val (.int ch), .val (.int (0 : Int32)), .val (.int (Int32.ofNat cs.length)), .val (.int (ch.toInt8.toInt32)), .val (.int (Int32.ofNat iloop))] [])) _
      refine own_go (fun _ k => XS.iload X87.here hx rfl (hb hby d_jdk_43_m23_7) rfl k) ?_
      show own_Go p e below (T87.setTop (mkF m 9 #[.val (.ref t), .val (.int ch), .val (.int (0 : Int32)), .val (.int (Int32.ofNat cs.length)), .val (.int (ch.toInt8.toInt32)), .val (.int (Int32.ofNat iloop))] [(.int (Int32.ofNat iloop))])) _
      refine own_go (fun _ k => XS.iloadN X87.here hx rfl (hb hby d_jdk_43_m23_9) rfl k) ?_
      show own_Go p e below (T87.setTop (mkF m 10 #[.val (.ref t), .val (.int ch), .val (.int (0 : Int32)), .val (.int (Int32.ofNat cs.length)), .val (.int (ch.toInt8.toInt32)), .val (.int (Int32.ofNat iloop))] [(.int (Int32.ofNat cs.length)), (.int (Int32.ofNat iloop))])) _
      refine own_go (fun _ k => XS.icmpNo X87.here hx rfl (hb hby d_jdk_43_m23_10) rfl (tlt hlt).2.1 k) ?_
      show own_Go p e below (T87.setTop (mkF m 13 #[.val (.ref t), .val (.int ch), .val (.int (0 : Int32)), .val (.int (Int32.ofNat cs.length)), .val (.int (ch.toInt8.toInt32)), .val (.int (Int32.ofNat iloop))] [])) _
      refine own_go (fun _ k => XS.aloadN X87.here hx rfl (hb hby d_jdk_43_m23_13) rfl rfl k) ?_
      show own_Go p e below (T87.setTop (mkF m 14 #[.val (.ref t), .val (.int ch), .val (.int (0 : Int32)), .val (.int (Int32.ofNat cs.length)), .val (.int (ch.toInt8.toInt32)), .val (.int (Int32.ofNat iloop))] [(.ref t)])) _
      refine own_go (fun _ k => XS.iload X87.here hx rfl (hb hby d_jdk_43_m23_14) rfl k) ?_
      show own_Go p e below (T87.setTop (mkF m 16 #[.val (.ref t), .val (.int ch), .val (.int (0 : Int32)), .val (.int (Int32.ofNat cs.length)), .val (.int (ch.toInt8.toInt32)), .val (.int (Int32.ofNat iloop))] [(.int (Int32.ofNat iloop)), (.ref t)])) _
      obtain ⟨c88, A88, q88, S88, M88, Hs88, Gs88⟩ := id J0_87
      have hi88 := inb_of (j := (Int32.ofNat iloop)) S88 (own_inb hi (by omega))
      refine own_go (fun _ k => X87.baloadBytes hx (j := (Int32.ofNat iloop)) (v := (.int (StrChars.lo8 (cs.getD iloop 0)))) (by rw [e87]; exact A88.1) (State.isArrayOf_alike hZ.alike A88.2.1) A88.2.2 hi88 (Has.at Hs88 hi88 (own_lgd hi hlen)) (g := (mkF m 16 #[.val (.ref t), .val (.int ch), .val (.int (0 : Int32)), .val (.int (Int32.ofNat cs.length)), .val (.int (ch.toInt8.toInt32)), .val (.int (Int32.ofNat iloop))] [(.int (Int32.ofNat iloop)), (.ref t)])) rfl rfl (hb hby d_jdk_43_m23_16) _ k) ?_
      show own_Go p e below (T87.setTop (mkF m 17 #[.val (.ref t), .val (.int ch), .val (.int (0 : Int32)), .val (.int (Int32.ofNat cs.length)), .val (.int (ch.toInt8.toInt32)), .val (.int (Int32.ofNat iloop))] [(.int (StrChars.lo8 (cs.getD iloop 0)))])) _
      refine own_go (fun _ k => XS.iload X87.here hx rfl (hb hby d_jdk_43_m23_17) rfl k) ?_
      show own_Go p e below (T87.setTop (mkF m 19 #[.val (.ref t), .val (.int ch), .val (.int (0 : Int32)), .val (.int (Int32.ofNat cs.length)), .val (.int (ch.toInt8.toInt32)), .val (.int (Int32.ofNat iloop))] [(.int (ch.toInt8.toInt32)), (.int (StrChars.lo8 (cs.getD iloop 0)))])) _
      by_cases hc89 : (StrChars.lo8 (cs.getD iloop 0)) = (ch.toInt8.toInt32)
      · skip
        refine own_go (fun _ k => XS.icmpNo X87.here hx rfl (hb hby d_jdk_43_m23_19) rfl (teq hc89).2 k) ?_
        show own_Go p e below (T87.setTop (mkF m 22 #[.val (.ref t), .val (.int ch), .val (.int (0 : Int32)), .val (.int (Int32.ofNat cs.length)), .val (.int (ch.toInt8.toInt32)), .val (.int (Int32.ofNat iloop))] [])) _
        refine own_go (fun _ k => XS.iload X87.here hx rfl (hb hby d_jdk_43_m23_22) rfl k) ?_
        show own_Go p e below (T87.setTop (mkF m 24 #[.val (.ref t), .val (.int ch), .val (.int (0 : Int32)), .val (.int (Int32.ofNat cs.length)), .val (.int (ch.toInt8.toInt32)), .val (.int (Int32.ofNat iloop))] [(.int (Int32.ofNat iloop))])) _
        refine own_fin (v := (some (.int (Int32.ofNat iloop)))) X87 (fun h => by rw [hrt] at h; cases h) hlk (fun fs hr => retI X87 hx hrt (hb hby d_jdk_43_m23_24) hr) (QQ := QIx cs ch h0 n0) ?_ (by decide) (by decide)
        rw [e87]
        exact ⟨_, rfl, N87, hhe, Or.inl ⟨own_nn0 (by omega), own_mem_of hi (own_loinj (hok.at hi).1 (ha _ (own_getm hi)) hc0 hc1 hc89)⟩⟩
      · skip
        refine own_go (fun _ k => XS.icmpYes X87.here hx rfl (pc0 := 19) (pc' := 25) rfl (hb hby d_jdk_43_m23_19) rfl (feq hc89).2 (by decide) (by decide) k) ?_
        show own_Go p e below (T87.setTop (mkF m 25 #[.val (.ref t), .val (.int ch), .val (.int (0 : Int32)), .val (.int (Int32.ofNat cs.length)), .val (.int (ch.toInt8.toInt32)), .val (.int (Int32.ofNat iloop))] [])) _
        refine own_go (fun _ k => XS.iinc X87.here hx rfl (hb hby d_jdk_43_m23_25) rfl (l' := #[.val (.ref t), .val (.int ch), .val (.int (0 : Int32)), .val (.int (Int32.ofNat cs.length)), .val (.int (ch.toInt8.toInt32)), .val (.int ((Int32.ofNat iloop) + (1 : Int32)))]) rfl k) ?_
        show own_Go p e below (T87.setTop (mkF m 28 #[.val (.ref t), .val (.int ch), .val (.int (0 : Int32)), .val (.int (Int32.ofNat cs.length)), .val (.int (ch.toInt8.toInt32)), .val (.int ((Int32.ofNat iloop) + (1 : Int32)))] [])) _
        refine own_go (fun _ k => XS.goto X87.here hx rfl (pc0 := 28) (pc' := 7) rfl (hb hby d_jdk_43_m23_28) (by decide) (by decide) k) ?_
        show own_Go p e below (T87.setTop (mkF m 7 #[.val (.ref t), .val (.int ch), .val (.int (0 : Int32)), .val (.int (Int32.ofNat cs.length)), .val (.int (ch.toInt8.toInt32)), .val (.int ((Int32.ofNat iloop) + (1 : Int32)))] [])) _
        rw [own_inc]
        exact ih (iloop + 1) T87 _ h87 (by omega) X87 e87 N87 O87 K87 J0_87 (fun j hj => (Nat.lt_succ_iff_lt_or_eq.mp hj).elim (fun q => hall j q) (fun q z => hc89 (congrArg StrChars.lo8 (q ▸ z)))) hhe
  exact loop (cs.length) 0 s₁ _ h0 (by omega) X0 e0 N0 O0 (Keep.refl h0 []) V_t (fun j hj => absurd hj (Nat.not_lt_zero _)) rfl

theorem d_jdk_43_m4_0 : decode jdk_43_method_4_code 0 = .ok (.iload_n 0, 1) := by decide +kernel
theorem d_jdk_43_m4_1 : decode jdk_43_method_4_code 1 = .ok (.ifCond .lt 14, 3) := by decide +kernel
theorem d_jdk_43_m4_4 : decode jdk_43_method_4_code 4 = .ok (.iload_n 0, 1) := by decide +kernel
theorem d_jdk_43_m4_5 : decode jdk_43_method_4_code 5 = .ok (.sipush 255, 3) := by decide +kernel
theorem d_jdk_43_m4_8 : decode jdk_43_method_4_code 8 = .ok (.if_icmp .gt 7, 3) := by decide +kernel
theorem d_jdk_43_m4_11 : decode jdk_43_method_4_code 11 = .ok (.iconst 1, 1) := by decide +kernel
theorem d_jdk_43_m4_12 : decode jdk_43_method_4_code 12 = .ok (.goto 4, 3) := by decide +kernel
theorem d_jdk_43_m4_16 : decode jdk_43_method_4_code 16 = .ok (.ireturn, 1) := by decide +kernel
theorem ef_rm_can (m : MethodId) (x0 : Int32) : entryFrame m #[(.int x0)] 1 = mkF m 0 #[.val (.int x0)] [] := by
   first | (simp [entryFrame, mkF, argsToLocals, Value.category]; done) | rfl
set_option maxRecDepth 65536 in
set_option maxHeartbeats 40000000 in
theorem rm_can (l : Launch) (Z : State) (a0 : Array Value) (hw : ∀ d ∈ tables_1, d.before a0 Z = true) (ws : List Jvm.Cond) (p1 : Int32) (h0 : Heap) (n0 : Nat) (O0 : Old Z n0 h0) (q1 : ¬ p1 < 0) (q2 : ¬ (255 : Int32) < p1) :
    MetFree l (⟨"java/lang/StringLatin1", "canEncode", "(I)Z"⟩ : MethodName) (head1 (Jvm.Cond.code (⟨"java/lang/StringLatin1", "canEncode", "(I)Z"⟩ : MethodName) jdk_43_method_4_code 1 (some .boolean) :: ws) ({ frames := 0, cells := 0, slots := 0, locals := 0 } : Room)) (fun aA U => aA = #[(.int p1)] ∧ Z.Warmed39 U.vm ∧ U.heap = h0) (fun _ _ _ _ _ => True) (fun _ U oO U' => ∃ rV rL, oO = .returned rV ∧ QPure (some (.int (1 : Int32))) h0 n0 rV U'.heap rL ∧ FrameEnd U oO U' rL 0 0) := by
  refine MetFree.of_bodySF (plainFor_of_name pn_3) hisR ?_
  intro p e s m args below meth cC s₁ Bd hml0 hP hK
  obtain ⟨rfl, hZ, hh⟩ := hP
  have hx := Bd.exec
  have hby := Bd.bytes
  have hml : cC.maxLocals = 1 := hml0
  have hown : s.vm.findClass "java/lang/StringLatin1" = some m.cls := findClass_of_methodNamed Bd.named
  have hnm := (name_of_methodNamed Bd.named Bd.method).1
  have hrt := Bd.returns
  have hlk : meth.locks = false := Bd.notSynchronized
  have X0 : Stand p l e ({ frames := 0, cells := 0, slots := 0, locals := 0 } : Room) s m #[(.int p1)] below meth cC s₁ [] 0 0 := Stand.of_body Bd
  have e0 : s₁.heap = h0 := by rw [← hh, Bd.state]; rfl
  have N0 := Fr.nil n0
  have Z0 : n0 ≤ h0.size := O0.1 ▸ O0.2.1
  show own_Go p e below (s₁.setTop (entryFrame m #[(.int p1)] 1)) (fun oO U' => ∃ rV rL, oO = .returned rV ∧ QPure (some (.int (1 : Int32))) h0 n0 rV U'.heap rL ∧ FrameEnd s oO U' rL 0 0)
  refine own_go (fun _ k => castTop (ef_rm_can m p1) k) ?_
  show own_Go p e below (s₁.setTop (mkF m 0 #[.val (.int p1)] [])) _
  refine own_go (fun _ k => XS.iloadN X0.here hx rfl (hb hby d_jdk_43_m4_0) rfl k) ?_
  show own_Go p e below (s₁.setTop (mkF m 1 #[.val (.int p1)] [(.int p1)])) _
  refine own_go (fun _ k => XS.ifNo X0.here hx rfl (hb hby d_jdk_43_m4_1) rfl ((if0 _ _).trans (flt q1).1) k) ?_
  show own_Go p e below (s₁.setTop (mkF m 4 #[.val (.int p1)] [])) _
  refine own_go (fun _ k => XS.iloadN X0.here hx rfl (hb hby d_jdk_43_m4_4) rfl k) ?_
  show own_Go p e below (s₁.setTop (mkF m 5 #[.val (.int p1)] [(.int p1)])) _
  refine own_go (fun _ k => XS.sipush X0.here hx rfl (hb hby d_jdk_43_m4_5) k) ?_
  show own_Go p e below (s₁.setTop (mkF m 8 #[.val (.int p1)] [(.int (255 : Int32)), (.int p1)])) _
  refine own_go (fun _ k => XS.icmpNo X0.here hx rfl (hb hby d_jdk_43_m4_8) rfl (flt q2).2.2.1 k) ?_
  show own_Go p e below (s₁.setTop (mkF m 11 #[.val (.int p1)] [])) _
  refine own_go (fun _ k => XS.iconst X0.here hx rfl (hb hby d_jdk_43_m4_11) k) ?_
  show own_Go p e below (s₁.setTop (mkF m 12 #[.val (.int p1)] [(.int (1 : Int32))])) _
  refine own_go (fun _ k => XS.goto X0.here hx rfl (pc0 := 12) (pc' := 16) rfl (hb hby d_jdk_43_m4_12) (by decide) (by decide) k) ?_
  show own_Go p e below (s₁.setTop (mkF m 16 #[.val (.int p1)] [(.int (1 : Int32))])) _
  refine own_fin (v := (some (.int (nar .boolean (1 : Int32))))) X0 (fun h => by rw [hrt] at h; cases h) hlk (fun fs hr => retN X0 hx (t := .boolean) hrt (by simp) (hb hby d_jdk_43_m4_16) hr) (QQ := QPure (some (.int (1 : Int32))) h0 n0) ?_ (by decide) (by decide)
  rw [e0]
  exact ⟨rfl, N0, rfl⟩

theorem d_jdk_43_m22_0 : decode jdk_43_method_22_code 0 = .ok (.iload_n 1, 1) := by decide +kernel
theorem d_jdk_43_m22_1 : decode jdk_43_method_22_code 1 = .ok (.invokestatic 88, 3) := by decide +kernel
theorem pd_9 : parseMethodDescriptor "(I)Z" = some ⟨[.int], some .boolean⟩ := by decide +kernel
theorem d_jdk_43_m22_4 : decode jdk_43_method_22_code 4 = .ok (.ifCond .ne 5, 3) := by decide +kernel
theorem d_jdk_43_m22_9 : decode jdk_43_method_22_code 9 = .ok (.iload_n 2, 1) := by decide +kernel
theorem d_jdk_43_m22_10 : decode jdk_43_method_22_code 10 = .ok (.iconst 0, 1) := by decide +kernel
theorem d_jdk_43_m22_11 : decode jdk_43_method_22_code 11 = .ok (.invokestatic 92, 3) := by decide +kernel
theorem pd_10 : parseMethodDescriptor "(II)I" = some ⟨[.int, .int], some .int⟩ := by decide +kernel
theorem d_jdk_43_m22_14 : decode jdk_43_method_22_code 14 = .ok (.istore_n 2, 1) := by decide +kernel
theorem d_jdk_43_m22_15 : decode jdk_43_method_22_code 15 = .ok (.iload_n 3, 1) := by decide +kernel
theorem d_jdk_43_m22_16 : decode jdk_43_method_22_code 16 = .ok (.aload_n 0, 1) := by decide +kernel
theorem d_jdk_43_m22_17 : decode jdk_43_method_22_code 17 = .ok (.arraylength, 1) := by decide +kernel
theorem d_jdk_43_m22_18 : decode jdk_43_method_22_code 18 = .ok (.invokestatic 38, 3) := by decide +kernel
theorem d_jdk_43_m22_21 : decode jdk_43_method_22_code 21 = .ok (.istore_n 3, 1) := by decide +kernel
theorem d_jdk_43_m22_22 : decode jdk_43_method_22_code 22 = .ok (.iload_n 2, 1) := by decide +kernel
theorem d_jdk_43_m22_23 : decode jdk_43_method_22_code 23 = .ok (.iload_n 3, 1) := by decide +kernel
theorem d_jdk_43_m22_24 : decode jdk_43_method_22_code 24 = .ok (.if_icmp .lt 5, 3) := by decide +kernel
theorem d_jdk_43_m22_29 : decode jdk_43_method_22_code 29 = .ok (.aload_n 0, 1) := by decide +kernel
theorem d_jdk_43_m22_30 : decode jdk_43_method_22_code 30 = .ok (.iload_n 1, 1) := by decide +kernel
theorem d_jdk_43_m22_31 : decode jdk_43_method_22_code 31 = .ok (.iload_n 2, 1) := by decide +kernel
theorem d_jdk_43_m22_32 : decode jdk_43_method_22_code 32 = .ok (.iload_n 3, 1) := by decide +kernel
theorem d_jdk_43_m22_33 : decode jdk_43_method_22_code 33 = .ok (.invokestatic 95, 3) := by decide +kernel
theorem pd_11 : parseMethodDescriptor "([BIII)I" = some ⟨[(.array .byte), .int, .int, .int], some .int⟩ := by decide +kernel
theorem d_jdk_43_m22_36 : decode jdk_43_method_22_code 36 = .ok (.ireturn, 1) := by decide +kernel
theorem d_jdk_43_m22_27 : decode jdk_43_method_22_code 27 = .ok (.iconst (-1), 1) := by decide +kernel
theorem d_jdk_43_m22_28 : decode jdk_43_method_22_code 28 = .ok (.ireturn, 1) := by decide +kernel
theorem ef_rm_lix (m : MethodId) (x0 : Addr) (x1 : Int32) (x2 : Int32) (x3 : Int32) : entryFrame m #[(.ref x0), (.int x1), (.int x2), (.int x3)] 4 = mkF m 0 #[.val (.ref x0), .val (.int x1), .val (.int x2), .val (.int x3)] [] := by
   first | (simp [entryFrame, mkF, argsToLocals, Value.category]; done) | rfl
set_option maxRecDepth 65536 in
set_option maxHeartbeats 40000000 in
theorem rm_lix (l : Launch) (Z : State) (a0 : Array Value) (hw : ∀ d ∈ tables_1, d.before a0 Z = true) (ws : List Jvm.Cond) (t : Addr) (k : ClassId) (cs : List Int32) (ch : Int32) (h0 : Heap) (n0 : Nat) (O0 : Old Z n0 h0) (V_t : Arv Z h0 t k .byte (Int32.ofNat cs.length) (own_lat cs) (.int (0 : Int32))) (hok : own_Ok cs) (ha : ∀ c ∈ cs, ¬ (255 : Int32) < c) (hc0 : ¬ ch < 0) (hc1 : ¬ (255 : Int32) < ch) :
    MetFree l (⟨"java/lang/StringLatin1", "indexOf", "([BIII)I"⟩ : MethodName) (head1 (Jvm.Cond.code (⟨"java/lang/StringLatin1", "indexOf", "([BIII)I"⟩ : MethodName) jdk_43_method_22_code 4 (some .int) :: ws) ({ frames := 1, cells := 0, slots := 0, locals := 17 } : Room)) (fun aA U => aA = #[(.ref t), (.int ch), (.int (0 : Int32)), (.int (Int32.ofNat cs.length))] ∧ Z.Warmed39 U.vm ∧ U.heap = h0) (fun _ _ _ _ _ => True) (fun _ U oO U' => ∃ rV rL, oO = .returned rV ∧ QIx cs ch h0 n0 rV U'.heap rL ∧ FrameEnd U oO U' rL 0 0) := by
  refine MetFree.of_bodySF (plainFor_of_name pn_3) hisR ?_
  intro p e s m args below meth cC s₁ Bd hml0 hP hK
  obtain ⟨rfl, hZ, hh⟩ := hP
  have hx := Bd.exec
  have hby := Bd.bytes
  have hml : cC.maxLocals = 4 := hml0
  have hown : s.vm.findClass "java/lang/StringLatin1" = some m.cls := findClass_of_methodNamed Bd.named
  have hnm := (name_of_methodNamed Bd.named Bd.method).1
  have hrt := Bd.returns
  have hlk : meth.locks = false := Bd.notSynchronized
  have X0 : Stand p l e ({ frames := 1, cells := 0, slots := 0, locals := 17 } : Room) s m #[(.ref t), (.int ch), (.int (0 : Int32)), (.int (Int32.ofNat cs.length))] below meth cC s₁ [] 0 0 := Stand.of_body Bd
  have e0 : s₁.heap = h0 := by rw [← hh, Bd.state]; rfl
  have N0 := Fr.nil n0
  have Z0 : n0 ≤ h0.size := O0.1 ▸ O0.2.1
  show own_Go p e below (s₁.setTop (entryFrame m #[(.ref t), (.int ch), (.int (0 : Int32)), (.int (Int32.ofNat cs.length))] 4)) (fun oO U' => ∃ rV rL, oO = .returned rV ∧ QIx cs ch h0 n0 rV U'.heap rL ∧ FrameEnd s oO U' rL 0 0)
  refine own_go (fun _ k => castTop (ef_rm_lix m t ch _ _) k) ?_
  have hlen : cs.length ≤ 4000 := hok.2
  show own_Go p e below (s₁.setTop (mkF m 0 #[.val (.ref t), .val (.int ch), .val (.int (0 : Int32)), .val (.int (Int32.ofNat cs.length))] [])) _
  refine own_go (fun _ k => XS.iloadN X0.here hx rfl (hb hby d_jdk_43_m22_0) rfl k) ?_
  show own_Go p e below (s₁.setTop (mkF m 1 #[.val (.ref t), .val (.int ch), .val (.int (0 : Int32)), .val (.int (Int32.ofNat cs.length))] [(.int ch)])) _
  obtain ⟨v90, _, ⟨T90, L90, k90, n90⟩, -, X90, ⟨Lc90, hQ90, l90, y90, z90⟩, st90⟩ := Jvm.LawKit.callS X0 hx (y := (⟨"java/lang/StringLatin1", "canEncode", "(I)Z"⟩ : MethodName)) hown (mvT hZ (hw _ (List.mem_of_getElem? (i := 69) rfl))) (mvT hZ (hw _ (List.mem_of_getElem? (i := 70) rfl))) (mvT hZ (hw _ (List.mem_of_getElem? (i := 67) rfl))) (mvT hZ (hw _ (List.mem_of_getElem? (i := 71) rfl))) (by decide) (backOf (W := 0) (rm_can l Z a0 hw [] ch h0 n0 O0 hc0 hc1) hZ (hw _ (List.mem_of_getElem? (i := 71) rfl)) (hw _ (List.mem_of_getElem? (i := 67) rfl)) (by decide) (by decide)) (g := (mkF m 1 #[.val (.ref t), .val (.int ch), .val (.int (0 : Int32)), .val (.int (Int32.ofNat cs.length))] [(.int ch)])) rfl (by rw [hml]; rfl) (argsL := [(.int ch)]) (rest := []) (lenOf pd_9 rfl) rfl (by show 2 * 0 + _ ≤ _; exact Nat.le_of_eq rfl) (hb hby d_jdk_43_m22_1) (fun _ _ => ⟨rfl, e0, (by decide : 0 + 0 ≤ _), (by decide : 0 + 0 ≤ _)⟩)
  dsimp only [Pt.U, Pt.locs, Pt.cells, Pt.slots] at X90 l90 y90 z90 st90 hQ90
  subst l90 y90 z90
  refine own_go st90 ?_
  obtain ⟨rfl, Nq90, e90⟩ := hQ90
  have N90 := Fr.app N0 Nq90
  show own_Go p e below (T90.setTop (mkF m 4 #[.val (.ref t), .val (.int ch), .val (.int (0 : Int32)), .val (.int (Int32.ofNat cs.length))] [(.int (1 : Int32))])) _
  refine own_go (fun _ k => XS.ifYes X90.here hx rfl (pc0 := 4) (pc' := 9) rfl (hb hby d_jdk_43_m22_4) rfl ((if0 _ _).trans (feq (by decide : ¬ ((1 : Int32) = (0 : Int32)))).2) (by decide) (by decide) k) ?_
  show own_Go p e below (T90.setTop (mkF m 9 #[.val (.ref t), .val (.int ch), .val (.int (0 : Int32)), .val (.int (Int32.ofNat cs.length))] [])) _
  refine own_go (fun _ k => XS.iloadN X90.here hx rfl (hb hby d_jdk_43_m22_9) rfl k) ?_
  show own_Go p e below (T90.setTop (mkF m 10 #[.val (.ref t), .val (.int ch), .val (.int (0 : Int32)), .val (.int (Int32.ofNat cs.length))] [(.int (0 : Int32))])) _
  refine own_go (fun _ k => XS.iconst X90.here hx rfl (hb hby d_jdk_43_m22_10) k) ?_
  show own_Go p e below (T90.setTop (mkF m 11 #[.val (.ref t), .val (.int ch), .val (.int (0 : Int32)), .val (.int (Int32.ofNat cs.length))] [(.int (0 : Int32)), (.int (0 : Int32))])) _
  obtain ⟨v91, _, ⟨T91, L91, k91, n91⟩, -, X91, ⟨Lc91, hQ91, l91, y91, z91⟩, st91⟩ := Jvm.LawKit.callS X90 hx (y := (⟨"java/lang/Math", "max", "(II)I"⟩ : MethodName)) hown (mvT hZ (hw _ (List.mem_of_getElem? (i := 72) rfl))) (mvT hZ (hw _ (List.mem_of_getElem? (i := 73) rfl))) (mvT hZ (hw _ (List.mem_of_getElem? (i := 74) rfl))) (mvT hZ (hw _ (List.mem_of_getElem? (i := 75) rfl))) (by decide) (backOf (W := 0) (rm_max l Z a0 hw [] (0 : Int32) (0 : Int32) (0 : Int32) h0 n0 O0 (by decide)) hZ (hw _ (List.mem_of_getElem? (i := 75) rfl)) (hw _ (List.mem_of_getElem? (i := 74) rfl)) (by decide) (by decide)) (g := (mkF m 11 #[.val (.ref t), .val (.int ch), .val (.int (0 : Int32)), .val (.int (Int32.ofNat cs.length))] [(.int (0 : Int32)), (.int (0 : Int32))])) rfl (by rw [hml]; rfl) (argsL := [(.int (0 : Int32)), (.int (0 : Int32))]) (rest := []) (lenOf pd_10 rfl) rfl (by show 2 * 0 + _ ≤ _; exact Nat.le_of_eq rfl) (hb hby d_jdk_43_m22_11) (fun _ _ => ⟨rfl, e90, (by decide : 0 + 0 ≤ _), (by decide : 0 + 0 ≤ _)⟩)
  dsimp only [Pt.U, Pt.locs, Pt.cells, Pt.slots] at X91 l91 y91 z91 st91 hQ91
  subst l91 y91 z91
  refine own_go st91 ?_
  obtain ⟨rfl, Nq91, e91⟩ := hQ91
  have N91 := Fr.app N90 Nq91
  show own_Go p e below (T91.setTop (mkF m 14 #[.val (.ref t), .val (.int ch), .val (.int (0 : Int32)), .val (.int (Int32.ofNat cs.length))] [(.int (0 : Int32))])) _
  refine own_go (fun _ k => XS.istoreN X91.here hx rfl (hb hby d_jdk_43_m22_14) rfl (l' := #[.val (.ref t), .val (.int ch), .val (.int (0 : Int32)), .val (.int (Int32.ofNat cs.length))]) rfl k) ?_
  show own_Go p e below (T91.setTop (mkF m 15 #[.val (.ref t), .val (.int ch), .val (.int (0 : Int32)), .val (.int (Int32.ofNat cs.length))] [])) _
  refine own_go (fun _ k => XS.iloadN X91.here hx rfl (hb hby d_jdk_43_m22_15) rfl k) ?_
  show own_Go p e below (T91.setTop (mkF m 16 #[.val (.ref t), .val (.int ch), .val (.int (0 : Int32)), .val (.int (Int32.ofNat cs.length))] [(.int (Int32.ofNat cs.length))])) _
  refine own_go (fun _ k => XS.aloadN X91.here hx rfl (hb hby d_jdk_43_m22_16) rfl rfl k) ?_
  show own_Go p e below (T91.setTop (mkF m 17 #[.val (.ref t), .val (.int ch), .val (.int (0 : Int32)), .val (.int (Int32.ofNat cs.length))] [(.ref t), (.int (Int32.ofNat cs.length))])) _
  obtain ⟨c92, A92, q92, S92, M92, Hs92, Gs92⟩ := id V_t
  refine own_go (fun _ k => X91.arraylength hx (by rw [e91]; exact A92.1) (State.isArrayOf_alike hZ.alike A92.2.1) (g := (mkF m 17 #[.val (.ref t), .val (.int ch), .val (.int (0 : Int32)), .val (.int (Int32.ofNat cs.length))] [(.ref t), (.int (Int32.ofNat cs.length))])) rfl rfl (hb hby d_jdk_43_m22_17) _ k) ?_
  rw [len_of S92 M92]
  show own_Go p e below (T91.setTop (mkF m 18 #[.val (.ref t), .val (.int ch), .val (.int (0 : Int32)), .val (.int (Int32.ofNat cs.length))] [(.int (Int32.ofNat cs.length)), (.int (Int32.ofNat cs.length))])) _
  obtain ⟨v93, _, ⟨T93, L93, k93, n93⟩, -, X93, ⟨Lc93, hQ93, l93, y93, z93⟩, st93⟩ := Jvm.LawKit.callS X91 hx (y := (⟨"java/lang/Math", "min", "(II)I"⟩ : MethodName)) hown (mvT hZ (hw _ (List.mem_of_getElem? (i := 76) rfl))) (mvT hZ (hw _ (List.mem_of_getElem? (i := 77) rfl))) (mvT hZ (hw _ (List.mem_of_getElem? (i := 74) rfl))) (mvT hZ (hw _ (List.mem_of_getElem? (i := 78) rfl))) (by decide) (backOf (W := 0) (rm_min l Z a0 hw [] (Int32.ofNat cs.length) (Int32.ofNat cs.length) (Int32.ofNat cs.length) h0 n0 O0 (own_minself _)) hZ (hw _ (List.mem_of_getElem? (i := 78) rfl)) (hw _ (List.mem_of_getElem? (i := 74) rfl)) (by decide) (by decide)) (g := (mkF m 18 #[.val (.ref t), .val (.int ch), .val (.int (0 : Int32)), .val (.int (Int32.ofNat cs.length))] [(.int (Int32.ofNat cs.length)), (.int (Int32.ofNat cs.length))])) rfl (by rw [hml]; rfl) (argsL := [(.int (Int32.ofNat cs.length)), (.int (Int32.ofNat cs.length))]) (rest := []) (lenOf pd_10 rfl) rfl (by show 2 * 0 + _ ≤ _; exact Nat.le_of_eq rfl) (hb hby d_jdk_43_m22_18) (fun _ _ => ⟨rfl, e91, (by decide : 0 + 0 ≤ _), (by decide : 0 + 0 ≤ _)⟩)
  dsimp only [Pt.U, Pt.locs, Pt.cells, Pt.slots] at X93 l93 y93 z93 st93 hQ93
  subst l93 y93 z93
  refine own_go st93 ?_
  obtain ⟨rfl, Nq93, e93⟩ := hQ93
  have N93 := Fr.app N91 Nq93
  show own_Go p e below (T93.setTop (mkF m 21 #[.val (.ref t), .val (.int ch), .val (.int (0 : Int32)), .val (.int (Int32.ofNat cs.length))] [(.int (Int32.ofNat cs.length))])) _
  refine own_go (fun _ k => XS.istoreN X93.here hx rfl (hb hby d_jdk_43_m22_21) rfl (l' := #[.val (.ref t), .val (.int ch), .val (.int (0 : Int32)), .val (.int (Int32.ofNat cs.length))]) rfl k) ?_
  show own_Go p e below (T93.setTop (mkF m 22 #[.val (.ref t), .val (.int ch), .val (.int (0 : Int32)), .val (.int (Int32.ofNat cs.length))] [])) _
  refine own_go (fun _ k => XS.iloadN X93.here hx rfl (hb hby d_jdk_43_m22_22) rfl k) ?_
  show own_Go p e below (T93.setTop (mkF m 23 #[.val (.ref t), .val (.int ch), .val (.int (0 : Int32)), .val (.int (Int32.ofNat cs.length))] [(.int (0 : Int32))])) _
  refine own_go (fun _ k => XS.iloadN X93.here hx rfl (hb hby d_jdk_43_m22_23) rfl k) ?_
  show own_Go p e below (T93.setTop (mkF m 24 #[.val (.ref t), .val (.int ch), .val (.int (0 : Int32)), .val (.int (Int32.ofNat cs.length))] [(.int (Int32.ofNat cs.length)), (.int (0 : Int32))])) _
  by_cases hc94 : (0 : Int32) < (Int32.ofNat cs.length)
  · skip
    refine own_go (fun _ k => XS.icmpYes X93.here hx rfl (pc0 := 24) (pc' := 29) rfl (hb hby d_jdk_43_m22_24) rfl (tlt hc94).1 (by decide) (by decide) k) ?_
    show own_Go p e below (T93.setTop (mkF m 29 #[.val (.ref t), .val (.int ch), .val (.int (0 : Int32)), .val (.int (Int32.ofNat cs.length))] [])) _
    refine own_go (fun _ k => XS.aloadN X93.here hx rfl (hb hby d_jdk_43_m22_29) rfl rfl k) ?_
    show own_Go p e below (T93.setTop (mkF m 30 #[.val (.ref t), .val (.int ch), .val (.int (0 : Int32)), .val (.int (Int32.ofNat cs.length))] [(.ref t)])) _
    refine own_go (fun _ k => XS.iloadN X93.here hx rfl (hb hby d_jdk_43_m22_30) rfl k) ?_
    show own_Go p e below (T93.setTop (mkF m 31 #[.val (.ref t), .val (.int ch), .val (.int (0 : Int32)), .val (.int (Int32.ofNat cs.length))] [(.int ch), (.ref t)])) _
    refine own_go (fun _ k => XS.iloadN X93.here hx rfl (hb hby d_jdk_43_m22_31) rfl k) ?_
    show own_Go p e below (T93.setTop (mkF m 32 #[.val (.ref t), .val (.int ch), .val (.int (0 : Int32)), .val (.int (Int32.ofNat cs.length))] [(.int (0 : Int32)), (.int ch), (.ref t)])) _
    refine own_go (fun _ k => XS.iloadN X93.here hx rfl (hb hby d_jdk_43_m22_32) rfl k) ?_
    show own_Go p e below (T93.setTop (mkF m 33 #[.val (.ref t), .val (.int ch), .val (.int (0 : Int32)), .val (.int (Int32.ofNat cs.length))] [(.int (Int32.ofNat cs.length)), (.int (0 : Int32)), (.int ch), (.ref t)])) _
    obtain ⟨v95, _, ⟨T95, L95, k95, n95⟩, -, X95, ⟨Lc95, hQ95, l95, y95, z95⟩, st95⟩ := Jvm.LawKit.callS X93 hx (y := (⟨"java/lang/StringLatin1", "indexOfChar", "([BIII)I"⟩ : MethodName)) hown (mvT hZ (hw _ (List.mem_of_getElem? (i := 79) rfl))) (mvT hZ (hw _ (List.mem_of_getElem? (i := 80) rfl))) (mvT hZ (hw _ (List.mem_of_getElem? (i := 67) rfl))) (mvT hZ (hw _ (List.mem_of_getElem? (i := 81) rfl))) (by decide) (backOf (W := 0) (rm_lic l Z a0 hw [] t k cs ch h0 n0 O0 V_t hok ha hc0 hc1) hZ (hw _ (List.mem_of_getElem? (i := 81) rfl)) (hw _ (List.mem_of_getElem? (i := 67) rfl)) (by decide) (by decide)) (g := (mkF m 33 #[.val (.ref t), .val (.int ch), .val (.int (0 : Int32)), .val (.int (Int32.ofNat cs.length))] [(.int (Int32.ofNat cs.length)), (.int (0 : Int32)), (.int ch), (.ref t)])) rfl (by rw [hml]; rfl) (argsL := [(.ref t), (.int ch), (.int (0 : Int32)), (.int (Int32.ofNat cs.length))]) (rest := []) (lenOf pd_11 rfl) rfl (by show 2 * 0 + _ ≤ _; exact Nat.le_of_eq rfl) (hb hby d_jdk_43_m22_33) (fun _ _ => ⟨rfl, e93, (by decide : 0 + 0 ≤ _), (by decide : 0 + 0 ≤ _)⟩)
    dsimp only [Pt.U, Pt.locs, Pt.cells, Pt.slots] at X95 l95 y95 z95 st95 hQ95
    subst l95 y95 z95
    refine own_go st95 ?_
    obtain ⟨r95, rfl, Nq95, e95, hr95⟩ := hQ95
    have N95 := Fr.app N93 Nq95
    show own_Go p e below (T95.setTop (mkF m 36 #[.val (.ref t), .val (.int ch), .val (.int (0 : Int32)), .val (.int (Int32.ofNat cs.length))] [(.int r95)])) _
    refine own_fin (v := (some (.int r95))) X95 (fun h => by rw [hrt] at h; cases h) hlk (fun fs hr => retI X95 hx hrt (hb hby d_jdk_43_m22_36) hr) (QQ := QIx cs ch h0 n0) ?_ (by decide) (by decide)
    rw [e95]
    exact ⟨_, rfl, N95, rfl, hr95⟩
  · skip
    refine own_go (fun _ k => XS.icmpNo X93.here hx rfl (hb hby d_jdk_43_m22_24) rfl (flt hc94).1 k) ?_
    show own_Go p e below (T93.setTop (mkF m 27 #[.val (.ref t), .val (.int ch), .val (.int (0 : Int32)), .val (.int (Int32.ofNat cs.length))] [])) _
    refine own_go (fun _ k => XS.iconst X93.here hx rfl (hb hby d_jdk_43_m22_27) k) ?_
    show own_Go p e below (T93.setTop (mkF m 28 #[.val (.ref t), .val (.int ch), .val (.int (0 : Int32)), .val (.int (Int32.ofNat cs.length))] [(.int (-1 : Int32))])) _
    refine own_fin (v := (some (.int (-1 : Int32)))) X93 (fun h => by rw [hrt] at h; cases h) hlk (fun fs hr => retI X93 hx hrt (hb hby d_jdk_43_m22_28) hr) (QQ := QIx cs ch h0 n0) ?_ (by decide) (by decide)
    rw [e93]
    exact ⟨_, rfl, N93, rfl, Or.inr ⟨by decide, own_empty hc94 hlen⟩⟩

theorem d_jdk_52_m48_0 : decode jdk_52_method_48_code 0 = .ok (.iload_n 2, 1) := by decide +kernel
theorem d_jdk_52_m48_1 : decode jdk_52_method_48_code 1 = .ok (.istore 4, 2) := by decide +kernel
theorem d_jdk_52_m48_3 : decode jdk_52_method_48_code 3 = .ok (.iload 4, 2) := by decide +kernel
theorem d_jdk_52_m48_5 : decode jdk_52_method_48_code 5 = .ok (.iload_n 3, 1) := by decide +kernel
theorem d_jdk_52_m48_6 : decode jdk_52_method_48_code 6 = .ok (.if_icmp .ge 22, 3) := by decide +kernel
theorem d_jdk_52_m48_28 : decode jdk_52_method_48_code 28 = .ok (.iconst (-1), 1) := by decide +kernel
theorem d_jdk_52_m48_29 : decode jdk_52_method_48_code 29 = .ok (.ireturn, 1) := by decide +kernel
theorem d_jdk_52_m48_9 : decode jdk_52_method_48_code 9 = .ok (.aload_n 0, 1) := by decide +kernel
theorem d_jdk_52_m48_10 : decode jdk_52_method_48_code 10 = .ok (.iload 4, 2) := by decide +kernel
theorem d_jdk_52_m48_12 : decode jdk_52_method_48_code 12 = .ok (.invokestatic 71, 3) := by decide +kernel
theorem d_jdk_52_m48_15 : decode jdk_52_method_48_code 15 = .ok (.iload_n 1, 1) := by decide +kernel
theorem d_jdk_52_m48_16 : decode jdk_52_method_48_code 16 = .ok (.if_icmp .ne 6, 3) := by decide +kernel
theorem d_jdk_52_m48_19 : decode jdk_52_method_48_code 19 = .ok (.iload 4, 2) := by decide +kernel
theorem d_jdk_52_m48_21 : decode jdk_52_method_48_code 21 = .ok (.ireturn, 1) := by decide +kernel
theorem d_jdk_52_m48_22 : decode jdk_52_method_48_code 22 = .ok (.iinc 4 1, 3) := by decide +kernel
theorem d_jdk_52_m48_25 : decode jdk_52_method_48_code 25 = .ok (.goto (-22), 3) := by decide +kernel
theorem ef_rm_wiu (m : MethodId) (x0 : Addr) (x1 : Int32) (x2 : Int32) (x3 : Int32) : entryFrame m #[(.ref x0), (.int x1), (.int x2), (.int x3)] 5 = mkF m 0 #[.val (.ref x0), .val (.int x1), .val (.int x2), .val (.int x3), .unset] [] := by
   first | (simp [entryFrame, mkF, argsToLocals, Value.category]; done) | rfl
set_option maxRecDepth 65536 in
set_option maxHeartbeats 40000000 in
theorem rm_wiu (l : Launch) (Z : State) (a0 : Array Value) (hw : ∀ d ∈ tables_1, d.before a0 Z = true) (ws : List Jvm.Cond) (t : Addr) (k : ClassId) (cs : List Int32) (ch : Int32) (h0 : Heap) (n0 : Nat) (O0 : Old Z n0 h0) (OA : Sta Z Z.heap "java/lang/StringUTF16" "$assertionsDisabled" "Z" (.int (1 : Int32))) (OH : Sta Z Z.heap "java/lang/StringUTF16" "HI_BYTE_SHIFT" "I" (.int (0 : Int32))) (OL : Sta Z Z.heap "java/lang/StringUTF16" "LO_BYTE_SHIFT" "I" (.int (8 : Int32))) (V_t : Arv Z h0 t k .byte (Int32.ofNat (2 * cs.length)) (StrChars.Road.wideBytes cs) (.int (0 : Int32))) (hok : own_Ok cs) (hpos : 0 < cs.length) (hc0 : ¬ ch < 0) (hc1 : ¬ (255 : Int32) < ch) :
    MetFree l (⟨"java/lang/StringUTF16", "indexOfCharUnsafe", "([BIII)I"⟩ : MethodName) (head1 (Jvm.Cond.code (⟨"java/lang/StringUTF16", "indexOfCharUnsafe", "([BIII)I"⟩ : MethodName) jdk_52_method_48_code 5 (some .int) :: ws) ({ frames := 1, cells := 0, slots := 0, locals := 13 } : Room)) (fun aA U => aA = #[(.ref t), (.int ch), (.int (0 : Int32)), (.int (Int32.ofNat cs.length))] ∧ Z.Warmed39 U.vm ∧ U.heap = h0) (fun _ _ _ _ _ => True) (fun _ U oO U' => ∃ rV rL, oO = .returned rV ∧ QIx cs ch h0 n0 rV U'.heap rL ∧ FrameEnd U oO U' rL 0 0) := by
  refine MetFree.of_bodySF (plainFor_of_name pn_1) hisR ?_
  intro p e s m args below meth cC s₁ Bd hml0 hP hK
  obtain ⟨rfl, hZ, hh⟩ := hP
  have hx := Bd.exec
  have hby := Bd.bytes
  have hml : cC.maxLocals = 5 := hml0
  have hown : s.vm.findClass "java/lang/StringUTF16" = some m.cls := findClass_of_methodNamed Bd.named
  have hnm := (name_of_methodNamed Bd.named Bd.method).1
  have hrt := Bd.returns
  have hlk : meth.locks = false := Bd.notSynchronized
  have X0 : Stand p l e ({ frames := 1, cells := 0, slots := 0, locals := 13 } : Room) s m #[(.ref t), (.int ch), (.int (0 : Int32)), (.int (Int32.ofNat cs.length))] below meth cC s₁ [] 0 0 := Stand.of_body Bd
  have e0 : s₁.heap = h0 := by rw [← hh, Bd.state]; rfl
  have N0 := Fr.nil n0
  have Z0 : n0 ≤ h0.size := O0.1 ▸ O0.2.1
  show own_Go p e below (s₁.setTop (entryFrame m #[(.ref t), (.int ch), (.int (0 : Int32)), (.int (Int32.ofNat cs.length))] 5)) (fun oO U' => ∃ rV rL, oO = .returned rV ∧ QIx cs ch h0 n0 rV U'.heap rL ∧ FrameEnd s oO U' rL 0 0)
  refine own_go (fun _ k => castTop (ef_rm_wiu m t ch _ _) k) ?_
  have hlen : cs.length ≤ 4000 := hok.2
  show own_Go p e below (s₁.setTop (mkF m 0 #[.val (.ref t), .val (.int ch), .val (.int (0 : Int32)), .val (.int (Int32.ofNat cs.length)), .unset] [])) _
  refine own_go (fun _ k => XS.iloadN X0.here hx rfl (hb hby d_jdk_52_m48_0) rfl k) ?_
  show own_Go p e below (s₁.setTop (mkF m 1 #[.val (.ref t), .val (.int ch), .val (.int (0 : Int32)), .val (.int (Int32.ofNat cs.length)), .unset] [(.int (0 : Int32))])) _
  refine own_go (fun _ k => XS.istore X0.here hx rfl (hb hby d_jdk_52_m48_1) rfl (l' := #[.val (.ref t), .val (.int ch), .val (.int (0 : Int32)), .val (.int (Int32.ofNat cs.length)), .val (.int (0 : Int32))]) rfl k) ?_
  show own_Go p e below (s₁.setTop (mkF m 3 #[.val (.ref t), .val (.int ch), .val (.int (0 : Int32)), .val (.int (Int32.ofNat cs.length)), .val (.int (0 : Int32))] [])) _
  have loop : ∀ (kT iloop : Nat) (T : State) (locs : List Loc) (h : Heap), iloop + kT = cs.length → Stand p l e ({ frames := 1, cells := 0, slots := 0, locals := 13 } : Room) s m #[(.ref t), (.int ch), (.int (0 : Int32)), (.int (Int32.ofNat cs.length))] below meth cC T locs 0 0 → T.heap = h → Fr n0 locs → Old Z n0 h → Keep h0 h [] → Arv Z h t k .byte (Int32.ofNat (2 * cs.length)) (StrChars.Road.wideBytes cs) (.int (0 : Int32)) → (∀ j, j < iloop → ¬ cs.getD j 0 = ch) → (h = h0) → own_Go p e below (T.setTop (mkF m 3 #[.val (.ref t), .val (.int ch), .val (.int (0 : Int32)), .val (.int (Int32.ofNat cs.length)), .val (.int (Int32.ofNat iloop))] [])) (fun oO U' => ∃ rV rL, oO = .returned rV ∧ QIx cs ch h0 n0 rV U'.heap rL ∧ FrameEnd s oO U' rL 0 0) := by
    intro kT
    induction kT with
    | zero =>
      intro iloop T96 L96 h96 hik X96 e96 N96 O96 K96 J0_96 hall hhe
      have Z0_96 : n0 ≤ h96.size := O96.1 ▸ O96.2.1
      have hin : iloop = cs.length := by omega
      have hlt : ¬ ((Int32.ofNat iloop) < (Int32.ofNat cs.length)) := by rw [own_lti (by omega) (by omega)]; omega
      show own_Go p e below (T96.setTop (mkF m 3 #[.val (.ref t), .val (.int ch), .val (.int (0 : Int32)), .val (.int (Int32.ofNat cs.length)), .val (.int (Int32.ofNat iloop))] [])) _
      refine own_go (fun _ k => XS.iload X96.here hx rfl (hb hby d_jdk_52_m48_3) rfl k) ?_
      show own_Go p e below (T96.setTop (mkF m 5 #[.val (.ref t), .val (.int ch), .val (.int (0 : Int32)), .val (.int (Int32.ofNat cs.length)), .val (.int (Int32.ofNat iloop))] [(.int (Int32.ofNat iloop))])) _
      refine own_go (fun _ k => XS.iloadN X96.here hx rfl (hb hby d_jdk_52_m48_5) rfl k) ?_
      show own_Go p e below (T96.setTop (mkF m 6 #[.val (.ref t), .val (.int ch), .val (.int (0 : Int32)), .val (.int (Int32.ofNat cs.length)), .val (.int (Int32.ofNat iloop))] [(.int (Int32.ofNat cs.length)), (.int (Int32.ofNat iloop))])) _
      refine own_go (fun _ k => XS.icmpYes X96.here hx rfl (pc0 := 6) (pc' := 28) rfl (hb hby d_jdk_52_m48_6) rfl (flt hlt).2.1 (by decide) (by decide) k) ?_
      show own_Go p e below (T96.setTop (mkF m 28 #[.val (.ref t), .val (.int ch), .val (.int (0 : Int32)), .val (.int (Int32.ofNat cs.length)), .val (.int (Int32.ofNat iloop))] [])) _
      refine own_go (fun _ k => XS.iconst X96.here hx rfl (hb hby d_jdk_52_m48_28) k) ?_
      show own_Go p e below (T96.setTop (mkF m 29 #[.val (.ref t), .val (.int ch), .val (.int (0 : Int32)), .val (.int (Int32.ofNat cs.length)), .val (.int (Int32.ofNat iloop))] [(.int (-1 : Int32))])) _
      refine own_fin (v := (some (.int (-1 : Int32)))) X96 (fun h => by rw [hrt] at h; cases h) hlk (fun fs hr => retI X96 hx hrt (hb hby d_jdk_52_m48_29) hr) (QQ := QIx cs ch h0 n0) ?_ (by decide) (by decide)
      rw [e96]
      exact ⟨_, rfl, N96, hhe, Or.inr ⟨by decide, own_nomem (fun j hj => hall j (by omega))⟩⟩
    | succ kT ih =>
      intro iloop T97 L97 h97 hik X97 e97 N97 O97 K97 J0_97 hall hhe
      have Z0_97 : n0 ≤ h97.size := O97.1 ▸ O97.2.1
      have hi : iloop < cs.length := by omega
      have hlt : (Int32.ofNat iloop) < (Int32.ofNat cs.length) := (own_lti (by omega) (by omega)).mpr hi
      show own_Go p e below (T97.setTop (mkF m 3 #[.val (.ref t), .val (.int ch), .val (.int (0 : Int32)), .val (.int (Int32.ofNat cs.length)), .val (.int (Int32.ofNat iloop))] [])) _
      refine own_go (fun _ k => XS.iload X97.here hx rfl (hb hby d_jdk_52_m48_3) rfl k) ?_
      show own_Go p e below (T97.setTop (mkF m 5 #[.val (.ref t), .val (.int ch), .val (.int (0 : Int32)), .val (.int (Int32.ofNat cs.length)), .val (.int (Int32.ofNat iloop))] [(.int (Int32.ofNat iloop))])) _
      refine own_go (fun _ k => XS.iloadN X97.here hx rfl (hb hby d_jdk_52_m48_5) rfl k) ?_
      show own_Go p e below (T97.setTop (mkF m 6 #[.val (.ref t), .val (.int ch), .val (.int (0 : Int32)), .val (.int (Int32.ofNat cs.length)), .val (.int (Int32.ofNat iloop))] [(.int (Int32.ofNat cs.length)), (.int (Int32.ofNat iloop))])) _
      refine own_go (fun _ k => XS.icmpNo X97.here hx rfl (hb hby d_jdk_52_m48_6) rfl (tlt hlt).2.1 k) ?_
      show own_Go p e below (T97.setTop (mkF m 9 #[.val (.ref t), .val (.int ch), .val (.int (0 : Int32)), .val (.int (Int32.ofNat cs.length)), .val (.int (Int32.ofNat iloop))] [])) _
      refine own_go (fun _ k => XS.aloadN X97.here hx rfl (hb hby d_jdk_52_m48_9) rfl rfl k) ?_
      show own_Go p e below (T97.setTop (mkF m 10 #[.val (.ref t), .val (.int ch), .val (.int (0 : Int32)), .val (.int (Int32.ofNat cs.length)), .val (.int (Int32.ofNat iloop))] [(.ref t)])) _
      refine own_go (fun _ k => XS.iload X97.here hx rfl (hb hby d_jdk_52_m48_10) rfl k) ?_
      show own_Go p e below (T97.setTop (mkF m 12 #[.val (.ref t), .val (.int ch), .val (.int (0 : Int32)), .val (.int (Int32.ofNat cs.length)), .val (.int (Int32.ofNat iloop))] [(.int (Int32.ofNat iloop)), (.ref t)])) _
      obtain ⟨v98, _, ⟨T98, L98, k98, n98⟩, -, X98, ⟨Lc98, hQ98, l98, y98, z98⟩, st98⟩ := Jvm.LawKit.callS X97 hx (y := (⟨"java/lang/StringUTF16", "getChar", "([BI)C"⟩ : MethodName)) hown (mvT hZ (hw _ (List.mem_of_getElem? (i := 98) rfl))) (mvT hZ (hw _ (List.mem_of_getElem? (i := 99) rfl))) (mvT hZ (hw _ (List.mem_of_getElem? (i := 19) rfl))) (mvT hZ (hw _ (List.mem_of_getElem? (i := 100) rfl))) (by decide) (backOf (W := 0) (rm_get l Z a0 hw [] t k (2 * cs.length) (StrChars.Road.wideBytes cs) iloop (cs.getD iloop 0) h97 n0 O97 OA OH OL J0_97 (StrChars.Road.wide_lo _ cs _ hi) (StrChars.Road.wide_hi _ cs _ hi) (by omega) (by omega) (hok.at hi)) hZ (hw _ (List.mem_of_getElem? (i := 100) rfl)) (hw _ (List.mem_of_getElem? (i := 19) rfl)) (by decide) (by decide)) (g := (mkF m 12 #[.val (.ref t), .val (.int ch), .val (.int (0 : Int32)), .val (.int (Int32.ofNat cs.length)), .val (.int (Int32.ofNat iloop))] [(.int (Int32.ofNat iloop)), (.ref t)])) rfl (by rw [hml]; rfl) (argsL := [(.ref t), (.int (Int32.ofNat iloop))]) (rest := []) (lenOf pd_6 rfl) rfl (by show 2 * 0 + _ ≤ _; exact Nat.le_of_eq rfl) (hb hby d_jdk_52_m48_12) (fun _ _ => ⟨rfl, e97, (by decide : 0 + 0 ≤ _), (by decide : 0 + 0 ≤ _)⟩)
      dsimp only [Pt.U, Pt.locs, Pt.cells, Pt.slots] at X98 l98 y98 z98 st98 hQ98
      subst l98 y98 z98
      refine own_go st98 ?_
      obtain ⟨rfl, Nq98, e98⟩ := hQ98
      have N98 := Fr.app N97 Nq98
      show own_Go p e below (T98.setTop (mkF m 15 #[.val (.ref t), .val (.int ch), .val (.int (0 : Int32)), .val (.int (Int32.ofNat cs.length)), .val (.int (Int32.ofNat iloop))] [(.int (cs.getD iloop 0))])) _
      refine own_go (fun _ k => XS.iloadN X98.here hx rfl (hb hby d_jdk_52_m48_15) rfl k) ?_
      show own_Go p e below (T98.setTop (mkF m 16 #[.val (.ref t), .val (.int ch), .val (.int (0 : Int32)), .val (.int (Int32.ofNat cs.length)), .val (.int (Int32.ofNat iloop))] [(.int ch), (.int (cs.getD iloop 0))])) _
      by_cases hc99 : (cs.getD iloop 0) = ch
      · skip
        refine own_go (fun _ k => XS.icmpNo X98.here hx rfl (hb hby d_jdk_52_m48_16) rfl (teq hc99).2 k) ?_
        show own_Go p e below (T98.setTop (mkF m 19 #[.val (.ref t), .val (.int ch), .val (.int (0 : Int32)), .val (.int (Int32.ofNat cs.length)), .val (.int (Int32.ofNat iloop))] [])) _
        refine own_go (fun _ k => XS.iload X98.here hx rfl (hb hby d_jdk_52_m48_19) rfl k) ?_
        show own_Go p e below (T98.setTop (mkF m 21 #[.val (.ref t), .val (.int ch), .val (.int (0 : Int32)), .val (.int (Int32.ofNat cs.length)), .val (.int (Int32.ofNat iloop))] [(.int (Int32.ofNat iloop))])) _
        refine own_fin (v := (some (.int (Int32.ofNat iloop)))) X98 (fun h => by rw [hrt] at h; cases h) hlk (fun fs hr => retI X98 hx hrt (hb hby d_jdk_52_m48_21) hr) (QQ := QIx cs ch h0 n0) ?_ (by decide) (by decide)
        rw [e98]
        exact ⟨_, rfl, N98, hhe, Or.inl ⟨own_nn0 (by omega), own_mem_of hi hc99⟩⟩
      · skip
        refine own_go (fun _ k => XS.icmpYes X98.here hx rfl (pc0 := 16) (pc' := 22) rfl (hb hby d_jdk_52_m48_16) rfl (feq hc99).2 (by decide) (by decide) k) ?_
        show own_Go p e below (T98.setTop (mkF m 22 #[.val (.ref t), .val (.int ch), .val (.int (0 : Int32)), .val (.int (Int32.ofNat cs.length)), .val (.int (Int32.ofNat iloop))] [])) _
        refine own_go (fun _ k => XS.iinc X98.here hx rfl (hb hby d_jdk_52_m48_22) rfl (l' := #[.val (.ref t), .val (.int ch), .val (.int (0 : Int32)), .val (.int (Int32.ofNat cs.length)), .val (.int ((Int32.ofNat iloop) + (1 : Int32)))]) rfl k) ?_
        show own_Go p e below (T98.setTop (mkF m 25 #[.val (.ref t), .val (.int ch), .val (.int (0 : Int32)), .val (.int (Int32.ofNat cs.length)), .val (.int ((Int32.ofNat iloop) + (1 : Int32)))] [])) _
        refine own_go (fun _ k => XS.goto X98.here hx rfl (pc0 := 25) (pc' := 3) rfl (hb hby d_jdk_52_m48_25) (by decide) (by decide) k) ?_
        show own_Go p e below (T98.setTop (mkF m 3 #[.val (.ref t), .val (.int ch), .val (.int (0 : Int32)), .val (.int (Int32.ofNat cs.length)), .val (.int ((Int32.ofNat iloop) + (1 : Int32)))] [])) _
        rw [own_inc]
        exact ih (iloop + 1) T98 _ h97 (by omega) X98 e98 N98 O97 K97 J0_97 (fun j hj => (Nat.lt_succ_iff_lt_or_eq.mp hj).elim (fun q => hall j q) (fun q => q ▸ hc99)) hhe
  exact loop (cs.length) 0 s₁ _ h0 (by omega) X0 e0 N0 O0 (Keep.refl h0 []) V_t (fun j hj => absurd hj (Nat.not_lt_zero _)) rfl

theorem d_jdk_52_m6_0 : decode jdk_52_method_6_code 0 = .ok (.aload_n 0, 1) := by decide +kernel
theorem d_jdk_52_m6_1 : decode jdk_52_method_6_code 1 = .ok (.arraylength, 1) := by decide +kernel
theorem d_jdk_52_m6_2 : decode jdk_52_method_6_code 2 = .ok (.iconst 1, 1) := by decide +kernel
theorem d_jdk_52_m6_3 : decode jdk_52_method_6_code 3 = .ok (.ishr, 1) := by decide +kernel
theorem d_jdk_52_m6_4 : decode jdk_52_method_6_code 4 = .ok (.ireturn, 1) := by decide +kernel
theorem ef_rm_wln (m : MethodId) (x0 : Addr) : entryFrame m #[(.ref x0)] 1 = mkF m 0 #[.val (.ref x0)] [] := by
   first | (simp [entryFrame, mkF, argsToLocals, Value.category]; done) | rfl
set_option maxRecDepth 65536 in
set_option maxHeartbeats 40000000 in
theorem rm_wln (l : Launch) (Z : State) (a0 : Array Value) (hw : ∀ d ∈ tables_1, d.before a0 Z = true) (ws : List Jvm.Cond) (t : Addr) (k : ClassId) (cs : List Int32) (h0 : Heap) (n0 : Nat) (O0 : Old Z n0 h0) (V_t : Arv Z h0 t k .byte (Int32.ofNat (2 * cs.length)) (StrChars.Road.wideBytes cs) (.int (0 : Int32))) (hok : own_Ok cs) :
    MetFree l (⟨"java/lang/StringUTF16", "length", "([B)I"⟩ : MethodName) (head1 (Jvm.Cond.code (⟨"java/lang/StringUTF16", "length", "([B)I"⟩ : MethodName) jdk_52_method_6_code 1 (some .int) :: ws) ({ frames := 0, cells := 0, slots := 0, locals := 0 } : Room)) (fun aA U => aA = #[(.ref t)] ∧ Z.Warmed39 U.vm ∧ U.heap = h0) (fun _ _ _ _ _ => True) (fun _ U oO U' => ∃ rV rL, oO = .returned rV ∧ QPure (some (.int (Int32.ofNat cs.length))) h0 n0 rV U'.heap rL ∧ FrameEnd U oO U' rL 0 0) := by
  refine MetFree.of_bodySF (plainFor_of_name pn_1) hisR ?_
  intro p e s m args below meth cC s₁ Bd hml0 hP hK
  obtain ⟨rfl, hZ, hh⟩ := hP
  have hx := Bd.exec
  have hby := Bd.bytes
  have hml : cC.maxLocals = 1 := hml0
  have hown : s.vm.findClass "java/lang/StringUTF16" = some m.cls := findClass_of_methodNamed Bd.named
  have hnm := (name_of_methodNamed Bd.named Bd.method).1
  have hrt := Bd.returns
  have hlk : meth.locks = false := Bd.notSynchronized
  have X0 : Stand p l e ({ frames := 0, cells := 0, slots := 0, locals := 0 } : Room) s m #[(.ref t)] below meth cC s₁ [] 0 0 := Stand.of_body Bd
  have e0 : s₁.heap = h0 := by rw [← hh, Bd.state]; rfl
  have N0 := Fr.nil n0
  have Z0 : n0 ≤ h0.size := O0.1 ▸ O0.2.1
  show own_Go p e below (s₁.setTop (entryFrame m #[(.ref t)] 1)) (fun oO U' => ∃ rV rL, oO = .returned rV ∧ QPure (some (.int (Int32.ofNat cs.length))) h0 n0 rV U'.heap rL ∧ FrameEnd s oO U' rL 0 0)
  refine own_go (fun _ k => castTop (ef_rm_wln m t) k) ?_
  have hlen : cs.length ≤ 4000 := hok.2
  show own_Go p e below (s₁.setTop (mkF m 0 #[.val (.ref t)] [])) _
  refine own_go (fun _ k => XS.aloadN X0.here hx rfl (hb hby d_jdk_52_m6_0) rfl rfl k) ?_
  show own_Go p e below (s₁.setTop (mkF m 1 #[.val (.ref t)] [(.ref t)])) _
  obtain ⟨c100, A100, q100, S100, M100, Hs100, Gs100⟩ := id V_t
  refine own_go (fun _ k => X0.arraylength hx (by rw [e0]; exact A100.1) (State.isArrayOf_alike hZ.alike A100.2.1) (g := (mkF m 1 #[.val (.ref t)] [(.ref t)])) rfl rfl (hb hby d_jdk_52_m6_1) _ k) ?_
  rw [len_of S100 M100]
  show own_Go p e below (s₁.setTop (mkF m 2 #[.val (.ref t)] [(.int (Int32.ofNat (2 * cs.length)))])) _
  refine own_go (fun _ k => XS.iconst X0.here hx rfl (hb hby d_jdk_52_m6_2) k) ?_
  show own_Go p e below (s₁.setTop (mkF m 3 #[.val (.ref t)] [(.int (1 : Int32)), (.int (Int32.ofNat (2 * cs.length)))])) _
  refine own_go (fun _ k => XS.ishr X0.here hx rfl (hb hby d_jdk_52_m6_3) rfl k) ?_
  show own_Go p e below (s₁.setTop (mkF m 4 #[.val (.ref t)] [(.int ((Int32.ofNat (2 * cs.length)) >>> ((1 : Int32) &&& 31)))])) _
  refine own_fin (v := (some (.int ((Int32.ofNat (2 * cs.length)) >>> ((1 : Int32) &&& 31))))) X0 (fun h => by rw [hrt] at h; cases h) hlk (fun fs hr => retI X0 hx hrt (hb hby d_jdk_52_m6_4) hr) (QQ := QPure (some (.int (Int32.ofNat cs.length))) h0 n0) ?_ (by decide) (by decide)
  rw [e0]
  exact ⟨congrArg (fun z => some (Value.int z)) (StrChars.shr1 (by omega : 2 * cs.length < 2 ^ 31)), N0, rfl⟩

theorem d_jdk_52_m93_0 : decode jdk_52_method_93_code 0 = .ok (.iload_n 0, 1) := by decide +kernel
theorem d_jdk_52_m93_1 : decode jdk_52_method_93_code 1 = .ok (.iload_n 1, 1) := by decide +kernel
theorem d_jdk_52_m93_2 : decode jdk_52_method_93_code 2 = .ok (.aload_n 2, 1) := by decide +kernel
theorem d_jdk_52_m93_3 : decode jdk_52_method_93_code 3 = .ok (.invokestatic 48, 3) := by decide +kernel
theorem pd_12 : parseMethodDescriptor "([B)I" = some ⟨[(.array .byte)], some .int⟩ := by decide +kernel
theorem d_jdk_52_m93_6 : decode jdk_52_method_93_code 6 = .ok (.invokestatic 241, 3) := by decide +kernel
theorem pd_13 : parseMethodDescriptor "(III)V" = some ⟨[.int, .int, .int], none⟩ := by decide +kernel
theorem d_jdk_52_m93_9 : decode jdk_52_method_93_code 9 = .ok (.return_, 1) := by decide +kernel
theorem ef_rm_wcb (m : MethodId) (x0 : Int32) (x1 : Int32) (x2 : Addr) : entryFrame m #[(.int x0), (.int x1), (.ref x2)] 3 = mkF m 0 #[.val (.int x0), .val (.int x1), .val (.ref x2)] [] := by
   first | (simp [entryFrame, mkF, argsToLocals, Value.category]; done) | rfl
set_option maxRecDepth 65536 in
set_option maxHeartbeats 40000000 in
theorem rm_wcb (l : Launch) (Z : State) (a0 : Array Value) (hw : ∀ d ∈ tables_1, d.before a0 Z = true) (ws : List Jvm.Cond) (t : Addr) (k : ClassId) (cs : List Int32) (G3 : Value) (h0 : Heap) (n0 : Nat) (O0 : Old Z n0 h0) (O4 : Sta Z Z.heap "jdk/internal/util/Preconditions" "SIOOBE_FORMATTER" "Ljava/util/function/BiFunction;" G3) (rG3 : G3.isRef = true) (V_t : Arv Z h0 t k .byte (Int32.ofNat (2 * cs.length)) (StrChars.Road.wideBytes cs) (.int (0 : Int32))) (hok : own_Ok cs) :
    MetFree l (⟨"java/lang/StringUTF16", "checkBoundsBeginEnd", "(II[B)V"⟩ : MethodName) (head1 (Jvm.Cond.code (⟨"java/lang/StringUTF16", "checkBoundsBeginEnd", "(II[B)V"⟩ : MethodName) jdk_52_method_93_code 3 none :: ws) ({ frames := 2, cells := 0, slots := 0, locals := 29 } : Room)) (fun aA U => aA = #[(.int (0 : Int32)), (.int (Int32.ofNat cs.length)), (.ref t)] ∧ Z.Warmed39 U.vm ∧ U.heap = h0) (fun _ _ _ _ _ => True) (fun _ U oO U' => ∃ rV rL, oO = .returned rV ∧ QPure (none) h0 n0 rV U'.heap rL ∧ FrameEnd U oO U' rL 0 0) := by
  refine MetFree.of_bodySF (plainFor_of_name pn_1) hisR ?_
  intro p e s m args below meth cC s₁ Bd hml0 hP hK
  obtain ⟨rfl, hZ, hh⟩ := hP
  have hx := Bd.exec
  have hby := Bd.bytes
  have hml : cC.maxLocals = 3 := hml0
  have hown : s.vm.findClass "java/lang/StringUTF16" = some m.cls := findClass_of_methodNamed Bd.named
  have hnm := (name_of_methodNamed Bd.named Bd.method).1
  have hrt := Bd.returns
  have hlk : meth.locks = false := Bd.notSynchronized
  have X0 : Stand p l e ({ frames := 2, cells := 0, slots := 0, locals := 29 } : Room) s m #[(.int (0 : Int32)), (.int (Int32.ofNat cs.length)), (.ref t)] below meth cC s₁ [] 0 0 := Stand.of_body Bd
  have e0 : s₁.heap = h0 := by rw [← hh, Bd.state]; rfl
  have N0 := Fr.nil n0
  have Z0 : n0 ≤ h0.size := O0.1 ▸ O0.2.1
  show own_Go p e below (s₁.setTop (entryFrame m #[(.int (0 : Int32)), (.int (Int32.ofNat cs.length)), (.ref t)] 3)) (fun oO U' => ∃ rV rL, oO = .returned rV ∧ QPure (none) h0 n0 rV U'.heap rL ∧ FrameEnd s oO U' rL 0 0)
  refine own_go (fun _ k => castTop (ef_rm_wcb m _ _ t) k) ?_
  have hlen : cs.length ≤ 4000 := hok.2
  show own_Go p e below (s₁.setTop (mkF m 0 #[.val (.int (0 : Int32)), .val (.int (Int32.ofNat cs.length)), .val (.ref t)] [])) _
  refine own_go (fun _ k => XS.iloadN X0.here hx rfl (hb hby d_jdk_52_m93_0) rfl k) ?_
  show own_Go p e below (s₁.setTop (mkF m 1 #[.val (.int (0 : Int32)), .val (.int (Int32.ofNat cs.length)), .val (.ref t)] [(.int (0 : Int32))])) _
  refine own_go (fun _ k => XS.iloadN X0.here hx rfl (hb hby d_jdk_52_m93_1) rfl k) ?_
  show own_Go p e below (s₁.setTop (mkF m 2 #[.val (.int (0 : Int32)), .val (.int (Int32.ofNat cs.length)), .val (.ref t)] [(.int (Int32.ofNat cs.length)), (.int (0 : Int32))])) _
  refine own_go (fun _ k => XS.aloadN X0.here hx rfl (hb hby d_jdk_52_m93_2) rfl rfl k) ?_
  show own_Go p e below (s₁.setTop (mkF m 3 #[.val (.int (0 : Int32)), .val (.int (Int32.ofNat cs.length)), .val (.ref t)] [(.ref t), (.int (Int32.ofNat cs.length)), (.int (0 : Int32))])) _
  obtain ⟨v101, _, ⟨T101, L101, k101, n101⟩, -, X101, ⟨Lc101, hQ101, l101, y101, z101⟩, st101⟩ := Jvm.LawKit.callS X0 hx (y := (⟨"java/lang/StringUTF16", "length", "([B)I"⟩ : MethodName)) hown (mvT hZ (hw _ (List.mem_of_getElem? (i := 113) rfl))) (mvT hZ (hw _ (List.mem_of_getElem? (i := 114) rfl))) (mvT hZ (hw _ (List.mem_of_getElem? (i := 19) rfl))) (mvT hZ (hw _ (List.mem_of_getElem? (i := 115) rfl))) (by decide) (backOf (W := 2) (rm_wln l Z a0 hw [] t k cs h0 n0 O0 V_t hok) hZ (hw _ (List.mem_of_getElem? (i := 115) rfl)) (hw _ (List.mem_of_getElem? (i := 19) rfl)) (by decide) (by decide)) (g := (mkF m 3 #[.val (.int (0 : Int32)), .val (.int (Int32.ofNat cs.length)), .val (.ref t)] [(.ref t), (.int (Int32.ofNat cs.length)), (.int (0 : Int32))])) rfl (by rw [hml]; rfl) (argsL := [(.ref t)]) (rest := [(.int (Int32.ofNat cs.length)), (.int (0 : Int32))]) (lenOf pd_12 rfl) rfl (by show 2 * 0 + _ ≤ _; exact Nat.le_of_eq rfl) (hb hby d_jdk_52_m93_3) (fun _ _ => ⟨rfl, e0, (by decide : 0 + 0 ≤ _), (by decide : 0 + 0 ≤ _)⟩)
  dsimp only [Pt.U, Pt.locs, Pt.cells, Pt.slots] at X101 l101 y101 z101 st101 hQ101
  subst l101 y101 z101
  refine own_go st101 ?_
  obtain ⟨rfl, Nq101, e101⟩ := hQ101
  have N101 := Fr.app N0 Nq101
  show own_Go p e below (T101.setTop (mkF m 6 #[.val (.int (0 : Int32)), .val (.int (Int32.ofNat cs.length)), .val (.ref t)] [(.int (Int32.ofNat cs.length)), (.int (Int32.ofNat cs.length)), (.int (0 : Int32))])) _
  obtain ⟨v102, _, ⟨T102, L102, k102, n102⟩, -, X102, ⟨Lc102, hQ102, l102, y102, z102⟩, st102⟩ := Jvm.LawKit.callS X101 hx (y := (⟨"java/lang/String", "checkBoundsBeginEnd", "(III)V"⟩ : MethodName)) hown (mvT hZ (hw _ (List.mem_of_getElem? (i := 116) rfl))) (mvT hZ (hw _ (List.mem_of_getElem? (i := 117) rfl))) (mvT hZ (hw _ (List.mem_of_getElem? (i := 5) rfl))) (mvT hZ (hw _ (List.mem_of_getElem? (i := 118) rfl))) (by decide) (backOf (W := 0) (rm_cbe l Z a0 hw [] (0 : Int32) (Int32.ofNat cs.length) (Int32.ofNat cs.length) G3 h0 n0 O0 O4 rG3 (by decide) (own_nn0 (by omega)) (own_irr _)) hZ (hw _ (List.mem_of_getElem? (i := 118) rfl)) (hw _ (List.mem_of_getElem? (i := 5) rfl)) (by decide) (by decide)) (g := (mkF m 6 #[.val (.int (0 : Int32)), .val (.int (Int32.ofNat cs.length)), .val (.ref t)] [(.int (Int32.ofNat cs.length)), (.int (Int32.ofNat cs.length)), (.int (0 : Int32))])) rfl (by rw [hml]; rfl) (argsL := [(.int (0 : Int32)), (.int (Int32.ofNat cs.length)), (.int (Int32.ofNat cs.length))]) (rest := []) (lenOf pd_13 rfl) rfl (by show 2 * 0 + _ ≤ _; exact Nat.le_of_eq rfl) (hb hby d_jdk_52_m93_6) (fun _ _ => ⟨rfl, e101, (by decide : 0 + 0 ≤ _), (by decide : 0 + 0 ≤ _)⟩)
  dsimp only [Pt.U, Pt.locs, Pt.cells, Pt.slots] at X102 l102 y102 z102 st102 hQ102
  subst l102 y102 z102
  refine own_go st102 ?_
  obtain ⟨rfl, Nq102, e102⟩ := hQ102
  have N102 := Fr.app N101 Nq102
  show own_Go p e below (T102.setTop (mkF m 9 #[.val (.int (0 : Int32)), .val (.int (Int32.ofNat cs.length)), .val (.ref t)] [])) _
  refine own_fin (v := none) X102 (fun _ => rfl) hlk (fun fs hr => X102.returnOut hx hrt (hb hby d_jdk_52_m93_9) hr) (QQ := QPure (none) h0 n0) ?_ (by decide) (by decide)
  rw [e102]
  exact ⟨rfl, N102, rfl⟩

theorem d_jdk_52_m47_0 : decode jdk_52_method_47_code 0 = .ok (.iload_n 2, 1) := by decide +kernel
theorem d_jdk_52_m47_1 : decode jdk_52_method_47_code 1 = .ok (.iload_n 3, 1) := by decide +kernel
theorem d_jdk_52_m47_2 : decode jdk_52_method_47_code 2 = .ok (.aload_n 0, 1) := by decide +kernel
theorem d_jdk_52_m47_3 : decode jdk_52_method_47_code 3 = .ok (.invokestatic 96, 3) := by decide +kernel
theorem pd_14 : parseMethodDescriptor "(II[B)V" = some ⟨[.int, .int, (.array .byte)], none⟩ := by decide +kernel
theorem d_jdk_52_m47_6 : decode jdk_52_method_47_code 6 = .ok (.aload_n 0, 1) := by decide +kernel
theorem d_jdk_52_m47_7 : decode jdk_52_method_47_code 7 = .ok (.iload_n 1, 1) := by decide +kernel
theorem d_jdk_52_m47_8 : decode jdk_52_method_47_code 8 = .ok (.iload_n 2, 1) := by decide +kernel
theorem d_jdk_52_m47_9 : decode jdk_52_method_47_code 9 = .ok (.iload_n 3, 1) := by decide +kernel
theorem d_jdk_52_m47_10 : decode jdk_52_method_47_code 10 = .ok (.invokestatic 244, 3) := by decide +kernel
theorem d_jdk_52_m47_13 : decode jdk_52_method_47_code 13 = .ok (.ireturn, 1) := by decide +kernel
theorem ef_rm_wic (m : MethodId) (x0 : Addr) (x1 : Int32) (x2 : Int32) (x3 : Int32) : entryFrame m #[(.ref x0), (.int x1), (.int x2), (.int x3)] 4 = mkF m 0 #[.val (.ref x0), .val (.int x1), .val (.int x2), .val (.int x3)] [] := by
   first | (simp [entryFrame, mkF, argsToLocals, Value.category]; done) | rfl
set_option maxRecDepth 65536 in
set_option maxHeartbeats 40000000 in
theorem rm_wic (l : Launch) (Z : State) (a0 : Array Value) (hw : ∀ d ∈ tables_1, d.before a0 Z = true) (ws : List Jvm.Cond) (t : Addr) (k : ClassId) (cs : List Int32) (ch : Int32) (G3 : Value) (h0 : Heap) (n0 : Nat) (O0 : Old Z n0 h0) (O4 : Sta Z Z.heap "jdk/internal/util/Preconditions" "SIOOBE_FORMATTER" "Ljava/util/function/BiFunction;" G3) (rG3 : G3.isRef = true) (OA : Sta Z Z.heap "java/lang/StringUTF16" "$assertionsDisabled" "Z" (.int (1 : Int32))) (OH : Sta Z Z.heap "java/lang/StringUTF16" "HI_BYTE_SHIFT" "I" (.int (0 : Int32))) (OL : Sta Z Z.heap "java/lang/StringUTF16" "LO_BYTE_SHIFT" "I" (.int (8 : Int32))) (V_t : Arv Z h0 t k .byte (Int32.ofNat (2 * cs.length)) (StrChars.Road.wideBytes cs) (.int (0 : Int32))) (hok : own_Ok cs) (hpos : 0 < cs.length) (hc0 : ¬ ch < 0) (hc1 : ¬ (255 : Int32) < ch) :
    MetFree l (⟨"java/lang/StringUTF16", "indexOfChar", "([BIII)I"⟩ : MethodName) (head1 (Jvm.Cond.code (⟨"java/lang/StringUTF16", "indexOfChar", "([BIII)I"⟩ : MethodName) jdk_52_method_47_code 4 (some .int) :: ws) ({ frames := 3, cells := 0, slots := 0, locals := 43 } : Room)) (fun aA U => aA = #[(.ref t), (.int ch), (.int (0 : Int32)), (.int (Int32.ofNat cs.length))] ∧ Z.Warmed39 U.vm ∧ U.heap = h0) (fun _ _ _ _ _ => True) (fun _ U oO U' => ∃ rV rL, oO = .returned rV ∧ QIx cs ch h0 n0 rV U'.heap rL ∧ FrameEnd U oO U' rL 0 0) := by
  refine MetFree.of_bodySF (plainFor_of_name pn_1) hisR ?_
  intro p e s m args below meth cC s₁ Bd hml0 hP hK
  obtain ⟨rfl, hZ, hh⟩ := hP
  have hx := Bd.exec
  have hby := Bd.bytes
  have hml : cC.maxLocals = 4 := hml0
  have hown : s.vm.findClass "java/lang/StringUTF16" = some m.cls := findClass_of_methodNamed Bd.named
  have hnm := (name_of_methodNamed Bd.named Bd.method).1
  have hrt := Bd.returns
  have hlk : meth.locks = false := Bd.notSynchronized
  have X0 : Stand p l e ({ frames := 3, cells := 0, slots := 0, locals := 43 } : Room) s m #[(.ref t), (.int ch), (.int (0 : Int32)), (.int (Int32.ofNat cs.length))] below meth cC s₁ [] 0 0 := Stand.of_body Bd
  have e0 : s₁.heap = h0 := by rw [← hh, Bd.state]; rfl
  have N0 := Fr.nil n0
  have Z0 : n0 ≤ h0.size := O0.1 ▸ O0.2.1
  show own_Go p e below (s₁.setTop (entryFrame m #[(.ref t), (.int ch), (.int (0 : Int32)), (.int (Int32.ofNat cs.length))] 4)) (fun oO U' => ∃ rV rL, oO = .returned rV ∧ QIx cs ch h0 n0 rV U'.heap rL ∧ FrameEnd s oO U' rL 0 0)
  refine own_go (fun _ k => castTop (ef_rm_wic m t ch _ _) k) ?_
  have hlen : cs.length ≤ 4000 := hok.2
  show own_Go p e below (s₁.setTop (mkF m 0 #[.val (.ref t), .val (.int ch), .val (.int (0 : Int32)), .val (.int (Int32.ofNat cs.length))] [])) _
  refine own_go (fun _ k => XS.iloadN X0.here hx rfl (hb hby d_jdk_52_m47_0) rfl k) ?_
  show own_Go p e below (s₁.setTop (mkF m 1 #[.val (.ref t), .val (.int ch), .val (.int (0 : Int32)), .val (.int (Int32.ofNat cs.length))] [(.int (0 : Int32))])) _
  refine own_go (fun _ k => XS.iloadN X0.here hx rfl (hb hby d_jdk_52_m47_1) rfl k) ?_
  show own_Go p e below (s₁.setTop (mkF m 2 #[.val (.ref t), .val (.int ch), .val (.int (0 : Int32)), .val (.int (Int32.ofNat cs.length))] [(.int (Int32.ofNat cs.length)), (.int (0 : Int32))])) _
  refine own_go (fun _ k => XS.aloadN X0.here hx rfl (hb hby d_jdk_52_m47_2) rfl rfl k) ?_
  show own_Go p e below (s₁.setTop (mkF m 3 #[.val (.ref t), .val (.int ch), .val (.int (0 : Int32)), .val (.int (Int32.ofNat cs.length))] [(.ref t), (.int (Int32.ofNat cs.length)), (.int (0 : Int32))])) _
  obtain ⟨v103, _, ⟨T103, L103, k103, n103⟩, -, X103, ⟨Lc103, hQ103, l103, y103, z103⟩, st103⟩ := Jvm.LawKit.callS X0 hx (y := (⟨"java/lang/StringUTF16", "checkBoundsBeginEnd", "(II[B)V"⟩ : MethodName)) hown (mvT hZ (hw _ (List.mem_of_getElem? (i := 110) rfl))) (mvT hZ (hw _ (List.mem_of_getElem? (i := 111) rfl))) (mvT hZ (hw _ (List.mem_of_getElem? (i := 19) rfl))) (mvT hZ (hw _ (List.mem_of_getElem? (i := 112) rfl))) (by decide) (backOf (W := 0) (rm_wcb l Z a0 hw [] t k cs G3 h0 n0 O0 O4 rG3 V_t hok) hZ (hw _ (List.mem_of_getElem? (i := 112) rfl)) (hw _ (List.mem_of_getElem? (i := 19) rfl)) (by decide) (by decide)) (g := (mkF m 3 #[.val (.ref t), .val (.int ch), .val (.int (0 : Int32)), .val (.int (Int32.ofNat cs.length))] [(.ref t), (.int (Int32.ofNat cs.length)), (.int (0 : Int32))])) rfl (by rw [hml]; rfl) (argsL := [(.int (0 : Int32)), (.int (Int32.ofNat cs.length)), (.ref t)]) (rest := []) (lenOf pd_14 rfl) rfl (by show 2 * 0 + _ ≤ _; exact Nat.le_of_eq rfl) (hb hby d_jdk_52_m47_3) (fun _ _ => ⟨rfl, e0, (by decide : 0 + 0 ≤ _), (by decide : 0 + 0 ≤ _)⟩)
  dsimp only [Pt.U, Pt.locs, Pt.cells, Pt.slots] at X103 l103 y103 z103 st103 hQ103
  subst l103 y103 z103
  refine own_go st103 ?_
  obtain ⟨rfl, Nq103, e103⟩ := hQ103
  have N103 := Fr.app N0 Nq103
  show own_Go p e below (T103.setTop (mkF m 6 #[.val (.ref t), .val (.int ch), .val (.int (0 : Int32)), .val (.int (Int32.ofNat cs.length))] [])) _
  refine own_go (fun _ k => XS.aloadN X103.here hx rfl (hb hby d_jdk_52_m47_6) rfl rfl k) ?_
  show own_Go p e below (T103.setTop (mkF m 7 #[.val (.ref t), .val (.int ch), .val (.int (0 : Int32)), .val (.int (Int32.ofNat cs.length))] [(.ref t)])) _
  refine own_go (fun _ k => XS.iloadN X103.here hx rfl (hb hby d_jdk_52_m47_7) rfl k) ?_
  show own_Go p e below (T103.setTop (mkF m 8 #[.val (.ref t), .val (.int ch), .val (.int (0 : Int32)), .val (.int (Int32.ofNat cs.length))] [(.int ch), (.ref t)])) _
  refine own_go (fun _ k => XS.iloadN X103.here hx rfl (hb hby d_jdk_52_m47_8) rfl k) ?_
  show own_Go p e below (T103.setTop (mkF m 9 #[.val (.ref t), .val (.int ch), .val (.int (0 : Int32)), .val (.int (Int32.ofNat cs.length))] [(.int (0 : Int32)), (.int ch), (.ref t)])) _
  refine own_go (fun _ k => XS.iloadN X103.here hx rfl (hb hby d_jdk_52_m47_9) rfl k) ?_
  show own_Go p e below (T103.setTop (mkF m 10 #[.val (.ref t), .val (.int ch), .val (.int (0 : Int32)), .val (.int (Int32.ofNat cs.length))] [(.int (Int32.ofNat cs.length)), (.int (0 : Int32)), (.int ch), (.ref t)])) _
  obtain ⟨v104, _, ⟨T104, L104, k104, n104⟩, -, X104, ⟨Lc104, hQ104, l104, y104, z104⟩, st104⟩ := Jvm.LawKit.callS X103 hx (y := (⟨"java/lang/StringUTF16", "indexOfCharUnsafe", "([BIII)I"⟩ : MethodName)) hown (mvT hZ (hw _ (List.mem_of_getElem? (i := 124) rfl))) (mvT hZ (hw _ (List.mem_of_getElem? (i := 125) rfl))) (mvT hZ (hw _ (List.mem_of_getElem? (i := 19) rfl))) (mvT hZ (hw _ (List.mem_of_getElem? (i := 126) rfl))) (by decide) (backOf (W := 0) (rm_wiu l Z a0 hw [] t k cs ch h0 n0 O0 OA OH OL V_t hok hpos hc0 hc1) hZ (hw _ (List.mem_of_getElem? (i := 126) rfl)) (hw _ (List.mem_of_getElem? (i := 19) rfl)) (by decide) (by decide)) (g := (mkF m 10 #[.val (.ref t), .val (.int ch), .val (.int (0 : Int32)), .val (.int (Int32.ofNat cs.length))] [(.int (Int32.ofNat cs.length)), (.int (0 : Int32)), (.int ch), (.ref t)])) rfl (by rw [hml]; rfl) (argsL := [(.ref t), (.int ch), (.int (0 : Int32)), (.int (Int32.ofNat cs.length))]) (rest := []) (lenOf pd_11 rfl) rfl (by show 2 * 0 + _ ≤ _; exact Nat.le_of_eq rfl) (hb hby d_jdk_52_m47_10) (fun _ _ => ⟨rfl, e103, (by decide : 0 + 0 ≤ _), (by decide : 0 + 0 ≤ _)⟩)
  dsimp only [Pt.U, Pt.locs, Pt.cells, Pt.slots] at X104 l104 y104 z104 st104 hQ104
  subst l104 y104 z104
  refine own_go st104 ?_
  obtain ⟨r104, rfl, Nq104, e104, hr104⟩ := hQ104
  have N104 := Fr.app N103 Nq104
  show own_Go p e below (T104.setTop (mkF m 13 #[.val (.ref t), .val (.int ch), .val (.int (0 : Int32)), .val (.int (Int32.ofNat cs.length))] [(.int r104)])) _
  refine own_fin (v := (some (.int r104))) X104 (fun h => by rw [hrt] at h; cases h) hlk (fun fs hr => retI X104 hx hrt (hb hby d_jdk_52_m47_13) hr) (QQ := QIx cs ch h0 n0) ?_ (by decide) (by decide)
  rw [e104]
  exact ⟨_, rfl, N104, rfl, hr104⟩

theorem d_jdk_52_m40_0 : decode jdk_52_method_40_code 0 = .ok (.iload_n 2, 1) := by decide +kernel
theorem d_jdk_52_m40_1 : decode jdk_52_method_40_code 1 = .ok (.iconst 0, 1) := by decide +kernel
theorem d_jdk_52_m40_2 : decode jdk_52_method_40_code 2 = .ok (.invokestatic 224, 3) := by decide +kernel
theorem d_jdk_52_m40_5 : decode jdk_52_method_40_code 5 = .ok (.istore_n 2, 1) := by decide +kernel
theorem d_jdk_52_m40_6 : decode jdk_52_method_40_code 6 = .ok (.iload_n 3, 1) := by decide +kernel
theorem d_jdk_52_m40_7 : decode jdk_52_method_40_code 7 = .ok (.aload_n 0, 1) := by decide +kernel
theorem d_jdk_52_m40_8 : decode jdk_52_method_40_code 8 = .ok (.arraylength, 1) := by decide +kernel
theorem d_jdk_52_m40_9 : decode jdk_52_method_40_code 9 = .ok (.iconst 1, 1) := by decide +kernel
theorem d_jdk_52_m40_10 : decode jdk_52_method_40_code 10 = .ok (.ishr, 1) := by decide +kernel
theorem d_jdk_52_m40_11 : decode jdk_52_method_40_code 11 = .ok (.invokestatic 183, 3) := by decide +kernel
theorem d_jdk_52_m40_14 : decode jdk_52_method_40_code 14 = .ok (.istore_n 3, 1) := by decide +kernel
theorem d_jdk_52_m40_15 : decode jdk_52_method_40_code 15 = .ok (.iload_n 2, 1) := by decide +kernel
theorem d_jdk_52_m40_16 : decode jdk_52_method_40_code 16 = .ok (.iload_n 3, 1) := by decide +kernel
theorem d_jdk_52_m40_17 : decode jdk_52_method_40_code 17 = .ok (.if_icmp .lt 5, 3) := by decide +kernel
theorem d_jdk_52_m40_22 : decode jdk_52_method_40_code 22 = .ok (.iload_n 1, 1) := by decide +kernel
theorem d_jdk_52_m40_23 : decode jdk_52_method_40_code 23 = .ok (.ldc 227, 2) := by decide +kernel
theorem d_jdk_52_m40_25 : decode jdk_52_method_40_code 25 = .ok (.if_icmp .ge 11, 3) := by decide +kernel
theorem d_jdk_52_m40_28 : decode jdk_52_method_40_code 28 = .ok (.aload_n 0, 1) := by decide +kernel
theorem d_jdk_52_m40_29 : decode jdk_52_method_40_code 29 = .ok (.iload_n 1, 1) := by decide +kernel
theorem d_jdk_52_m40_30 : decode jdk_52_method_40_code 30 = .ok (.iload_n 2, 1) := by decide +kernel
theorem d_jdk_52_m40_31 : decode jdk_52_method_40_code 31 = .ok (.iload_n 3, 1) := by decide +kernel
theorem d_jdk_52_m40_32 : decode jdk_52_method_40_code 32 = .ok (.invokestatic 228, 3) := by decide +kernel
theorem d_jdk_52_m40_35 : decode jdk_52_method_40_code 35 = .ok (.ireturn, 1) := by decide +kernel
theorem ef_rm_wix (m : MethodId) (x0 : Addr) (x1 : Int32) (x2 : Int32) (x3 : Int32) : entryFrame m #[(.ref x0), (.int x1), (.int x2), (.int x3)] 4 = mkF m 0 #[.val (.ref x0), .val (.int x1), .val (.int x2), .val (.int x3)] [] := by
   first | (simp [entryFrame, mkF, argsToLocals, Value.category]; done) | rfl
set_option maxRecDepth 65536 in
set_option maxHeartbeats 40000000 in
theorem rm_wix (l : Launch) (Z : State) (a0 : Array Value) (hw : ∀ d ∈ tables_1, d.before a0 Z = true) (ws : List Jvm.Cond) (t : Addr) (k : ClassId) (cs : List Int32) (ch : Int32) (G3 : Value) (h0 : Heap) (n0 : Nat) (O0 : Old Z n0 h0) (O4 : Sta Z Z.heap "jdk/internal/util/Preconditions" "SIOOBE_FORMATTER" "Ljava/util/function/BiFunction;" G3) (rG3 : G3.isRef = true) (OA : Sta Z Z.heap "java/lang/StringUTF16" "$assertionsDisabled" "Z" (.int (1 : Int32))) (OH : Sta Z Z.heap "java/lang/StringUTF16" "HI_BYTE_SHIFT" "I" (.int (0 : Int32))) (OL : Sta Z Z.heap "java/lang/StringUTF16" "LO_BYTE_SHIFT" "I" (.int (8 : Int32))) (V_t : Arv Z h0 t k .byte (Int32.ofNat (2 * cs.length)) (StrChars.Road.wideBytes cs) (.int (0 : Int32))) (hok : own_Ok cs) (hpos : 0 < cs.length) (hc0 : ¬ ch < 0) (hc1 : ¬ (255 : Int32) < ch) :
    MetFree l (⟨"java/lang/StringUTF16", "indexOf", "([BIII)I"⟩ : MethodName) (head1 (Jvm.Cond.code (⟨"java/lang/StringUTF16", "indexOf", "([BIII)I"⟩ : MethodName) jdk_52_method_40_code 4 (some .int) :: ws) ({ frames := 4, cells := 0, slots := 0, locals := 58 } : Room)) (fun aA U => aA = #[(.ref t), (.int ch), (.int (0 : Int32)), (.int (Int32.ofNat cs.length))] ∧ Z.Warmed39 U.vm ∧ U.heap = h0) (fun _ _ _ _ _ => True) (fun _ U oO U' => ∃ rV rL, oO = .returned rV ∧ QIx cs ch h0 n0 rV U'.heap rL ∧ FrameEnd U oO U' rL 0 0) := by
  refine MetFree.of_bodySF (plainFor_of_name pn_1) hisR ?_
  intro p e s m args below meth cC s₁ Bd hml0 hP hK
  obtain ⟨rfl, hZ, hh⟩ := hP
  have hx := Bd.exec
  have hby := Bd.bytes
  have hml : cC.maxLocals = 4 := hml0
  have hown : s.vm.findClass "java/lang/StringUTF16" = some m.cls := findClass_of_methodNamed Bd.named
  have hnm := (name_of_methodNamed Bd.named Bd.method).1
  have hrt := Bd.returns
  have hlk : meth.locks = false := Bd.notSynchronized
  have X0 : Stand p l e ({ frames := 4, cells := 0, slots := 0, locals := 58 } : Room) s m #[(.ref t), (.int ch), (.int (0 : Int32)), (.int (Int32.ofNat cs.length))] below meth cC s₁ [] 0 0 := Stand.of_body Bd
  have e0 : s₁.heap = h0 := by rw [← hh, Bd.state]; rfl
  have N0 := Fr.nil n0
  have Z0 : n0 ≤ h0.size := O0.1 ▸ O0.2.1
  show own_Go p e below (s₁.setTop (entryFrame m #[(.ref t), (.int ch), (.int (0 : Int32)), (.int (Int32.ofNat cs.length))] 4)) (fun oO U' => ∃ rV rL, oO = .returned rV ∧ QIx cs ch h0 n0 rV U'.heap rL ∧ FrameEnd s oO U' rL 0 0)
  refine own_go (fun _ k => castTop (ef_rm_wix m t ch _ _) k) ?_
  have hlen : cs.length ≤ 4000 := hok.2
  show own_Go p e below (s₁.setTop (mkF m 0 #[.val (.ref t), .val (.int ch), .val (.int (0 : Int32)), .val (.int (Int32.ofNat cs.length))] [])) _
  refine own_go (fun _ k => XS.iloadN X0.here hx rfl (hb hby d_jdk_52_m40_0) rfl k) ?_
  show own_Go p e below (s₁.setTop (mkF m 1 #[.val (.ref t), .val (.int ch), .val (.int (0 : Int32)), .val (.int (Int32.ofNat cs.length))] [(.int (0 : Int32))])) _
  refine own_go (fun _ k => XS.iconst X0.here hx rfl (hb hby d_jdk_52_m40_1) k) ?_
  show own_Go p e below (s₁.setTop (mkF m 2 #[.val (.ref t), .val (.int ch), .val (.int (0 : Int32)), .val (.int (Int32.ofNat cs.length))] [(.int (0 : Int32)), (.int (0 : Int32))])) _
  obtain ⟨v105, _, ⟨T105, L105, k105, n105⟩, -, X105, ⟨Lc105, hQ105, l105, y105, z105⟩, st105⟩ := Jvm.LawKit.callS X0 hx (y := (⟨"java/lang/Math", "max", "(II)I"⟩ : MethodName)) hown (mvT hZ (hw _ (List.mem_of_getElem? (i := 104) rfl))) (mvT hZ (hw _ (List.mem_of_getElem? (i := 73) rfl))) (mvT hZ (hw _ (List.mem_of_getElem? (i := 74) rfl))) (mvT hZ (hw _ (List.mem_of_getElem? (i := 75) rfl))) (by decide) (backOf (W := 0) (rm_max l Z a0 hw [] (0 : Int32) (0 : Int32) (0 : Int32) h0 n0 O0 (by decide)) hZ (hw _ (List.mem_of_getElem? (i := 75) rfl)) (hw _ (List.mem_of_getElem? (i := 74) rfl)) (by decide) (by decide)) (g := (mkF m 2 #[.val (.ref t), .val (.int ch), .val (.int (0 : Int32)), .val (.int (Int32.ofNat cs.length))] [(.int (0 : Int32)), (.int (0 : Int32))])) rfl (by rw [hml]; rfl) (argsL := [(.int (0 : Int32)), (.int (0 : Int32))]) (rest := []) (lenOf pd_10 rfl) rfl (by show 2 * 0 + _ ≤ _; exact Nat.le_of_eq rfl) (hb hby d_jdk_52_m40_2) (fun _ _ => ⟨rfl, e0, (by decide : 0 + 0 ≤ _), (by decide : 0 + 0 ≤ _)⟩)
  dsimp only [Pt.U, Pt.locs, Pt.cells, Pt.slots] at X105 l105 y105 z105 st105 hQ105
  subst l105 y105 z105
  refine own_go st105 ?_
  obtain ⟨rfl, Nq105, e105⟩ := hQ105
  have N105 := Fr.app N0 Nq105
  show own_Go p e below (T105.setTop (mkF m 5 #[.val (.ref t), .val (.int ch), .val (.int (0 : Int32)), .val (.int (Int32.ofNat cs.length))] [(.int (0 : Int32))])) _
  refine own_go (fun _ k => XS.istoreN X105.here hx rfl (hb hby d_jdk_52_m40_5) rfl (l' := #[.val (.ref t), .val (.int ch), .val (.int (0 : Int32)), .val (.int (Int32.ofNat cs.length))]) rfl k) ?_
  show own_Go p e below (T105.setTop (mkF m 6 #[.val (.ref t), .val (.int ch), .val (.int (0 : Int32)), .val (.int (Int32.ofNat cs.length))] [])) _
  refine own_go (fun _ k => XS.iloadN X105.here hx rfl (hb hby d_jdk_52_m40_6) rfl k) ?_
  show own_Go p e below (T105.setTop (mkF m 7 #[.val (.ref t), .val (.int ch), .val (.int (0 : Int32)), .val (.int (Int32.ofNat cs.length))] [(.int (Int32.ofNat cs.length))])) _
  refine own_go (fun _ k => XS.aloadN X105.here hx rfl (hb hby d_jdk_52_m40_7) rfl rfl k) ?_
  show own_Go p e below (T105.setTop (mkF m 8 #[.val (.ref t), .val (.int ch), .val (.int (0 : Int32)), .val (.int (Int32.ofNat cs.length))] [(.ref t), (.int (Int32.ofNat cs.length))])) _
  obtain ⟨c106, A106, q106, S106, M106, Hs106, Gs106⟩ := id V_t
  refine own_go (fun _ k => X105.arraylength hx (by rw [e105]; exact A106.1) (State.isArrayOf_alike hZ.alike A106.2.1) (g := (mkF m 8 #[.val (.ref t), .val (.int ch), .val (.int (0 : Int32)), .val (.int (Int32.ofNat cs.length))] [(.ref t), (.int (Int32.ofNat cs.length))])) rfl rfl (hb hby d_jdk_52_m40_8) _ k) ?_
  rw [len_of S106 M106]
  show own_Go p e below (T105.setTop (mkF m 9 #[.val (.ref t), .val (.int ch), .val (.int (0 : Int32)), .val (.int (Int32.ofNat cs.length))] [(.int (Int32.ofNat (2 * cs.length))), (.int (Int32.ofNat cs.length))])) _
  refine own_go (fun _ k => XS.iconst X105.here hx rfl (hb hby d_jdk_52_m40_9) k) ?_
  show own_Go p e below (T105.setTop (mkF m 10 #[.val (.ref t), .val (.int ch), .val (.int (0 : Int32)), .val (.int (Int32.ofNat cs.length))] [(.int (1 : Int32)), (.int (Int32.ofNat (2 * cs.length))), (.int (Int32.ofNat cs.length))])) _
  refine own_go (fun _ k => XS.ishr X105.here hx rfl (hb hby d_jdk_52_m40_10) rfl k) ?_
  show own_Go p e below (T105.setTop (mkF m 11 #[.val (.ref t), .val (.int ch), .val (.int (0 : Int32)), .val (.int (Int32.ofNat cs.length))] [(.int ((Int32.ofNat (2 * cs.length)) >>> ((1 : Int32) &&& 31))), (.int (Int32.ofNat cs.length))])) _
  rw [(StrChars.shr1 (by omega : 2 * cs.length < 2 ^ 31))]
  show own_Go p e below (T105.setTop (mkF m 11 #[.val (.ref t), .val (.int ch), .val (.int (0 : Int32)), .val (.int (Int32.ofNat cs.length))] [(.int (Int32.ofNat cs.length)), (.int (Int32.ofNat cs.length))])) _
  obtain ⟨v107, _, ⟨T107, L107, k107, n107⟩, -, X107, ⟨Lc107, hQ107, l107, y107, z107⟩, st107⟩ := Jvm.LawKit.callS X105 hx (y := (⟨"java/lang/Math", "min", "(II)I"⟩ : MethodName)) hown (mvT hZ (hw _ (List.mem_of_getElem? (i := 105) rfl))) (mvT hZ (hw _ (List.mem_of_getElem? (i := 77) rfl))) (mvT hZ (hw _ (List.mem_of_getElem? (i := 74) rfl))) (mvT hZ (hw _ (List.mem_of_getElem? (i := 78) rfl))) (by decide) (backOf (W := 0) (rm_min l Z a0 hw [] (Int32.ofNat cs.length) (Int32.ofNat cs.length) (Int32.ofNat cs.length) h0 n0 O0 (own_minself _)) hZ (hw _ (List.mem_of_getElem? (i := 78) rfl)) (hw _ (List.mem_of_getElem? (i := 74) rfl)) (by decide) (by decide)) (g := (mkF m 11 #[.val (.ref t), .val (.int ch), .val (.int (0 : Int32)), .val (.int (Int32.ofNat cs.length))] [(.int (Int32.ofNat cs.length)), (.int (Int32.ofNat cs.length))])) rfl (by rw [hml]; rfl) (argsL := [(.int (Int32.ofNat cs.length)), (.int (Int32.ofNat cs.length))]) (rest := []) (lenOf pd_10 rfl) rfl (by show 2 * 0 + _ ≤ _; exact Nat.le_of_eq rfl) (hb hby d_jdk_52_m40_11) (fun _ _ => ⟨rfl, e105, (by decide : 0 + 0 ≤ _), (by decide : 0 + 0 ≤ _)⟩)
  dsimp only [Pt.U, Pt.locs, Pt.cells, Pt.slots] at X107 l107 y107 z107 st107 hQ107
  subst l107 y107 z107
  refine own_go st107 ?_
  obtain ⟨rfl, Nq107, e107⟩ := hQ107
  have N107 := Fr.app N105 Nq107
  show own_Go p e below (T107.setTop (mkF m 14 #[.val (.ref t), .val (.int ch), .val (.int (0 : Int32)), .val (.int (Int32.ofNat cs.length))] [(.int (Int32.ofNat cs.length))])) _
  refine own_go (fun _ k => XS.istoreN X107.here hx rfl (hb hby d_jdk_52_m40_14) rfl (l' := #[.val (.ref t), .val (.int ch), .val (.int (0 : Int32)), .val (.int (Int32.ofNat cs.length))]) rfl k) ?_
  show own_Go p e below (T107.setTop (mkF m 15 #[.val (.ref t), .val (.int ch), .val (.int (0 : Int32)), .val (.int (Int32.ofNat cs.length))] [])) _
  refine own_go (fun _ k => XS.iloadN X107.here hx rfl (hb hby d_jdk_52_m40_15) rfl k) ?_
  show own_Go p e below (T107.setTop (mkF m 16 #[.val (.ref t), .val (.int ch), .val (.int (0 : Int32)), .val (.int (Int32.ofNat cs.length))] [(.int (0 : Int32))])) _
  refine own_go (fun _ k => XS.iloadN X107.here hx rfl (hb hby d_jdk_52_m40_16) rfl k) ?_
  show own_Go p e below (T107.setTop (mkF m 17 #[.val (.ref t), .val (.int ch), .val (.int (0 : Int32)), .val (.int (Int32.ofNat cs.length))] [(.int (Int32.ofNat cs.length)), (.int (0 : Int32))])) _
  refine own_go (fun _ k => XS.icmpYes X107.here hx rfl (pc0 := 17) (pc' := 22) rfl (hb hby d_jdk_52_m40_17) rfl (tlt ((own_lti (i := 0) (by omega) (by omega)).mpr hpos)).1 (by decide) (by decide) k) ?_
  show own_Go p e below (T107.setTop (mkF m 22 #[.val (.ref t), .val (.int ch), .val (.int (0 : Int32)), .val (.int (Int32.ofNat cs.length))] [])) _
  refine own_go (fun _ k => XS.iloadN X107.here hx rfl (hb hby d_jdk_52_m40_22) rfl k) ?_
  show own_Go p e below (T107.setTop (mkF m 23 #[.val (.ref t), .val (.int ch), .val (.int (0 : Int32)), .val (.int (Int32.ofNat cs.length))] [(.int ch)])) _
  refine own_go (fun _ k => X107.ldcInt hx hown (mvT hZ (hw _ (List.mem_of_getElem? (i := 106) rfl))) (g := (mkF m 23 #[.val (.ref t), .val (.int ch), .val (.int (0 : Int32)), .val (.int (Int32.ofNat cs.length))] [(.int ch)])) rfl (hb hby d_jdk_52_m40_23) _ k) ?_
  show own_Go p e below (T107.setTop (mkF m 25 #[.val (.ref t), .val (.int ch), .val (.int (0 : Int32)), .val (.int (Int32.ofNat cs.length))] [(.int (65536 : Int32)), (.int ch)])) _
  refine own_go (fun _ k => XS.icmpNo X107.here hx rfl (hb hby d_jdk_52_m40_25) rfl (tlt (own_lt65 hc1)).2.1 k) ?_
  show own_Go p e below (T107.setTop (mkF m 28 #[.val (.ref t), .val (.int ch), .val (.int (0 : Int32)), .val (.int (Int32.ofNat cs.length))] [])) _
  refine own_go (fun _ k => XS.aloadN X107.here hx rfl (hb hby d_jdk_52_m40_28) rfl rfl k) ?_
  show own_Go p e below (T107.setTop (mkF m 29 #[.val (.ref t), .val (.int ch), .val (.int (0 : Int32)), .val (.int (Int32.ofNat cs.length))] [(.ref t)])) _
  refine own_go (fun _ k => XS.iloadN X107.here hx rfl (hb hby d_jdk_52_m40_29) rfl k) ?_
  show own_Go p e below (T107.setTop (mkF m 30 #[.val (.ref t), .val (.int ch), .val (.int (0 : Int32)), .val (.int (Int32.ofNat cs.length))] [(.int ch), (.ref t)])) _
  refine own_go (fun _ k => XS.iloadN X107.here hx rfl (hb hby d_jdk_52_m40_30) rfl k) ?_
  show own_Go p e below (T107.setTop (mkF m 31 #[.val (.ref t), .val (.int ch), .val (.int (0 : Int32)), .val (.int (Int32.ofNat cs.length))] [(.int (0 : Int32)), (.int ch), (.ref t)])) _
  refine own_go (fun _ k => XS.iloadN X107.here hx rfl (hb hby d_jdk_52_m40_31) rfl k) ?_
  show own_Go p e below (T107.setTop (mkF m 32 #[.val (.ref t), .val (.int ch), .val (.int (0 : Int32)), .val (.int (Int32.ofNat cs.length))] [(.int (Int32.ofNat cs.length)), (.int (0 : Int32)), (.int ch), (.ref t)])) _
  obtain ⟨v108, _, ⟨T108, L108, k108, n108⟩, -, X108, ⟨Lc108, hQ108, l108, y108, z108⟩, st108⟩ := Jvm.LawKit.callS X107 hx (y := (⟨"java/lang/StringUTF16", "indexOfChar", "([BIII)I"⟩ : MethodName)) hown (mvT hZ (hw _ (List.mem_of_getElem? (i := 107) rfl))) (mvT hZ (hw _ (List.mem_of_getElem? (i := 108) rfl))) (mvT hZ (hw _ (List.mem_of_getElem? (i := 19) rfl))) (mvT hZ (hw _ (List.mem_of_getElem? (i := 109) rfl))) (by decide) (backOf (W := 0) (rm_wic l Z a0 hw [] t k cs ch G3 h0 n0 O0 O4 rG3 OA OH OL V_t hok hpos hc0 hc1) hZ (hw _ (List.mem_of_getElem? (i := 109) rfl)) (hw _ (List.mem_of_getElem? (i := 19) rfl)) (by decide) (by decide)) (g := (mkF m 32 #[.val (.ref t), .val (.int ch), .val (.int (0 : Int32)), .val (.int (Int32.ofNat cs.length))] [(.int (Int32.ofNat cs.length)), (.int (0 : Int32)), (.int ch), (.ref t)])) rfl (by rw [hml]; rfl) (argsL := [(.ref t), (.int ch), (.int (0 : Int32)), (.int (Int32.ofNat cs.length))]) (rest := []) (lenOf pd_11 rfl) rfl (by show 2 * 0 + _ ≤ _; exact Nat.le_of_eq rfl) (hb hby d_jdk_52_m40_32) (fun _ _ => ⟨rfl, e107, (by decide : 0 + 0 ≤ _), (by decide : 0 + 0 ≤ _)⟩)
  dsimp only [Pt.U, Pt.locs, Pt.cells, Pt.slots] at X108 l108 y108 z108 st108 hQ108
  subst l108 y108 z108
  refine own_go st108 ?_
  obtain ⟨r108, rfl, Nq108, e108, hr108⟩ := hQ108
  have N108 := Fr.app N107 Nq108
  show own_Go p e below (T108.setTop (mkF m 35 #[.val (.ref t), .val (.int ch), .val (.int (0 : Int32)), .val (.int (Int32.ofNat cs.length))] [(.int r108)])) _
  refine own_fin (v := (some (.int r108))) X108 (fun h => by rw [hrt] at h; cases h) hlk (fun fs hr => retI X108 hx hrt (hb hby d_jdk_52_m40_35) hr) (QQ := QIx cs ch h0 n0) ?_ (by decide) (by decide)
  rw [e108]
  exact ⟨_, rfl, N108, rfl, hr108⟩

theorem own_wLen {Z : State} {a0 : Array Value} (hw : ∀ d ∈ tables_1, d.before a0 Z = true) : ∀ d ∈ StrChars.Road.wordsLen, d.before a0 Z = true := fun d hd => hw d ((by decide +kernel : ∀ d ∈ StrChars.Road.wordsLen, d ∈ tables_1) d hd)
theorem d_jdk_42_m154_17 : decode jdk_42_method_154_code 17 = .ok (.iconst 0, 1) := by decide +kernel
theorem ef_rm_lat1 (m : MethodId) (x0 : Addr) : entryFrame m #[(.ref x0)] 1 = mkF m 0 #[.val (.ref x0)] [] := by
   first | (simp [entryFrame, mkF, argsToLocals, Value.category]; done) | rfl
set_option maxRecDepth 65536 in
set_option maxHeartbeats 40000000 in
theorem rm_lat1 (l : Launch) (Z : State) (a0 : Array Value) (hw : ∀ d ∈ tables_1, d.before a0 Z = true) (ws : List Jvm.Cond) (a1 : Addr) (G1 : Int32) (h0 : Heap) (n0 : Nat) (O0 : Old Z n0 h0) (E_a : Exa Z h0 a1 "java/lang/String") (F_c : Fld Z h0 a1 "java/lang/String" "coder" "B" (.int (1 : Int32))) (O2 : Sta Z Z.heap "java/lang/String" "COMPACT_STRINGS" "Z" (.int G1)) (P5 : ¬ (G1 = (0 : Int32))) :
    MetFree l (⟨"java/lang/String", "isLatin1", "()Z"⟩ : MethodName) (head1 (Jvm.Cond.code (⟨"java/lang/String", "isLatin1", "()Z"⟩ : MethodName) jdk_42_method_154_code 1 (some .boolean) :: ws) ({ frames := 0, cells := 0, slots := 0, locals := 0 } : Room)) (fun aA U => aA = #[(.ref a1)] ∧ Z.Warmed39 U.vm ∧ U.heap = h0) (fun _ _ _ _ _ => True) (fun _ U oO U' => ∃ rV rL, oO = .returned rV ∧ QPure (some (.int (0 : Int32))) h0 n0 rV U'.heap rL ∧ FrameEnd U oO U' rL 0 0) := by
  refine MetFree.of_bodySF (plainFor_of_name pn_0) hisR ?_
  intro p e s m args below meth cC s₁ Bd hml0 hP hK
  obtain ⟨rfl, hZ, hh⟩ := hP
  have hx := Bd.exec
  have hby := Bd.bytes
  have hml : cC.maxLocals = 1 := hml0
  have hown : s.vm.findClass "java/lang/String" = some m.cls := findClass_of_methodNamed Bd.named
  have hnm := (name_of_methodNamed Bd.named Bd.method).1
  have hrt := Bd.returns
  have hlk : meth.locks = false := Bd.notSynchronized
  have X0 : Stand p l e ({ frames := 0, cells := 0, slots := 0, locals := 0 } : Room) s m #[(.ref a1)] below meth cC s₁ [] 0 0 := Stand.of_body Bd
  have e0 : s₁.heap = h0 := by rw [← hh, Bd.state]; rfl
  have N0 := Fr.nil n0
  have Z0 : n0 ≤ h0.size := O0.1 ▸ O0.2.1
  show own_Go p e below (s₁.setTop (entryFrame m #[(.ref a1)] 1)) (fun oO U' => ∃ rV rL, oO = .returned rV ∧ QPure (some (.int (0 : Int32))) h0 n0 rV U'.heap rL ∧ FrameEnd s oO U' rL 0 0)
  refine own_go (fun _ k => castTop (ef_rm_lat1 m a1) k) ?_
  show own_Go p e below (s₁.setTop (mkF m 0 #[.val (.ref a1)] [])) _
  obtain ⟨T109, X109, e109, st109⟩ := getS2 X0 hx hZ hown (host := "") (Or.inl (hw _ (List.mem_of_getElem? (i := 16) rfl))) Via.refl e0 (O2.ext O0.2) (g := (mkF m 0 #[.val (.ref a1)] [])) rfl (hb hby d_jdk_42_m154_0)
  refine own_go st109 ?_
  show own_Go p e below (T109.setTop (mkF m 3 #[.val (.ref a1)] [(.int G1)])) _
  refine own_go (fun _ k => XS.ifNo X109.here hx rfl (hb hby d_jdk_42_m154_3) rfl ((if0 _ _).trans (feq P5).1) k) ?_
  show own_Go p e below (T109.setTop (mkF m 6 #[.val (.ref a1)] [])) _
  refine own_go (fun _ k => XS.aloadN X109.here hx rfl (hb hby d_jdk_42_m154_6) rfl rfl k) ?_
  show own_Go p e below (T109.setTop (mkF m 7 #[.val (.ref a1)] [(.ref a1)])) _
  obtain ⟨T110, X110, e110, st110⟩ := getF X109 hx hZ hown (host := "") (Or.inl (hw _ (List.mem_of_getElem? (i := 28) rfl))) Via.refl e109 F_c (g := (mkF m 7 #[.val (.ref a1)] [(.ref a1)])) rfl rfl (hb hby d_jdk_42_m154_7)
  refine own_go st110 ?_
  show own_Go p e below (T110.setTop (mkF m 10 #[.val (.ref a1)] [(.int (1 : Int32))])) _
  refine own_go (fun _ k => XS.ifYes X110.here hx rfl (pc0 := 10) (pc' := 17) rfl (hb hby d_jdk_42_m154_10) rfl ((if0 _ _).trans (feq (by decide : ¬ ((1 : Int32) = (0 : Int32)))).2) (by decide) (by decide) k) ?_
  show own_Go p e below (T110.setTop (mkF m 17 #[.val (.ref a1)] [])) _
  refine own_go (fun _ k => XS.iconst X110.here hx rfl (hb hby d_jdk_42_m154_17) k) ?_
  show own_Go p e below (T110.setTop (mkF m 18 #[.val (.ref a1)] [(.int (0 : Int32))])) _
  refine own_fin (v := (some (.int (nar .boolean (0 : Int32))))) X110 (fun h => by rw [hrt] at h; cases h) hlk (fun fs hr => retN X110 hx (t := .boolean) hrt (by simp) (hb hby d_jdk_42_m154_18) hr) (QQ := QPure (some (.int (0 : Int32))) h0 n0) ?_ (by decide) (by decide)
  rw [e110]
  exact ⟨rfl, N0, rfl⟩

theorem d_jdk_42_m80_0 : decode jdk_42_method_80_code 0 = .ok (.aload_n 0, 1) := by decide +kernel
theorem d_jdk_42_m80_1 : decode jdk_42_method_80_code 1 = .ok (.invokevirtual 492, 3) := by decide +kernel
theorem pd_15 : parseMethodDescriptor "()Z" = some ⟨[], some .boolean⟩ := by decide +kernel
theorem d_jdk_42_m80_4 : decode jdk_42_method_80_code 4 = .ok (.ifCond .eq 19, 3) := by decide +kernel
theorem d_jdk_42_m80_7 : decode jdk_42_method_80_code 7 = .ok (.aload_n 0, 1) := by decide +kernel
theorem d_jdk_42_m80_8 : decode jdk_42_method_80_code 8 = .ok (.getfield 9, 3) := by decide +kernel
theorem d_jdk_42_m80_11 : decode jdk_42_method_80_code 11 = .ok (.iload_n 1, 1) := by decide +kernel
theorem d_jdk_42_m80_12 : decode jdk_42_method_80_code 12 = .ok (.iload_n 2, 1) := by decide +kernel
theorem d_jdk_42_m80_13 : decode jdk_42_method_80_code 13 = .ok (.aload_n 0, 1) := by decide +kernel
theorem d_jdk_42_m80_14 : decode jdk_42_method_80_code 14 = .ok (.invokevirtual 505, 3) := by decide +kernel
theorem pd_16 : parseMethodDescriptor "()I" = some ⟨[], some .int⟩ := by decide +kernel
theorem d_jdk_42_m80_17 : decode jdk_42_method_80_code 17 = .ok (.invokestatic 637, 3) := by decide +kernel
theorem d_jdk_42_m80_20 : decode jdk_42_method_80_code 20 = .ok (.goto 16, 3) := by decide +kernel
theorem d_jdk_42_m80_36 : decode jdk_42_method_80_code 36 = .ok (.ireturn, 1) := by decide +kernel
theorem d_jdk_42_m80_23 : decode jdk_42_method_80_code 23 = .ok (.aload_n 0, 1) := by decide +kernel
theorem d_jdk_42_m80_24 : decode jdk_42_method_80_code 24 = .ok (.getfield 9, 3) := by decide +kernel
theorem d_jdk_42_m80_27 : decode jdk_42_method_80_code 27 = .ok (.iload_n 1, 1) := by decide +kernel
theorem d_jdk_42_m80_28 : decode jdk_42_method_80_code 28 = .ok (.iload_n 2, 1) := by decide +kernel
theorem d_jdk_42_m80_29 : decode jdk_42_method_80_code 29 = .ok (.aload_n 0, 1) := by decide +kernel
theorem d_jdk_42_m80_30 : decode jdk_42_method_80_code 30 = .ok (.invokevirtual 505, 3) := by decide +kernel
theorem d_jdk_42_m80_33 : decode jdk_42_method_80_code 33 = .ok (.invokestatic 640, 3) := by decide +kernel
theorem ef_rm_six2 (m : MethodId) (x0 : Addr) (x1 : Int32) (x2 : Int32) : entryFrame m #[(.ref x0), (.int x1), (.int x2)] 3 = mkF m 0 #[.val (.ref x0), .val (.int x1), .val (.int x2)] [] := by
   first | (simp [entryFrame, mkF, argsToLocals, Value.category]; done) | rfl
set_option maxRecDepth 65536 in
set_option maxHeartbeats 40000000 in
theorem rm_six2 (l : Launch) (Z : State) (a0 : Array Value) (hw : ∀ d ∈ tables_1, d.before a0 Z = true) (ws : List Jvm.Cond) (x : Addr) (t : Addr) (k : ClassId) (cs : List Int32) (ch : Int32) (cd : Int32) (N2 : Int32) (vs : List Value) (G1 : Int32) (G3 : Value) (h0 : Heap) (n0 : Nat) (O0 : Old Z n0 h0) (O2 : Sta Z Z.heap "java/lang/String" "COMPACT_STRINGS" "Z" (.int G1)) (P5 : ¬ (G1 = (0 : Int32))) (O4 : Sta Z Z.heap "jdk/internal/util/Preconditions" "SIOOBE_FORMATTER" "Ljava/util/function/BiFunction;" G3) (rG3 : G3.isRef = true) (OA : Sta Z Z.heap "java/lang/StringUTF16" "$assertionsDisabled" "Z" (.int (1 : Int32))) (OH : Sta Z Z.heap "java/lang/StringUTF16" "HI_BYTE_SHIFT" "I" (.int (0 : Int32))) (OL : Sta Z Z.heap "java/lang/StringUTF16" "LO_BYTE_SHIFT" "I" (.int (8 : Int32))) (E_x : Exa Z h0 x "java/lang/String") (Fv_x : Fld Z h0 x "java/lang/String" "value" "[B" (.ref t)) (Fc_x : Fld Z h0 x "java/lang/String" "coder" "B" (.int cd)) (V_t : Arv Z h0 t k .byte N2 vs (.int (0 : Int32))) (hC : StrChars.Road.CodA cs cd N2 vs) (hok : own_Ok cs) (hc0 : ¬ ch < 0) (hc1 : ¬ (255 : Int32) < ch) :
    MetFree l (⟨"java/lang/String", "indexOf", "(II)I"⟩ : MethodName) (head1 (Jvm.Cond.code (⟨"java/lang/String", "indexOf", "(II)I"⟩ : MethodName) jdk_42_method_80_code 3 (some .int) :: ws) ({ frames := 5, cells := 0, slots := 0, locals := 73 } : Room)) (fun aA U => aA = #[(.ref x), (.int ch), (.int (0 : Int32))] ∧ Z.Warmed39 U.vm ∧ U.heap = h0) (fun _ _ _ _ _ => True) (fun _ U oO U' => ∃ rV rL, oO = .returned rV ∧ QIx cs ch h0 n0 rV U'.heap rL ∧ FrameEnd U oO U' rL 0 0) := by
  refine MetFree.of_bodySF (plainFor_of_name pn_0) hisR ?_
  intro p e s m args below meth cC s₁ Bd hml0 hP hK
  obtain ⟨rfl, hZ, hh⟩ := hP
  have hx := Bd.exec
  have hby := Bd.bytes
  have hml : cC.maxLocals = 3 := hml0
  have hown : s.vm.findClass "java/lang/String" = some m.cls := findClass_of_methodNamed Bd.named
  have hnm := (name_of_methodNamed Bd.named Bd.method).1
  have hrt := Bd.returns
  have hlk : meth.locks = false := Bd.notSynchronized
  have X0 : Stand p l e ({ frames := 5, cells := 0, slots := 0, locals := 73 } : Room) s m #[(.ref x), (.int ch), (.int (0 : Int32))] below meth cC s₁ [] 0 0 := Stand.of_body Bd
  have e0 : s₁.heap = h0 := by rw [← hh, Bd.state]; rfl
  have N0 := Fr.nil n0
  have Z0 : n0 ≤ h0.size := O0.1 ▸ O0.2.1
  show own_Go p e below (s₁.setTop (entryFrame m #[(.ref x), (.int ch), (.int (0 : Int32))] 3)) (fun oO U' => ∃ rV rL, oO = .returned rV ∧ QIx cs ch h0 n0 rV U'.heap rL ∧ FrameEnd s oO U' rL 0 0)
  refine own_go (fun _ k => castTop (ef_rm_six2 m x ch _) k) ?_
  have hlen : cs.length ≤ 4000 := hok.2
  show own_Go p e below (s₁.setTop (mkF m 0 #[.val (.ref x), .val (.int ch), .val (.int (0 : Int32))] [])) _
  rcases id hC with ⟨c1, c2, c3, ha⟩ | ⟨c1, c2, c3, cw, hcw, hbig⟩
  · subst c1 c2 c3
    show own_Go p e below (s₁.setTop (mkF m 0 #[.val (.ref x), .val (.int ch), .val (.int (0 : Int32))] [])) _
    refine own_go (fun _ k => XS.aloadN X0.here hx rfl (hb hby d_jdk_42_m80_0) rfl rfl k) ?_
    show own_Go p e below (s₁.setTop (mkF m 1 #[.val (.ref x), .val (.int ch), .val (.int (0 : Int32))] [(.ref x)])) _
    obtain ⟨cq111, kq111, q111a, q111b, q111c⟩ := isOf hZ e0 E_x
    obtain ⟨v111, _, ⟨T111, L111, k111, n111⟩, -, X111, ⟨Lc111, hQ111, l111, y111, z111⟩, st111⟩ := X0.virtualBack hx (y := (⟨"java/lang/String", "isLatin1", "()Z"⟩ : MethodName)) (z := (⟨"java/lang/String", "isLatin1", "()Z"⟩ : MethodName)) hown (mvT hZ (hw _ (List.mem_of_getElem? (i := 50) rfl))) (mvT hZ (hw _ (List.mem_of_getElem? (i := 51) rfl))) (notFace_of_selects (args := #[]) (mvT hZ (hw _ (List.mem_of_getElem? (i := 53) rfl)))) (mvT hZ (hw _ (List.mem_of_getElem? (i := 53) rfl))) (mvT hZ (hw _ (List.mem_of_getElem? (i := 52) rfl))) (by decide) (backOf (W := 0) (rm_lat l Z a0 hw [] x G1 h0 n0 O0 E_x Fc_x O2 P5) hZ (hw _ (List.mem_of_getElem? (i := 54) rfl)) (hw _ (List.mem_of_getElem? (i := 5) rfl)) (by decide) (by decide)) q111a q111c (g := (mkF m 1 #[.val (.ref x), .val (.int ch), .val (.int (0 : Int32))] [(.ref x)])) rfl (by rw [hml]; rfl) (Steps.refl _) (argsL := []) (rest := []) (lenOf pd_15 rfl) rfl (by show 2 * 0 + _ ≤ _; exact Nat.le_of_eq rfl) (hb hby d_jdk_42_m80_1) (fun _ _ => ⟨rfl, e0, (by decide : 0 + 0 ≤ _), (by decide : 0 + 0 ≤ _)⟩)
    dsimp only [Pt.U, Pt.locs, Pt.cells, Pt.slots] at X111 l111 y111 z111 st111 hQ111
    subst l111 y111 z111
    refine own_gos st111 ?_
    obtain ⟨rfl, Nq111, e111⟩ := hQ111
    have N111 := Fr.app N0 Nq111
    show own_Go p e below (T111.setTop (mkF m 4 #[.val (.ref x), .val (.int ch), .val (.int (0 : Int32))] [(.int (1 : Int32))])) _
    refine own_go (fun _ k => XS.ifNo X111.here hx rfl (hb hby d_jdk_42_m80_4) rfl ((if0 _ _).trans (feq (by decide : ¬ ((1 : Int32) = (0 : Int32)))).1) k) ?_
    show own_Go p e below (T111.setTop (mkF m 7 #[.val (.ref x), .val (.int ch), .val (.int (0 : Int32))] [])) _
    refine own_go (fun _ k => XS.aloadN X111.here hx rfl (hb hby d_jdk_42_m80_7) rfl rfl k) ?_
    show own_Go p e below (T111.setTop (mkF m 8 #[.val (.ref x), .val (.int ch), .val (.int (0 : Int32))] [(.ref x)])) _
    obtain ⟨T112, X112, e112, st112⟩ := getF X111 hx hZ hown (host := "") (Or.inl (hw _ (List.mem_of_getElem? (i := 30) rfl))) Via.refl e111 Fv_x (g := (mkF m 8 #[.val (.ref x), .val (.int ch), .val (.int (0 : Int32))] [(.ref x)])) rfl rfl (hb hby d_jdk_42_m80_8)
    refine own_go st112 ?_
    show own_Go p e below (T112.setTop (mkF m 11 #[.val (.ref x), .val (.int ch), .val (.int (0 : Int32))] [(.ref t)])) _
    refine own_go (fun _ k => XS.iloadN X112.here hx rfl (hb hby d_jdk_42_m80_11) rfl k) ?_
    show own_Go p e below (T112.setTop (mkF m 12 #[.val (.ref x), .val (.int ch), .val (.int (0 : Int32))] [(.int ch), (.ref t)])) _
    refine own_go (fun _ k => XS.iloadN X112.here hx rfl (hb hby d_jdk_42_m80_12) rfl k) ?_
    show own_Go p e below (T112.setTop (mkF m 13 #[.val (.ref x), .val (.int ch), .val (.int (0 : Int32))] [(.int (0 : Int32)), (.int ch), (.ref t)])) _
    refine own_go (fun _ k => XS.aloadN X112.here hx rfl (hb hby d_jdk_42_m80_13) rfl rfl k) ?_
    show own_Go p e below (T112.setTop (mkF m 14 #[.val (.ref x), .val (.int ch), .val (.int (0 : Int32))] [(.ref x), (.int (0 : Int32)), (.int ch), (.ref t)])) _
    obtain ⟨cq113, kq113, q113a, q113b, q113c⟩ := isOf hZ e112 E_x
    obtain ⟨v113, _, ⟨T113, L113, k113, n113⟩, -, X113, ⟨Lc113, hQ113, l113, y113, z113⟩, st113⟩ := X112.virtualBack hx (y := (⟨"java/lang/String", "length", "()I"⟩ : MethodName)) (z := (⟨"java/lang/String", "length", "()I"⟩ : MethodName)) hown (mvT hZ (hw _ (List.mem_of_getElem? (i := 55) rfl))) (mvT hZ (hw _ (List.mem_of_getElem? (i := 56) rfl))) (notFace_of_selects (args := #[]) (mvT hZ (hw _ (List.mem_of_getElem? (i := 58) rfl)))) (mvT hZ (hw _ (List.mem_of_getElem? (i := 58) rfl))) (mvT hZ (hw _ (List.mem_of_getElem? (i := 57) rfl))) (by decide) (StrChars.Road.lenW (W := 3) hZ (own_wLen hw) (kI := 4) (hw _ (List.mem_of_getElem? (i := 4) rfl)) E_x Fv_x Fc_x V_t hC (hok.1) (O2.ext O0.2) P5 hok.2 (by decide) (by decide)) q113a q113c (g := (mkF m 14 #[.val (.ref x), .val (.int ch), .val (.int (0 : Int32))] [(.ref x), (.int (0 : Int32)), (.int ch), (.ref t)])) rfl (by rw [hml]; rfl) (Steps.refl _) (argsL := []) (rest := [(.int (0 : Int32)), (.int ch), (.ref t)]) (lenOf pd_16 rfl) rfl (by show 2 * 0 + _ ≤ _; exact Nat.le_of_eq rfl) (hb hby d_jdk_42_m80_14) (fun _ _ => ⟨rfl, e112, (by decide : 0 + 0 ≤ _), (by decide : 0 + 0 ≤ _)⟩)
    dsimp only [Pt.U, Pt.locs, Pt.cells, Pt.slots] at X113 l113 y113 z113 st113 hQ113
    subst l113 y113 z113
    refine own_gos st113 ?_
    obtain ⟨rfl, rfl, e113⟩ := hQ113
    have Nq113 : Fr n0 ([] : List Loc) := Fr.nil n0
    have N113 := Fr.app N111 Nq113
    show own_Go p e below (T113.setTop (mkF m 17 #[.val (.ref x), .val (.int ch), .val (.int (0 : Int32))] [(.int (Int32.ofNat cs.length)), (.int (0 : Int32)), (.int ch), (.ref t)])) _
    obtain ⟨v114, _, ⟨T114, L114, k114, n114⟩, -, X114, ⟨Lc114, hQ114, l114, y114, z114⟩, st114⟩ := Jvm.LawKit.callS X113 hx (y := (⟨"java/lang/StringLatin1", "indexOf", "([BIII)I"⟩ : MethodName)) hown (mvT hZ (hw _ (List.mem_of_getElem? (i := 65) rfl))) (mvT hZ (hw _ (List.mem_of_getElem? (i := 66) rfl))) (mvT hZ (hw _ (List.mem_of_getElem? (i := 67) rfl))) (mvT hZ (hw _ (List.mem_of_getElem? (i := 68) rfl))) (by decide) (backOf (W := 0) (rm_lix l Z a0 hw [] t k cs ch h0 n0 O0 V_t hok ha hc0 hc1) hZ (hw _ (List.mem_of_getElem? (i := 68) rfl)) (hw _ (List.mem_of_getElem? (i := 67) rfl)) (by decide) (by decide)) (g := (mkF m 17 #[.val (.ref x), .val (.int ch), .val (.int (0 : Int32))] [(.int (Int32.ofNat cs.length)), (.int (0 : Int32)), (.int ch), (.ref t)])) rfl (by rw [hml]; rfl) (argsL := [(.ref t), (.int ch), (.int (0 : Int32)), (.int (Int32.ofNat cs.length))]) (rest := []) (lenOf pd_11 rfl) rfl (by show 2 * 0 + _ ≤ _; exact Nat.le_of_eq rfl) (hb hby d_jdk_42_m80_17) (fun _ _ => ⟨rfl, e113, (by decide : 0 + 0 ≤ _), (by decide : 0 + 0 ≤ _)⟩)
    dsimp only [Pt.U, Pt.locs, Pt.cells, Pt.slots] at X114 l114 y114 z114 st114 hQ114
    subst l114 y114 z114
    refine own_go st114 ?_
    obtain ⟨r114, rfl, Nq114, e114, hr114⟩ := hQ114
    have N114 := Fr.app N113 Nq114
    show own_Go p e below (T114.setTop (mkF m 20 #[.val (.ref x), .val (.int ch), .val (.int (0 : Int32))] [(.int r114)])) _
    refine own_go (fun _ k => XS.goto X114.here hx rfl (pc0 := 20) (pc' := 36) rfl (hb hby d_jdk_42_m80_20) (by decide) (by decide) k) ?_
    show own_Go p e below (T114.setTop (mkF m 36 #[.val (.ref x), .val (.int ch), .val (.int (0 : Int32))] [(.int r114)])) _
    refine own_fin (v := (some (.int r114))) X114 (fun h => by rw [hrt] at h; cases h) hlk (fun fs hr => retI X114 hx hrt (hb hby d_jdk_42_m80_36) hr) (QQ := QIx cs ch h0 n0) ?_ (by decide) (by decide)
    rw [e114]
    exact ⟨_, rfl, N114, rfl, hr114⟩
  · subst c1 c2 c3
    have hpos := own_wpos hcw
    show own_Go p e below (s₁.setTop (mkF m 0 #[.val (.ref x), .val (.int ch), .val (.int (0 : Int32))] [])) _
    refine own_go (fun _ k => XS.aloadN X0.here hx rfl (hb hby d_jdk_42_m80_0) rfl rfl k) ?_
    show own_Go p e below (s₁.setTop (mkF m 1 #[.val (.ref x), .val (.int ch), .val (.int (0 : Int32))] [(.ref x)])) _
    obtain ⟨cq115, kq115, q115a, q115b, q115c⟩ := isOf hZ e0 E_x
    obtain ⟨v115, _, ⟨T115, L115, k115, n115⟩, -, X115, ⟨Lc115, hQ115, l115, y115, z115⟩, st115⟩ := X0.virtualBack hx (y := (⟨"java/lang/String", "isLatin1", "()Z"⟩ : MethodName)) (z := (⟨"java/lang/String", "isLatin1", "()Z"⟩ : MethodName)) hown (mvT hZ (hw _ (List.mem_of_getElem? (i := 50) rfl))) (mvT hZ (hw _ (List.mem_of_getElem? (i := 51) rfl))) (notFace_of_selects (args := #[]) (mvT hZ (hw _ (List.mem_of_getElem? (i := 53) rfl)))) (mvT hZ (hw _ (List.mem_of_getElem? (i := 53) rfl))) (mvT hZ (hw _ (List.mem_of_getElem? (i := 52) rfl))) (by decide) (backOf (W := 0) (rm_lat1 l Z a0 hw [] x G1 h0 n0 O0 E_x Fc_x O2 P5) hZ (hw _ (List.mem_of_getElem? (i := 54) rfl)) (hw _ (List.mem_of_getElem? (i := 5) rfl)) (by decide) (by decide)) q115a q115c (g := (mkF m 1 #[.val (.ref x), .val (.int ch), .val (.int (0 : Int32))] [(.ref x)])) rfl (by rw [hml]; rfl) (Steps.refl _) (argsL := []) (rest := []) (lenOf pd_15 rfl) rfl (by show 2 * 0 + _ ≤ _; exact Nat.le_of_eq rfl) (hb hby d_jdk_42_m80_1) (fun _ _ => ⟨rfl, e0, (by decide : 0 + 0 ≤ _), (by decide : 0 + 0 ≤ _)⟩)
    dsimp only [Pt.U, Pt.locs, Pt.cells, Pt.slots] at X115 l115 y115 z115 st115 hQ115
    subst l115 y115 z115
    refine own_gos st115 ?_
    obtain ⟨rfl, Nq115, e115⟩ := hQ115
    have N115 := Fr.app N0 Nq115
    show own_Go p e below (T115.setTop (mkF m 4 #[.val (.ref x), .val (.int ch), .val (.int (0 : Int32))] [(.int (0 : Int32))])) _
    refine own_go (fun _ k => XS.ifYes X115.here hx rfl (pc0 := 4) (pc' := 23) rfl (hb hby d_jdk_42_m80_4) rfl ((if0 _ _).trans (teq (by decide : (0 : Int32) = (0 : Int32))).1) (by decide) (by decide) k) ?_
    show own_Go p e below (T115.setTop (mkF m 23 #[.val (.ref x), .val (.int ch), .val (.int (0 : Int32))] [])) _
    refine own_go (fun _ k => XS.aloadN X115.here hx rfl (hb hby d_jdk_42_m80_23) rfl rfl k) ?_
    show own_Go p e below (T115.setTop (mkF m 24 #[.val (.ref x), .val (.int ch), .val (.int (0 : Int32))] [(.ref x)])) _
    obtain ⟨T116, X116, e116, st116⟩ := getF X115 hx hZ hown (host := "") (Or.inl (hw _ (List.mem_of_getElem? (i := 30) rfl))) Via.refl e115 Fv_x (g := (mkF m 24 #[.val (.ref x), .val (.int ch), .val (.int (0 : Int32))] [(.ref x)])) rfl rfl (hb hby d_jdk_42_m80_24)
    refine own_go st116 ?_
    show own_Go p e below (T116.setTop (mkF m 27 #[.val (.ref x), .val (.int ch), .val (.int (0 : Int32))] [(.ref t)])) _
    refine own_go (fun _ k => XS.iloadN X116.here hx rfl (hb hby d_jdk_42_m80_27) rfl k) ?_
    show own_Go p e below (T116.setTop (mkF m 28 #[.val (.ref x), .val (.int ch), .val (.int (0 : Int32))] [(.int ch), (.ref t)])) _
    refine own_go (fun _ k => XS.iloadN X116.here hx rfl (hb hby d_jdk_42_m80_28) rfl k) ?_
    show own_Go p e below (T116.setTop (mkF m 29 #[.val (.ref x), .val (.int ch), .val (.int (0 : Int32))] [(.int (0 : Int32)), (.int ch), (.ref t)])) _
    refine own_go (fun _ k => XS.aloadN X116.here hx rfl (hb hby d_jdk_42_m80_29) rfl rfl k) ?_
    show own_Go p e below (T116.setTop (mkF m 30 #[.val (.ref x), .val (.int ch), .val (.int (0 : Int32))] [(.ref x), (.int (0 : Int32)), (.int ch), (.ref t)])) _
    obtain ⟨cq117, kq117, q117a, q117b, q117c⟩ := isOf hZ e116 E_x
    obtain ⟨v117, _, ⟨T117, L117, k117, n117⟩, -, X117, ⟨Lc117, hQ117, l117, y117, z117⟩, st117⟩ := X116.virtualBack hx (y := (⟨"java/lang/String", "length", "()I"⟩ : MethodName)) (z := (⟨"java/lang/String", "length", "()I"⟩ : MethodName)) hown (mvT hZ (hw _ (List.mem_of_getElem? (i := 55) rfl))) (mvT hZ (hw _ (List.mem_of_getElem? (i := 56) rfl))) (notFace_of_selects (args := #[]) (mvT hZ (hw _ (List.mem_of_getElem? (i := 58) rfl)))) (mvT hZ (hw _ (List.mem_of_getElem? (i := 58) rfl))) (mvT hZ (hw _ (List.mem_of_getElem? (i := 57) rfl))) (by decide) (StrChars.Road.lenW (W := 3) hZ (own_wLen hw) (kI := 4) (hw _ (List.mem_of_getElem? (i := 4) rfl)) E_x Fv_x Fc_x V_t hC (hok.1) (O2.ext O0.2) P5 hok.2 (by decide) (by decide)) q117a q117c (g := (mkF m 30 #[.val (.ref x), .val (.int ch), .val (.int (0 : Int32))] [(.ref x), (.int (0 : Int32)), (.int ch), (.ref t)])) rfl (by rw [hml]; rfl) (Steps.refl _) (argsL := []) (rest := [(.int (0 : Int32)), (.int ch), (.ref t)]) (lenOf pd_16 rfl) rfl (by show 2 * 0 + _ ≤ _; exact Nat.le_of_eq rfl) (hb hby d_jdk_42_m80_30) (fun _ _ => ⟨rfl, e116, (by decide : 0 + 0 ≤ _), (by decide : 0 + 0 ≤ _)⟩)
    dsimp only [Pt.U, Pt.locs, Pt.cells, Pt.slots] at X117 l117 y117 z117 st117 hQ117
    subst l117 y117 z117
    refine own_gos st117 ?_
    obtain ⟨rfl, rfl, e117⟩ := hQ117
    have Nq117 : Fr n0 ([] : List Loc) := Fr.nil n0
    have N117 := Fr.app N115 Nq117
    show own_Go p e below (T117.setTop (mkF m 33 #[.val (.ref x), .val (.int ch), .val (.int (0 : Int32))] [(.int (Int32.ofNat cs.length)), (.int (0 : Int32)), (.int ch), (.ref t)])) _
    obtain ⟨v118, _, ⟨T118, L118, k118, n118⟩, -, X118, ⟨Lc118, hQ118, l118, y118, z118⟩, st118⟩ := Jvm.LawKit.callS X117 hx (y := (⟨"java/lang/StringUTF16", "indexOf", "([BIII)I"⟩ : MethodName)) hown (mvT hZ (hw _ (List.mem_of_getElem? (i := 101) rfl))) (mvT hZ (hw _ (List.mem_of_getElem? (i := 102) rfl))) (mvT hZ (hw _ (List.mem_of_getElem? (i := 19) rfl))) (mvT hZ (hw _ (List.mem_of_getElem? (i := 103) rfl))) (by decide) (backOf (W := 0) (rm_wix l Z a0 hw [] t k cs ch G3 h0 n0 O0 O4 rG3 OA OH OL V_t hok hpos hc0 hc1) hZ (hw _ (List.mem_of_getElem? (i := 103) rfl)) (hw _ (List.mem_of_getElem? (i := 19) rfl)) (by decide) (by decide)) (g := (mkF m 33 #[.val (.ref x), .val (.int ch), .val (.int (0 : Int32))] [(.int (Int32.ofNat cs.length)), (.int (0 : Int32)), (.int ch), (.ref t)])) rfl (by rw [hml]; rfl) (argsL := [(.ref t), (.int ch), (.int (0 : Int32)), (.int (Int32.ofNat cs.length))]) (rest := []) (lenOf pd_11 rfl) rfl (by show 2 * 0 + _ ≤ _; exact Nat.le_of_eq rfl) (hb hby d_jdk_42_m80_33) (fun _ _ => ⟨rfl, e117, (by decide : 0 + 0 ≤ _), (by decide : 0 + 0 ≤ _)⟩)
    dsimp only [Pt.U, Pt.locs, Pt.cells, Pt.slots] at X118 l118 y118 z118 st118 hQ118
    subst l118 y118 z118
    refine own_go st118 ?_
    obtain ⟨r118, rfl, Nq118, e118, hr118⟩ := hQ118
    have N118 := Fr.app N117 Nq118
    show own_Go p e below (T118.setTop (mkF m 36 #[.val (.ref x), .val (.int ch), .val (.int (0 : Int32))] [(.int r118)])) _
    refine own_fin (v := (some (.int r118))) X118 (fun h => by rw [hrt] at h; cases h) hlk (fun fs hr => retI X118 hx hrt (hb hby d_jdk_42_m80_36) hr) (QQ := QIx cs ch h0 n0) ?_ (by decide) (by decide)
    rw [e118]
    exact ⟨_, rfl, N118, rfl, hr118⟩

theorem d_jdk_42_m79_0 : decode jdk_42_method_79_code 0 = .ok (.aload_n 0, 1) := by decide +kernel
theorem d_jdk_42_m79_1 : decode jdk_42_method_79_code 1 = .ok (.iload_n 1, 1) := by decide +kernel
theorem d_jdk_42_m79_2 : decode jdk_42_method_79_code 2 = .ok (.iconst 0, 1) := by decide +kernel
theorem d_jdk_42_m79_3 : decode jdk_42_method_79_code 3 = .ok (.invokevirtual 633, 3) := by decide +kernel
theorem d_jdk_42_m79_6 : decode jdk_42_method_79_code 6 = .ok (.ireturn, 1) := by decide +kernel
theorem ef_rm_six (m : MethodId) (x0 : Addr) (x1 : Int32) : entryFrame m #[(.ref x0), (.int x1)] 2 = mkF m 0 #[.val (.ref x0), .val (.int x1)] [] := by
   first | (simp [entryFrame, mkF, argsToLocals, Value.category]; done) | rfl
set_option maxRecDepth 65536 in
set_option maxHeartbeats 40000000 in
theorem rm_six (l : Launch) (Z : State) (a0 : Array Value) (hw : ∀ d ∈ tables_1, d.before a0 Z = true) (ws : List Jvm.Cond) (x : Addr) (t : Addr) (k : ClassId) (cs : List Int32) (ch : Int32) (cd : Int32) (N2 : Int32) (vs : List Value) (G1 : Int32) (G3 : Value) (h0 : Heap) (n0 : Nat) (O0 : Old Z n0 h0) (O2 : Sta Z Z.heap "java/lang/String" "COMPACT_STRINGS" "Z" (.int G1)) (P5 : ¬ (G1 = (0 : Int32))) (O4 : Sta Z Z.heap "jdk/internal/util/Preconditions" "SIOOBE_FORMATTER" "Ljava/util/function/BiFunction;" G3) (rG3 : G3.isRef = true) (OA : Sta Z Z.heap "java/lang/StringUTF16" "$assertionsDisabled" "Z" (.int (1 : Int32))) (OH : Sta Z Z.heap "java/lang/StringUTF16" "HI_BYTE_SHIFT" "I" (.int (0 : Int32))) (OL : Sta Z Z.heap "java/lang/StringUTF16" "LO_BYTE_SHIFT" "I" (.int (8 : Int32))) (E_x : Exa Z h0 x "java/lang/String") (Fv_x : Fld Z h0 x "java/lang/String" "value" "[B" (.ref t)) (Fc_x : Fld Z h0 x "java/lang/String" "coder" "B" (.int cd)) (V_t : Arv Z h0 t k .byte N2 vs (.int (0 : Int32))) (hC : StrChars.Road.CodA cs cd N2 vs) (hok : own_Ok cs) (hc0 : ¬ ch < 0) (hc1 : ¬ (255 : Int32) < ch) :
    MetFree l (⟨"java/lang/String", "indexOf", "(I)I"⟩ : MethodName) (head1 (Jvm.Cond.code (⟨"java/lang/String", "indexOf", "(I)I"⟩ : MethodName) jdk_42_method_79_code 2 (some .int) :: ws) ({ frames := 6, cells := 0, slots := 0, locals := 87 } : Room)) (fun aA U => aA = #[(.ref x), (.int ch)] ∧ Z.Warmed39 U.vm ∧ U.heap = h0) (fun _ _ _ _ _ => True) (fun _ U oO U' => ∃ rV rL, oO = .returned rV ∧ QIx cs ch h0 n0 rV U'.heap rL ∧ FrameEnd U oO U' rL 0 0) := by
  refine MetFree.of_bodySF (plainFor_of_name pn_0) hisR ?_
  intro p e s m args below meth cC s₁ Bd hml0 hP hK
  obtain ⟨rfl, hZ, hh⟩ := hP
  have hx := Bd.exec
  have hby := Bd.bytes
  have hml : cC.maxLocals = 2 := hml0
  have hown : s.vm.findClass "java/lang/String" = some m.cls := findClass_of_methodNamed Bd.named
  have hnm := (name_of_methodNamed Bd.named Bd.method).1
  have hrt := Bd.returns
  have hlk : meth.locks = false := Bd.notSynchronized
  have X0 : Stand p l e ({ frames := 6, cells := 0, slots := 0, locals := 87 } : Room) s m #[(.ref x), (.int ch)] below meth cC s₁ [] 0 0 := Stand.of_body Bd
  have e0 : s₁.heap = h0 := by rw [← hh, Bd.state]; rfl
  have N0 := Fr.nil n0
  have Z0 : n0 ≤ h0.size := O0.1 ▸ O0.2.1
  show own_Go p e below (s₁.setTop (entryFrame m #[(.ref x), (.int ch)] 2)) (fun oO U' => ∃ rV rL, oO = .returned rV ∧ QIx cs ch h0 n0 rV U'.heap rL ∧ FrameEnd s oO U' rL 0 0)
  refine own_go (fun _ k => castTop (ef_rm_six m x ch) k) ?_
  have hlen : cs.length ≤ 4000 := hok.2
  show own_Go p e below (s₁.setTop (mkF m 0 #[.val (.ref x), .val (.int ch)] [])) _
  refine own_go (fun _ k => XS.aloadN X0.here hx rfl (hb hby d_jdk_42_m79_0) rfl rfl k) ?_
  show own_Go p e below (s₁.setTop (mkF m 1 #[.val (.ref x), .val (.int ch)] [(.ref x)])) _
  refine own_go (fun _ k => XS.iloadN X0.here hx rfl (hb hby d_jdk_42_m79_1) rfl k) ?_
  show own_Go p e below (s₁.setTop (mkF m 2 #[.val (.ref x), .val (.int ch)] [(.int ch), (.ref x)])) _
  refine own_go (fun _ k => XS.iconst X0.here hx rfl (hb hby d_jdk_42_m79_2) k) ?_
  show own_Go p e below (s₁.setTop (mkF m 3 #[.val (.ref x), .val (.int ch)] [(.int (0 : Int32)), (.int ch), (.ref x)])) _
  obtain ⟨cq119, kq119, q119a, q119b, q119c⟩ := isOf hZ e0 E_x
  obtain ⟨v119, _, ⟨T119, L119, k119, n119⟩, -, X119, ⟨Lc119, hQ119, l119, y119, z119⟩, st119⟩ := X0.virtualBack hx (y := (⟨"java/lang/String", "indexOf", "(II)I"⟩ : MethodName)) (z := (⟨"java/lang/String", "indexOf", "(II)I"⟩ : MethodName)) hown (mvT hZ (hw _ (List.mem_of_getElem? (i := 45) rfl))) (mvT hZ (hw _ (List.mem_of_getElem? (i := 46) rfl))) (notFace_of_selects (args := #[]) (mvT hZ (hw _ (List.mem_of_getElem? (i := 48) rfl)))) (mvT hZ (hw _ (List.mem_of_getElem? (i := 48) rfl))) (mvT hZ (hw _ (List.mem_of_getElem? (i := 47) rfl))) (by decide) (backOf (W := 0) (rm_six2 l Z a0 hw [] x t k cs ch cd N2 vs G1 G3 h0 n0 O0 O2 P5 O4 rG3 OA OH OL E_x Fv_x Fc_x V_t hC hok hc0 hc1) hZ (hw _ (List.mem_of_getElem? (i := 49) rfl)) (hw _ (List.mem_of_getElem? (i := 5) rfl)) (by decide) (by decide)) q119a q119c (g := (mkF m 3 #[.val (.ref x), .val (.int ch)] [(.int (0 : Int32)), (.int ch), (.ref x)])) rfl (by rw [hml]; rfl) (Steps.refl _) (argsL := [(.int ch), (.int (0 : Int32))]) (rest := []) (lenOf pd_10 rfl) rfl (by show 2 * 0 + _ ≤ _; exact Nat.le_of_eq rfl) (hb hby d_jdk_42_m79_3) (fun _ _ => ⟨rfl, e0, (by decide : 0 + 0 ≤ _), (by decide : 0 + 0 ≤ _)⟩)
  dsimp only [Pt.U, Pt.locs, Pt.cells, Pt.slots] at X119 l119 y119 z119 st119 hQ119
  subst l119 y119 z119
  refine own_gos st119 ?_
  obtain ⟨r119, rfl, Nq119, e119, hr119⟩ := hQ119
  have N119 := Fr.app N0 Nq119
  show own_Go p e below (T119.setTop (mkF m 6 #[.val (.ref x), .val (.int ch)] [(.int r119)])) _
  refine own_fin (v := (some (.int r119))) X119 (fun h => by rw [hrt] at h; cases h) hlk (fun fs hr => retI X119 hx hrt (hb hby d_jdk_42_m79_6) hr) (QQ := QIx cs ch h0 n0) ?_ (by decide) (by decide)
  rw [e119]
  exact ⟨_, rfl, N119, rfl, hr119⟩

theorem d_m3_0 : decode method_3_code 0 = .ok (.iload_n 0, 1) := by decide +kernel
theorem d_m3_1 : decode method_3_code 1 = .ok (.bipush 42, 2) := by decide +kernel
theorem d_m3_3 : decode method_3_code 3 = .ok (.if_icmp .eq 9, 3) := by decide +kernel
theorem d_m3_12 : decode method_3_code 12 = .ok (.iconst 1, 1) := by decide +kernel
theorem d_m3_13 : decode method_3_code 13 = .ok (.goto 4, 3) := by decide +kernel
theorem d_m3_17 : decode method_3_code 17 = .ok (.ireturn, 1) := by decide +kernel
theorem d_m3_6 : decode method_3_code 6 = .ok (.iload_n 0, 1) := by decide +kernel
theorem d_m3_7 : decode method_3_code 7 = .ok (.bipush 63, 2) := by decide +kernel
theorem d_m3_9 : decode method_3_code 9 = .ok (.if_icmp .ne 7, 3) := by decide +kernel
theorem d_m3_16 : decode method_3_code 16 = .ok (.iconst 0, 1) := by decide +kernel
theorem pn_4 : plainName "com/example/rolelattice/rolelattice/decision/CatalogIsExpressionPinLaw" = true := by first | (simp [plainName, overriddenIn]; done) | decide +kernel
theorem ef_rm_wild (m : MethodId) (x0 : Int32) : entryFrame m #[(.int x0)] 1 = mkF m 0 #[.val (.int x0)] [] := by
   first | (simp [entryFrame, mkF, argsToLocals, Value.category]; done) | rfl
set_option maxRecDepth 65536 in
set_option maxHeartbeats 40000000 in
theorem rm_wild (l : Launch) (Z : State) (a0 : Array Value) (hw : ∀ d ∈ tables_1, d.before a0 Z = true) (ws : List Jvm.Cond) (c : Int32) (h0 : Heap) (n0 : Nat) (O0 : Old Z n0 h0) :
    MetFree l (⟨"com/example/rolelattice/rolelattice/decision/CatalogIsExpressionPinLaw", "wild", "(C)Z"⟩ : MethodName) (head1 (Jvm.Cond.code (⟨"com/example/rolelattice/rolelattice/decision/CatalogIsExpressionPinLaw", "wild", "(C)Z"⟩ : MethodName) method_3_code 1 (some .boolean) :: ws) ({ frames := 0, cells := 0, slots := 0, locals := 0 } : Room)) (fun aA U => aA = #[(.int c)] ∧ Z.Warmed39 U.vm ∧ U.heap = h0) (fun _ _ _ _ _ => True) (fun _ U oO U' => ∃ rV rL, oO = .returned rV ∧ QPure (some (.int (own_wild c))) h0 n0 rV U'.heap rL ∧ FrameEnd U oO U' rL 0 0) := by
  refine MetFree.of_bodySF (plainFor_of_name pn_4) hisR ?_
  intro p e s m args below meth cC s₁ Bd hml0 hP hK
  obtain ⟨rfl, hZ, hh⟩ := hP
  have hx := Bd.exec
  have hby := Bd.bytes
  have hml : cC.maxLocals = 1 := hml0
  have hown : s.vm.findClass "com/example/rolelattice/rolelattice/decision/CatalogIsExpressionPinLaw" = some m.cls := findClass_of_methodNamed Bd.named
  have hnm := (name_of_methodNamed Bd.named Bd.method).1
  have hrt := Bd.returns
  have hlk : meth.locks = false := Bd.notSynchronized
  have X0 : Stand p l e ({ frames := 0, cells := 0, slots := 0, locals := 0 } : Room) s m #[(.int c)] below meth cC s₁ [] 0 0 := Stand.of_body Bd
  have e0 : s₁.heap = h0 := by rw [← hh, Bd.state]; rfl
  have N0 := Fr.nil n0
  have Z0 : n0 ≤ h0.size := O0.1 ▸ O0.2.1
  show own_Go p e below (s₁.setTop (entryFrame m #[(.int c)] 1)) (fun oO U' => ∃ rV rL, oO = .returned rV ∧ QPure (some (.int (own_wild c))) h0 n0 rV U'.heap rL ∧ FrameEnd s oO U' rL 0 0)
  refine own_go (fun _ k => castTop (ef_rm_wild m c) k) ?_
  show own_Go p e below (s₁.setTop (mkF m 0 #[.val (.int c)] [])) _
  refine own_go (fun _ k => XS.iloadN X0.here hx rfl (hb hby d_m3_0) rfl k) ?_
  show own_Go p e below (s₁.setTop (mkF m 1 #[.val (.int c)] [(.int c)])) _
  refine own_go (fun _ k => XS.bipush X0.here hx rfl (hb hby d_m3_1) k) ?_
  show own_Go p e below (s₁.setTop (mkF m 3 #[.val (.int c)] [(.int (42 : Int32)), (.int c)])) _
  by_cases hc120 : c = (42 : Int32)
  · skip
    refine own_go (fun _ k => XS.icmpYes X0.here hx rfl (pc0 := 3) (pc' := 12) rfl (hb hby d_m3_3) rfl (teq hc120).1 (by decide) (by decide) k) ?_
    show own_Go p e below (s₁.setTop (mkF m 12 #[.val (.int c)] [])) _
    refine own_go (fun _ k => XS.iconst X0.here hx rfl (hb hby d_m3_12) k) ?_
    show own_Go p e below (s₁.setTop (mkF m 13 #[.val (.int c)] [(.int (1 : Int32))])) _
    refine own_go (fun _ k => XS.goto X0.here hx rfl (pc0 := 13) (pc' := 17) rfl (hb hby d_m3_13) (by decide) (by decide) k) ?_
    show own_Go p e below (s₁.setTop (mkF m 17 #[.val (.int c)] [(.int (1 : Int32))])) _
    refine own_fin (v := (some (.int (nar .boolean (1 : Int32))))) X0 (fun h => by rw [hrt] at h; cases h) hlk (fun fs hr => retN X0 hx (t := .boolean) hrt (by simp) (hb hby d_m3_17) hr) (QQ := QPure (some (.int (own_wild c))) h0 n0) ?_ (by decide) (by decide)
    rw [e0]
    exact ⟨by unfold own_wild; rw [if_pos hc120]; rfl, N0, rfl⟩
  · skip
    refine own_go (fun _ k => XS.icmpNo X0.here hx rfl (hb hby d_m3_3) rfl (feq hc120).1 k) ?_
    show own_Go p e below (s₁.setTop (mkF m 6 #[.val (.int c)] [])) _
    refine own_go (fun _ k => XS.iloadN X0.here hx rfl (hb hby d_m3_6) rfl k) ?_
    show own_Go p e below (s₁.setTop (mkF m 7 #[.val (.int c)] [(.int c)])) _
    refine own_go (fun _ k => XS.bipush X0.here hx rfl (hb hby d_m3_7) k) ?_
    show own_Go p e below (s₁.setTop (mkF m 9 #[.val (.int c)] [(.int (63 : Int32)), (.int c)])) _
    by_cases hc121 : c = (63 : Int32)
    · skip
      refine own_go (fun _ k => XS.icmpNo X0.here hx rfl (hb hby d_m3_9) rfl (teq hc121).2 k) ?_
      show own_Go p e below (s₁.setTop (mkF m 12 #[.val (.int c)] [])) _
      refine own_go (fun _ k => XS.iconst X0.here hx rfl (hb hby d_m3_12) k) ?_
      show own_Go p e below (s₁.setTop (mkF m 13 #[.val (.int c)] [(.int (1 : Int32))])) _
      refine own_go (fun _ k => XS.goto X0.here hx rfl (pc0 := 13) (pc' := 17) rfl (hb hby d_m3_13) (by decide) (by decide) k) ?_
      show own_Go p e below (s₁.setTop (mkF m 17 #[.val (.int c)] [(.int (1 : Int32))])) _
      refine own_fin (v := (some (.int (nar .boolean (1 : Int32))))) X0 (fun h => by rw [hrt] at h; cases h) hlk (fun fs hr => retN X0 hx (t := .boolean) hrt (by simp) (hb hby d_m3_17) hr) (QQ := QPure (some (.int (own_wild c))) h0 n0) ?_ (by decide) (by decide)
      rw [e0]
      exact ⟨by unfold own_wild; rw [if_neg hc120, if_pos hc121]; rfl, N0, rfl⟩
    · skip
      refine own_go (fun _ k => XS.icmpYes X0.here hx rfl (pc0 := 9) (pc' := 16) rfl (hb hby d_m3_9) rfl (feq hc121).2 (by decide) (by decide) k) ?_
      show own_Go p e below (s₁.setTop (mkF m 16 #[.val (.int c)] [])) _
      refine own_go (fun _ k => XS.iconst X0.here hx rfl (hb hby d_m3_16) k) ?_
      show own_Go p e below (s₁.setTop (mkF m 17 #[.val (.int c)] [(.int (0 : Int32))])) _
      refine own_fin (v := (some (.int (nar .boolean (0 : Int32))))) X0 (fun h => by rw [hrt] at h; cases h) hlk (fun fs hr => retN X0 hx (t := .boolean) hrt (by simp) (hb hby d_m3_17) hr) (QQ := QPure (some (.int (own_wild c))) h0 n0) ?_ (by decide) (by decide)
      rw [e0]
      exact ⟨by unfold own_wild; rw [if_neg hc120, if_neg hc121]; rfl, N0, rfl⟩

theorem d_prog_11_m3_0 : decode prog_11_method_3_code 0 = .ok (.aload_n 0, 1) := by decide +kernel
theorem d_prog_11_m3_1 : decode prog_11_method_3_code 1 = .ok (.bipush 42, 2) := by decide +kernel
theorem d_prog_11_m3_3 : decode prog_11_method_3_code 3 = .ok (.invokevirtual 118, 3) := by decide +kernel
theorem d_prog_11_m3_6 : decode prog_11_method_3_code 6 = .ok (.ifCond .ge 12, 3) := by decide +kernel
theorem d_prog_11_m3_9 : decode prog_11_method_3_code 9 = .ok (.aload_n 0, 1) := by decide +kernel
theorem d_prog_11_m3_10 : decode prog_11_method_3_code 10 = .ok (.bipush 63, 2) := by decide +kernel
theorem d_prog_11_m3_12 : decode prog_11_method_3_code 12 = .ok (.invokevirtual 118, 3) := by decide +kernel
theorem d_prog_11_m3_15 : decode prog_11_method_3_code 15 = .ok (.ifCond .lt 7, 3) := by decide +kernel
theorem d_prog_11_m3_22 : decode prog_11_method_3_code 22 = .ok (.iconst 0, 1) := by decide +kernel
theorem d_prog_11_m3_23 : decode prog_11_method_3_code 23 = .ok (.ireturn, 1) := by decide +kernel
theorem d_prog_11_m3_18 : decode prog_11_method_3_code 18 = .ok (.iconst 1, 1) := by decide +kernel
theorem d_prog_11_m3_19 : decode prog_11_method_3_code 19 = .ok (.goto 4, 3) := by decide +kernel
theorem pn_5 : plainName "com/example/rolelattice/rolelattice/decision/Catalog" = true := by first | (simp [plainName, overriddenIn]; done) | decide +kernel
theorem ef_rm_ise (m : MethodId) (x0 : Addr) : entryFrame m #[(.ref x0)] 1 = mkF m 0 #[.val (.ref x0)] [] := by
   first | (simp [entryFrame, mkF, argsToLocals, Value.category]; done) | rfl
set_option maxRecDepth 65536 in
set_option maxHeartbeats 40000000 in
theorem rm_ise (l : Launch) (Z : State) (a0 : Array Value) (hw : ∀ d ∈ tables_1, d.before a0 Z = true) (ws : List Jvm.Cond) (x : Addr) (t : Addr) (k : ClassId) (cs : List Int32) (cd : Int32) (N2 : Int32) (vs : List Value) (G1 : Int32) (G3 : Value) (h0 : Heap) (n0 : Nat) (O0 : Old Z n0 h0) (O2 : Sta Z Z.heap "java/lang/String" "COMPACT_STRINGS" "Z" (.int G1)) (P5 : ¬ (G1 = (0 : Int32))) (O4 : Sta Z Z.heap "jdk/internal/util/Preconditions" "SIOOBE_FORMATTER" "Ljava/util/function/BiFunction;" G3) (rG3 : G3.isRef = true) (OA : Sta Z Z.heap "java/lang/StringUTF16" "$assertionsDisabled" "Z" (.int (1 : Int32))) (OH : Sta Z Z.heap "java/lang/StringUTF16" "HI_BYTE_SHIFT" "I" (.int (0 : Int32))) (OL : Sta Z Z.heap "java/lang/StringUTF16" "LO_BYTE_SHIFT" "I" (.int (8 : Int32))) (E_x : Exa Z h0 x "java/lang/String") (Fv_x : Fld Z h0 x "java/lang/String" "value" "[B" (.ref t)) (Fc_x : Fld Z h0 x "java/lang/String" "coder" "B" (.int cd)) (V_t : Arv Z h0 t k .byte N2 vs (.int (0 : Int32))) (hC : StrChars.Road.CodA cs cd N2 vs) (hok : own_Ok cs) :
    MetFree l (⟨"com/example/rolelattice/rolelattice/decision/Catalog", "isExpression", "(Ljava/lang/String;)Z"⟩ : MethodName) (head1 (Jvm.Cond.code (⟨"com/example/rolelattice/rolelattice/decision/Catalog", "isExpression", "(Ljava/lang/String;)Z"⟩ : MethodName) prog_11_method_3_code 1 (some .boolean) :: ws) ({ frames := 7, cells := 0, slots := 0, locals := 100 } : Room)) (fun aA U => aA = #[(.ref x)] ∧ Z.Warmed39 U.vm ∧ U.heap = h0) (fun _ _ _ _ _ => True) (fun _ U oO U' => ∃ rV rL, oO = .returned rV ∧ QPure (some (.int (own_ise cs))) h0 n0 rV U'.heap rL ∧ FrameEnd U oO U' rL 0 0) := by
  refine MetFree.of_bodySF (plainFor_of_name pn_5) hisR ?_
  intro p e s m args below meth cC s₁ Bd hml0 hP hK
  obtain ⟨rfl, hZ, hh⟩ := hP
  have hx := Bd.exec
  have hby := Bd.bytes
  have hml : cC.maxLocals = 1 := hml0
  have hown : s.vm.findClass "com/example/rolelattice/rolelattice/decision/Catalog" = some m.cls := findClass_of_methodNamed Bd.named
  have hnm := (name_of_methodNamed Bd.named Bd.method).1
  have hrt := Bd.returns
  have hlk : meth.locks = false := Bd.notSynchronized
  have X0 : Stand p l e ({ frames := 7, cells := 0, slots := 0, locals := 100 } : Room) s m #[(.ref x)] below meth cC s₁ [] 0 0 := Stand.of_body Bd
  have e0 : s₁.heap = h0 := by rw [← hh, Bd.state]; rfl
  have N0 := Fr.nil n0
  have Z0 : n0 ≤ h0.size := O0.1 ▸ O0.2.1
  show own_Go p e below (s₁.setTop (entryFrame m #[(.ref x)] 1)) (fun oO U' => ∃ rV rL, oO = .returned rV ∧ QPure (some (.int (own_ise cs))) h0 n0 rV U'.heap rL ∧ FrameEnd s oO U' rL 0 0)
  refine own_go (fun _ k => castTop (ef_rm_ise m x) k) ?_
  show own_Go p e below (s₁.setTop (mkF m 0 #[.val (.ref x)] [])) _
  refine own_go (fun _ k => XS.aloadN X0.here hx rfl (hb hby d_prog_11_m3_0) rfl rfl k) ?_
  show own_Go p e below (s₁.setTop (mkF m 1 #[.val (.ref x)] [(.ref x)])) _
  refine own_go (fun _ k => XS.bipush X0.here hx rfl (hb hby d_prog_11_m3_1) k) ?_
  show own_Go p e below (s₁.setTop (mkF m 3 #[.val (.ref x)] [(.int (42 : Int32)), (.ref x)])) _
  obtain ⟨cq122, kq122, q122a, q122b, q122c⟩ := isOf hZ e0 E_x
  obtain ⟨v122, _, ⟨T122, L122, k122, n122⟩, -, X122, ⟨Lc122, hQ122, l122, y122, z122⟩, st122⟩ := X0.virtualBack hx (y := (⟨"java/lang/String", "indexOf", "(I)I"⟩ : MethodName)) (z := (⟨"java/lang/String", "indexOf", "(I)I"⟩ : MethodName)) hown (mvT hZ (hw _ (List.mem_of_getElem? (i := 40) rfl))) (mvT hZ (hw _ (List.mem_of_getElem? (i := 41) rfl))) (notFace_of_selects (args := #[]) (mvT hZ (hw _ (List.mem_of_getElem? (i := 43) rfl)))) (mvT hZ (hw _ (List.mem_of_getElem? (i := 43) rfl))) (mvT hZ (hw _ (List.mem_of_getElem? (i := 42) rfl))) (by decide) (backOf (W := 0) (rm_six l Z a0 hw [] x t k cs (42 : Int32) cd N2 vs G1 G3 h0 n0 O0 O2 P5 O4 rG3 OA OH OL E_x Fv_x Fc_x V_t hC hok (by decide) (by decide)) hZ (hw _ (List.mem_of_getElem? (i := 44) rfl)) (hw _ (List.mem_of_getElem? (i := 5) rfl)) (by decide) (by decide)) q122a q122c (g := (mkF m 3 #[.val (.ref x)] [(.int (42 : Int32)), (.ref x)])) rfl (by rw [hml]; rfl) (Steps.refl _) (argsL := [(.int (42 : Int32))]) (rest := []) (lenOf pd_1 rfl) rfl (by show 2 * 0 + _ ≤ _; exact Nat.le_of_eq rfl) (hb hby d_prog_11_m3_3) (fun _ _ => ⟨rfl, e0, (by decide : 0 + 0 ≤ _), (by decide : 0 + 0 ≤ _)⟩)
  dsimp only [Pt.U, Pt.locs, Pt.cells, Pt.slots] at X122 l122 y122 z122 st122 hQ122
  subst l122 y122 z122
  refine own_gos st122 ?_
  obtain ⟨r122, rfl, Nq122, e122, hr122⟩ := hQ122
  have N122 := Fr.app N0 Nq122
  show own_Go p e below (T122.setTop (mkF m 6 #[.val (.ref x)] [(.int r122)])) _
  by_cases hc123 : r122 < (0 : Int32)
  · skip
    refine own_go (fun _ k => XS.ifNo X122.here hx rfl (hb hby d_prog_11_m3_6) rfl ((if0 _ _).trans (tlt hc123).2.1) k) ?_
    show own_Go p e below (T122.setTop (mkF m 9 #[.val (.ref x)] [])) _
    refine own_go (fun _ k => XS.aloadN X122.here hx rfl (hb hby d_prog_11_m3_9) rfl rfl k) ?_
    show own_Go p e below (T122.setTop (mkF m 10 #[.val (.ref x)] [(.ref x)])) _
    refine own_go (fun _ k => XS.bipush X122.here hx rfl (hb hby d_prog_11_m3_10) k) ?_
    show own_Go p e below (T122.setTop (mkF m 12 #[.val (.ref x)] [(.int (63 : Int32)), (.ref x)])) _
    obtain ⟨cq124, kq124, q124a, q124b, q124c⟩ := isOf hZ e122 E_x
    obtain ⟨v124, _, ⟨T124, L124, k124, n124⟩, -, X124, ⟨Lc124, hQ124, l124, y124, z124⟩, st124⟩ := X122.virtualBack hx (y := (⟨"java/lang/String", "indexOf", "(I)I"⟩ : MethodName)) (z := (⟨"java/lang/String", "indexOf", "(I)I"⟩ : MethodName)) hown (mvT hZ (hw _ (List.mem_of_getElem? (i := 40) rfl))) (mvT hZ (hw _ (List.mem_of_getElem? (i := 41) rfl))) (notFace_of_selects (args := #[]) (mvT hZ (hw _ (List.mem_of_getElem? (i := 43) rfl)))) (mvT hZ (hw _ (List.mem_of_getElem? (i := 43) rfl))) (mvT hZ (hw _ (List.mem_of_getElem? (i := 42) rfl))) (by decide) (backOf (W := 0) (rm_six l Z a0 hw [] x t k cs (63 : Int32) cd N2 vs G1 G3 h0 n0 O0 O2 P5 O4 rG3 OA OH OL E_x Fv_x Fc_x V_t hC hok (by decide) (by decide)) hZ (hw _ (List.mem_of_getElem? (i := 44) rfl)) (hw _ (List.mem_of_getElem? (i := 5) rfl)) (by decide) (by decide)) q124a q124c (g := (mkF m 12 #[.val (.ref x)] [(.int (63 : Int32)), (.ref x)])) rfl (by rw [hml]; rfl) (Steps.refl _) (argsL := [(.int (63 : Int32))]) (rest := []) (lenOf pd_1 rfl) rfl (by show 2 * 0 + _ ≤ _; exact Nat.le_of_eq rfl) (hb hby d_prog_11_m3_12) (fun _ _ => ⟨rfl, e122, (by decide : 0 + 0 ≤ _), (by decide : 0 + 0 ≤ _)⟩)
    dsimp only [Pt.U, Pt.locs, Pt.cells, Pt.slots] at X124 l124 y124 z124 st124 hQ124
    subst l124 y124 z124
    refine own_gos st124 ?_
    obtain ⟨r124, rfl, Nq124, e124, hr124⟩ := hQ124
    have N124 := Fr.app N122 Nq124
    show own_Go p e below (T124.setTop (mkF m 15 #[.val (.ref x)] [(.int r124)])) _
    by_cases hc125 : r124 < (0 : Int32)
    · skip
      refine own_go (fun _ k => XS.ifYes X124.here hx rfl (pc0 := 15) (pc' := 22) rfl (hb hby d_prog_11_m3_15) rfl ((if0 _ _).trans (tlt hc125).1) (by decide) (by decide) k) ?_
      show own_Go p e below (T124.setTop (mkF m 22 #[.val (.ref x)] [])) _
      refine own_go (fun _ k => XS.iconst X124.here hx rfl (hb hby d_prog_11_m3_22) k) ?_
      show own_Go p e below (T124.setTop (mkF m 23 #[.val (.ref x)] [(.int (0 : Int32))])) _
      refine own_fin (v := (some (.int (nar .boolean (0 : Int32))))) X124 (fun h => by rw [hrt] at h; cases h) hlk (fun fs hr => retN X124 hx (t := .boolean) hrt (by simp) (hb hby d_prog_11_m3_23) hr) (QQ := QPure (some (.int (own_ise cs))) h0 n0) ?_ (by decide) (by decide)
      rw [e124]
      exact ⟨by unfold own_ise; rw [if_neg (own_ixn hr122 hc123), if_neg (own_ixn hr124 hc125)]; rfl, N124, rfl⟩
    · skip
      refine own_go (fun _ k => XS.ifNo X124.here hx rfl (hb hby d_prog_11_m3_15) rfl ((if0 _ _).trans (flt hc125).1) k) ?_
      show own_Go p e below (T124.setTop (mkF m 18 #[.val (.ref x)] [])) _
      refine own_go (fun _ k => XS.iconst X124.here hx rfl (hb hby d_prog_11_m3_18) k) ?_
      show own_Go p e below (T124.setTop (mkF m 19 #[.val (.ref x)] [(.int (1 : Int32))])) _
      refine own_go (fun _ k => XS.goto X124.here hx rfl (pc0 := 19) (pc' := 23) rfl (hb hby d_prog_11_m3_19) (by decide) (by decide) k) ?_
      show own_Go p e below (T124.setTop (mkF m 23 #[.val (.ref x)] [(.int (1 : Int32))])) _
      refine own_fin (v := (some (.int (nar .boolean (1 : Int32))))) X124 (fun h => by rw [hrt] at h; cases h) hlk (fun fs hr => retN X124 hx (t := .boolean) hrt (by simp) (hb hby d_prog_11_m3_23) hr) (QQ := QPure (some (.int (own_ise cs))) h0 n0) ?_ (by decide) (by decide)
      rw [e124]
      exact ⟨by unfold own_ise; rw [if_neg (own_ixn hr122 hc123), if_pos (own_ixy hr124 hc125)]; rfl, N124, rfl⟩
  · skip
    refine own_go (fun _ k => XS.ifYes X122.here hx rfl (pc0 := 6) (pc' := 18) rfl (hb hby d_prog_11_m3_6) rfl ((if0 _ _).trans (flt hc123).2.1) (by decide) (by decide) k) ?_
    show own_Go p e below (T122.setTop (mkF m 18 #[.val (.ref x)] [])) _
    refine own_go (fun _ k => XS.iconst X122.here hx rfl (hb hby d_prog_11_m3_18) k) ?_
    show own_Go p e below (T122.setTop (mkF m 19 #[.val (.ref x)] [(.int (1 : Int32))])) _
    refine own_go (fun _ k => XS.goto X122.here hx rfl (pc0 := 19) (pc' := 23) rfl (hb hby d_prog_11_m3_19) (by decide) (by decide) k) ?_
    show own_Go p e below (T122.setTop (mkF m 23 #[.val (.ref x)] [(.int (1 : Int32))])) _
    refine own_fin (v := (some (.int (nar .boolean (1 : Int32))))) X122 (fun h => by rw [hrt] at h; cases h) hlk (fun fs hr => retN X122 hx (t := .boolean) hrt (by simp) (hb hby d_prog_11_m3_23) hr) (QQ := QPure (some (.int (own_ise cs))) h0 n0) ?_ (by decide) (by decide)
    rw [e122]
    exact ⟨by unfold own_ise; rw [if_pos (own_ixy hr122 hc123)]; rfl, N122, rfl⟩

theorem own_okL0  : own_Ok ([] : List Int32) := ⟨fun c hc => by simp only [List.mem_cons, List.not_mem_nil, or_false] at hc, Nat.le_of_ble_eq_true rfl⟩
theorem own_okL1 {c1 : Int32} (b_c1 : ¬ c1 < 0 ∧ ¬ (65535 : Int32) < c1) : own_Ok ([c1] : List Int32) := ⟨fun c hc => by simp only [List.mem_cons, List.not_mem_nil, or_false] at hc; rcases hc with rfl <;> assumption, Nat.le_of_ble_eq_true rfl⟩
theorem own_okL2 {c1 c2 : Int32} (b_c1 : ¬ c1 < 0 ∧ ¬ (65535 : Int32) < c1) (b_c2 : ¬ c2 < 0 ∧ ¬ (65535 : Int32) < c2) : own_Ok ([c1, c2] : List Int32) := ⟨fun c hc => by simp only [List.mem_cons, List.not_mem_nil, or_false] at hc; rcases hc with rfl | rfl <;> assumption, Nat.le_of_ble_eq_true rfl⟩
theorem own_okL3 {c1 c2 c3 : Int32} (b_c1 : ¬ c1 < 0 ∧ ¬ (65535 : Int32) < c1) (b_c2 : ¬ c2 < 0 ∧ ¬ (65535 : Int32) < c2) (b_c3 : ¬ c3 < 0 ∧ ¬ (65535 : Int32) < c3) : own_Ok ([c1, c2, c3] : List Int32) := ⟨fun c hc => by simp only [List.mem_cons, List.not_mem_nil, or_false] at hc; rcases hc with rfl | rfl | rfl <;> assumption, Nat.le_of_ble_eq_true rfl⟩
theorem own_okL4 {c1 c2 c3 c4 : Int32} (b_c1 : ¬ c1 < 0 ∧ ¬ (65535 : Int32) < c1) (b_c2 : ¬ c2 < 0 ∧ ¬ (65535 : Int32) < c2) (b_c3 : ¬ c3 < 0 ∧ ¬ (65535 : Int32) < c3) (b_c4 : ¬ c4 < 0 ∧ ¬ (65535 : Int32) < c4) : own_Ok ([c1, c2, c3, c4] : List Int32) := ⟨fun c hc => by simp only [List.mem_cons, List.not_mem_nil, or_false] at hc; rcases hc with rfl | rfl | rfl | rfl <;> assumption, Nat.le_of_ble_eq_true rfl⟩
theorem own_okL5 {c1 c2 c3 c4 c5 : Int32} (b_c1 : ¬ c1 < 0 ∧ ¬ (65535 : Int32) < c1) (b_c2 : ¬ c2 < 0 ∧ ¬ (65535 : Int32) < c2) (b_c3 : ¬ c3 < 0 ∧ ¬ (65535 : Int32) < c3) (b_c4 : ¬ c4 < 0 ∧ ¬ (65535 : Int32) < c4) (b_c5 : ¬ c5 < 0 ∧ ¬ (65535 : Int32) < c5) : own_Ok ([c1, c2, c3, c4, c5] : List Int32) := ⟨fun c hc => by simp only [List.mem_cons, List.not_mem_nil, or_false] at hc; rcases hc with rfl | rfl | rfl | rfl | rfl <;> assumption, Nat.le_of_ble_eq_true rfl⟩
theorem own_okL6 {c1 c2 c3 c4 c5 c6 : Int32} (b_c1 : ¬ c1 < 0 ∧ ¬ (65535 : Int32) < c1) (b_c2 : ¬ c2 < 0 ∧ ¬ (65535 : Int32) < c2) (b_c3 : ¬ c3 < 0 ∧ ¬ (65535 : Int32) < c3) (b_c4 : ¬ c4 < 0 ∧ ¬ (65535 : Int32) < c4) (b_c5 : ¬ c5 < 0 ∧ ¬ (65535 : Int32) < c5) (b_c6 : ¬ c6 < 0 ∧ ¬ (65535 : Int32) < c6) : own_Ok ([c1, c2, c3, c4, c5, c6] : List Int32) := ⟨fun c hc => by simp only [List.mem_cons, List.not_mem_nil, or_false] at hc; rcases hc with rfl | rfl | rfl | rfl | rfl | rfl <;> assumption, Nat.le_of_ble_eq_true rfl⟩
theorem own_cod0 : StrChars.Road.CodA ([] : List Int32) 0 0 [] := Or.inl ⟨rfl, rfl, rfl, fun c hc => nomatch hc⟩
def QQ0 (n0 : Nat) (v : Option Value) (h : Heap) (L : List Loc) : Prop := v = some (.int 1) ∧ Fr n0 L
theorem pd_17 : parseMethodDescriptor "(Ljava/lang/String;)Z" = some ⟨[(.object "java/lang/String")], some .boolean⟩ := by decide +kernel
set_option maxRecDepth 65536 in
set_option maxHeartbeats 40000000 in
theorem own_end0 (l : Launch) (Z : State) (a0 : Array Value) (hw : ∀ d ∈ tables_1, d.before a0 Z = true) (p1 : Int32) (p2 : Int32) (p3 : Int32) (p4 : Int32) (nv : Int32) (c1 : Int32) (c2 : Int32) (c3 : Int32) (c4 : Int32) (c5 : Int32) (c6 : Int32) (ar : Addr) (ee : Int32) (x : Addr) (t : Addr) (kt : ClassId) (cs : List Int32) (cd : Int32) (N2 : Int32) (vs : List Value) (G1 : Int32) (G3 : Value) (h0 : Heap) (n0 : Nat) {p : Program} {e : Env} {s : State} {vm0 : Vm} {m : MethodId} {below : List Frame} {meth : Method} {cC : Code} {T0 : State} {locs : List Loc} (X0 : Stand p l e room_1 (s.setVm vm0) m #[(.int p1), (.int p2), (.int p3), (.int p4)] below meth cC T0 locs 6 12) (hx : p.tables.exec = Jvm.exec) (hby : cC.code = code) (hml : cC.maxLocals = maxLocals) (hown : (s.setVm vm0).vm.findClass "com/example/rolelattice/rolelattice/decision/CatalogIsExpressionPinLaw" = some m.cls) (hZ : Z.Warmed39 (s.setVm vm0).vm) (hrt : meth.sig.returnType = ret) (hlk : meth.locks = false) (h1 : Heap) (e0 : T0.heap = h1) (N0 : Fr n0 locs) (Z0 : n0 ≤ h1.size) (O1 : Old Z n0 h1) (hh : s.heap = h0) {k0 : Nat} (hS0 : s.Since vm0 k0) (hk0 : k0 ≤ h1.size) (C0 : CHr Z own_EL s.vm h0 vm0 h1) (E_x : Exa Z h1 x "java/lang/String") (Fv_x : Fld Z h1 x "java/lang/String" "value" "[B" (.ref t)) (Fc_x : Fld Z h1 x "java/lang/String" "coder" "B" (.int cd)) (V_t : Arv Z h1 t kt .byte N2 vs (.int (0 : Int32))) (O2 : Sta Z Z.heap "java/lang/String" "COMPACT_STRINGS" "Z" (.int G1)) (P5 : ¬ (G1 = (0 : Int32))) (O4 : Sta Z Z.heap "jdk/internal/util/Preconditions" "SIOOBE_FORMATTER" "Ljava/util/function/BiFunction;" G3) (rG3 : G3.isRef = true) (OA : Sta Z Z.heap "java/lang/StringUTF16" "$assertionsDisabled" "Z" (.int (1 : Int32))) (OH : Sta Z Z.heap "java/lang/StringUTF16" "HI_BYTE_SHIFT" "I" (.int (0 : Int32))) (OL : Sta Z Z.heap "java/lang/StringUTF16" "LO_BYTE_SHIFT" "I" (.int (8 : Int32))) (hC : StrChars.Road.CodA cs cd N2 vs) (hok : own_Ok cs) (hee : (own_ise cs) = ee) :
    own_Go p e below (T0.setTop (mkF m 229 #[.val (.int p1), .val (.int p2), .val (.int p3), .val (.int p4), .val (.int nv), .val (.int c1), .val (.int c2), .val (.int c3), .val (.int c4), .val (.int c5), .val (.int c6), .val (.ref ar), .val (.ref x), .val (.int ee)] [])) (fun oO U' => ∃ rV rL, oO = .returned rV ∧ QQ0 n0 rV U'.heap rL ∧ CHr Z own_EL s.vm s.heap U'.vm U'.heap ∧ ReturnedEndW s oO U' rL 24 1152) := by
  have own_wS := own_wSt hw
  have own_hEL := own_hELt hw
  show own_Go p e below (T0.setTop (mkF m 229 #[.val (.int p1), .val (.int p2), .val (.int p3), .val (.int p4), .val (.int nv), .val (.int c1), .val (.int c2), .val (.int c3), .val (.int c4), .val (.int c5), .val (.int c6), .val (.ref ar), .val (.ref x), .val (.int ee)] [])) _
  refine own_go (fun _ k => XS.aload X0.here hx rfl (hb hby at_229) rfl rfl k) ?_
  show own_Go p e below (T0.setTop (mkF m 231 #[.val (.int p1), .val (.int p2), .val (.int p3), .val (.int p4), .val (.int nv), .val (.int c1), .val (.int c2), .val (.int c3), .val (.int c4), .val (.int c5), .val (.int c6), .val (.ref ar), .val (.ref x), .val (.int ee)] [(.ref x)])) _
  obtain ⟨v126, _, ⟨T126, L126, k126, n126⟩, -, X126, ⟨Lc126, hQ126, l126, y126, z126⟩, st126⟩ := Jvm.LawKit.callS X0 hx (y := (⟨"com/example/rolelattice/rolelattice/decision/Catalog", "isExpression", "(Ljava/lang/String;)Z"⟩ : MethodName)) hown (mvT hZ (hw _ (List.mem_of_getElem? (i := 36) rfl))) (mvT hZ (hw _ (List.mem_of_getElem? (i := 37) rfl))) (mvT hZ (hw _ (List.mem_of_getElem? (i := 38) rfl))) (mvT hZ (hw _ (List.mem_of_getElem? (i := 39) rfl))) (by decide) (backOf (W := 0) (rm_ise l Z a0 hw [] x t kt cs cd N2 vs G1 G3 h1 n0 O1 O2 P5 O4 rG3 OA OH OL E_x Fv_x Fc_x V_t hC hok) hZ (hw _ (List.mem_of_getElem? (i := 39) rfl)) (hw _ (List.mem_of_getElem? (i := 38) rfl)) (by decide) (by decide)) (g := (mkF m 231 #[.val (.int p1), .val (.int p2), .val (.int p3), .val (.int p4), .val (.int nv), .val (.int c1), .val (.int c2), .val (.int c3), .val (.int c4), .val (.int c5), .val (.int c6), .val (.ref ar), .val (.ref x), .val (.int ee)] [(.ref x)])) rfl (by rw [hml]; rfl) (argsL := [(.ref x)]) (rest := []) (lenOf pd_17 rfl) rfl (by show 2 * 0 + _ ≤ _; exact Nat.le_of_eq rfl) (hb hby at_231) (fun _ _ => ⟨rfl, e0, (by decide : 6 + 0 ≤ _), (by decide : 12 + 0 ≤ _)⟩)
  dsimp only [Pt.U, Pt.locs, Pt.cells, Pt.slots] at X126 l126 y126 z126 st126 hQ126
  subst l126 y126 z126
  refine own_go st126 ?_
  obtain ⟨rfl, Nq126, e126⟩ := hQ126
  have N126 := Fr.app N0 Nq126
  show own_Go p e below (T126.setTop (mkF m 234 #[.val (.int p1), .val (.int p2), .val (.int p3), .val (.int p4), .val (.int nv), .val (.int c1), .val (.int c2), .val (.int c3), .val (.int c4), .val (.int c5), .val (.int c6), .val (.ref ar), .val (.ref x), .val (.int ee)] [(.int (own_ise cs))])) _
  refine own_go (fun _ k => XS.iload X126.here hx rfl (hb hby at_234) rfl k) ?_
  show own_Go p e below (T126.setTop (mkF m 236 #[.val (.int p1), .val (.int p2), .val (.int p3), .val (.int p4), .val (.int nv), .val (.int c1), .val (.int c2), .val (.int c3), .val (.int c4), .val (.int c5), .val (.int c6), .val (.ref ar), .val (.ref x), .val (.int ee)] [(.int ee), (.int (own_ise cs))])) _
  refine own_go (fun _ k => XS.icmpNo X126.here hx rfl (hb hby at_236) rfl (teq hee).2 k) ?_
  show own_Go p e below (T126.setTop (mkF m 239 #[.val (.int p1), .val (.int p2), .val (.int p3), .val (.int p4), .val (.int nv), .val (.int c1), .val (.int c2), .val (.int c3), .val (.int c4), .val (.int c5), .val (.int c6), .val (.ref ar), .val (.ref x), .val (.int ee)] [])) _
  refine own_go (fun _ k => XS.iconst X126.here hx rfl (hb hby at_239) k) ?_
  show own_Go p e below (T126.setTop (mkF m 240 #[.val (.int p1), .val (.int p2), .val (.int p3), .val (.int p4), .val (.int nv), .val (.int c1), .val (.int c2), .val (.int c3), .val (.int c4), .val (.int c5), .val (.int c6), .val (.ref ar), .val (.ref x), .val (.int ee)] [(.int (1 : Int32))])) _
  refine own_go (fun _ k => XS.goto X126.here hx rfl (pc0 := 240) (pc' := 244) rfl (hb hby at_240) (by decide) (by decide) k) ?_
  show own_Go p e below (T126.setTop (mkF m 244 #[.val (.int p1), .val (.int p2), .val (.int p3), .val (.int p4), .val (.int nv), .val (.int c1), .val (.int c2), .val (.int c3), .val (.int c4), .val (.int c5), .val (.int c6), .val (.ref ar), .val (.ref x), .val (.int ee)] [(.int (1 : Int32))])) _
  refine own_finW (v := (some (.int (nar .boolean (1 : Int32))))) X126 hh hZ hS0 (by rw [e126]; exact hk0) (fun h => by rw [hrt] at h; cases h) hlk (fun fs hr => retN X126 hx (t := .boolean) hrt (by simp) (hb hby at_244) hr) (QQ := QQ0 n0) ?_ own_hEL e126 (C0) (by decide) (by decide)
  rw [e126]
  exact ⟨rfl, N126⟩

set_option maxRecDepth 65536 in
set_option maxHeartbeats 40000000 in
theorem own_mid0 (l : Launch) (Z : State) (a0 : Array Value) (hw : ∀ d ∈ tables_1, d.before a0 Z = true) (p1 : Int32) (p2 : Int32) (p3 : Int32) (p4 : Int32) (c1 : Int32) (c2 : Int32) (c3 : Int32) (c4 : Int32) (c5 : Int32) (c6 : Int32) (ar : Addr) (x : Addr) (t : Addr) (kt : ClassId) (cd : Int32) (N2 : Int32) (vs : List Value) (G1 : Int32) (G3 : Value) (h0 : Heap) (n0 : Nat) {p : Program} {e : Env} {s : State} {vm0 : Vm} {m : MethodId} {below : List Frame} {meth : Method} {cC : Code} {T0 : State} {locs : List Loc} (X0 : Stand p l e room_1 (s.setVm vm0) m #[(.int p1), (.int p2), (.int p3), (.int p4)] below meth cC T0 locs 6 12) (hx : p.tables.exec = Jvm.exec) (hby : cC.code = code) (hml : cC.maxLocals = maxLocals) (hown : (s.setVm vm0).vm.findClass "com/example/rolelattice/rolelattice/decision/CatalogIsExpressionPinLaw" = some m.cls) (hZ : Z.Warmed39 (s.setVm vm0).vm) (hrt : meth.sig.returnType = ret) (hlk : meth.locks = false) (h1 : Heap) (e0 : T0.heap = h1) (N0 : Fr n0 locs) (Z0 : n0 ≤ h1.size) (O1 : Old Z n0 h1) (hh : s.heap = h0) {k0 : Nat} (hS0 : s.Since vm0 k0) (hk0 : k0 ≤ h1.size) (C0 : CHr Z own_EL s.vm h0 vm0 h1) (E_x : Exa Z h1 x "java/lang/String") (Fv_x : Fld Z h1 x "java/lang/String" "value" "[B" (.ref t)) (Fc_x : Fld Z h1 x "java/lang/String" "coder" "B" (.int cd)) (V_t : Arv Z h1 t kt .byte N2 vs (.int (0 : Int32))) (O2 : Sta Z Z.heap "java/lang/String" "COMPACT_STRINGS" "Z" (.int G1)) (P5 : ¬ (G1 = (0 : Int32))) (O4 : Sta Z Z.heap "jdk/internal/util/Preconditions" "SIOOBE_FORMATTER" "Ljava/util/function/BiFunction;" G3) (rG3 : G3.isRef = true) (OA : Sta Z Z.heap "java/lang/StringUTF16" "$assertionsDisabled" "Z" (.int (1 : Int32))) (OH : Sta Z Z.heap "java/lang/StringUTF16" "HI_BYTE_SHIFT" "I" (.int (0 : Int32))) (OL : Sta Z Z.heap "java/lang/StringUTF16" "LO_BYTE_SHIFT" "I" (.int (8 : Int32))) (hC : StrChars.Road.CodA ([] : List Int32) cd N2 vs) (hok : own_Ok ([] : List Int32)) :
    own_Go p e below (T0.setTop (mkF m 139 #[.val (.int p1), .val (.int p2), .val (.int p3), .val (.int p4), .val (.int (0 : Int32)), .val (.int c1), .val (.int c2), .val (.int c3), .val (.int c4), .val (.int c5), .val (.int c6), .val (.ref ar), .val (.ref x), .unset] [])) (fun oO U' => ∃ rV rL, oO = .returned rV ∧ QQ0 n0 rV U'.heap rL ∧ CHr Z own_EL s.vm s.heap U'.vm U'.heap ∧ ReturnedEndW s oO U' rL 24 1152) := by
  have own_wS := own_wSt hw
  have own_hEL := own_hELt hw
  show own_Go p e below (T0.setTop (mkF m 139 #[.val (.int p1), .val (.int p2), .val (.int p3), .val (.int p4), .val (.int (0 : Int32)), .val (.int c1), .val (.int c2), .val (.int c3), .val (.int c4), .val (.int c5), .val (.int c6), .val (.ref ar), .val (.ref x), .unset] [])) _
  refine own_go (fun _ k => XS.iload X0.here hx rfl (hb hby at_139) rfl k) ?_
  show own_Go p e below (T0.setTop (mkF m 141 #[.val (.int p1), .val (.int p2), .val (.int p3), .val (.int p4), .val (.int (0 : Int32)), .val (.int c1), .val (.int c2), .val (.int c3), .val (.int c4), .val (.int c5), .val (.int c6), .val (.ref ar), .val (.ref x), .unset] [(.int (0 : Int32))])) _
  refine own_go (fun _ k => XS.ifYes X0.here hx rfl (pc0 := 141) (pc' := 152) rfl (hb hby at_141) rfl ((if0 _ _).trans (flt (by decide : ¬ ((0 : Int32) < (0 : Int32)))).2.2.2) (by decide) (by decide) k) ?_
  show own_Go p e below (T0.setTop (mkF m 152 #[.val (.int p1), .val (.int p2), .val (.int p3), .val (.int p4), .val (.int (0 : Int32)), .val (.int c1), .val (.int c2), .val (.int c3), .val (.int c4), .val (.int c5), .val (.int c6), .val (.ref ar), .val (.ref x), .unset] [])) _
  refine own_go (fun _ k => XS.iload X0.here hx rfl (hb hby at_152) rfl k) ?_
  show own_Go p e below (T0.setTop (mkF m 154 #[.val (.int p1), .val (.int p2), .val (.int p3), .val (.int p4), .val (.int (0 : Int32)), .val (.int c1), .val (.int c2), .val (.int c3), .val (.int c4), .val (.int c5), .val (.int c6), .val (.ref ar), .val (.ref x), .unset] [(.int (0 : Int32))])) _
  refine own_go (fun _ k => XS.iconst X0.here hx rfl (hb hby at_154) k) ?_
  show own_Go p e below (T0.setTop (mkF m 155 #[.val (.int p1), .val (.int p2), .val (.int p3), .val (.int p4), .val (.int (0 : Int32)), .val (.int c1), .val (.int c2), .val (.int c3), .val (.int c4), .val (.int c5), .val (.int c6), .val (.ref ar), .val (.ref x), .unset] [(.int (1 : Int32)), (.int (0 : Int32))])) _
  refine own_go (fun _ k => XS.icmpYes X0.here hx rfl (pc0 := 155) (pc' := 166) rfl (hb hby at_155) rfl (flt (by decide : ¬ ((1 : Int32) < (0 : Int32)))).2.2.2 (by decide) (by decide) k) ?_
  show own_Go p e below (T0.setTop (mkF m 166 #[.val (.int p1), .val (.int p2), .val (.int p3), .val (.int p4), .val (.int (0 : Int32)), .val (.int c1), .val (.int c2), .val (.int c3), .val (.int c4), .val (.int c5), .val (.int c6), .val (.ref ar), .val (.ref x), .unset] [])) _
  refine own_go (fun _ k => XS.iload X0.here hx rfl (hb hby at_166) rfl k) ?_
  show own_Go p e below (T0.setTop (mkF m 168 #[.val (.int p1), .val (.int p2), .val (.int p3), .val (.int p4), .val (.int (0 : Int32)), .val (.int c1), .val (.int c2), .val (.int c3), .val (.int c4), .val (.int c5), .val (.int c6), .val (.ref ar), .val (.ref x), .unset] [(.int (0 : Int32))])) _
  refine own_go (fun _ k => XS.iconst X0.here hx rfl (hb hby at_168) k) ?_
  show own_Go p e below (T0.setTop (mkF m 169 #[.val (.int p1), .val (.int p2), .val (.int p3), .val (.int p4), .val (.int (0 : Int32)), .val (.int c1), .val (.int c2), .val (.int c3), .val (.int c4), .val (.int c5), .val (.int c6), .val (.ref ar), .val (.ref x), .unset] [(.int (2 : Int32)), (.int (0 : Int32))])) _
  refine own_go (fun _ k => XS.icmpYes X0.here hx rfl (pc0 := 169) (pc' := 180) rfl (hb hby at_169) rfl (flt (by decide : ¬ ((2 : Int32) < (0 : Int32)))).2.2.2 (by decide) (by decide) k) ?_
  show own_Go p e below (T0.setTop (mkF m 180 #[.val (.int p1), .val (.int p2), .val (.int p3), .val (.int p4), .val (.int (0 : Int32)), .val (.int c1), .val (.int c2), .val (.int c3), .val (.int c4), .val (.int c5), .val (.int c6), .val (.ref ar), .val (.ref x), .unset] [])) _
  refine own_go (fun _ k => XS.iload X0.here hx rfl (hb hby at_180) rfl k) ?_
  show own_Go p e below (T0.setTop (mkF m 182 #[.val (.int p1), .val (.int p2), .val (.int p3), .val (.int p4), .val (.int (0 : Int32)), .val (.int c1), .val (.int c2), .val (.int c3), .val (.int c4), .val (.int c5), .val (.int c6), .val (.ref ar), .val (.ref x), .unset] [(.int (0 : Int32))])) _
  refine own_go (fun _ k => XS.iconst X0.here hx rfl (hb hby at_182) k) ?_
  show own_Go p e below (T0.setTop (mkF m 183 #[.val (.int p1), .val (.int p2), .val (.int p3), .val (.int p4), .val (.int (0 : Int32)), .val (.int c1), .val (.int c2), .val (.int c3), .val (.int c4), .val (.int c5), .val (.int c6), .val (.ref ar), .val (.ref x), .unset] [(.int (3 : Int32)), (.int (0 : Int32))])) _
  refine own_go (fun _ k => XS.icmpYes X0.here hx rfl (pc0 := 183) (pc' := 194) rfl (hb hby at_183) rfl (flt (by decide : ¬ ((3 : Int32) < (0 : Int32)))).2.2.2 (by decide) (by decide) k) ?_
  show own_Go p e below (T0.setTop (mkF m 194 #[.val (.int p1), .val (.int p2), .val (.int p3), .val (.int p4), .val (.int (0 : Int32)), .val (.int c1), .val (.int c2), .val (.int c3), .val (.int c4), .val (.int c5), .val (.int c6), .val (.ref ar), .val (.ref x), .unset] [])) _
  refine own_go (fun _ k => XS.iload X0.here hx rfl (hb hby at_194) rfl k) ?_
  show own_Go p e below (T0.setTop (mkF m 196 #[.val (.int p1), .val (.int p2), .val (.int p3), .val (.int p4), .val (.int (0 : Int32)), .val (.int c1), .val (.int c2), .val (.int c3), .val (.int c4), .val (.int c5), .val (.int c6), .val (.ref ar), .val (.ref x), .unset] [(.int (0 : Int32))])) _
  refine own_go (fun _ k => XS.iconst X0.here hx rfl (hb hby at_196) k) ?_
  show own_Go p e below (T0.setTop (mkF m 197 #[.val (.int p1), .val (.int p2), .val (.int p3), .val (.int p4), .val (.int (0 : Int32)), .val (.int c1), .val (.int c2), .val (.int c3), .val (.int c4), .val (.int c5), .val (.int c6), .val (.ref ar), .val (.ref x), .unset] [(.int (4 : Int32)), (.int (0 : Int32))])) _
  refine own_go (fun _ k => XS.icmpYes X0.here hx rfl (pc0 := 197) (pc' := 208) rfl (hb hby at_197) rfl (flt (by decide : ¬ ((4 : Int32) < (0 : Int32)))).2.2.2 (by decide) (by decide) k) ?_
  show own_Go p e below (T0.setTop (mkF m 208 #[.val (.int p1), .val (.int p2), .val (.int p3), .val (.int p4), .val (.int (0 : Int32)), .val (.int c1), .val (.int c2), .val (.int c3), .val (.int c4), .val (.int c5), .val (.int c6), .val (.ref ar), .val (.ref x), .unset] [])) _
  refine own_go (fun _ k => XS.iload X0.here hx rfl (hb hby at_208) rfl k) ?_
  show own_Go p e below (T0.setTop (mkF m 210 #[.val (.int p1), .val (.int p2), .val (.int p3), .val (.int p4), .val (.int (0 : Int32)), .val (.int c1), .val (.int c2), .val (.int c3), .val (.int c4), .val (.int c5), .val (.int c6), .val (.ref ar), .val (.ref x), .unset] [(.int (0 : Int32))])) _
  refine own_go (fun _ k => XS.iconst X0.here hx rfl (hb hby at_210) k) ?_
  show own_Go p e below (T0.setTop (mkF m 211 #[.val (.int p1), .val (.int p2), .val (.int p3), .val (.int p4), .val (.int (0 : Int32)), .val (.int c1), .val (.int c2), .val (.int c3), .val (.int c4), .val (.int c5), .val (.int c6), .val (.ref ar), .val (.ref x), .unset] [(.int (5 : Int32)), (.int (0 : Int32))])) _
  refine own_go (fun _ k => XS.icmpYes X0.here hx rfl (pc0 := 211) (pc' := 226) rfl (hb hby at_211) rfl (flt (by decide : ¬ ((5 : Int32) < (0 : Int32)))).2.2.2 (by decide) (by decide) k) ?_
  show own_Go p e below (T0.setTop (mkF m 226 #[.val (.int p1), .val (.int p2), .val (.int p3), .val (.int p4), .val (.int (0 : Int32)), .val (.int c1), .val (.int c2), .val (.int c3), .val (.int c4), .val (.int c5), .val (.int c6), .val (.ref ar), .val (.ref x), .unset] [])) _
  refine own_go (fun _ k => XS.iconst X0.here hx rfl (hb hby at_226) k) ?_
  show own_Go p e below (T0.setTop (mkF m 227 #[.val (.int p1), .val (.int p2), .val (.int p3), .val (.int p4), .val (.int (0 : Int32)), .val (.int c1), .val (.int c2), .val (.int c3), .val (.int c4), .val (.int c5), .val (.int c6), .val (.ref ar), .val (.ref x), .unset] [(.int (0 : Int32))])) _
  refine own_go (fun _ k => XS.istore X0.here hx rfl (hb hby at_227) rfl (l' := #[.val (.int p1), .val (.int p2), .val (.int p3), .val (.int p4), .val (.int (0 : Int32)), .val (.int c1), .val (.int c2), .val (.int c3), .val (.int c4), .val (.int c5), .val (.int c6), .val (.ref ar), .val (.ref x), .val (.int (0 : Int32))]) rfl k) ?_
  show own_Go p e below (T0.setTop (mkF m 229 #[.val (.int p1), .val (.int p2), .val (.int p3), .val (.int p4), .val (.int (0 : Int32)), .val (.int c1), .val (.int c2), .val (.int c3), .val (.int c4), .val (.int c5), .val (.int c6), .val (.ref ar), .val (.ref x), .val (.int (0 : Int32))] [])) _
  exact own_end0 l Z a0 hw p1 p2 p3 p4 (0 : Int32) c1 c2 c3 c4 c5 c6 ar (0 : Int32) x t kt ([] : List Int32) cd N2 vs G1 G3 h0 n0 X0 hx hby hml hown hZ hrt hlk h1 e0 N0 (Nat.le_trans Z0 (Nat.le_refl _)) O1 hh hS0 hk0 C0 E_x Fv_x Fc_x V_t O2 P5 O4 rG3 OA OH OL hC hok (own_ise_n (fun c hc => by simp only [List.mem_cons, List.not_mem_nil, or_false] at hc))

theorem pd_18 : parseMethodDescriptor "([C)V" = some ⟨[(.array .char)], none⟩ := by decide +kernel
set_option maxRecDepth 65536 in
set_option maxHeartbeats 40000000 in
theorem own_fst0 (l : Launch) (Z : State) (a0 : Array Value) (hw : ∀ d ∈ tables_1, d.before a0 Z = true) (p1 : Int32) (p2 : Int32) (p3 : Int32) (p4 : Int32) (c1 : Int32) (c2 : Int32) (c3 : Int32) (c4 : Int32) (c5 : Int32) (c6 : Int32) (G1 : Int32) (G3 : Value) (h0 : Heap) (n0 : Nat) {p : Program} {e : Env} {s : State} {vm0 : Vm} {m : MethodId} {below : List Frame} {meth : Method} {cC : Code} {T0 : State} {locs : List Loc} (X0 : Stand p l e room_1 (s.setVm vm0) m #[(.int p1), (.int p2), (.int p3), (.int p4)] below meth cC T0 locs 0 0) (hx : p.tables.exec = Jvm.exec) (hby : cC.code = code) (hml : cC.maxLocals = maxLocals) (hown : (s.setVm vm0).vm.findClass "com/example/rolelattice/rolelattice/decision/CatalogIsExpressionPinLaw" = some m.cls) (hZ : Z.Warmed39 (s.setVm vm0).vm) (hrt : meth.sig.returnType = ret) (hlk : meth.locks = false) (h1 : Heap) (e0 : T0.heap = h1) (N0 : Fr n0 locs) (Z0 : n0 ≤ h1.size) (O1 : Old Z n0 h1) (hh : s.heap = h0) {k0 : Nat} (hS0 : s.Since vm0 k0) (hk0 : k0 ≤ h1.size) (C0 : CHr Z own_EL s.vm h0 vm0 h1) (O2 : Sta Z Z.heap "java/lang/String" "COMPACT_STRINGS" "Z" (.int G1)) (P5 : ¬ (G1 = (0 : Int32))) (O4 : Sta Z Z.heap "jdk/internal/util/Preconditions" "SIOOBE_FORMATTER" "Ljava/util/function/BiFunction;" G3) (rG3 : G3.isRef = true) (OA : Sta Z Z.heap "java/lang/StringUTF16" "$assertionsDisabled" "Z" (.int (1 : Int32))) (OH : Sta Z Z.heap "java/lang/StringUTF16" "HI_BYTE_SHIFT" "I" (.int (0 : Int32))) (OL : Sta Z Z.heap "java/lang/StringUTF16" "LO_BYTE_SHIFT" "I" (.int (8 : Int32))) (b_c1 : ¬ c1 < 0 ∧ ¬ (65535 : Int32) < c1) (b_c2 : ¬ c2 < 0 ∧ ¬ (65535 : Int32) < c2) (b_c3 : ¬ c3 < 0 ∧ ¬ (65535 : Int32) < c3) (b_c4 : ¬ c4 < 0 ∧ ¬ (65535 : Int32) < c4) (b_c5 : ¬ c5 < 0 ∧ ¬ (65535 : Int32) < c5) (b_c6 : ¬ c6 < 0 ∧ ¬ (65535 : Int32) < c6) :
    own_Go p e below (T0.setTop (mkF m 51 #[.val (.int p1), .val (.int p2), .val (.int p3), .val (.int p4), .val (.int (0 : Int32)), .val (.int c1), .val (.int c2), .val (.int c3), .val (.int c4), .val (.int c5), .val (.int c6), .unset, .unset, .unset] [])) (fun oO U' => ∃ rV rL, oO = .returned rV ∧ QQ0 n0 rV U'.heap rL ∧ CHr Z own_EL s.vm s.heap U'.vm U'.heap ∧ ReturnedEndW s oO U' rL 24 1152) := by
  have own_wS := own_wSt hw
  have own_hEL := own_hELt hw
  show own_Go p e below (T0.setTop (mkF m 51 #[.val (.int p1), .val (.int p2), .val (.int p3), .val (.int p4), .val (.int (0 : Int32)), .val (.int c1), .val (.int c2), .val (.int c3), .val (.int c4), .val (.int c5), .val (.int c6), .unset, .unset, .unset] [])) _
  refine own_go (fun _ k => XS.iload X0.here hx rfl (hb hby at_51) rfl k) ?_
  show own_Go p e below (T0.setTop (mkF m 53 #[.val (.int p1), .val (.int p2), .val (.int p3), .val (.int p4), .val (.int (0 : Int32)), .val (.int c1), .val (.int c2), .val (.int c3), .val (.int c4), .val (.int c5), .val (.int c6), .unset, .unset, .unset] [(.int (0 : Int32))])) _
  obtain ⟨T127, h127, k127, X127, e127, E127, A127, st127⟩ := newP X0 hx hZ (hw _ (List.mem_of_getElem? (i := 2) rfl)) e0 (g := (mkF m 53 #[.val (.int p1), .val (.int p2), .val (.int p3), .val (.int p4), .val (.int (0 : Int32)), .val (.int c1), .val (.int c2), .val (.int c3), .val (.int c4), .val (.int c5), .val (.int c6), .unset, .unset, .unset] [(.int (0 : Int32))])) rfl (hb hby at_53) rfl (by decide) (cap := 0) (by decide) (by decide) (by decide) (by decide)
  obtain ⟨b127, g127⟩ : ∃ z, z = h1.size := ⟨_, rfl⟩
  rw [← g127] at A127 st127
  refine own_go st127 ?_
  have C128 := C0.trans (CHr.ext E127 C0.1)
  have V127 : Arv Z h127 b127 k127 .char (0 : Int32) [] (.int (0 : Int32)) := (Arv.new A127 (by decide)).pad (pad_rep [] (.int (0 : Int32)) 0)
  show own_Go p e below (T127.setTop (mkF m 55 #[.val (.int p1), .val (.int p2), .val (.int p3), .val (.int p4), .val (.int (0 : Int32)), .val (.int c1), .val (.int c2), .val (.int c3), .val (.int c4), .val (.int c5), .val (.int c6), .unset, .unset, .unset] [(.ref b127)])) _
  refine own_go (fun _ k => XS.astore X127.here hx rfl (hb hby at_55) rfl rfl (l' := #[.val (.int p1), .val (.int p2), .val (.int p3), .val (.int p4), .val (.int (0 : Int32)), .val (.int c1), .val (.int c2), .val (.int c3), .val (.int c4), .val (.int c5), .val (.int c6), .val (.ref b127), .unset, .unset]) rfl k) ?_
  show own_Go p e below (T127.setTop (mkF m 57 #[.val (.int p1), .val (.int p2), .val (.int p3), .val (.int p4), .val (.int (0 : Int32)), .val (.int c1), .val (.int c2), .val (.int c3), .val (.int c4), .val (.int c5), .val (.int c6), .val (.ref b127), .unset, .unset] [])) _
  refine own_go (fun _ k => XS.iload X127.here hx rfl (hb hby at_57) rfl k) ?_
  show own_Go p e below (T127.setTop (mkF m 59 #[.val (.int p1), .val (.int p2), .val (.int p3), .val (.int p4), .val (.int (0 : Int32)), .val (.int c1), .val (.int c2), .val (.int c3), .val (.int c4), .val (.int c5), .val (.int c6), .val (.ref b127), .unset, .unset] [(.int (0 : Int32))])) _
  refine own_go (fun _ k => XS.ifYes X127.here hx rfl (pc0 := 59) (pc' := 68) rfl (hb hby at_59) rfl ((if0 _ _).trans (flt (by decide : ¬ ((0 : Int32) < (0 : Int32)))).2.2.2) (by decide) (by decide) k) ?_
  show own_Go p e below (T127.setTop (mkF m 68 #[.val (.int p1), .val (.int p2), .val (.int p3), .val (.int p4), .val (.int (0 : Int32)), .val (.int c1), .val (.int c2), .val (.int c3), .val (.int c4), .val (.int c5), .val (.int c6), .val (.ref b127), .unset, .unset] [])) _
  refine own_go (fun _ k => XS.iload X127.here hx rfl (hb hby at_68) rfl k) ?_
  show own_Go p e below (T127.setTop (mkF m 70 #[.val (.int p1), .val (.int p2), .val (.int p3), .val (.int p4), .val (.int (0 : Int32)), .val (.int c1), .val (.int c2), .val (.int c3), .val (.int c4), .val (.int c5), .val (.int c6), .val (.ref b127), .unset, .unset] [(.int (0 : Int32))])) _
  refine own_go (fun _ k => XS.iconst X127.here hx rfl (hb hby at_70) k) ?_
  show own_Go p e below (T127.setTop (mkF m 71 #[.val (.int p1), .val (.int p2), .val (.int p3), .val (.int p4), .val (.int (0 : Int32)), .val (.int c1), .val (.int c2), .val (.int c3), .val (.int c4), .val (.int c5), .val (.int c6), .val (.ref b127), .unset, .unset] [(.int (1 : Int32)), (.int (0 : Int32))])) _
  refine own_go (fun _ k => XS.icmpYes X127.here hx rfl (pc0 := 71) (pc' := 80) rfl (hb hby at_71) rfl (flt (by decide : ¬ ((1 : Int32) < (0 : Int32)))).2.2.2 (by decide) (by decide) k) ?_
  show own_Go p e below (T127.setTop (mkF m 80 #[.val (.int p1), .val (.int p2), .val (.int p3), .val (.int p4), .val (.int (0 : Int32)), .val (.int c1), .val (.int c2), .val (.int c3), .val (.int c4), .val (.int c5), .val (.int c6), .val (.ref b127), .unset, .unset] [])) _
  refine own_go (fun _ k => XS.iload X127.here hx rfl (hb hby at_80) rfl k) ?_
  show own_Go p e below (T127.setTop (mkF m 82 #[.val (.int p1), .val (.int p2), .val (.int p3), .val (.int p4), .val (.int (0 : Int32)), .val (.int c1), .val (.int c2), .val (.int c3), .val (.int c4), .val (.int c5), .val (.int c6), .val (.ref b127), .unset, .unset] [(.int (0 : Int32))])) _
  refine own_go (fun _ k => XS.iconst X127.here hx rfl (hb hby at_82) k) ?_
  show own_Go p e below (T127.setTop (mkF m 83 #[.val (.int p1), .val (.int p2), .val (.int p3), .val (.int p4), .val (.int (0 : Int32)), .val (.int c1), .val (.int c2), .val (.int c3), .val (.int c4), .val (.int c5), .val (.int c6), .val (.ref b127), .unset, .unset] [(.int (2 : Int32)), (.int (0 : Int32))])) _
  refine own_go (fun _ k => XS.icmpYes X127.here hx rfl (pc0 := 83) (pc' := 92) rfl (hb hby at_83) rfl (flt (by decide : ¬ ((2 : Int32) < (0 : Int32)))).2.2.2 (by decide) (by decide) k) ?_
  show own_Go p e below (T127.setTop (mkF m 92 #[.val (.int p1), .val (.int p2), .val (.int p3), .val (.int p4), .val (.int (0 : Int32)), .val (.int c1), .val (.int c2), .val (.int c3), .val (.int c4), .val (.int c5), .val (.int c6), .val (.ref b127), .unset, .unset] [])) _
  refine own_go (fun _ k => XS.iload X127.here hx rfl (hb hby at_92) rfl k) ?_
  show own_Go p e below (T127.setTop (mkF m 94 #[.val (.int p1), .val (.int p2), .val (.int p3), .val (.int p4), .val (.int (0 : Int32)), .val (.int c1), .val (.int c2), .val (.int c3), .val (.int c4), .val (.int c5), .val (.int c6), .val (.ref b127), .unset, .unset] [(.int (0 : Int32))])) _
  refine own_go (fun _ k => XS.iconst X127.here hx rfl (hb hby at_94) k) ?_
  show own_Go p e below (T127.setTop (mkF m 95 #[.val (.int p1), .val (.int p2), .val (.int p3), .val (.int p4), .val (.int (0 : Int32)), .val (.int c1), .val (.int c2), .val (.int c3), .val (.int c4), .val (.int c5), .val (.int c6), .val (.ref b127), .unset, .unset] [(.int (3 : Int32)), (.int (0 : Int32))])) _
  refine own_go (fun _ k => XS.icmpYes X127.here hx rfl (pc0 := 95) (pc' := 104) rfl (hb hby at_95) rfl (flt (by decide : ¬ ((3 : Int32) < (0 : Int32)))).2.2.2 (by decide) (by decide) k) ?_
  show own_Go p e below (T127.setTop (mkF m 104 #[.val (.int p1), .val (.int p2), .val (.int p3), .val (.int p4), .val (.int (0 : Int32)), .val (.int c1), .val (.int c2), .val (.int c3), .val (.int c4), .val (.int c5), .val (.int c6), .val (.ref b127), .unset, .unset] [])) _
  refine own_go (fun _ k => XS.iload X127.here hx rfl (hb hby at_104) rfl k) ?_
  show own_Go p e below (T127.setTop (mkF m 106 #[.val (.int p1), .val (.int p2), .val (.int p3), .val (.int p4), .val (.int (0 : Int32)), .val (.int c1), .val (.int c2), .val (.int c3), .val (.int c4), .val (.int c5), .val (.int c6), .val (.ref b127), .unset, .unset] [(.int (0 : Int32))])) _
  refine own_go (fun _ k => XS.iconst X127.here hx rfl (hb hby at_106) k) ?_
  show own_Go p e below (T127.setTop (mkF m 107 #[.val (.int p1), .val (.int p2), .val (.int p3), .val (.int p4), .val (.int (0 : Int32)), .val (.int c1), .val (.int c2), .val (.int c3), .val (.int c4), .val (.int c5), .val (.int c6), .val (.ref b127), .unset, .unset] [(.int (4 : Int32)), (.int (0 : Int32))])) _
  refine own_go (fun _ k => XS.icmpYes X127.here hx rfl (pc0 := 107) (pc' := 116) rfl (hb hby at_107) rfl (flt (by decide : ¬ ((4 : Int32) < (0 : Int32)))).2.2.2 (by decide) (by decide) k) ?_
  show own_Go p e below (T127.setTop (mkF m 116 #[.val (.int p1), .val (.int p2), .val (.int p3), .val (.int p4), .val (.int (0 : Int32)), .val (.int c1), .val (.int c2), .val (.int c3), .val (.int c4), .val (.int c5), .val (.int c6), .val (.ref b127), .unset, .unset] [])) _
  refine own_go (fun _ k => XS.iload X127.here hx rfl (hb hby at_116) rfl k) ?_
  show own_Go p e below (T127.setTop (mkF m 118 #[.val (.int p1), .val (.int p2), .val (.int p3), .val (.int p4), .val (.int (0 : Int32)), .val (.int c1), .val (.int c2), .val (.int c3), .val (.int c4), .val (.int c5), .val (.int c6), .val (.ref b127), .unset, .unset] [(.int (0 : Int32))])) _
  refine own_go (fun _ k => XS.iconst X127.here hx rfl (hb hby at_118) k) ?_
  show own_Go p e below (T127.setTop (mkF m 119 #[.val (.int p1), .val (.int p2), .val (.int p3), .val (.int p4), .val (.int (0 : Int32)), .val (.int c1), .val (.int c2), .val (.int c3), .val (.int c4), .val (.int c5), .val (.int c6), .val (.ref b127), .unset, .unset] [(.int (5 : Int32)), (.int (0 : Int32))])) _
  refine own_go (fun _ k => XS.icmpYes X127.here hx rfl (pc0 := 119) (pc' := 128) rfl (hb hby at_119) rfl (flt (by decide : ¬ ((5 : Int32) < (0 : Int32)))).2.2.2 (by decide) (by decide) k) ?_
  show own_Go p e below (T127.setTop (mkF m 128 #[.val (.int p1), .val (.int p2), .val (.int p3), .val (.int p4), .val (.int (0 : Int32)), .val (.int c1), .val (.int c2), .val (.int c3), .val (.int c4), .val (.int c5), .val (.int c6), .val (.ref b127), .unset, .unset] [])) _
  obtain ⟨T129, h129, X129, e129, E129, A129, D129, U129, st129⟩ := newO X127 hx hZ hown (hw _ (List.mem_of_getElem? (i := 3) rfl)) (hw _ (List.mem_of_getElem? (i := 4) rfl)) (hw _ (List.mem_of_getElem? (i := 5) rfl)) e127 (g := (mkF m 128 #[.val (.int p1), .val (.int p2), .val (.int p3), .val (.int p4), .val (.int (0 : Int32)), .val (.int c1), .val (.int c2), .val (.int c3), .val (.int c4), .val (.int c5), .val (.int c6), .val (.ref b127), .unset, .unset] [])) rfl (hb hby at_128) (by decide) (by decide)
  obtain ⟨b129, g129⟩ : ∃ z, z = h127.size := ⟨_, rfl⟩
  rw [← g129] at A129 D129 U129 st129
  refine own_go st129 ?_
  have C130 := C128.trans (CHr.ext E129 C128.1)
  have F129_coder : Fld Z h129 b129 "java/lang/String" "coder" "B" (.int (0 : Int32)) := D129 (Or.inr (hw _ (List.mem_of_getElem? (i := 29) rfl))) (ty := .byte) (by decide)
  have F129_value : Fld Z h129 b129 "java/lang/String" "value" "[B" .null := D129 (Or.inr (hw _ (List.mem_of_getElem? (i := 31) rfl))) (ty := (.array .byte)) (by decide)
  show own_Go p e below (T129.setTop (mkF m 131 #[.val (.int p1), .val (.int p2), .val (.int p3), .val (.int p4), .val (.int (0 : Int32)), .val (.int c1), .val (.int c2), .val (.int c3), .val (.int c4), .val (.int c5), .val (.int c6), .val (.ref b127), .unset, .unset] [(.ref b129)])) _
  refine own_go (fun _ k => XS.dup X129.here hx rfl (hb hby at_131) rfl rfl k) ?_
  show own_Go p e below (T129.setTop (mkF m 132 #[.val (.int p1), .val (.int p2), .val (.int p3), .val (.int p4), .val (.int (0 : Int32)), .val (.int c1), .val (.int c2), .val (.int c3), .val (.int c4), .val (.int c5), .val (.int c6), .val (.ref b127), .unset, .unset] [(.ref b129), (.ref b129)])) _
  refine own_go (fun _ k => XS.aload X129.here hx rfl (hb hby at_132) rfl rfl k) ?_
  show own_Go p e below (T129.setTop (mkF m 134 #[.val (.int p1), .val (.int p2), .val (.int p3), .val (.int p4), .val (.int (0 : Int32)), .val (.int c1), .val (.int c2), .val (.int c3), .val (.int c4), .val (.int c5), .val (.int c6), .val (.ref b127), .unset, .unset] [(.ref b127), (.ref b129), (.ref b129)])) _
  obtain ⟨v131, _, ⟨T131, L131, k131, n131⟩, -, X131, hS131, hg131, ⟨Lc131, hQ131, l131, y131, z131, A131⟩, st131⟩ := X129.specialBackS hx (y := (⟨"java/lang/String", "<init>", "([C)V"⟩ : MethodName)) rfl hown (mvT hZ (hw _ (List.mem_of_getElem? (i := 6) rfl))) (mvT hZ (hw _ (List.mem_of_getElem? (i := 7) rfl))) (mvT hZ (hw _ (List.mem_of_getElem? (i := 8) rfl))) (by decide) (backOfSH (W := 1) (rm_i1e l Z a0 hw [] b129 b127 k127 h129 n0 ((O1.ext E127).ext E129) A129 F129_value F129_coder (Nat.le_trans Z0 (Nat.le_trans E127.1 (Nat.le_of_eq g129.symm))) (V127.ext E129)) hZ (hw _ (List.mem_of_getElem? (i := 8) rfl)) (hw _ (List.mem_of_getElem? (i := 5) rfl)) (by decide) (by decide) own_hEL C130.1) (g := (mkF m 134 #[.val (.int p1), .val (.int p2), .val (.int p3), .val (.int p4), .val (.int (0 : Int32)), .val (.int c1), .val (.int c2), .val (.int c3), .val (.int c4), .val (.int c5), .val (.int c6), .val (.ref b127), .unset, .unset] [(.ref b127), (.ref b129), (.ref b129)])) rfl (by rw [hml]; rfl) (Steps.refl _) (a := b129) (argsL := [(.ref b127)]) (rest := [(.ref b129)]) (lenOf pd_18 rfl) rfl (by show 2 * 0 + _ ≤ _; exact Nat.le_of_eq rfl) (hb hby at_134) (fun _ _ => ⟨rfl, e129, (by decide : 2 + 4 ≤ _), (by decide : 4 + 8 ≤ _)⟩)
  dsimp only [Pt.U, Pt.locs, Pt.cells, Pt.slots] at X131 l131 y131 z131 st131 hQ131 hS131 hg131 A131
  subst l131 y131 z131
  refine own_gos st131 ?_
  obtain ⟨X131, hS131, hZ131, hown131⟩ := rebS hS0 (k0 := _) (n1 := T129.heap.size) (by rw [e129]; exact (Nat.le_trans hk0 (Nat.le_trans E127.1 E129.1))) X131 hS131 hg131 hZ hown
  obtain ⟨t131, kt131, rfl, Nq131, K131, Fv131, Fc131, Vt131⟩ := hQ131
  have C132 := C130.trans A131
  have N131 := Fr.app N0 Nq131
  show own_Go p e below (T131.setTop (mkF m 137 #[.val (.int p1), .val (.int p2), .val (.int p3), .val (.int p4), .val (.int (0 : Int32)), .val (.int c1), .val (.int c2), .val (.int c3), .val (.int c4), .val (.int c5), .val (.int c6), .val (.ref b127), .unset, .unset] [(.ref b129)])) _
  refine own_go (fun _ k => XS.astore X131.here hx rfl (hb hby at_137) rfl rfl (l' := #[.val (.int p1), .val (.int p2), .val (.int p3), .val (.int p4), .val (.int (0 : Int32)), .val (.int c1), .val (.int c2), .val (.int c3), .val (.int c4), .val (.int c5), .val (.int c6), .val (.ref b127), .val (.ref b129), .unset]) rfl k) ?_
  show own_Go p e below (T131.setTop (mkF m 139 #[.val (.int p1), .val (.int p2), .val (.int p3), .val (.int p4), .val (.int (0 : Int32)), .val (.int c1), .val (.int c2), .val (.int c3), .val (.int c4), .val (.int c5), .val (.int c6), .val (.ref b127), .val (.ref b129), .unset] [])) _
  have z133 := (Nat.le_trans (Nat.le_trans E127.1 E129.1) K131.1)
  have f134 := (((O1.ext E127).ext E129).keep K131 (allS (Nat.le_trans Z0 (Nat.le_trans E127.1 (Nat.le_of_eq g129.symm))) all0))
  exact own_mid0 l Z a0 hw p1 p2 p3 p4 c1 c2 c3 c4 c5 c6 b127 b129 t131 kt131 (0 : Int32) (0 : Int32) [] G1 G3 h0 n0 X131 hx hby hml hown131 hZ131 hrt hlk T131.heap (rfl : T131.heap = T131.heap) N131 (Nat.le_trans Z0 z133) f134 hh hS131 (Nat.le_refl _) C132 (A129.keep K131) Fv131 Fc131 Vt131 O2 P5 O4 rG3 OA OH OL own_cod0 (own_okL0)

set_option maxRecDepth 65536 in
set_option maxHeartbeats 40000000 in
theorem own_end1 (l : Launch) (Z : State) (a0 : Array Value) (hw : ∀ d ∈ tables_1, d.before a0 Z = true) (p1 : Int32) (p2 : Int32) (p3 : Int32) (p4 : Int32) (nv : Int32) (c1 : Int32) (c2 : Int32) (c3 : Int32) (c4 : Int32) (c5 : Int32) (c6 : Int32) (ar : Addr) (ee : Int32) (x : Addr) (t : Addr) (kt : ClassId) (cs : List Int32) (cd : Int32) (N2 : Int32) (vs : List Value) (G1 : Int32) (G3 : Value) (h0 : Heap) (n0 : Nat) {p : Program} {e : Env} {s : State} {vm0 : Vm} {m : MethodId} {below : List Frame} {meth : Method} {cC : Code} {T0 : State} {locs : List Loc} (X0 : Stand p l e room_1 (s.setVm vm0) m #[(.int p1), (.int p2), (.int p3), (.int p4)] below meth cC T0 locs 4 23) (hx : p.tables.exec = Jvm.exec) (hby : cC.code = code) (hml : cC.maxLocals = maxLocals) (hown : (s.setVm vm0).vm.findClass "com/example/rolelattice/rolelattice/decision/CatalogIsExpressionPinLaw" = some m.cls) (hZ : Z.Warmed39 (s.setVm vm0).vm) (hrt : meth.sig.returnType = ret) (hlk : meth.locks = false) (h1 : Heap) (e0 : T0.heap = h1) (N0 : Fr n0 locs) (Z0 : n0 ≤ h1.size) (O1 : Old Z n0 h1) (hh : s.heap = h0) {k0 : Nat} (hS0 : s.Since vm0 k0) (hk0 : k0 ≤ h1.size) (C0 : CHr Z own_EL s.vm h0 vm0 h1) (E_x : Exa Z h1 x "java/lang/String") (Fv_x : Fld Z h1 x "java/lang/String" "value" "[B" (.ref t)) (Fc_x : Fld Z h1 x "java/lang/String" "coder" "B" (.int cd)) (V_t : Arv Z h1 t kt .byte N2 vs (.int (0 : Int32))) (O2 : Sta Z Z.heap "java/lang/String" "COMPACT_STRINGS" "Z" (.int G1)) (P5 : ¬ (G1 = (0 : Int32))) (O4 : Sta Z Z.heap "jdk/internal/util/Preconditions" "SIOOBE_FORMATTER" "Ljava/util/function/BiFunction;" G3) (rG3 : G3.isRef = true) (OA : Sta Z Z.heap "java/lang/StringUTF16" "$assertionsDisabled" "Z" (.int (1 : Int32))) (OH : Sta Z Z.heap "java/lang/StringUTF16" "HI_BYTE_SHIFT" "I" (.int (0 : Int32))) (OL : Sta Z Z.heap "java/lang/StringUTF16" "LO_BYTE_SHIFT" "I" (.int (8 : Int32))) (hC : StrChars.Road.CodA cs cd N2 vs) (hok : own_Ok cs) (hee : (own_ise cs) = ee) :
    own_Go p e below (T0.setTop (mkF m 229 #[.val (.int p1), .val (.int p2), .val (.int p3), .val (.int p4), .val (.int nv), .val (.int c1), .val (.int c2), .val (.int c3), .val (.int c4), .val (.int c5), .val (.int c6), .val (.ref ar), .val (.ref x), .val (.int ee)] [])) (fun oO U' => ∃ rV rL, oO = .returned rV ∧ QQ0 n0 rV U'.heap rL ∧ CHr Z own_EL s.vm s.heap U'.vm U'.heap ∧ ReturnedEndW s oO U' rL 24 1152) := by
  have own_wS := own_wSt hw
  have own_hEL := own_hELt hw
  show own_Go p e below (T0.setTop (mkF m 229 #[.val (.int p1), .val (.int p2), .val (.int p3), .val (.int p4), .val (.int nv), .val (.int c1), .val (.int c2), .val (.int c3), .val (.int c4), .val (.int c5), .val (.int c6), .val (.ref ar), .val (.ref x), .val (.int ee)] [])) _
  refine own_go (fun _ k => XS.aload X0.here hx rfl (hb hby at_229) rfl rfl k) ?_
  show own_Go p e below (T0.setTop (mkF m 231 #[.val (.int p1), .val (.int p2), .val (.int p3), .val (.int p4), .val (.int nv), .val (.int c1), .val (.int c2), .val (.int c3), .val (.int c4), .val (.int c5), .val (.int c6), .val (.ref ar), .val (.ref x), .val (.int ee)] [(.ref x)])) _
  obtain ⟨v135, _, ⟨T135, L135, k135, n135⟩, -, X135, ⟨Lc135, hQ135, l135, y135, z135⟩, st135⟩ := Jvm.LawKit.callS X0 hx (y := (⟨"com/example/rolelattice/rolelattice/decision/Catalog", "isExpression", "(Ljava/lang/String;)Z"⟩ : MethodName)) hown (mvT hZ (hw _ (List.mem_of_getElem? (i := 36) rfl))) (mvT hZ (hw _ (List.mem_of_getElem? (i := 37) rfl))) (mvT hZ (hw _ (List.mem_of_getElem? (i := 38) rfl))) (mvT hZ (hw _ (List.mem_of_getElem? (i := 39) rfl))) (by decide) (backOf (W := 0) (rm_ise l Z a0 hw [] x t kt cs cd N2 vs G1 G3 h1 n0 O1 O2 P5 O4 rG3 OA OH OL E_x Fv_x Fc_x V_t hC hok) hZ (hw _ (List.mem_of_getElem? (i := 39) rfl)) (hw _ (List.mem_of_getElem? (i := 38) rfl)) (by decide) (by decide)) (g := (mkF m 231 #[.val (.int p1), .val (.int p2), .val (.int p3), .val (.int p4), .val (.int nv), .val (.int c1), .val (.int c2), .val (.int c3), .val (.int c4), .val (.int c5), .val (.int c6), .val (.ref ar), .val (.ref x), .val (.int ee)] [(.ref x)])) rfl (by rw [hml]; rfl) (argsL := [(.ref x)]) (rest := []) (lenOf pd_17 rfl) rfl (by show 2 * 0 + _ ≤ _; exact Nat.le_of_eq rfl) (hb hby at_231) (fun _ _ => ⟨rfl, e0, (by decide : 4 + 0 ≤ _), (by decide : 23 + 0 ≤ _)⟩)
  dsimp only [Pt.U, Pt.locs, Pt.cells, Pt.slots] at X135 l135 y135 z135 st135 hQ135
  subst l135 y135 z135
  refine own_go st135 ?_
  obtain ⟨rfl, Nq135, e135⟩ := hQ135
  have N135 := Fr.app N0 Nq135
  show own_Go p e below (T135.setTop (mkF m 234 #[.val (.int p1), .val (.int p2), .val (.int p3), .val (.int p4), .val (.int nv), .val (.int c1), .val (.int c2), .val (.int c3), .val (.int c4), .val (.int c5), .val (.int c6), .val (.ref ar), .val (.ref x), .val (.int ee)] [(.int (own_ise cs))])) _
  refine own_go (fun _ k => XS.iload X135.here hx rfl (hb hby at_234) rfl k) ?_
  show own_Go p e below (T135.setTop (mkF m 236 #[.val (.int p1), .val (.int p2), .val (.int p3), .val (.int p4), .val (.int nv), .val (.int c1), .val (.int c2), .val (.int c3), .val (.int c4), .val (.int c5), .val (.int c6), .val (.ref ar), .val (.ref x), .val (.int ee)] [(.int ee), (.int (own_ise cs))])) _
  refine own_go (fun _ k => XS.icmpNo X135.here hx rfl (hb hby at_236) rfl (teq hee).2 k) ?_
  show own_Go p e below (T135.setTop (mkF m 239 #[.val (.int p1), .val (.int p2), .val (.int p3), .val (.int p4), .val (.int nv), .val (.int c1), .val (.int c2), .val (.int c3), .val (.int c4), .val (.int c5), .val (.int c6), .val (.ref ar), .val (.ref x), .val (.int ee)] [])) _
  refine own_go (fun _ k => XS.iconst X135.here hx rfl (hb hby at_239) k) ?_
  show own_Go p e below (T135.setTop (mkF m 240 #[.val (.int p1), .val (.int p2), .val (.int p3), .val (.int p4), .val (.int nv), .val (.int c1), .val (.int c2), .val (.int c3), .val (.int c4), .val (.int c5), .val (.int c6), .val (.ref ar), .val (.ref x), .val (.int ee)] [(.int (1 : Int32))])) _
  refine own_go (fun _ k => XS.goto X135.here hx rfl (pc0 := 240) (pc' := 244) rfl (hb hby at_240) (by decide) (by decide) k) ?_
  show own_Go p e below (T135.setTop (mkF m 244 #[.val (.int p1), .val (.int p2), .val (.int p3), .val (.int p4), .val (.int nv), .val (.int c1), .val (.int c2), .val (.int c3), .val (.int c4), .val (.int c5), .val (.int c6), .val (.ref ar), .val (.ref x), .val (.int ee)] [(.int (1 : Int32))])) _
  refine own_finW (v := (some (.int (nar .boolean (1 : Int32))))) X135 hh hZ hS0 (by rw [e135]; exact hk0) (fun h => by rw [hrt] at h; cases h) hlk (fun fs hr => retN X135 hx (t := .boolean) hrt (by simp) (hb hby at_244) hr) (QQ := QQ0 n0) ?_ own_hEL e135 (C0) (by decide) (by decide)
  rw [e135]
  exact ⟨rfl, N135⟩

theorem pd_19 : parseMethodDescriptor "(C)Z" = some ⟨[.char], some .boolean⟩ := by decide +kernel
set_option maxRecDepth 65536 in
set_option maxHeartbeats 40000000 in
theorem own_mid1 (l : Launch) (Z : State) (a0 : Array Value) (hw : ∀ d ∈ tables_1, d.before a0 Z = true) (p1 : Int32) (p2 : Int32) (p3 : Int32) (p4 : Int32) (c1 : Int32) (c2 : Int32) (c3 : Int32) (c4 : Int32) (c5 : Int32) (c6 : Int32) (ar : Addr) (x : Addr) (t : Addr) (kt : ClassId) (cd : Int32) (N2 : Int32) (vs : List Value) (G1 : Int32) (G3 : Value) (h0 : Heap) (n0 : Nat) {p : Program} {e : Env} {s : State} {vm0 : Vm} {m : MethodId} {below : List Frame} {meth : Method} {cC : Code} {T0 : State} {locs : List Loc} (X0 : Stand p l e room_1 (s.setVm vm0) m #[(.int p1), (.int p2), (.int p3), (.int p4)] below meth cC T0 locs 4 23) (hx : p.tables.exec = Jvm.exec) (hby : cC.code = code) (hml : cC.maxLocals = maxLocals) (hown : (s.setVm vm0).vm.findClass "com/example/rolelattice/rolelattice/decision/CatalogIsExpressionPinLaw" = some m.cls) (hZ : Z.Warmed39 (s.setVm vm0).vm) (hrt : meth.sig.returnType = ret) (hlk : meth.locks = false) (h1 : Heap) (e0 : T0.heap = h1) (N0 : Fr n0 locs) (Z0 : n0 ≤ h1.size) (O1 : Old Z n0 h1) (hh : s.heap = h0) {k0 : Nat} (hS0 : s.Since vm0 k0) (hk0 : k0 ≤ h1.size) (C0 : CHr Z own_EL s.vm h0 vm0 h1) (E_x : Exa Z h1 x "java/lang/String") (Fv_x : Fld Z h1 x "java/lang/String" "value" "[B" (.ref t)) (Fc_x : Fld Z h1 x "java/lang/String" "coder" "B" (.int cd)) (V_t : Arv Z h1 t kt .byte N2 vs (.int (0 : Int32))) (O2 : Sta Z Z.heap "java/lang/String" "COMPACT_STRINGS" "Z" (.int G1)) (P5 : ¬ (G1 = (0 : Int32))) (O4 : Sta Z Z.heap "jdk/internal/util/Preconditions" "SIOOBE_FORMATTER" "Ljava/util/function/BiFunction;" G3) (rG3 : G3.isRef = true) (OA : Sta Z Z.heap "java/lang/StringUTF16" "$assertionsDisabled" "Z" (.int (1 : Int32))) (OH : Sta Z Z.heap "java/lang/StringUTF16" "HI_BYTE_SHIFT" "I" (.int (0 : Int32))) (OL : Sta Z Z.heap "java/lang/StringUTF16" "LO_BYTE_SHIFT" "I" (.int (8 : Int32))) (hC : StrChars.Road.CodA ([c1] : List Int32) cd N2 vs) (hok : own_Ok ([c1] : List Int32)) :
    own_Go p e below (T0.setTop (mkF m 139 #[.val (.int p1), .val (.int p2), .val (.int p3), .val (.int p4), .val (.int (1 : Int32)), .val (.int c1), .val (.int c2), .val (.int c3), .val (.int c4), .val (.int c5), .val (.int c6), .val (.ref ar), .val (.ref x), .unset] [])) (fun oO U' => ∃ rV rL, oO = .returned rV ∧ QQ0 n0 rV U'.heap rL ∧ CHr Z own_EL s.vm s.heap U'.vm U'.heap ∧ ReturnedEndW s oO U' rL 24 1152) := by
  have own_wS := own_wSt hw
  have own_hEL := own_hELt hw
  show own_Go p e below (T0.setTop (mkF m 139 #[.val (.int p1), .val (.int p2), .val (.int p3), .val (.int p4), .val (.int (1 : Int32)), .val (.int c1), .val (.int c2), .val (.int c3), .val (.int c4), .val (.int c5), .val (.int c6), .val (.ref ar), .val (.ref x), .unset] [])) _
  refine own_go (fun _ k => XS.iload X0.here hx rfl (hb hby at_139) rfl k) ?_
  show own_Go p e below (T0.setTop (mkF m 141 #[.val (.int p1), .val (.int p2), .val (.int p3), .val (.int p4), .val (.int (1 : Int32)), .val (.int c1), .val (.int c2), .val (.int c3), .val (.int c4), .val (.int c5), .val (.int c6), .val (.ref ar), .val (.ref x), .unset] [(.int (1 : Int32))])) _
  refine own_go (fun _ k => XS.ifNo X0.here hx rfl (hb hby at_141) rfl ((if0 _ _).trans (tlt (by decide : (0 : Int32) < (1 : Int32))).2.2.2) k) ?_
  show own_Go p e below (T0.setTop (mkF m 144 #[.val (.int p1), .val (.int p2), .val (.int p3), .val (.int p4), .val (.int (1 : Int32)), .val (.int c1), .val (.int c2), .val (.int c3), .val (.int c4), .val (.int c5), .val (.int c6), .val (.ref ar), .val (.ref x), .unset] [])) _
  refine own_go (fun _ k => XS.iload X0.here hx rfl (hb hby at_144) rfl k) ?_
  show own_Go p e below (T0.setTop (mkF m 146 #[.val (.int p1), .val (.int p2), .val (.int p3), .val (.int p4), .val (.int (1 : Int32)), .val (.int c1), .val (.int c2), .val (.int c3), .val (.int c4), .val (.int c5), .val (.int c6), .val (.ref ar), .val (.ref x), .unset] [(.int c1)])) _
  obtain ⟨v136, _, ⟨T136, L136, k136, n136⟩, -, X136, ⟨Lc136, hQ136, l136, y136, z136⟩, st136⟩ := Jvm.LawKit.callS X0 hx (y := (⟨"com/example/rolelattice/rolelattice/decision/CatalogIsExpressionPinLaw", "wild", "(C)Z"⟩ : MethodName)) hown (mvT hZ (hw _ (List.mem_of_getElem? (i := 32) rfl))) (mvT hZ (hw _ (List.mem_of_getElem? (i := 33) rfl))) (mvT hZ (hw _ (List.mem_of_getElem? (i := 34) rfl))) (mvT hZ (hw _ (List.mem_of_getElem? (i := 35) rfl))) (by decide) (backOf (W := 0) (rm_wild l Z a0 hw [] c1 h1 n0 O1 ) hZ (hw _ (List.mem_of_getElem? (i := 35) rfl)) (hw _ (List.mem_of_getElem? (i := 34) rfl)) (by decide) (by decide)) (g := (mkF m 146 #[.val (.int p1), .val (.int p2), .val (.int p3), .val (.int p4), .val (.int (1 : Int32)), .val (.int c1), .val (.int c2), .val (.int c3), .val (.int c4), .val (.int c5), .val (.int c6), .val (.ref ar), .val (.ref x), .unset] [(.int c1)])) rfl (by rw [hml]; rfl) (argsL := [(.int c1)]) (rest := []) (lenOf pd_19 rfl) rfl (by show 2 * 0 + _ ≤ _; exact Nat.le_of_eq rfl) (hb hby at_146) (fun _ _ => ⟨rfl, e0, (by decide : 4 + 0 ≤ _), (by decide : 23 + 0 ≤ _)⟩)
  dsimp only [Pt.U, Pt.locs, Pt.cells, Pt.slots] at X136 l136 y136 z136 st136 hQ136
  subst l136 y136 z136
  refine own_go st136 ?_
  obtain ⟨rfl, Nq136, e136⟩ := hQ136
  have N136 := Fr.app N0 Nq136
  show own_Go p e below (T136.setTop (mkF m 149 #[.val (.int p1), .val (.int p2), .val (.int p3), .val (.int p4), .val (.int (1 : Int32)), .val (.int c1), .val (.int c2), .val (.int c3), .val (.int c4), .val (.int c5), .val (.int c6), .val (.ref ar), .val (.ref x), .unset] [(.int (own_wild c1))])) _
  by_cases hc137 : (own_wild c1) = (0 : Int32)
  · skip
    refine own_go (fun _ k => XS.ifNo X136.here hx rfl (hb hby at_149) rfl ((if0 _ _).trans (teq hc137).2) k) ?_
    show own_Go p e below (T136.setTop (mkF m 152 #[.val (.int p1), .val (.int p2), .val (.int p3), .val (.int p4), .val (.int (1 : Int32)), .val (.int c1), .val (.int c2), .val (.int c3), .val (.int c4), .val (.int c5), .val (.int c6), .val (.ref ar), .val (.ref x), .unset] [])) _
    refine own_go (fun _ k => XS.iload X136.here hx rfl (hb hby at_152) rfl k) ?_
    show own_Go p e below (T136.setTop (mkF m 154 #[.val (.int p1), .val (.int p2), .val (.int p3), .val (.int p4), .val (.int (1 : Int32)), .val (.int c1), .val (.int c2), .val (.int c3), .val (.int c4), .val (.int c5), .val (.int c6), .val (.ref ar), .val (.ref x), .unset] [(.int (1 : Int32))])) _
    refine own_go (fun _ k => XS.iconst X136.here hx rfl (hb hby at_154) k) ?_
    show own_Go p e below (T136.setTop (mkF m 155 #[.val (.int p1), .val (.int p2), .val (.int p3), .val (.int p4), .val (.int (1 : Int32)), .val (.int c1), .val (.int c2), .val (.int c3), .val (.int c4), .val (.int c5), .val (.int c6), .val (.ref ar), .val (.ref x), .unset] [(.int (1 : Int32)), (.int (1 : Int32))])) _
    refine own_go (fun _ k => XS.icmpYes X136.here hx rfl (pc0 := 155) (pc' := 166) rfl (hb hby at_155) rfl (flt (by decide : ¬ ((1 : Int32) < (1 : Int32)))).2.2.2 (by decide) (by decide) k) ?_
    show own_Go p e below (T136.setTop (mkF m 166 #[.val (.int p1), .val (.int p2), .val (.int p3), .val (.int p4), .val (.int (1 : Int32)), .val (.int c1), .val (.int c2), .val (.int c3), .val (.int c4), .val (.int c5), .val (.int c6), .val (.ref ar), .val (.ref x), .unset] [])) _
    refine own_go (fun _ k => XS.iload X136.here hx rfl (hb hby at_166) rfl k) ?_
    show own_Go p e below (T136.setTop (mkF m 168 #[.val (.int p1), .val (.int p2), .val (.int p3), .val (.int p4), .val (.int (1 : Int32)), .val (.int c1), .val (.int c2), .val (.int c3), .val (.int c4), .val (.int c5), .val (.int c6), .val (.ref ar), .val (.ref x), .unset] [(.int (1 : Int32))])) _
    refine own_go (fun _ k => XS.iconst X136.here hx rfl (hb hby at_168) k) ?_
    show own_Go p e below (T136.setTop (mkF m 169 #[.val (.int p1), .val (.int p2), .val (.int p3), .val (.int p4), .val (.int (1 : Int32)), .val (.int c1), .val (.int c2), .val (.int c3), .val (.int c4), .val (.int c5), .val (.int c6), .val (.ref ar), .val (.ref x), .unset] [(.int (2 : Int32)), (.int (1 : Int32))])) _
    refine own_go (fun _ k => XS.icmpYes X136.here hx rfl (pc0 := 169) (pc' := 180) rfl (hb hby at_169) rfl (flt (by decide : ¬ ((2 : Int32) < (1 : Int32)))).2.2.2 (by decide) (by decide) k) ?_
    show own_Go p e below (T136.setTop (mkF m 180 #[.val (.int p1), .val (.int p2), .val (.int p3), .val (.int p4), .val (.int (1 : Int32)), .val (.int c1), .val (.int c2), .val (.int c3), .val (.int c4), .val (.int c5), .val (.int c6), .val (.ref ar), .val (.ref x), .unset] [])) _
    refine own_go (fun _ k => XS.iload X136.here hx rfl (hb hby at_180) rfl k) ?_
    show own_Go p e below (T136.setTop (mkF m 182 #[.val (.int p1), .val (.int p2), .val (.int p3), .val (.int p4), .val (.int (1 : Int32)), .val (.int c1), .val (.int c2), .val (.int c3), .val (.int c4), .val (.int c5), .val (.int c6), .val (.ref ar), .val (.ref x), .unset] [(.int (1 : Int32))])) _
    refine own_go (fun _ k => XS.iconst X136.here hx rfl (hb hby at_182) k) ?_
    show own_Go p e below (T136.setTop (mkF m 183 #[.val (.int p1), .val (.int p2), .val (.int p3), .val (.int p4), .val (.int (1 : Int32)), .val (.int c1), .val (.int c2), .val (.int c3), .val (.int c4), .val (.int c5), .val (.int c6), .val (.ref ar), .val (.ref x), .unset] [(.int (3 : Int32)), (.int (1 : Int32))])) _
    refine own_go (fun _ k => XS.icmpYes X136.here hx rfl (pc0 := 183) (pc' := 194) rfl (hb hby at_183) rfl (flt (by decide : ¬ ((3 : Int32) < (1 : Int32)))).2.2.2 (by decide) (by decide) k) ?_
    show own_Go p e below (T136.setTop (mkF m 194 #[.val (.int p1), .val (.int p2), .val (.int p3), .val (.int p4), .val (.int (1 : Int32)), .val (.int c1), .val (.int c2), .val (.int c3), .val (.int c4), .val (.int c5), .val (.int c6), .val (.ref ar), .val (.ref x), .unset] [])) _
    refine own_go (fun _ k => XS.iload X136.here hx rfl (hb hby at_194) rfl k) ?_
    show own_Go p e below (T136.setTop (mkF m 196 #[.val (.int p1), .val (.int p2), .val (.int p3), .val (.int p4), .val (.int (1 : Int32)), .val (.int c1), .val (.int c2), .val (.int c3), .val (.int c4), .val (.int c5), .val (.int c6), .val (.ref ar), .val (.ref x), .unset] [(.int (1 : Int32))])) _
    refine own_go (fun _ k => XS.iconst X136.here hx rfl (hb hby at_196) k) ?_
    show own_Go p e below (T136.setTop (mkF m 197 #[.val (.int p1), .val (.int p2), .val (.int p3), .val (.int p4), .val (.int (1 : Int32)), .val (.int c1), .val (.int c2), .val (.int c3), .val (.int c4), .val (.int c5), .val (.int c6), .val (.ref ar), .val (.ref x), .unset] [(.int (4 : Int32)), (.int (1 : Int32))])) _
    refine own_go (fun _ k => XS.icmpYes X136.here hx rfl (pc0 := 197) (pc' := 208) rfl (hb hby at_197) rfl (flt (by decide : ¬ ((4 : Int32) < (1 : Int32)))).2.2.2 (by decide) (by decide) k) ?_
    show own_Go p e below (T136.setTop (mkF m 208 #[.val (.int p1), .val (.int p2), .val (.int p3), .val (.int p4), .val (.int (1 : Int32)), .val (.int c1), .val (.int c2), .val (.int c3), .val (.int c4), .val (.int c5), .val (.int c6), .val (.ref ar), .val (.ref x), .unset] [])) _
    refine own_go (fun _ k => XS.iload X136.here hx rfl (hb hby at_208) rfl k) ?_
    show own_Go p e below (T136.setTop (mkF m 210 #[.val (.int p1), .val (.int p2), .val (.int p3), .val (.int p4), .val (.int (1 : Int32)), .val (.int c1), .val (.int c2), .val (.int c3), .val (.int c4), .val (.int c5), .val (.int c6), .val (.ref ar), .val (.ref x), .unset] [(.int (1 : Int32))])) _
    refine own_go (fun _ k => XS.iconst X136.here hx rfl (hb hby at_210) k) ?_
    show own_Go p e below (T136.setTop (mkF m 211 #[.val (.int p1), .val (.int p2), .val (.int p3), .val (.int p4), .val (.int (1 : Int32)), .val (.int c1), .val (.int c2), .val (.int c3), .val (.int c4), .val (.int c5), .val (.int c6), .val (.ref ar), .val (.ref x), .unset] [(.int (5 : Int32)), (.int (1 : Int32))])) _
    refine own_go (fun _ k => XS.icmpYes X136.here hx rfl (pc0 := 211) (pc' := 226) rfl (hb hby at_211) rfl (flt (by decide : ¬ ((5 : Int32) < (1 : Int32)))).2.2.2 (by decide) (by decide) k) ?_
    show own_Go p e below (T136.setTop (mkF m 226 #[.val (.int p1), .val (.int p2), .val (.int p3), .val (.int p4), .val (.int (1 : Int32)), .val (.int c1), .val (.int c2), .val (.int c3), .val (.int c4), .val (.int c5), .val (.int c6), .val (.ref ar), .val (.ref x), .unset] [])) _
    refine own_go (fun _ k => XS.iconst X136.here hx rfl (hb hby at_226) k) ?_
    show own_Go p e below (T136.setTop (mkF m 227 #[.val (.int p1), .val (.int p2), .val (.int p3), .val (.int p4), .val (.int (1 : Int32)), .val (.int c1), .val (.int c2), .val (.int c3), .val (.int c4), .val (.int c5), .val (.int c6), .val (.ref ar), .val (.ref x), .unset] [(.int (0 : Int32))])) _
    refine own_go (fun _ k => XS.istore X136.here hx rfl (hb hby at_227) rfl (l' := #[.val (.int p1), .val (.int p2), .val (.int p3), .val (.int p4), .val (.int (1 : Int32)), .val (.int c1), .val (.int c2), .val (.int c3), .val (.int c4), .val (.int c5), .val (.int c6), .val (.ref ar), .val (.ref x), .val (.int (0 : Int32))]) rfl k) ?_
    show own_Go p e below (T136.setTop (mkF m 229 #[.val (.int p1), .val (.int p2), .val (.int p3), .val (.int p4), .val (.int (1 : Int32)), .val (.int c1), .val (.int c2), .val (.int c3), .val (.int c4), .val (.int c5), .val (.int c6), .val (.ref ar), .val (.ref x), .val (.int (0 : Int32))] [])) _
    exact own_end1 l Z a0 hw p1 p2 p3 p4 (1 : Int32) c1 c2 c3 c4 c5 c6 ar (0 : Int32) x t kt ([c1] : List Int32) cd N2 vs G1 G3 h0 n0 X136 hx hby hml hown hZ hrt hlk h1 e136 N136 (Nat.le_trans Z0 (Nat.le_refl _)) O1 hh hS0 hk0 C0 E_x Fv_x Fc_x V_t O2 P5 O4 rG3 OA OH OL hC hok (own_ise_n (fun c hc => by simp only [List.mem_cons, List.not_mem_nil, or_false] at hc; rcases hc with rfl <;> assumption))
  · skip
    refine own_go (fun _ k => XS.ifYes X136.here hx rfl (pc0 := 149) (pc' := 222) rfl (hb hby at_149) rfl ((if0 _ _).trans (feq hc137).2) (by decide) (by decide) k) ?_
    show own_Go p e below (T136.setTop (mkF m 222 #[.val (.int p1), .val (.int p2), .val (.int p3), .val (.int p4), .val (.int (1 : Int32)), .val (.int c1), .val (.int c2), .val (.int c3), .val (.int c4), .val (.int c5), .val (.int c6), .val (.ref ar), .val (.ref x), .unset] [])) _
    refine own_go (fun _ k => XS.iconst X136.here hx rfl (hb hby at_222) k) ?_
    show own_Go p e below (T136.setTop (mkF m 223 #[.val (.int p1), .val (.int p2), .val (.int p3), .val (.int p4), .val (.int (1 : Int32)), .val (.int c1), .val (.int c2), .val (.int c3), .val (.int c4), .val (.int c5), .val (.int c6), .val (.ref ar), .val (.ref x), .unset] [(.int (1 : Int32))])) _
    refine own_go (fun _ k => XS.goto X136.here hx rfl (pc0 := 223) (pc' := 227) rfl (hb hby at_223) (by decide) (by decide) k) ?_
    show own_Go p e below (T136.setTop (mkF m 227 #[.val (.int p1), .val (.int p2), .val (.int p3), .val (.int p4), .val (.int (1 : Int32)), .val (.int c1), .val (.int c2), .val (.int c3), .val (.int c4), .val (.int c5), .val (.int c6), .val (.ref ar), .val (.ref x), .unset] [(.int (1 : Int32))])) _
    refine own_go (fun _ k => XS.istore X136.here hx rfl (hb hby at_227) rfl (l' := #[.val (.int p1), .val (.int p2), .val (.int p3), .val (.int p4), .val (.int (1 : Int32)), .val (.int c1), .val (.int c2), .val (.int c3), .val (.int c4), .val (.int c5), .val (.int c6), .val (.ref ar), .val (.ref x), .val (.int (1 : Int32))]) rfl k) ?_
    show own_Go p e below (T136.setTop (mkF m 229 #[.val (.int p1), .val (.int p2), .val (.int p3), .val (.int p4), .val (.int (1 : Int32)), .val (.int c1), .val (.int c2), .val (.int c3), .val (.int c4), .val (.int c5), .val (.int c6), .val (.ref ar), .val (.ref x), .val (.int (1 : Int32))] [])) _
    exact own_end1 l Z a0 hw p1 p2 p3 p4 (1 : Int32) c1 c2 c3 c4 c5 c6 ar (1 : Int32) x t kt ([c1] : List Int32) cd N2 vs G1 G3 h0 n0 X136 hx hby hml hown hZ hrt hlk h1 e136 N136 (Nat.le_trans Z0 (Nat.le_refl _)) O1 hh hS0 hk0 C0 E_x Fv_x Fc_x V_t O2 P5 O4 rG3 OA OH OL hC hok (own_ise_y (by simp) hc137)

set_option maxRecDepth 65536 in
set_option maxHeartbeats 40000000 in
theorem own_fst1 (l : Launch) (Z : State) (a0 : Array Value) (hw : ∀ d ∈ tables_1, d.before a0 Z = true) (p1 : Int32) (p2 : Int32) (p3 : Int32) (p4 : Int32) (c1 : Int32) (c2 : Int32) (c3 : Int32) (c4 : Int32) (c5 : Int32) (c6 : Int32) (G1 : Int32) (G3 : Value) (h0 : Heap) (n0 : Nat) {p : Program} {e : Env} {s : State} {vm0 : Vm} {m : MethodId} {below : List Frame} {meth : Method} {cC : Code} {T0 : State} {locs : List Loc} (X0 : Stand p l e room_1 (s.setVm vm0) m #[(.int p1), (.int p2), (.int p3), (.int p4)] below meth cC T0 locs 0 0) (hx : p.tables.exec = Jvm.exec) (hby : cC.code = code) (hml : cC.maxLocals = maxLocals) (hown : (s.setVm vm0).vm.findClass "com/example/rolelattice/rolelattice/decision/CatalogIsExpressionPinLaw" = some m.cls) (hZ : Z.Warmed39 (s.setVm vm0).vm) (hrt : meth.sig.returnType = ret) (hlk : meth.locks = false) (h1 : Heap) (e0 : T0.heap = h1) (N0 : Fr n0 locs) (Z0 : n0 ≤ h1.size) (O1 : Old Z n0 h1) (hh : s.heap = h0) {k0 : Nat} (hS0 : s.Since vm0 k0) (hk0 : k0 ≤ h1.size) (C0 : CHr Z own_EL s.vm h0 vm0 h1) (O2 : Sta Z Z.heap "java/lang/String" "COMPACT_STRINGS" "Z" (.int G1)) (P5 : ¬ (G1 = (0 : Int32))) (O4 : Sta Z Z.heap "jdk/internal/util/Preconditions" "SIOOBE_FORMATTER" "Ljava/util/function/BiFunction;" G3) (rG3 : G3.isRef = true) (OA : Sta Z Z.heap "java/lang/StringUTF16" "$assertionsDisabled" "Z" (.int (1 : Int32))) (OH : Sta Z Z.heap "java/lang/StringUTF16" "HI_BYTE_SHIFT" "I" (.int (0 : Int32))) (OL : Sta Z Z.heap "java/lang/StringUTF16" "LO_BYTE_SHIFT" "I" (.int (8 : Int32))) (b_c1 : ¬ c1 < 0 ∧ ¬ (65535 : Int32) < c1) (b_c2 : ¬ c2 < 0 ∧ ¬ (65535 : Int32) < c2) (b_c3 : ¬ c3 < 0 ∧ ¬ (65535 : Int32) < c3) (b_c4 : ¬ c4 < 0 ∧ ¬ (65535 : Int32) < c4) (b_c5 : ¬ c5 < 0 ∧ ¬ (65535 : Int32) < c5) (b_c6 : ¬ c6 < 0 ∧ ¬ (65535 : Int32) < c6) :
    own_Go p e below (T0.setTop (mkF m 51 #[.val (.int p1), .val (.int p2), .val (.int p3), .val (.int p4), .val (.int (1 : Int32)), .val (.int c1), .val (.int c2), .val (.int c3), .val (.int c4), .val (.int c5), .val (.int c6), .unset, .unset, .unset] [])) (fun oO U' => ∃ rV rL, oO = .returned rV ∧ QQ0 n0 rV U'.heap rL ∧ CHr Z own_EL s.vm s.heap U'.vm U'.heap ∧ ReturnedEndW s oO U' rL 24 1152) := by
  have own_wS := own_wSt hw
  have own_hEL := own_hELt hw
  show own_Go p e below (T0.setTop (mkF m 51 #[.val (.int p1), .val (.int p2), .val (.int p3), .val (.int p4), .val (.int (1 : Int32)), .val (.int c1), .val (.int c2), .val (.int c3), .val (.int c4), .val (.int c5), .val (.int c6), .unset, .unset, .unset] [])) _
  refine own_go (fun _ k => XS.iload X0.here hx rfl (hb hby at_51) rfl k) ?_
  show own_Go p e below (T0.setTop (mkF m 53 #[.val (.int p1), .val (.int p2), .val (.int p3), .val (.int p4), .val (.int (1 : Int32)), .val (.int c1), .val (.int c2), .val (.int c3), .val (.int c4), .val (.int c5), .val (.int c6), .unset, .unset, .unset] [(.int (1 : Int32))])) _
  obtain ⟨T138, h138, k138, X138, e138, E138, A138, st138⟩ := newP X0 hx hZ (hw _ (List.mem_of_getElem? (i := 2) rfl)) e0 (g := (mkF m 53 #[.val (.int p1), .val (.int p2), .val (.int p3), .val (.int p4), .val (.int (1 : Int32)), .val (.int c1), .val (.int c2), .val (.int c3), .val (.int c4), .val (.int c5), .val (.int c6), .unset, .unset, .unset] [(.int (1 : Int32))])) rfl (hb hby at_53) rfl (by decide) (cap := 1) (by decide) (by decide) (by decide) (by decide)
  obtain ⟨b138, g138⟩ : ∃ z, z = h1.size := ⟨_, rfl⟩
  rw [← g138] at A138 st138
  refine own_go st138 ?_
  have C139 := C0.trans (CHr.ext E138 C0.1)
  have V138 : Arv Z h138 b138 k138 .char (1 : Int32) [(.int (0 : Int32))] (.int (0 : Int32)) := (Arv.new A138 (by decide)).pad (pad_rep [] (.int (0 : Int32)) 1)
  show own_Go p e below (T138.setTop (mkF m 55 #[.val (.int p1), .val (.int p2), .val (.int p3), .val (.int p4), .val (.int (1 : Int32)), .val (.int c1), .val (.int c2), .val (.int c3), .val (.int c4), .val (.int c5), .val (.int c6), .unset, .unset, .unset] [(.ref b138)])) _
  refine own_go (fun _ k => XS.astore X138.here hx rfl (hb hby at_55) rfl rfl (l' := #[.val (.int p1), .val (.int p2), .val (.int p3), .val (.int p4), .val (.int (1 : Int32)), .val (.int c1), .val (.int c2), .val (.int c3), .val (.int c4), .val (.int c5), .val (.int c6), .val (.ref b138), .unset, .unset]) rfl k) ?_
  show own_Go p e below (T138.setTop (mkF m 57 #[.val (.int p1), .val (.int p2), .val (.int p3), .val (.int p4), .val (.int (1 : Int32)), .val (.int c1), .val (.int c2), .val (.int c3), .val (.int c4), .val (.int c5), .val (.int c6), .val (.ref b138), .unset, .unset] [])) _
  refine own_go (fun _ k => XS.iload X138.here hx rfl (hb hby at_57) rfl k) ?_
  show own_Go p e below (T138.setTop (mkF m 59 #[.val (.int p1), .val (.int p2), .val (.int p3), .val (.int p4), .val (.int (1 : Int32)), .val (.int c1), .val (.int c2), .val (.int c3), .val (.int c4), .val (.int c5), .val (.int c6), .val (.ref b138), .unset, .unset] [(.int (1 : Int32))])) _
  refine own_go (fun _ k => XS.ifNo X138.here hx rfl (hb hby at_59) rfl ((if0 _ _).trans (tlt (by decide : (0 : Int32) < (1 : Int32))).2.2.2) k) ?_
  show own_Go p e below (T138.setTop (mkF m 62 #[.val (.int p1), .val (.int p2), .val (.int p3), .val (.int p4), .val (.int (1 : Int32)), .val (.int c1), .val (.int c2), .val (.int c3), .val (.int c4), .val (.int c5), .val (.int c6), .val (.ref b138), .unset, .unset] [])) _
  refine own_go (fun _ k => XS.aload X138.here hx rfl (hb hby at_62) rfl rfl k) ?_
  show own_Go p e below (T138.setTop (mkF m 64 #[.val (.int p1), .val (.int p2), .val (.int p3), .val (.int p4), .val (.int (1 : Int32)), .val (.int c1), .val (.int c2), .val (.int c3), .val (.int c4), .val (.int c5), .val (.int c6), .val (.ref b138), .unset, .unset] [(.ref b138)])) _
  refine own_go (fun _ k => XS.iconst X138.here hx rfl (hb hby at_64) k) ?_
  show own_Go p e below (T138.setTop (mkF m 65 #[.val (.int p1), .val (.int p2), .val (.int p3), .val (.int p4), .val (.int (1 : Int32)), .val (.int c1), .val (.int c2), .val (.int c3), .val (.int c4), .val (.int c5), .val (.int c6), .val (.ref b138), .unset, .unset] [(.int (0 : Int32)), (.ref b138)])) _
  refine own_go (fun _ k => XS.iload X138.here hx rfl (hb hby at_65) rfl k) ?_
  show own_Go p e below (T138.setTop (mkF m 67 #[.val (.int p1), .val (.int p2), .val (.int p3), .val (.int p4), .val (.int (1 : Int32)), .val (.int c1), .val (.int c2), .val (.int c3), .val (.int c4), .val (.int c5), .val (.int c6), .val (.ref b138), .unset, .unset] [(.int c1), (.int (0 : Int32)), (.ref b138)])) _
  obtain ⟨c140, A140, q140, S140, M140, Hs140, Gs140⟩ := id V138
  obtain ⟨T141, h141, X141, e141, W141, st141⟩ := stC X138 hx hZ e138 A140 (j := (0 : Int32)) (inb_of S140 ⟨by decide, by decide⟩) (g := (mkF m 67 #[.val (.int p1), .val (.int p2), .val (.int p3), .val (.int p4), .val (.int (1 : Int32)), .val (.int c1), .val (.int c2), .val (.int c3), .val (.int c4), .val (.int c5), .val (.int c6), .val (.ref b138), .unset, .unset] [(.int c1), (.int (0 : Int32)), (.ref b138)])) rfl rfl (hb hby at_67)
  refine own_go st141 ?_
  have N141 := Fr.snoc X141 N0 (Nat.le_trans Z0 (Nat.le_of_eq g138.symm))
  have f142 := (Safe.ext E138 C0.1 (Safe.new (Nat.le_of_eq g138.symm)))
  have C143 := C139.trans (CHr.wr W141 f142 C139.1)
  have V141 : Arv Z h141 b138 k138 .char (1 : Int32) [(.int (nar .char c1))] (.int (0 : Int32)) := Arv.set A140 q140 S140 M140 Hs140 Gs140 (fits_nar_char _) W141 0 rfl (Nat.le_of_ble_eq_true rfl)
  have V141q : Arv Z h141 b138 k138 .char (1 : Int32) [(.int c1)] (.int (0 : Int32)) := by rw [show nar .char c1 = c1 from (own_nc b_c1.1 b_c1.2)] at V141; exact V141
  show own_Go p e below (T141.setTop (mkF m 68 #[.val (.int p1), .val (.int p2), .val (.int p3), .val (.int p4), .val (.int (1 : Int32)), .val (.int c1), .val (.int c2), .val (.int c3), .val (.int c4), .val (.int c5), .val (.int c6), .val (.ref b138), .unset, .unset] [])) _
  refine own_go (fun _ k => XS.iload X141.here hx rfl (hb hby at_68) rfl k) ?_
  show own_Go p e below (T141.setTop (mkF m 70 #[.val (.int p1), .val (.int p2), .val (.int p3), .val (.int p4), .val (.int (1 : Int32)), .val (.int c1), .val (.int c2), .val (.int c3), .val (.int c4), .val (.int c5), .val (.int c6), .val (.ref b138), .unset, .unset] [(.int (1 : Int32))])) _
  refine own_go (fun _ k => XS.iconst X141.here hx rfl (hb hby at_70) k) ?_
  show own_Go p e below (T141.setTop (mkF m 71 #[.val (.int p1), .val (.int p2), .val (.int p3), .val (.int p4), .val (.int (1 : Int32)), .val (.int c1), .val (.int c2), .val (.int c3), .val (.int c4), .val (.int c5), .val (.int c6), .val (.ref b138), .unset, .unset] [(.int (1 : Int32)), (.int (1 : Int32))])) _
  refine own_go (fun _ k => XS.icmpYes X141.here hx rfl (pc0 := 71) (pc' := 80) rfl (hb hby at_71) rfl (flt (by decide : ¬ ((1 : Int32) < (1 : Int32)))).2.2.2 (by decide) (by decide) k) ?_
  show own_Go p e below (T141.setTop (mkF m 80 #[.val (.int p1), .val (.int p2), .val (.int p3), .val (.int p4), .val (.int (1 : Int32)), .val (.int c1), .val (.int c2), .val (.int c3), .val (.int c4), .val (.int c5), .val (.int c6), .val (.ref b138), .unset, .unset] [])) _
  refine own_go (fun _ k => XS.iload X141.here hx rfl (hb hby at_80) rfl k) ?_
  show own_Go p e below (T141.setTop (mkF m 82 #[.val (.int p1), .val (.int p2), .val (.int p3), .val (.int p4), .val (.int (1 : Int32)), .val (.int c1), .val (.int c2), .val (.int c3), .val (.int c4), .val (.int c5), .val (.int c6), .val (.ref b138), .unset, .unset] [(.int (1 : Int32))])) _
  refine own_go (fun _ k => XS.iconst X141.here hx rfl (hb hby at_82) k) ?_
  show own_Go p e below (T141.setTop (mkF m 83 #[.val (.int p1), .val (.int p2), .val (.int p3), .val (.int p4), .val (.int (1 : Int32)), .val (.int c1), .val (.int c2), .val (.int c3), .val (.int c4), .val (.int c5), .val (.int c6), .val (.ref b138), .unset, .unset] [(.int (2 : Int32)), (.int (1 : Int32))])) _
  refine own_go (fun _ k => XS.icmpYes X141.here hx rfl (pc0 := 83) (pc' := 92) rfl (hb hby at_83) rfl (flt (by decide : ¬ ((2 : Int32) < (1 : Int32)))).2.2.2 (by decide) (by decide) k) ?_
  show own_Go p e below (T141.setTop (mkF m 92 #[.val (.int p1), .val (.int p2), .val (.int p3), .val (.int p4), .val (.int (1 : Int32)), .val (.int c1), .val (.int c2), .val (.int c3), .val (.int c4), .val (.int c5), .val (.int c6), .val (.ref b138), .unset, .unset] [])) _
  refine own_go (fun _ k => XS.iload X141.here hx rfl (hb hby at_92) rfl k) ?_
  show own_Go p e below (T141.setTop (mkF m 94 #[.val (.int p1), .val (.int p2), .val (.int p3), .val (.int p4), .val (.int (1 : Int32)), .val (.int c1), .val (.int c2), .val (.int c3), .val (.int c4), .val (.int c5), .val (.int c6), .val (.ref b138), .unset, .unset] [(.int (1 : Int32))])) _
  refine own_go (fun _ k => XS.iconst X141.here hx rfl (hb hby at_94) k) ?_
  show own_Go p e below (T141.setTop (mkF m 95 #[.val (.int p1), .val (.int p2), .val (.int p3), .val (.int p4), .val (.int (1 : Int32)), .val (.int c1), .val (.int c2), .val (.int c3), .val (.int c4), .val (.int c5), .val (.int c6), .val (.ref b138), .unset, .unset] [(.int (3 : Int32)), (.int (1 : Int32))])) _
  refine own_go (fun _ k => XS.icmpYes X141.here hx rfl (pc0 := 95) (pc' := 104) rfl (hb hby at_95) rfl (flt (by decide : ¬ ((3 : Int32) < (1 : Int32)))).2.2.2 (by decide) (by decide) k) ?_
  show own_Go p e below (T141.setTop (mkF m 104 #[.val (.int p1), .val (.int p2), .val (.int p3), .val (.int p4), .val (.int (1 : Int32)), .val (.int c1), .val (.int c2), .val (.int c3), .val (.int c4), .val (.int c5), .val (.int c6), .val (.ref b138), .unset, .unset] [])) _
  refine own_go (fun _ k => XS.iload X141.here hx rfl (hb hby at_104) rfl k) ?_
  show own_Go p e below (T141.setTop (mkF m 106 #[.val (.int p1), .val (.int p2), .val (.int p3), .val (.int p4), .val (.int (1 : Int32)), .val (.int c1), .val (.int c2), .val (.int c3), .val (.int c4), .val (.int c5), .val (.int c6), .val (.ref b138), .unset, .unset] [(.int (1 : Int32))])) _
  refine own_go (fun _ k => XS.iconst X141.here hx rfl (hb hby at_106) k) ?_
  show own_Go p e below (T141.setTop (mkF m 107 #[.val (.int p1), .val (.int p2), .val (.int p3), .val (.int p4), .val (.int (1 : Int32)), .val (.int c1), .val (.int c2), .val (.int c3), .val (.int c4), .val (.int c5), .val (.int c6), .val (.ref b138), .unset, .unset] [(.int (4 : Int32)), (.int (1 : Int32))])) _
  refine own_go (fun _ k => XS.icmpYes X141.here hx rfl (pc0 := 107) (pc' := 116) rfl (hb hby at_107) rfl (flt (by decide : ¬ ((4 : Int32) < (1 : Int32)))).2.2.2 (by decide) (by decide) k) ?_
  show own_Go p e below (T141.setTop (mkF m 116 #[.val (.int p1), .val (.int p2), .val (.int p3), .val (.int p4), .val (.int (1 : Int32)), .val (.int c1), .val (.int c2), .val (.int c3), .val (.int c4), .val (.int c5), .val (.int c6), .val (.ref b138), .unset, .unset] [])) _
  refine own_go (fun _ k => XS.iload X141.here hx rfl (hb hby at_116) rfl k) ?_
  show own_Go p e below (T141.setTop (mkF m 118 #[.val (.int p1), .val (.int p2), .val (.int p3), .val (.int p4), .val (.int (1 : Int32)), .val (.int c1), .val (.int c2), .val (.int c3), .val (.int c4), .val (.int c5), .val (.int c6), .val (.ref b138), .unset, .unset] [(.int (1 : Int32))])) _
  refine own_go (fun _ k => XS.iconst X141.here hx rfl (hb hby at_118) k) ?_
  show own_Go p e below (T141.setTop (mkF m 119 #[.val (.int p1), .val (.int p2), .val (.int p3), .val (.int p4), .val (.int (1 : Int32)), .val (.int c1), .val (.int c2), .val (.int c3), .val (.int c4), .val (.int c5), .val (.int c6), .val (.ref b138), .unset, .unset] [(.int (5 : Int32)), (.int (1 : Int32))])) _
  refine own_go (fun _ k => XS.icmpYes X141.here hx rfl (pc0 := 119) (pc' := 128) rfl (hb hby at_119) rfl (flt (by decide : ¬ ((5 : Int32) < (1 : Int32)))).2.2.2 (by decide) (by decide) k) ?_
  show own_Go p e below (T141.setTop (mkF m 128 #[.val (.int p1), .val (.int p2), .val (.int p3), .val (.int p4), .val (.int (1 : Int32)), .val (.int c1), .val (.int c2), .val (.int c3), .val (.int c4), .val (.int c5), .val (.int c6), .val (.ref b138), .unset, .unset] [])) _
  obtain ⟨T144, h144, X144, e144, E144, A144, D144, U144, st144⟩ := newO X141 hx hZ hown (hw _ (List.mem_of_getElem? (i := 3) rfl)) (hw _ (List.mem_of_getElem? (i := 4) rfl)) (hw _ (List.mem_of_getElem? (i := 5) rfl)) e141 (g := (mkF m 128 #[.val (.int p1), .val (.int p2), .val (.int p3), .val (.int p4), .val (.int (1 : Int32)), .val (.int c1), .val (.int c2), .val (.int c3), .val (.int c4), .val (.int c5), .val (.int c6), .val (.ref b138), .unset, .unset] [])) rfl (hb hby at_128) (by decide) (by decide)
  obtain ⟨b144, g144⟩ : ∃ z, z = h141.size := ⟨_, rfl⟩
  rw [← g144] at A144 D144 U144 st144
  refine own_go st144 ?_
  have C145 := C143.trans (CHr.ext E144 C143.1)
  have F144_coder : Fld Z h144 b144 "java/lang/String" "coder" "B" (.int (0 : Int32)) := D144 (Or.inr (hw _ (List.mem_of_getElem? (i := 29) rfl))) (ty := .byte) (by decide)
  have F144_value : Fld Z h144 b144 "java/lang/String" "value" "[B" .null := D144 (Or.inr (hw _ (List.mem_of_getElem? (i := 31) rfl))) (ty := (.array .byte)) (by decide)
  show own_Go p e below (T144.setTop (mkF m 131 #[.val (.int p1), .val (.int p2), .val (.int p3), .val (.int p4), .val (.int (1 : Int32)), .val (.int c1), .val (.int c2), .val (.int c3), .val (.int c4), .val (.int c5), .val (.int c6), .val (.ref b138), .unset, .unset] [(.ref b144)])) _
  refine own_go (fun _ k => XS.dup X144.here hx rfl (hb hby at_131) rfl rfl k) ?_
  show own_Go p e below (T144.setTop (mkF m 132 #[.val (.int p1), .val (.int p2), .val (.int p3), .val (.int p4), .val (.int (1 : Int32)), .val (.int c1), .val (.int c2), .val (.int c3), .val (.int c4), .val (.int c5), .val (.int c6), .val (.ref b138), .unset, .unset] [(.ref b144), (.ref b144)])) _
  refine own_go (fun _ k => XS.aload X144.here hx rfl (hb hby at_132) rfl rfl k) ?_
  show own_Go p e below (T144.setTop (mkF m 134 #[.val (.int p1), .val (.int p2), .val (.int p3), .val (.int p4), .val (.int (1 : Int32)), .val (.int c1), .val (.int c2), .val (.int c3), .val (.int c4), .val (.int c5), .val (.int c6), .val (.ref b138), .unset, .unset] [(.ref b138), (.ref b144), (.ref b144)])) _
  have z146 := (Nat.le_trans E138.1 (Keep.of_wr W141).1)
  have f147 := (((O1.ext E138).wr W141 (Nat.le_trans Z0 (Nat.le_of_eq g138.symm))).ext E144)
  obtain ⟨v148, _, ⟨T148, L148, k148, n148⟩, -, X148, ⟨Lc148, hQ148, l148, y148, z148⟩, st148⟩ := X144.specialBack hx (y := (⟨"java/lang/String", "<init>", "([C)V"⟩ : MethodName)) rfl hown (mvT hZ (hw _ (List.mem_of_getElem? (i := 6) rfl))) (mvT hZ (hw _ (List.mem_of_getElem? (i := 7) rfl))) (mvT hZ (hw _ (List.mem_of_getElem? (i := 8) rfl))) (by decide) (backOf (W := 1) (rm_i1 l Z a0 hw [] b144 b138 k138 (.int (0 : Int32)) [c1] G1 h144 n0 f147 A144 F144_value F144_coder (Nat.le_trans Z0 (Nat.le_trans z146 (Nat.le_of_eq g144.symm))) OA OH OL O2 P5 (own_okL1 b_c1) (V141q.ext E144) (Nat.le_of_ble_eq_true rfl) (Nat.le_of_ble_eq_true rfl)) hZ (hw _ (List.mem_of_getElem? (i := 8) rfl)) (hw _ (List.mem_of_getElem? (i := 5) rfl)) (by decide) (by decide)) (g := (mkF m 134 #[.val (.int p1), .val (.int p2), .val (.int p3), .val (.int p4), .val (.int (1 : Int32)), .val (.int c1), .val (.int c2), .val (.int c3), .val (.int c4), .val (.int c5), .val (.int c6), .val (.ref b138), .unset, .unset] [(.ref b138), (.ref b144), (.ref b144)])) rfl (by rw [hml]; rfl) (Steps.refl _) (a := b144) (argsL := [(.ref b138)]) (rest := [(.ref b144)]) (lenOf pd_18 rfl) rfl (by show 2 * 0 + _ ≤ _; exact Nat.le_of_eq rfl) (hb hby at_134) (fun _ _ => ⟨rfl, e144, (by decide : 2 + 2 ≤ _), (by decide : 5 + 18 ≤ _)⟩)
  dsimp only [Pt.U, Pt.locs, Pt.cells, Pt.slots] at X148 l148 y148 z148 st148 hQ148
  subst l148 y148 z148
  refine own_gos st148 ?_
  obtain ⟨t148, kt148, cd148, N2148, vs148, rfl, Nq148, K148, Fv148, Fc148, Vt148, hC148⟩ := hQ148
  have f149 := (Safe.ext E144 C143.1 (Safe.new (Nat.le_of_eq g144.symm)))
  have C150 := C145.trans (CHr.keep K148 (sfS f149 sf0) C145.1)
  have N148 := Fr.app N141 Nq148
  show own_Go p e below (T148.setTop (mkF m 137 #[.val (.int p1), .val (.int p2), .val (.int p3), .val (.int p4), .val (.int (1 : Int32)), .val (.int c1), .val (.int c2), .val (.int c3), .val (.int c4), .val (.int c5), .val (.int c6), .val (.ref b138), .unset, .unset] [(.ref b144)])) _
  refine own_go (fun _ k => XS.astore X148.here hx rfl (hb hby at_137) rfl rfl (l' := #[.val (.int p1), .val (.int p2), .val (.int p3), .val (.int p4), .val (.int (1 : Int32)), .val (.int c1), .val (.int c2), .val (.int c3), .val (.int c4), .val (.int c5), .val (.int c6), .val (.ref b138), .val (.ref b144), .unset]) rfl k) ?_
  show own_Go p e below (T148.setTop (mkF m 139 #[.val (.int p1), .val (.int p2), .val (.int p3), .val (.int p4), .val (.int (1 : Int32)), .val (.int c1), .val (.int c2), .val (.int c3), .val (.int c4), .val (.int c5), .val (.int c6), .val (.ref b138), .val (.ref b144), .unset] [])) _
  have z151 := (Nat.le_trans (Nat.le_trans z146 E144.1) K148.1)
  have f152 := (f147.keep K148 (allS (Nat.le_trans Z0 (Nat.le_trans z146 (Nat.le_of_eq g144.symm))) all0))
  exact own_mid1 l Z a0 hw p1 p2 p3 p4 c1 c2 c3 c4 c5 c6 b138 b144 t148 kt148 cd148 N2148 vs148 G1 G3 h0 n0 X148 hx hby hml hown hZ hrt hlk T148.heap (rfl : T148.heap = T148.heap) N148 (Nat.le_trans Z0 z151) f152 hh hS0 (Nat.le_trans hk0 z151) C150 (A144.keep K148) Fv148 Fc148 Vt148 O2 P5 O4 rG3 OA OH OL hC148 (own_okL1 b_c1)

set_option maxRecDepth 65536 in
set_option maxHeartbeats 40000000 in
theorem own_end2 (l : Launch) (Z : State) (a0 : Array Value) (hw : ∀ d ∈ tables_1, d.before a0 Z = true) (p1 : Int32) (p2 : Int32) (p3 : Int32) (p4 : Int32) (nv : Int32) (c1 : Int32) (c2 : Int32) (c3 : Int32) (c4 : Int32) (c5 : Int32) (c6 : Int32) (ar : Addr) (ee : Int32) (x : Addr) (t : Addr) (kt : ClassId) (cs : List Int32) (cd : Int32) (N2 : Int32) (vs : List Value) (G1 : Int32) (G3 : Value) (h0 : Heap) (n0 : Nat) {p : Program} {e : Env} {s : State} {vm0 : Vm} {m : MethodId} {below : List Frame} {meth : Method} {cC : Code} {T0 : State} {locs : List Loc} (X0 : Stand p l e room_1 (s.setVm vm0) m #[(.int p1), (.int p2), (.int p3), (.int p4)] below meth cC T0 locs 4 24) (hx : p.tables.exec = Jvm.exec) (hby : cC.code = code) (hml : cC.maxLocals = maxLocals) (hown : (s.setVm vm0).vm.findClass "com/example/rolelattice/rolelattice/decision/CatalogIsExpressionPinLaw" = some m.cls) (hZ : Z.Warmed39 (s.setVm vm0).vm) (hrt : meth.sig.returnType = ret) (hlk : meth.locks = false) (h1 : Heap) (e0 : T0.heap = h1) (N0 : Fr n0 locs) (Z0 : n0 ≤ h1.size) (O1 : Old Z n0 h1) (hh : s.heap = h0) {k0 : Nat} (hS0 : s.Since vm0 k0) (hk0 : k0 ≤ h1.size) (C0 : CHr Z own_EL s.vm h0 vm0 h1) (E_x : Exa Z h1 x "java/lang/String") (Fv_x : Fld Z h1 x "java/lang/String" "value" "[B" (.ref t)) (Fc_x : Fld Z h1 x "java/lang/String" "coder" "B" (.int cd)) (V_t : Arv Z h1 t kt .byte N2 vs (.int (0 : Int32))) (O2 : Sta Z Z.heap "java/lang/String" "COMPACT_STRINGS" "Z" (.int G1)) (P5 : ¬ (G1 = (0 : Int32))) (O4 : Sta Z Z.heap "jdk/internal/util/Preconditions" "SIOOBE_FORMATTER" "Ljava/util/function/BiFunction;" G3) (rG3 : G3.isRef = true) (OA : Sta Z Z.heap "java/lang/StringUTF16" "$assertionsDisabled" "Z" (.int (1 : Int32))) (OH : Sta Z Z.heap "java/lang/StringUTF16" "HI_BYTE_SHIFT" "I" (.int (0 : Int32))) (OL : Sta Z Z.heap "java/lang/StringUTF16" "LO_BYTE_SHIFT" "I" (.int (8 : Int32))) (hC : StrChars.Road.CodA cs cd N2 vs) (hok : own_Ok cs) (hee : (own_ise cs) = ee) :
    own_Go p e below (T0.setTop (mkF m 229 #[.val (.int p1), .val (.int p2), .val (.int p3), .val (.int p4), .val (.int nv), .val (.int c1), .val (.int c2), .val (.int c3), .val (.int c4), .val (.int c5), .val (.int c6), .val (.ref ar), .val (.ref x), .val (.int ee)] [])) (fun oO U' => ∃ rV rL, oO = .returned rV ∧ QQ0 n0 rV U'.heap rL ∧ CHr Z own_EL s.vm s.heap U'.vm U'.heap ∧ ReturnedEndW s oO U' rL 24 1152) := by
  have own_wS := own_wSt hw
  have own_hEL := own_hELt hw
  show own_Go p e below (T0.setTop (mkF m 229 #[.val (.int p1), .val (.int p2), .val (.int p3), .val (.int p4), .val (.int nv), .val (.int c1), .val (.int c2), .val (.int c3), .val (.int c4), .val (.int c5), .val (.int c6), .val (.ref ar), .val (.ref x), .val (.int ee)] [])) _
  refine own_go (fun _ k => XS.aload X0.here hx rfl (hb hby at_229) rfl rfl k) ?_
  show own_Go p e below (T0.setTop (mkF m 231 #[.val (.int p1), .val (.int p2), .val (.int p3), .val (.int p4), .val (.int nv), .val (.int c1), .val (.int c2), .val (.int c3), .val (.int c4), .val (.int c5), .val (.int c6), .val (.ref ar), .val (.ref x), .val (.int ee)] [(.ref x)])) _
  obtain ⟨v153, _, ⟨T153, L153, k153, n153⟩, -, X153, ⟨Lc153, hQ153, l153, y153, z153⟩, st153⟩ := Jvm.LawKit.callS X0 hx (y := (⟨"com/example/rolelattice/rolelattice/decision/Catalog", "isExpression", "(Ljava/lang/String;)Z"⟩ : MethodName)) hown (mvT hZ (hw _ (List.mem_of_getElem? (i := 36) rfl))) (mvT hZ (hw _ (List.mem_of_getElem? (i := 37) rfl))) (mvT hZ (hw _ (List.mem_of_getElem? (i := 38) rfl))) (mvT hZ (hw _ (List.mem_of_getElem? (i := 39) rfl))) (by decide) (backOf (W := 0) (rm_ise l Z a0 hw [] x t kt cs cd N2 vs G1 G3 h1 n0 O1 O2 P5 O4 rG3 OA OH OL E_x Fv_x Fc_x V_t hC hok) hZ (hw _ (List.mem_of_getElem? (i := 39) rfl)) (hw _ (List.mem_of_getElem? (i := 38) rfl)) (by decide) (by decide)) (g := (mkF m 231 #[.val (.int p1), .val (.int p2), .val (.int p3), .val (.int p4), .val (.int nv), .val (.int c1), .val (.int c2), .val (.int c3), .val (.int c4), .val (.int c5), .val (.int c6), .val (.ref ar), .val (.ref x), .val (.int ee)] [(.ref x)])) rfl (by rw [hml]; rfl) (argsL := [(.ref x)]) (rest := []) (lenOf pd_17 rfl) rfl (by show 2 * 0 + _ ≤ _; exact Nat.le_of_eq rfl) (hb hby at_231) (fun _ _ => ⟨rfl, e0, (by decide : 4 + 0 ≤ _), (by decide : 24 + 0 ≤ _)⟩)
  dsimp only [Pt.U, Pt.locs, Pt.cells, Pt.slots] at X153 l153 y153 z153 st153 hQ153
  subst l153 y153 z153
  refine own_go st153 ?_
  obtain ⟨rfl, Nq153, e153⟩ := hQ153
  have N153 := Fr.app N0 Nq153
  show own_Go p e below (T153.setTop (mkF m 234 #[.val (.int p1), .val (.int p2), .val (.int p3), .val (.int p4), .val (.int nv), .val (.int c1), .val (.int c2), .val (.int c3), .val (.int c4), .val (.int c5), .val (.int c6), .val (.ref ar), .val (.ref x), .val (.int ee)] [(.int (own_ise cs))])) _
  refine own_go (fun _ k => XS.iload X153.here hx rfl (hb hby at_234) rfl k) ?_
  show own_Go p e below (T153.setTop (mkF m 236 #[.val (.int p1), .val (.int p2), .val (.int p3), .val (.int p4), .val (.int nv), .val (.int c1), .val (.int c2), .val (.int c3), .val (.int c4), .val (.int c5), .val (.int c6), .val (.ref ar), .val (.ref x), .val (.int ee)] [(.int ee), (.int (own_ise cs))])) _
  refine own_go (fun _ k => XS.icmpNo X153.here hx rfl (hb hby at_236) rfl (teq hee).2 k) ?_
  show own_Go p e below (T153.setTop (mkF m 239 #[.val (.int p1), .val (.int p2), .val (.int p3), .val (.int p4), .val (.int nv), .val (.int c1), .val (.int c2), .val (.int c3), .val (.int c4), .val (.int c5), .val (.int c6), .val (.ref ar), .val (.ref x), .val (.int ee)] [])) _
  refine own_go (fun _ k => XS.iconst X153.here hx rfl (hb hby at_239) k) ?_
  show own_Go p e below (T153.setTop (mkF m 240 #[.val (.int p1), .val (.int p2), .val (.int p3), .val (.int p4), .val (.int nv), .val (.int c1), .val (.int c2), .val (.int c3), .val (.int c4), .val (.int c5), .val (.int c6), .val (.ref ar), .val (.ref x), .val (.int ee)] [(.int (1 : Int32))])) _
  refine own_go (fun _ k => XS.goto X153.here hx rfl (pc0 := 240) (pc' := 244) rfl (hb hby at_240) (by decide) (by decide) k) ?_
  show own_Go p e below (T153.setTop (mkF m 244 #[.val (.int p1), .val (.int p2), .val (.int p3), .val (.int p4), .val (.int nv), .val (.int c1), .val (.int c2), .val (.int c3), .val (.int c4), .val (.int c5), .val (.int c6), .val (.ref ar), .val (.ref x), .val (.int ee)] [(.int (1 : Int32))])) _
  refine own_finW (v := (some (.int (nar .boolean (1 : Int32))))) X153 hh hZ hS0 (by rw [e153]; exact hk0) (fun h => by rw [hrt] at h; cases h) hlk (fun fs hr => retN X153 hx (t := .boolean) hrt (by simp) (hb hby at_244) hr) (QQ := QQ0 n0) ?_ own_hEL e153 (C0) (by decide) (by decide)
  rw [e153]
  exact ⟨rfl, N153⟩

set_option maxRecDepth 65536 in
set_option maxHeartbeats 40000000 in
theorem own_mid2 (l : Launch) (Z : State) (a0 : Array Value) (hw : ∀ d ∈ tables_1, d.before a0 Z = true) (p1 : Int32) (p2 : Int32) (p3 : Int32) (p4 : Int32) (c1 : Int32) (c2 : Int32) (c3 : Int32) (c4 : Int32) (c5 : Int32) (c6 : Int32) (ar : Addr) (x : Addr) (t : Addr) (kt : ClassId) (cd : Int32) (N2 : Int32) (vs : List Value) (G1 : Int32) (G3 : Value) (h0 : Heap) (n0 : Nat) {p : Program} {e : Env} {s : State} {vm0 : Vm} {m : MethodId} {below : List Frame} {meth : Method} {cC : Code} {T0 : State} {locs : List Loc} (X0 : Stand p l e room_1 (s.setVm vm0) m #[(.int p1), (.int p2), (.int p3), (.int p4)] below meth cC T0 locs 4 24) (hx : p.tables.exec = Jvm.exec) (hby : cC.code = code) (hml : cC.maxLocals = maxLocals) (hown : (s.setVm vm0).vm.findClass "com/example/rolelattice/rolelattice/decision/CatalogIsExpressionPinLaw" = some m.cls) (hZ : Z.Warmed39 (s.setVm vm0).vm) (hrt : meth.sig.returnType = ret) (hlk : meth.locks = false) (h1 : Heap) (e0 : T0.heap = h1) (N0 : Fr n0 locs) (Z0 : n0 ≤ h1.size) (O1 : Old Z n0 h1) (hh : s.heap = h0) {k0 : Nat} (hS0 : s.Since vm0 k0) (hk0 : k0 ≤ h1.size) (C0 : CHr Z own_EL s.vm h0 vm0 h1) (E_x : Exa Z h1 x "java/lang/String") (Fv_x : Fld Z h1 x "java/lang/String" "value" "[B" (.ref t)) (Fc_x : Fld Z h1 x "java/lang/String" "coder" "B" (.int cd)) (V_t : Arv Z h1 t kt .byte N2 vs (.int (0 : Int32))) (O2 : Sta Z Z.heap "java/lang/String" "COMPACT_STRINGS" "Z" (.int G1)) (P5 : ¬ (G1 = (0 : Int32))) (O4 : Sta Z Z.heap "jdk/internal/util/Preconditions" "SIOOBE_FORMATTER" "Ljava/util/function/BiFunction;" G3) (rG3 : G3.isRef = true) (OA : Sta Z Z.heap "java/lang/StringUTF16" "$assertionsDisabled" "Z" (.int (1 : Int32))) (OH : Sta Z Z.heap "java/lang/StringUTF16" "HI_BYTE_SHIFT" "I" (.int (0 : Int32))) (OL : Sta Z Z.heap "java/lang/StringUTF16" "LO_BYTE_SHIFT" "I" (.int (8 : Int32))) (hC : StrChars.Road.CodA ([c1, c2] : List Int32) cd N2 vs) (hok : own_Ok ([c1, c2] : List Int32)) :
    own_Go p e below (T0.setTop (mkF m 139 #[.val (.int p1), .val (.int p2), .val (.int p3), .val (.int p4), .val (.int (2 : Int32)), .val (.int c1), .val (.int c2), .val (.int c3), .val (.int c4), .val (.int c5), .val (.int c6), .val (.ref ar), .val (.ref x), .unset] [])) (fun oO U' => ∃ rV rL, oO = .returned rV ∧ QQ0 n0 rV U'.heap rL ∧ CHr Z own_EL s.vm s.heap U'.vm U'.heap ∧ ReturnedEndW s oO U' rL 24 1152) := by
  have own_wS := own_wSt hw
  have own_hEL := own_hELt hw
  show own_Go p e below (T0.setTop (mkF m 139 #[.val (.int p1), .val (.int p2), .val (.int p3), .val (.int p4), .val (.int (2 : Int32)), .val (.int c1), .val (.int c2), .val (.int c3), .val (.int c4), .val (.int c5), .val (.int c6), .val (.ref ar), .val (.ref x), .unset] [])) _
  refine own_go (fun _ k => XS.iload X0.here hx rfl (hb hby at_139) rfl k) ?_
  show own_Go p e below (T0.setTop (mkF m 141 #[.val (.int p1), .val (.int p2), .val (.int p3), .val (.int p4), .val (.int (2 : Int32)), .val (.int c1), .val (.int c2), .val (.int c3), .val (.int c4), .val (.int c5), .val (.int c6), .val (.ref ar), .val (.ref x), .unset] [(.int (2 : Int32))])) _
  refine own_go (fun _ k => XS.ifNo X0.here hx rfl (hb hby at_141) rfl ((if0 _ _).trans (tlt (by decide : (0 : Int32) < (2 : Int32))).2.2.2) k) ?_
  show own_Go p e below (T0.setTop (mkF m 144 #[.val (.int p1), .val (.int p2), .val (.int p3), .val (.int p4), .val (.int (2 : Int32)), .val (.int c1), .val (.int c2), .val (.int c3), .val (.int c4), .val (.int c5), .val (.int c6), .val (.ref ar), .val (.ref x), .unset] [])) _
  refine own_go (fun _ k => XS.iload X0.here hx rfl (hb hby at_144) rfl k) ?_
  show own_Go p e below (T0.setTop (mkF m 146 #[.val (.int p1), .val (.int p2), .val (.int p3), .val (.int p4), .val (.int (2 : Int32)), .val (.int c1), .val (.int c2), .val (.int c3), .val (.int c4), .val (.int c5), .val (.int c6), .val (.ref ar), .val (.ref x), .unset] [(.int c1)])) _
  obtain ⟨v154, _, ⟨T154, L154, k154, n154⟩, -, X154, ⟨Lc154, hQ154, l154, y154, z154⟩, st154⟩ := Jvm.LawKit.callS X0 hx (y := (⟨"com/example/rolelattice/rolelattice/decision/CatalogIsExpressionPinLaw", "wild", "(C)Z"⟩ : MethodName)) hown (mvT hZ (hw _ (List.mem_of_getElem? (i := 32) rfl))) (mvT hZ (hw _ (List.mem_of_getElem? (i := 33) rfl))) (mvT hZ (hw _ (List.mem_of_getElem? (i := 34) rfl))) (mvT hZ (hw _ (List.mem_of_getElem? (i := 35) rfl))) (by decide) (backOf (W := 0) (rm_wild l Z a0 hw [] c1 h1 n0 O1 ) hZ (hw _ (List.mem_of_getElem? (i := 35) rfl)) (hw _ (List.mem_of_getElem? (i := 34) rfl)) (by decide) (by decide)) (g := (mkF m 146 #[.val (.int p1), .val (.int p2), .val (.int p3), .val (.int p4), .val (.int (2 : Int32)), .val (.int c1), .val (.int c2), .val (.int c3), .val (.int c4), .val (.int c5), .val (.int c6), .val (.ref ar), .val (.ref x), .unset] [(.int c1)])) rfl (by rw [hml]; rfl) (argsL := [(.int c1)]) (rest := []) (lenOf pd_19 rfl) rfl (by show 2 * 0 + _ ≤ _; exact Nat.le_of_eq rfl) (hb hby at_146) (fun _ _ => ⟨rfl, e0, (by decide : 4 + 0 ≤ _), (by decide : 24 + 0 ≤ _)⟩)
  dsimp only [Pt.U, Pt.locs, Pt.cells, Pt.slots] at X154 l154 y154 z154 st154 hQ154
  subst l154 y154 z154
  refine own_go st154 ?_
  obtain ⟨rfl, Nq154, e154⟩ := hQ154
  have N154 := Fr.app N0 Nq154
  show own_Go p e below (T154.setTop (mkF m 149 #[.val (.int p1), .val (.int p2), .val (.int p3), .val (.int p4), .val (.int (2 : Int32)), .val (.int c1), .val (.int c2), .val (.int c3), .val (.int c4), .val (.int c5), .val (.int c6), .val (.ref ar), .val (.ref x), .unset] [(.int (own_wild c1))])) _
  by_cases hc155 : (own_wild c1) = (0 : Int32)
  · skip
    refine own_go (fun _ k => XS.ifNo X154.here hx rfl (hb hby at_149) rfl ((if0 _ _).trans (teq hc155).2) k) ?_
    show own_Go p e below (T154.setTop (mkF m 152 #[.val (.int p1), .val (.int p2), .val (.int p3), .val (.int p4), .val (.int (2 : Int32)), .val (.int c1), .val (.int c2), .val (.int c3), .val (.int c4), .val (.int c5), .val (.int c6), .val (.ref ar), .val (.ref x), .unset] [])) _
    refine own_go (fun _ k => XS.iload X154.here hx rfl (hb hby at_152) rfl k) ?_
    show own_Go p e below (T154.setTop (mkF m 154 #[.val (.int p1), .val (.int p2), .val (.int p3), .val (.int p4), .val (.int (2 : Int32)), .val (.int c1), .val (.int c2), .val (.int c3), .val (.int c4), .val (.int c5), .val (.int c6), .val (.ref ar), .val (.ref x), .unset] [(.int (2 : Int32))])) _
    refine own_go (fun _ k => XS.iconst X154.here hx rfl (hb hby at_154) k) ?_
    show own_Go p e below (T154.setTop (mkF m 155 #[.val (.int p1), .val (.int p2), .val (.int p3), .val (.int p4), .val (.int (2 : Int32)), .val (.int c1), .val (.int c2), .val (.int c3), .val (.int c4), .val (.int c5), .val (.int c6), .val (.ref ar), .val (.ref x), .unset] [(.int (1 : Int32)), (.int (2 : Int32))])) _
    refine own_go (fun _ k => XS.icmpNo X154.here hx rfl (hb hby at_155) rfl (tlt (by decide : (1 : Int32) < (2 : Int32))).2.2.2 k) ?_
    show own_Go p e below (T154.setTop (mkF m 158 #[.val (.int p1), .val (.int p2), .val (.int p3), .val (.int p4), .val (.int (2 : Int32)), .val (.int c1), .val (.int c2), .val (.int c3), .val (.int c4), .val (.int c5), .val (.int c6), .val (.ref ar), .val (.ref x), .unset] [])) _
    refine own_go (fun _ k => XS.iload X154.here hx rfl (hb hby at_158) rfl k) ?_
    show own_Go p e below (T154.setTop (mkF m 160 #[.val (.int p1), .val (.int p2), .val (.int p3), .val (.int p4), .val (.int (2 : Int32)), .val (.int c1), .val (.int c2), .val (.int c3), .val (.int c4), .val (.int c5), .val (.int c6), .val (.ref ar), .val (.ref x), .unset] [(.int c2)])) _
    obtain ⟨v156, _, ⟨T156, L156, k156, n156⟩, -, X156, ⟨Lc156, hQ156, l156, y156, z156⟩, st156⟩ := Jvm.LawKit.callS X154 hx (y := (⟨"com/example/rolelattice/rolelattice/decision/CatalogIsExpressionPinLaw", "wild", "(C)Z"⟩ : MethodName)) hown (mvT hZ (hw _ (List.mem_of_getElem? (i := 32) rfl))) (mvT hZ (hw _ (List.mem_of_getElem? (i := 33) rfl))) (mvT hZ (hw _ (List.mem_of_getElem? (i := 34) rfl))) (mvT hZ (hw _ (List.mem_of_getElem? (i := 35) rfl))) (by decide) (backOf (W := 0) (rm_wild l Z a0 hw [] c2 h1 n0 O1 ) hZ (hw _ (List.mem_of_getElem? (i := 35) rfl)) (hw _ (List.mem_of_getElem? (i := 34) rfl)) (by decide) (by decide)) (g := (mkF m 160 #[.val (.int p1), .val (.int p2), .val (.int p3), .val (.int p4), .val (.int (2 : Int32)), .val (.int c1), .val (.int c2), .val (.int c3), .val (.int c4), .val (.int c5), .val (.int c6), .val (.ref ar), .val (.ref x), .unset] [(.int c2)])) rfl (by rw [hml]; rfl) (argsL := [(.int c2)]) (rest := []) (lenOf pd_19 rfl) rfl (by show 2 * 0 + _ ≤ _; exact Nat.le_of_eq rfl) (hb hby at_160) (fun _ _ => ⟨rfl, e154, (by decide : 4 + 0 ≤ _), (by decide : 24 + 0 ≤ _)⟩)
    dsimp only [Pt.U, Pt.locs, Pt.cells, Pt.slots] at X156 l156 y156 z156 st156 hQ156
    subst l156 y156 z156
    refine own_go st156 ?_
    obtain ⟨rfl, Nq156, e156⟩ := hQ156
    have N156 := Fr.app N154 Nq156
    show own_Go p e below (T156.setTop (mkF m 163 #[.val (.int p1), .val (.int p2), .val (.int p3), .val (.int p4), .val (.int (2 : Int32)), .val (.int c1), .val (.int c2), .val (.int c3), .val (.int c4), .val (.int c5), .val (.int c6), .val (.ref ar), .val (.ref x), .unset] [(.int (own_wild c2))])) _
    by_cases hc157 : (own_wild c2) = (0 : Int32)
    · skip
      refine own_go (fun _ k => XS.ifNo X156.here hx rfl (hb hby at_163) rfl ((if0 _ _).trans (teq hc157).2) k) ?_
      show own_Go p e below (T156.setTop (mkF m 166 #[.val (.int p1), .val (.int p2), .val (.int p3), .val (.int p4), .val (.int (2 : Int32)), .val (.int c1), .val (.int c2), .val (.int c3), .val (.int c4), .val (.int c5), .val (.int c6), .val (.ref ar), .val (.ref x), .unset] [])) _
      refine own_go (fun _ k => XS.iload X156.here hx rfl (hb hby at_166) rfl k) ?_
      show own_Go p e below (T156.setTop (mkF m 168 #[.val (.int p1), .val (.int p2), .val (.int p3), .val (.int p4), .val (.int (2 : Int32)), .val (.int c1), .val (.int c2), .val (.int c3), .val (.int c4), .val (.int c5), .val (.int c6), .val (.ref ar), .val (.ref x), .unset] [(.int (2 : Int32))])) _
      refine own_go (fun _ k => XS.iconst X156.here hx rfl (hb hby at_168) k) ?_
      show own_Go p e below (T156.setTop (mkF m 169 #[.val (.int p1), .val (.int p2), .val (.int p3), .val (.int p4), .val (.int (2 : Int32)), .val (.int c1), .val (.int c2), .val (.int c3), .val (.int c4), .val (.int c5), .val (.int c6), .val (.ref ar), .val (.ref x), .unset] [(.int (2 : Int32)), (.int (2 : Int32))])) _
      refine own_go (fun _ k => XS.icmpYes X156.here hx rfl (pc0 := 169) (pc' := 180) rfl (hb hby at_169) rfl (flt (by decide : ¬ ((2 : Int32) < (2 : Int32)))).2.2.2 (by decide) (by decide) k) ?_
      show own_Go p e below (T156.setTop (mkF m 180 #[.val (.int p1), .val (.int p2), .val (.int p3), .val (.int p4), .val (.int (2 : Int32)), .val (.int c1), .val (.int c2), .val (.int c3), .val (.int c4), .val (.int c5), .val (.int c6), .val (.ref ar), .val (.ref x), .unset] [])) _
      refine own_go (fun _ k => XS.iload X156.here hx rfl (hb hby at_180) rfl k) ?_
      show own_Go p e below (T156.setTop (mkF m 182 #[.val (.int p1), .val (.int p2), .val (.int p3), .val (.int p4), .val (.int (2 : Int32)), .val (.int c1), .val (.int c2), .val (.int c3), .val (.int c4), .val (.int c5), .val (.int c6), .val (.ref ar), .val (.ref x), .unset] [(.int (2 : Int32))])) _
      refine own_go (fun _ k => XS.iconst X156.here hx rfl (hb hby at_182) k) ?_
      show own_Go p e below (T156.setTop (mkF m 183 #[.val (.int p1), .val (.int p2), .val (.int p3), .val (.int p4), .val (.int (2 : Int32)), .val (.int c1), .val (.int c2), .val (.int c3), .val (.int c4), .val (.int c5), .val (.int c6), .val (.ref ar), .val (.ref x), .unset] [(.int (3 : Int32)), (.int (2 : Int32))])) _
      refine own_go (fun _ k => XS.icmpYes X156.here hx rfl (pc0 := 183) (pc' := 194) rfl (hb hby at_183) rfl (flt (by decide : ¬ ((3 : Int32) < (2 : Int32)))).2.2.2 (by decide) (by decide) k) ?_
      show own_Go p e below (T156.setTop (mkF m 194 #[.val (.int p1), .val (.int p2), .val (.int p3), .val (.int p4), .val (.int (2 : Int32)), .val (.int c1), .val (.int c2), .val (.int c3), .val (.int c4), .val (.int c5), .val (.int c6), .val (.ref ar), .val (.ref x), .unset] [])) _
      refine own_go (fun _ k => XS.iload X156.here hx rfl (hb hby at_194) rfl k) ?_
      show own_Go p e below (T156.setTop (mkF m 196 #[.val (.int p1), .val (.int p2), .val (.int p3), .val (.int p4), .val (.int (2 : Int32)), .val (.int c1), .val (.int c2), .val (.int c3), .val (.int c4), .val (.int c5), .val (.int c6), .val (.ref ar), .val (.ref x), .unset] [(.int (2 : Int32))])) _
      refine own_go (fun _ k => XS.iconst X156.here hx rfl (hb hby at_196) k) ?_
      show own_Go p e below (T156.setTop (mkF m 197 #[.val (.int p1), .val (.int p2), .val (.int p3), .val (.int p4), .val (.int (2 : Int32)), .val (.int c1), .val (.int c2), .val (.int c3), .val (.int c4), .val (.int c5), .val (.int c6), .val (.ref ar), .val (.ref x), .unset] [(.int (4 : Int32)), (.int (2 : Int32))])) _
      refine own_go (fun _ k => XS.icmpYes X156.here hx rfl (pc0 := 197) (pc' := 208) rfl (hb hby at_197) rfl (flt (by decide : ¬ ((4 : Int32) < (2 : Int32)))).2.2.2 (by decide) (by decide) k) ?_
      show own_Go p e below (T156.setTop (mkF m 208 #[.val (.int p1), .val (.int p2), .val (.int p3), .val (.int p4), .val (.int (2 : Int32)), .val (.int c1), .val (.int c2), .val (.int c3), .val (.int c4), .val (.int c5), .val (.int c6), .val (.ref ar), .val (.ref x), .unset] [])) _
      refine own_go (fun _ k => XS.iload X156.here hx rfl (hb hby at_208) rfl k) ?_
      show own_Go p e below (T156.setTop (mkF m 210 #[.val (.int p1), .val (.int p2), .val (.int p3), .val (.int p4), .val (.int (2 : Int32)), .val (.int c1), .val (.int c2), .val (.int c3), .val (.int c4), .val (.int c5), .val (.int c6), .val (.ref ar), .val (.ref x), .unset] [(.int (2 : Int32))])) _
      refine own_go (fun _ k => XS.iconst X156.here hx rfl (hb hby at_210) k) ?_
      show own_Go p e below (T156.setTop (mkF m 211 #[.val (.int p1), .val (.int p2), .val (.int p3), .val (.int p4), .val (.int (2 : Int32)), .val (.int c1), .val (.int c2), .val (.int c3), .val (.int c4), .val (.int c5), .val (.int c6), .val (.ref ar), .val (.ref x), .unset] [(.int (5 : Int32)), (.int (2 : Int32))])) _
      refine own_go (fun _ k => XS.icmpYes X156.here hx rfl (pc0 := 211) (pc' := 226) rfl (hb hby at_211) rfl (flt (by decide : ¬ ((5 : Int32) < (2 : Int32)))).2.2.2 (by decide) (by decide) k) ?_
      show own_Go p e below (T156.setTop (mkF m 226 #[.val (.int p1), .val (.int p2), .val (.int p3), .val (.int p4), .val (.int (2 : Int32)), .val (.int c1), .val (.int c2), .val (.int c3), .val (.int c4), .val (.int c5), .val (.int c6), .val (.ref ar), .val (.ref x), .unset] [])) _
      refine own_go (fun _ k => XS.iconst X156.here hx rfl (hb hby at_226) k) ?_
      show own_Go p e below (T156.setTop (mkF m 227 #[.val (.int p1), .val (.int p2), .val (.int p3), .val (.int p4), .val (.int (2 : Int32)), .val (.int c1), .val (.int c2), .val (.int c3), .val (.int c4), .val (.int c5), .val (.int c6), .val (.ref ar), .val (.ref x), .unset] [(.int (0 : Int32))])) _
      refine own_go (fun _ k => XS.istore X156.here hx rfl (hb hby at_227) rfl (l' := #[.val (.int p1), .val (.int p2), .val (.int p3), .val (.int p4), .val (.int (2 : Int32)), .val (.int c1), .val (.int c2), .val (.int c3), .val (.int c4), .val (.int c5), .val (.int c6), .val (.ref ar), .val (.ref x), .val (.int (0 : Int32))]) rfl k) ?_
      show own_Go p e below (T156.setTop (mkF m 229 #[.val (.int p1), .val (.int p2), .val (.int p3), .val (.int p4), .val (.int (2 : Int32)), .val (.int c1), .val (.int c2), .val (.int c3), .val (.int c4), .val (.int c5), .val (.int c6), .val (.ref ar), .val (.ref x), .val (.int (0 : Int32))] [])) _
      exact own_end2 l Z a0 hw p1 p2 p3 p4 (2 : Int32) c1 c2 c3 c4 c5 c6 ar (0 : Int32) x t kt ([c1, c2] : List Int32) cd N2 vs G1 G3 h0 n0 X156 hx hby hml hown hZ hrt hlk h1 e156 N156 (Nat.le_trans Z0 (Nat.le_refl _)) O1 hh hS0 hk0 C0 E_x Fv_x Fc_x V_t O2 P5 O4 rG3 OA OH OL hC hok (own_ise_n (fun c hc => by simp only [List.mem_cons, List.not_mem_nil, or_false] at hc; rcases hc with rfl | rfl <;> assumption))
    · skip
      refine own_go (fun _ k => XS.ifYes X156.here hx rfl (pc0 := 163) (pc' := 222) rfl (hb hby at_163) rfl ((if0 _ _).trans (feq hc157).2) (by decide) (by decide) k) ?_
      show own_Go p e below (T156.setTop (mkF m 222 #[.val (.int p1), .val (.int p2), .val (.int p3), .val (.int p4), .val (.int (2 : Int32)), .val (.int c1), .val (.int c2), .val (.int c3), .val (.int c4), .val (.int c5), .val (.int c6), .val (.ref ar), .val (.ref x), .unset] [])) _
      refine own_go (fun _ k => XS.iconst X156.here hx rfl (hb hby at_222) k) ?_
      show own_Go p e below (T156.setTop (mkF m 223 #[.val (.int p1), .val (.int p2), .val (.int p3), .val (.int p4), .val (.int (2 : Int32)), .val (.int c1), .val (.int c2), .val (.int c3), .val (.int c4), .val (.int c5), .val (.int c6), .val (.ref ar), .val (.ref x), .unset] [(.int (1 : Int32))])) _
      refine own_go (fun _ k => XS.goto X156.here hx rfl (pc0 := 223) (pc' := 227) rfl (hb hby at_223) (by decide) (by decide) k) ?_
      show own_Go p e below (T156.setTop (mkF m 227 #[.val (.int p1), .val (.int p2), .val (.int p3), .val (.int p4), .val (.int (2 : Int32)), .val (.int c1), .val (.int c2), .val (.int c3), .val (.int c4), .val (.int c5), .val (.int c6), .val (.ref ar), .val (.ref x), .unset] [(.int (1 : Int32))])) _
      refine own_go (fun _ k => XS.istore X156.here hx rfl (hb hby at_227) rfl (l' := #[.val (.int p1), .val (.int p2), .val (.int p3), .val (.int p4), .val (.int (2 : Int32)), .val (.int c1), .val (.int c2), .val (.int c3), .val (.int c4), .val (.int c5), .val (.int c6), .val (.ref ar), .val (.ref x), .val (.int (1 : Int32))]) rfl k) ?_
      show own_Go p e below (T156.setTop (mkF m 229 #[.val (.int p1), .val (.int p2), .val (.int p3), .val (.int p4), .val (.int (2 : Int32)), .val (.int c1), .val (.int c2), .val (.int c3), .val (.int c4), .val (.int c5), .val (.int c6), .val (.ref ar), .val (.ref x), .val (.int (1 : Int32))] [])) _
      exact own_end2 l Z a0 hw p1 p2 p3 p4 (2 : Int32) c1 c2 c3 c4 c5 c6 ar (1 : Int32) x t kt ([c1, c2] : List Int32) cd N2 vs G1 G3 h0 n0 X156 hx hby hml hown hZ hrt hlk h1 e156 N156 (Nat.le_trans Z0 (Nat.le_refl _)) O1 hh hS0 hk0 C0 E_x Fv_x Fc_x V_t O2 P5 O4 rG3 OA OH OL hC hok (own_ise_y (by simp) hc157)
  · skip
    refine own_go (fun _ k => XS.ifYes X154.here hx rfl (pc0 := 149) (pc' := 222) rfl (hb hby at_149) rfl ((if0 _ _).trans (feq hc155).2) (by decide) (by decide) k) ?_
    show own_Go p e below (T154.setTop (mkF m 222 #[.val (.int p1), .val (.int p2), .val (.int p3), .val (.int p4), .val (.int (2 : Int32)), .val (.int c1), .val (.int c2), .val (.int c3), .val (.int c4), .val (.int c5), .val (.int c6), .val (.ref ar), .val (.ref x), .unset] [])) _
    refine own_go (fun _ k => XS.iconst X154.here hx rfl (hb hby at_222) k) ?_
    show own_Go p e below (T154.setTop (mkF m 223 #[.val (.int p1), .val (.int p2), .val (.int p3), .val (.int p4), .val (.int (2 : Int32)), .val (.int c1), .val (.int c2), .val (.int c3), .val (.int c4), .val (.int c5), .val (.int c6), .val (.ref ar), .val (.ref x), .unset] [(.int (1 : Int32))])) _
    refine own_go (fun _ k => XS.goto X154.here hx rfl (pc0 := 223) (pc' := 227) rfl (hb hby at_223) (by decide) (by decide) k) ?_
    show own_Go p e below (T154.setTop (mkF m 227 #[.val (.int p1), .val (.int p2), .val (.int p3), .val (.int p4), .val (.int (2 : Int32)), .val (.int c1), .val (.int c2), .val (.int c3), .val (.int c4), .val (.int c5), .val (.int c6), .val (.ref ar), .val (.ref x), .unset] [(.int (1 : Int32))])) _
    refine own_go (fun _ k => XS.istore X154.here hx rfl (hb hby at_227) rfl (l' := #[.val (.int p1), .val (.int p2), .val (.int p3), .val (.int p4), .val (.int (2 : Int32)), .val (.int c1), .val (.int c2), .val (.int c3), .val (.int c4), .val (.int c5), .val (.int c6), .val (.ref ar), .val (.ref x), .val (.int (1 : Int32))]) rfl k) ?_
    show own_Go p e below (T154.setTop (mkF m 229 #[.val (.int p1), .val (.int p2), .val (.int p3), .val (.int p4), .val (.int (2 : Int32)), .val (.int c1), .val (.int c2), .val (.int c3), .val (.int c4), .val (.int c5), .val (.int c6), .val (.ref ar), .val (.ref x), .val (.int (1 : Int32))] [])) _
    exact own_end2 l Z a0 hw p1 p2 p3 p4 (2 : Int32) c1 c2 c3 c4 c5 c6 ar (1 : Int32) x t kt ([c1, c2] : List Int32) cd N2 vs G1 G3 h0 n0 X154 hx hby hml hown hZ hrt hlk h1 e154 N154 (Nat.le_trans Z0 (Nat.le_refl _)) O1 hh hS0 hk0 C0 E_x Fv_x Fc_x V_t O2 P5 O4 rG3 OA OH OL hC hok (own_ise_y (by simp) hc155)

set_option maxRecDepth 65536 in
set_option maxHeartbeats 40000000 in
theorem own_fst2 (l : Launch) (Z : State) (a0 : Array Value) (hw : ∀ d ∈ tables_1, d.before a0 Z = true) (p1 : Int32) (p2 : Int32) (p3 : Int32) (p4 : Int32) (c1 : Int32) (c2 : Int32) (c3 : Int32) (c4 : Int32) (c5 : Int32) (c6 : Int32) (G1 : Int32) (G3 : Value) (h0 : Heap) (n0 : Nat) {p : Program} {e : Env} {s : State} {vm0 : Vm} {m : MethodId} {below : List Frame} {meth : Method} {cC : Code} {T0 : State} {locs : List Loc} (X0 : Stand p l e room_1 (s.setVm vm0) m #[(.int p1), (.int p2), (.int p3), (.int p4)] below meth cC T0 locs 0 0) (hx : p.tables.exec = Jvm.exec) (hby : cC.code = code) (hml : cC.maxLocals = maxLocals) (hown : (s.setVm vm0).vm.findClass "com/example/rolelattice/rolelattice/decision/CatalogIsExpressionPinLaw" = some m.cls) (hZ : Z.Warmed39 (s.setVm vm0).vm) (hrt : meth.sig.returnType = ret) (hlk : meth.locks = false) (h1 : Heap) (e0 : T0.heap = h1) (N0 : Fr n0 locs) (Z0 : n0 ≤ h1.size) (O1 : Old Z n0 h1) (hh : s.heap = h0) {k0 : Nat} (hS0 : s.Since vm0 k0) (hk0 : k0 ≤ h1.size) (C0 : CHr Z own_EL s.vm h0 vm0 h1) (O2 : Sta Z Z.heap "java/lang/String" "COMPACT_STRINGS" "Z" (.int G1)) (P5 : ¬ (G1 = (0 : Int32))) (O4 : Sta Z Z.heap "jdk/internal/util/Preconditions" "SIOOBE_FORMATTER" "Ljava/util/function/BiFunction;" G3) (rG3 : G3.isRef = true) (OA : Sta Z Z.heap "java/lang/StringUTF16" "$assertionsDisabled" "Z" (.int (1 : Int32))) (OH : Sta Z Z.heap "java/lang/StringUTF16" "HI_BYTE_SHIFT" "I" (.int (0 : Int32))) (OL : Sta Z Z.heap "java/lang/StringUTF16" "LO_BYTE_SHIFT" "I" (.int (8 : Int32))) (b_c1 : ¬ c1 < 0 ∧ ¬ (65535 : Int32) < c1) (b_c2 : ¬ c2 < 0 ∧ ¬ (65535 : Int32) < c2) (b_c3 : ¬ c3 < 0 ∧ ¬ (65535 : Int32) < c3) (b_c4 : ¬ c4 < 0 ∧ ¬ (65535 : Int32) < c4) (b_c5 : ¬ c5 < 0 ∧ ¬ (65535 : Int32) < c5) (b_c6 : ¬ c6 < 0 ∧ ¬ (65535 : Int32) < c6) :
    own_Go p e below (T0.setTop (mkF m 51 #[.val (.int p1), .val (.int p2), .val (.int p3), .val (.int p4), .val (.int (2 : Int32)), .val (.int c1), .val (.int c2), .val (.int c3), .val (.int c4), .val (.int c5), .val (.int c6), .unset, .unset, .unset] [])) (fun oO U' => ∃ rV rL, oO = .returned rV ∧ QQ0 n0 rV U'.heap rL ∧ CHr Z own_EL s.vm s.heap U'.vm U'.heap ∧ ReturnedEndW s oO U' rL 24 1152) := by
  have own_wS := own_wSt hw
  have own_hEL := own_hELt hw
  show own_Go p e below (T0.setTop (mkF m 51 #[.val (.int p1), .val (.int p2), .val (.int p3), .val (.int p4), .val (.int (2 : Int32)), .val (.int c1), .val (.int c2), .val (.int c3), .val (.int c4), .val (.int c5), .val (.int c6), .unset, .unset, .unset] [])) _
  refine own_go (fun _ k => XS.iload X0.here hx rfl (hb hby at_51) rfl k) ?_
  show own_Go p e below (T0.setTop (mkF m 53 #[.val (.int p1), .val (.int p2), .val (.int p3), .val (.int p4), .val (.int (2 : Int32)), .val (.int c1), .val (.int c2), .val (.int c3), .val (.int c4), .val (.int c5), .val (.int c6), .unset, .unset, .unset] [(.int (2 : Int32))])) _
  obtain ⟨T158, h158, k158, X158, e158, E158, A158, st158⟩ := newP X0 hx hZ (hw _ (List.mem_of_getElem? (i := 2) rfl)) e0 (g := (mkF m 53 #[.val (.int p1), .val (.int p2), .val (.int p3), .val (.int p4), .val (.int (2 : Int32)), .val (.int c1), .val (.int c2), .val (.int c3), .val (.int c4), .val (.int c5), .val (.int c6), .unset, .unset, .unset] [(.int (2 : Int32))])) rfl (hb hby at_53) rfl (by decide) (cap := 2) (by decide) (by decide) (by decide) (by decide)
  obtain ⟨b158, g158⟩ : ∃ z, z = h1.size := ⟨_, rfl⟩
  rw [← g158] at A158 st158
  refine own_go st158 ?_
  have C159 := C0.trans (CHr.ext E158 C0.1)
  have V158 : Arv Z h158 b158 k158 .char (2 : Int32) [(.int (0 : Int32)), (.int (0 : Int32))] (.int (0 : Int32)) := (Arv.new A158 (by decide)).pad (pad_rep [] (.int (0 : Int32)) 2)
  show own_Go p e below (T158.setTop (mkF m 55 #[.val (.int p1), .val (.int p2), .val (.int p3), .val (.int p4), .val (.int (2 : Int32)), .val (.int c1), .val (.int c2), .val (.int c3), .val (.int c4), .val (.int c5), .val (.int c6), .unset, .unset, .unset] [(.ref b158)])) _
  refine own_go (fun _ k => XS.astore X158.here hx rfl (hb hby at_55) rfl rfl (l' := #[.val (.int p1), .val (.int p2), .val (.int p3), .val (.int p4), .val (.int (2 : Int32)), .val (.int c1), .val (.int c2), .val (.int c3), .val (.int c4), .val (.int c5), .val (.int c6), .val (.ref b158), .unset, .unset]) rfl k) ?_
  show own_Go p e below (T158.setTop (mkF m 57 #[.val (.int p1), .val (.int p2), .val (.int p3), .val (.int p4), .val (.int (2 : Int32)), .val (.int c1), .val (.int c2), .val (.int c3), .val (.int c4), .val (.int c5), .val (.int c6), .val (.ref b158), .unset, .unset] [])) _
  refine own_go (fun _ k => XS.iload X158.here hx rfl (hb hby at_57) rfl k) ?_
  show own_Go p e below (T158.setTop (mkF m 59 #[.val (.int p1), .val (.int p2), .val (.int p3), .val (.int p4), .val (.int (2 : Int32)), .val (.int c1), .val (.int c2), .val (.int c3), .val (.int c4), .val (.int c5), .val (.int c6), .val (.ref b158), .unset, .unset] [(.int (2 : Int32))])) _
  refine own_go (fun _ k => XS.ifNo X158.here hx rfl (hb hby at_59) rfl ((if0 _ _).trans (tlt (by decide : (0 : Int32) < (2 : Int32))).2.2.2) k) ?_
  show own_Go p e below (T158.setTop (mkF m 62 #[.val (.int p1), .val (.int p2), .val (.int p3), .val (.int p4), .val (.int (2 : Int32)), .val (.int c1), .val (.int c2), .val (.int c3), .val (.int c4), .val (.int c5), .val (.int c6), .val (.ref b158), .unset, .unset] [])) _
  refine own_go (fun _ k => XS.aload X158.here hx rfl (hb hby at_62) rfl rfl k) ?_
  show own_Go p e below (T158.setTop (mkF m 64 #[.val (.int p1), .val (.int p2), .val (.int p3), .val (.int p4), .val (.int (2 : Int32)), .val (.int c1), .val (.int c2), .val (.int c3), .val (.int c4), .val (.int c5), .val (.int c6), .val (.ref b158), .unset, .unset] [(.ref b158)])) _
  refine own_go (fun _ k => XS.iconst X158.here hx rfl (hb hby at_64) k) ?_
  show own_Go p e below (T158.setTop (mkF m 65 #[.val (.int p1), .val (.int p2), .val (.int p3), .val (.int p4), .val (.int (2 : Int32)), .val (.int c1), .val (.int c2), .val (.int c3), .val (.int c4), .val (.int c5), .val (.int c6), .val (.ref b158), .unset, .unset] [(.int (0 : Int32)), (.ref b158)])) _
  refine own_go (fun _ k => XS.iload X158.here hx rfl (hb hby at_65) rfl k) ?_
  show own_Go p e below (T158.setTop (mkF m 67 #[.val (.int p1), .val (.int p2), .val (.int p3), .val (.int p4), .val (.int (2 : Int32)), .val (.int c1), .val (.int c2), .val (.int c3), .val (.int c4), .val (.int c5), .val (.int c6), .val (.ref b158), .unset, .unset] [(.int c1), (.int (0 : Int32)), (.ref b158)])) _
  obtain ⟨c160, A160, q160, S160, M160, Hs160, Gs160⟩ := id V158
  obtain ⟨T161, h161, X161, e161, W161, st161⟩ := stC X158 hx hZ e158 A160 (j := (0 : Int32)) (inb_of S160 ⟨by decide, by decide⟩) (g := (mkF m 67 #[.val (.int p1), .val (.int p2), .val (.int p3), .val (.int p4), .val (.int (2 : Int32)), .val (.int c1), .val (.int c2), .val (.int c3), .val (.int c4), .val (.int c5), .val (.int c6), .val (.ref b158), .unset, .unset] [(.int c1), (.int (0 : Int32)), (.ref b158)])) rfl rfl (hb hby at_67)
  refine own_go st161 ?_
  have N161 := Fr.snoc X161 N0 (Nat.le_trans Z0 (Nat.le_of_eq g158.symm))
  have f162 := (Safe.ext E158 C0.1 (Safe.new (Nat.le_of_eq g158.symm)))
  have C163 := C159.trans (CHr.wr W161 f162 C159.1)
  have V161 : Arv Z h161 b158 k158 .char (2 : Int32) [(.int (nar .char c1)), (.int (0 : Int32))] (.int (0 : Int32)) := Arv.set A160 q160 S160 M160 Hs160 Gs160 (fits_nar_char _) W161 0 rfl (Nat.le_of_ble_eq_true rfl)
  have V161q : Arv Z h161 b158 k158 .char (2 : Int32) [(.int c1), (.int (0 : Int32))] (.int (0 : Int32)) := by rw [show nar .char c1 = c1 from (own_nc b_c1.1 b_c1.2)] at V161; exact V161
  show own_Go p e below (T161.setTop (mkF m 68 #[.val (.int p1), .val (.int p2), .val (.int p3), .val (.int p4), .val (.int (2 : Int32)), .val (.int c1), .val (.int c2), .val (.int c3), .val (.int c4), .val (.int c5), .val (.int c6), .val (.ref b158), .unset, .unset] [])) _
  refine own_go (fun _ k => XS.iload X161.here hx rfl (hb hby at_68) rfl k) ?_
  show own_Go p e below (T161.setTop (mkF m 70 #[.val (.int p1), .val (.int p2), .val (.int p3), .val (.int p4), .val (.int (2 : Int32)), .val (.int c1), .val (.int c2), .val (.int c3), .val (.int c4), .val (.int c5), .val (.int c6), .val (.ref b158), .unset, .unset] [(.int (2 : Int32))])) _
  refine own_go (fun _ k => XS.iconst X161.here hx rfl (hb hby at_70) k) ?_
  show own_Go p e below (T161.setTop (mkF m 71 #[.val (.int p1), .val (.int p2), .val (.int p3), .val (.int p4), .val (.int (2 : Int32)), .val (.int c1), .val (.int c2), .val (.int c3), .val (.int c4), .val (.int c5), .val (.int c6), .val (.ref b158), .unset, .unset] [(.int (1 : Int32)), (.int (2 : Int32))])) _
  refine own_go (fun _ k => XS.icmpNo X161.here hx rfl (hb hby at_71) rfl (tlt (by decide : (1 : Int32) < (2 : Int32))).2.2.2 k) ?_
  show own_Go p e below (T161.setTop (mkF m 74 #[.val (.int p1), .val (.int p2), .val (.int p3), .val (.int p4), .val (.int (2 : Int32)), .val (.int c1), .val (.int c2), .val (.int c3), .val (.int c4), .val (.int c5), .val (.int c6), .val (.ref b158), .unset, .unset] [])) _
  refine own_go (fun _ k => XS.aload X161.here hx rfl (hb hby at_74) rfl rfl k) ?_
  show own_Go p e below (T161.setTop (mkF m 76 #[.val (.int p1), .val (.int p2), .val (.int p3), .val (.int p4), .val (.int (2 : Int32)), .val (.int c1), .val (.int c2), .val (.int c3), .val (.int c4), .val (.int c5), .val (.int c6), .val (.ref b158), .unset, .unset] [(.ref b158)])) _
  refine own_go (fun _ k => XS.iconst X161.here hx rfl (hb hby at_76) k) ?_
  show own_Go p e below (T161.setTop (mkF m 77 #[.val (.int p1), .val (.int p2), .val (.int p3), .val (.int p4), .val (.int (2 : Int32)), .val (.int c1), .val (.int c2), .val (.int c3), .val (.int c4), .val (.int c5), .val (.int c6), .val (.ref b158), .unset, .unset] [(.int (1 : Int32)), (.ref b158)])) _
  refine own_go (fun _ k => XS.iload X161.here hx rfl (hb hby at_77) rfl k) ?_
  show own_Go p e below (T161.setTop (mkF m 79 #[.val (.int p1), .val (.int p2), .val (.int p3), .val (.int p4), .val (.int (2 : Int32)), .val (.int c1), .val (.int c2), .val (.int c3), .val (.int c4), .val (.int c5), .val (.int c6), .val (.ref b158), .unset, .unset] [(.int c2), (.int (1 : Int32)), (.ref b158)])) _
  obtain ⟨c164, A164, q164, S164, M164, Hs164, Gs164⟩ := id V161q
  obtain ⟨T165, h165, X165, e165, W165, st165⟩ := stC X161 hx hZ e161 A164 (j := (1 : Int32)) (inb_of S164 ⟨by decide, by decide⟩) (g := (mkF m 79 #[.val (.int p1), .val (.int p2), .val (.int p3), .val (.int p4), .val (.int (2 : Int32)), .val (.int c1), .val (.int c2), .val (.int c3), .val (.int c4), .val (.int c5), .val (.int c6), .val (.ref b158), .unset, .unset] [(.int c2), (.int (1 : Int32)), (.ref b158)])) rfl rfl (hb hby at_79)
  refine own_go st165 ?_
  have N165 := Fr.snoc X165 N161 (Nat.le_trans Z0 (Nat.le_of_eq g158.symm))
  have f166 := (Safe.wr W161 f162 C159.1 f162)
  have C167 := C163.trans (CHr.wr W165 f166 C163.1)
  have V165 : Arv Z h165 b158 k158 .char (2 : Int32) [(.int c1), (.int (nar .char c2))] (.int (0 : Int32)) := Arv.set A164 q164 S164 M164 Hs164 Gs164 (fits_nar_char _) W165 1 rfl (Nat.le_of_ble_eq_true rfl)
  have V165q : Arv Z h165 b158 k158 .char (2 : Int32) [(.int c1), (.int c2)] (.int (0 : Int32)) := by rw [show nar .char c2 = c2 from (own_nc b_c2.1 b_c2.2)] at V165; exact V165
  show own_Go p e below (T165.setTop (mkF m 80 #[.val (.int p1), .val (.int p2), .val (.int p3), .val (.int p4), .val (.int (2 : Int32)), .val (.int c1), .val (.int c2), .val (.int c3), .val (.int c4), .val (.int c5), .val (.int c6), .val (.ref b158), .unset, .unset] [])) _
  refine own_go (fun _ k => XS.iload X165.here hx rfl (hb hby at_80) rfl k) ?_
  show own_Go p e below (T165.setTop (mkF m 82 #[.val (.int p1), .val (.int p2), .val (.int p3), .val (.int p4), .val (.int (2 : Int32)), .val (.int c1), .val (.int c2), .val (.int c3), .val (.int c4), .val (.int c5), .val (.int c6), .val (.ref b158), .unset, .unset] [(.int (2 : Int32))])) _
  refine own_go (fun _ k => XS.iconst X165.here hx rfl (hb hby at_82) k) ?_
  show own_Go p e below (T165.setTop (mkF m 83 #[.val (.int p1), .val (.int p2), .val (.int p3), .val (.int p4), .val (.int (2 : Int32)), .val (.int c1), .val (.int c2), .val (.int c3), .val (.int c4), .val (.int c5), .val (.int c6), .val (.ref b158), .unset, .unset] [(.int (2 : Int32)), (.int (2 : Int32))])) _
  refine own_go (fun _ k => XS.icmpYes X165.here hx rfl (pc0 := 83) (pc' := 92) rfl (hb hby at_83) rfl (flt (by decide : ¬ ((2 : Int32) < (2 : Int32)))).2.2.2 (by decide) (by decide) k) ?_
  show own_Go p e below (T165.setTop (mkF m 92 #[.val (.int p1), .val (.int p2), .val (.int p3), .val (.int p4), .val (.int (2 : Int32)), .val (.int c1), .val (.int c2), .val (.int c3), .val (.int c4), .val (.int c5), .val (.int c6), .val (.ref b158), .unset, .unset] [])) _
  refine own_go (fun _ k => XS.iload X165.here hx rfl (hb hby at_92) rfl k) ?_
  show own_Go p e below (T165.setTop (mkF m 94 #[.val (.int p1), .val (.int p2), .val (.int p3), .val (.int p4), .val (.int (2 : Int32)), .val (.int c1), .val (.int c2), .val (.int c3), .val (.int c4), .val (.int c5), .val (.int c6), .val (.ref b158), .unset, .unset] [(.int (2 : Int32))])) _
  refine own_go (fun _ k => XS.iconst X165.here hx rfl (hb hby at_94) k) ?_
  show own_Go p e below (T165.setTop (mkF m 95 #[.val (.int p1), .val (.int p2), .val (.int p3), .val (.int p4), .val (.int (2 : Int32)), .val (.int c1), .val (.int c2), .val (.int c3), .val (.int c4), .val (.int c5), .val (.int c6), .val (.ref b158), .unset, .unset] [(.int (3 : Int32)), (.int (2 : Int32))])) _
  refine own_go (fun _ k => XS.icmpYes X165.here hx rfl (pc0 := 95) (pc' := 104) rfl (hb hby at_95) rfl (flt (by decide : ¬ ((3 : Int32) < (2 : Int32)))).2.2.2 (by decide) (by decide) k) ?_
  show own_Go p e below (T165.setTop (mkF m 104 #[.val (.int p1), .val (.int p2), .val (.int p3), .val (.int p4), .val (.int (2 : Int32)), .val (.int c1), .val (.int c2), .val (.int c3), .val (.int c4), .val (.int c5), .val (.int c6), .val (.ref b158), .unset, .unset] [])) _
  refine own_go (fun _ k => XS.iload X165.here hx rfl (hb hby at_104) rfl k) ?_
  show own_Go p e below (T165.setTop (mkF m 106 #[.val (.int p1), .val (.int p2), .val (.int p3), .val (.int p4), .val (.int (2 : Int32)), .val (.int c1), .val (.int c2), .val (.int c3), .val (.int c4), .val (.int c5), .val (.int c6), .val (.ref b158), .unset, .unset] [(.int (2 : Int32))])) _
  refine own_go (fun _ k => XS.iconst X165.here hx rfl (hb hby at_106) k) ?_
  show own_Go p e below (T165.setTop (mkF m 107 #[.val (.int p1), .val (.int p2), .val (.int p3), .val (.int p4), .val (.int (2 : Int32)), .val (.int c1), .val (.int c2), .val (.int c3), .val (.int c4), .val (.int c5), .val (.int c6), .val (.ref b158), .unset, .unset] [(.int (4 : Int32)), (.int (2 : Int32))])) _
  refine own_go (fun _ k => XS.icmpYes X165.here hx rfl (pc0 := 107) (pc' := 116) rfl (hb hby at_107) rfl (flt (by decide : ¬ ((4 : Int32) < (2 : Int32)))).2.2.2 (by decide) (by decide) k) ?_
  show own_Go p e below (T165.setTop (mkF m 116 #[.val (.int p1), .val (.int p2), .val (.int p3), .val (.int p4), .val (.int (2 : Int32)), .val (.int c1), .val (.int c2), .val (.int c3), .val (.int c4), .val (.int c5), .val (.int c6), .val (.ref b158), .unset, .unset] [])) _
  refine own_go (fun _ k => XS.iload X165.here hx rfl (hb hby at_116) rfl k) ?_
  show own_Go p e below (T165.setTop (mkF m 118 #[.val (.int p1), .val (.int p2), .val (.int p3), .val (.int p4), .val (.int (2 : Int32)), .val (.int c1), .val (.int c2), .val (.int c3), .val (.int c4), .val (.int c5), .val (.int c6), .val (.ref b158), .unset, .unset] [(.int (2 : Int32))])) _
  refine own_go (fun _ k => XS.iconst X165.here hx rfl (hb hby at_118) k) ?_
  show own_Go p e below (T165.setTop (mkF m 119 #[.val (.int p1), .val (.int p2), .val (.int p3), .val (.int p4), .val (.int (2 : Int32)), .val (.int c1), .val (.int c2), .val (.int c3), .val (.int c4), .val (.int c5), .val (.int c6), .val (.ref b158), .unset, .unset] [(.int (5 : Int32)), (.int (2 : Int32))])) _
  refine own_go (fun _ k => XS.icmpYes X165.here hx rfl (pc0 := 119) (pc' := 128) rfl (hb hby at_119) rfl (flt (by decide : ¬ ((5 : Int32) < (2 : Int32)))).2.2.2 (by decide) (by decide) k) ?_
  show own_Go p e below (T165.setTop (mkF m 128 #[.val (.int p1), .val (.int p2), .val (.int p3), .val (.int p4), .val (.int (2 : Int32)), .val (.int c1), .val (.int c2), .val (.int c3), .val (.int c4), .val (.int c5), .val (.int c6), .val (.ref b158), .unset, .unset] [])) _
  obtain ⟨T168, h168, X168, e168, E168, A168, D168, U168, st168⟩ := newO X165 hx hZ hown (hw _ (List.mem_of_getElem? (i := 3) rfl)) (hw _ (List.mem_of_getElem? (i := 4) rfl)) (hw _ (List.mem_of_getElem? (i := 5) rfl)) e165 (g := (mkF m 128 #[.val (.int p1), .val (.int p2), .val (.int p3), .val (.int p4), .val (.int (2 : Int32)), .val (.int c1), .val (.int c2), .val (.int c3), .val (.int c4), .val (.int c5), .val (.int c6), .val (.ref b158), .unset, .unset] [])) rfl (hb hby at_128) (by decide) (by decide)
  obtain ⟨b168, g168⟩ : ∃ z, z = h165.size := ⟨_, rfl⟩
  rw [← g168] at A168 D168 U168 st168
  refine own_go st168 ?_
  have C169 := C167.trans (CHr.ext E168 C167.1)
  have F168_coder : Fld Z h168 b168 "java/lang/String" "coder" "B" (.int (0 : Int32)) := D168 (Or.inr (hw _ (List.mem_of_getElem? (i := 29) rfl))) (ty := .byte) (by decide)
  have F168_value : Fld Z h168 b168 "java/lang/String" "value" "[B" .null := D168 (Or.inr (hw _ (List.mem_of_getElem? (i := 31) rfl))) (ty := (.array .byte)) (by decide)
  show own_Go p e below (T168.setTop (mkF m 131 #[.val (.int p1), .val (.int p2), .val (.int p3), .val (.int p4), .val (.int (2 : Int32)), .val (.int c1), .val (.int c2), .val (.int c3), .val (.int c4), .val (.int c5), .val (.int c6), .val (.ref b158), .unset, .unset] [(.ref b168)])) _
  refine own_go (fun _ k => XS.dup X168.here hx rfl (hb hby at_131) rfl rfl k) ?_
  show own_Go p e below (T168.setTop (mkF m 132 #[.val (.int p1), .val (.int p2), .val (.int p3), .val (.int p4), .val (.int (2 : Int32)), .val (.int c1), .val (.int c2), .val (.int c3), .val (.int c4), .val (.int c5), .val (.int c6), .val (.ref b158), .unset, .unset] [(.ref b168), (.ref b168)])) _
  refine own_go (fun _ k => XS.aload X168.here hx rfl (hb hby at_132) rfl rfl k) ?_
  show own_Go p e below (T168.setTop (mkF m 134 #[.val (.int p1), .val (.int p2), .val (.int p3), .val (.int p4), .val (.int (2 : Int32)), .val (.int c1), .val (.int c2), .val (.int c3), .val (.int c4), .val (.int c5), .val (.int c6), .val (.ref b158), .unset, .unset] [(.ref b158), (.ref b168), (.ref b168)])) _
  have z170 := (Nat.le_trans (Nat.le_trans E158.1 (Keep.of_wr W161).1) (Keep.of_wr W165).1)
  have f171 := ((((O1.ext E158).wr W161 (Nat.le_trans Z0 (Nat.le_of_eq g158.symm))).wr W165 (Nat.le_trans Z0 (Nat.le_of_eq g158.symm))).ext E168)
  obtain ⟨v172, _, ⟨T172, L172, k172, n172⟩, -, X172, ⟨Lc172, hQ172, l172, y172, z172⟩, st172⟩ := X168.specialBack hx (y := (⟨"java/lang/String", "<init>", "([C)V"⟩ : MethodName)) rfl hown (mvT hZ (hw _ (List.mem_of_getElem? (i := 6) rfl))) (mvT hZ (hw _ (List.mem_of_getElem? (i := 7) rfl))) (mvT hZ (hw _ (List.mem_of_getElem? (i := 8) rfl))) (by decide) (backOf (W := 1) (rm_i1 l Z a0 hw [] b168 b158 k158 (.int (0 : Int32)) [c1, c2] G1 h168 n0 f171 A168 F168_value F168_coder (Nat.le_trans Z0 (Nat.le_trans z170 (Nat.le_of_eq g168.symm))) OA OH OL O2 P5 (own_okL2 b_c1 b_c2) (V165q.ext E168) (Nat.le_of_ble_eq_true rfl) (Nat.le_of_ble_eq_true rfl)) hZ (hw _ (List.mem_of_getElem? (i := 8) rfl)) (hw _ (List.mem_of_getElem? (i := 5) rfl)) (by decide) (by decide)) (g := (mkF m 134 #[.val (.int p1), .val (.int p2), .val (.int p3), .val (.int p4), .val (.int (2 : Int32)), .val (.int c1), .val (.int c2), .val (.int c3), .val (.int c4), .val (.int c5), .val (.int c6), .val (.ref b158), .unset, .unset] [(.ref b158), (.ref b168), (.ref b168)])) rfl (by rw [hml]; rfl) (Steps.refl _) (a := b168) (argsL := [(.ref b158)]) (rest := [(.ref b168)]) (lenOf pd_18 rfl) rfl (by show 2 * 0 + _ ≤ _; exact Nat.le_of_eq rfl) (hb hby at_134) (fun _ _ => ⟨rfl, e168, (by decide : 2 + 2 ≤ _), (by decide : 6 + 18 ≤ _)⟩)
  dsimp only [Pt.U, Pt.locs, Pt.cells, Pt.slots] at X172 l172 y172 z172 st172 hQ172
  subst l172 y172 z172
  refine own_gos st172 ?_
  obtain ⟨t172, kt172, cd172, N2172, vs172, rfl, Nq172, K172, Fv172, Fc172, Vt172, hC172⟩ := hQ172
  have f173 := (Safe.ext E168 C167.1 (Safe.new (Nat.le_of_eq g168.symm)))
  have C174 := C169.trans (CHr.keep K172 (sfS f173 sf0) C169.1)
  have N172 := Fr.app N165 Nq172
  show own_Go p e below (T172.setTop (mkF m 137 #[.val (.int p1), .val (.int p2), .val (.int p3), .val (.int p4), .val (.int (2 : Int32)), .val (.int c1), .val (.int c2), .val (.int c3), .val (.int c4), .val (.int c5), .val (.int c6), .val (.ref b158), .unset, .unset] [(.ref b168)])) _
  refine own_go (fun _ k => XS.astore X172.here hx rfl (hb hby at_137) rfl rfl (l' := #[.val (.int p1), .val (.int p2), .val (.int p3), .val (.int p4), .val (.int (2 : Int32)), .val (.int c1), .val (.int c2), .val (.int c3), .val (.int c4), .val (.int c5), .val (.int c6), .val (.ref b158), .val (.ref b168), .unset]) rfl k) ?_
  show own_Go p e below (T172.setTop (mkF m 139 #[.val (.int p1), .val (.int p2), .val (.int p3), .val (.int p4), .val (.int (2 : Int32)), .val (.int c1), .val (.int c2), .val (.int c3), .val (.int c4), .val (.int c5), .val (.int c6), .val (.ref b158), .val (.ref b168), .unset] [])) _
  have z175 := (Nat.le_trans (Nat.le_trans z170 E168.1) K172.1)
  have f176 := (f171.keep K172 (allS (Nat.le_trans Z0 (Nat.le_trans z170 (Nat.le_of_eq g168.symm))) all0))
  exact own_mid2 l Z a0 hw p1 p2 p3 p4 c1 c2 c3 c4 c5 c6 b158 b168 t172 kt172 cd172 N2172 vs172 G1 G3 h0 n0 X172 hx hby hml hown hZ hrt hlk T172.heap (rfl : T172.heap = T172.heap) N172 (Nat.le_trans Z0 z175) f176 hh hS0 (Nat.le_trans hk0 z175) C174 (A168.keep K172) Fv172 Fc172 Vt172 O2 P5 O4 rG3 OA OH OL hC172 (own_okL2 b_c1 b_c2)

set_option maxRecDepth 65536 in
set_option maxHeartbeats 40000000 in
theorem own_end3 (l : Launch) (Z : State) (a0 : Array Value) (hw : ∀ d ∈ tables_1, d.before a0 Z = true) (p1 : Int32) (p2 : Int32) (p3 : Int32) (p4 : Int32) (nv : Int32) (c1 : Int32) (c2 : Int32) (c3 : Int32) (c4 : Int32) (c5 : Int32) (c6 : Int32) (ar : Addr) (ee : Int32) (x : Addr) (t : Addr) (kt : ClassId) (cs : List Int32) (cd : Int32) (N2 : Int32) (vs : List Value) (G1 : Int32) (G3 : Value) (h0 : Heap) (n0 : Nat) {p : Program} {e : Env} {s : State} {vm0 : Vm} {m : MethodId} {below : List Frame} {meth : Method} {cC : Code} {T0 : State} {locs : List Loc} (X0 : Stand p l e room_1 (s.setVm vm0) m #[(.int p1), (.int p2), (.int p3), (.int p4)] below meth cC T0 locs 4 25) (hx : p.tables.exec = Jvm.exec) (hby : cC.code = code) (hml : cC.maxLocals = maxLocals) (hown : (s.setVm vm0).vm.findClass "com/example/rolelattice/rolelattice/decision/CatalogIsExpressionPinLaw" = some m.cls) (hZ : Z.Warmed39 (s.setVm vm0).vm) (hrt : meth.sig.returnType = ret) (hlk : meth.locks = false) (h1 : Heap) (e0 : T0.heap = h1) (N0 : Fr n0 locs) (Z0 : n0 ≤ h1.size) (O1 : Old Z n0 h1) (hh : s.heap = h0) {k0 : Nat} (hS0 : s.Since vm0 k0) (hk0 : k0 ≤ h1.size) (C0 : CHr Z own_EL s.vm h0 vm0 h1) (E_x : Exa Z h1 x "java/lang/String") (Fv_x : Fld Z h1 x "java/lang/String" "value" "[B" (.ref t)) (Fc_x : Fld Z h1 x "java/lang/String" "coder" "B" (.int cd)) (V_t : Arv Z h1 t kt .byte N2 vs (.int (0 : Int32))) (O2 : Sta Z Z.heap "java/lang/String" "COMPACT_STRINGS" "Z" (.int G1)) (P5 : ¬ (G1 = (0 : Int32))) (O4 : Sta Z Z.heap "jdk/internal/util/Preconditions" "SIOOBE_FORMATTER" "Ljava/util/function/BiFunction;" G3) (rG3 : G3.isRef = true) (OA : Sta Z Z.heap "java/lang/StringUTF16" "$assertionsDisabled" "Z" (.int (1 : Int32))) (OH : Sta Z Z.heap "java/lang/StringUTF16" "HI_BYTE_SHIFT" "I" (.int (0 : Int32))) (OL : Sta Z Z.heap "java/lang/StringUTF16" "LO_BYTE_SHIFT" "I" (.int (8 : Int32))) (hC : StrChars.Road.CodA cs cd N2 vs) (hok : own_Ok cs) (hee : (own_ise cs) = ee) :
    own_Go p e below (T0.setTop (mkF m 229 #[.val (.int p1), .val (.int p2), .val (.int p3), .val (.int p4), .val (.int nv), .val (.int c1), .val (.int c2), .val (.int c3), .val (.int c4), .val (.int c5), .val (.int c6), .val (.ref ar), .val (.ref x), .val (.int ee)] [])) (fun oO U' => ∃ rV rL, oO = .returned rV ∧ QQ0 n0 rV U'.heap rL ∧ CHr Z own_EL s.vm s.heap U'.vm U'.heap ∧ ReturnedEndW s oO U' rL 24 1152) := by
  have own_wS := own_wSt hw
  have own_hEL := own_hELt hw
  show own_Go p e below (T0.setTop (mkF m 229 #[.val (.int p1), .val (.int p2), .val (.int p3), .val (.int p4), .val (.int nv), .val (.int c1), .val (.int c2), .val (.int c3), .val (.int c4), .val (.int c5), .val (.int c6), .val (.ref ar), .val (.ref x), .val (.int ee)] [])) _
  refine own_go (fun _ k => XS.aload X0.here hx rfl (hb hby at_229) rfl rfl k) ?_
  show own_Go p e below (T0.setTop (mkF m 231 #[.val (.int p1), .val (.int p2), .val (.int p3), .val (.int p4), .val (.int nv), .val (.int c1), .val (.int c2), .val (.int c3), .val (.int c4), .val (.int c5), .val (.int c6), .val (.ref ar), .val (.ref x), .val (.int ee)] [(.ref x)])) _
  obtain ⟨v177, _, ⟨T177, L177, k177, n177⟩, -, X177, ⟨Lc177, hQ177, l177, y177, z177⟩, st177⟩ := Jvm.LawKit.callS X0 hx (y := (⟨"com/example/rolelattice/rolelattice/decision/Catalog", "isExpression", "(Ljava/lang/String;)Z"⟩ : MethodName)) hown (mvT hZ (hw _ (List.mem_of_getElem? (i := 36) rfl))) (mvT hZ (hw _ (List.mem_of_getElem? (i := 37) rfl))) (mvT hZ (hw _ (List.mem_of_getElem? (i := 38) rfl))) (mvT hZ (hw _ (List.mem_of_getElem? (i := 39) rfl))) (by decide) (backOf (W := 0) (rm_ise l Z a0 hw [] x t kt cs cd N2 vs G1 G3 h1 n0 O1 O2 P5 O4 rG3 OA OH OL E_x Fv_x Fc_x V_t hC hok) hZ (hw _ (List.mem_of_getElem? (i := 39) rfl)) (hw _ (List.mem_of_getElem? (i := 38) rfl)) (by decide) (by decide)) (g := (mkF m 231 #[.val (.int p1), .val (.int p2), .val (.int p3), .val (.int p4), .val (.int nv), .val (.int c1), .val (.int c2), .val (.int c3), .val (.int c4), .val (.int c5), .val (.int c6), .val (.ref ar), .val (.ref x), .val (.int ee)] [(.ref x)])) rfl (by rw [hml]; rfl) (argsL := [(.ref x)]) (rest := []) (lenOf pd_17 rfl) rfl (by show 2 * 0 + _ ≤ _; exact Nat.le_of_eq rfl) (hb hby at_231) (fun _ _ => ⟨rfl, e0, (by decide : 4 + 0 ≤ _), (by decide : 25 + 0 ≤ _)⟩)
  dsimp only [Pt.U, Pt.locs, Pt.cells, Pt.slots] at X177 l177 y177 z177 st177 hQ177
  subst l177 y177 z177
  refine own_go st177 ?_
  obtain ⟨rfl, Nq177, e177⟩ := hQ177
  have N177 := Fr.app N0 Nq177
  show own_Go p e below (T177.setTop (mkF m 234 #[.val (.int p1), .val (.int p2), .val (.int p3), .val (.int p4), .val (.int nv), .val (.int c1), .val (.int c2), .val (.int c3), .val (.int c4), .val (.int c5), .val (.int c6), .val (.ref ar), .val (.ref x), .val (.int ee)] [(.int (own_ise cs))])) _
  refine own_go (fun _ k => XS.iload X177.here hx rfl (hb hby at_234) rfl k) ?_
  show own_Go p e below (T177.setTop (mkF m 236 #[.val (.int p1), .val (.int p2), .val (.int p3), .val (.int p4), .val (.int nv), .val (.int c1), .val (.int c2), .val (.int c3), .val (.int c4), .val (.int c5), .val (.int c6), .val (.ref ar), .val (.ref x), .val (.int ee)] [(.int ee), (.int (own_ise cs))])) _
  refine own_go (fun _ k => XS.icmpNo X177.here hx rfl (hb hby at_236) rfl (teq hee).2 k) ?_
  show own_Go p e below (T177.setTop (mkF m 239 #[.val (.int p1), .val (.int p2), .val (.int p3), .val (.int p4), .val (.int nv), .val (.int c1), .val (.int c2), .val (.int c3), .val (.int c4), .val (.int c5), .val (.int c6), .val (.ref ar), .val (.ref x), .val (.int ee)] [])) _
  refine own_go (fun _ k => XS.iconst X177.here hx rfl (hb hby at_239) k) ?_
  show own_Go p e below (T177.setTop (mkF m 240 #[.val (.int p1), .val (.int p2), .val (.int p3), .val (.int p4), .val (.int nv), .val (.int c1), .val (.int c2), .val (.int c3), .val (.int c4), .val (.int c5), .val (.int c6), .val (.ref ar), .val (.ref x), .val (.int ee)] [(.int (1 : Int32))])) _
  refine own_go (fun _ k => XS.goto X177.here hx rfl (pc0 := 240) (pc' := 244) rfl (hb hby at_240) (by decide) (by decide) k) ?_
  show own_Go p e below (T177.setTop (mkF m 244 #[.val (.int p1), .val (.int p2), .val (.int p3), .val (.int p4), .val (.int nv), .val (.int c1), .val (.int c2), .val (.int c3), .val (.int c4), .val (.int c5), .val (.int c6), .val (.ref ar), .val (.ref x), .val (.int ee)] [(.int (1 : Int32))])) _
  refine own_finW (v := (some (.int (nar .boolean (1 : Int32))))) X177 hh hZ hS0 (by rw [e177]; exact hk0) (fun h => by rw [hrt] at h; cases h) hlk (fun fs hr => retN X177 hx (t := .boolean) hrt (by simp) (hb hby at_244) hr) (QQ := QQ0 n0) ?_ own_hEL e177 (C0) (by decide) (by decide)
  rw [e177]
  exact ⟨rfl, N177⟩

set_option maxRecDepth 65536 in
set_option maxHeartbeats 40000000 in
theorem own_mid3 (l : Launch) (Z : State) (a0 : Array Value) (hw : ∀ d ∈ tables_1, d.before a0 Z = true) (p1 : Int32) (p2 : Int32) (p3 : Int32) (p4 : Int32) (c1 : Int32) (c2 : Int32) (c3 : Int32) (c4 : Int32) (c5 : Int32) (c6 : Int32) (ar : Addr) (x : Addr) (t : Addr) (kt : ClassId) (cd : Int32) (N2 : Int32) (vs : List Value) (G1 : Int32) (G3 : Value) (h0 : Heap) (n0 : Nat) {p : Program} {e : Env} {s : State} {vm0 : Vm} {m : MethodId} {below : List Frame} {meth : Method} {cC : Code} {T0 : State} {locs : List Loc} (X0 : Stand p l e room_1 (s.setVm vm0) m #[(.int p1), (.int p2), (.int p3), (.int p4)] below meth cC T0 locs 4 25) (hx : p.tables.exec = Jvm.exec) (hby : cC.code = code) (hml : cC.maxLocals = maxLocals) (hown : (s.setVm vm0).vm.findClass "com/example/rolelattice/rolelattice/decision/CatalogIsExpressionPinLaw" = some m.cls) (hZ : Z.Warmed39 (s.setVm vm0).vm) (hrt : meth.sig.returnType = ret) (hlk : meth.locks = false) (h1 : Heap) (e0 : T0.heap = h1) (N0 : Fr n0 locs) (Z0 : n0 ≤ h1.size) (O1 : Old Z n0 h1) (hh : s.heap = h0) {k0 : Nat} (hS0 : s.Since vm0 k0) (hk0 : k0 ≤ h1.size) (C0 : CHr Z own_EL s.vm h0 vm0 h1) (E_x : Exa Z h1 x "java/lang/String") (Fv_x : Fld Z h1 x "java/lang/String" "value" "[B" (.ref t)) (Fc_x : Fld Z h1 x "java/lang/String" "coder" "B" (.int cd)) (V_t : Arv Z h1 t kt .byte N2 vs (.int (0 : Int32))) (O2 : Sta Z Z.heap "java/lang/String" "COMPACT_STRINGS" "Z" (.int G1)) (P5 : ¬ (G1 = (0 : Int32))) (O4 : Sta Z Z.heap "jdk/internal/util/Preconditions" "SIOOBE_FORMATTER" "Ljava/util/function/BiFunction;" G3) (rG3 : G3.isRef = true) (OA : Sta Z Z.heap "java/lang/StringUTF16" "$assertionsDisabled" "Z" (.int (1 : Int32))) (OH : Sta Z Z.heap "java/lang/StringUTF16" "HI_BYTE_SHIFT" "I" (.int (0 : Int32))) (OL : Sta Z Z.heap "java/lang/StringUTF16" "LO_BYTE_SHIFT" "I" (.int (8 : Int32))) (hC : StrChars.Road.CodA ([c1, c2, c3] : List Int32) cd N2 vs) (hok : own_Ok ([c1, c2, c3] : List Int32)) :
    own_Go p e below (T0.setTop (mkF m 139 #[.val (.int p1), .val (.int p2), .val (.int p3), .val (.int p4), .val (.int (3 : Int32)), .val (.int c1), .val (.int c2), .val (.int c3), .val (.int c4), .val (.int c5), .val (.int c6), .val (.ref ar), .val (.ref x), .unset] [])) (fun oO U' => ∃ rV rL, oO = .returned rV ∧ QQ0 n0 rV U'.heap rL ∧ CHr Z own_EL s.vm s.heap U'.vm U'.heap ∧ ReturnedEndW s oO U' rL 24 1152) := by
  have own_wS := own_wSt hw
  have own_hEL := own_hELt hw
  show own_Go p e below (T0.setTop (mkF m 139 #[.val (.int p1), .val (.int p2), .val (.int p3), .val (.int p4), .val (.int (3 : Int32)), .val (.int c1), .val (.int c2), .val (.int c3), .val (.int c4), .val (.int c5), .val (.int c6), .val (.ref ar), .val (.ref x), .unset] [])) _
  refine own_go (fun _ k => XS.iload X0.here hx rfl (hb hby at_139) rfl k) ?_
  show own_Go p e below (T0.setTop (mkF m 141 #[.val (.int p1), .val (.int p2), .val (.int p3), .val (.int p4), .val (.int (3 : Int32)), .val (.int c1), .val (.int c2), .val (.int c3), .val (.int c4), .val (.int c5), .val (.int c6), .val (.ref ar), .val (.ref x), .unset] [(.int (3 : Int32))])) _
  refine own_go (fun _ k => XS.ifNo X0.here hx rfl (hb hby at_141) rfl ((if0 _ _).trans (tlt (by decide : (0 : Int32) < (3 : Int32))).2.2.2) k) ?_
  show own_Go p e below (T0.setTop (mkF m 144 #[.val (.int p1), .val (.int p2), .val (.int p3), .val (.int p4), .val (.int (3 : Int32)), .val (.int c1), .val (.int c2), .val (.int c3), .val (.int c4), .val (.int c5), .val (.int c6), .val (.ref ar), .val (.ref x), .unset] [])) _
  refine own_go (fun _ k => XS.iload X0.here hx rfl (hb hby at_144) rfl k) ?_
  show own_Go p e below (T0.setTop (mkF m 146 #[.val (.int p1), .val (.int p2), .val (.int p3), .val (.int p4), .val (.int (3 : Int32)), .val (.int c1), .val (.int c2), .val (.int c3), .val (.int c4), .val (.int c5), .val (.int c6), .val (.ref ar), .val (.ref x), .unset] [(.int c1)])) _
  obtain ⟨v178, _, ⟨T178, L178, k178, n178⟩, -, X178, ⟨Lc178, hQ178, l178, y178, z178⟩, st178⟩ := Jvm.LawKit.callS X0 hx (y := (⟨"com/example/rolelattice/rolelattice/decision/CatalogIsExpressionPinLaw", "wild", "(C)Z"⟩ : MethodName)) hown (mvT hZ (hw _ (List.mem_of_getElem? (i := 32) rfl))) (mvT hZ (hw _ (List.mem_of_getElem? (i := 33) rfl))) (mvT hZ (hw _ (List.mem_of_getElem? (i := 34) rfl))) (mvT hZ (hw _ (List.mem_of_getElem? (i := 35) rfl))) (by decide) (backOf (W := 0) (rm_wild l Z a0 hw [] c1 h1 n0 O1 ) hZ (hw _ (List.mem_of_getElem? (i := 35) rfl)) (hw _ (List.mem_of_getElem? (i := 34) rfl)) (by decide) (by decide)) (g := (mkF m 146 #[.val (.int p1), .val (.int p2), .val (.int p3), .val (.int p4), .val (.int (3 : Int32)), .val (.int c1), .val (.int c2), .val (.int c3), .val (.int c4), .val (.int c5), .val (.int c6), .val (.ref ar), .val (.ref x), .unset] [(.int c1)])) rfl (by rw [hml]; rfl) (argsL := [(.int c1)]) (rest := []) (lenOf pd_19 rfl) rfl (by show 2 * 0 + _ ≤ _; exact Nat.le_of_eq rfl) (hb hby at_146) (fun _ _ => ⟨rfl, e0, (by decide : 4 + 0 ≤ _), (by decide : 25 + 0 ≤ _)⟩)
  dsimp only [Pt.U, Pt.locs, Pt.cells, Pt.slots] at X178 l178 y178 z178 st178 hQ178
  subst l178 y178 z178
  refine own_go st178 ?_
  obtain ⟨rfl, Nq178, e178⟩ := hQ178
  have N178 := Fr.app N0 Nq178
  show own_Go p e below (T178.setTop (mkF m 149 #[.val (.int p1), .val (.int p2), .val (.int p3), .val (.int p4), .val (.int (3 : Int32)), .val (.int c1), .val (.int c2), .val (.int c3), .val (.int c4), .val (.int c5), .val (.int c6), .val (.ref ar), .val (.ref x), .unset] [(.int (own_wild c1))])) _
  by_cases hc179 : (own_wild c1) = (0 : Int32)
  · skip
    refine own_go (fun _ k => XS.ifNo X178.here hx rfl (hb hby at_149) rfl ((if0 _ _).trans (teq hc179).2) k) ?_
    show own_Go p e below (T178.setTop (mkF m 152 #[.val (.int p1), .val (.int p2), .val (.int p3), .val (.int p4), .val (.int (3 : Int32)), .val (.int c1), .val (.int c2), .val (.int c3), .val (.int c4), .val (.int c5), .val (.int c6), .val (.ref ar), .val (.ref x), .unset] [])) _
    refine own_go (fun _ k => XS.iload X178.here hx rfl (hb hby at_152) rfl k) ?_
    show own_Go p e below (T178.setTop (mkF m 154 #[.val (.int p1), .val (.int p2), .val (.int p3), .val (.int p4), .val (.int (3 : Int32)), .val (.int c1), .val (.int c2), .val (.int c3), .val (.int c4), .val (.int c5), .val (.int c6), .val (.ref ar), .val (.ref x), .unset] [(.int (3 : Int32))])) _
    refine own_go (fun _ k => XS.iconst X178.here hx rfl (hb hby at_154) k) ?_
    show own_Go p e below (T178.setTop (mkF m 155 #[.val (.int p1), .val (.int p2), .val (.int p3), .val (.int p4), .val (.int (3 : Int32)), .val (.int c1), .val (.int c2), .val (.int c3), .val (.int c4), .val (.int c5), .val (.int c6), .val (.ref ar), .val (.ref x), .unset] [(.int (1 : Int32)), (.int (3 : Int32))])) _
    refine own_go (fun _ k => XS.icmpNo X178.here hx rfl (hb hby at_155) rfl (tlt (by decide : (1 : Int32) < (3 : Int32))).2.2.2 k) ?_
    show own_Go p e below (T178.setTop (mkF m 158 #[.val (.int p1), .val (.int p2), .val (.int p3), .val (.int p4), .val (.int (3 : Int32)), .val (.int c1), .val (.int c2), .val (.int c3), .val (.int c4), .val (.int c5), .val (.int c6), .val (.ref ar), .val (.ref x), .unset] [])) _
    refine own_go (fun _ k => XS.iload X178.here hx rfl (hb hby at_158) rfl k) ?_
    show own_Go p e below (T178.setTop (mkF m 160 #[.val (.int p1), .val (.int p2), .val (.int p3), .val (.int p4), .val (.int (3 : Int32)), .val (.int c1), .val (.int c2), .val (.int c3), .val (.int c4), .val (.int c5), .val (.int c6), .val (.ref ar), .val (.ref x), .unset] [(.int c2)])) _
    obtain ⟨v180, _, ⟨T180, L180, k180, n180⟩, -, X180, ⟨Lc180, hQ180, l180, y180, z180⟩, st180⟩ := Jvm.LawKit.callS X178 hx (y := (⟨"com/example/rolelattice/rolelattice/decision/CatalogIsExpressionPinLaw", "wild", "(C)Z"⟩ : MethodName)) hown (mvT hZ (hw _ (List.mem_of_getElem? (i := 32) rfl))) (mvT hZ (hw _ (List.mem_of_getElem? (i := 33) rfl))) (mvT hZ (hw _ (List.mem_of_getElem? (i := 34) rfl))) (mvT hZ (hw _ (List.mem_of_getElem? (i := 35) rfl))) (by decide) (backOf (W := 0) (rm_wild l Z a0 hw [] c2 h1 n0 O1 ) hZ (hw _ (List.mem_of_getElem? (i := 35) rfl)) (hw _ (List.mem_of_getElem? (i := 34) rfl)) (by decide) (by decide)) (g := (mkF m 160 #[.val (.int p1), .val (.int p2), .val (.int p3), .val (.int p4), .val (.int (3 : Int32)), .val (.int c1), .val (.int c2), .val (.int c3), .val (.int c4), .val (.int c5), .val (.int c6), .val (.ref ar), .val (.ref x), .unset] [(.int c2)])) rfl (by rw [hml]; rfl) (argsL := [(.int c2)]) (rest := []) (lenOf pd_19 rfl) rfl (by show 2 * 0 + _ ≤ _; exact Nat.le_of_eq rfl) (hb hby at_160) (fun _ _ => ⟨rfl, e178, (by decide : 4 + 0 ≤ _), (by decide : 25 + 0 ≤ _)⟩)
    dsimp only [Pt.U, Pt.locs, Pt.cells, Pt.slots] at X180 l180 y180 z180 st180 hQ180
    subst l180 y180 z180
    refine own_go st180 ?_
    obtain ⟨rfl, Nq180, e180⟩ := hQ180
    have N180 := Fr.app N178 Nq180
    show own_Go p e below (T180.setTop (mkF m 163 #[.val (.int p1), .val (.int p2), .val (.int p3), .val (.int p4), .val (.int (3 : Int32)), .val (.int c1), .val (.int c2), .val (.int c3), .val (.int c4), .val (.int c5), .val (.int c6), .val (.ref ar), .val (.ref x), .unset] [(.int (own_wild c2))])) _
    by_cases hc181 : (own_wild c2) = (0 : Int32)
    · skip
      refine own_go (fun _ k => XS.ifNo X180.here hx rfl (hb hby at_163) rfl ((if0 _ _).trans (teq hc181).2) k) ?_
      show own_Go p e below (T180.setTop (mkF m 166 #[.val (.int p1), .val (.int p2), .val (.int p3), .val (.int p4), .val (.int (3 : Int32)), .val (.int c1), .val (.int c2), .val (.int c3), .val (.int c4), .val (.int c5), .val (.int c6), .val (.ref ar), .val (.ref x), .unset] [])) _
      refine own_go (fun _ k => XS.iload X180.here hx rfl (hb hby at_166) rfl k) ?_
      show own_Go p e below (T180.setTop (mkF m 168 #[.val (.int p1), .val (.int p2), .val (.int p3), .val (.int p4), .val (.int (3 : Int32)), .val (.int c1), .val (.int c2), .val (.int c3), .val (.int c4), .val (.int c5), .val (.int c6), .val (.ref ar), .val (.ref x), .unset] [(.int (3 : Int32))])) _
      refine own_go (fun _ k => XS.iconst X180.here hx rfl (hb hby at_168) k) ?_
      show own_Go p e below (T180.setTop (mkF m 169 #[.val (.int p1), .val (.int p2), .val (.int p3), .val (.int p4), .val (.int (3 : Int32)), .val (.int c1), .val (.int c2), .val (.int c3), .val (.int c4), .val (.int c5), .val (.int c6), .val (.ref ar), .val (.ref x), .unset] [(.int (2 : Int32)), (.int (3 : Int32))])) _
      refine own_go (fun _ k => XS.icmpNo X180.here hx rfl (hb hby at_169) rfl (tlt (by decide : (2 : Int32) < (3 : Int32))).2.2.2 k) ?_
      show own_Go p e below (T180.setTop (mkF m 172 #[.val (.int p1), .val (.int p2), .val (.int p3), .val (.int p4), .val (.int (3 : Int32)), .val (.int c1), .val (.int c2), .val (.int c3), .val (.int c4), .val (.int c5), .val (.int c6), .val (.ref ar), .val (.ref x), .unset] [])) _
      refine own_go (fun _ k => XS.iload X180.here hx rfl (hb hby at_172) rfl k) ?_
      show own_Go p e below (T180.setTop (mkF m 174 #[.val (.int p1), .val (.int p2), .val (.int p3), .val (.int p4), .val (.int (3 : Int32)), .val (.int c1), .val (.int c2), .val (.int c3), .val (.int c4), .val (.int c5), .val (.int c6), .val (.ref ar), .val (.ref x), .unset] [(.int c3)])) _
      obtain ⟨v182, _, ⟨T182, L182, k182, n182⟩, -, X182, ⟨Lc182, hQ182, l182, y182, z182⟩, st182⟩ := Jvm.LawKit.callS X180 hx (y := (⟨"com/example/rolelattice/rolelattice/decision/CatalogIsExpressionPinLaw", "wild", "(C)Z"⟩ : MethodName)) hown (mvT hZ (hw _ (List.mem_of_getElem? (i := 32) rfl))) (mvT hZ (hw _ (List.mem_of_getElem? (i := 33) rfl))) (mvT hZ (hw _ (List.mem_of_getElem? (i := 34) rfl))) (mvT hZ (hw _ (List.mem_of_getElem? (i := 35) rfl))) (by decide) (backOf (W := 0) (rm_wild l Z a0 hw [] c3 h1 n0 O1 ) hZ (hw _ (List.mem_of_getElem? (i := 35) rfl)) (hw _ (List.mem_of_getElem? (i := 34) rfl)) (by decide) (by decide)) (g := (mkF m 174 #[.val (.int p1), .val (.int p2), .val (.int p3), .val (.int p4), .val (.int (3 : Int32)), .val (.int c1), .val (.int c2), .val (.int c3), .val (.int c4), .val (.int c5), .val (.int c6), .val (.ref ar), .val (.ref x), .unset] [(.int c3)])) rfl (by rw [hml]; rfl) (argsL := [(.int c3)]) (rest := []) (lenOf pd_19 rfl) rfl (by show 2 * 0 + _ ≤ _; exact Nat.le_of_eq rfl) (hb hby at_174) (fun _ _ => ⟨rfl, e180, (by decide : 4 + 0 ≤ _), (by decide : 25 + 0 ≤ _)⟩)
      dsimp only [Pt.U, Pt.locs, Pt.cells, Pt.slots] at X182 l182 y182 z182 st182 hQ182
      subst l182 y182 z182
      refine own_go st182 ?_
      obtain ⟨rfl, Nq182, e182⟩ := hQ182
      have N182 := Fr.app N180 Nq182
      show own_Go p e below (T182.setTop (mkF m 177 #[.val (.int p1), .val (.int p2), .val (.int p3), .val (.int p4), .val (.int (3 : Int32)), .val (.int c1), .val (.int c2), .val (.int c3), .val (.int c4), .val (.int c5), .val (.int c6), .val (.ref ar), .val (.ref x), .unset] [(.int (own_wild c3))])) _
      by_cases hc183 : (own_wild c3) = (0 : Int32)
      · skip
        refine own_go (fun _ k => XS.ifNo X182.here hx rfl (hb hby at_177) rfl ((if0 _ _).trans (teq hc183).2) k) ?_
        show own_Go p e below (T182.setTop (mkF m 180 #[.val (.int p1), .val (.int p2), .val (.int p3), .val (.int p4), .val (.int (3 : Int32)), .val (.int c1), .val (.int c2), .val (.int c3), .val (.int c4), .val (.int c5), .val (.int c6), .val (.ref ar), .val (.ref x), .unset] [])) _
        refine own_go (fun _ k => XS.iload X182.here hx rfl (hb hby at_180) rfl k) ?_
        show own_Go p e below (T182.setTop (mkF m 182 #[.val (.int p1), .val (.int p2), .val (.int p3), .val (.int p4), .val (.int (3 : Int32)), .val (.int c1), .val (.int c2), .val (.int c3), .val (.int c4), .val (.int c5), .val (.int c6), .val (.ref ar), .val (.ref x), .unset] [(.int (3 : Int32))])) _
        refine own_go (fun _ k => XS.iconst X182.here hx rfl (hb hby at_182) k) ?_
        show own_Go p e below (T182.setTop (mkF m 183 #[.val (.int p1), .val (.int p2), .val (.int p3), .val (.int p4), .val (.int (3 : Int32)), .val (.int c1), .val (.int c2), .val (.int c3), .val (.int c4), .val (.int c5), .val (.int c6), .val (.ref ar), .val (.ref x), .unset] [(.int (3 : Int32)), (.int (3 : Int32))])) _
        refine own_go (fun _ k => XS.icmpYes X182.here hx rfl (pc0 := 183) (pc' := 194) rfl (hb hby at_183) rfl (flt (by decide : ¬ ((3 : Int32) < (3 : Int32)))).2.2.2 (by decide) (by decide) k) ?_
        show own_Go p e below (T182.setTop (mkF m 194 #[.val (.int p1), .val (.int p2), .val (.int p3), .val (.int p4), .val (.int (3 : Int32)), .val (.int c1), .val (.int c2), .val (.int c3), .val (.int c4), .val (.int c5), .val (.int c6), .val (.ref ar), .val (.ref x), .unset] [])) _
        refine own_go (fun _ k => XS.iload X182.here hx rfl (hb hby at_194) rfl k) ?_
        show own_Go p e below (T182.setTop (mkF m 196 #[.val (.int p1), .val (.int p2), .val (.int p3), .val (.int p4), .val (.int (3 : Int32)), .val (.int c1), .val (.int c2), .val (.int c3), .val (.int c4), .val (.int c5), .val (.int c6), .val (.ref ar), .val (.ref x), .unset] [(.int (3 : Int32))])) _
        refine own_go (fun _ k => XS.iconst X182.here hx rfl (hb hby at_196) k) ?_
        show own_Go p e below (T182.setTop (mkF m 197 #[.val (.int p1), .val (.int p2), .val (.int p3), .val (.int p4), .val (.int (3 : Int32)), .val (.int c1), .val (.int c2), .val (.int c3), .val (.int c4), .val (.int c5), .val (.int c6), .val (.ref ar), .val (.ref x), .unset] [(.int (4 : Int32)), (.int (3 : Int32))])) _
        refine own_go (fun _ k => XS.icmpYes X182.here hx rfl (pc0 := 197) (pc' := 208) rfl (hb hby at_197) rfl (flt (by decide : ¬ ((4 : Int32) < (3 : Int32)))).2.2.2 (by decide) (by decide) k) ?_
        show own_Go p e below (T182.setTop (mkF m 208 #[.val (.int p1), .val (.int p2), .val (.int p3), .val (.int p4), .val (.int (3 : Int32)), .val (.int c1), .val (.int c2), .val (.int c3), .val (.int c4), .val (.int c5), .val (.int c6), .val (.ref ar), .val (.ref x), .unset] [])) _
        refine own_go (fun _ k => XS.iload X182.here hx rfl (hb hby at_208) rfl k) ?_
        show own_Go p e below (T182.setTop (mkF m 210 #[.val (.int p1), .val (.int p2), .val (.int p3), .val (.int p4), .val (.int (3 : Int32)), .val (.int c1), .val (.int c2), .val (.int c3), .val (.int c4), .val (.int c5), .val (.int c6), .val (.ref ar), .val (.ref x), .unset] [(.int (3 : Int32))])) _
        refine own_go (fun _ k => XS.iconst X182.here hx rfl (hb hby at_210) k) ?_
        show own_Go p e below (T182.setTop (mkF m 211 #[.val (.int p1), .val (.int p2), .val (.int p3), .val (.int p4), .val (.int (3 : Int32)), .val (.int c1), .val (.int c2), .val (.int c3), .val (.int c4), .val (.int c5), .val (.int c6), .val (.ref ar), .val (.ref x), .unset] [(.int (5 : Int32)), (.int (3 : Int32))])) _
        refine own_go (fun _ k => XS.icmpYes X182.here hx rfl (pc0 := 211) (pc' := 226) rfl (hb hby at_211) rfl (flt (by decide : ¬ ((5 : Int32) < (3 : Int32)))).2.2.2 (by decide) (by decide) k) ?_
        show own_Go p e below (T182.setTop (mkF m 226 #[.val (.int p1), .val (.int p2), .val (.int p3), .val (.int p4), .val (.int (3 : Int32)), .val (.int c1), .val (.int c2), .val (.int c3), .val (.int c4), .val (.int c5), .val (.int c6), .val (.ref ar), .val (.ref x), .unset] [])) _
        refine own_go (fun _ k => XS.iconst X182.here hx rfl (hb hby at_226) k) ?_
        show own_Go p e below (T182.setTop (mkF m 227 #[.val (.int p1), .val (.int p2), .val (.int p3), .val (.int p4), .val (.int (3 : Int32)), .val (.int c1), .val (.int c2), .val (.int c3), .val (.int c4), .val (.int c5), .val (.int c6), .val (.ref ar), .val (.ref x), .unset] [(.int (0 : Int32))])) _
        refine own_go (fun _ k => XS.istore X182.here hx rfl (hb hby at_227) rfl (l' := #[.val (.int p1), .val (.int p2), .val (.int p3), .val (.int p4), .val (.int (3 : Int32)), .val (.int c1), .val (.int c2), .val (.int c3), .val (.int c4), .val (.int c5), .val (.int c6), .val (.ref ar), .val (.ref x), .val (.int (0 : Int32))]) rfl k) ?_
        show own_Go p e below (T182.setTop (mkF m 229 #[.val (.int p1), .val (.int p2), .val (.int p3), .val (.int p4), .val (.int (3 : Int32)), .val (.int c1), .val (.int c2), .val (.int c3), .val (.int c4), .val (.int c5), .val (.int c6), .val (.ref ar), .val (.ref x), .val (.int (0 : Int32))] [])) _
        exact own_end3 l Z a0 hw p1 p2 p3 p4 (3 : Int32) c1 c2 c3 c4 c5 c6 ar (0 : Int32) x t kt ([c1, c2, c3] : List Int32) cd N2 vs G1 G3 h0 n0 X182 hx hby hml hown hZ hrt hlk h1 e182 N182 (Nat.le_trans Z0 (Nat.le_refl _)) O1 hh hS0 hk0 C0 E_x Fv_x Fc_x V_t O2 P5 O4 rG3 OA OH OL hC hok (own_ise_n (fun c hc => by simp only [List.mem_cons, List.not_mem_nil, or_false] at hc; rcases hc with rfl | rfl | rfl <;> assumption))
      · skip
        refine own_go (fun _ k => XS.ifYes X182.here hx rfl (pc0 := 177) (pc' := 222) rfl (hb hby at_177) rfl ((if0 _ _).trans (feq hc183).2) (by decide) (by decide) k) ?_
        show own_Go p e below (T182.setTop (mkF m 222 #[.val (.int p1), .val (.int p2), .val (.int p3), .val (.int p4), .val (.int (3 : Int32)), .val (.int c1), .val (.int c2), .val (.int c3), .val (.int c4), .val (.int c5), .val (.int c6), .val (.ref ar), .val (.ref x), .unset] [])) _
        refine own_go (fun _ k => XS.iconst X182.here hx rfl (hb hby at_222) k) ?_
        show own_Go p e below (T182.setTop (mkF m 223 #[.val (.int p1), .val (.int p2), .val (.int p3), .val (.int p4), .val (.int (3 : Int32)), .val (.int c1), .val (.int c2), .val (.int c3), .val (.int c4), .val (.int c5), .val (.int c6), .val (.ref ar), .val (.ref x), .unset] [(.int (1 : Int32))])) _
        refine own_go (fun _ k => XS.goto X182.here hx rfl (pc0 := 223) (pc' := 227) rfl (hb hby at_223) (by decide) (by decide) k) ?_
        show own_Go p e below (T182.setTop (mkF m 227 #[.val (.int p1), .val (.int p2), .val (.int p3), .val (.int p4), .val (.int (3 : Int32)), .val (.int c1), .val (.int c2), .val (.int c3), .val (.int c4), .val (.int c5), .val (.int c6), .val (.ref ar), .val (.ref x), .unset] [(.int (1 : Int32))])) _
        refine own_go (fun _ k => XS.istore X182.here hx rfl (hb hby at_227) rfl (l' := #[.val (.int p1), .val (.int p2), .val (.int p3), .val (.int p4), .val (.int (3 : Int32)), .val (.int c1), .val (.int c2), .val (.int c3), .val (.int c4), .val (.int c5), .val (.int c6), .val (.ref ar), .val (.ref x), .val (.int (1 : Int32))]) rfl k) ?_
        show own_Go p e below (T182.setTop (mkF m 229 #[.val (.int p1), .val (.int p2), .val (.int p3), .val (.int p4), .val (.int (3 : Int32)), .val (.int c1), .val (.int c2), .val (.int c3), .val (.int c4), .val (.int c5), .val (.int c6), .val (.ref ar), .val (.ref x), .val (.int (1 : Int32))] [])) _
        exact own_end3 l Z a0 hw p1 p2 p3 p4 (3 : Int32) c1 c2 c3 c4 c5 c6 ar (1 : Int32) x t kt ([c1, c2, c3] : List Int32) cd N2 vs G1 G3 h0 n0 X182 hx hby hml hown hZ hrt hlk h1 e182 N182 (Nat.le_trans Z0 (Nat.le_refl _)) O1 hh hS0 hk0 C0 E_x Fv_x Fc_x V_t O2 P5 O4 rG3 OA OH OL hC hok (own_ise_y (by simp) hc183)
    · skip
      refine own_go (fun _ k => XS.ifYes X180.here hx rfl (pc0 := 163) (pc' := 222) rfl (hb hby at_163) rfl ((if0 _ _).trans (feq hc181).2) (by decide) (by decide) k) ?_
      show own_Go p e below (T180.setTop (mkF m 222 #[.val (.int p1), .val (.int p2), .val (.int p3), .val (.int p4), .val (.int (3 : Int32)), .val (.int c1), .val (.int c2), .val (.int c3), .val (.int c4), .val (.int c5), .val (.int c6), .val (.ref ar), .val (.ref x), .unset] [])) _
      refine own_go (fun _ k => XS.iconst X180.here hx rfl (hb hby at_222) k) ?_
      show own_Go p e below (T180.setTop (mkF m 223 #[.val (.int p1), .val (.int p2), .val (.int p3), .val (.int p4), .val (.int (3 : Int32)), .val (.int c1), .val (.int c2), .val (.int c3), .val (.int c4), .val (.int c5), .val (.int c6), .val (.ref ar), .val (.ref x), .unset] [(.int (1 : Int32))])) _
      refine own_go (fun _ k => XS.goto X180.here hx rfl (pc0 := 223) (pc' := 227) rfl (hb hby at_223) (by decide) (by decide) k) ?_
      show own_Go p e below (T180.setTop (mkF m 227 #[.val (.int p1), .val (.int p2), .val (.int p3), .val (.int p4), .val (.int (3 : Int32)), .val (.int c1), .val (.int c2), .val (.int c3), .val (.int c4), .val (.int c5), .val (.int c6), .val (.ref ar), .val (.ref x), .unset] [(.int (1 : Int32))])) _
      refine own_go (fun _ k => XS.istore X180.here hx rfl (hb hby at_227) rfl (l' := #[.val (.int p1), .val (.int p2), .val (.int p3), .val (.int p4), .val (.int (3 : Int32)), .val (.int c1), .val (.int c2), .val (.int c3), .val (.int c4), .val (.int c5), .val (.int c6), .val (.ref ar), .val (.ref x), .val (.int (1 : Int32))]) rfl k) ?_
      show own_Go p e below (T180.setTop (mkF m 229 #[.val (.int p1), .val (.int p2), .val (.int p3), .val (.int p4), .val (.int (3 : Int32)), .val (.int c1), .val (.int c2), .val (.int c3), .val (.int c4), .val (.int c5), .val (.int c6), .val (.ref ar), .val (.ref x), .val (.int (1 : Int32))] [])) _
      exact own_end3 l Z a0 hw p1 p2 p3 p4 (3 : Int32) c1 c2 c3 c4 c5 c6 ar (1 : Int32) x t kt ([c1, c2, c3] : List Int32) cd N2 vs G1 G3 h0 n0 X180 hx hby hml hown hZ hrt hlk h1 e180 N180 (Nat.le_trans Z0 (Nat.le_refl _)) O1 hh hS0 hk0 C0 E_x Fv_x Fc_x V_t O2 P5 O4 rG3 OA OH OL hC hok (own_ise_y (by simp) hc181)
  · skip
    refine own_go (fun _ k => XS.ifYes X178.here hx rfl (pc0 := 149) (pc' := 222) rfl (hb hby at_149) rfl ((if0 _ _).trans (feq hc179).2) (by decide) (by decide) k) ?_
    show own_Go p e below (T178.setTop (mkF m 222 #[.val (.int p1), .val (.int p2), .val (.int p3), .val (.int p4), .val (.int (3 : Int32)), .val (.int c1), .val (.int c2), .val (.int c3), .val (.int c4), .val (.int c5), .val (.int c6), .val (.ref ar), .val (.ref x), .unset] [])) _
    refine own_go (fun _ k => XS.iconst X178.here hx rfl (hb hby at_222) k) ?_
    show own_Go p e below (T178.setTop (mkF m 223 #[.val (.int p1), .val (.int p2), .val (.int p3), .val (.int p4), .val (.int (3 : Int32)), .val (.int c1), .val (.int c2), .val (.int c3), .val (.int c4), .val (.int c5), .val (.int c6), .val (.ref ar), .val (.ref x), .unset] [(.int (1 : Int32))])) _
    refine own_go (fun _ k => XS.goto X178.here hx rfl (pc0 := 223) (pc' := 227) rfl (hb hby at_223) (by decide) (by decide) k) ?_
    show own_Go p e below (T178.setTop (mkF m 227 #[.val (.int p1), .val (.int p2), .val (.int p3), .val (.int p4), .val (.int (3 : Int32)), .val (.int c1), .val (.int c2), .val (.int c3), .val (.int c4), .val (.int c5), .val (.int c6), .val (.ref ar), .val (.ref x), .unset] [(.int (1 : Int32))])) _
    refine own_go (fun _ k => XS.istore X178.here hx rfl (hb hby at_227) rfl (l' := #[.val (.int p1), .val (.int p2), .val (.int p3), .val (.int p4), .val (.int (3 : Int32)), .val (.int c1), .val (.int c2), .val (.int c3), .val (.int c4), .val (.int c5), .val (.int c6), .val (.ref ar), .val (.ref x), .val (.int (1 : Int32))]) rfl k) ?_
    show own_Go p e below (T178.setTop (mkF m 229 #[.val (.int p1), .val (.int p2), .val (.int p3), .val (.int p4), .val (.int (3 : Int32)), .val (.int c1), .val (.int c2), .val (.int c3), .val (.int c4), .val (.int c5), .val (.int c6), .val (.ref ar), .val (.ref x), .val (.int (1 : Int32))] [])) _
    exact own_end3 l Z a0 hw p1 p2 p3 p4 (3 : Int32) c1 c2 c3 c4 c5 c6 ar (1 : Int32) x t kt ([c1, c2, c3] : List Int32) cd N2 vs G1 G3 h0 n0 X178 hx hby hml hown hZ hrt hlk h1 e178 N178 (Nat.le_trans Z0 (Nat.le_refl _)) O1 hh hS0 hk0 C0 E_x Fv_x Fc_x V_t O2 P5 O4 rG3 OA OH OL hC hok (own_ise_y (by simp) hc179)

set_option maxRecDepth 65536 in
set_option maxHeartbeats 40000000 in
theorem own_fst3 (l : Launch) (Z : State) (a0 : Array Value) (hw : ∀ d ∈ tables_1, d.before a0 Z = true) (p1 : Int32) (p2 : Int32) (p3 : Int32) (p4 : Int32) (c1 : Int32) (c2 : Int32) (c3 : Int32) (c4 : Int32) (c5 : Int32) (c6 : Int32) (G1 : Int32) (G3 : Value) (h0 : Heap) (n0 : Nat) {p : Program} {e : Env} {s : State} {vm0 : Vm} {m : MethodId} {below : List Frame} {meth : Method} {cC : Code} {T0 : State} {locs : List Loc} (X0 : Stand p l e room_1 (s.setVm vm0) m #[(.int p1), (.int p2), (.int p3), (.int p4)] below meth cC T0 locs 0 0) (hx : p.tables.exec = Jvm.exec) (hby : cC.code = code) (hml : cC.maxLocals = maxLocals) (hown : (s.setVm vm0).vm.findClass "com/example/rolelattice/rolelattice/decision/CatalogIsExpressionPinLaw" = some m.cls) (hZ : Z.Warmed39 (s.setVm vm0).vm) (hrt : meth.sig.returnType = ret) (hlk : meth.locks = false) (h1 : Heap) (e0 : T0.heap = h1) (N0 : Fr n0 locs) (Z0 : n0 ≤ h1.size) (O1 : Old Z n0 h1) (hh : s.heap = h0) {k0 : Nat} (hS0 : s.Since vm0 k0) (hk0 : k0 ≤ h1.size) (C0 : CHr Z own_EL s.vm h0 vm0 h1) (O2 : Sta Z Z.heap "java/lang/String" "COMPACT_STRINGS" "Z" (.int G1)) (P5 : ¬ (G1 = (0 : Int32))) (O4 : Sta Z Z.heap "jdk/internal/util/Preconditions" "SIOOBE_FORMATTER" "Ljava/util/function/BiFunction;" G3) (rG3 : G3.isRef = true) (OA : Sta Z Z.heap "java/lang/StringUTF16" "$assertionsDisabled" "Z" (.int (1 : Int32))) (OH : Sta Z Z.heap "java/lang/StringUTF16" "HI_BYTE_SHIFT" "I" (.int (0 : Int32))) (OL : Sta Z Z.heap "java/lang/StringUTF16" "LO_BYTE_SHIFT" "I" (.int (8 : Int32))) (b_c1 : ¬ c1 < 0 ∧ ¬ (65535 : Int32) < c1) (b_c2 : ¬ c2 < 0 ∧ ¬ (65535 : Int32) < c2) (b_c3 : ¬ c3 < 0 ∧ ¬ (65535 : Int32) < c3) (b_c4 : ¬ c4 < 0 ∧ ¬ (65535 : Int32) < c4) (b_c5 : ¬ c5 < 0 ∧ ¬ (65535 : Int32) < c5) (b_c6 : ¬ c6 < 0 ∧ ¬ (65535 : Int32) < c6) :
    own_Go p e below (T0.setTop (mkF m 51 #[.val (.int p1), .val (.int p2), .val (.int p3), .val (.int p4), .val (.int (3 : Int32)), .val (.int c1), .val (.int c2), .val (.int c3), .val (.int c4), .val (.int c5), .val (.int c6), .unset, .unset, .unset] [])) (fun oO U' => ∃ rV rL, oO = .returned rV ∧ QQ0 n0 rV U'.heap rL ∧ CHr Z own_EL s.vm s.heap U'.vm U'.heap ∧ ReturnedEndW s oO U' rL 24 1152) := by
  have own_wS := own_wSt hw
  have own_hEL := own_hELt hw
  show own_Go p e below (T0.setTop (mkF m 51 #[.val (.int p1), .val (.int p2), .val (.int p3), .val (.int p4), .val (.int (3 : Int32)), .val (.int c1), .val (.int c2), .val (.int c3), .val (.int c4), .val (.int c5), .val (.int c6), .unset, .unset, .unset] [])) _
  refine own_go (fun _ k => XS.iload X0.here hx rfl (hb hby at_51) rfl k) ?_
  show own_Go p e below (T0.setTop (mkF m 53 #[.val (.int p1), .val (.int p2), .val (.int p3), .val (.int p4), .val (.int (3 : Int32)), .val (.int c1), .val (.int c2), .val (.int c3), .val (.int c4), .val (.int c5), .val (.int c6), .unset, .unset, .unset] [(.int (3 : Int32))])) _
  obtain ⟨T184, h184, k184, X184, e184, E184, A184, st184⟩ := newP X0 hx hZ (hw _ (List.mem_of_getElem? (i := 2) rfl)) e0 (g := (mkF m 53 #[.val (.int p1), .val (.int p2), .val (.int p3), .val (.int p4), .val (.int (3 : Int32)), .val (.int c1), .val (.int c2), .val (.int c3), .val (.int c4), .val (.int c5), .val (.int c6), .unset, .unset, .unset] [(.int (3 : Int32))])) rfl (hb hby at_53) rfl (by decide) (cap := 3) (by decide) (by decide) (by decide) (by decide)
  obtain ⟨b184, g184⟩ : ∃ z, z = h1.size := ⟨_, rfl⟩
  rw [← g184] at A184 st184
  refine own_go st184 ?_
  have C185 := C0.trans (CHr.ext E184 C0.1)
  have V184 : Arv Z h184 b184 k184 .char (3 : Int32) [(.int (0 : Int32)), (.int (0 : Int32)), (.int (0 : Int32))] (.int (0 : Int32)) := (Arv.new A184 (by decide)).pad (pad_rep [] (.int (0 : Int32)) 3)
  show own_Go p e below (T184.setTop (mkF m 55 #[.val (.int p1), .val (.int p2), .val (.int p3), .val (.int p4), .val (.int (3 : Int32)), .val (.int c1), .val (.int c2), .val (.int c3), .val (.int c4), .val (.int c5), .val (.int c6), .unset, .unset, .unset] [(.ref b184)])) _
  refine own_go (fun _ k => XS.astore X184.here hx rfl (hb hby at_55) rfl rfl (l' := #[.val (.int p1), .val (.int p2), .val (.int p3), .val (.int p4), .val (.int (3 : Int32)), .val (.int c1), .val (.int c2), .val (.int c3), .val (.int c4), .val (.int c5), .val (.int c6), .val (.ref b184), .unset, .unset]) rfl k) ?_
  show own_Go p e below (T184.setTop (mkF m 57 #[.val (.int p1), .val (.int p2), .val (.int p3), .val (.int p4), .val (.int (3 : Int32)), .val (.int c1), .val (.int c2), .val (.int c3), .val (.int c4), .val (.int c5), .val (.int c6), .val (.ref b184), .unset, .unset] [])) _
  refine own_go (fun _ k => XS.iload X184.here hx rfl (hb hby at_57) rfl k) ?_
  show own_Go p e below (T184.setTop (mkF m 59 #[.val (.int p1), .val (.int p2), .val (.int p3), .val (.int p4), .val (.int (3 : Int32)), .val (.int c1), .val (.int c2), .val (.int c3), .val (.int c4), .val (.int c5), .val (.int c6), .val (.ref b184), .unset, .unset] [(.int (3 : Int32))])) _
  refine own_go (fun _ k => XS.ifNo X184.here hx rfl (hb hby at_59) rfl ((if0 _ _).trans (tlt (by decide : (0 : Int32) < (3 : Int32))).2.2.2) k) ?_
  show own_Go p e below (T184.setTop (mkF m 62 #[.val (.int p1), .val (.int p2), .val (.int p3), .val (.int p4), .val (.int (3 : Int32)), .val (.int c1), .val (.int c2), .val (.int c3), .val (.int c4), .val (.int c5), .val (.int c6), .val (.ref b184), .unset, .unset] [])) _
  refine own_go (fun _ k => XS.aload X184.here hx rfl (hb hby at_62) rfl rfl k) ?_
  show own_Go p e below (T184.setTop (mkF m 64 #[.val (.int p1), .val (.int p2), .val (.int p3), .val (.int p4), .val (.int (3 : Int32)), .val (.int c1), .val (.int c2), .val (.int c3), .val (.int c4), .val (.int c5), .val (.int c6), .val (.ref b184), .unset, .unset] [(.ref b184)])) _
  refine own_go (fun _ k => XS.iconst X184.here hx rfl (hb hby at_64) k) ?_
  show own_Go p e below (T184.setTop (mkF m 65 #[.val (.int p1), .val (.int p2), .val (.int p3), .val (.int p4), .val (.int (3 : Int32)), .val (.int c1), .val (.int c2), .val (.int c3), .val (.int c4), .val (.int c5), .val (.int c6), .val (.ref b184), .unset, .unset] [(.int (0 : Int32)), (.ref b184)])) _
  refine own_go (fun _ k => XS.iload X184.here hx rfl (hb hby at_65) rfl k) ?_
  show own_Go p e below (T184.setTop (mkF m 67 #[.val (.int p1), .val (.int p2), .val (.int p3), .val (.int p4), .val (.int (3 : Int32)), .val (.int c1), .val (.int c2), .val (.int c3), .val (.int c4), .val (.int c5), .val (.int c6), .val (.ref b184), .unset, .unset] [(.int c1), (.int (0 : Int32)), (.ref b184)])) _
  obtain ⟨c186, A186, q186, S186, M186, Hs186, Gs186⟩ := id V184
  obtain ⟨T187, h187, X187, e187, W187, st187⟩ := stC X184 hx hZ e184 A186 (j := (0 : Int32)) (inb_of S186 ⟨by decide, by decide⟩) (g := (mkF m 67 #[.val (.int p1), .val (.int p2), .val (.int p3), .val (.int p4), .val (.int (3 : Int32)), .val (.int c1), .val (.int c2), .val (.int c3), .val (.int c4), .val (.int c5), .val (.int c6), .val (.ref b184), .unset, .unset] [(.int c1), (.int (0 : Int32)), (.ref b184)])) rfl rfl (hb hby at_67)
  refine own_go st187 ?_
  have N187 := Fr.snoc X187 N0 (Nat.le_trans Z0 (Nat.le_of_eq g184.symm))
  have f188 := (Safe.ext E184 C0.1 (Safe.new (Nat.le_of_eq g184.symm)))
  have C189 := C185.trans (CHr.wr W187 f188 C185.1)
  have V187 : Arv Z h187 b184 k184 .char (3 : Int32) [(.int (nar .char c1)), (.int (0 : Int32)), (.int (0 : Int32))] (.int (0 : Int32)) := Arv.set A186 q186 S186 M186 Hs186 Gs186 (fits_nar_char _) W187 0 rfl (Nat.le_of_ble_eq_true rfl)
  have V187q : Arv Z h187 b184 k184 .char (3 : Int32) [(.int c1), (.int (0 : Int32)), (.int (0 : Int32))] (.int (0 : Int32)) := by rw [show nar .char c1 = c1 from (own_nc b_c1.1 b_c1.2)] at V187; exact V187
  show own_Go p e below (T187.setTop (mkF m 68 #[.val (.int p1), .val (.int p2), .val (.int p3), .val (.int p4), .val (.int (3 : Int32)), .val (.int c1), .val (.int c2), .val (.int c3), .val (.int c4), .val (.int c5), .val (.int c6), .val (.ref b184), .unset, .unset] [])) _
  refine own_go (fun _ k => XS.iload X187.here hx rfl (hb hby at_68) rfl k) ?_
  show own_Go p e below (T187.setTop (mkF m 70 #[.val (.int p1), .val (.int p2), .val (.int p3), .val (.int p4), .val (.int (3 : Int32)), .val (.int c1), .val (.int c2), .val (.int c3), .val (.int c4), .val (.int c5), .val (.int c6), .val (.ref b184), .unset, .unset] [(.int (3 : Int32))])) _
  refine own_go (fun _ k => XS.iconst X187.here hx rfl (hb hby at_70) k) ?_
  show own_Go p e below (T187.setTop (mkF m 71 #[.val (.int p1), .val (.int p2), .val (.int p3), .val (.int p4), .val (.int (3 : Int32)), .val (.int c1), .val (.int c2), .val (.int c3), .val (.int c4), .val (.int c5), .val (.int c6), .val (.ref b184), .unset, .unset] [(.int (1 : Int32)), (.int (3 : Int32))])) _
  refine own_go (fun _ k => XS.icmpNo X187.here hx rfl (hb hby at_71) rfl (tlt (by decide : (1 : Int32) < (3 : Int32))).2.2.2 k) ?_
  show own_Go p e below (T187.setTop (mkF m 74 #[.val (.int p1), .val (.int p2), .val (.int p3), .val (.int p4), .val (.int (3 : Int32)), .val (.int c1), .val (.int c2), .val (.int c3), .val (.int c4), .val (.int c5), .val (.int c6), .val (.ref b184), .unset, .unset] [])) _
  refine own_go (fun _ k => XS.aload X187.here hx rfl (hb hby at_74) rfl rfl k) ?_
  show own_Go p e below (T187.setTop (mkF m 76 #[.val (.int p1), .val (.int p2), .val (.int p3), .val (.int p4), .val (.int (3 : Int32)), .val (.int c1), .val (.int c2), .val (.int c3), .val (.int c4), .val (.int c5), .val (.int c6), .val (.ref b184), .unset, .unset] [(.ref b184)])) _
  refine own_go (fun _ k => XS.iconst X187.here hx rfl (hb hby at_76) k) ?_
  show own_Go p e below (T187.setTop (mkF m 77 #[.val (.int p1), .val (.int p2), .val (.int p3), .val (.int p4), .val (.int (3 : Int32)), .val (.int c1), .val (.int c2), .val (.int c3), .val (.int c4), .val (.int c5), .val (.int c6), .val (.ref b184), .unset, .unset] [(.int (1 : Int32)), (.ref b184)])) _
  refine own_go (fun _ k => XS.iload X187.here hx rfl (hb hby at_77) rfl k) ?_
  show own_Go p e below (T187.setTop (mkF m 79 #[.val (.int p1), .val (.int p2), .val (.int p3), .val (.int p4), .val (.int (3 : Int32)), .val (.int c1), .val (.int c2), .val (.int c3), .val (.int c4), .val (.int c5), .val (.int c6), .val (.ref b184), .unset, .unset] [(.int c2), (.int (1 : Int32)), (.ref b184)])) _
  obtain ⟨c190, A190, q190, S190, M190, Hs190, Gs190⟩ := id V187q
  obtain ⟨T191, h191, X191, e191, W191, st191⟩ := stC X187 hx hZ e187 A190 (j := (1 : Int32)) (inb_of S190 ⟨by decide, by decide⟩) (g := (mkF m 79 #[.val (.int p1), .val (.int p2), .val (.int p3), .val (.int p4), .val (.int (3 : Int32)), .val (.int c1), .val (.int c2), .val (.int c3), .val (.int c4), .val (.int c5), .val (.int c6), .val (.ref b184), .unset, .unset] [(.int c2), (.int (1 : Int32)), (.ref b184)])) rfl rfl (hb hby at_79)
  refine own_go st191 ?_
  have N191 := Fr.snoc X191 N187 (Nat.le_trans Z0 (Nat.le_of_eq g184.symm))
  have f192 := (Safe.wr W187 f188 C185.1 f188)
  have C193 := C189.trans (CHr.wr W191 f192 C189.1)
  have V191 : Arv Z h191 b184 k184 .char (3 : Int32) [(.int c1), (.int (nar .char c2)), (.int (0 : Int32))] (.int (0 : Int32)) := Arv.set A190 q190 S190 M190 Hs190 Gs190 (fits_nar_char _) W191 1 rfl (Nat.le_of_ble_eq_true rfl)
  have V191q : Arv Z h191 b184 k184 .char (3 : Int32) [(.int c1), (.int c2), (.int (0 : Int32))] (.int (0 : Int32)) := by rw [show nar .char c2 = c2 from (own_nc b_c2.1 b_c2.2)] at V191; exact V191
  show own_Go p e below (T191.setTop (mkF m 80 #[.val (.int p1), .val (.int p2), .val (.int p3), .val (.int p4), .val (.int (3 : Int32)), .val (.int c1), .val (.int c2), .val (.int c3), .val (.int c4), .val (.int c5), .val (.int c6), .val (.ref b184), .unset, .unset] [])) _
  refine own_go (fun _ k => XS.iload X191.here hx rfl (hb hby at_80) rfl k) ?_
  show own_Go p e below (T191.setTop (mkF m 82 #[.val (.int p1), .val (.int p2), .val (.int p3), .val (.int p4), .val (.int (3 : Int32)), .val (.int c1), .val (.int c2), .val (.int c3), .val (.int c4), .val (.int c5), .val (.int c6), .val (.ref b184), .unset, .unset] [(.int (3 : Int32))])) _
  refine own_go (fun _ k => XS.iconst X191.here hx rfl (hb hby at_82) k) ?_
  show own_Go p e below (T191.setTop (mkF m 83 #[.val (.int p1), .val (.int p2), .val (.int p3), .val (.int p4), .val (.int (3 : Int32)), .val (.int c1), .val (.int c2), .val (.int c3), .val (.int c4), .val (.int c5), .val (.int c6), .val (.ref b184), .unset, .unset] [(.int (2 : Int32)), (.int (3 : Int32))])) _
  refine own_go (fun _ k => XS.icmpNo X191.here hx rfl (hb hby at_83) rfl (tlt (by decide : (2 : Int32) < (3 : Int32))).2.2.2 k) ?_
  show own_Go p e below (T191.setTop (mkF m 86 #[.val (.int p1), .val (.int p2), .val (.int p3), .val (.int p4), .val (.int (3 : Int32)), .val (.int c1), .val (.int c2), .val (.int c3), .val (.int c4), .val (.int c5), .val (.int c6), .val (.ref b184), .unset, .unset] [])) _
  refine own_go (fun _ k => XS.aload X191.here hx rfl (hb hby at_86) rfl rfl k) ?_
  show own_Go p e below (T191.setTop (mkF m 88 #[.val (.int p1), .val (.int p2), .val (.int p3), .val (.int p4), .val (.int (3 : Int32)), .val (.int c1), .val (.int c2), .val (.int c3), .val (.int c4), .val (.int c5), .val (.int c6), .val (.ref b184), .unset, .unset] [(.ref b184)])) _
  refine own_go (fun _ k => XS.iconst X191.here hx rfl (hb hby at_88) k) ?_
  show own_Go p e below (T191.setTop (mkF m 89 #[.val (.int p1), .val (.int p2), .val (.int p3), .val (.int p4), .val (.int (3 : Int32)), .val (.int c1), .val (.int c2), .val (.int c3), .val (.int c4), .val (.int c5), .val (.int c6), .val (.ref b184), .unset, .unset] [(.int (2 : Int32)), (.ref b184)])) _
  refine own_go (fun _ k => XS.iload X191.here hx rfl (hb hby at_89) rfl k) ?_
  show own_Go p e below (T191.setTop (mkF m 91 #[.val (.int p1), .val (.int p2), .val (.int p3), .val (.int p4), .val (.int (3 : Int32)), .val (.int c1), .val (.int c2), .val (.int c3), .val (.int c4), .val (.int c5), .val (.int c6), .val (.ref b184), .unset, .unset] [(.int c3), (.int (2 : Int32)), (.ref b184)])) _
  obtain ⟨c194, A194, q194, S194, M194, Hs194, Gs194⟩ := id V191q
  obtain ⟨T195, h195, X195, e195, W195, st195⟩ := stC X191 hx hZ e191 A194 (j := (2 : Int32)) (inb_of S194 ⟨by decide, by decide⟩) (g := (mkF m 91 #[.val (.int p1), .val (.int p2), .val (.int p3), .val (.int p4), .val (.int (3 : Int32)), .val (.int c1), .val (.int c2), .val (.int c3), .val (.int c4), .val (.int c5), .val (.int c6), .val (.ref b184), .unset, .unset] [(.int c3), (.int (2 : Int32)), (.ref b184)])) rfl rfl (hb hby at_91)
  refine own_go st195 ?_
  have N195 := Fr.snoc X195 N191 (Nat.le_trans Z0 (Nat.le_of_eq g184.symm))
  have f196 := (Safe.wr W191 f192 C189.1 f192)
  have C197 := C193.trans (CHr.wr W195 f196 C193.1)
  have V195 : Arv Z h195 b184 k184 .char (3 : Int32) [(.int c1), (.int c2), (.int (nar .char c3))] (.int (0 : Int32)) := Arv.set A194 q194 S194 M194 Hs194 Gs194 (fits_nar_char _) W195 2 rfl (Nat.le_of_ble_eq_true rfl)
  have V195q : Arv Z h195 b184 k184 .char (3 : Int32) [(.int c1), (.int c2), (.int c3)] (.int (0 : Int32)) := by rw [show nar .char c3 = c3 from (own_nc b_c3.1 b_c3.2)] at V195; exact V195
  show own_Go p e below (T195.setTop (mkF m 92 #[.val (.int p1), .val (.int p2), .val (.int p3), .val (.int p4), .val (.int (3 : Int32)), .val (.int c1), .val (.int c2), .val (.int c3), .val (.int c4), .val (.int c5), .val (.int c6), .val (.ref b184), .unset, .unset] [])) _
  refine own_go (fun _ k => XS.iload X195.here hx rfl (hb hby at_92) rfl k) ?_
  show own_Go p e below (T195.setTop (mkF m 94 #[.val (.int p1), .val (.int p2), .val (.int p3), .val (.int p4), .val (.int (3 : Int32)), .val (.int c1), .val (.int c2), .val (.int c3), .val (.int c4), .val (.int c5), .val (.int c6), .val (.ref b184), .unset, .unset] [(.int (3 : Int32))])) _
  refine own_go (fun _ k => XS.iconst X195.here hx rfl (hb hby at_94) k) ?_
  show own_Go p e below (T195.setTop (mkF m 95 #[.val (.int p1), .val (.int p2), .val (.int p3), .val (.int p4), .val (.int (3 : Int32)), .val (.int c1), .val (.int c2), .val (.int c3), .val (.int c4), .val (.int c5), .val (.int c6), .val (.ref b184), .unset, .unset] [(.int (3 : Int32)), (.int (3 : Int32))])) _
  refine own_go (fun _ k => XS.icmpYes X195.here hx rfl (pc0 := 95) (pc' := 104) rfl (hb hby at_95) rfl (flt (by decide : ¬ ((3 : Int32) < (3 : Int32)))).2.2.2 (by decide) (by decide) k) ?_
  show own_Go p e below (T195.setTop (mkF m 104 #[.val (.int p1), .val (.int p2), .val (.int p3), .val (.int p4), .val (.int (3 : Int32)), .val (.int c1), .val (.int c2), .val (.int c3), .val (.int c4), .val (.int c5), .val (.int c6), .val (.ref b184), .unset, .unset] [])) _
  refine own_go (fun _ k => XS.iload X195.here hx rfl (hb hby at_104) rfl k) ?_
  show own_Go p e below (T195.setTop (mkF m 106 #[.val (.int p1), .val (.int p2), .val (.int p3), .val (.int p4), .val (.int (3 : Int32)), .val (.int c1), .val (.int c2), .val (.int c3), .val (.int c4), .val (.int c5), .val (.int c6), .val (.ref b184), .unset, .unset] [(.int (3 : Int32))])) _
  refine own_go (fun _ k => XS.iconst X195.here hx rfl (hb hby at_106) k) ?_
  show own_Go p e below (T195.setTop (mkF m 107 #[.val (.int p1), .val (.int p2), .val (.int p3), .val (.int p4), .val (.int (3 : Int32)), .val (.int c1), .val (.int c2), .val (.int c3), .val (.int c4), .val (.int c5), .val (.int c6), .val (.ref b184), .unset, .unset] [(.int (4 : Int32)), (.int (3 : Int32))])) _
  refine own_go (fun _ k => XS.icmpYes X195.here hx rfl (pc0 := 107) (pc' := 116) rfl (hb hby at_107) rfl (flt (by decide : ¬ ((4 : Int32) < (3 : Int32)))).2.2.2 (by decide) (by decide) k) ?_
  show own_Go p e below (T195.setTop (mkF m 116 #[.val (.int p1), .val (.int p2), .val (.int p3), .val (.int p4), .val (.int (3 : Int32)), .val (.int c1), .val (.int c2), .val (.int c3), .val (.int c4), .val (.int c5), .val (.int c6), .val (.ref b184), .unset, .unset] [])) _
  refine own_go (fun _ k => XS.iload X195.here hx rfl (hb hby at_116) rfl k) ?_
  show own_Go p e below (T195.setTop (mkF m 118 #[.val (.int p1), .val (.int p2), .val (.int p3), .val (.int p4), .val (.int (3 : Int32)), .val (.int c1), .val (.int c2), .val (.int c3), .val (.int c4), .val (.int c5), .val (.int c6), .val (.ref b184), .unset, .unset] [(.int (3 : Int32))])) _
  refine own_go (fun _ k => XS.iconst X195.here hx rfl (hb hby at_118) k) ?_
  show own_Go p e below (T195.setTop (mkF m 119 #[.val (.int p1), .val (.int p2), .val (.int p3), .val (.int p4), .val (.int (3 : Int32)), .val (.int c1), .val (.int c2), .val (.int c3), .val (.int c4), .val (.int c5), .val (.int c6), .val (.ref b184), .unset, .unset] [(.int (5 : Int32)), (.int (3 : Int32))])) _
  refine own_go (fun _ k => XS.icmpYes X195.here hx rfl (pc0 := 119) (pc' := 128) rfl (hb hby at_119) rfl (flt (by decide : ¬ ((5 : Int32) < (3 : Int32)))).2.2.2 (by decide) (by decide) k) ?_
  show own_Go p e below (T195.setTop (mkF m 128 #[.val (.int p1), .val (.int p2), .val (.int p3), .val (.int p4), .val (.int (3 : Int32)), .val (.int c1), .val (.int c2), .val (.int c3), .val (.int c4), .val (.int c5), .val (.int c6), .val (.ref b184), .unset, .unset] [])) _
  obtain ⟨T198, h198, X198, e198, E198, A198, D198, U198, st198⟩ := newO X195 hx hZ hown (hw _ (List.mem_of_getElem? (i := 3) rfl)) (hw _ (List.mem_of_getElem? (i := 4) rfl)) (hw _ (List.mem_of_getElem? (i := 5) rfl)) e195 (g := (mkF m 128 #[.val (.int p1), .val (.int p2), .val (.int p3), .val (.int p4), .val (.int (3 : Int32)), .val (.int c1), .val (.int c2), .val (.int c3), .val (.int c4), .val (.int c5), .val (.int c6), .val (.ref b184), .unset, .unset] [])) rfl (hb hby at_128) (by decide) (by decide)
  obtain ⟨b198, g198⟩ : ∃ z, z = h195.size := ⟨_, rfl⟩
  rw [← g198] at A198 D198 U198 st198
  refine own_go st198 ?_
  have C199 := C197.trans (CHr.ext E198 C197.1)
  have F198_coder : Fld Z h198 b198 "java/lang/String" "coder" "B" (.int (0 : Int32)) := D198 (Or.inr (hw _ (List.mem_of_getElem? (i := 29) rfl))) (ty := .byte) (by decide)
  have F198_value : Fld Z h198 b198 "java/lang/String" "value" "[B" .null := D198 (Or.inr (hw _ (List.mem_of_getElem? (i := 31) rfl))) (ty := (.array .byte)) (by decide)
  show own_Go p e below (T198.setTop (mkF m 131 #[.val (.int p1), .val (.int p2), .val (.int p3), .val (.int p4), .val (.int (3 : Int32)), .val (.int c1), .val (.int c2), .val (.int c3), .val (.int c4), .val (.int c5), .val (.int c6), .val (.ref b184), .unset, .unset] [(.ref b198)])) _
  refine own_go (fun _ k => XS.dup X198.here hx rfl (hb hby at_131) rfl rfl k) ?_
  show own_Go p e below (T198.setTop (mkF m 132 #[.val (.int p1), .val (.int p2), .val (.int p3), .val (.int p4), .val (.int (3 : Int32)), .val (.int c1), .val (.int c2), .val (.int c3), .val (.int c4), .val (.int c5), .val (.int c6), .val (.ref b184), .unset, .unset] [(.ref b198), (.ref b198)])) _
  refine own_go (fun _ k => XS.aload X198.here hx rfl (hb hby at_132) rfl rfl k) ?_
  show own_Go p e below (T198.setTop (mkF m 134 #[.val (.int p1), .val (.int p2), .val (.int p3), .val (.int p4), .val (.int (3 : Int32)), .val (.int c1), .val (.int c2), .val (.int c3), .val (.int c4), .val (.int c5), .val (.int c6), .val (.ref b184), .unset, .unset] [(.ref b184), (.ref b198), (.ref b198)])) _
  have z200 := (Nat.le_trans (Nat.le_trans (Nat.le_trans E184.1 (Keep.of_wr W187).1) (Keep.of_wr W191).1) (Keep.of_wr W195).1)
  have f201 := (((((O1.ext E184).wr W187 (Nat.le_trans Z0 (Nat.le_of_eq g184.symm))).wr W191 (Nat.le_trans Z0 (Nat.le_of_eq g184.symm))).wr W195 (Nat.le_trans Z0 (Nat.le_of_eq g184.symm))).ext E198)
  obtain ⟨v202, _, ⟨T202, L202, k202, n202⟩, -, X202, ⟨Lc202, hQ202, l202, y202, z202⟩, st202⟩ := X198.specialBack hx (y := (⟨"java/lang/String", "<init>", "([C)V"⟩ : MethodName)) rfl hown (mvT hZ (hw _ (List.mem_of_getElem? (i := 6) rfl))) (mvT hZ (hw _ (List.mem_of_getElem? (i := 7) rfl))) (mvT hZ (hw _ (List.mem_of_getElem? (i := 8) rfl))) (by decide) (backOf (W := 1) (rm_i1 l Z a0 hw [] b198 b184 k184 (.int (0 : Int32)) [c1, c2, c3] G1 h198 n0 f201 A198 F198_value F198_coder (Nat.le_trans Z0 (Nat.le_trans z200 (Nat.le_of_eq g198.symm))) OA OH OL O2 P5 (own_okL3 b_c1 b_c2 b_c3) (V195q.ext E198) (Nat.le_of_ble_eq_true rfl) (Nat.le_of_ble_eq_true rfl)) hZ (hw _ (List.mem_of_getElem? (i := 8) rfl)) (hw _ (List.mem_of_getElem? (i := 5) rfl)) (by decide) (by decide)) (g := (mkF m 134 #[.val (.int p1), .val (.int p2), .val (.int p3), .val (.int p4), .val (.int (3 : Int32)), .val (.int c1), .val (.int c2), .val (.int c3), .val (.int c4), .val (.int c5), .val (.int c6), .val (.ref b184), .unset, .unset] [(.ref b184), (.ref b198), (.ref b198)])) rfl (by rw [hml]; rfl) (Steps.refl _) (a := b198) (argsL := [(.ref b184)]) (rest := [(.ref b198)]) (lenOf pd_18 rfl) rfl (by show 2 * 0 + _ ≤ _; exact Nat.le_of_eq rfl) (hb hby at_134) (fun _ _ => ⟨rfl, e198, (by decide : 2 + 2 ≤ _), (by decide : 7 + 18 ≤ _)⟩)
  dsimp only [Pt.U, Pt.locs, Pt.cells, Pt.slots] at X202 l202 y202 z202 st202 hQ202
  subst l202 y202 z202
  refine own_gos st202 ?_
  obtain ⟨t202, kt202, cd202, N2202, vs202, rfl, Nq202, K202, Fv202, Fc202, Vt202, hC202⟩ := hQ202
  have f203 := (Safe.ext E198 C197.1 (Safe.new (Nat.le_of_eq g198.symm)))
  have C204 := C199.trans (CHr.keep K202 (sfS f203 sf0) C199.1)
  have N202 := Fr.app N195 Nq202
  show own_Go p e below (T202.setTop (mkF m 137 #[.val (.int p1), .val (.int p2), .val (.int p3), .val (.int p4), .val (.int (3 : Int32)), .val (.int c1), .val (.int c2), .val (.int c3), .val (.int c4), .val (.int c5), .val (.int c6), .val (.ref b184), .unset, .unset] [(.ref b198)])) _
  refine own_go (fun _ k => XS.astore X202.here hx rfl (hb hby at_137) rfl rfl (l' := #[.val (.int p1), .val (.int p2), .val (.int p3), .val (.int p4), .val (.int (3 : Int32)), .val (.int c1), .val (.int c2), .val (.int c3), .val (.int c4), .val (.int c5), .val (.int c6), .val (.ref b184), .val (.ref b198), .unset]) rfl k) ?_
  show own_Go p e below (T202.setTop (mkF m 139 #[.val (.int p1), .val (.int p2), .val (.int p3), .val (.int p4), .val (.int (3 : Int32)), .val (.int c1), .val (.int c2), .val (.int c3), .val (.int c4), .val (.int c5), .val (.int c6), .val (.ref b184), .val (.ref b198), .unset] [])) _
  have z205 := (Nat.le_trans (Nat.le_trans z200 E198.1) K202.1)
  have f206 := (f201.keep K202 (allS (Nat.le_trans Z0 (Nat.le_trans z200 (Nat.le_of_eq g198.symm))) all0))
  exact own_mid3 l Z a0 hw p1 p2 p3 p4 c1 c2 c3 c4 c5 c6 b184 b198 t202 kt202 cd202 N2202 vs202 G1 G3 h0 n0 X202 hx hby hml hown hZ hrt hlk T202.heap (rfl : T202.heap = T202.heap) N202 (Nat.le_trans Z0 z205) f206 hh hS0 (Nat.le_trans hk0 z205) C204 (A198.keep K202) Fv202 Fc202 Vt202 O2 P5 O4 rG3 OA OH OL hC202 (own_okL3 b_c1 b_c2 b_c3)

set_option maxRecDepth 65536 in
set_option maxHeartbeats 40000000 in
theorem own_end4 (l : Launch) (Z : State) (a0 : Array Value) (hw : ∀ d ∈ tables_1, d.before a0 Z = true) (p1 : Int32) (p2 : Int32) (p3 : Int32) (p4 : Int32) (nv : Int32) (c1 : Int32) (c2 : Int32) (c3 : Int32) (c4 : Int32) (c5 : Int32) (c6 : Int32) (ar : Addr) (ee : Int32) (x : Addr) (t : Addr) (kt : ClassId) (cs : List Int32) (cd : Int32) (N2 : Int32) (vs : List Value) (G1 : Int32) (G3 : Value) (h0 : Heap) (n0 : Nat) {p : Program} {e : Env} {s : State} {vm0 : Vm} {m : MethodId} {below : List Frame} {meth : Method} {cC : Code} {T0 : State} {locs : List Loc} (X0 : Stand p l e room_1 (s.setVm vm0) m #[(.int p1), (.int p2), (.int p3), (.int p4)] below meth cC T0 locs 4 26) (hx : p.tables.exec = Jvm.exec) (hby : cC.code = code) (hml : cC.maxLocals = maxLocals) (hown : (s.setVm vm0).vm.findClass "com/example/rolelattice/rolelattice/decision/CatalogIsExpressionPinLaw" = some m.cls) (hZ : Z.Warmed39 (s.setVm vm0).vm) (hrt : meth.sig.returnType = ret) (hlk : meth.locks = false) (h1 : Heap) (e0 : T0.heap = h1) (N0 : Fr n0 locs) (Z0 : n0 ≤ h1.size) (O1 : Old Z n0 h1) (hh : s.heap = h0) {k0 : Nat} (hS0 : s.Since vm0 k0) (hk0 : k0 ≤ h1.size) (C0 : CHr Z own_EL s.vm h0 vm0 h1) (E_x : Exa Z h1 x "java/lang/String") (Fv_x : Fld Z h1 x "java/lang/String" "value" "[B" (.ref t)) (Fc_x : Fld Z h1 x "java/lang/String" "coder" "B" (.int cd)) (V_t : Arv Z h1 t kt .byte N2 vs (.int (0 : Int32))) (O2 : Sta Z Z.heap "java/lang/String" "COMPACT_STRINGS" "Z" (.int G1)) (P5 : ¬ (G1 = (0 : Int32))) (O4 : Sta Z Z.heap "jdk/internal/util/Preconditions" "SIOOBE_FORMATTER" "Ljava/util/function/BiFunction;" G3) (rG3 : G3.isRef = true) (OA : Sta Z Z.heap "java/lang/StringUTF16" "$assertionsDisabled" "Z" (.int (1 : Int32))) (OH : Sta Z Z.heap "java/lang/StringUTF16" "HI_BYTE_SHIFT" "I" (.int (0 : Int32))) (OL : Sta Z Z.heap "java/lang/StringUTF16" "LO_BYTE_SHIFT" "I" (.int (8 : Int32))) (hC : StrChars.Road.CodA cs cd N2 vs) (hok : own_Ok cs) (hee : (own_ise cs) = ee) :
    own_Go p e below (T0.setTop (mkF m 229 #[.val (.int p1), .val (.int p2), .val (.int p3), .val (.int p4), .val (.int nv), .val (.int c1), .val (.int c2), .val (.int c3), .val (.int c4), .val (.int c5), .val (.int c6), .val (.ref ar), .val (.ref x), .val (.int ee)] [])) (fun oO U' => ∃ rV rL, oO = .returned rV ∧ QQ0 n0 rV U'.heap rL ∧ CHr Z own_EL s.vm s.heap U'.vm U'.heap ∧ ReturnedEndW s oO U' rL 24 1152) := by
  have own_wS := own_wSt hw
  have own_hEL := own_hELt hw
  show own_Go p e below (T0.setTop (mkF m 229 #[.val (.int p1), .val (.int p2), .val (.int p3), .val (.int p4), .val (.int nv), .val (.int c1), .val (.int c2), .val (.int c3), .val (.int c4), .val (.int c5), .val (.int c6), .val (.ref ar), .val (.ref x), .val (.int ee)] [])) _
  refine own_go (fun _ k => XS.aload X0.here hx rfl (hb hby at_229) rfl rfl k) ?_
  show own_Go p e below (T0.setTop (mkF m 231 #[.val (.int p1), .val (.int p2), .val (.int p3), .val (.int p4), .val (.int nv), .val (.int c1), .val (.int c2), .val (.int c3), .val (.int c4), .val (.int c5), .val (.int c6), .val (.ref ar), .val (.ref x), .val (.int ee)] [(.ref x)])) _
  obtain ⟨v207, _, ⟨T207, L207, k207, n207⟩, -, X207, ⟨Lc207, hQ207, l207, y207, z207⟩, st207⟩ := Jvm.LawKit.callS X0 hx (y := (⟨"com/example/rolelattice/rolelattice/decision/Catalog", "isExpression", "(Ljava/lang/String;)Z"⟩ : MethodName)) hown (mvT hZ (hw _ (List.mem_of_getElem? (i := 36) rfl))) (mvT hZ (hw _ (List.mem_of_getElem? (i := 37) rfl))) (mvT hZ (hw _ (List.mem_of_getElem? (i := 38) rfl))) (mvT hZ (hw _ (List.mem_of_getElem? (i := 39) rfl))) (by decide) (backOf (W := 0) (rm_ise l Z a0 hw [] x t kt cs cd N2 vs G1 G3 h1 n0 O1 O2 P5 O4 rG3 OA OH OL E_x Fv_x Fc_x V_t hC hok) hZ (hw _ (List.mem_of_getElem? (i := 39) rfl)) (hw _ (List.mem_of_getElem? (i := 38) rfl)) (by decide) (by decide)) (g := (mkF m 231 #[.val (.int p1), .val (.int p2), .val (.int p3), .val (.int p4), .val (.int nv), .val (.int c1), .val (.int c2), .val (.int c3), .val (.int c4), .val (.int c5), .val (.int c6), .val (.ref ar), .val (.ref x), .val (.int ee)] [(.ref x)])) rfl (by rw [hml]; rfl) (argsL := [(.ref x)]) (rest := []) (lenOf pd_17 rfl) rfl (by show 2 * 0 + _ ≤ _; exact Nat.le_of_eq rfl) (hb hby at_231) (fun _ _ => ⟨rfl, e0, (by decide : 4 + 0 ≤ _), (by decide : 26 + 0 ≤ _)⟩)
  dsimp only [Pt.U, Pt.locs, Pt.cells, Pt.slots] at X207 l207 y207 z207 st207 hQ207
  subst l207 y207 z207
  refine own_go st207 ?_
  obtain ⟨rfl, Nq207, e207⟩ := hQ207
  have N207 := Fr.app N0 Nq207
  show own_Go p e below (T207.setTop (mkF m 234 #[.val (.int p1), .val (.int p2), .val (.int p3), .val (.int p4), .val (.int nv), .val (.int c1), .val (.int c2), .val (.int c3), .val (.int c4), .val (.int c5), .val (.int c6), .val (.ref ar), .val (.ref x), .val (.int ee)] [(.int (own_ise cs))])) _
  refine own_go (fun _ k => XS.iload X207.here hx rfl (hb hby at_234) rfl k) ?_
  show own_Go p e below (T207.setTop (mkF m 236 #[.val (.int p1), .val (.int p2), .val (.int p3), .val (.int p4), .val (.int nv), .val (.int c1), .val (.int c2), .val (.int c3), .val (.int c4), .val (.int c5), .val (.int c6), .val (.ref ar), .val (.ref x), .val (.int ee)] [(.int ee), (.int (own_ise cs))])) _
  refine own_go (fun _ k => XS.icmpNo X207.here hx rfl (hb hby at_236) rfl (teq hee).2 k) ?_
  show own_Go p e below (T207.setTop (mkF m 239 #[.val (.int p1), .val (.int p2), .val (.int p3), .val (.int p4), .val (.int nv), .val (.int c1), .val (.int c2), .val (.int c3), .val (.int c4), .val (.int c5), .val (.int c6), .val (.ref ar), .val (.ref x), .val (.int ee)] [])) _
  refine own_go (fun _ k => XS.iconst X207.here hx rfl (hb hby at_239) k) ?_
  show own_Go p e below (T207.setTop (mkF m 240 #[.val (.int p1), .val (.int p2), .val (.int p3), .val (.int p4), .val (.int nv), .val (.int c1), .val (.int c2), .val (.int c3), .val (.int c4), .val (.int c5), .val (.int c6), .val (.ref ar), .val (.ref x), .val (.int ee)] [(.int (1 : Int32))])) _
  refine own_go (fun _ k => XS.goto X207.here hx rfl (pc0 := 240) (pc' := 244) rfl (hb hby at_240) (by decide) (by decide) k) ?_
  show own_Go p e below (T207.setTop (mkF m 244 #[.val (.int p1), .val (.int p2), .val (.int p3), .val (.int p4), .val (.int nv), .val (.int c1), .val (.int c2), .val (.int c3), .val (.int c4), .val (.int c5), .val (.int c6), .val (.ref ar), .val (.ref x), .val (.int ee)] [(.int (1 : Int32))])) _
  refine own_finW (v := (some (.int (nar .boolean (1 : Int32))))) X207 hh hZ hS0 (by rw [e207]; exact hk0) (fun h => by rw [hrt] at h; cases h) hlk (fun fs hr => retN X207 hx (t := .boolean) hrt (by simp) (hb hby at_244) hr) (QQ := QQ0 n0) ?_ own_hEL e207 (C0) (by decide) (by decide)
  rw [e207]
  exact ⟨rfl, N207⟩

set_option maxRecDepth 65536 in
set_option maxHeartbeats 40000000 in
theorem own_mid4 (l : Launch) (Z : State) (a0 : Array Value) (hw : ∀ d ∈ tables_1, d.before a0 Z = true) (p1 : Int32) (p2 : Int32) (p3 : Int32) (p4 : Int32) (c1 : Int32) (c2 : Int32) (c3 : Int32) (c4 : Int32) (c5 : Int32) (c6 : Int32) (ar : Addr) (x : Addr) (t : Addr) (kt : ClassId) (cd : Int32) (N2 : Int32) (vs : List Value) (G1 : Int32) (G3 : Value) (h0 : Heap) (n0 : Nat) {p : Program} {e : Env} {s : State} {vm0 : Vm} {m : MethodId} {below : List Frame} {meth : Method} {cC : Code} {T0 : State} {locs : List Loc} (X0 : Stand p l e room_1 (s.setVm vm0) m #[(.int p1), (.int p2), (.int p3), (.int p4)] below meth cC T0 locs 4 26) (hx : p.tables.exec = Jvm.exec) (hby : cC.code = code) (hml : cC.maxLocals = maxLocals) (hown : (s.setVm vm0).vm.findClass "com/example/rolelattice/rolelattice/decision/CatalogIsExpressionPinLaw" = some m.cls) (hZ : Z.Warmed39 (s.setVm vm0).vm) (hrt : meth.sig.returnType = ret) (hlk : meth.locks = false) (h1 : Heap) (e0 : T0.heap = h1) (N0 : Fr n0 locs) (Z0 : n0 ≤ h1.size) (O1 : Old Z n0 h1) (hh : s.heap = h0) {k0 : Nat} (hS0 : s.Since vm0 k0) (hk0 : k0 ≤ h1.size) (C0 : CHr Z own_EL s.vm h0 vm0 h1) (E_x : Exa Z h1 x "java/lang/String") (Fv_x : Fld Z h1 x "java/lang/String" "value" "[B" (.ref t)) (Fc_x : Fld Z h1 x "java/lang/String" "coder" "B" (.int cd)) (V_t : Arv Z h1 t kt .byte N2 vs (.int (0 : Int32))) (O2 : Sta Z Z.heap "java/lang/String" "COMPACT_STRINGS" "Z" (.int G1)) (P5 : ¬ (G1 = (0 : Int32))) (O4 : Sta Z Z.heap "jdk/internal/util/Preconditions" "SIOOBE_FORMATTER" "Ljava/util/function/BiFunction;" G3) (rG3 : G3.isRef = true) (OA : Sta Z Z.heap "java/lang/StringUTF16" "$assertionsDisabled" "Z" (.int (1 : Int32))) (OH : Sta Z Z.heap "java/lang/StringUTF16" "HI_BYTE_SHIFT" "I" (.int (0 : Int32))) (OL : Sta Z Z.heap "java/lang/StringUTF16" "LO_BYTE_SHIFT" "I" (.int (8 : Int32))) (hC : StrChars.Road.CodA ([c1, c2, c3, c4] : List Int32) cd N2 vs) (hok : own_Ok ([c1, c2, c3, c4] : List Int32)) :
    own_Go p e below (T0.setTop (mkF m 139 #[.val (.int p1), .val (.int p2), .val (.int p3), .val (.int p4), .val (.int (4 : Int32)), .val (.int c1), .val (.int c2), .val (.int c3), .val (.int c4), .val (.int c5), .val (.int c6), .val (.ref ar), .val (.ref x), .unset] [])) (fun oO U' => ∃ rV rL, oO = .returned rV ∧ QQ0 n0 rV U'.heap rL ∧ CHr Z own_EL s.vm s.heap U'.vm U'.heap ∧ ReturnedEndW s oO U' rL 24 1152) := by
  have own_wS := own_wSt hw
  have own_hEL := own_hELt hw
  show own_Go p e below (T0.setTop (mkF m 139 #[.val (.int p1), .val (.int p2), .val (.int p3), .val (.int p4), .val (.int (4 : Int32)), .val (.int c1), .val (.int c2), .val (.int c3), .val (.int c4), .val (.int c5), .val (.int c6), .val (.ref ar), .val (.ref x), .unset] [])) _
  refine own_go (fun _ k => XS.iload X0.here hx rfl (hb hby at_139) rfl k) ?_
  show own_Go p e below (T0.setTop (mkF m 141 #[.val (.int p1), .val (.int p2), .val (.int p3), .val (.int p4), .val (.int (4 : Int32)), .val (.int c1), .val (.int c2), .val (.int c3), .val (.int c4), .val (.int c5), .val (.int c6), .val (.ref ar), .val (.ref x), .unset] [(.int (4 : Int32))])) _
  refine own_go (fun _ k => XS.ifNo X0.here hx rfl (hb hby at_141) rfl ((if0 _ _).trans (tlt (by decide : (0 : Int32) < (4 : Int32))).2.2.2) k) ?_
  show own_Go p e below (T0.setTop (mkF m 144 #[.val (.int p1), .val (.int p2), .val (.int p3), .val (.int p4), .val (.int (4 : Int32)), .val (.int c1), .val (.int c2), .val (.int c3), .val (.int c4), .val (.int c5), .val (.int c6), .val (.ref ar), .val (.ref x), .unset] [])) _
  refine own_go (fun _ k => XS.iload X0.here hx rfl (hb hby at_144) rfl k) ?_
  show own_Go p e below (T0.setTop (mkF m 146 #[.val (.int p1), .val (.int p2), .val (.int p3), .val (.int p4), .val (.int (4 : Int32)), .val (.int c1), .val (.int c2), .val (.int c3), .val (.int c4), .val (.int c5), .val (.int c6), .val (.ref ar), .val (.ref x), .unset] [(.int c1)])) _
  obtain ⟨v208, _, ⟨T208, L208, k208, n208⟩, -, X208, ⟨Lc208, hQ208, l208, y208, z208⟩, st208⟩ := Jvm.LawKit.callS X0 hx (y := (⟨"com/example/rolelattice/rolelattice/decision/CatalogIsExpressionPinLaw", "wild", "(C)Z"⟩ : MethodName)) hown (mvT hZ (hw _ (List.mem_of_getElem? (i := 32) rfl))) (mvT hZ (hw _ (List.mem_of_getElem? (i := 33) rfl))) (mvT hZ (hw _ (List.mem_of_getElem? (i := 34) rfl))) (mvT hZ (hw _ (List.mem_of_getElem? (i := 35) rfl))) (by decide) (backOf (W := 0) (rm_wild l Z a0 hw [] c1 h1 n0 O1 ) hZ (hw _ (List.mem_of_getElem? (i := 35) rfl)) (hw _ (List.mem_of_getElem? (i := 34) rfl)) (by decide) (by decide)) (g := (mkF m 146 #[.val (.int p1), .val (.int p2), .val (.int p3), .val (.int p4), .val (.int (4 : Int32)), .val (.int c1), .val (.int c2), .val (.int c3), .val (.int c4), .val (.int c5), .val (.int c6), .val (.ref ar), .val (.ref x), .unset] [(.int c1)])) rfl (by rw [hml]; rfl) (argsL := [(.int c1)]) (rest := []) (lenOf pd_19 rfl) rfl (by show 2 * 0 + _ ≤ _; exact Nat.le_of_eq rfl) (hb hby at_146) (fun _ _ => ⟨rfl, e0, (by decide : 4 + 0 ≤ _), (by decide : 26 + 0 ≤ _)⟩)
  dsimp only [Pt.U, Pt.locs, Pt.cells, Pt.slots] at X208 l208 y208 z208 st208 hQ208
  subst l208 y208 z208
  refine own_go st208 ?_
  obtain ⟨rfl, Nq208, e208⟩ := hQ208
  have N208 := Fr.app N0 Nq208
  show own_Go p e below (T208.setTop (mkF m 149 #[.val (.int p1), .val (.int p2), .val (.int p3), .val (.int p4), .val (.int (4 : Int32)), .val (.int c1), .val (.int c2), .val (.int c3), .val (.int c4), .val (.int c5), .val (.int c6), .val (.ref ar), .val (.ref x), .unset] [(.int (own_wild c1))])) _
  by_cases hc209 : (own_wild c1) = (0 : Int32)
  · skip
    refine own_go (fun _ k => XS.ifNo X208.here hx rfl (hb hby at_149) rfl ((if0 _ _).trans (teq hc209).2) k) ?_
    show own_Go p e below (T208.setTop (mkF m 152 #[.val (.int p1), .val (.int p2), .val (.int p3), .val (.int p4), .val (.int (4 : Int32)), .val (.int c1), .val (.int c2), .val (.int c3), .val (.int c4), .val (.int c5), .val (.int c6), .val (.ref ar), .val (.ref x), .unset] [])) _
    refine own_go (fun _ k => XS.iload X208.here hx rfl (hb hby at_152) rfl k) ?_
    show own_Go p e below (T208.setTop (mkF m 154 #[.val (.int p1), .val (.int p2), .val (.int p3), .val (.int p4), .val (.int (4 : Int32)), .val (.int c1), .val (.int c2), .val (.int c3), .val (.int c4), .val (.int c5), .val (.int c6), .val (.ref ar), .val (.ref x), .unset] [(.int (4 : Int32))])) _
    refine own_go (fun _ k => XS.iconst X208.here hx rfl (hb hby at_154) k) ?_
    show own_Go p e below (T208.setTop (mkF m 155 #[.val (.int p1), .val (.int p2), .val (.int p3), .val (.int p4), .val (.int (4 : Int32)), .val (.int c1), .val (.int c2), .val (.int c3), .val (.int c4), .val (.int c5), .val (.int c6), .val (.ref ar), .val (.ref x), .unset] [(.int (1 : Int32)), (.int (4 : Int32))])) _
    refine own_go (fun _ k => XS.icmpNo X208.here hx rfl (hb hby at_155) rfl (tlt (by decide : (1 : Int32) < (4 : Int32))).2.2.2 k) ?_
    show own_Go p e below (T208.setTop (mkF m 158 #[.val (.int p1), .val (.int p2), .val (.int p3), .val (.int p4), .val (.int (4 : Int32)), .val (.int c1), .val (.int c2), .val (.int c3), .val (.int c4), .val (.int c5), .val (.int c6), .val (.ref ar), .val (.ref x), .unset] [])) _
    refine own_go (fun _ k => XS.iload X208.here hx rfl (hb hby at_158) rfl k) ?_
    show own_Go p e below (T208.setTop (mkF m 160 #[.val (.int p1), .val (.int p2), .val (.int p3), .val (.int p4), .val (.int (4 : Int32)), .val (.int c1), .val (.int c2), .val (.int c3), .val (.int c4), .val (.int c5), .val (.int c6), .val (.ref ar), .val (.ref x), .unset] [(.int c2)])) _
    obtain ⟨v210, _, ⟨T210, L210, k210, n210⟩, -, X210, ⟨Lc210, hQ210, l210, y210, z210⟩, st210⟩ := Jvm.LawKit.callS X208 hx (y := (⟨"com/example/rolelattice/rolelattice/decision/CatalogIsExpressionPinLaw", "wild", "(C)Z"⟩ : MethodName)) hown (mvT hZ (hw _ (List.mem_of_getElem? (i := 32) rfl))) (mvT hZ (hw _ (List.mem_of_getElem? (i := 33) rfl))) (mvT hZ (hw _ (List.mem_of_getElem? (i := 34) rfl))) (mvT hZ (hw _ (List.mem_of_getElem? (i := 35) rfl))) (by decide) (backOf (W := 0) (rm_wild l Z a0 hw [] c2 h1 n0 O1 ) hZ (hw _ (List.mem_of_getElem? (i := 35) rfl)) (hw _ (List.mem_of_getElem? (i := 34) rfl)) (by decide) (by decide)) (g := (mkF m 160 #[.val (.int p1), .val (.int p2), .val (.int p3), .val (.int p4), .val (.int (4 : Int32)), .val (.int c1), .val (.int c2), .val (.int c3), .val (.int c4), .val (.int c5), .val (.int c6), .val (.ref ar), .val (.ref x), .unset] [(.int c2)])) rfl (by rw [hml]; rfl) (argsL := [(.int c2)]) (rest := []) (lenOf pd_19 rfl) rfl (by show 2 * 0 + _ ≤ _; exact Nat.le_of_eq rfl) (hb hby at_160) (fun _ _ => ⟨rfl, e208, (by decide : 4 + 0 ≤ _), (by decide : 26 + 0 ≤ _)⟩)
    dsimp only [Pt.U, Pt.locs, Pt.cells, Pt.slots] at X210 l210 y210 z210 st210 hQ210
    subst l210 y210 z210
    refine own_go st210 ?_
    obtain ⟨rfl, Nq210, e210⟩ := hQ210
    have N210 := Fr.app N208 Nq210
    show own_Go p e below (T210.setTop (mkF m 163 #[.val (.int p1), .val (.int p2), .val (.int p3), .val (.int p4), .val (.int (4 : Int32)), .val (.int c1), .val (.int c2), .val (.int c3), .val (.int c4), .val (.int c5), .val (.int c6), .val (.ref ar), .val (.ref x), .unset] [(.int (own_wild c2))])) _
    by_cases hc211 : (own_wild c2) = (0 : Int32)
    · skip
      refine own_go (fun _ k => XS.ifNo X210.here hx rfl (hb hby at_163) rfl ((if0 _ _).trans (teq hc211).2) k) ?_
      show own_Go p e below (T210.setTop (mkF m 166 #[.val (.int p1), .val (.int p2), .val (.int p3), .val (.int p4), .val (.int (4 : Int32)), .val (.int c1), .val (.int c2), .val (.int c3), .val (.int c4), .val (.int c5), .val (.int c6), .val (.ref ar), .val (.ref x), .unset] [])) _
      refine own_go (fun _ k => XS.iload X210.here hx rfl (hb hby at_166) rfl k) ?_
      show own_Go p e below (T210.setTop (mkF m 168 #[.val (.int p1), .val (.int p2), .val (.int p3), .val (.int p4), .val (.int (4 : Int32)), .val (.int c1), .val (.int c2), .val (.int c3), .val (.int c4), .val (.int c5), .val (.int c6), .val (.ref ar), .val (.ref x), .unset] [(.int (4 : Int32))])) _
      refine own_go (fun _ k => XS.iconst X210.here hx rfl (hb hby at_168) k) ?_
      show own_Go p e below (T210.setTop (mkF m 169 #[.val (.int p1), .val (.int p2), .val (.int p3), .val (.int p4), .val (.int (4 : Int32)), .val (.int c1), .val (.int c2), .val (.int c3), .val (.int c4), .val (.int c5), .val (.int c6), .val (.ref ar), .val (.ref x), .unset] [(.int (2 : Int32)), (.int (4 : Int32))])) _
      refine own_go (fun _ k => XS.icmpNo X210.here hx rfl (hb hby at_169) rfl (tlt (by decide : (2 : Int32) < (4 : Int32))).2.2.2 k) ?_
      show own_Go p e below (T210.setTop (mkF m 172 #[.val (.int p1), .val (.int p2), .val (.int p3), .val (.int p4), .val (.int (4 : Int32)), .val (.int c1), .val (.int c2), .val (.int c3), .val (.int c4), .val (.int c5), .val (.int c6), .val (.ref ar), .val (.ref x), .unset] [])) _
      refine own_go (fun _ k => XS.iload X210.here hx rfl (hb hby at_172) rfl k) ?_
      show own_Go p e below (T210.setTop (mkF m 174 #[.val (.int p1), .val (.int p2), .val (.int p3), .val (.int p4), .val (.int (4 : Int32)), .val (.int c1), .val (.int c2), .val (.int c3), .val (.int c4), .val (.int c5), .val (.int c6), .val (.ref ar), .val (.ref x), .unset] [(.int c3)])) _
      obtain ⟨v212, _, ⟨T212, L212, k212, n212⟩, -, X212, ⟨Lc212, hQ212, l212, y212, z212⟩, st212⟩ := Jvm.LawKit.callS X210 hx (y := (⟨"com/example/rolelattice/rolelattice/decision/CatalogIsExpressionPinLaw", "wild", "(C)Z"⟩ : MethodName)) hown (mvT hZ (hw _ (List.mem_of_getElem? (i := 32) rfl))) (mvT hZ (hw _ (List.mem_of_getElem? (i := 33) rfl))) (mvT hZ (hw _ (List.mem_of_getElem? (i := 34) rfl))) (mvT hZ (hw _ (List.mem_of_getElem? (i := 35) rfl))) (by decide) (backOf (W := 0) (rm_wild l Z a0 hw [] c3 h1 n0 O1 ) hZ (hw _ (List.mem_of_getElem? (i := 35) rfl)) (hw _ (List.mem_of_getElem? (i := 34) rfl)) (by decide) (by decide)) (g := (mkF m 174 #[.val (.int p1), .val (.int p2), .val (.int p3), .val (.int p4), .val (.int (4 : Int32)), .val (.int c1), .val (.int c2), .val (.int c3), .val (.int c4), .val (.int c5), .val (.int c6), .val (.ref ar), .val (.ref x), .unset] [(.int c3)])) rfl (by rw [hml]; rfl) (argsL := [(.int c3)]) (rest := []) (lenOf pd_19 rfl) rfl (by show 2 * 0 + _ ≤ _; exact Nat.le_of_eq rfl) (hb hby at_174) (fun _ _ => ⟨rfl, e210, (by decide : 4 + 0 ≤ _), (by decide : 26 + 0 ≤ _)⟩)
      dsimp only [Pt.U, Pt.locs, Pt.cells, Pt.slots] at X212 l212 y212 z212 st212 hQ212
      subst l212 y212 z212
      refine own_go st212 ?_
      obtain ⟨rfl, Nq212, e212⟩ := hQ212
      have N212 := Fr.app N210 Nq212
      show own_Go p e below (T212.setTop (mkF m 177 #[.val (.int p1), .val (.int p2), .val (.int p3), .val (.int p4), .val (.int (4 : Int32)), .val (.int c1), .val (.int c2), .val (.int c3), .val (.int c4), .val (.int c5), .val (.int c6), .val (.ref ar), .val (.ref x), .unset] [(.int (own_wild c3))])) _
      by_cases hc213 : (own_wild c3) = (0 : Int32)
      · skip
        refine own_go (fun _ k => XS.ifNo X212.here hx rfl (hb hby at_177) rfl ((if0 _ _).trans (teq hc213).2) k) ?_
        show own_Go p e below (T212.setTop (mkF m 180 #[.val (.int p1), .val (.int p2), .val (.int p3), .val (.int p4), .val (.int (4 : Int32)), .val (.int c1), .val (.int c2), .val (.int c3), .val (.int c4), .val (.int c5), .val (.int c6), .val (.ref ar), .val (.ref x), .unset] [])) _
        refine own_go (fun _ k => XS.iload X212.here hx rfl (hb hby at_180) rfl k) ?_
        show own_Go p e below (T212.setTop (mkF m 182 #[.val (.int p1), .val (.int p2), .val (.int p3), .val (.int p4), .val (.int (4 : Int32)), .val (.int c1), .val (.int c2), .val (.int c3), .val (.int c4), .val (.int c5), .val (.int c6), .val (.ref ar), .val (.ref x), .unset] [(.int (4 : Int32))])) _
        refine own_go (fun _ k => XS.iconst X212.here hx rfl (hb hby at_182) k) ?_
        show own_Go p e below (T212.setTop (mkF m 183 #[.val (.int p1), .val (.int p2), .val (.int p3), .val (.int p4), .val (.int (4 : Int32)), .val (.int c1), .val (.int c2), .val (.int c3), .val (.int c4), .val (.int c5), .val (.int c6), .val (.ref ar), .val (.ref x), .unset] [(.int (3 : Int32)), (.int (4 : Int32))])) _
        refine own_go (fun _ k => XS.icmpNo X212.here hx rfl (hb hby at_183) rfl (tlt (by decide : (3 : Int32) < (4 : Int32))).2.2.2 k) ?_
        show own_Go p e below (T212.setTop (mkF m 186 #[.val (.int p1), .val (.int p2), .val (.int p3), .val (.int p4), .val (.int (4 : Int32)), .val (.int c1), .val (.int c2), .val (.int c3), .val (.int c4), .val (.int c5), .val (.int c6), .val (.ref ar), .val (.ref x), .unset] [])) _
        refine own_go (fun _ k => XS.iload X212.here hx rfl (hb hby at_186) rfl k) ?_
        show own_Go p e below (T212.setTop (mkF m 188 #[.val (.int p1), .val (.int p2), .val (.int p3), .val (.int p4), .val (.int (4 : Int32)), .val (.int c1), .val (.int c2), .val (.int c3), .val (.int c4), .val (.int c5), .val (.int c6), .val (.ref ar), .val (.ref x), .unset] [(.int c4)])) _
        obtain ⟨v214, _, ⟨T214, L214, k214, n214⟩, -, X214, ⟨Lc214, hQ214, l214, y214, z214⟩, st214⟩ := Jvm.LawKit.callS X212 hx (y := (⟨"com/example/rolelattice/rolelattice/decision/CatalogIsExpressionPinLaw", "wild", "(C)Z"⟩ : MethodName)) hown (mvT hZ (hw _ (List.mem_of_getElem? (i := 32) rfl))) (mvT hZ (hw _ (List.mem_of_getElem? (i := 33) rfl))) (mvT hZ (hw _ (List.mem_of_getElem? (i := 34) rfl))) (mvT hZ (hw _ (List.mem_of_getElem? (i := 35) rfl))) (by decide) (backOf (W := 0) (rm_wild l Z a0 hw [] c4 h1 n0 O1 ) hZ (hw _ (List.mem_of_getElem? (i := 35) rfl)) (hw _ (List.mem_of_getElem? (i := 34) rfl)) (by decide) (by decide)) (g := (mkF m 188 #[.val (.int p1), .val (.int p2), .val (.int p3), .val (.int p4), .val (.int (4 : Int32)), .val (.int c1), .val (.int c2), .val (.int c3), .val (.int c4), .val (.int c5), .val (.int c6), .val (.ref ar), .val (.ref x), .unset] [(.int c4)])) rfl (by rw [hml]; rfl) (argsL := [(.int c4)]) (rest := []) (lenOf pd_19 rfl) rfl (by show 2 * 0 + _ ≤ _; exact Nat.le_of_eq rfl) (hb hby at_188) (fun _ _ => ⟨rfl, e212, (by decide : 4 + 0 ≤ _), (by decide : 26 + 0 ≤ _)⟩)
        dsimp only [Pt.U, Pt.locs, Pt.cells, Pt.slots] at X214 l214 y214 z214 st214 hQ214
        subst l214 y214 z214
        refine own_go st214 ?_
        obtain ⟨rfl, Nq214, e214⟩ := hQ214
        have N214 := Fr.app N212 Nq214
        show own_Go p e below (T214.setTop (mkF m 191 #[.val (.int p1), .val (.int p2), .val (.int p3), .val (.int p4), .val (.int (4 : Int32)), .val (.int c1), .val (.int c2), .val (.int c3), .val (.int c4), .val (.int c5), .val (.int c6), .val (.ref ar), .val (.ref x), .unset] [(.int (own_wild c4))])) _
        by_cases hc215 : (own_wild c4) = (0 : Int32)
        · skip
          refine own_go (fun _ k => XS.ifNo X214.here hx rfl (hb hby at_191) rfl ((if0 _ _).trans (teq hc215).2) k) ?_
          show own_Go p e below (T214.setTop (mkF m 194 #[.val (.int p1), .val (.int p2), .val (.int p3), .val (.int p4), .val (.int (4 : Int32)), .val (.int c1), .val (.int c2), .val (.int c3), .val (.int c4), .val (.int c5), .val (.int c6), .val (.ref ar), .val (.ref x), .unset] [])) _
          refine own_go (fun _ k => XS.iload X214.here hx rfl (hb hby at_194) rfl k) ?_
          show own_Go p e below (T214.setTop (mkF m 196 #[.val (.int p1), .val (.int p2), .val (.int p3), .val (.int p4), .val (.int (4 : Int32)), .val (.int c1), .val (.int c2), .val (.int c3), .val (.int c4), .val (.int c5), .val (.int c6), .val (.ref ar), .val (.ref x), .unset] [(.int (4 : Int32))])) _
          refine own_go (fun _ k => XS.iconst X214.here hx rfl (hb hby at_196) k) ?_
          show own_Go p e below (T214.setTop (mkF m 197 #[.val (.int p1), .val (.int p2), .val (.int p3), .val (.int p4), .val (.int (4 : Int32)), .val (.int c1), .val (.int c2), .val (.int c3), .val (.int c4), .val (.int c5), .val (.int c6), .val (.ref ar), .val (.ref x), .unset] [(.int (4 : Int32)), (.int (4 : Int32))])) _
          refine own_go (fun _ k => XS.icmpYes X214.here hx rfl (pc0 := 197) (pc' := 208) rfl (hb hby at_197) rfl (flt (by decide : ¬ ((4 : Int32) < (4 : Int32)))).2.2.2 (by decide) (by decide) k) ?_
          show own_Go p e below (T214.setTop (mkF m 208 #[.val (.int p1), .val (.int p2), .val (.int p3), .val (.int p4), .val (.int (4 : Int32)), .val (.int c1), .val (.int c2), .val (.int c3), .val (.int c4), .val (.int c5), .val (.int c6), .val (.ref ar), .val (.ref x), .unset] [])) _
          refine own_go (fun _ k => XS.iload X214.here hx rfl (hb hby at_208) rfl k) ?_
          show own_Go p e below (T214.setTop (mkF m 210 #[.val (.int p1), .val (.int p2), .val (.int p3), .val (.int p4), .val (.int (4 : Int32)), .val (.int c1), .val (.int c2), .val (.int c3), .val (.int c4), .val (.int c5), .val (.int c6), .val (.ref ar), .val (.ref x), .unset] [(.int (4 : Int32))])) _
          refine own_go (fun _ k => XS.iconst X214.here hx rfl (hb hby at_210) k) ?_
          show own_Go p e below (T214.setTop (mkF m 211 #[.val (.int p1), .val (.int p2), .val (.int p3), .val (.int p4), .val (.int (4 : Int32)), .val (.int c1), .val (.int c2), .val (.int c3), .val (.int c4), .val (.int c5), .val (.int c6), .val (.ref ar), .val (.ref x), .unset] [(.int (5 : Int32)), (.int (4 : Int32))])) _
          refine own_go (fun _ k => XS.icmpYes X214.here hx rfl (pc0 := 211) (pc' := 226) rfl (hb hby at_211) rfl (flt (by decide : ¬ ((5 : Int32) < (4 : Int32)))).2.2.2 (by decide) (by decide) k) ?_
          show own_Go p e below (T214.setTop (mkF m 226 #[.val (.int p1), .val (.int p2), .val (.int p3), .val (.int p4), .val (.int (4 : Int32)), .val (.int c1), .val (.int c2), .val (.int c3), .val (.int c4), .val (.int c5), .val (.int c6), .val (.ref ar), .val (.ref x), .unset] [])) _
          refine own_go (fun _ k => XS.iconst X214.here hx rfl (hb hby at_226) k) ?_
          show own_Go p e below (T214.setTop (mkF m 227 #[.val (.int p1), .val (.int p2), .val (.int p3), .val (.int p4), .val (.int (4 : Int32)), .val (.int c1), .val (.int c2), .val (.int c3), .val (.int c4), .val (.int c5), .val (.int c6), .val (.ref ar), .val (.ref x), .unset] [(.int (0 : Int32))])) _
          refine own_go (fun _ k => XS.istore X214.here hx rfl (hb hby at_227) rfl (l' := #[.val (.int p1), .val (.int p2), .val (.int p3), .val (.int p4), .val (.int (4 : Int32)), .val (.int c1), .val (.int c2), .val (.int c3), .val (.int c4), .val (.int c5), .val (.int c6), .val (.ref ar), .val (.ref x), .val (.int (0 : Int32))]) rfl k) ?_
          show own_Go p e below (T214.setTop (mkF m 229 #[.val (.int p1), .val (.int p2), .val (.int p3), .val (.int p4), .val (.int (4 : Int32)), .val (.int c1), .val (.int c2), .val (.int c3), .val (.int c4), .val (.int c5), .val (.int c6), .val (.ref ar), .val (.ref x), .val (.int (0 : Int32))] [])) _
          exact own_end4 l Z a0 hw p1 p2 p3 p4 (4 : Int32) c1 c2 c3 c4 c5 c6 ar (0 : Int32) x t kt ([c1, c2, c3, c4] : List Int32) cd N2 vs G1 G3 h0 n0 X214 hx hby hml hown hZ hrt hlk h1 e214 N214 (Nat.le_trans Z0 (Nat.le_refl _)) O1 hh hS0 hk0 C0 E_x Fv_x Fc_x V_t O2 P5 O4 rG3 OA OH OL hC hok (own_ise_n (fun c hc => by simp only [List.mem_cons, List.not_mem_nil, or_false] at hc; rcases hc with rfl | rfl | rfl | rfl <;> assumption))
        · skip
          refine own_go (fun _ k => XS.ifYes X214.here hx rfl (pc0 := 191) (pc' := 222) rfl (hb hby at_191) rfl ((if0 _ _).trans (feq hc215).2) (by decide) (by decide) k) ?_
          show own_Go p e below (T214.setTop (mkF m 222 #[.val (.int p1), .val (.int p2), .val (.int p3), .val (.int p4), .val (.int (4 : Int32)), .val (.int c1), .val (.int c2), .val (.int c3), .val (.int c4), .val (.int c5), .val (.int c6), .val (.ref ar), .val (.ref x), .unset] [])) _
          refine own_go (fun _ k => XS.iconst X214.here hx rfl (hb hby at_222) k) ?_
          show own_Go p e below (T214.setTop (mkF m 223 #[.val (.int p1), .val (.int p2), .val (.int p3), .val (.int p4), .val (.int (4 : Int32)), .val (.int c1), .val (.int c2), .val (.int c3), .val (.int c4), .val (.int c5), .val (.int c6), .val (.ref ar), .val (.ref x), .unset] [(.int (1 : Int32))])) _
          refine own_go (fun _ k => XS.goto X214.here hx rfl (pc0 := 223) (pc' := 227) rfl (hb hby at_223) (by decide) (by decide) k) ?_
          show own_Go p e below (T214.setTop (mkF m 227 #[.val (.int p1), .val (.int p2), .val (.int p3), .val (.int p4), .val (.int (4 : Int32)), .val (.int c1), .val (.int c2), .val (.int c3), .val (.int c4), .val (.int c5), .val (.int c6), .val (.ref ar), .val (.ref x), .unset] [(.int (1 : Int32))])) _
          refine own_go (fun _ k => XS.istore X214.here hx rfl (hb hby at_227) rfl (l' := #[.val (.int p1), .val (.int p2), .val (.int p3), .val (.int p4), .val (.int (4 : Int32)), .val (.int c1), .val (.int c2), .val (.int c3), .val (.int c4), .val (.int c5), .val (.int c6), .val (.ref ar), .val (.ref x), .val (.int (1 : Int32))]) rfl k) ?_
          show own_Go p e below (T214.setTop (mkF m 229 #[.val (.int p1), .val (.int p2), .val (.int p3), .val (.int p4), .val (.int (4 : Int32)), .val (.int c1), .val (.int c2), .val (.int c3), .val (.int c4), .val (.int c5), .val (.int c6), .val (.ref ar), .val (.ref x), .val (.int (1 : Int32))] [])) _
          exact own_end4 l Z a0 hw p1 p2 p3 p4 (4 : Int32) c1 c2 c3 c4 c5 c6 ar (1 : Int32) x t kt ([c1, c2, c3, c4] : List Int32) cd N2 vs G1 G3 h0 n0 X214 hx hby hml hown hZ hrt hlk h1 e214 N214 (Nat.le_trans Z0 (Nat.le_refl _)) O1 hh hS0 hk0 C0 E_x Fv_x Fc_x V_t O2 P5 O4 rG3 OA OH OL hC hok (own_ise_y (by simp) hc215)
      · skip
        refine own_go (fun _ k => XS.ifYes X212.here hx rfl (pc0 := 177) (pc' := 222) rfl (hb hby at_177) rfl ((if0 _ _).trans (feq hc213).2) (by decide) (by decide) k) ?_
        show own_Go p e below (T212.setTop (mkF m 222 #[.val (.int p1), .val (.int p2), .val (.int p3), .val (.int p4), .val (.int (4 : Int32)), .val (.int c1), .val (.int c2), .val (.int c3), .val (.int c4), .val (.int c5), .val (.int c6), .val (.ref ar), .val (.ref x), .unset] [])) _
        refine own_go (fun _ k => XS.iconst X212.here hx rfl (hb hby at_222) k) ?_
        show own_Go p e below (T212.setTop (mkF m 223 #[.val (.int p1), .val (.int p2), .val (.int p3), .val (.int p4), .val (.int (4 : Int32)), .val (.int c1), .val (.int c2), .val (.int c3), .val (.int c4), .val (.int c5), .val (.int c6), .val (.ref ar), .val (.ref x), .unset] [(.int (1 : Int32))])) _
        refine own_go (fun _ k => XS.goto X212.here hx rfl (pc0 := 223) (pc' := 227) rfl (hb hby at_223) (by decide) (by decide) k) ?_
        show own_Go p e below (T212.setTop (mkF m 227 #[.val (.int p1), .val (.int p2), .val (.int p3), .val (.int p4), .val (.int (4 : Int32)), .val (.int c1), .val (.int c2), .val (.int c3), .val (.int c4), .val (.int c5), .val (.int c6), .val (.ref ar), .val (.ref x), .unset] [(.int (1 : Int32))])) _
        refine own_go (fun _ k => XS.istore X212.here hx rfl (hb hby at_227) rfl (l' := #[.val (.int p1), .val (.int p2), .val (.int p3), .val (.int p4), .val (.int (4 : Int32)), .val (.int c1), .val (.int c2), .val (.int c3), .val (.int c4), .val (.int c5), .val (.int c6), .val (.ref ar), .val (.ref x), .val (.int (1 : Int32))]) rfl k) ?_
        show own_Go p e below (T212.setTop (mkF m 229 #[.val (.int p1), .val (.int p2), .val (.int p3), .val (.int p4), .val (.int (4 : Int32)), .val (.int c1), .val (.int c2), .val (.int c3), .val (.int c4), .val (.int c5), .val (.int c6), .val (.ref ar), .val (.ref x), .val (.int (1 : Int32))] [])) _
        exact own_end4 l Z a0 hw p1 p2 p3 p4 (4 : Int32) c1 c2 c3 c4 c5 c6 ar (1 : Int32) x t kt ([c1, c2, c3, c4] : List Int32) cd N2 vs G1 G3 h0 n0 X212 hx hby hml hown hZ hrt hlk h1 e212 N212 (Nat.le_trans Z0 (Nat.le_refl _)) O1 hh hS0 hk0 C0 E_x Fv_x Fc_x V_t O2 P5 O4 rG3 OA OH OL hC hok (own_ise_y (by simp) hc213)
    · skip
      refine own_go (fun _ k => XS.ifYes X210.here hx rfl (pc0 := 163) (pc' := 222) rfl (hb hby at_163) rfl ((if0 _ _).trans (feq hc211).2) (by decide) (by decide) k) ?_
      show own_Go p e below (T210.setTop (mkF m 222 #[.val (.int p1), .val (.int p2), .val (.int p3), .val (.int p4), .val (.int (4 : Int32)), .val (.int c1), .val (.int c2), .val (.int c3), .val (.int c4), .val (.int c5), .val (.int c6), .val (.ref ar), .val (.ref x), .unset] [])) _
      refine own_go (fun _ k => XS.iconst X210.here hx rfl (hb hby at_222) k) ?_
      show own_Go p e below (T210.setTop (mkF m 223 #[.val (.int p1), .val (.int p2), .val (.int p3), .val (.int p4), .val (.int (4 : Int32)), .val (.int c1), .val (.int c2), .val (.int c3), .val (.int c4), .val (.int c5), .val (.int c6), .val (.ref ar), .val (.ref x), .unset] [(.int (1 : Int32))])) _
      refine own_go (fun _ k => XS.goto X210.here hx rfl (pc0 := 223) (pc' := 227) rfl (hb hby at_223) (by decide) (by decide) k) ?_
      show own_Go p e below (T210.setTop (mkF m 227 #[.val (.int p1), .val (.int p2), .val (.int p3), .val (.int p4), .val (.int (4 : Int32)), .val (.int c1), .val (.int c2), .val (.int c3), .val (.int c4), .val (.int c5), .val (.int c6), .val (.ref ar), .val (.ref x), .unset] [(.int (1 : Int32))])) _
      refine own_go (fun _ k => XS.istore X210.here hx rfl (hb hby at_227) rfl (l' := #[.val (.int p1), .val (.int p2), .val (.int p3), .val (.int p4), .val (.int (4 : Int32)), .val (.int c1), .val (.int c2), .val (.int c3), .val (.int c4), .val (.int c5), .val (.int c6), .val (.ref ar), .val (.ref x), .val (.int (1 : Int32))]) rfl k) ?_
      show own_Go p e below (T210.setTop (mkF m 229 #[.val (.int p1), .val (.int p2), .val (.int p3), .val (.int p4), .val (.int (4 : Int32)), .val (.int c1), .val (.int c2), .val (.int c3), .val (.int c4), .val (.int c5), .val (.int c6), .val (.ref ar), .val (.ref x), .val (.int (1 : Int32))] [])) _
      exact own_end4 l Z a0 hw p1 p2 p3 p4 (4 : Int32) c1 c2 c3 c4 c5 c6 ar (1 : Int32) x t kt ([c1, c2, c3, c4] : List Int32) cd N2 vs G1 G3 h0 n0 X210 hx hby hml hown hZ hrt hlk h1 e210 N210 (Nat.le_trans Z0 (Nat.le_refl _)) O1 hh hS0 hk0 C0 E_x Fv_x Fc_x V_t O2 P5 O4 rG3 OA OH OL hC hok (own_ise_y (by simp) hc211)
  · skip
    refine own_go (fun _ k => XS.ifYes X208.here hx rfl (pc0 := 149) (pc' := 222) rfl (hb hby at_149) rfl ((if0 _ _).trans (feq hc209).2) (by decide) (by decide) k) ?_
    show own_Go p e below (T208.setTop (mkF m 222 #[.val (.int p1), .val (.int p2), .val (.int p3), .val (.int p4), .val (.int (4 : Int32)), .val (.int c1), .val (.int c2), .val (.int c3), .val (.int c4), .val (.int c5), .val (.int c6), .val (.ref ar), .val (.ref x), .unset] [])) _
    refine own_go (fun _ k => XS.iconst X208.here hx rfl (hb hby at_222) k) ?_
    show own_Go p e below (T208.setTop (mkF m 223 #[.val (.int p1), .val (.int p2), .val (.int p3), .val (.int p4), .val (.int (4 : Int32)), .val (.int c1), .val (.int c2), .val (.int c3), .val (.int c4), .val (.int c5), .val (.int c6), .val (.ref ar), .val (.ref x), .unset] [(.int (1 : Int32))])) _
    refine own_go (fun _ k => XS.goto X208.here hx rfl (pc0 := 223) (pc' := 227) rfl (hb hby at_223) (by decide) (by decide) k) ?_
    show own_Go p e below (T208.setTop (mkF m 227 #[.val (.int p1), .val (.int p2), .val (.int p3), .val (.int p4), .val (.int (4 : Int32)), .val (.int c1), .val (.int c2), .val (.int c3), .val (.int c4), .val (.int c5), .val (.int c6), .val (.ref ar), .val (.ref x), .unset] [(.int (1 : Int32))])) _
    refine own_go (fun _ k => XS.istore X208.here hx rfl (hb hby at_227) rfl (l' := #[.val (.int p1), .val (.int p2), .val (.int p3), .val (.int p4), .val (.int (4 : Int32)), .val (.int c1), .val (.int c2), .val (.int c3), .val (.int c4), .val (.int c5), .val (.int c6), .val (.ref ar), .val (.ref x), .val (.int (1 : Int32))]) rfl k) ?_
    show own_Go p e below (T208.setTop (mkF m 229 #[.val (.int p1), .val (.int p2), .val (.int p3), .val (.int p4), .val (.int (4 : Int32)), .val (.int c1), .val (.int c2), .val (.int c3), .val (.int c4), .val (.int c5), .val (.int c6), .val (.ref ar), .val (.ref x), .val (.int (1 : Int32))] [])) _
    exact own_end4 l Z a0 hw p1 p2 p3 p4 (4 : Int32) c1 c2 c3 c4 c5 c6 ar (1 : Int32) x t kt ([c1, c2, c3, c4] : List Int32) cd N2 vs G1 G3 h0 n0 X208 hx hby hml hown hZ hrt hlk h1 e208 N208 (Nat.le_trans Z0 (Nat.le_refl _)) O1 hh hS0 hk0 C0 E_x Fv_x Fc_x V_t O2 P5 O4 rG3 OA OH OL hC hok (own_ise_y (by simp) hc209)

set_option maxRecDepth 65536 in
set_option maxHeartbeats 40000000 in
theorem own_fst4 (l : Launch) (Z : State) (a0 : Array Value) (hw : ∀ d ∈ tables_1, d.before a0 Z = true) (p1 : Int32) (p2 : Int32) (p3 : Int32) (p4 : Int32) (c1 : Int32) (c2 : Int32) (c3 : Int32) (c4 : Int32) (c5 : Int32) (c6 : Int32) (G1 : Int32) (G3 : Value) (h0 : Heap) (n0 : Nat) {p : Program} {e : Env} {s : State} {vm0 : Vm} {m : MethodId} {below : List Frame} {meth : Method} {cC : Code} {T0 : State} {locs : List Loc} (X0 : Stand p l e room_1 (s.setVm vm0) m #[(.int p1), (.int p2), (.int p3), (.int p4)] below meth cC T0 locs 0 0) (hx : p.tables.exec = Jvm.exec) (hby : cC.code = code) (hml : cC.maxLocals = maxLocals) (hown : (s.setVm vm0).vm.findClass "com/example/rolelattice/rolelattice/decision/CatalogIsExpressionPinLaw" = some m.cls) (hZ : Z.Warmed39 (s.setVm vm0).vm) (hrt : meth.sig.returnType = ret) (hlk : meth.locks = false) (h1 : Heap) (e0 : T0.heap = h1) (N0 : Fr n0 locs) (Z0 : n0 ≤ h1.size) (O1 : Old Z n0 h1) (hh : s.heap = h0) {k0 : Nat} (hS0 : s.Since vm0 k0) (hk0 : k0 ≤ h1.size) (C0 : CHr Z own_EL s.vm h0 vm0 h1) (O2 : Sta Z Z.heap "java/lang/String" "COMPACT_STRINGS" "Z" (.int G1)) (P5 : ¬ (G1 = (0 : Int32))) (O4 : Sta Z Z.heap "jdk/internal/util/Preconditions" "SIOOBE_FORMATTER" "Ljava/util/function/BiFunction;" G3) (rG3 : G3.isRef = true) (OA : Sta Z Z.heap "java/lang/StringUTF16" "$assertionsDisabled" "Z" (.int (1 : Int32))) (OH : Sta Z Z.heap "java/lang/StringUTF16" "HI_BYTE_SHIFT" "I" (.int (0 : Int32))) (OL : Sta Z Z.heap "java/lang/StringUTF16" "LO_BYTE_SHIFT" "I" (.int (8 : Int32))) (b_c1 : ¬ c1 < 0 ∧ ¬ (65535 : Int32) < c1) (b_c2 : ¬ c2 < 0 ∧ ¬ (65535 : Int32) < c2) (b_c3 : ¬ c3 < 0 ∧ ¬ (65535 : Int32) < c3) (b_c4 : ¬ c4 < 0 ∧ ¬ (65535 : Int32) < c4) (b_c5 : ¬ c5 < 0 ∧ ¬ (65535 : Int32) < c5) (b_c6 : ¬ c6 < 0 ∧ ¬ (65535 : Int32) < c6) :
    own_Go p e below (T0.setTop (mkF m 51 #[.val (.int p1), .val (.int p2), .val (.int p3), .val (.int p4), .val (.int (4 : Int32)), .val (.int c1), .val (.int c2), .val (.int c3), .val (.int c4), .val (.int c5), .val (.int c6), .unset, .unset, .unset] [])) (fun oO U' => ∃ rV rL, oO = .returned rV ∧ QQ0 n0 rV U'.heap rL ∧ CHr Z own_EL s.vm s.heap U'.vm U'.heap ∧ ReturnedEndW s oO U' rL 24 1152) := by
  have own_wS := own_wSt hw
  have own_hEL := own_hELt hw
  show own_Go p e below (T0.setTop (mkF m 51 #[.val (.int p1), .val (.int p2), .val (.int p3), .val (.int p4), .val (.int (4 : Int32)), .val (.int c1), .val (.int c2), .val (.int c3), .val (.int c4), .val (.int c5), .val (.int c6), .unset, .unset, .unset] [])) _
  refine own_go (fun _ k => XS.iload X0.here hx rfl (hb hby at_51) rfl k) ?_
  show own_Go p e below (T0.setTop (mkF m 53 #[.val (.int p1), .val (.int p2), .val (.int p3), .val (.int p4), .val (.int (4 : Int32)), .val (.int c1), .val (.int c2), .val (.int c3), .val (.int c4), .val (.int c5), .val (.int c6), .unset, .unset, .unset] [(.int (4 : Int32))])) _
  obtain ⟨T216, h216, k216, X216, e216, E216, A216, st216⟩ := newP X0 hx hZ (hw _ (List.mem_of_getElem? (i := 2) rfl)) e0 (g := (mkF m 53 #[.val (.int p1), .val (.int p2), .val (.int p3), .val (.int p4), .val (.int (4 : Int32)), .val (.int c1), .val (.int c2), .val (.int c3), .val (.int c4), .val (.int c5), .val (.int c6), .unset, .unset, .unset] [(.int (4 : Int32))])) rfl (hb hby at_53) rfl (by decide) (cap := 4) (by decide) (by decide) (by decide) (by decide)
  obtain ⟨b216, g216⟩ : ∃ z, z = h1.size := ⟨_, rfl⟩
  rw [← g216] at A216 st216
  refine own_go st216 ?_
  have C217 := C0.trans (CHr.ext E216 C0.1)
  have V216 : Arv Z h216 b216 k216 .char (4 : Int32) [(.int (0 : Int32)), (.int (0 : Int32)), (.int (0 : Int32)), (.int (0 : Int32))] (.int (0 : Int32)) := (Arv.new A216 (by decide)).pad (pad_rep [] (.int (0 : Int32)) 4)
  show own_Go p e below (T216.setTop (mkF m 55 #[.val (.int p1), .val (.int p2), .val (.int p3), .val (.int p4), .val (.int (4 : Int32)), .val (.int c1), .val (.int c2), .val (.int c3), .val (.int c4), .val (.int c5), .val (.int c6), .unset, .unset, .unset] [(.ref b216)])) _
  refine own_go (fun _ k => XS.astore X216.here hx rfl (hb hby at_55) rfl rfl (l' := #[.val (.int p1), .val (.int p2), .val (.int p3), .val (.int p4), .val (.int (4 : Int32)), .val (.int c1), .val (.int c2), .val (.int c3), .val (.int c4), .val (.int c5), .val (.int c6), .val (.ref b216), .unset, .unset]) rfl k) ?_
  show own_Go p e below (T216.setTop (mkF m 57 #[.val (.int p1), .val (.int p2), .val (.int p3), .val (.int p4), .val (.int (4 : Int32)), .val (.int c1), .val (.int c2), .val (.int c3), .val (.int c4), .val (.int c5), .val (.int c6), .val (.ref b216), .unset, .unset] [])) _
  refine own_go (fun _ k => XS.iload X216.here hx rfl (hb hby at_57) rfl k) ?_
  show own_Go p e below (T216.setTop (mkF m 59 #[.val (.int p1), .val (.int p2), .val (.int p3), .val (.int p4), .val (.int (4 : Int32)), .val (.int c1), .val (.int c2), .val (.int c3), .val (.int c4), .val (.int c5), .val (.int c6), .val (.ref b216), .unset, .unset] [(.int (4 : Int32))])) _
  refine own_go (fun _ k => XS.ifNo X216.here hx rfl (hb hby at_59) rfl ((if0 _ _).trans (tlt (by decide : (0 : Int32) < (4 : Int32))).2.2.2) k) ?_
  show own_Go p e below (T216.setTop (mkF m 62 #[.val (.int p1), .val (.int p2), .val (.int p3), .val (.int p4), .val (.int (4 : Int32)), .val (.int c1), .val (.int c2), .val (.int c3), .val (.int c4), .val (.int c5), .val (.int c6), .val (.ref b216), .unset, .unset] [])) _
  refine own_go (fun _ k => XS.aload X216.here hx rfl (hb hby at_62) rfl rfl k) ?_
  show own_Go p e below (T216.setTop (mkF m 64 #[.val (.int p1), .val (.int p2), .val (.int p3), .val (.int p4), .val (.int (4 : Int32)), .val (.int c1), .val (.int c2), .val (.int c3), .val (.int c4), .val (.int c5), .val (.int c6), .val (.ref b216), .unset, .unset] [(.ref b216)])) _
  refine own_go (fun _ k => XS.iconst X216.here hx rfl (hb hby at_64) k) ?_
  show own_Go p e below (T216.setTop (mkF m 65 #[.val (.int p1), .val (.int p2), .val (.int p3), .val (.int p4), .val (.int (4 : Int32)), .val (.int c1), .val (.int c2), .val (.int c3), .val (.int c4), .val (.int c5), .val (.int c6), .val (.ref b216), .unset, .unset] [(.int (0 : Int32)), (.ref b216)])) _
  refine own_go (fun _ k => XS.iload X216.here hx rfl (hb hby at_65) rfl k) ?_
  show own_Go p e below (T216.setTop (mkF m 67 #[.val (.int p1), .val (.int p2), .val (.int p3), .val (.int p4), .val (.int (4 : Int32)), .val (.int c1), .val (.int c2), .val (.int c3), .val (.int c4), .val (.int c5), .val (.int c6), .val (.ref b216), .unset, .unset] [(.int c1), (.int (0 : Int32)), (.ref b216)])) _
  obtain ⟨c218, A218, q218, S218, M218, Hs218, Gs218⟩ := id V216
  obtain ⟨T219, h219, X219, e219, W219, st219⟩ := stC X216 hx hZ e216 A218 (j := (0 : Int32)) (inb_of S218 ⟨by decide, by decide⟩) (g := (mkF m 67 #[.val (.int p1), .val (.int p2), .val (.int p3), .val (.int p4), .val (.int (4 : Int32)), .val (.int c1), .val (.int c2), .val (.int c3), .val (.int c4), .val (.int c5), .val (.int c6), .val (.ref b216), .unset, .unset] [(.int c1), (.int (0 : Int32)), (.ref b216)])) rfl rfl (hb hby at_67)
  refine own_go st219 ?_
  have N219 := Fr.snoc X219 N0 (Nat.le_trans Z0 (Nat.le_of_eq g216.symm))
  have f220 := (Safe.ext E216 C0.1 (Safe.new (Nat.le_of_eq g216.symm)))
  have C221 := C217.trans (CHr.wr W219 f220 C217.1)
  have V219 : Arv Z h219 b216 k216 .char (4 : Int32) [(.int (nar .char c1)), (.int (0 : Int32)), (.int (0 : Int32)), (.int (0 : Int32))] (.int (0 : Int32)) := Arv.set A218 q218 S218 M218 Hs218 Gs218 (fits_nar_char _) W219 0 rfl (Nat.le_of_ble_eq_true rfl)
  have V219q : Arv Z h219 b216 k216 .char (4 : Int32) [(.int c1), (.int (0 : Int32)), (.int (0 : Int32)), (.int (0 : Int32))] (.int (0 : Int32)) := by rw [show nar .char c1 = c1 from (own_nc b_c1.1 b_c1.2)] at V219; exact V219
  show own_Go p e below (T219.setTop (mkF m 68 #[.val (.int p1), .val (.int p2), .val (.int p3), .val (.int p4), .val (.int (4 : Int32)), .val (.int c1), .val (.int c2), .val (.int c3), .val (.int c4), .val (.int c5), .val (.int c6), .val (.ref b216), .unset, .unset] [])) _
  refine own_go (fun _ k => XS.iload X219.here hx rfl (hb hby at_68) rfl k) ?_
  show own_Go p e below (T219.setTop (mkF m 70 #[.val (.int p1), .val (.int p2), .val (.int p3), .val (.int p4), .val (.int (4 : Int32)), .val (.int c1), .val (.int c2), .val (.int c3), .val (.int c4), .val (.int c5), .val (.int c6), .val (.ref b216), .unset, .unset] [(.int (4 : Int32))])) _
  refine own_go (fun _ k => XS.iconst X219.here hx rfl (hb hby at_70) k) ?_
  show own_Go p e below (T219.setTop (mkF m 71 #[.val (.int p1), .val (.int p2), .val (.int p3), .val (.int p4), .val (.int (4 : Int32)), .val (.int c1), .val (.int c2), .val (.int c3), .val (.int c4), .val (.int c5), .val (.int c6), .val (.ref b216), .unset, .unset] [(.int (1 : Int32)), (.int (4 : Int32))])) _
  refine own_go (fun _ k => XS.icmpNo X219.here hx rfl (hb hby at_71) rfl (tlt (by decide : (1 : Int32) < (4 : Int32))).2.2.2 k) ?_
  show own_Go p e below (T219.setTop (mkF m 74 #[.val (.int p1), .val (.int p2), .val (.int p3), .val (.int p4), .val (.int (4 : Int32)), .val (.int c1), .val (.int c2), .val (.int c3), .val (.int c4), .val (.int c5), .val (.int c6), .val (.ref b216), .unset, .unset] [])) _
  refine own_go (fun _ k => XS.aload X219.here hx rfl (hb hby at_74) rfl rfl k) ?_
  show own_Go p e below (T219.setTop (mkF m 76 #[.val (.int p1), .val (.int p2), .val (.int p3), .val (.int p4), .val (.int (4 : Int32)), .val (.int c1), .val (.int c2), .val (.int c3), .val (.int c4), .val (.int c5), .val (.int c6), .val (.ref b216), .unset, .unset] [(.ref b216)])) _
  refine own_go (fun _ k => XS.iconst X219.here hx rfl (hb hby at_76) k) ?_
  show own_Go p e below (T219.setTop (mkF m 77 #[.val (.int p1), .val (.int p2), .val (.int p3), .val (.int p4), .val (.int (4 : Int32)), .val (.int c1), .val (.int c2), .val (.int c3), .val (.int c4), .val (.int c5), .val (.int c6), .val (.ref b216), .unset, .unset] [(.int (1 : Int32)), (.ref b216)])) _
  refine own_go (fun _ k => XS.iload X219.here hx rfl (hb hby at_77) rfl k) ?_
  show own_Go p e below (T219.setTop (mkF m 79 #[.val (.int p1), .val (.int p2), .val (.int p3), .val (.int p4), .val (.int (4 : Int32)), .val (.int c1), .val (.int c2), .val (.int c3), .val (.int c4), .val (.int c5), .val (.int c6), .val (.ref b216), .unset, .unset] [(.int c2), (.int (1 : Int32)), (.ref b216)])) _
  obtain ⟨c222, A222, q222, S222, M222, Hs222, Gs222⟩ := id V219q
  obtain ⟨T223, h223, X223, e223, W223, st223⟩ := stC X219 hx hZ e219 A222 (j := (1 : Int32)) (inb_of S222 ⟨by decide, by decide⟩) (g := (mkF m 79 #[.val (.int p1), .val (.int p2), .val (.int p3), .val (.int p4), .val (.int (4 : Int32)), .val (.int c1), .val (.int c2), .val (.int c3), .val (.int c4), .val (.int c5), .val (.int c6), .val (.ref b216), .unset, .unset] [(.int c2), (.int (1 : Int32)), (.ref b216)])) rfl rfl (hb hby at_79)
  refine own_go st223 ?_
  have N223 := Fr.snoc X223 N219 (Nat.le_trans Z0 (Nat.le_of_eq g216.symm))
  have f224 := (Safe.wr W219 f220 C217.1 f220)
  have C225 := C221.trans (CHr.wr W223 f224 C221.1)
  have V223 : Arv Z h223 b216 k216 .char (4 : Int32) [(.int c1), (.int (nar .char c2)), (.int (0 : Int32)), (.int (0 : Int32))] (.int (0 : Int32)) := Arv.set A222 q222 S222 M222 Hs222 Gs222 (fits_nar_char _) W223 1 rfl (Nat.le_of_ble_eq_true rfl)
  have V223q : Arv Z h223 b216 k216 .char (4 : Int32) [(.int c1), (.int c2), (.int (0 : Int32)), (.int (0 : Int32))] (.int (0 : Int32)) := by rw [show nar .char c2 = c2 from (own_nc b_c2.1 b_c2.2)] at V223; exact V223
  show own_Go p e below (T223.setTop (mkF m 80 #[.val (.int p1), .val (.int p2), .val (.int p3), .val (.int p4), .val (.int (4 : Int32)), .val (.int c1), .val (.int c2), .val (.int c3), .val (.int c4), .val (.int c5), .val (.int c6), .val (.ref b216), .unset, .unset] [])) _
  refine own_go (fun _ k => XS.iload X223.here hx rfl (hb hby at_80) rfl k) ?_
  show own_Go p e below (T223.setTop (mkF m 82 #[.val (.int p1), .val (.int p2), .val (.int p3), .val (.int p4), .val (.int (4 : Int32)), .val (.int c1), .val (.int c2), .val (.int c3), .val (.int c4), .val (.int c5), .val (.int c6), .val (.ref b216), .unset, .unset] [(.int (4 : Int32))])) _
  refine own_go (fun _ k => XS.iconst X223.here hx rfl (hb hby at_82) k) ?_
  show own_Go p e below (T223.setTop (mkF m 83 #[.val (.int p1), .val (.int p2), .val (.int p3), .val (.int p4), .val (.int (4 : Int32)), .val (.int c1), .val (.int c2), .val (.int c3), .val (.int c4), .val (.int c5), .val (.int c6), .val (.ref b216), .unset, .unset] [(.int (2 : Int32)), (.int (4 : Int32))])) _
  refine own_go (fun _ k => XS.icmpNo X223.here hx rfl (hb hby at_83) rfl (tlt (by decide : (2 : Int32) < (4 : Int32))).2.2.2 k) ?_
  show own_Go p e below (T223.setTop (mkF m 86 #[.val (.int p1), .val (.int p2), .val (.int p3), .val (.int p4), .val (.int (4 : Int32)), .val (.int c1), .val (.int c2), .val (.int c3), .val (.int c4), .val (.int c5), .val (.int c6), .val (.ref b216), .unset, .unset] [])) _
  refine own_go (fun _ k => XS.aload X223.here hx rfl (hb hby at_86) rfl rfl k) ?_
  show own_Go p e below (T223.setTop (mkF m 88 #[.val (.int p1), .val (.int p2), .val (.int p3), .val (.int p4), .val (.int (4 : Int32)), .val (.int c1), .val (.int c2), .val (.int c3), .val (.int c4), .val (.int c5), .val (.int c6), .val (.ref b216), .unset, .unset] [(.ref b216)])) _
  refine own_go (fun _ k => XS.iconst X223.here hx rfl (hb hby at_88) k) ?_
  show own_Go p e below (T223.setTop (mkF m 89 #[.val (.int p1), .val (.int p2), .val (.int p3), .val (.int p4), .val (.int (4 : Int32)), .val (.int c1), .val (.int c2), .val (.int c3), .val (.int c4), .val (.int c5), .val (.int c6), .val (.ref b216), .unset, .unset] [(.int (2 : Int32)), (.ref b216)])) _
  refine own_go (fun _ k => XS.iload X223.here hx rfl (hb hby at_89) rfl k) ?_
  show own_Go p e below (T223.setTop (mkF m 91 #[.val (.int p1), .val (.int p2), .val (.int p3), .val (.int p4), .val (.int (4 : Int32)), .val (.int c1), .val (.int c2), .val (.int c3), .val (.int c4), .val (.int c5), .val (.int c6), .val (.ref b216), .unset, .unset] [(.int c3), (.int (2 : Int32)), (.ref b216)])) _
  obtain ⟨c226, A226, q226, S226, M226, Hs226, Gs226⟩ := id V223q
  obtain ⟨T227, h227, X227, e227, W227, st227⟩ := stC X223 hx hZ e223 A226 (j := (2 : Int32)) (inb_of S226 ⟨by decide, by decide⟩) (g := (mkF m 91 #[.val (.int p1), .val (.int p2), .val (.int p3), .val (.int p4), .val (.int (4 : Int32)), .val (.int c1), .val (.int c2), .val (.int c3), .val (.int c4), .val (.int c5), .val (.int c6), .val (.ref b216), .unset, .unset] [(.int c3), (.int (2 : Int32)), (.ref b216)])) rfl rfl (hb hby at_91)
  refine own_go st227 ?_
  have N227 := Fr.snoc X227 N223 (Nat.le_trans Z0 (Nat.le_of_eq g216.symm))
  have f228 := (Safe.wr W223 f224 C221.1 f224)
  have C229 := C225.trans (CHr.wr W227 f228 C225.1)
  have V227 : Arv Z h227 b216 k216 .char (4 : Int32) [(.int c1), (.int c2), (.int (nar .char c3)), (.int (0 : Int32))] (.int (0 : Int32)) := Arv.set A226 q226 S226 M226 Hs226 Gs226 (fits_nar_char _) W227 2 rfl (Nat.le_of_ble_eq_true rfl)
  have V227q : Arv Z h227 b216 k216 .char (4 : Int32) [(.int c1), (.int c2), (.int c3), (.int (0 : Int32))] (.int (0 : Int32)) := by rw [show nar .char c3 = c3 from (own_nc b_c3.1 b_c3.2)] at V227; exact V227
  show own_Go p e below (T227.setTop (mkF m 92 #[.val (.int p1), .val (.int p2), .val (.int p3), .val (.int p4), .val (.int (4 : Int32)), .val (.int c1), .val (.int c2), .val (.int c3), .val (.int c4), .val (.int c5), .val (.int c6), .val (.ref b216), .unset, .unset] [])) _
  refine own_go (fun _ k => XS.iload X227.here hx rfl (hb hby at_92) rfl k) ?_
  show own_Go p e below (T227.setTop (mkF m 94 #[.val (.int p1), .val (.int p2), .val (.int p3), .val (.int p4), .val (.int (4 : Int32)), .val (.int c1), .val (.int c2), .val (.int c3), .val (.int c4), .val (.int c5), .val (.int c6), .val (.ref b216), .unset, .unset] [(.int (4 : Int32))])) _
  refine own_go (fun _ k => XS.iconst X227.here hx rfl (hb hby at_94) k) ?_
  show own_Go p e below (T227.setTop (mkF m 95 #[.val (.int p1), .val (.int p2), .val (.int p3), .val (.int p4), .val (.int (4 : Int32)), .val (.int c1), .val (.int c2), .val (.int c3), .val (.int c4), .val (.int c5), .val (.int c6), .val (.ref b216), .unset, .unset] [(.int (3 : Int32)), (.int (4 : Int32))])) _
  refine own_go (fun _ k => XS.icmpNo X227.here hx rfl (hb hby at_95) rfl (tlt (by decide : (3 : Int32) < (4 : Int32))).2.2.2 k) ?_
  show own_Go p e below (T227.setTop (mkF m 98 #[.val (.int p1), .val (.int p2), .val (.int p3), .val (.int p4), .val (.int (4 : Int32)), .val (.int c1), .val (.int c2), .val (.int c3), .val (.int c4), .val (.int c5), .val (.int c6), .val (.ref b216), .unset, .unset] [])) _
  refine own_go (fun _ k => XS.aload X227.here hx rfl (hb hby at_98) rfl rfl k) ?_
  show own_Go p e below (T227.setTop (mkF m 100 #[.val (.int p1), .val (.int p2), .val (.int p3), .val (.int p4), .val (.int (4 : Int32)), .val (.int c1), .val (.int c2), .val (.int c3), .val (.int c4), .val (.int c5), .val (.int c6), .val (.ref b216), .unset, .unset] [(.ref b216)])) _
  refine own_go (fun _ k => XS.iconst X227.here hx rfl (hb hby at_100) k) ?_
  show own_Go p e below (T227.setTop (mkF m 101 #[.val (.int p1), .val (.int p2), .val (.int p3), .val (.int p4), .val (.int (4 : Int32)), .val (.int c1), .val (.int c2), .val (.int c3), .val (.int c4), .val (.int c5), .val (.int c6), .val (.ref b216), .unset, .unset] [(.int (3 : Int32)), (.ref b216)])) _
  refine own_go (fun _ k => XS.iload X227.here hx rfl (hb hby at_101) rfl k) ?_
  show own_Go p e below (T227.setTop (mkF m 103 #[.val (.int p1), .val (.int p2), .val (.int p3), .val (.int p4), .val (.int (4 : Int32)), .val (.int c1), .val (.int c2), .val (.int c3), .val (.int c4), .val (.int c5), .val (.int c6), .val (.ref b216), .unset, .unset] [(.int c4), (.int (3 : Int32)), (.ref b216)])) _
  obtain ⟨c230, A230, q230, S230, M230, Hs230, Gs230⟩ := id V227q
  obtain ⟨T231, h231, X231, e231, W231, st231⟩ := stC X227 hx hZ e227 A230 (j := (3 : Int32)) (inb_of S230 ⟨by decide, by decide⟩) (g := (mkF m 103 #[.val (.int p1), .val (.int p2), .val (.int p3), .val (.int p4), .val (.int (4 : Int32)), .val (.int c1), .val (.int c2), .val (.int c3), .val (.int c4), .val (.int c5), .val (.int c6), .val (.ref b216), .unset, .unset] [(.int c4), (.int (3 : Int32)), (.ref b216)])) rfl rfl (hb hby at_103)
  refine own_go st231 ?_
  have N231 := Fr.snoc X231 N227 (Nat.le_trans Z0 (Nat.le_of_eq g216.symm))
  have f232 := (Safe.wr W227 f228 C225.1 f228)
  have C233 := C229.trans (CHr.wr W231 f232 C229.1)
  have V231 : Arv Z h231 b216 k216 .char (4 : Int32) [(.int c1), (.int c2), (.int c3), (.int (nar .char c4))] (.int (0 : Int32)) := Arv.set A230 q230 S230 M230 Hs230 Gs230 (fits_nar_char _) W231 3 rfl (Nat.le_of_ble_eq_true rfl)
  have V231q : Arv Z h231 b216 k216 .char (4 : Int32) [(.int c1), (.int c2), (.int c3), (.int c4)] (.int (0 : Int32)) := by rw [show nar .char c4 = c4 from (own_nc b_c4.1 b_c4.2)] at V231; exact V231
  show own_Go p e below (T231.setTop (mkF m 104 #[.val (.int p1), .val (.int p2), .val (.int p3), .val (.int p4), .val (.int (4 : Int32)), .val (.int c1), .val (.int c2), .val (.int c3), .val (.int c4), .val (.int c5), .val (.int c6), .val (.ref b216), .unset, .unset] [])) _
  refine own_go (fun _ k => XS.iload X231.here hx rfl (hb hby at_104) rfl k) ?_
  show own_Go p e below (T231.setTop (mkF m 106 #[.val (.int p1), .val (.int p2), .val (.int p3), .val (.int p4), .val (.int (4 : Int32)), .val (.int c1), .val (.int c2), .val (.int c3), .val (.int c4), .val (.int c5), .val (.int c6), .val (.ref b216), .unset, .unset] [(.int (4 : Int32))])) _
  refine own_go (fun _ k => XS.iconst X231.here hx rfl (hb hby at_106) k) ?_
  show own_Go p e below (T231.setTop (mkF m 107 #[.val (.int p1), .val (.int p2), .val (.int p3), .val (.int p4), .val (.int (4 : Int32)), .val (.int c1), .val (.int c2), .val (.int c3), .val (.int c4), .val (.int c5), .val (.int c6), .val (.ref b216), .unset, .unset] [(.int (4 : Int32)), (.int (4 : Int32))])) _
  refine own_go (fun _ k => XS.icmpYes X231.here hx rfl (pc0 := 107) (pc' := 116) rfl (hb hby at_107) rfl (flt (by decide : ¬ ((4 : Int32) < (4 : Int32)))).2.2.2 (by decide) (by decide) k) ?_
  show own_Go p e below (T231.setTop (mkF m 116 #[.val (.int p1), .val (.int p2), .val (.int p3), .val (.int p4), .val (.int (4 : Int32)), .val (.int c1), .val (.int c2), .val (.int c3), .val (.int c4), .val (.int c5), .val (.int c6), .val (.ref b216), .unset, .unset] [])) _
  refine own_go (fun _ k => XS.iload X231.here hx rfl (hb hby at_116) rfl k) ?_
  show own_Go p e below (T231.setTop (mkF m 118 #[.val (.int p1), .val (.int p2), .val (.int p3), .val (.int p4), .val (.int (4 : Int32)), .val (.int c1), .val (.int c2), .val (.int c3), .val (.int c4), .val (.int c5), .val (.int c6), .val (.ref b216), .unset, .unset] [(.int (4 : Int32))])) _
  refine own_go (fun _ k => XS.iconst X231.here hx rfl (hb hby at_118) k) ?_
  show own_Go p e below (T231.setTop (mkF m 119 #[.val (.int p1), .val (.int p2), .val (.int p3), .val (.int p4), .val (.int (4 : Int32)), .val (.int c1), .val (.int c2), .val (.int c3), .val (.int c4), .val (.int c5), .val (.int c6), .val (.ref b216), .unset, .unset] [(.int (5 : Int32)), (.int (4 : Int32))])) _
  refine own_go (fun _ k => XS.icmpYes X231.here hx rfl (pc0 := 119) (pc' := 128) rfl (hb hby at_119) rfl (flt (by decide : ¬ ((5 : Int32) < (4 : Int32)))).2.2.2 (by decide) (by decide) k) ?_
  show own_Go p e below (T231.setTop (mkF m 128 #[.val (.int p1), .val (.int p2), .val (.int p3), .val (.int p4), .val (.int (4 : Int32)), .val (.int c1), .val (.int c2), .val (.int c3), .val (.int c4), .val (.int c5), .val (.int c6), .val (.ref b216), .unset, .unset] [])) _
  obtain ⟨T234, h234, X234, e234, E234, A234, D234, U234, st234⟩ := newO X231 hx hZ hown (hw _ (List.mem_of_getElem? (i := 3) rfl)) (hw _ (List.mem_of_getElem? (i := 4) rfl)) (hw _ (List.mem_of_getElem? (i := 5) rfl)) e231 (g := (mkF m 128 #[.val (.int p1), .val (.int p2), .val (.int p3), .val (.int p4), .val (.int (4 : Int32)), .val (.int c1), .val (.int c2), .val (.int c3), .val (.int c4), .val (.int c5), .val (.int c6), .val (.ref b216), .unset, .unset] [])) rfl (hb hby at_128) (by decide) (by decide)
  obtain ⟨b234, g234⟩ : ∃ z, z = h231.size := ⟨_, rfl⟩
  rw [← g234] at A234 D234 U234 st234
  refine own_go st234 ?_
  have C235 := C233.trans (CHr.ext E234 C233.1)
  have F234_coder : Fld Z h234 b234 "java/lang/String" "coder" "B" (.int (0 : Int32)) := D234 (Or.inr (hw _ (List.mem_of_getElem? (i := 29) rfl))) (ty := .byte) (by decide)
  have F234_value : Fld Z h234 b234 "java/lang/String" "value" "[B" .null := D234 (Or.inr (hw _ (List.mem_of_getElem? (i := 31) rfl))) (ty := (.array .byte)) (by decide)
  show own_Go p e below (T234.setTop (mkF m 131 #[.val (.int p1), .val (.int p2), .val (.int p3), .val (.int p4), .val (.int (4 : Int32)), .val (.int c1), .val (.int c2), .val (.int c3), .val (.int c4), .val (.int c5), .val (.int c6), .val (.ref b216), .unset, .unset] [(.ref b234)])) _
  refine own_go (fun _ k => XS.dup X234.here hx rfl (hb hby at_131) rfl rfl k) ?_
  show own_Go p e below (T234.setTop (mkF m 132 #[.val (.int p1), .val (.int p2), .val (.int p3), .val (.int p4), .val (.int (4 : Int32)), .val (.int c1), .val (.int c2), .val (.int c3), .val (.int c4), .val (.int c5), .val (.int c6), .val (.ref b216), .unset, .unset] [(.ref b234), (.ref b234)])) _
  refine own_go (fun _ k => XS.aload X234.here hx rfl (hb hby at_132) rfl rfl k) ?_
  show own_Go p e below (T234.setTop (mkF m 134 #[.val (.int p1), .val (.int p2), .val (.int p3), .val (.int p4), .val (.int (4 : Int32)), .val (.int c1), .val (.int c2), .val (.int c3), .val (.int c4), .val (.int c5), .val (.int c6), .val (.ref b216), .unset, .unset] [(.ref b216), (.ref b234), (.ref b234)])) _
  have z236 := (Nat.le_trans (Nat.le_trans (Nat.le_trans (Nat.le_trans E216.1 (Keep.of_wr W219).1) (Keep.of_wr W223).1) (Keep.of_wr W227).1) (Keep.of_wr W231).1)
  have f237 := ((((((O1.ext E216).wr W219 (Nat.le_trans Z0 (Nat.le_of_eq g216.symm))).wr W223 (Nat.le_trans Z0 (Nat.le_of_eq g216.symm))).wr W227 (Nat.le_trans Z0 (Nat.le_of_eq g216.symm))).wr W231 (Nat.le_trans Z0 (Nat.le_of_eq g216.symm))).ext E234)
  obtain ⟨v238, _, ⟨T238, L238, k238, n238⟩, -, X238, ⟨Lc238, hQ238, l238, y238, z238⟩, st238⟩ := X234.specialBack hx (y := (⟨"java/lang/String", "<init>", "([C)V"⟩ : MethodName)) rfl hown (mvT hZ (hw _ (List.mem_of_getElem? (i := 6) rfl))) (mvT hZ (hw _ (List.mem_of_getElem? (i := 7) rfl))) (mvT hZ (hw _ (List.mem_of_getElem? (i := 8) rfl))) (by decide) (backOf (W := 1) (rm_i1 l Z a0 hw [] b234 b216 k216 (.int (0 : Int32)) [c1, c2, c3, c4] G1 h234 n0 f237 A234 F234_value F234_coder (Nat.le_trans Z0 (Nat.le_trans z236 (Nat.le_of_eq g234.symm))) OA OH OL O2 P5 (own_okL4 b_c1 b_c2 b_c3 b_c4) (V231q.ext E234) (Nat.le_of_ble_eq_true rfl) (Nat.le_of_ble_eq_true rfl)) hZ (hw _ (List.mem_of_getElem? (i := 8) rfl)) (hw _ (List.mem_of_getElem? (i := 5) rfl)) (by decide) (by decide)) (g := (mkF m 134 #[.val (.int p1), .val (.int p2), .val (.int p3), .val (.int p4), .val (.int (4 : Int32)), .val (.int c1), .val (.int c2), .val (.int c3), .val (.int c4), .val (.int c5), .val (.int c6), .val (.ref b216), .unset, .unset] [(.ref b216), (.ref b234), (.ref b234)])) rfl (by rw [hml]; rfl) (Steps.refl _) (a := b234) (argsL := [(.ref b216)]) (rest := [(.ref b234)]) (lenOf pd_18 rfl) rfl (by show 2 * 0 + _ ≤ _; exact Nat.le_of_eq rfl) (hb hby at_134) (fun _ _ => ⟨rfl, e234, (by decide : 2 + 2 ≤ _), (by decide : 8 + 18 ≤ _)⟩)
  dsimp only [Pt.U, Pt.locs, Pt.cells, Pt.slots] at X238 l238 y238 z238 st238 hQ238
  subst l238 y238 z238
  refine own_gos st238 ?_
  obtain ⟨t238, kt238, cd238, N2238, vs238, rfl, Nq238, K238, Fv238, Fc238, Vt238, hC238⟩ := hQ238
  have f239 := (Safe.ext E234 C233.1 (Safe.new (Nat.le_of_eq g234.symm)))
  have C240 := C235.trans (CHr.keep K238 (sfS f239 sf0) C235.1)
  have N238 := Fr.app N231 Nq238
  show own_Go p e below (T238.setTop (mkF m 137 #[.val (.int p1), .val (.int p2), .val (.int p3), .val (.int p4), .val (.int (4 : Int32)), .val (.int c1), .val (.int c2), .val (.int c3), .val (.int c4), .val (.int c5), .val (.int c6), .val (.ref b216), .unset, .unset] [(.ref b234)])) _
  refine own_go (fun _ k => XS.astore X238.here hx rfl (hb hby at_137) rfl rfl (l' := #[.val (.int p1), .val (.int p2), .val (.int p3), .val (.int p4), .val (.int (4 : Int32)), .val (.int c1), .val (.int c2), .val (.int c3), .val (.int c4), .val (.int c5), .val (.int c6), .val (.ref b216), .val (.ref b234), .unset]) rfl k) ?_
  show own_Go p e below (T238.setTop (mkF m 139 #[.val (.int p1), .val (.int p2), .val (.int p3), .val (.int p4), .val (.int (4 : Int32)), .val (.int c1), .val (.int c2), .val (.int c3), .val (.int c4), .val (.int c5), .val (.int c6), .val (.ref b216), .val (.ref b234), .unset] [])) _
  have z241 := (Nat.le_trans (Nat.le_trans z236 E234.1) K238.1)
  have f242 := (f237.keep K238 (allS (Nat.le_trans Z0 (Nat.le_trans z236 (Nat.le_of_eq g234.symm))) all0))
  exact own_mid4 l Z a0 hw p1 p2 p3 p4 c1 c2 c3 c4 c5 c6 b216 b234 t238 kt238 cd238 N2238 vs238 G1 G3 h0 n0 X238 hx hby hml hown hZ hrt hlk T238.heap (rfl : T238.heap = T238.heap) N238 (Nat.le_trans Z0 z241) f242 hh hS0 (Nat.le_trans hk0 z241) C240 (A234.keep K238) Fv238 Fc238 Vt238 O2 P5 O4 rG3 OA OH OL hC238 (own_okL4 b_c1 b_c2 b_c3 b_c4)

set_option maxRecDepth 65536 in
set_option maxHeartbeats 40000000 in
theorem own_end5 (l : Launch) (Z : State) (a0 : Array Value) (hw : ∀ d ∈ tables_1, d.before a0 Z = true) (p1 : Int32) (p2 : Int32) (p3 : Int32) (p4 : Int32) (nv : Int32) (c1 : Int32) (c2 : Int32) (c3 : Int32) (c4 : Int32) (c5 : Int32) (c6 : Int32) (ar : Addr) (ee : Int32) (x : Addr) (t : Addr) (kt : ClassId) (cs : List Int32) (cd : Int32) (N2 : Int32) (vs : List Value) (G1 : Int32) (G3 : Value) (h0 : Heap) (n0 : Nat) {p : Program} {e : Env} {s : State} {vm0 : Vm} {m : MethodId} {below : List Frame} {meth : Method} {cC : Code} {T0 : State} {locs : List Loc} (X0 : Stand p l e room_1 (s.setVm vm0) m #[(.int p1), (.int p2), (.int p3), (.int p4)] below meth cC T0 locs 4 27) (hx : p.tables.exec = Jvm.exec) (hby : cC.code = code) (hml : cC.maxLocals = maxLocals) (hown : (s.setVm vm0).vm.findClass "com/example/rolelattice/rolelattice/decision/CatalogIsExpressionPinLaw" = some m.cls) (hZ : Z.Warmed39 (s.setVm vm0).vm) (hrt : meth.sig.returnType = ret) (hlk : meth.locks = false) (h1 : Heap) (e0 : T0.heap = h1) (N0 : Fr n0 locs) (Z0 : n0 ≤ h1.size) (O1 : Old Z n0 h1) (hh : s.heap = h0) {k0 : Nat} (hS0 : s.Since vm0 k0) (hk0 : k0 ≤ h1.size) (C0 : CHr Z own_EL s.vm h0 vm0 h1) (E_x : Exa Z h1 x "java/lang/String") (Fv_x : Fld Z h1 x "java/lang/String" "value" "[B" (.ref t)) (Fc_x : Fld Z h1 x "java/lang/String" "coder" "B" (.int cd)) (V_t : Arv Z h1 t kt .byte N2 vs (.int (0 : Int32))) (O2 : Sta Z Z.heap "java/lang/String" "COMPACT_STRINGS" "Z" (.int G1)) (P5 : ¬ (G1 = (0 : Int32))) (O4 : Sta Z Z.heap "jdk/internal/util/Preconditions" "SIOOBE_FORMATTER" "Ljava/util/function/BiFunction;" G3) (rG3 : G3.isRef = true) (OA : Sta Z Z.heap "java/lang/StringUTF16" "$assertionsDisabled" "Z" (.int (1 : Int32))) (OH : Sta Z Z.heap "java/lang/StringUTF16" "HI_BYTE_SHIFT" "I" (.int (0 : Int32))) (OL : Sta Z Z.heap "java/lang/StringUTF16" "LO_BYTE_SHIFT" "I" (.int (8 : Int32))) (hC : StrChars.Road.CodA cs cd N2 vs) (hok : own_Ok cs) (hee : (own_ise cs) = ee) :
    own_Go p e below (T0.setTop (mkF m 229 #[.val (.int p1), .val (.int p2), .val (.int p3), .val (.int p4), .val (.int nv), .val (.int c1), .val (.int c2), .val (.int c3), .val (.int c4), .val (.int c5), .val (.int c6), .val (.ref ar), .val (.ref x), .val (.int ee)] [])) (fun oO U' => ∃ rV rL, oO = .returned rV ∧ QQ0 n0 rV U'.heap rL ∧ CHr Z own_EL s.vm s.heap U'.vm U'.heap ∧ ReturnedEndW s oO U' rL 24 1152) := by
  have own_wS := own_wSt hw
  have own_hEL := own_hELt hw
  show own_Go p e below (T0.setTop (mkF m 229 #[.val (.int p1), .val (.int p2), .val (.int p3), .val (.int p4), .val (.int nv), .val (.int c1), .val (.int c2), .val (.int c3), .val (.int c4), .val (.int c5), .val (.int c6), .val (.ref ar), .val (.ref x), .val (.int ee)] [])) _
  refine own_go (fun _ k => XS.aload X0.here hx rfl (hb hby at_229) rfl rfl k) ?_
  show own_Go p e below (T0.setTop (mkF m 231 #[.val (.int p1), .val (.int p2), .val (.int p3), .val (.int p4), .val (.int nv), .val (.int c1), .val (.int c2), .val (.int c3), .val (.int c4), .val (.int c5), .val (.int c6), .val (.ref ar), .val (.ref x), .val (.int ee)] [(.ref x)])) _
  obtain ⟨v243, _, ⟨T243, L243, k243, n243⟩, -, X243, ⟨Lc243, hQ243, l243, y243, z243⟩, st243⟩ := Jvm.LawKit.callS X0 hx (y := (⟨"com/example/rolelattice/rolelattice/decision/Catalog", "isExpression", "(Ljava/lang/String;)Z"⟩ : MethodName)) hown (mvT hZ (hw _ (List.mem_of_getElem? (i := 36) rfl))) (mvT hZ (hw _ (List.mem_of_getElem? (i := 37) rfl))) (mvT hZ (hw _ (List.mem_of_getElem? (i := 38) rfl))) (mvT hZ (hw _ (List.mem_of_getElem? (i := 39) rfl))) (by decide) (backOf (W := 0) (rm_ise l Z a0 hw [] x t kt cs cd N2 vs G1 G3 h1 n0 O1 O2 P5 O4 rG3 OA OH OL E_x Fv_x Fc_x V_t hC hok) hZ (hw _ (List.mem_of_getElem? (i := 39) rfl)) (hw _ (List.mem_of_getElem? (i := 38) rfl)) (by decide) (by decide)) (g := (mkF m 231 #[.val (.int p1), .val (.int p2), .val (.int p3), .val (.int p4), .val (.int nv), .val (.int c1), .val (.int c2), .val (.int c3), .val (.int c4), .val (.int c5), .val (.int c6), .val (.ref ar), .val (.ref x), .val (.int ee)] [(.ref x)])) rfl (by rw [hml]; rfl) (argsL := [(.ref x)]) (rest := []) (lenOf pd_17 rfl) rfl (by show 2 * 0 + _ ≤ _; exact Nat.le_of_eq rfl) (hb hby at_231) (fun _ _ => ⟨rfl, e0, (by decide : 4 + 0 ≤ _), (by decide : 27 + 0 ≤ _)⟩)
  dsimp only [Pt.U, Pt.locs, Pt.cells, Pt.slots] at X243 l243 y243 z243 st243 hQ243
  subst l243 y243 z243
  refine own_go st243 ?_
  obtain ⟨rfl, Nq243, e243⟩ := hQ243
  have N243 := Fr.app N0 Nq243
  show own_Go p e below (T243.setTop (mkF m 234 #[.val (.int p1), .val (.int p2), .val (.int p3), .val (.int p4), .val (.int nv), .val (.int c1), .val (.int c2), .val (.int c3), .val (.int c4), .val (.int c5), .val (.int c6), .val (.ref ar), .val (.ref x), .val (.int ee)] [(.int (own_ise cs))])) _
  refine own_go (fun _ k => XS.iload X243.here hx rfl (hb hby at_234) rfl k) ?_
  show own_Go p e below (T243.setTop (mkF m 236 #[.val (.int p1), .val (.int p2), .val (.int p3), .val (.int p4), .val (.int nv), .val (.int c1), .val (.int c2), .val (.int c3), .val (.int c4), .val (.int c5), .val (.int c6), .val (.ref ar), .val (.ref x), .val (.int ee)] [(.int ee), (.int (own_ise cs))])) _
  refine own_go (fun _ k => XS.icmpNo X243.here hx rfl (hb hby at_236) rfl (teq hee).2 k) ?_
  show own_Go p e below (T243.setTop (mkF m 239 #[.val (.int p1), .val (.int p2), .val (.int p3), .val (.int p4), .val (.int nv), .val (.int c1), .val (.int c2), .val (.int c3), .val (.int c4), .val (.int c5), .val (.int c6), .val (.ref ar), .val (.ref x), .val (.int ee)] [])) _
  refine own_go (fun _ k => XS.iconst X243.here hx rfl (hb hby at_239) k) ?_
  show own_Go p e below (T243.setTop (mkF m 240 #[.val (.int p1), .val (.int p2), .val (.int p3), .val (.int p4), .val (.int nv), .val (.int c1), .val (.int c2), .val (.int c3), .val (.int c4), .val (.int c5), .val (.int c6), .val (.ref ar), .val (.ref x), .val (.int ee)] [(.int (1 : Int32))])) _
  refine own_go (fun _ k => XS.goto X243.here hx rfl (pc0 := 240) (pc' := 244) rfl (hb hby at_240) (by decide) (by decide) k) ?_
  show own_Go p e below (T243.setTop (mkF m 244 #[.val (.int p1), .val (.int p2), .val (.int p3), .val (.int p4), .val (.int nv), .val (.int c1), .val (.int c2), .val (.int c3), .val (.int c4), .val (.int c5), .val (.int c6), .val (.ref ar), .val (.ref x), .val (.int ee)] [(.int (1 : Int32))])) _
  refine own_finW (v := (some (.int (nar .boolean (1 : Int32))))) X243 hh hZ hS0 (by rw [e243]; exact hk0) (fun h => by rw [hrt] at h; cases h) hlk (fun fs hr => retN X243 hx (t := .boolean) hrt (by simp) (hb hby at_244) hr) (QQ := QQ0 n0) ?_ own_hEL e243 (C0) (by decide) (by decide)
  rw [e243]
  exact ⟨rfl, N243⟩

set_option maxRecDepth 65536 in
set_option maxHeartbeats 40000000 in
theorem own_mid5 (l : Launch) (Z : State) (a0 : Array Value) (hw : ∀ d ∈ tables_1, d.before a0 Z = true) (p1 : Int32) (p2 : Int32) (p3 : Int32) (p4 : Int32) (c1 : Int32) (c2 : Int32) (c3 : Int32) (c4 : Int32) (c5 : Int32) (c6 : Int32) (ar : Addr) (x : Addr) (t : Addr) (kt : ClassId) (cd : Int32) (N2 : Int32) (vs : List Value) (G1 : Int32) (G3 : Value) (h0 : Heap) (n0 : Nat) {p : Program} {e : Env} {s : State} {vm0 : Vm} {m : MethodId} {below : List Frame} {meth : Method} {cC : Code} {T0 : State} {locs : List Loc} (X0 : Stand p l e room_1 (s.setVm vm0) m #[(.int p1), (.int p2), (.int p3), (.int p4)] below meth cC T0 locs 4 27) (hx : p.tables.exec = Jvm.exec) (hby : cC.code = code) (hml : cC.maxLocals = maxLocals) (hown : (s.setVm vm0).vm.findClass "com/example/rolelattice/rolelattice/decision/CatalogIsExpressionPinLaw" = some m.cls) (hZ : Z.Warmed39 (s.setVm vm0).vm) (hrt : meth.sig.returnType = ret) (hlk : meth.locks = false) (h1 : Heap) (e0 : T0.heap = h1) (N0 : Fr n0 locs) (Z0 : n0 ≤ h1.size) (O1 : Old Z n0 h1) (hh : s.heap = h0) {k0 : Nat} (hS0 : s.Since vm0 k0) (hk0 : k0 ≤ h1.size) (C0 : CHr Z own_EL s.vm h0 vm0 h1) (E_x : Exa Z h1 x "java/lang/String") (Fv_x : Fld Z h1 x "java/lang/String" "value" "[B" (.ref t)) (Fc_x : Fld Z h1 x "java/lang/String" "coder" "B" (.int cd)) (V_t : Arv Z h1 t kt .byte N2 vs (.int (0 : Int32))) (O2 : Sta Z Z.heap "java/lang/String" "COMPACT_STRINGS" "Z" (.int G1)) (P5 : ¬ (G1 = (0 : Int32))) (O4 : Sta Z Z.heap "jdk/internal/util/Preconditions" "SIOOBE_FORMATTER" "Ljava/util/function/BiFunction;" G3) (rG3 : G3.isRef = true) (OA : Sta Z Z.heap "java/lang/StringUTF16" "$assertionsDisabled" "Z" (.int (1 : Int32))) (OH : Sta Z Z.heap "java/lang/StringUTF16" "HI_BYTE_SHIFT" "I" (.int (0 : Int32))) (OL : Sta Z Z.heap "java/lang/StringUTF16" "LO_BYTE_SHIFT" "I" (.int (8 : Int32))) (hC : StrChars.Road.CodA ([c1, c2, c3, c4, c5] : List Int32) cd N2 vs) (hok : own_Ok ([c1, c2, c3, c4, c5] : List Int32)) :
    own_Go p e below (T0.setTop (mkF m 139 #[.val (.int p1), .val (.int p2), .val (.int p3), .val (.int p4), .val (.int (5 : Int32)), .val (.int c1), .val (.int c2), .val (.int c3), .val (.int c4), .val (.int c5), .val (.int c6), .val (.ref ar), .val (.ref x), .unset] [])) (fun oO U' => ∃ rV rL, oO = .returned rV ∧ QQ0 n0 rV U'.heap rL ∧ CHr Z own_EL s.vm s.heap U'.vm U'.heap ∧ ReturnedEndW s oO U' rL 24 1152) := by
  have own_wS := own_wSt hw
  have own_hEL := own_hELt hw
  show own_Go p e below (T0.setTop (mkF m 139 #[.val (.int p1), .val (.int p2), .val (.int p3), .val (.int p4), .val (.int (5 : Int32)), .val (.int c1), .val (.int c2), .val (.int c3), .val (.int c4), .val (.int c5), .val (.int c6), .val (.ref ar), .val (.ref x), .unset] [])) _
  refine own_go (fun _ k => XS.iload X0.here hx rfl (hb hby at_139) rfl k) ?_
  show own_Go p e below (T0.setTop (mkF m 141 #[.val (.int p1), .val (.int p2), .val (.int p3), .val (.int p4), .val (.int (5 : Int32)), .val (.int c1), .val (.int c2), .val (.int c3), .val (.int c4), .val (.int c5), .val (.int c6), .val (.ref ar), .val (.ref x), .unset] [(.int (5 : Int32))])) _
  refine own_go (fun _ k => XS.ifNo X0.here hx rfl (hb hby at_141) rfl ((if0 _ _).trans (tlt (by decide : (0 : Int32) < (5 : Int32))).2.2.2) k) ?_
  show own_Go p e below (T0.setTop (mkF m 144 #[.val (.int p1), .val (.int p2), .val (.int p3), .val (.int p4), .val (.int (5 : Int32)), .val (.int c1), .val (.int c2), .val (.int c3), .val (.int c4), .val (.int c5), .val (.int c6), .val (.ref ar), .val (.ref x), .unset] [])) _
  refine own_go (fun _ k => XS.iload X0.here hx rfl (hb hby at_144) rfl k) ?_
  show own_Go p e below (T0.setTop (mkF m 146 #[.val (.int p1), .val (.int p2), .val (.int p3), .val (.int p4), .val (.int (5 : Int32)), .val (.int c1), .val (.int c2), .val (.int c3), .val (.int c4), .val (.int c5), .val (.int c6), .val (.ref ar), .val (.ref x), .unset] [(.int c1)])) _
  obtain ⟨v244, _, ⟨T244, L244, k244, n244⟩, -, X244, ⟨Lc244, hQ244, l244, y244, z244⟩, st244⟩ := Jvm.LawKit.callS X0 hx (y := (⟨"com/example/rolelattice/rolelattice/decision/CatalogIsExpressionPinLaw", "wild", "(C)Z"⟩ : MethodName)) hown (mvT hZ (hw _ (List.mem_of_getElem? (i := 32) rfl))) (mvT hZ (hw _ (List.mem_of_getElem? (i := 33) rfl))) (mvT hZ (hw _ (List.mem_of_getElem? (i := 34) rfl))) (mvT hZ (hw _ (List.mem_of_getElem? (i := 35) rfl))) (by decide) (backOf (W := 0) (rm_wild l Z a0 hw [] c1 h1 n0 O1 ) hZ (hw _ (List.mem_of_getElem? (i := 35) rfl)) (hw _ (List.mem_of_getElem? (i := 34) rfl)) (by decide) (by decide)) (g := (mkF m 146 #[.val (.int p1), .val (.int p2), .val (.int p3), .val (.int p4), .val (.int (5 : Int32)), .val (.int c1), .val (.int c2), .val (.int c3), .val (.int c4), .val (.int c5), .val (.int c6), .val (.ref ar), .val (.ref x), .unset] [(.int c1)])) rfl (by rw [hml]; rfl) (argsL := [(.int c1)]) (rest := []) (lenOf pd_19 rfl) rfl (by show 2 * 0 + _ ≤ _; exact Nat.le_of_eq rfl) (hb hby at_146) (fun _ _ => ⟨rfl, e0, (by decide : 4 + 0 ≤ _), (by decide : 27 + 0 ≤ _)⟩)
  dsimp only [Pt.U, Pt.locs, Pt.cells, Pt.slots] at X244 l244 y244 z244 st244 hQ244
  subst l244 y244 z244
  refine own_go st244 ?_
  obtain ⟨rfl, Nq244, e244⟩ := hQ244
  have N244 := Fr.app N0 Nq244
  show own_Go p e below (T244.setTop (mkF m 149 #[.val (.int p1), .val (.int p2), .val (.int p3), .val (.int p4), .val (.int (5 : Int32)), .val (.int c1), .val (.int c2), .val (.int c3), .val (.int c4), .val (.int c5), .val (.int c6), .val (.ref ar), .val (.ref x), .unset] [(.int (own_wild c1))])) _
  by_cases hc245 : (own_wild c1) = (0 : Int32)
  · skip
    refine own_go (fun _ k => XS.ifNo X244.here hx rfl (hb hby at_149) rfl ((if0 _ _).trans (teq hc245).2) k) ?_
    show own_Go p e below (T244.setTop (mkF m 152 #[.val (.int p1), .val (.int p2), .val (.int p3), .val (.int p4), .val (.int (5 : Int32)), .val (.int c1), .val (.int c2), .val (.int c3), .val (.int c4), .val (.int c5), .val (.int c6), .val (.ref ar), .val (.ref x), .unset] [])) _
    refine own_go (fun _ k => XS.iload X244.here hx rfl (hb hby at_152) rfl k) ?_
    show own_Go p e below (T244.setTop (mkF m 154 #[.val (.int p1), .val (.int p2), .val (.int p3), .val (.int p4), .val (.int (5 : Int32)), .val (.int c1), .val (.int c2), .val (.int c3), .val (.int c4), .val (.int c5), .val (.int c6), .val (.ref ar), .val (.ref x), .unset] [(.int (5 : Int32))])) _
    refine own_go (fun _ k => XS.iconst X244.here hx rfl (hb hby at_154) k) ?_
    show own_Go p e below (T244.setTop (mkF m 155 #[.val (.int p1), .val (.int p2), .val (.int p3), .val (.int p4), .val (.int (5 : Int32)), .val (.int c1), .val (.int c2), .val (.int c3), .val (.int c4), .val (.int c5), .val (.int c6), .val (.ref ar), .val (.ref x), .unset] [(.int (1 : Int32)), (.int (5 : Int32))])) _
    refine own_go (fun _ k => XS.icmpNo X244.here hx rfl (hb hby at_155) rfl (tlt (by decide : (1 : Int32) < (5 : Int32))).2.2.2 k) ?_
    show own_Go p e below (T244.setTop (mkF m 158 #[.val (.int p1), .val (.int p2), .val (.int p3), .val (.int p4), .val (.int (5 : Int32)), .val (.int c1), .val (.int c2), .val (.int c3), .val (.int c4), .val (.int c5), .val (.int c6), .val (.ref ar), .val (.ref x), .unset] [])) _
    refine own_go (fun _ k => XS.iload X244.here hx rfl (hb hby at_158) rfl k) ?_
    show own_Go p e below (T244.setTop (mkF m 160 #[.val (.int p1), .val (.int p2), .val (.int p3), .val (.int p4), .val (.int (5 : Int32)), .val (.int c1), .val (.int c2), .val (.int c3), .val (.int c4), .val (.int c5), .val (.int c6), .val (.ref ar), .val (.ref x), .unset] [(.int c2)])) _
    obtain ⟨v246, _, ⟨T246, L246, k246, n246⟩, -, X246, ⟨Lc246, hQ246, l246, y246, z246⟩, st246⟩ := Jvm.LawKit.callS X244 hx (y := (⟨"com/example/rolelattice/rolelattice/decision/CatalogIsExpressionPinLaw", "wild", "(C)Z"⟩ : MethodName)) hown (mvT hZ (hw _ (List.mem_of_getElem? (i := 32) rfl))) (mvT hZ (hw _ (List.mem_of_getElem? (i := 33) rfl))) (mvT hZ (hw _ (List.mem_of_getElem? (i := 34) rfl))) (mvT hZ (hw _ (List.mem_of_getElem? (i := 35) rfl))) (by decide) (backOf (W := 0) (rm_wild l Z a0 hw [] c2 h1 n0 O1 ) hZ (hw _ (List.mem_of_getElem? (i := 35) rfl)) (hw _ (List.mem_of_getElem? (i := 34) rfl)) (by decide) (by decide)) (g := (mkF m 160 #[.val (.int p1), .val (.int p2), .val (.int p3), .val (.int p4), .val (.int (5 : Int32)), .val (.int c1), .val (.int c2), .val (.int c3), .val (.int c4), .val (.int c5), .val (.int c6), .val (.ref ar), .val (.ref x), .unset] [(.int c2)])) rfl (by rw [hml]; rfl) (argsL := [(.int c2)]) (rest := []) (lenOf pd_19 rfl) rfl (by show 2 * 0 + _ ≤ _; exact Nat.le_of_eq rfl) (hb hby at_160) (fun _ _ => ⟨rfl, e244, (by decide : 4 + 0 ≤ _), (by decide : 27 + 0 ≤ _)⟩)
    dsimp only [Pt.U, Pt.locs, Pt.cells, Pt.slots] at X246 l246 y246 z246 st246 hQ246
    subst l246 y246 z246
    refine own_go st246 ?_
    obtain ⟨rfl, Nq246, e246⟩ := hQ246
    have N246 := Fr.app N244 Nq246
    show own_Go p e below (T246.setTop (mkF m 163 #[.val (.int p1), .val (.int p2), .val (.int p3), .val (.int p4), .val (.int (5 : Int32)), .val (.int c1), .val (.int c2), .val (.int c3), .val (.int c4), .val (.int c5), .val (.int c6), .val (.ref ar), .val (.ref x), .unset] [(.int (own_wild c2))])) _
    by_cases hc247 : (own_wild c2) = (0 : Int32)
    · skip
      refine own_go (fun _ k => XS.ifNo X246.here hx rfl (hb hby at_163) rfl ((if0 _ _).trans (teq hc247).2) k) ?_
      show own_Go p e below (T246.setTop (mkF m 166 #[.val (.int p1), .val (.int p2), .val (.int p3), .val (.int p4), .val (.int (5 : Int32)), .val (.int c1), .val (.int c2), .val (.int c3), .val (.int c4), .val (.int c5), .val (.int c6), .val (.ref ar), .val (.ref x), .unset] [])) _
      refine own_go (fun _ k => XS.iload X246.here hx rfl (hb hby at_166) rfl k) ?_
      show own_Go p e below (T246.setTop (mkF m 168 #[.val (.int p1), .val (.int p2), .val (.int p3), .val (.int p4), .val (.int (5 : Int32)), .val (.int c1), .val (.int c2), .val (.int c3), .val (.int c4), .val (.int c5), .val (.int c6), .val (.ref ar), .val (.ref x), .unset] [(.int (5 : Int32))])) _
      refine own_go (fun _ k => XS.iconst X246.here hx rfl (hb hby at_168) k) ?_
      show own_Go p e below (T246.setTop (mkF m 169 #[.val (.int p1), .val (.int p2), .val (.int p3), .val (.int p4), .val (.int (5 : Int32)), .val (.int c1), .val (.int c2), .val (.int c3), .val (.int c4), .val (.int c5), .val (.int c6), .val (.ref ar), .val (.ref x), .unset] [(.int (2 : Int32)), (.int (5 : Int32))])) _
      refine own_go (fun _ k => XS.icmpNo X246.here hx rfl (hb hby at_169) rfl (tlt (by decide : (2 : Int32) < (5 : Int32))).2.2.2 k) ?_
      show own_Go p e below (T246.setTop (mkF m 172 #[.val (.int p1), .val (.int p2), .val (.int p3), .val (.int p4), .val (.int (5 : Int32)), .val (.int c1), .val (.int c2), .val (.int c3), .val (.int c4), .val (.int c5), .val (.int c6), .val (.ref ar), .val (.ref x), .unset] [])) _
      refine own_go (fun _ k => XS.iload X246.here hx rfl (hb hby at_172) rfl k) ?_
      show own_Go p e below (T246.setTop (mkF m 174 #[.val (.int p1), .val (.int p2), .val (.int p3), .val (.int p4), .val (.int (5 : Int32)), .val (.int c1), .val (.int c2), .val (.int c3), .val (.int c4), .val (.int c5), .val (.int c6), .val (.ref ar), .val (.ref x), .unset] [(.int c3)])) _
      obtain ⟨v248, _, ⟨T248, L248, k248, n248⟩, -, X248, ⟨Lc248, hQ248, l248, y248, z248⟩, st248⟩ := Jvm.LawKit.callS X246 hx (y := (⟨"com/example/rolelattice/rolelattice/decision/CatalogIsExpressionPinLaw", "wild", "(C)Z"⟩ : MethodName)) hown (mvT hZ (hw _ (List.mem_of_getElem? (i := 32) rfl))) (mvT hZ (hw _ (List.mem_of_getElem? (i := 33) rfl))) (mvT hZ (hw _ (List.mem_of_getElem? (i := 34) rfl))) (mvT hZ (hw _ (List.mem_of_getElem? (i := 35) rfl))) (by decide) (backOf (W := 0) (rm_wild l Z a0 hw [] c3 h1 n0 O1 ) hZ (hw _ (List.mem_of_getElem? (i := 35) rfl)) (hw _ (List.mem_of_getElem? (i := 34) rfl)) (by decide) (by decide)) (g := (mkF m 174 #[.val (.int p1), .val (.int p2), .val (.int p3), .val (.int p4), .val (.int (5 : Int32)), .val (.int c1), .val (.int c2), .val (.int c3), .val (.int c4), .val (.int c5), .val (.int c6), .val (.ref ar), .val (.ref x), .unset] [(.int c3)])) rfl (by rw [hml]; rfl) (argsL := [(.int c3)]) (rest := []) (lenOf pd_19 rfl) rfl (by show 2 * 0 + _ ≤ _; exact Nat.le_of_eq rfl) (hb hby at_174) (fun _ _ => ⟨rfl, e246, (by decide : 4 + 0 ≤ _), (by decide : 27 + 0 ≤ _)⟩)
      dsimp only [Pt.U, Pt.locs, Pt.cells, Pt.slots] at X248 l248 y248 z248 st248 hQ248
      subst l248 y248 z248
      refine own_go st248 ?_
      obtain ⟨rfl, Nq248, e248⟩ := hQ248
      have N248 := Fr.app N246 Nq248
      show own_Go p e below (T248.setTop (mkF m 177 #[.val (.int p1), .val (.int p2), .val (.int p3), .val (.int p4), .val (.int (5 : Int32)), .val (.int c1), .val (.int c2), .val (.int c3), .val (.int c4), .val (.int c5), .val (.int c6), .val (.ref ar), .val (.ref x), .unset] [(.int (own_wild c3))])) _
      by_cases hc249 : (own_wild c3) = (0 : Int32)
      · skip
        refine own_go (fun _ k => XS.ifNo X248.here hx rfl (hb hby at_177) rfl ((if0 _ _).trans (teq hc249).2) k) ?_
        show own_Go p e below (T248.setTop (mkF m 180 #[.val (.int p1), .val (.int p2), .val (.int p3), .val (.int p4), .val (.int (5 : Int32)), .val (.int c1), .val (.int c2), .val (.int c3), .val (.int c4), .val (.int c5), .val (.int c6), .val (.ref ar), .val (.ref x), .unset] [])) _
        refine own_go (fun _ k => XS.iload X248.here hx rfl (hb hby at_180) rfl k) ?_
        show own_Go p e below (T248.setTop (mkF m 182 #[.val (.int p1), .val (.int p2), .val (.int p3), .val (.int p4), .val (.int (5 : Int32)), .val (.int c1), .val (.int c2), .val (.int c3), .val (.int c4), .val (.int c5), .val (.int c6), .val (.ref ar), .val (.ref x), .unset] [(.int (5 : Int32))])) _
        refine own_go (fun _ k => XS.iconst X248.here hx rfl (hb hby at_182) k) ?_
        show own_Go p e below (T248.setTop (mkF m 183 #[.val (.int p1), .val (.int p2), .val (.int p3), .val (.int p4), .val (.int (5 : Int32)), .val (.int c1), .val (.int c2), .val (.int c3), .val (.int c4), .val (.int c5), .val (.int c6), .val (.ref ar), .val (.ref x), .unset] [(.int (3 : Int32)), (.int (5 : Int32))])) _
        refine own_go (fun _ k => XS.icmpNo X248.here hx rfl (hb hby at_183) rfl (tlt (by decide : (3 : Int32) < (5 : Int32))).2.2.2 k) ?_
        show own_Go p e below (T248.setTop (mkF m 186 #[.val (.int p1), .val (.int p2), .val (.int p3), .val (.int p4), .val (.int (5 : Int32)), .val (.int c1), .val (.int c2), .val (.int c3), .val (.int c4), .val (.int c5), .val (.int c6), .val (.ref ar), .val (.ref x), .unset] [])) _
        refine own_go (fun _ k => XS.iload X248.here hx rfl (hb hby at_186) rfl k) ?_
        show own_Go p e below (T248.setTop (mkF m 188 #[.val (.int p1), .val (.int p2), .val (.int p3), .val (.int p4), .val (.int (5 : Int32)), .val (.int c1), .val (.int c2), .val (.int c3), .val (.int c4), .val (.int c5), .val (.int c6), .val (.ref ar), .val (.ref x), .unset] [(.int c4)])) _
        obtain ⟨v250, _, ⟨T250, L250, k250, n250⟩, -, X250, ⟨Lc250, hQ250, l250, y250, z250⟩, st250⟩ := Jvm.LawKit.callS X248 hx (y := (⟨"com/example/rolelattice/rolelattice/decision/CatalogIsExpressionPinLaw", "wild", "(C)Z"⟩ : MethodName)) hown (mvT hZ (hw _ (List.mem_of_getElem? (i := 32) rfl))) (mvT hZ (hw _ (List.mem_of_getElem? (i := 33) rfl))) (mvT hZ (hw _ (List.mem_of_getElem? (i := 34) rfl))) (mvT hZ (hw _ (List.mem_of_getElem? (i := 35) rfl))) (by decide) (backOf (W := 0) (rm_wild l Z a0 hw [] c4 h1 n0 O1 ) hZ (hw _ (List.mem_of_getElem? (i := 35) rfl)) (hw _ (List.mem_of_getElem? (i := 34) rfl)) (by decide) (by decide)) (g := (mkF m 188 #[.val (.int p1), .val (.int p2), .val (.int p3), .val (.int p4), .val (.int (5 : Int32)), .val (.int c1), .val (.int c2), .val (.int c3), .val (.int c4), .val (.int c5), .val (.int c6), .val (.ref ar), .val (.ref x), .unset] [(.int c4)])) rfl (by rw [hml]; rfl) (argsL := [(.int c4)]) (rest := []) (lenOf pd_19 rfl) rfl (by show 2 * 0 + _ ≤ _; exact Nat.le_of_eq rfl) (hb hby at_188) (fun _ _ => ⟨rfl, e248, (by decide : 4 + 0 ≤ _), (by decide : 27 + 0 ≤ _)⟩)
        dsimp only [Pt.U, Pt.locs, Pt.cells, Pt.slots] at X250 l250 y250 z250 st250 hQ250
        subst l250 y250 z250
        refine own_go st250 ?_
        obtain ⟨rfl, Nq250, e250⟩ := hQ250
        have N250 := Fr.app N248 Nq250
        show own_Go p e below (T250.setTop (mkF m 191 #[.val (.int p1), .val (.int p2), .val (.int p3), .val (.int p4), .val (.int (5 : Int32)), .val (.int c1), .val (.int c2), .val (.int c3), .val (.int c4), .val (.int c5), .val (.int c6), .val (.ref ar), .val (.ref x), .unset] [(.int (own_wild c4))])) _
        by_cases hc251 : (own_wild c4) = (0 : Int32)
        · skip
          refine own_go (fun _ k => XS.ifNo X250.here hx rfl (hb hby at_191) rfl ((if0 _ _).trans (teq hc251).2) k) ?_
          show own_Go p e below (T250.setTop (mkF m 194 #[.val (.int p1), .val (.int p2), .val (.int p3), .val (.int p4), .val (.int (5 : Int32)), .val (.int c1), .val (.int c2), .val (.int c3), .val (.int c4), .val (.int c5), .val (.int c6), .val (.ref ar), .val (.ref x), .unset] [])) _
          refine own_go (fun _ k => XS.iload X250.here hx rfl (hb hby at_194) rfl k) ?_
          show own_Go p e below (T250.setTop (mkF m 196 #[.val (.int p1), .val (.int p2), .val (.int p3), .val (.int p4), .val (.int (5 : Int32)), .val (.int c1), .val (.int c2), .val (.int c3), .val (.int c4), .val (.int c5), .val (.int c6), .val (.ref ar), .val (.ref x), .unset] [(.int (5 : Int32))])) _
          refine own_go (fun _ k => XS.iconst X250.here hx rfl (hb hby at_196) k) ?_
          show own_Go p e below (T250.setTop (mkF m 197 #[.val (.int p1), .val (.int p2), .val (.int p3), .val (.int p4), .val (.int (5 : Int32)), .val (.int c1), .val (.int c2), .val (.int c3), .val (.int c4), .val (.int c5), .val (.int c6), .val (.ref ar), .val (.ref x), .unset] [(.int (4 : Int32)), (.int (5 : Int32))])) _
          refine own_go (fun _ k => XS.icmpNo X250.here hx rfl (hb hby at_197) rfl (tlt (by decide : (4 : Int32) < (5 : Int32))).2.2.2 k) ?_
          show own_Go p e below (T250.setTop (mkF m 200 #[.val (.int p1), .val (.int p2), .val (.int p3), .val (.int p4), .val (.int (5 : Int32)), .val (.int c1), .val (.int c2), .val (.int c3), .val (.int c4), .val (.int c5), .val (.int c6), .val (.ref ar), .val (.ref x), .unset] [])) _
          refine own_go (fun _ k => XS.iload X250.here hx rfl (hb hby at_200) rfl k) ?_
          show own_Go p e below (T250.setTop (mkF m 202 #[.val (.int p1), .val (.int p2), .val (.int p3), .val (.int p4), .val (.int (5 : Int32)), .val (.int c1), .val (.int c2), .val (.int c3), .val (.int c4), .val (.int c5), .val (.int c6), .val (.ref ar), .val (.ref x), .unset] [(.int c5)])) _
          obtain ⟨v252, _, ⟨T252, L252, k252, n252⟩, -, X252, ⟨Lc252, hQ252, l252, y252, z252⟩, st252⟩ := Jvm.LawKit.callS X250 hx (y := (⟨"com/example/rolelattice/rolelattice/decision/CatalogIsExpressionPinLaw", "wild", "(C)Z"⟩ : MethodName)) hown (mvT hZ (hw _ (List.mem_of_getElem? (i := 32) rfl))) (mvT hZ (hw _ (List.mem_of_getElem? (i := 33) rfl))) (mvT hZ (hw _ (List.mem_of_getElem? (i := 34) rfl))) (mvT hZ (hw _ (List.mem_of_getElem? (i := 35) rfl))) (by decide) (backOf (W := 0) (rm_wild l Z a0 hw [] c5 h1 n0 O1 ) hZ (hw _ (List.mem_of_getElem? (i := 35) rfl)) (hw _ (List.mem_of_getElem? (i := 34) rfl)) (by decide) (by decide)) (g := (mkF m 202 #[.val (.int p1), .val (.int p2), .val (.int p3), .val (.int p4), .val (.int (5 : Int32)), .val (.int c1), .val (.int c2), .val (.int c3), .val (.int c4), .val (.int c5), .val (.int c6), .val (.ref ar), .val (.ref x), .unset] [(.int c5)])) rfl (by rw [hml]; rfl) (argsL := [(.int c5)]) (rest := []) (lenOf pd_19 rfl) rfl (by show 2 * 0 + _ ≤ _; exact Nat.le_of_eq rfl) (hb hby at_202) (fun _ _ => ⟨rfl, e250, (by decide : 4 + 0 ≤ _), (by decide : 27 + 0 ≤ _)⟩)
          dsimp only [Pt.U, Pt.locs, Pt.cells, Pt.slots] at X252 l252 y252 z252 st252 hQ252
          subst l252 y252 z252
          refine own_go st252 ?_
          obtain ⟨rfl, Nq252, e252⟩ := hQ252
          have N252 := Fr.app N250 Nq252
          show own_Go p e below (T252.setTop (mkF m 205 #[.val (.int p1), .val (.int p2), .val (.int p3), .val (.int p4), .val (.int (5 : Int32)), .val (.int c1), .val (.int c2), .val (.int c3), .val (.int c4), .val (.int c5), .val (.int c6), .val (.ref ar), .val (.ref x), .unset] [(.int (own_wild c5))])) _
          by_cases hc253 : (own_wild c5) = (0 : Int32)
          · skip
            refine own_go (fun _ k => XS.ifNo X252.here hx rfl (hb hby at_205) rfl ((if0 _ _).trans (teq hc253).2) k) ?_
            show own_Go p e below (T252.setTop (mkF m 208 #[.val (.int p1), .val (.int p2), .val (.int p3), .val (.int p4), .val (.int (5 : Int32)), .val (.int c1), .val (.int c2), .val (.int c3), .val (.int c4), .val (.int c5), .val (.int c6), .val (.ref ar), .val (.ref x), .unset] [])) _
            refine own_go (fun _ k => XS.iload X252.here hx rfl (hb hby at_208) rfl k) ?_
            show own_Go p e below (T252.setTop (mkF m 210 #[.val (.int p1), .val (.int p2), .val (.int p3), .val (.int p4), .val (.int (5 : Int32)), .val (.int c1), .val (.int c2), .val (.int c3), .val (.int c4), .val (.int c5), .val (.int c6), .val (.ref ar), .val (.ref x), .unset] [(.int (5 : Int32))])) _
            refine own_go (fun _ k => XS.iconst X252.here hx rfl (hb hby at_210) k) ?_
            show own_Go p e below (T252.setTop (mkF m 211 #[.val (.int p1), .val (.int p2), .val (.int p3), .val (.int p4), .val (.int (5 : Int32)), .val (.int c1), .val (.int c2), .val (.int c3), .val (.int c4), .val (.int c5), .val (.int c6), .val (.ref ar), .val (.ref x), .unset] [(.int (5 : Int32)), (.int (5 : Int32))])) _
            refine own_go (fun _ k => XS.icmpYes X252.here hx rfl (pc0 := 211) (pc' := 226) rfl (hb hby at_211) rfl (flt (by decide : ¬ ((5 : Int32) < (5 : Int32)))).2.2.2 (by decide) (by decide) k) ?_
            show own_Go p e below (T252.setTop (mkF m 226 #[.val (.int p1), .val (.int p2), .val (.int p3), .val (.int p4), .val (.int (5 : Int32)), .val (.int c1), .val (.int c2), .val (.int c3), .val (.int c4), .val (.int c5), .val (.int c6), .val (.ref ar), .val (.ref x), .unset] [])) _
            refine own_go (fun _ k => XS.iconst X252.here hx rfl (hb hby at_226) k) ?_
            show own_Go p e below (T252.setTop (mkF m 227 #[.val (.int p1), .val (.int p2), .val (.int p3), .val (.int p4), .val (.int (5 : Int32)), .val (.int c1), .val (.int c2), .val (.int c3), .val (.int c4), .val (.int c5), .val (.int c6), .val (.ref ar), .val (.ref x), .unset] [(.int (0 : Int32))])) _
            refine own_go (fun _ k => XS.istore X252.here hx rfl (hb hby at_227) rfl (l' := #[.val (.int p1), .val (.int p2), .val (.int p3), .val (.int p4), .val (.int (5 : Int32)), .val (.int c1), .val (.int c2), .val (.int c3), .val (.int c4), .val (.int c5), .val (.int c6), .val (.ref ar), .val (.ref x), .val (.int (0 : Int32))]) rfl k) ?_
            show own_Go p e below (T252.setTop (mkF m 229 #[.val (.int p1), .val (.int p2), .val (.int p3), .val (.int p4), .val (.int (5 : Int32)), .val (.int c1), .val (.int c2), .val (.int c3), .val (.int c4), .val (.int c5), .val (.int c6), .val (.ref ar), .val (.ref x), .val (.int (0 : Int32))] [])) _
            exact own_end5 l Z a0 hw p1 p2 p3 p4 (5 : Int32) c1 c2 c3 c4 c5 c6 ar (0 : Int32) x t kt ([c1, c2, c3, c4, c5] : List Int32) cd N2 vs G1 G3 h0 n0 X252 hx hby hml hown hZ hrt hlk h1 e252 N252 (Nat.le_trans Z0 (Nat.le_refl _)) O1 hh hS0 hk0 C0 E_x Fv_x Fc_x V_t O2 P5 O4 rG3 OA OH OL hC hok (own_ise_n (fun c hc => by simp only [List.mem_cons, List.not_mem_nil, or_false] at hc; rcases hc with rfl | rfl | rfl | rfl | rfl <;> assumption))
          · skip
            refine own_go (fun _ k => XS.ifYes X252.here hx rfl (pc0 := 205) (pc' := 222) rfl (hb hby at_205) rfl ((if0 _ _).trans (feq hc253).2) (by decide) (by decide) k) ?_
            show own_Go p e below (T252.setTop (mkF m 222 #[.val (.int p1), .val (.int p2), .val (.int p3), .val (.int p4), .val (.int (5 : Int32)), .val (.int c1), .val (.int c2), .val (.int c3), .val (.int c4), .val (.int c5), .val (.int c6), .val (.ref ar), .val (.ref x), .unset] [])) _
            refine own_go (fun _ k => XS.iconst X252.here hx rfl (hb hby at_222) k) ?_
            show own_Go p e below (T252.setTop (mkF m 223 #[.val (.int p1), .val (.int p2), .val (.int p3), .val (.int p4), .val (.int (5 : Int32)), .val (.int c1), .val (.int c2), .val (.int c3), .val (.int c4), .val (.int c5), .val (.int c6), .val (.ref ar), .val (.ref x), .unset] [(.int (1 : Int32))])) _
            refine own_go (fun _ k => XS.goto X252.here hx rfl (pc0 := 223) (pc' := 227) rfl (hb hby at_223) (by decide) (by decide) k) ?_
            show own_Go p e below (T252.setTop (mkF m 227 #[.val (.int p1), .val (.int p2), .val (.int p3), .val (.int p4), .val (.int (5 : Int32)), .val (.int c1), .val (.int c2), .val (.int c3), .val (.int c4), .val (.int c5), .val (.int c6), .val (.ref ar), .val (.ref x), .unset] [(.int (1 : Int32))])) _
            refine own_go (fun _ k => XS.istore X252.here hx rfl (hb hby at_227) rfl (l' := #[.val (.int p1), .val (.int p2), .val (.int p3), .val (.int p4), .val (.int (5 : Int32)), .val (.int c1), .val (.int c2), .val (.int c3), .val (.int c4), .val (.int c5), .val (.int c6), .val (.ref ar), .val (.ref x), .val (.int (1 : Int32))]) rfl k) ?_
            show own_Go p e below (T252.setTop (mkF m 229 #[.val (.int p1), .val (.int p2), .val (.int p3), .val (.int p4), .val (.int (5 : Int32)), .val (.int c1), .val (.int c2), .val (.int c3), .val (.int c4), .val (.int c5), .val (.int c6), .val (.ref ar), .val (.ref x), .val (.int (1 : Int32))] [])) _
            exact own_end5 l Z a0 hw p1 p2 p3 p4 (5 : Int32) c1 c2 c3 c4 c5 c6 ar (1 : Int32) x t kt ([c1, c2, c3, c4, c5] : List Int32) cd N2 vs G1 G3 h0 n0 X252 hx hby hml hown hZ hrt hlk h1 e252 N252 (Nat.le_trans Z0 (Nat.le_refl _)) O1 hh hS0 hk0 C0 E_x Fv_x Fc_x V_t O2 P5 O4 rG3 OA OH OL hC hok (own_ise_y (by simp) hc253)
        · skip
          refine own_go (fun _ k => XS.ifYes X250.here hx rfl (pc0 := 191) (pc' := 222) rfl (hb hby at_191) rfl ((if0 _ _).trans (feq hc251).2) (by decide) (by decide) k) ?_
          show own_Go p e below (T250.setTop (mkF m 222 #[.val (.int p1), .val (.int p2), .val (.int p3), .val (.int p4), .val (.int (5 : Int32)), .val (.int c1), .val (.int c2), .val (.int c3), .val (.int c4), .val (.int c5), .val (.int c6), .val (.ref ar), .val (.ref x), .unset] [])) _
          refine own_go (fun _ k => XS.iconst X250.here hx rfl (hb hby at_222) k) ?_
          show own_Go p e below (T250.setTop (mkF m 223 #[.val (.int p1), .val (.int p2), .val (.int p3), .val (.int p4), .val (.int (5 : Int32)), .val (.int c1), .val (.int c2), .val (.int c3), .val (.int c4), .val (.int c5), .val (.int c6), .val (.ref ar), .val (.ref x), .unset] [(.int (1 : Int32))])) _
          refine own_go (fun _ k => XS.goto X250.here hx rfl (pc0 := 223) (pc' := 227) rfl (hb hby at_223) (by decide) (by decide) k) ?_
          show own_Go p e below (T250.setTop (mkF m 227 #[.val (.int p1), .val (.int p2), .val (.int p3), .val (.int p4), .val (.int (5 : Int32)), .val (.int c1), .val (.int c2), .val (.int c3), .val (.int c4), .val (.int c5), .val (.int c6), .val (.ref ar), .val (.ref x), .unset] [(.int (1 : Int32))])) _
          refine own_go (fun _ k => XS.istore X250.here hx rfl (hb hby at_227) rfl (l' := #[.val (.int p1), .val (.int p2), .val (.int p3), .val (.int p4), .val (.int (5 : Int32)), .val (.int c1), .val (.int c2), .val (.int c3), .val (.int c4), .val (.int c5), .val (.int c6), .val (.ref ar), .val (.ref x), .val (.int (1 : Int32))]) rfl k) ?_
          show own_Go p e below (T250.setTop (mkF m 229 #[.val (.int p1), .val (.int p2), .val (.int p3), .val (.int p4), .val (.int (5 : Int32)), .val (.int c1), .val (.int c2), .val (.int c3), .val (.int c4), .val (.int c5), .val (.int c6), .val (.ref ar), .val (.ref x), .val (.int (1 : Int32))] [])) _
          exact own_end5 l Z a0 hw p1 p2 p3 p4 (5 : Int32) c1 c2 c3 c4 c5 c6 ar (1 : Int32) x t kt ([c1, c2, c3, c4, c5] : List Int32) cd N2 vs G1 G3 h0 n0 X250 hx hby hml hown hZ hrt hlk h1 e250 N250 (Nat.le_trans Z0 (Nat.le_refl _)) O1 hh hS0 hk0 C0 E_x Fv_x Fc_x V_t O2 P5 O4 rG3 OA OH OL hC hok (own_ise_y (by simp) hc251)
      · skip
        refine own_go (fun _ k => XS.ifYes X248.here hx rfl (pc0 := 177) (pc' := 222) rfl (hb hby at_177) rfl ((if0 _ _).trans (feq hc249).2) (by decide) (by decide) k) ?_
        show own_Go p e below (T248.setTop (mkF m 222 #[.val (.int p1), .val (.int p2), .val (.int p3), .val (.int p4), .val (.int (5 : Int32)), .val (.int c1), .val (.int c2), .val (.int c3), .val (.int c4), .val (.int c5), .val (.int c6), .val (.ref ar), .val (.ref x), .unset] [])) _
        refine own_go (fun _ k => XS.iconst X248.here hx rfl (hb hby at_222) k) ?_
        show own_Go p e below (T248.setTop (mkF m 223 #[.val (.int p1), .val (.int p2), .val (.int p3), .val (.int p4), .val (.int (5 : Int32)), .val (.int c1), .val (.int c2), .val (.int c3), .val (.int c4), .val (.int c5), .val (.int c6), .val (.ref ar), .val (.ref x), .unset] [(.int (1 : Int32))])) _
        refine own_go (fun _ k => XS.goto X248.here hx rfl (pc0 := 223) (pc' := 227) rfl (hb hby at_223) (by decide) (by decide) k) ?_
        show own_Go p e below (T248.setTop (mkF m 227 #[.val (.int p1), .val (.int p2), .val (.int p3), .val (.int p4), .val (.int (5 : Int32)), .val (.int c1), .val (.int c2), .val (.int c3), .val (.int c4), .val (.int c5), .val (.int c6), .val (.ref ar), .val (.ref x), .unset] [(.int (1 : Int32))])) _
        refine own_go (fun _ k => XS.istore X248.here hx rfl (hb hby at_227) rfl (l' := #[.val (.int p1), .val (.int p2), .val (.int p3), .val (.int p4), .val (.int (5 : Int32)), .val (.int c1), .val (.int c2), .val (.int c3), .val (.int c4), .val (.int c5), .val (.int c6), .val (.ref ar), .val (.ref x), .val (.int (1 : Int32))]) rfl k) ?_
        show own_Go p e below (T248.setTop (mkF m 229 #[.val (.int p1), .val (.int p2), .val (.int p3), .val (.int p4), .val (.int (5 : Int32)), .val (.int c1), .val (.int c2), .val (.int c3), .val (.int c4), .val (.int c5), .val (.int c6), .val (.ref ar), .val (.ref x), .val (.int (1 : Int32))] [])) _
        exact own_end5 l Z a0 hw p1 p2 p3 p4 (5 : Int32) c1 c2 c3 c4 c5 c6 ar (1 : Int32) x t kt ([c1, c2, c3, c4, c5] : List Int32) cd N2 vs G1 G3 h0 n0 X248 hx hby hml hown hZ hrt hlk h1 e248 N248 (Nat.le_trans Z0 (Nat.le_refl _)) O1 hh hS0 hk0 C0 E_x Fv_x Fc_x V_t O2 P5 O4 rG3 OA OH OL hC hok (own_ise_y (by simp) hc249)
    · skip
      refine own_go (fun _ k => XS.ifYes X246.here hx rfl (pc0 := 163) (pc' := 222) rfl (hb hby at_163) rfl ((if0 _ _).trans (feq hc247).2) (by decide) (by decide) k) ?_
      show own_Go p e below (T246.setTop (mkF m 222 #[.val (.int p1), .val (.int p2), .val (.int p3), .val (.int p4), .val (.int (5 : Int32)), .val (.int c1), .val (.int c2), .val (.int c3), .val (.int c4), .val (.int c5), .val (.int c6), .val (.ref ar), .val (.ref x), .unset] [])) _
      refine own_go (fun _ k => XS.iconst X246.here hx rfl (hb hby at_222) k) ?_
      show own_Go p e below (T246.setTop (mkF m 223 #[.val (.int p1), .val (.int p2), .val (.int p3), .val (.int p4), .val (.int (5 : Int32)), .val (.int c1), .val (.int c2), .val (.int c3), .val (.int c4), .val (.int c5), .val (.int c6), .val (.ref ar), .val (.ref x), .unset] [(.int (1 : Int32))])) _
      refine own_go (fun _ k => XS.goto X246.here hx rfl (pc0 := 223) (pc' := 227) rfl (hb hby at_223) (by decide) (by decide) k) ?_
      show own_Go p e below (T246.setTop (mkF m 227 #[.val (.int p1), .val (.int p2), .val (.int p3), .val (.int p4), .val (.int (5 : Int32)), .val (.int c1), .val (.int c2), .val (.int c3), .val (.int c4), .val (.int c5), .val (.int c6), .val (.ref ar), .val (.ref x), .unset] [(.int (1 : Int32))])) _
      refine own_go (fun _ k => XS.istore X246.here hx rfl (hb hby at_227) rfl (l' := #[.val (.int p1), .val (.int p2), .val (.int p3), .val (.int p4), .val (.int (5 : Int32)), .val (.int c1), .val (.int c2), .val (.int c3), .val (.int c4), .val (.int c5), .val (.int c6), .val (.ref ar), .val (.ref x), .val (.int (1 : Int32))]) rfl k) ?_
      show own_Go p e below (T246.setTop (mkF m 229 #[.val (.int p1), .val (.int p2), .val (.int p3), .val (.int p4), .val (.int (5 : Int32)), .val (.int c1), .val (.int c2), .val (.int c3), .val (.int c4), .val (.int c5), .val (.int c6), .val (.ref ar), .val (.ref x), .val (.int (1 : Int32))] [])) _
      exact own_end5 l Z a0 hw p1 p2 p3 p4 (5 : Int32) c1 c2 c3 c4 c5 c6 ar (1 : Int32) x t kt ([c1, c2, c3, c4, c5] : List Int32) cd N2 vs G1 G3 h0 n0 X246 hx hby hml hown hZ hrt hlk h1 e246 N246 (Nat.le_trans Z0 (Nat.le_refl _)) O1 hh hS0 hk0 C0 E_x Fv_x Fc_x V_t O2 P5 O4 rG3 OA OH OL hC hok (own_ise_y (by simp) hc247)
  · skip
    refine own_go (fun _ k => XS.ifYes X244.here hx rfl (pc0 := 149) (pc' := 222) rfl (hb hby at_149) rfl ((if0 _ _).trans (feq hc245).2) (by decide) (by decide) k) ?_
    show own_Go p e below (T244.setTop (mkF m 222 #[.val (.int p1), .val (.int p2), .val (.int p3), .val (.int p4), .val (.int (5 : Int32)), .val (.int c1), .val (.int c2), .val (.int c3), .val (.int c4), .val (.int c5), .val (.int c6), .val (.ref ar), .val (.ref x), .unset] [])) _
    refine own_go (fun _ k => XS.iconst X244.here hx rfl (hb hby at_222) k) ?_
    show own_Go p e below (T244.setTop (mkF m 223 #[.val (.int p1), .val (.int p2), .val (.int p3), .val (.int p4), .val (.int (5 : Int32)), .val (.int c1), .val (.int c2), .val (.int c3), .val (.int c4), .val (.int c5), .val (.int c6), .val (.ref ar), .val (.ref x), .unset] [(.int (1 : Int32))])) _
    refine own_go (fun _ k => XS.goto X244.here hx rfl (pc0 := 223) (pc' := 227) rfl (hb hby at_223) (by decide) (by decide) k) ?_
    show own_Go p e below (T244.setTop (mkF m 227 #[.val (.int p1), .val (.int p2), .val (.int p3), .val (.int p4), .val (.int (5 : Int32)), .val (.int c1), .val (.int c2), .val (.int c3), .val (.int c4), .val (.int c5), .val (.int c6), .val (.ref ar), .val (.ref x), .unset] [(.int (1 : Int32))])) _
    refine own_go (fun _ k => XS.istore X244.here hx rfl (hb hby at_227) rfl (l' := #[.val (.int p1), .val (.int p2), .val (.int p3), .val (.int p4), .val (.int (5 : Int32)), .val (.int c1), .val (.int c2), .val (.int c3), .val (.int c4), .val (.int c5), .val (.int c6), .val (.ref ar), .val (.ref x), .val (.int (1 : Int32))]) rfl k) ?_
    show own_Go p e below (T244.setTop (mkF m 229 #[.val (.int p1), .val (.int p2), .val (.int p3), .val (.int p4), .val (.int (5 : Int32)), .val (.int c1), .val (.int c2), .val (.int c3), .val (.int c4), .val (.int c5), .val (.int c6), .val (.ref ar), .val (.ref x), .val (.int (1 : Int32))] [])) _
    exact own_end5 l Z a0 hw p1 p2 p3 p4 (5 : Int32) c1 c2 c3 c4 c5 c6 ar (1 : Int32) x t kt ([c1, c2, c3, c4, c5] : List Int32) cd N2 vs G1 G3 h0 n0 X244 hx hby hml hown hZ hrt hlk h1 e244 N244 (Nat.le_trans Z0 (Nat.le_refl _)) O1 hh hS0 hk0 C0 E_x Fv_x Fc_x V_t O2 P5 O4 rG3 OA OH OL hC hok (own_ise_y (by simp) hc245)

set_option maxRecDepth 65536 in
set_option maxHeartbeats 40000000 in
theorem own_fst5 (l : Launch) (Z : State) (a0 : Array Value) (hw : ∀ d ∈ tables_1, d.before a0 Z = true) (p1 : Int32) (p2 : Int32) (p3 : Int32) (p4 : Int32) (c1 : Int32) (c2 : Int32) (c3 : Int32) (c4 : Int32) (c5 : Int32) (c6 : Int32) (G1 : Int32) (G3 : Value) (h0 : Heap) (n0 : Nat) {p : Program} {e : Env} {s : State} {vm0 : Vm} {m : MethodId} {below : List Frame} {meth : Method} {cC : Code} {T0 : State} {locs : List Loc} (X0 : Stand p l e room_1 (s.setVm vm0) m #[(.int p1), (.int p2), (.int p3), (.int p4)] below meth cC T0 locs 0 0) (hx : p.tables.exec = Jvm.exec) (hby : cC.code = code) (hml : cC.maxLocals = maxLocals) (hown : (s.setVm vm0).vm.findClass "com/example/rolelattice/rolelattice/decision/CatalogIsExpressionPinLaw" = some m.cls) (hZ : Z.Warmed39 (s.setVm vm0).vm) (hrt : meth.sig.returnType = ret) (hlk : meth.locks = false) (h1 : Heap) (e0 : T0.heap = h1) (N0 : Fr n0 locs) (Z0 : n0 ≤ h1.size) (O1 : Old Z n0 h1) (hh : s.heap = h0) {k0 : Nat} (hS0 : s.Since vm0 k0) (hk0 : k0 ≤ h1.size) (C0 : CHr Z own_EL s.vm h0 vm0 h1) (O2 : Sta Z Z.heap "java/lang/String" "COMPACT_STRINGS" "Z" (.int G1)) (P5 : ¬ (G1 = (0 : Int32))) (O4 : Sta Z Z.heap "jdk/internal/util/Preconditions" "SIOOBE_FORMATTER" "Ljava/util/function/BiFunction;" G3) (rG3 : G3.isRef = true) (OA : Sta Z Z.heap "java/lang/StringUTF16" "$assertionsDisabled" "Z" (.int (1 : Int32))) (OH : Sta Z Z.heap "java/lang/StringUTF16" "HI_BYTE_SHIFT" "I" (.int (0 : Int32))) (OL : Sta Z Z.heap "java/lang/StringUTF16" "LO_BYTE_SHIFT" "I" (.int (8 : Int32))) (b_c1 : ¬ c1 < 0 ∧ ¬ (65535 : Int32) < c1) (b_c2 : ¬ c2 < 0 ∧ ¬ (65535 : Int32) < c2) (b_c3 : ¬ c3 < 0 ∧ ¬ (65535 : Int32) < c3) (b_c4 : ¬ c4 < 0 ∧ ¬ (65535 : Int32) < c4) (b_c5 : ¬ c5 < 0 ∧ ¬ (65535 : Int32) < c5) (b_c6 : ¬ c6 < 0 ∧ ¬ (65535 : Int32) < c6) :
    own_Go p e below (T0.setTop (mkF m 51 #[.val (.int p1), .val (.int p2), .val (.int p3), .val (.int p4), .val (.int (5 : Int32)), .val (.int c1), .val (.int c2), .val (.int c3), .val (.int c4), .val (.int c5), .val (.int c6), .unset, .unset, .unset] [])) (fun oO U' => ∃ rV rL, oO = .returned rV ∧ QQ0 n0 rV U'.heap rL ∧ CHr Z own_EL s.vm s.heap U'.vm U'.heap ∧ ReturnedEndW s oO U' rL 24 1152) := by
  have own_wS := own_wSt hw
  have own_hEL := own_hELt hw
  show own_Go p e below (T0.setTop (mkF m 51 #[.val (.int p1), .val (.int p2), .val (.int p3), .val (.int p4), .val (.int (5 : Int32)), .val (.int c1), .val (.int c2), .val (.int c3), .val (.int c4), .val (.int c5), .val (.int c6), .unset, .unset, .unset] [])) _
  refine own_go (fun _ k => XS.iload X0.here hx rfl (hb hby at_51) rfl k) ?_
  show own_Go p e below (T0.setTop (mkF m 53 #[.val (.int p1), .val (.int p2), .val (.int p3), .val (.int p4), .val (.int (5 : Int32)), .val (.int c1), .val (.int c2), .val (.int c3), .val (.int c4), .val (.int c5), .val (.int c6), .unset, .unset, .unset] [(.int (5 : Int32))])) _
  obtain ⟨T254, h254, k254, X254, e254, E254, A254, st254⟩ := newP X0 hx hZ (hw _ (List.mem_of_getElem? (i := 2) rfl)) e0 (g := (mkF m 53 #[.val (.int p1), .val (.int p2), .val (.int p3), .val (.int p4), .val (.int (5 : Int32)), .val (.int c1), .val (.int c2), .val (.int c3), .val (.int c4), .val (.int c5), .val (.int c6), .unset, .unset, .unset] [(.int (5 : Int32))])) rfl (hb hby at_53) rfl (by decide) (cap := 5) (by decide) (by decide) (by decide) (by decide)
  obtain ⟨b254, g254⟩ : ∃ z, z = h1.size := ⟨_, rfl⟩
  rw [← g254] at A254 st254
  refine own_go st254 ?_
  have C255 := C0.trans (CHr.ext E254 C0.1)
  have V254 : Arv Z h254 b254 k254 .char (5 : Int32) [(.int (0 : Int32)), (.int (0 : Int32)), (.int (0 : Int32)), (.int (0 : Int32)), (.int (0 : Int32))] (.int (0 : Int32)) := (Arv.new A254 (by decide)).pad (pad_rep [] (.int (0 : Int32)) 5)
  show own_Go p e below (T254.setTop (mkF m 55 #[.val (.int p1), .val (.int p2), .val (.int p3), .val (.int p4), .val (.int (5 : Int32)), .val (.int c1), .val (.int c2), .val (.int c3), .val (.int c4), .val (.int c5), .val (.int c6), .unset, .unset, .unset] [(.ref b254)])) _
  refine own_go (fun _ k => XS.astore X254.here hx rfl (hb hby at_55) rfl rfl (l' := #[.val (.int p1), .val (.int p2), .val (.int p3), .val (.int p4), .val (.int (5 : Int32)), .val (.int c1), .val (.int c2), .val (.int c3), .val (.int c4), .val (.int c5), .val (.int c6), .val (.ref b254), .unset, .unset]) rfl k) ?_
  show own_Go p e below (T254.setTop (mkF m 57 #[.val (.int p1), .val (.int p2), .val (.int p3), .val (.int p4), .val (.int (5 : Int32)), .val (.int c1), .val (.int c2), .val (.int c3), .val (.int c4), .val (.int c5), .val (.int c6), .val (.ref b254), .unset, .unset] [])) _
  refine own_go (fun _ k => XS.iload X254.here hx rfl (hb hby at_57) rfl k) ?_
  show own_Go p e below (T254.setTop (mkF m 59 #[.val (.int p1), .val (.int p2), .val (.int p3), .val (.int p4), .val (.int (5 : Int32)), .val (.int c1), .val (.int c2), .val (.int c3), .val (.int c4), .val (.int c5), .val (.int c6), .val (.ref b254), .unset, .unset] [(.int (5 : Int32))])) _
  refine own_go (fun _ k => XS.ifNo X254.here hx rfl (hb hby at_59) rfl ((if0 _ _).trans (tlt (by decide : (0 : Int32) < (5 : Int32))).2.2.2) k) ?_
  show own_Go p e below (T254.setTop (mkF m 62 #[.val (.int p1), .val (.int p2), .val (.int p3), .val (.int p4), .val (.int (5 : Int32)), .val (.int c1), .val (.int c2), .val (.int c3), .val (.int c4), .val (.int c5), .val (.int c6), .val (.ref b254), .unset, .unset] [])) _
  refine own_go (fun _ k => XS.aload X254.here hx rfl (hb hby at_62) rfl rfl k) ?_
  show own_Go p e below (T254.setTop (mkF m 64 #[.val (.int p1), .val (.int p2), .val (.int p3), .val (.int p4), .val (.int (5 : Int32)), .val (.int c1), .val (.int c2), .val (.int c3), .val (.int c4), .val (.int c5), .val (.int c6), .val (.ref b254), .unset, .unset] [(.ref b254)])) _
  refine own_go (fun _ k => XS.iconst X254.here hx rfl (hb hby at_64) k) ?_
  show own_Go p e below (T254.setTop (mkF m 65 #[.val (.int p1), .val (.int p2), .val (.int p3), .val (.int p4), .val (.int (5 : Int32)), .val (.int c1), .val (.int c2), .val (.int c3), .val (.int c4), .val (.int c5), .val (.int c6), .val (.ref b254), .unset, .unset] [(.int (0 : Int32)), (.ref b254)])) _
  refine own_go (fun _ k => XS.iload X254.here hx rfl (hb hby at_65) rfl k) ?_
  show own_Go p e below (T254.setTop (mkF m 67 #[.val (.int p1), .val (.int p2), .val (.int p3), .val (.int p4), .val (.int (5 : Int32)), .val (.int c1), .val (.int c2), .val (.int c3), .val (.int c4), .val (.int c5), .val (.int c6), .val (.ref b254), .unset, .unset] [(.int c1), (.int (0 : Int32)), (.ref b254)])) _
  obtain ⟨c256, A256, q256, S256, M256, Hs256, Gs256⟩ := id V254
  obtain ⟨T257, h257, X257, e257, W257, st257⟩ := stC X254 hx hZ e254 A256 (j := (0 : Int32)) (inb_of S256 ⟨by decide, by decide⟩) (g := (mkF m 67 #[.val (.int p1), .val (.int p2), .val (.int p3), .val (.int p4), .val (.int (5 : Int32)), .val (.int c1), .val (.int c2), .val (.int c3), .val (.int c4), .val (.int c5), .val (.int c6), .val (.ref b254), .unset, .unset] [(.int c1), (.int (0 : Int32)), (.ref b254)])) rfl rfl (hb hby at_67)
  refine own_go st257 ?_
  have N257 := Fr.snoc X257 N0 (Nat.le_trans Z0 (Nat.le_of_eq g254.symm))
  have f258 := (Safe.ext E254 C0.1 (Safe.new (Nat.le_of_eq g254.symm)))
  have C259 := C255.trans (CHr.wr W257 f258 C255.1)
  have V257 : Arv Z h257 b254 k254 .char (5 : Int32) [(.int (nar .char c1)), (.int (0 : Int32)), (.int (0 : Int32)), (.int (0 : Int32)), (.int (0 : Int32))] (.int (0 : Int32)) := Arv.set A256 q256 S256 M256 Hs256 Gs256 (fits_nar_char _) W257 0 rfl (Nat.le_of_ble_eq_true rfl)
  have V257q : Arv Z h257 b254 k254 .char (5 : Int32) [(.int c1), (.int (0 : Int32)), (.int (0 : Int32)), (.int (0 : Int32)), (.int (0 : Int32))] (.int (0 : Int32)) := by rw [show nar .char c1 = c1 from (own_nc b_c1.1 b_c1.2)] at V257; exact V257
  show own_Go p e below (T257.setTop (mkF m 68 #[.val (.int p1), .val (.int p2), .val (.int p3), .val (.int p4), .val (.int (5 : Int32)), .val (.int c1), .val (.int c2), .val (.int c3), .val (.int c4), .val (.int c5), .val (.int c6), .val (.ref b254), .unset, .unset] [])) _
  refine own_go (fun _ k => XS.iload X257.here hx rfl (hb hby at_68) rfl k) ?_
  show own_Go p e below (T257.setTop (mkF m 70 #[.val (.int p1), .val (.int p2), .val (.int p3), .val (.int p4), .val (.int (5 : Int32)), .val (.int c1), .val (.int c2), .val (.int c3), .val (.int c4), .val (.int c5), .val (.int c6), .val (.ref b254), .unset, .unset] [(.int (5 : Int32))])) _
  refine own_go (fun _ k => XS.iconst X257.here hx rfl (hb hby at_70) k) ?_
  show own_Go p e below (T257.setTop (mkF m 71 #[.val (.int p1), .val (.int p2), .val (.int p3), .val (.int p4), .val (.int (5 : Int32)), .val (.int c1), .val (.int c2), .val (.int c3), .val (.int c4), .val (.int c5), .val (.int c6), .val (.ref b254), .unset, .unset] [(.int (1 : Int32)), (.int (5 : Int32))])) _
  refine own_go (fun _ k => XS.icmpNo X257.here hx rfl (hb hby at_71) rfl (tlt (by decide : (1 : Int32) < (5 : Int32))).2.2.2 k) ?_
  show own_Go p e below (T257.setTop (mkF m 74 #[.val (.int p1), .val (.int p2), .val (.int p3), .val (.int p4), .val (.int (5 : Int32)), .val (.int c1), .val (.int c2), .val (.int c3), .val (.int c4), .val (.int c5), .val (.int c6), .val (.ref b254), .unset, .unset] [])) _
  refine own_go (fun _ k => XS.aload X257.here hx rfl (hb hby at_74) rfl rfl k) ?_
  show own_Go p e below (T257.setTop (mkF m 76 #[.val (.int p1), .val (.int p2), .val (.int p3), .val (.int p4), .val (.int (5 : Int32)), .val (.int c1), .val (.int c2), .val (.int c3), .val (.int c4), .val (.int c5), .val (.int c6), .val (.ref b254), .unset, .unset] [(.ref b254)])) _
  refine own_go (fun _ k => XS.iconst X257.here hx rfl (hb hby at_76) k) ?_
  show own_Go p e below (T257.setTop (mkF m 77 #[.val (.int p1), .val (.int p2), .val (.int p3), .val (.int p4), .val (.int (5 : Int32)), .val (.int c1), .val (.int c2), .val (.int c3), .val (.int c4), .val (.int c5), .val (.int c6), .val (.ref b254), .unset, .unset] [(.int (1 : Int32)), (.ref b254)])) _
  refine own_go (fun _ k => XS.iload X257.here hx rfl (hb hby at_77) rfl k) ?_
  show own_Go p e below (T257.setTop (mkF m 79 #[.val (.int p1), .val (.int p2), .val (.int p3), .val (.int p4), .val (.int (5 : Int32)), .val (.int c1), .val (.int c2), .val (.int c3), .val (.int c4), .val (.int c5), .val (.int c6), .val (.ref b254), .unset, .unset] [(.int c2), (.int (1 : Int32)), (.ref b254)])) _
  obtain ⟨c260, A260, q260, S260, M260, Hs260, Gs260⟩ := id V257q
  obtain ⟨T261, h261, X261, e261, W261, st261⟩ := stC X257 hx hZ e257 A260 (j := (1 : Int32)) (inb_of S260 ⟨by decide, by decide⟩) (g := (mkF m 79 #[.val (.int p1), .val (.int p2), .val (.int p3), .val (.int p4), .val (.int (5 : Int32)), .val (.int c1), .val (.int c2), .val (.int c3), .val (.int c4), .val (.int c5), .val (.int c6), .val (.ref b254), .unset, .unset] [(.int c2), (.int (1 : Int32)), (.ref b254)])) rfl rfl (hb hby at_79)
  refine own_go st261 ?_
  have N261 := Fr.snoc X261 N257 (Nat.le_trans Z0 (Nat.le_of_eq g254.symm))
  have f262 := (Safe.wr W257 f258 C255.1 f258)
  have C263 := C259.trans (CHr.wr W261 f262 C259.1)
  have V261 : Arv Z h261 b254 k254 .char (5 : Int32) [(.int c1), (.int (nar .char c2)), (.int (0 : Int32)), (.int (0 : Int32)), (.int (0 : Int32))] (.int (0 : Int32)) := Arv.set A260 q260 S260 M260 Hs260 Gs260 (fits_nar_char _) W261 1 rfl (Nat.le_of_ble_eq_true rfl)
  have V261q : Arv Z h261 b254 k254 .char (5 : Int32) [(.int c1), (.int c2), (.int (0 : Int32)), (.int (0 : Int32)), (.int (0 : Int32))] (.int (0 : Int32)) := by rw [show nar .char c2 = c2 from (own_nc b_c2.1 b_c2.2)] at V261; exact V261
  show own_Go p e below (T261.setTop (mkF m 80 #[.val (.int p1), .val (.int p2), .val (.int p3), .val (.int p4), .val (.int (5 : Int32)), .val (.int c1), .val (.int c2), .val (.int c3), .val (.int c4), .val (.int c5), .val (.int c6), .val (.ref b254), .unset, .unset] [])) _
  refine own_go (fun _ k => XS.iload X261.here hx rfl (hb hby at_80) rfl k) ?_
  show own_Go p e below (T261.setTop (mkF m 82 #[.val (.int p1), .val (.int p2), .val (.int p3), .val (.int p4), .val (.int (5 : Int32)), .val (.int c1), .val (.int c2), .val (.int c3), .val (.int c4), .val (.int c5), .val (.int c6), .val (.ref b254), .unset, .unset] [(.int (5 : Int32))])) _
  refine own_go (fun _ k => XS.iconst X261.here hx rfl (hb hby at_82) k) ?_
  show own_Go p e below (T261.setTop (mkF m 83 #[.val (.int p1), .val (.int p2), .val (.int p3), .val (.int p4), .val (.int (5 : Int32)), .val (.int c1), .val (.int c2), .val (.int c3), .val (.int c4), .val (.int c5), .val (.int c6), .val (.ref b254), .unset, .unset] [(.int (2 : Int32)), (.int (5 : Int32))])) _
  refine own_go (fun _ k => XS.icmpNo X261.here hx rfl (hb hby at_83) rfl (tlt (by decide : (2 : Int32) < (5 : Int32))).2.2.2 k) ?_
  show own_Go p e below (T261.setTop (mkF m 86 #[.val (.int p1), .val (.int p2), .val (.int p3), .val (.int p4), .val (.int (5 : Int32)), .val (.int c1), .val (.int c2), .val (.int c3), .val (.int c4), .val (.int c5), .val (.int c6), .val (.ref b254), .unset, .unset] [])) _
  refine own_go (fun _ k => XS.aload X261.here hx rfl (hb hby at_86) rfl rfl k) ?_
  show own_Go p e below (T261.setTop (mkF m 88 #[.val (.int p1), .val (.int p2), .val (.int p3), .val (.int p4), .val (.int (5 : Int32)), .val (.int c1), .val (.int c2), .val (.int c3), .val (.int c4), .val (.int c5), .val (.int c6), .val (.ref b254), .unset, .unset] [(.ref b254)])) _
  refine own_go (fun _ k => XS.iconst X261.here hx rfl (hb hby at_88) k) ?_
  show own_Go p e below (T261.setTop (mkF m 89 #[.val (.int p1), .val (.int p2), .val (.int p3), .val (.int p4), .val (.int (5 : Int32)), .val (.int c1), .val (.int c2), .val (.int c3), .val (.int c4), .val (.int c5), .val (.int c6), .val (.ref b254), .unset, .unset] [(.int (2 : Int32)), (.ref b254)])) _
  refine own_go (fun _ k => XS.iload X261.here hx rfl (hb hby at_89) rfl k) ?_
  show own_Go p e below (T261.setTop (mkF m 91 #[.val (.int p1), .val (.int p2), .val (.int p3), .val (.int p4), .val (.int (5 : Int32)), .val (.int c1), .val (.int c2), .val (.int c3), .val (.int c4), .val (.int c5), .val (.int c6), .val (.ref b254), .unset, .unset] [(.int c3), (.int (2 : Int32)), (.ref b254)])) _
  obtain ⟨c264, A264, q264, S264, M264, Hs264, Gs264⟩ := id V261q
  obtain ⟨T265, h265, X265, e265, W265, st265⟩ := stC X261 hx hZ e261 A264 (j := (2 : Int32)) (inb_of S264 ⟨by decide, by decide⟩) (g := (mkF m 91 #[.val (.int p1), .val (.int p2), .val (.int p3), .val (.int p4), .val (.int (5 : Int32)), .val (.int c1), .val (.int c2), .val (.int c3), .val (.int c4), .val (.int c5), .val (.int c6), .val (.ref b254), .unset, .unset] [(.int c3), (.int (2 : Int32)), (.ref b254)])) rfl rfl (hb hby at_91)
  refine own_go st265 ?_
  have N265 := Fr.snoc X265 N261 (Nat.le_trans Z0 (Nat.le_of_eq g254.symm))
  have f266 := (Safe.wr W261 f262 C259.1 f262)
  have C267 := C263.trans (CHr.wr W265 f266 C263.1)
  have V265 : Arv Z h265 b254 k254 .char (5 : Int32) [(.int c1), (.int c2), (.int (nar .char c3)), (.int (0 : Int32)), (.int (0 : Int32))] (.int (0 : Int32)) := Arv.set A264 q264 S264 M264 Hs264 Gs264 (fits_nar_char _) W265 2 rfl (Nat.le_of_ble_eq_true rfl)
  have V265q : Arv Z h265 b254 k254 .char (5 : Int32) [(.int c1), (.int c2), (.int c3), (.int (0 : Int32)), (.int (0 : Int32))] (.int (0 : Int32)) := by rw [show nar .char c3 = c3 from (own_nc b_c3.1 b_c3.2)] at V265; exact V265
  show own_Go p e below (T265.setTop (mkF m 92 #[.val (.int p1), .val (.int p2), .val (.int p3), .val (.int p4), .val (.int (5 : Int32)), .val (.int c1), .val (.int c2), .val (.int c3), .val (.int c4), .val (.int c5), .val (.int c6), .val (.ref b254), .unset, .unset] [])) _
  refine own_go (fun _ k => XS.iload X265.here hx rfl (hb hby at_92) rfl k) ?_
  show own_Go p e below (T265.setTop (mkF m 94 #[.val (.int p1), .val (.int p2), .val (.int p3), .val (.int p4), .val (.int (5 : Int32)), .val (.int c1), .val (.int c2), .val (.int c3), .val (.int c4), .val (.int c5), .val (.int c6), .val (.ref b254), .unset, .unset] [(.int (5 : Int32))])) _
  refine own_go (fun _ k => XS.iconst X265.here hx rfl (hb hby at_94) k) ?_
  show own_Go p e below (T265.setTop (mkF m 95 #[.val (.int p1), .val (.int p2), .val (.int p3), .val (.int p4), .val (.int (5 : Int32)), .val (.int c1), .val (.int c2), .val (.int c3), .val (.int c4), .val (.int c5), .val (.int c6), .val (.ref b254), .unset, .unset] [(.int (3 : Int32)), (.int (5 : Int32))])) _
  refine own_go (fun _ k => XS.icmpNo X265.here hx rfl (hb hby at_95) rfl (tlt (by decide : (3 : Int32) < (5 : Int32))).2.2.2 k) ?_
  show own_Go p e below (T265.setTop (mkF m 98 #[.val (.int p1), .val (.int p2), .val (.int p3), .val (.int p4), .val (.int (5 : Int32)), .val (.int c1), .val (.int c2), .val (.int c3), .val (.int c4), .val (.int c5), .val (.int c6), .val (.ref b254), .unset, .unset] [])) _
  refine own_go (fun _ k => XS.aload X265.here hx rfl (hb hby at_98) rfl rfl k) ?_
  show own_Go p e below (T265.setTop (mkF m 100 #[.val (.int p1), .val (.int p2), .val (.int p3), .val (.int p4), .val (.int (5 : Int32)), .val (.int c1), .val (.int c2), .val (.int c3), .val (.int c4), .val (.int c5), .val (.int c6), .val (.ref b254), .unset, .unset] [(.ref b254)])) _
  refine own_go (fun _ k => XS.iconst X265.here hx rfl (hb hby at_100) k) ?_
  show own_Go p e below (T265.setTop (mkF m 101 #[.val (.int p1), .val (.int p2), .val (.int p3), .val (.int p4), .val (.int (5 : Int32)), .val (.int c1), .val (.int c2), .val (.int c3), .val (.int c4), .val (.int c5), .val (.int c6), .val (.ref b254), .unset, .unset] [(.int (3 : Int32)), (.ref b254)])) _
  refine own_go (fun _ k => XS.iload X265.here hx rfl (hb hby at_101) rfl k) ?_
  show own_Go p e below (T265.setTop (mkF m 103 #[.val (.int p1), .val (.int p2), .val (.int p3), .val (.int p4), .val (.int (5 : Int32)), .val (.int c1), .val (.int c2), .val (.int c3), .val (.int c4), .val (.int c5), .val (.int c6), .val (.ref b254), .unset, .unset] [(.int c4), (.int (3 : Int32)), (.ref b254)])) _
  obtain ⟨c268, A268, q268, S268, M268, Hs268, Gs268⟩ := id V265q
  obtain ⟨T269, h269, X269, e269, W269, st269⟩ := stC X265 hx hZ e265 A268 (j := (3 : Int32)) (inb_of S268 ⟨by decide, by decide⟩) (g := (mkF m 103 #[.val (.int p1), .val (.int p2), .val (.int p3), .val (.int p4), .val (.int (5 : Int32)), .val (.int c1), .val (.int c2), .val (.int c3), .val (.int c4), .val (.int c5), .val (.int c6), .val (.ref b254), .unset, .unset] [(.int c4), (.int (3 : Int32)), (.ref b254)])) rfl rfl (hb hby at_103)
  refine own_go st269 ?_
  have N269 := Fr.snoc X269 N265 (Nat.le_trans Z0 (Nat.le_of_eq g254.symm))
  have f270 := (Safe.wr W265 f266 C263.1 f266)
  have C271 := C267.trans (CHr.wr W269 f270 C267.1)
  have V269 : Arv Z h269 b254 k254 .char (5 : Int32) [(.int c1), (.int c2), (.int c3), (.int (nar .char c4)), (.int (0 : Int32))] (.int (0 : Int32)) := Arv.set A268 q268 S268 M268 Hs268 Gs268 (fits_nar_char _) W269 3 rfl (Nat.le_of_ble_eq_true rfl)
  have V269q : Arv Z h269 b254 k254 .char (5 : Int32) [(.int c1), (.int c2), (.int c3), (.int c4), (.int (0 : Int32))] (.int (0 : Int32)) := by rw [show nar .char c4 = c4 from (own_nc b_c4.1 b_c4.2)] at V269; exact V269
  show own_Go p e below (T269.setTop (mkF m 104 #[.val (.int p1), .val (.int p2), .val (.int p3), .val (.int p4), .val (.int (5 : Int32)), .val (.int c1), .val (.int c2), .val (.int c3), .val (.int c4), .val (.int c5), .val (.int c6), .val (.ref b254), .unset, .unset] [])) _
  refine own_go (fun _ k => XS.iload X269.here hx rfl (hb hby at_104) rfl k) ?_
  show own_Go p e below (T269.setTop (mkF m 106 #[.val (.int p1), .val (.int p2), .val (.int p3), .val (.int p4), .val (.int (5 : Int32)), .val (.int c1), .val (.int c2), .val (.int c3), .val (.int c4), .val (.int c5), .val (.int c6), .val (.ref b254), .unset, .unset] [(.int (5 : Int32))])) _
  refine own_go (fun _ k => XS.iconst X269.here hx rfl (hb hby at_106) k) ?_
  show own_Go p e below (T269.setTop (mkF m 107 #[.val (.int p1), .val (.int p2), .val (.int p3), .val (.int p4), .val (.int (5 : Int32)), .val (.int c1), .val (.int c2), .val (.int c3), .val (.int c4), .val (.int c5), .val (.int c6), .val (.ref b254), .unset, .unset] [(.int (4 : Int32)), (.int (5 : Int32))])) _
  refine own_go (fun _ k => XS.icmpNo X269.here hx rfl (hb hby at_107) rfl (tlt (by decide : (4 : Int32) < (5 : Int32))).2.2.2 k) ?_
  show own_Go p e below (T269.setTop (mkF m 110 #[.val (.int p1), .val (.int p2), .val (.int p3), .val (.int p4), .val (.int (5 : Int32)), .val (.int c1), .val (.int c2), .val (.int c3), .val (.int c4), .val (.int c5), .val (.int c6), .val (.ref b254), .unset, .unset] [])) _
  refine own_go (fun _ k => XS.aload X269.here hx rfl (hb hby at_110) rfl rfl k) ?_
  show own_Go p e below (T269.setTop (mkF m 112 #[.val (.int p1), .val (.int p2), .val (.int p3), .val (.int p4), .val (.int (5 : Int32)), .val (.int c1), .val (.int c2), .val (.int c3), .val (.int c4), .val (.int c5), .val (.int c6), .val (.ref b254), .unset, .unset] [(.ref b254)])) _
  refine own_go (fun _ k => XS.iconst X269.here hx rfl (hb hby at_112) k) ?_
  show own_Go p e below (T269.setTop (mkF m 113 #[.val (.int p1), .val (.int p2), .val (.int p3), .val (.int p4), .val (.int (5 : Int32)), .val (.int c1), .val (.int c2), .val (.int c3), .val (.int c4), .val (.int c5), .val (.int c6), .val (.ref b254), .unset, .unset] [(.int (4 : Int32)), (.ref b254)])) _
  refine own_go (fun _ k => XS.iload X269.here hx rfl (hb hby at_113) rfl k) ?_
  show own_Go p e below (T269.setTop (mkF m 115 #[.val (.int p1), .val (.int p2), .val (.int p3), .val (.int p4), .val (.int (5 : Int32)), .val (.int c1), .val (.int c2), .val (.int c3), .val (.int c4), .val (.int c5), .val (.int c6), .val (.ref b254), .unset, .unset] [(.int c5), (.int (4 : Int32)), (.ref b254)])) _
  obtain ⟨c272, A272, q272, S272, M272, Hs272, Gs272⟩ := id V269q
  obtain ⟨T273, h273, X273, e273, W273, st273⟩ := stC X269 hx hZ e269 A272 (j := (4 : Int32)) (inb_of S272 ⟨by decide, by decide⟩) (g := (mkF m 115 #[.val (.int p1), .val (.int p2), .val (.int p3), .val (.int p4), .val (.int (5 : Int32)), .val (.int c1), .val (.int c2), .val (.int c3), .val (.int c4), .val (.int c5), .val (.int c6), .val (.ref b254), .unset, .unset] [(.int c5), (.int (4 : Int32)), (.ref b254)])) rfl rfl (hb hby at_115)
  refine own_go st273 ?_
  have N273 := Fr.snoc X273 N269 (Nat.le_trans Z0 (Nat.le_of_eq g254.symm))
  have f274 := (Safe.wr W269 f270 C267.1 f270)
  have C275 := C271.trans (CHr.wr W273 f274 C271.1)
  have V273 : Arv Z h273 b254 k254 .char (5 : Int32) [(.int c1), (.int c2), (.int c3), (.int c4), (.int (nar .char c5))] (.int (0 : Int32)) := Arv.set A272 q272 S272 M272 Hs272 Gs272 (fits_nar_char _) W273 4 rfl (Nat.le_of_ble_eq_true rfl)
  have V273q : Arv Z h273 b254 k254 .char (5 : Int32) [(.int c1), (.int c2), (.int c3), (.int c4), (.int c5)] (.int (0 : Int32)) := by rw [show nar .char c5 = c5 from (own_nc b_c5.1 b_c5.2)] at V273; exact V273
  show own_Go p e below (T273.setTop (mkF m 116 #[.val (.int p1), .val (.int p2), .val (.int p3), .val (.int p4), .val (.int (5 : Int32)), .val (.int c1), .val (.int c2), .val (.int c3), .val (.int c4), .val (.int c5), .val (.int c6), .val (.ref b254), .unset, .unset] [])) _
  refine own_go (fun _ k => XS.iload X273.here hx rfl (hb hby at_116) rfl k) ?_
  show own_Go p e below (T273.setTop (mkF m 118 #[.val (.int p1), .val (.int p2), .val (.int p3), .val (.int p4), .val (.int (5 : Int32)), .val (.int c1), .val (.int c2), .val (.int c3), .val (.int c4), .val (.int c5), .val (.int c6), .val (.ref b254), .unset, .unset] [(.int (5 : Int32))])) _
  refine own_go (fun _ k => XS.iconst X273.here hx rfl (hb hby at_118) k) ?_
  show own_Go p e below (T273.setTop (mkF m 119 #[.val (.int p1), .val (.int p2), .val (.int p3), .val (.int p4), .val (.int (5 : Int32)), .val (.int c1), .val (.int c2), .val (.int c3), .val (.int c4), .val (.int c5), .val (.int c6), .val (.ref b254), .unset, .unset] [(.int (5 : Int32)), (.int (5 : Int32))])) _
  refine own_go (fun _ k => XS.icmpYes X273.here hx rfl (pc0 := 119) (pc' := 128) rfl (hb hby at_119) rfl (flt (by decide : ¬ ((5 : Int32) < (5 : Int32)))).2.2.2 (by decide) (by decide) k) ?_
  show own_Go p e below (T273.setTop (mkF m 128 #[.val (.int p1), .val (.int p2), .val (.int p3), .val (.int p4), .val (.int (5 : Int32)), .val (.int c1), .val (.int c2), .val (.int c3), .val (.int c4), .val (.int c5), .val (.int c6), .val (.ref b254), .unset, .unset] [])) _
  obtain ⟨T276, h276, X276, e276, E276, A276, D276, U276, st276⟩ := newO X273 hx hZ hown (hw _ (List.mem_of_getElem? (i := 3) rfl)) (hw _ (List.mem_of_getElem? (i := 4) rfl)) (hw _ (List.mem_of_getElem? (i := 5) rfl)) e273 (g := (mkF m 128 #[.val (.int p1), .val (.int p2), .val (.int p3), .val (.int p4), .val (.int (5 : Int32)), .val (.int c1), .val (.int c2), .val (.int c3), .val (.int c4), .val (.int c5), .val (.int c6), .val (.ref b254), .unset, .unset] [])) rfl (hb hby at_128) (by decide) (by decide)
  obtain ⟨b276, g276⟩ : ∃ z, z = h273.size := ⟨_, rfl⟩
  rw [← g276] at A276 D276 U276 st276
  refine own_go st276 ?_
  have C277 := C275.trans (CHr.ext E276 C275.1)
  have F276_coder : Fld Z h276 b276 "java/lang/String" "coder" "B" (.int (0 : Int32)) := D276 (Or.inr (hw _ (List.mem_of_getElem? (i := 29) rfl))) (ty := .byte) (by decide)
  have F276_value : Fld Z h276 b276 "java/lang/String" "value" "[B" .null := D276 (Or.inr (hw _ (List.mem_of_getElem? (i := 31) rfl))) (ty := (.array .byte)) (by decide)
  show own_Go p e below (T276.setTop (mkF m 131 #[.val (.int p1), .val (.int p2), .val (.int p3), .val (.int p4), .val (.int (5 : Int32)), .val (.int c1), .val (.int c2), .val (.int c3), .val (.int c4), .val (.int c5), .val (.int c6), .val (.ref b254), .unset, .unset] [(.ref b276)])) _
  refine own_go (fun _ k => XS.dup X276.here hx rfl (hb hby at_131) rfl rfl k) ?_
  show own_Go p e below (T276.setTop (mkF m 132 #[.val (.int p1), .val (.int p2), .val (.int p3), .val (.int p4), .val (.int (5 : Int32)), .val (.int c1), .val (.int c2), .val (.int c3), .val (.int c4), .val (.int c5), .val (.int c6), .val (.ref b254), .unset, .unset] [(.ref b276), (.ref b276)])) _
  refine own_go (fun _ k => XS.aload X276.here hx rfl (hb hby at_132) rfl rfl k) ?_
  show own_Go p e below (T276.setTop (mkF m 134 #[.val (.int p1), .val (.int p2), .val (.int p3), .val (.int p4), .val (.int (5 : Int32)), .val (.int c1), .val (.int c2), .val (.int c3), .val (.int c4), .val (.int c5), .val (.int c6), .val (.ref b254), .unset, .unset] [(.ref b254), (.ref b276), (.ref b276)])) _
  have z278 := (Nat.le_trans (Nat.le_trans (Nat.le_trans (Nat.le_trans (Nat.le_trans E254.1 (Keep.of_wr W257).1) (Keep.of_wr W261).1) (Keep.of_wr W265).1) (Keep.of_wr W269).1) (Keep.of_wr W273).1)
  have f279 := (((((((O1.ext E254).wr W257 (Nat.le_trans Z0 (Nat.le_of_eq g254.symm))).wr W261 (Nat.le_trans Z0 (Nat.le_of_eq g254.symm))).wr W265 (Nat.le_trans Z0 (Nat.le_of_eq g254.symm))).wr W269 (Nat.le_trans Z0 (Nat.le_of_eq g254.symm))).wr W273 (Nat.le_trans Z0 (Nat.le_of_eq g254.symm))).ext E276)
  obtain ⟨v280, _, ⟨T280, L280, k280, n280⟩, -, X280, ⟨Lc280, hQ280, l280, y280, z280⟩, st280⟩ := X276.specialBack hx (y := (⟨"java/lang/String", "<init>", "([C)V"⟩ : MethodName)) rfl hown (mvT hZ (hw _ (List.mem_of_getElem? (i := 6) rfl))) (mvT hZ (hw _ (List.mem_of_getElem? (i := 7) rfl))) (mvT hZ (hw _ (List.mem_of_getElem? (i := 8) rfl))) (by decide) (backOf (W := 1) (rm_i1 l Z a0 hw [] b276 b254 k254 (.int (0 : Int32)) [c1, c2, c3, c4, c5] G1 h276 n0 f279 A276 F276_value F276_coder (Nat.le_trans Z0 (Nat.le_trans z278 (Nat.le_of_eq g276.symm))) OA OH OL O2 P5 (own_okL5 b_c1 b_c2 b_c3 b_c4 b_c5) (V273q.ext E276) (Nat.le_of_ble_eq_true rfl) (Nat.le_of_ble_eq_true rfl)) hZ (hw _ (List.mem_of_getElem? (i := 8) rfl)) (hw _ (List.mem_of_getElem? (i := 5) rfl)) (by decide) (by decide)) (g := (mkF m 134 #[.val (.int p1), .val (.int p2), .val (.int p3), .val (.int p4), .val (.int (5 : Int32)), .val (.int c1), .val (.int c2), .val (.int c3), .val (.int c4), .val (.int c5), .val (.int c6), .val (.ref b254), .unset, .unset] [(.ref b254), (.ref b276), (.ref b276)])) rfl (by rw [hml]; rfl) (Steps.refl _) (a := b276) (argsL := [(.ref b254)]) (rest := [(.ref b276)]) (lenOf pd_18 rfl) rfl (by show 2 * 0 + _ ≤ _; exact Nat.le_of_eq rfl) (hb hby at_134) (fun _ _ => ⟨rfl, e276, (by decide : 2 + 2 ≤ _), (by decide : 9 + 18 ≤ _)⟩)
  dsimp only [Pt.U, Pt.locs, Pt.cells, Pt.slots] at X280 l280 y280 z280 st280 hQ280
  subst l280 y280 z280
  refine own_gos st280 ?_
  obtain ⟨t280, kt280, cd280, N2280, vs280, rfl, Nq280, K280, Fv280, Fc280, Vt280, hC280⟩ := hQ280
  have f281 := (Safe.ext E276 C275.1 (Safe.new (Nat.le_of_eq g276.symm)))
  have C282 := C277.trans (CHr.keep K280 (sfS f281 sf0) C277.1)
  have N280 := Fr.app N273 Nq280
  show own_Go p e below (T280.setTop (mkF m 137 #[.val (.int p1), .val (.int p2), .val (.int p3), .val (.int p4), .val (.int (5 : Int32)), .val (.int c1), .val (.int c2), .val (.int c3), .val (.int c4), .val (.int c5), .val (.int c6), .val (.ref b254), .unset, .unset] [(.ref b276)])) _
  refine own_go (fun _ k => XS.astore X280.here hx rfl (hb hby at_137) rfl rfl (l' := #[.val (.int p1), .val (.int p2), .val (.int p3), .val (.int p4), .val (.int (5 : Int32)), .val (.int c1), .val (.int c2), .val (.int c3), .val (.int c4), .val (.int c5), .val (.int c6), .val (.ref b254), .val (.ref b276), .unset]) rfl k) ?_
  show own_Go p e below (T280.setTop (mkF m 139 #[.val (.int p1), .val (.int p2), .val (.int p3), .val (.int p4), .val (.int (5 : Int32)), .val (.int c1), .val (.int c2), .val (.int c3), .val (.int c4), .val (.int c5), .val (.int c6), .val (.ref b254), .val (.ref b276), .unset] [])) _
  have z283 := (Nat.le_trans (Nat.le_trans z278 E276.1) K280.1)
  have f284 := (f279.keep K280 (allS (Nat.le_trans Z0 (Nat.le_trans z278 (Nat.le_of_eq g276.symm))) all0))
  exact own_mid5 l Z a0 hw p1 p2 p3 p4 c1 c2 c3 c4 c5 c6 b254 b276 t280 kt280 cd280 N2280 vs280 G1 G3 h0 n0 X280 hx hby hml hown hZ hrt hlk T280.heap (rfl : T280.heap = T280.heap) N280 (Nat.le_trans Z0 z283) f284 hh hS0 (Nat.le_trans hk0 z283) C282 (A276.keep K280) Fv280 Fc280 Vt280 O2 P5 O4 rG3 OA OH OL hC280 (own_okL5 b_c1 b_c2 b_c3 b_c4 b_c5)

set_option maxRecDepth 65536 in
set_option maxHeartbeats 40000000 in
theorem own_end6 (l : Launch) (Z : State) (a0 : Array Value) (hw : ∀ d ∈ tables_1, d.before a0 Z = true) (p1 : Int32) (p2 : Int32) (p3 : Int32) (p4 : Int32) (nv : Int32) (c1 : Int32) (c2 : Int32) (c3 : Int32) (c4 : Int32) (c5 : Int32) (c6 : Int32) (ar : Addr) (ee : Int32) (x : Addr) (t : Addr) (kt : ClassId) (cs : List Int32) (cd : Int32) (N2 : Int32) (vs : List Value) (G1 : Int32) (G3 : Value) (h0 : Heap) (n0 : Nat) {p : Program} {e : Env} {s : State} {vm0 : Vm} {m : MethodId} {below : List Frame} {meth : Method} {cC : Code} {T0 : State} {locs : List Loc} (X0 : Stand p l e room_1 (s.setVm vm0) m #[(.int p1), (.int p2), (.int p3), (.int p4)] below meth cC T0 locs 4 28) (hx : p.tables.exec = Jvm.exec) (hby : cC.code = code) (hml : cC.maxLocals = maxLocals) (hown : (s.setVm vm0).vm.findClass "com/example/rolelattice/rolelattice/decision/CatalogIsExpressionPinLaw" = some m.cls) (hZ : Z.Warmed39 (s.setVm vm0).vm) (hrt : meth.sig.returnType = ret) (hlk : meth.locks = false) (h1 : Heap) (e0 : T0.heap = h1) (N0 : Fr n0 locs) (Z0 : n0 ≤ h1.size) (O1 : Old Z n0 h1) (hh : s.heap = h0) {k0 : Nat} (hS0 : s.Since vm0 k0) (hk0 : k0 ≤ h1.size) (C0 : CHr Z own_EL s.vm h0 vm0 h1) (E_x : Exa Z h1 x "java/lang/String") (Fv_x : Fld Z h1 x "java/lang/String" "value" "[B" (.ref t)) (Fc_x : Fld Z h1 x "java/lang/String" "coder" "B" (.int cd)) (V_t : Arv Z h1 t kt .byte N2 vs (.int (0 : Int32))) (O2 : Sta Z Z.heap "java/lang/String" "COMPACT_STRINGS" "Z" (.int G1)) (P5 : ¬ (G1 = (0 : Int32))) (O4 : Sta Z Z.heap "jdk/internal/util/Preconditions" "SIOOBE_FORMATTER" "Ljava/util/function/BiFunction;" G3) (rG3 : G3.isRef = true) (OA : Sta Z Z.heap "java/lang/StringUTF16" "$assertionsDisabled" "Z" (.int (1 : Int32))) (OH : Sta Z Z.heap "java/lang/StringUTF16" "HI_BYTE_SHIFT" "I" (.int (0 : Int32))) (OL : Sta Z Z.heap "java/lang/StringUTF16" "LO_BYTE_SHIFT" "I" (.int (8 : Int32))) (hC : StrChars.Road.CodA cs cd N2 vs) (hok : own_Ok cs) (hee : (own_ise cs) = ee) :
    own_Go p e below (T0.setTop (mkF m 229 #[.val (.int p1), .val (.int p2), .val (.int p3), .val (.int p4), .val (.int nv), .val (.int c1), .val (.int c2), .val (.int c3), .val (.int c4), .val (.int c5), .val (.int c6), .val (.ref ar), .val (.ref x), .val (.int ee)] [])) (fun oO U' => ∃ rV rL, oO = .returned rV ∧ QQ0 n0 rV U'.heap rL ∧ CHr Z own_EL s.vm s.heap U'.vm U'.heap ∧ ReturnedEndW s oO U' rL 24 1152) := by
  have own_wS := own_wSt hw
  have own_hEL := own_hELt hw
  show own_Go p e below (T0.setTop (mkF m 229 #[.val (.int p1), .val (.int p2), .val (.int p3), .val (.int p4), .val (.int nv), .val (.int c1), .val (.int c2), .val (.int c3), .val (.int c4), .val (.int c5), .val (.int c6), .val (.ref ar), .val (.ref x), .val (.int ee)] [])) _
  refine own_go (fun _ k => XS.aload X0.here hx rfl (hb hby at_229) rfl rfl k) ?_
  show own_Go p e below (T0.setTop (mkF m 231 #[.val (.int p1), .val (.int p2), .val (.int p3), .val (.int p4), .val (.int nv), .val (.int c1), .val (.int c2), .val (.int c3), .val (.int c4), .val (.int c5), .val (.int c6), .val (.ref ar), .val (.ref x), .val (.int ee)] [(.ref x)])) _
  obtain ⟨v285, _, ⟨T285, L285, k285, n285⟩, -, X285, ⟨Lc285, hQ285, l285, y285, z285⟩, st285⟩ := Jvm.LawKit.callS X0 hx (y := (⟨"com/example/rolelattice/rolelattice/decision/Catalog", "isExpression", "(Ljava/lang/String;)Z"⟩ : MethodName)) hown (mvT hZ (hw _ (List.mem_of_getElem? (i := 36) rfl))) (mvT hZ (hw _ (List.mem_of_getElem? (i := 37) rfl))) (mvT hZ (hw _ (List.mem_of_getElem? (i := 38) rfl))) (mvT hZ (hw _ (List.mem_of_getElem? (i := 39) rfl))) (by decide) (backOf (W := 0) (rm_ise l Z a0 hw [] x t kt cs cd N2 vs G1 G3 h1 n0 O1 O2 P5 O4 rG3 OA OH OL E_x Fv_x Fc_x V_t hC hok) hZ (hw _ (List.mem_of_getElem? (i := 39) rfl)) (hw _ (List.mem_of_getElem? (i := 38) rfl)) (by decide) (by decide)) (g := (mkF m 231 #[.val (.int p1), .val (.int p2), .val (.int p3), .val (.int p4), .val (.int nv), .val (.int c1), .val (.int c2), .val (.int c3), .val (.int c4), .val (.int c5), .val (.int c6), .val (.ref ar), .val (.ref x), .val (.int ee)] [(.ref x)])) rfl (by rw [hml]; rfl) (argsL := [(.ref x)]) (rest := []) (lenOf pd_17 rfl) rfl (by show 2 * 0 + _ ≤ _; exact Nat.le_of_eq rfl) (hb hby at_231) (fun _ _ => ⟨rfl, e0, (by decide : 4 + 0 ≤ _), (by decide : 28 + 0 ≤ _)⟩)
  dsimp only [Pt.U, Pt.locs, Pt.cells, Pt.slots] at X285 l285 y285 z285 st285 hQ285
  subst l285 y285 z285
  refine own_go st285 ?_
  obtain ⟨rfl, Nq285, e285⟩ := hQ285
  have N285 := Fr.app N0 Nq285
  show own_Go p e below (T285.setTop (mkF m 234 #[.val (.int p1), .val (.int p2), .val (.int p3), .val (.int p4), .val (.int nv), .val (.int c1), .val (.int c2), .val (.int c3), .val (.int c4), .val (.int c5), .val (.int c6), .val (.ref ar), .val (.ref x), .val (.int ee)] [(.int (own_ise cs))])) _
  refine own_go (fun _ k => XS.iload X285.here hx rfl (hb hby at_234) rfl k) ?_
  show own_Go p e below (T285.setTop (mkF m 236 #[.val (.int p1), .val (.int p2), .val (.int p3), .val (.int p4), .val (.int nv), .val (.int c1), .val (.int c2), .val (.int c3), .val (.int c4), .val (.int c5), .val (.int c6), .val (.ref ar), .val (.ref x), .val (.int ee)] [(.int ee), (.int (own_ise cs))])) _
  refine own_go (fun _ k => XS.icmpNo X285.here hx rfl (hb hby at_236) rfl (teq hee).2 k) ?_
  show own_Go p e below (T285.setTop (mkF m 239 #[.val (.int p1), .val (.int p2), .val (.int p3), .val (.int p4), .val (.int nv), .val (.int c1), .val (.int c2), .val (.int c3), .val (.int c4), .val (.int c5), .val (.int c6), .val (.ref ar), .val (.ref x), .val (.int ee)] [])) _
  refine own_go (fun _ k => XS.iconst X285.here hx rfl (hb hby at_239) k) ?_
  show own_Go p e below (T285.setTop (mkF m 240 #[.val (.int p1), .val (.int p2), .val (.int p3), .val (.int p4), .val (.int nv), .val (.int c1), .val (.int c2), .val (.int c3), .val (.int c4), .val (.int c5), .val (.int c6), .val (.ref ar), .val (.ref x), .val (.int ee)] [(.int (1 : Int32))])) _
  refine own_go (fun _ k => XS.goto X285.here hx rfl (pc0 := 240) (pc' := 244) rfl (hb hby at_240) (by decide) (by decide) k) ?_
  show own_Go p e below (T285.setTop (mkF m 244 #[.val (.int p1), .val (.int p2), .val (.int p3), .val (.int p4), .val (.int nv), .val (.int c1), .val (.int c2), .val (.int c3), .val (.int c4), .val (.int c5), .val (.int c6), .val (.ref ar), .val (.ref x), .val (.int ee)] [(.int (1 : Int32))])) _
  refine own_finW (v := (some (.int (nar .boolean (1 : Int32))))) X285 hh hZ hS0 (by rw [e285]; exact hk0) (fun h => by rw [hrt] at h; cases h) hlk (fun fs hr => retN X285 hx (t := .boolean) hrt (by simp) (hb hby at_244) hr) (QQ := QQ0 n0) ?_ own_hEL e285 (C0) (by decide) (by decide)
  rw [e285]
  exact ⟨rfl, N285⟩

set_option maxRecDepth 65536 in
set_option maxHeartbeats 40000000 in
theorem own_mid6 (l : Launch) (Z : State) (a0 : Array Value) (hw : ∀ d ∈ tables_1, d.before a0 Z = true) (p1 : Int32) (p2 : Int32) (p3 : Int32) (p4 : Int32) (c1 : Int32) (c2 : Int32) (c3 : Int32) (c4 : Int32) (c5 : Int32) (c6 : Int32) (ar : Addr) (x : Addr) (t : Addr) (kt : ClassId) (cd : Int32) (N2 : Int32) (vs : List Value) (G1 : Int32) (G3 : Value) (h0 : Heap) (n0 : Nat) {p : Program} {e : Env} {s : State} {vm0 : Vm} {m : MethodId} {below : List Frame} {meth : Method} {cC : Code} {T0 : State} {locs : List Loc} (X0 : Stand p l e room_1 (s.setVm vm0) m #[(.int p1), (.int p2), (.int p3), (.int p4)] below meth cC T0 locs 4 28) (hx : p.tables.exec = Jvm.exec) (hby : cC.code = code) (hml : cC.maxLocals = maxLocals) (hown : (s.setVm vm0).vm.findClass "com/example/rolelattice/rolelattice/decision/CatalogIsExpressionPinLaw" = some m.cls) (hZ : Z.Warmed39 (s.setVm vm0).vm) (hrt : meth.sig.returnType = ret) (hlk : meth.locks = false) (h1 : Heap) (e0 : T0.heap = h1) (N0 : Fr n0 locs) (Z0 : n0 ≤ h1.size) (O1 : Old Z n0 h1) (hh : s.heap = h0) {k0 : Nat} (hS0 : s.Since vm0 k0) (hk0 : k0 ≤ h1.size) (C0 : CHr Z own_EL s.vm h0 vm0 h1) (E_x : Exa Z h1 x "java/lang/String") (Fv_x : Fld Z h1 x "java/lang/String" "value" "[B" (.ref t)) (Fc_x : Fld Z h1 x "java/lang/String" "coder" "B" (.int cd)) (V_t : Arv Z h1 t kt .byte N2 vs (.int (0 : Int32))) (O2 : Sta Z Z.heap "java/lang/String" "COMPACT_STRINGS" "Z" (.int G1)) (P5 : ¬ (G1 = (0 : Int32))) (O4 : Sta Z Z.heap "jdk/internal/util/Preconditions" "SIOOBE_FORMATTER" "Ljava/util/function/BiFunction;" G3) (rG3 : G3.isRef = true) (OA : Sta Z Z.heap "java/lang/StringUTF16" "$assertionsDisabled" "Z" (.int (1 : Int32))) (OH : Sta Z Z.heap "java/lang/StringUTF16" "HI_BYTE_SHIFT" "I" (.int (0 : Int32))) (OL : Sta Z Z.heap "java/lang/StringUTF16" "LO_BYTE_SHIFT" "I" (.int (8 : Int32))) (hC : StrChars.Road.CodA ([c1, c2, c3, c4, c5, c6] : List Int32) cd N2 vs) (hok : own_Ok ([c1, c2, c3, c4, c5, c6] : List Int32)) :
    own_Go p e below (T0.setTop (mkF m 139 #[.val (.int p1), .val (.int p2), .val (.int p3), .val (.int p4), .val (.int (6 : Int32)), .val (.int c1), .val (.int c2), .val (.int c3), .val (.int c4), .val (.int c5), .val (.int c6), .val (.ref ar), .val (.ref x), .unset] [])) (fun oO U' => ∃ rV rL, oO = .returned rV ∧ QQ0 n0 rV U'.heap rL ∧ CHr Z own_EL s.vm s.heap U'.vm U'.heap ∧ ReturnedEndW s oO U' rL 24 1152) := by
  have own_wS := own_wSt hw
  have own_hEL := own_hELt hw
  show own_Go p e below (T0.setTop (mkF m 139 #[.val (.int p1), .val (.int p2), .val (.int p3), .val (.int p4), .val (.int (6 : Int32)), .val (.int c1), .val (.int c2), .val (.int c3), .val (.int c4), .val (.int c5), .val (.int c6), .val (.ref ar), .val (.ref x), .unset] [])) _
  refine own_go (fun _ k => XS.iload X0.here hx rfl (hb hby at_139) rfl k) ?_
  show own_Go p e below (T0.setTop (mkF m 141 #[.val (.int p1), .val (.int p2), .val (.int p3), .val (.int p4), .val (.int (6 : Int32)), .val (.int c1), .val (.int c2), .val (.int c3), .val (.int c4), .val (.int c5), .val (.int c6), .val (.ref ar), .val (.ref x), .unset] [(.int (6 : Int32))])) _
  refine own_go (fun _ k => XS.ifNo X0.here hx rfl (hb hby at_141) rfl ((if0 _ _).trans (tlt (by decide : (0 : Int32) < (6 : Int32))).2.2.2) k) ?_
  show own_Go p e below (T0.setTop (mkF m 144 #[.val (.int p1), .val (.int p2), .val (.int p3), .val (.int p4), .val (.int (6 : Int32)), .val (.int c1), .val (.int c2), .val (.int c3), .val (.int c4), .val (.int c5), .val (.int c6), .val (.ref ar), .val (.ref x), .unset] [])) _
  refine own_go (fun _ k => XS.iload X0.here hx rfl (hb hby at_144) rfl k) ?_
  show own_Go p e below (T0.setTop (mkF m 146 #[.val (.int p1), .val (.int p2), .val (.int p3), .val (.int p4), .val (.int (6 : Int32)), .val (.int c1), .val (.int c2), .val (.int c3), .val (.int c4), .val (.int c5), .val (.int c6), .val (.ref ar), .val (.ref x), .unset] [(.int c1)])) _
  obtain ⟨v286, _, ⟨T286, L286, k286, n286⟩, -, X286, ⟨Lc286, hQ286, l286, y286, z286⟩, st286⟩ := Jvm.LawKit.callS X0 hx (y := (⟨"com/example/rolelattice/rolelattice/decision/CatalogIsExpressionPinLaw", "wild", "(C)Z"⟩ : MethodName)) hown (mvT hZ (hw _ (List.mem_of_getElem? (i := 32) rfl))) (mvT hZ (hw _ (List.mem_of_getElem? (i := 33) rfl))) (mvT hZ (hw _ (List.mem_of_getElem? (i := 34) rfl))) (mvT hZ (hw _ (List.mem_of_getElem? (i := 35) rfl))) (by decide) (backOf (W := 0) (rm_wild l Z a0 hw [] c1 h1 n0 O1 ) hZ (hw _ (List.mem_of_getElem? (i := 35) rfl)) (hw _ (List.mem_of_getElem? (i := 34) rfl)) (by decide) (by decide)) (g := (mkF m 146 #[.val (.int p1), .val (.int p2), .val (.int p3), .val (.int p4), .val (.int (6 : Int32)), .val (.int c1), .val (.int c2), .val (.int c3), .val (.int c4), .val (.int c5), .val (.int c6), .val (.ref ar), .val (.ref x), .unset] [(.int c1)])) rfl (by rw [hml]; rfl) (argsL := [(.int c1)]) (rest := []) (lenOf pd_19 rfl) rfl (by show 2 * 0 + _ ≤ _; exact Nat.le_of_eq rfl) (hb hby at_146) (fun _ _ => ⟨rfl, e0, (by decide : 4 + 0 ≤ _), (by decide : 28 + 0 ≤ _)⟩)
  dsimp only [Pt.U, Pt.locs, Pt.cells, Pt.slots] at X286 l286 y286 z286 st286 hQ286
  subst l286 y286 z286
  refine own_go st286 ?_
  obtain ⟨rfl, Nq286, e286⟩ := hQ286
  have N286 := Fr.app N0 Nq286
  show own_Go p e below (T286.setTop (mkF m 149 #[.val (.int p1), .val (.int p2), .val (.int p3), .val (.int p4), .val (.int (6 : Int32)), .val (.int c1), .val (.int c2), .val (.int c3), .val (.int c4), .val (.int c5), .val (.int c6), .val (.ref ar), .val (.ref x), .unset] [(.int (own_wild c1))])) _
  by_cases hc287 : (own_wild c1) = (0 : Int32)
  · skip
    refine own_go (fun _ k => XS.ifNo X286.here hx rfl (hb hby at_149) rfl ((if0 _ _).trans (teq hc287).2) k) ?_
    show own_Go p e below (T286.setTop (mkF m 152 #[.val (.int p1), .val (.int p2), .val (.int p3), .val (.int p4), .val (.int (6 : Int32)), .val (.int c1), .val (.int c2), .val (.int c3), .val (.int c4), .val (.int c5), .val (.int c6), .val (.ref ar), .val (.ref x), .unset] [])) _
    refine own_go (fun _ k => XS.iload X286.here hx rfl (hb hby at_152) rfl k) ?_
    show own_Go p e below (T286.setTop (mkF m 154 #[.val (.int p1), .val (.int p2), .val (.int p3), .val (.int p4), .val (.int (6 : Int32)), .val (.int c1), .val (.int c2), .val (.int c3), .val (.int c4), .val (.int c5), .val (.int c6), .val (.ref ar), .val (.ref x), .unset] [(.int (6 : Int32))])) _
    refine own_go (fun _ k => XS.iconst X286.here hx rfl (hb hby at_154) k) ?_
    show own_Go p e below (T286.setTop (mkF m 155 #[.val (.int p1), .val (.int p2), .val (.int p3), .val (.int p4), .val (.int (6 : Int32)), .val (.int c1), .val (.int c2), .val (.int c3), .val (.int c4), .val (.int c5), .val (.int c6), .val (.ref ar), .val (.ref x), .unset] [(.int (1 : Int32)), (.int (6 : Int32))])) _
    refine own_go (fun _ k => XS.icmpNo X286.here hx rfl (hb hby at_155) rfl (tlt (by decide : (1 : Int32) < (6 : Int32))).2.2.2 k) ?_
    show own_Go p e below (T286.setTop (mkF m 158 #[.val (.int p1), .val (.int p2), .val (.int p3), .val (.int p4), .val (.int (6 : Int32)), .val (.int c1), .val (.int c2), .val (.int c3), .val (.int c4), .val (.int c5), .val (.int c6), .val (.ref ar), .val (.ref x), .unset] [])) _
    refine own_go (fun _ k => XS.iload X286.here hx rfl (hb hby at_158) rfl k) ?_
    show own_Go p e below (T286.setTop (mkF m 160 #[.val (.int p1), .val (.int p2), .val (.int p3), .val (.int p4), .val (.int (6 : Int32)), .val (.int c1), .val (.int c2), .val (.int c3), .val (.int c4), .val (.int c5), .val (.int c6), .val (.ref ar), .val (.ref x), .unset] [(.int c2)])) _
    obtain ⟨v288, _, ⟨T288, L288, k288, n288⟩, -, X288, ⟨Lc288, hQ288, l288, y288, z288⟩, st288⟩ := Jvm.LawKit.callS X286 hx (y := (⟨"com/example/rolelattice/rolelattice/decision/CatalogIsExpressionPinLaw", "wild", "(C)Z"⟩ : MethodName)) hown (mvT hZ (hw _ (List.mem_of_getElem? (i := 32) rfl))) (mvT hZ (hw _ (List.mem_of_getElem? (i := 33) rfl))) (mvT hZ (hw _ (List.mem_of_getElem? (i := 34) rfl))) (mvT hZ (hw _ (List.mem_of_getElem? (i := 35) rfl))) (by decide) (backOf (W := 0) (rm_wild l Z a0 hw [] c2 h1 n0 O1 ) hZ (hw _ (List.mem_of_getElem? (i := 35) rfl)) (hw _ (List.mem_of_getElem? (i := 34) rfl)) (by decide) (by decide)) (g := (mkF m 160 #[.val (.int p1), .val (.int p2), .val (.int p3), .val (.int p4), .val (.int (6 : Int32)), .val (.int c1), .val (.int c2), .val (.int c3), .val (.int c4), .val (.int c5), .val (.int c6), .val (.ref ar), .val (.ref x), .unset] [(.int c2)])) rfl (by rw [hml]; rfl) (argsL := [(.int c2)]) (rest := []) (lenOf pd_19 rfl) rfl (by show 2 * 0 + _ ≤ _; exact Nat.le_of_eq rfl) (hb hby at_160) (fun _ _ => ⟨rfl, e286, (by decide : 4 + 0 ≤ _), (by decide : 28 + 0 ≤ _)⟩)
    dsimp only [Pt.U, Pt.locs, Pt.cells, Pt.slots] at X288 l288 y288 z288 st288 hQ288
    subst l288 y288 z288
    refine own_go st288 ?_
    obtain ⟨rfl, Nq288, e288⟩ := hQ288
    have N288 := Fr.app N286 Nq288
    show own_Go p e below (T288.setTop (mkF m 163 #[.val (.int p1), .val (.int p2), .val (.int p3), .val (.int p4), .val (.int (6 : Int32)), .val (.int c1), .val (.int c2), .val (.int c3), .val (.int c4), .val (.int c5), .val (.int c6), .val (.ref ar), .val (.ref x), .unset] [(.int (own_wild c2))])) _
    by_cases hc289 : (own_wild c2) = (0 : Int32)
    · skip
      refine own_go (fun _ k => XS.ifNo X288.here hx rfl (hb hby at_163) rfl ((if0 _ _).trans (teq hc289).2) k) ?_
      show own_Go p e below (T288.setTop (mkF m 166 #[.val (.int p1), .val (.int p2), .val (.int p3), .val (.int p4), .val (.int (6 : Int32)), .val (.int c1), .val (.int c2), .val (.int c3), .val (.int c4), .val (.int c5), .val (.int c6), .val (.ref ar), .val (.ref x), .unset] [])) _
      refine own_go (fun _ k => XS.iload X288.here hx rfl (hb hby at_166) rfl k) ?_
      show own_Go p e below (T288.setTop (mkF m 168 #[.val (.int p1), .val (.int p2), .val (.int p3), .val (.int p4), .val (.int (6 : Int32)), .val (.int c1), .val (.int c2), .val (.int c3), .val (.int c4), .val (.int c5), .val (.int c6), .val (.ref ar), .val (.ref x), .unset] [(.int (6 : Int32))])) _
      refine own_go (fun _ k => XS.iconst X288.here hx rfl (hb hby at_168) k) ?_
      show own_Go p e below (T288.setTop (mkF m 169 #[.val (.int p1), .val (.int p2), .val (.int p3), .val (.int p4), .val (.int (6 : Int32)), .val (.int c1), .val (.int c2), .val (.int c3), .val (.int c4), .val (.int c5), .val (.int c6), .val (.ref ar), .val (.ref x), .unset] [(.int (2 : Int32)), (.int (6 : Int32))])) _
      refine own_go (fun _ k => XS.icmpNo X288.here hx rfl (hb hby at_169) rfl (tlt (by decide : (2 : Int32) < (6 : Int32))).2.2.2 k) ?_
      show own_Go p e below (T288.setTop (mkF m 172 #[.val (.int p1), .val (.int p2), .val (.int p3), .val (.int p4), .val (.int (6 : Int32)), .val (.int c1), .val (.int c2), .val (.int c3), .val (.int c4), .val (.int c5), .val (.int c6), .val (.ref ar), .val (.ref x), .unset] [])) _
      refine own_go (fun _ k => XS.iload X288.here hx rfl (hb hby at_172) rfl k) ?_
      show own_Go p e below (T288.setTop (mkF m 174 #[.val (.int p1), .val (.int p2), .val (.int p3), .val (.int p4), .val (.int (6 : Int32)), .val (.int c1), .val (.int c2), .val (.int c3), .val (.int c4), .val (.int c5), .val (.int c6), .val (.ref ar), .val (.ref x), .unset] [(.int c3)])) _
      obtain ⟨v290, _, ⟨T290, L290, k290, n290⟩, -, X290, ⟨Lc290, hQ290, l290, y290, z290⟩, st290⟩ := Jvm.LawKit.callS X288 hx (y := (⟨"com/example/rolelattice/rolelattice/decision/CatalogIsExpressionPinLaw", "wild", "(C)Z"⟩ : MethodName)) hown (mvT hZ (hw _ (List.mem_of_getElem? (i := 32) rfl))) (mvT hZ (hw _ (List.mem_of_getElem? (i := 33) rfl))) (mvT hZ (hw _ (List.mem_of_getElem? (i := 34) rfl))) (mvT hZ (hw _ (List.mem_of_getElem? (i := 35) rfl))) (by decide) (backOf (W := 0) (rm_wild l Z a0 hw [] c3 h1 n0 O1 ) hZ (hw _ (List.mem_of_getElem? (i := 35) rfl)) (hw _ (List.mem_of_getElem? (i := 34) rfl)) (by decide) (by decide)) (g := (mkF m 174 #[.val (.int p1), .val (.int p2), .val (.int p3), .val (.int p4), .val (.int (6 : Int32)), .val (.int c1), .val (.int c2), .val (.int c3), .val (.int c4), .val (.int c5), .val (.int c6), .val (.ref ar), .val (.ref x), .unset] [(.int c3)])) rfl (by rw [hml]; rfl) (argsL := [(.int c3)]) (rest := []) (lenOf pd_19 rfl) rfl (by show 2 * 0 + _ ≤ _; exact Nat.le_of_eq rfl) (hb hby at_174) (fun _ _ => ⟨rfl, e288, (by decide : 4 + 0 ≤ _), (by decide : 28 + 0 ≤ _)⟩)
      dsimp only [Pt.U, Pt.locs, Pt.cells, Pt.slots] at X290 l290 y290 z290 st290 hQ290
      subst l290 y290 z290
      refine own_go st290 ?_
      obtain ⟨rfl, Nq290, e290⟩ := hQ290
      have N290 := Fr.app N288 Nq290
      show own_Go p e below (T290.setTop (mkF m 177 #[.val (.int p1), .val (.int p2), .val (.int p3), .val (.int p4), .val (.int (6 : Int32)), .val (.int c1), .val (.int c2), .val (.int c3), .val (.int c4), .val (.int c5), .val (.int c6), .val (.ref ar), .val (.ref x), .unset] [(.int (own_wild c3))])) _
      by_cases hc291 : (own_wild c3) = (0 : Int32)
      · skip
        refine own_go (fun _ k => XS.ifNo X290.here hx rfl (hb hby at_177) rfl ((if0 _ _).trans (teq hc291).2) k) ?_
        show own_Go p e below (T290.setTop (mkF m 180 #[.val (.int p1), .val (.int p2), .val (.int p3), .val (.int p4), .val (.int (6 : Int32)), .val (.int c1), .val (.int c2), .val (.int c3), .val (.int c4), .val (.int c5), .val (.int c6), .val (.ref ar), .val (.ref x), .unset] [])) _
        refine own_go (fun _ k => XS.iload X290.here hx rfl (hb hby at_180) rfl k) ?_
        show own_Go p e below (T290.setTop (mkF m 182 #[.val (.int p1), .val (.int p2), .val (.int p3), .val (.int p4), .val (.int (6 : Int32)), .val (.int c1), .val (.int c2), .val (.int c3), .val (.int c4), .val (.int c5), .val (.int c6), .val (.ref ar), .val (.ref x), .unset] [(.int (6 : Int32))])) _
        refine own_go (fun _ k => XS.iconst X290.here hx rfl (hb hby at_182) k) ?_
        show own_Go p e below (T290.setTop (mkF m 183 #[.val (.int p1), .val (.int p2), .val (.int p3), .val (.int p4), .val (.int (6 : Int32)), .val (.int c1), .val (.int c2), .val (.int c3), .val (.int c4), .val (.int c5), .val (.int c6), .val (.ref ar), .val (.ref x), .unset] [(.int (3 : Int32)), (.int (6 : Int32))])) _
        refine own_go (fun _ k => XS.icmpNo X290.here hx rfl (hb hby at_183) rfl (tlt (by decide : (3 : Int32) < (6 : Int32))).2.2.2 k) ?_
        show own_Go p e below (T290.setTop (mkF m 186 #[.val (.int p1), .val (.int p2), .val (.int p3), .val (.int p4), .val (.int (6 : Int32)), .val (.int c1), .val (.int c2), .val (.int c3), .val (.int c4), .val (.int c5), .val (.int c6), .val (.ref ar), .val (.ref x), .unset] [])) _
        refine own_go (fun _ k => XS.iload X290.here hx rfl (hb hby at_186) rfl k) ?_
        show own_Go p e below (T290.setTop (mkF m 188 #[.val (.int p1), .val (.int p2), .val (.int p3), .val (.int p4), .val (.int (6 : Int32)), .val (.int c1), .val (.int c2), .val (.int c3), .val (.int c4), .val (.int c5), .val (.int c6), .val (.ref ar), .val (.ref x), .unset] [(.int c4)])) _
        obtain ⟨v292, _, ⟨T292, L292, k292, n292⟩, -, X292, ⟨Lc292, hQ292, l292, y292, z292⟩, st292⟩ := Jvm.LawKit.callS X290 hx (y := (⟨"com/example/rolelattice/rolelattice/decision/CatalogIsExpressionPinLaw", "wild", "(C)Z"⟩ : MethodName)) hown (mvT hZ (hw _ (List.mem_of_getElem? (i := 32) rfl))) (mvT hZ (hw _ (List.mem_of_getElem? (i := 33) rfl))) (mvT hZ (hw _ (List.mem_of_getElem? (i := 34) rfl))) (mvT hZ (hw _ (List.mem_of_getElem? (i := 35) rfl))) (by decide) (backOf (W := 0) (rm_wild l Z a0 hw [] c4 h1 n0 O1 ) hZ (hw _ (List.mem_of_getElem? (i := 35) rfl)) (hw _ (List.mem_of_getElem? (i := 34) rfl)) (by decide) (by decide)) (g := (mkF m 188 #[.val (.int p1), .val (.int p2), .val (.int p3), .val (.int p4), .val (.int (6 : Int32)), .val (.int c1), .val (.int c2), .val (.int c3), .val (.int c4), .val (.int c5), .val (.int c6), .val (.ref ar), .val (.ref x), .unset] [(.int c4)])) rfl (by rw [hml]; rfl) (argsL := [(.int c4)]) (rest := []) (lenOf pd_19 rfl) rfl (by show 2 * 0 + _ ≤ _; exact Nat.le_of_eq rfl) (hb hby at_188) (fun _ _ => ⟨rfl, e290, (by decide : 4 + 0 ≤ _), (by decide : 28 + 0 ≤ _)⟩)
        dsimp only [Pt.U, Pt.locs, Pt.cells, Pt.slots] at X292 l292 y292 z292 st292 hQ292
        subst l292 y292 z292
        refine own_go st292 ?_
        obtain ⟨rfl, Nq292, e292⟩ := hQ292
        have N292 := Fr.app N290 Nq292
        show own_Go p e below (T292.setTop (mkF m 191 #[.val (.int p1), .val (.int p2), .val (.int p3), .val (.int p4), .val (.int (6 : Int32)), .val (.int c1), .val (.int c2), .val (.int c3), .val (.int c4), .val (.int c5), .val (.int c6), .val (.ref ar), .val (.ref x), .unset] [(.int (own_wild c4))])) _
        by_cases hc293 : (own_wild c4) = (0 : Int32)
        · skip
          refine own_go (fun _ k => XS.ifNo X292.here hx rfl (hb hby at_191) rfl ((if0 _ _).trans (teq hc293).2) k) ?_
          show own_Go p e below (T292.setTop (mkF m 194 #[.val (.int p1), .val (.int p2), .val (.int p3), .val (.int p4), .val (.int (6 : Int32)), .val (.int c1), .val (.int c2), .val (.int c3), .val (.int c4), .val (.int c5), .val (.int c6), .val (.ref ar), .val (.ref x), .unset] [])) _
          refine own_go (fun _ k => XS.iload X292.here hx rfl (hb hby at_194) rfl k) ?_
          show own_Go p e below (T292.setTop (mkF m 196 #[.val (.int p1), .val (.int p2), .val (.int p3), .val (.int p4), .val (.int (6 : Int32)), .val (.int c1), .val (.int c2), .val (.int c3), .val (.int c4), .val (.int c5), .val (.int c6), .val (.ref ar), .val (.ref x), .unset] [(.int (6 : Int32))])) _
          refine own_go (fun _ k => XS.iconst X292.here hx rfl (hb hby at_196) k) ?_
          show own_Go p e below (T292.setTop (mkF m 197 #[.val (.int p1), .val (.int p2), .val (.int p3), .val (.int p4), .val (.int (6 : Int32)), .val (.int c1), .val (.int c2), .val (.int c3), .val (.int c4), .val (.int c5), .val (.int c6), .val (.ref ar), .val (.ref x), .unset] [(.int (4 : Int32)), (.int (6 : Int32))])) _
          refine own_go (fun _ k => XS.icmpNo X292.here hx rfl (hb hby at_197) rfl (tlt (by decide : (4 : Int32) < (6 : Int32))).2.2.2 k) ?_
          show own_Go p e below (T292.setTop (mkF m 200 #[.val (.int p1), .val (.int p2), .val (.int p3), .val (.int p4), .val (.int (6 : Int32)), .val (.int c1), .val (.int c2), .val (.int c3), .val (.int c4), .val (.int c5), .val (.int c6), .val (.ref ar), .val (.ref x), .unset] [])) _
          refine own_go (fun _ k => XS.iload X292.here hx rfl (hb hby at_200) rfl k) ?_
          show own_Go p e below (T292.setTop (mkF m 202 #[.val (.int p1), .val (.int p2), .val (.int p3), .val (.int p4), .val (.int (6 : Int32)), .val (.int c1), .val (.int c2), .val (.int c3), .val (.int c4), .val (.int c5), .val (.int c6), .val (.ref ar), .val (.ref x), .unset] [(.int c5)])) _
          obtain ⟨v294, _, ⟨T294, L294, k294, n294⟩, -, X294, ⟨Lc294, hQ294, l294, y294, z294⟩, st294⟩ := Jvm.LawKit.callS X292 hx (y := (⟨"com/example/rolelattice/rolelattice/decision/CatalogIsExpressionPinLaw", "wild", "(C)Z"⟩ : MethodName)) hown (mvT hZ (hw _ (List.mem_of_getElem? (i := 32) rfl))) (mvT hZ (hw _ (List.mem_of_getElem? (i := 33) rfl))) (mvT hZ (hw _ (List.mem_of_getElem? (i := 34) rfl))) (mvT hZ (hw _ (List.mem_of_getElem? (i := 35) rfl))) (by decide) (backOf (W := 0) (rm_wild l Z a0 hw [] c5 h1 n0 O1 ) hZ (hw _ (List.mem_of_getElem? (i := 35) rfl)) (hw _ (List.mem_of_getElem? (i := 34) rfl)) (by decide) (by decide)) (g := (mkF m 202 #[.val (.int p1), .val (.int p2), .val (.int p3), .val (.int p4), .val (.int (6 : Int32)), .val (.int c1), .val (.int c2), .val (.int c3), .val (.int c4), .val (.int c5), .val (.int c6), .val (.ref ar), .val (.ref x), .unset] [(.int c5)])) rfl (by rw [hml]; rfl) (argsL := [(.int c5)]) (rest := []) (lenOf pd_19 rfl) rfl (by show 2 * 0 + _ ≤ _; exact Nat.le_of_eq rfl) (hb hby at_202) (fun _ _ => ⟨rfl, e292, (by decide : 4 + 0 ≤ _), (by decide : 28 + 0 ≤ _)⟩)
          dsimp only [Pt.U, Pt.locs, Pt.cells, Pt.slots] at X294 l294 y294 z294 st294 hQ294
          subst l294 y294 z294
          refine own_go st294 ?_
          obtain ⟨rfl, Nq294, e294⟩ := hQ294
          have N294 := Fr.app N292 Nq294
          show own_Go p e below (T294.setTop (mkF m 205 #[.val (.int p1), .val (.int p2), .val (.int p3), .val (.int p4), .val (.int (6 : Int32)), .val (.int c1), .val (.int c2), .val (.int c3), .val (.int c4), .val (.int c5), .val (.int c6), .val (.ref ar), .val (.ref x), .unset] [(.int (own_wild c5))])) _
          by_cases hc295 : (own_wild c5) = (0 : Int32)
          · skip
            refine own_go (fun _ k => XS.ifNo X294.here hx rfl (hb hby at_205) rfl ((if0 _ _).trans (teq hc295).2) k) ?_
            show own_Go p e below (T294.setTop (mkF m 208 #[.val (.int p1), .val (.int p2), .val (.int p3), .val (.int p4), .val (.int (6 : Int32)), .val (.int c1), .val (.int c2), .val (.int c3), .val (.int c4), .val (.int c5), .val (.int c6), .val (.ref ar), .val (.ref x), .unset] [])) _
            refine own_go (fun _ k => XS.iload X294.here hx rfl (hb hby at_208) rfl k) ?_
            show own_Go p e below (T294.setTop (mkF m 210 #[.val (.int p1), .val (.int p2), .val (.int p3), .val (.int p4), .val (.int (6 : Int32)), .val (.int c1), .val (.int c2), .val (.int c3), .val (.int c4), .val (.int c5), .val (.int c6), .val (.ref ar), .val (.ref x), .unset] [(.int (6 : Int32))])) _
            refine own_go (fun _ k => XS.iconst X294.here hx rfl (hb hby at_210) k) ?_
            show own_Go p e below (T294.setTop (mkF m 211 #[.val (.int p1), .val (.int p2), .val (.int p3), .val (.int p4), .val (.int (6 : Int32)), .val (.int c1), .val (.int c2), .val (.int c3), .val (.int c4), .val (.int c5), .val (.int c6), .val (.ref ar), .val (.ref x), .unset] [(.int (5 : Int32)), (.int (6 : Int32))])) _
            refine own_go (fun _ k => XS.icmpNo X294.here hx rfl (hb hby at_211) rfl (tlt (by decide : (5 : Int32) < (6 : Int32))).2.2.2 k) ?_
            show own_Go p e below (T294.setTop (mkF m 214 #[.val (.int p1), .val (.int p2), .val (.int p3), .val (.int p4), .val (.int (6 : Int32)), .val (.int c1), .val (.int c2), .val (.int c3), .val (.int c4), .val (.int c5), .val (.int c6), .val (.ref ar), .val (.ref x), .unset] [])) _
            refine own_go (fun _ k => XS.iload X294.here hx rfl (hb hby at_214) rfl k) ?_
            show own_Go p e below (T294.setTop (mkF m 216 #[.val (.int p1), .val (.int p2), .val (.int p3), .val (.int p4), .val (.int (6 : Int32)), .val (.int c1), .val (.int c2), .val (.int c3), .val (.int c4), .val (.int c5), .val (.int c6), .val (.ref ar), .val (.ref x), .unset] [(.int c6)])) _
            obtain ⟨v296, _, ⟨T296, L296, k296, n296⟩, -, X296, ⟨Lc296, hQ296, l296, y296, z296⟩, st296⟩ := Jvm.LawKit.callS X294 hx (y := (⟨"com/example/rolelattice/rolelattice/decision/CatalogIsExpressionPinLaw", "wild", "(C)Z"⟩ : MethodName)) hown (mvT hZ (hw _ (List.mem_of_getElem? (i := 32) rfl))) (mvT hZ (hw _ (List.mem_of_getElem? (i := 33) rfl))) (mvT hZ (hw _ (List.mem_of_getElem? (i := 34) rfl))) (mvT hZ (hw _ (List.mem_of_getElem? (i := 35) rfl))) (by decide) (backOf (W := 0) (rm_wild l Z a0 hw [] c6 h1 n0 O1 ) hZ (hw _ (List.mem_of_getElem? (i := 35) rfl)) (hw _ (List.mem_of_getElem? (i := 34) rfl)) (by decide) (by decide)) (g := (mkF m 216 #[.val (.int p1), .val (.int p2), .val (.int p3), .val (.int p4), .val (.int (6 : Int32)), .val (.int c1), .val (.int c2), .val (.int c3), .val (.int c4), .val (.int c5), .val (.int c6), .val (.ref ar), .val (.ref x), .unset] [(.int c6)])) rfl (by rw [hml]; rfl) (argsL := [(.int c6)]) (rest := []) (lenOf pd_19 rfl) rfl (by show 2 * 0 + _ ≤ _; exact Nat.le_of_eq rfl) (hb hby at_216) (fun _ _ => ⟨rfl, e294, (by decide : 4 + 0 ≤ _), (by decide : 28 + 0 ≤ _)⟩)
            dsimp only [Pt.U, Pt.locs, Pt.cells, Pt.slots] at X296 l296 y296 z296 st296 hQ296
            subst l296 y296 z296
            refine own_go st296 ?_
            obtain ⟨rfl, Nq296, e296⟩ := hQ296
            have N296 := Fr.app N294 Nq296
            show own_Go p e below (T296.setTop (mkF m 219 #[.val (.int p1), .val (.int p2), .val (.int p3), .val (.int p4), .val (.int (6 : Int32)), .val (.int c1), .val (.int c2), .val (.int c3), .val (.int c4), .val (.int c5), .val (.int c6), .val (.ref ar), .val (.ref x), .unset] [(.int (own_wild c6))])) _
            by_cases hc297 : (own_wild c6) = (0 : Int32)
            · skip
              refine own_go (fun _ k => XS.ifYes X296.here hx rfl (pc0 := 219) (pc' := 226) rfl (hb hby at_219) rfl ((if0 _ _).trans (teq hc297).1) (by decide) (by decide) k) ?_
              show own_Go p e below (T296.setTop (mkF m 226 #[.val (.int p1), .val (.int p2), .val (.int p3), .val (.int p4), .val (.int (6 : Int32)), .val (.int c1), .val (.int c2), .val (.int c3), .val (.int c4), .val (.int c5), .val (.int c6), .val (.ref ar), .val (.ref x), .unset] [])) _
              refine own_go (fun _ k => XS.iconst X296.here hx rfl (hb hby at_226) k) ?_
              show own_Go p e below (T296.setTop (mkF m 227 #[.val (.int p1), .val (.int p2), .val (.int p3), .val (.int p4), .val (.int (6 : Int32)), .val (.int c1), .val (.int c2), .val (.int c3), .val (.int c4), .val (.int c5), .val (.int c6), .val (.ref ar), .val (.ref x), .unset] [(.int (0 : Int32))])) _
              refine own_go (fun _ k => XS.istore X296.here hx rfl (hb hby at_227) rfl (l' := #[.val (.int p1), .val (.int p2), .val (.int p3), .val (.int p4), .val (.int (6 : Int32)), .val (.int c1), .val (.int c2), .val (.int c3), .val (.int c4), .val (.int c5), .val (.int c6), .val (.ref ar), .val (.ref x), .val (.int (0 : Int32))]) rfl k) ?_
              show own_Go p e below (T296.setTop (mkF m 229 #[.val (.int p1), .val (.int p2), .val (.int p3), .val (.int p4), .val (.int (6 : Int32)), .val (.int c1), .val (.int c2), .val (.int c3), .val (.int c4), .val (.int c5), .val (.int c6), .val (.ref ar), .val (.ref x), .val (.int (0 : Int32))] [])) _
              exact own_end6 l Z a0 hw p1 p2 p3 p4 (6 : Int32) c1 c2 c3 c4 c5 c6 ar (0 : Int32) x t kt ([c1, c2, c3, c4, c5, c6] : List Int32) cd N2 vs G1 G3 h0 n0 X296 hx hby hml hown hZ hrt hlk h1 e296 N296 (Nat.le_trans Z0 (Nat.le_refl _)) O1 hh hS0 hk0 C0 E_x Fv_x Fc_x V_t O2 P5 O4 rG3 OA OH OL hC hok (own_ise_n (fun c hc => by simp only [List.mem_cons, List.not_mem_nil, or_false] at hc; rcases hc with rfl | rfl | rfl | rfl | rfl | rfl <;> assumption))
            · skip
              refine own_go (fun _ k => XS.ifNo X296.here hx rfl (hb hby at_219) rfl ((if0 _ _).trans (feq hc297).1) k) ?_
              show own_Go p e below (T296.setTop (mkF m 222 #[.val (.int p1), .val (.int p2), .val (.int p3), .val (.int p4), .val (.int (6 : Int32)), .val (.int c1), .val (.int c2), .val (.int c3), .val (.int c4), .val (.int c5), .val (.int c6), .val (.ref ar), .val (.ref x), .unset] [])) _
              refine own_go (fun _ k => XS.iconst X296.here hx rfl (hb hby at_222) k) ?_
              show own_Go p e below (T296.setTop (mkF m 223 #[.val (.int p1), .val (.int p2), .val (.int p3), .val (.int p4), .val (.int (6 : Int32)), .val (.int c1), .val (.int c2), .val (.int c3), .val (.int c4), .val (.int c5), .val (.int c6), .val (.ref ar), .val (.ref x), .unset] [(.int (1 : Int32))])) _
              refine own_go (fun _ k => XS.goto X296.here hx rfl (pc0 := 223) (pc' := 227) rfl (hb hby at_223) (by decide) (by decide) k) ?_
              show own_Go p e below (T296.setTop (mkF m 227 #[.val (.int p1), .val (.int p2), .val (.int p3), .val (.int p4), .val (.int (6 : Int32)), .val (.int c1), .val (.int c2), .val (.int c3), .val (.int c4), .val (.int c5), .val (.int c6), .val (.ref ar), .val (.ref x), .unset] [(.int (1 : Int32))])) _
              refine own_go (fun _ k => XS.istore X296.here hx rfl (hb hby at_227) rfl (l' := #[.val (.int p1), .val (.int p2), .val (.int p3), .val (.int p4), .val (.int (6 : Int32)), .val (.int c1), .val (.int c2), .val (.int c3), .val (.int c4), .val (.int c5), .val (.int c6), .val (.ref ar), .val (.ref x), .val (.int (1 : Int32))]) rfl k) ?_
              show own_Go p e below (T296.setTop (mkF m 229 #[.val (.int p1), .val (.int p2), .val (.int p3), .val (.int p4), .val (.int (6 : Int32)), .val (.int c1), .val (.int c2), .val (.int c3), .val (.int c4), .val (.int c5), .val (.int c6), .val (.ref ar), .val (.ref x), .val (.int (1 : Int32))] [])) _
              exact own_end6 l Z a0 hw p1 p2 p3 p4 (6 : Int32) c1 c2 c3 c4 c5 c6 ar (1 : Int32) x t kt ([c1, c2, c3, c4, c5, c6] : List Int32) cd N2 vs G1 G3 h0 n0 X296 hx hby hml hown hZ hrt hlk h1 e296 N296 (Nat.le_trans Z0 (Nat.le_refl _)) O1 hh hS0 hk0 C0 E_x Fv_x Fc_x V_t O2 P5 O4 rG3 OA OH OL hC hok (own_ise_y (by simp) hc297)
          · skip
            refine own_go (fun _ k => XS.ifYes X294.here hx rfl (pc0 := 205) (pc' := 222) rfl (hb hby at_205) rfl ((if0 _ _).trans (feq hc295).2) (by decide) (by decide) k) ?_
            show own_Go p e below (T294.setTop (mkF m 222 #[.val (.int p1), .val (.int p2), .val (.int p3), .val (.int p4), .val (.int (6 : Int32)), .val (.int c1), .val (.int c2), .val (.int c3), .val (.int c4), .val (.int c5), .val (.int c6), .val (.ref ar), .val (.ref x), .unset] [])) _
            refine own_go (fun _ k => XS.iconst X294.here hx rfl (hb hby at_222) k) ?_
            show own_Go p e below (T294.setTop (mkF m 223 #[.val (.int p1), .val (.int p2), .val (.int p3), .val (.int p4), .val (.int (6 : Int32)), .val (.int c1), .val (.int c2), .val (.int c3), .val (.int c4), .val (.int c5), .val (.int c6), .val (.ref ar), .val (.ref x), .unset] [(.int (1 : Int32))])) _
            refine own_go (fun _ k => XS.goto X294.here hx rfl (pc0 := 223) (pc' := 227) rfl (hb hby at_223) (by decide) (by decide) k) ?_
            show own_Go p e below (T294.setTop (mkF m 227 #[.val (.int p1), .val (.int p2), .val (.int p3), .val (.int p4), .val (.int (6 : Int32)), .val (.int c1), .val (.int c2), .val (.int c3), .val (.int c4), .val (.int c5), .val (.int c6), .val (.ref ar), .val (.ref x), .unset] [(.int (1 : Int32))])) _
            refine own_go (fun _ k => XS.istore X294.here hx rfl (hb hby at_227) rfl (l' := #[.val (.int p1), .val (.int p2), .val (.int p3), .val (.int p4), .val (.int (6 : Int32)), .val (.int c1), .val (.int c2), .val (.int c3), .val (.int c4), .val (.int c5), .val (.int c6), .val (.ref ar), .val (.ref x), .val (.int (1 : Int32))]) rfl k) ?_
            show own_Go p e below (T294.setTop (mkF m 229 #[.val (.int p1), .val (.int p2), .val (.int p3), .val (.int p4), .val (.int (6 : Int32)), .val (.int c1), .val (.int c2), .val (.int c3), .val (.int c4), .val (.int c5), .val (.int c6), .val (.ref ar), .val (.ref x), .val (.int (1 : Int32))] [])) _
            exact own_end6 l Z a0 hw p1 p2 p3 p4 (6 : Int32) c1 c2 c3 c4 c5 c6 ar (1 : Int32) x t kt ([c1, c2, c3, c4, c5, c6] : List Int32) cd N2 vs G1 G3 h0 n0 X294 hx hby hml hown hZ hrt hlk h1 e294 N294 (Nat.le_trans Z0 (Nat.le_refl _)) O1 hh hS0 hk0 C0 E_x Fv_x Fc_x V_t O2 P5 O4 rG3 OA OH OL hC hok (own_ise_y (by simp) hc295)
        · skip
          refine own_go (fun _ k => XS.ifYes X292.here hx rfl (pc0 := 191) (pc' := 222) rfl (hb hby at_191) rfl ((if0 _ _).trans (feq hc293).2) (by decide) (by decide) k) ?_
          show own_Go p e below (T292.setTop (mkF m 222 #[.val (.int p1), .val (.int p2), .val (.int p3), .val (.int p4), .val (.int (6 : Int32)), .val (.int c1), .val (.int c2), .val (.int c3), .val (.int c4), .val (.int c5), .val (.int c6), .val (.ref ar), .val (.ref x), .unset] [])) _
          refine own_go (fun _ k => XS.iconst X292.here hx rfl (hb hby at_222) k) ?_
          show own_Go p e below (T292.setTop (mkF m 223 #[.val (.int p1), .val (.int p2), .val (.int p3), .val (.int p4), .val (.int (6 : Int32)), .val (.int c1), .val (.int c2), .val (.int c3), .val (.int c4), .val (.int c5), .val (.int c6), .val (.ref ar), .val (.ref x), .unset] [(.int (1 : Int32))])) _
          refine own_go (fun _ k => XS.goto X292.here hx rfl (pc0 := 223) (pc' := 227) rfl (hb hby at_223) (by decide) (by decide) k) ?_
          show own_Go p e below (T292.setTop (mkF m 227 #[.val (.int p1), .val (.int p2), .val (.int p3), .val (.int p4), .val (.int (6 : Int32)), .val (.int c1), .val (.int c2), .val (.int c3), .val (.int c4), .val (.int c5), .val (.int c6), .val (.ref ar), .val (.ref x), .unset] [(.int (1 : Int32))])) _
          refine own_go (fun _ k => XS.istore X292.here hx rfl (hb hby at_227) rfl (l' := #[.val (.int p1), .val (.int p2), .val (.int p3), .val (.int p4), .val (.int (6 : Int32)), .val (.int c1), .val (.int c2), .val (.int c3), .val (.int c4), .val (.int c5), .val (.int c6), .val (.ref ar), .val (.ref x), .val (.int (1 : Int32))]) rfl k) ?_
          show own_Go p e below (T292.setTop (mkF m 229 #[.val (.int p1), .val (.int p2), .val (.int p3), .val (.int p4), .val (.int (6 : Int32)), .val (.int c1), .val (.int c2), .val (.int c3), .val (.int c4), .val (.int c5), .val (.int c6), .val (.ref ar), .val (.ref x), .val (.int (1 : Int32))] [])) _
          exact own_end6 l Z a0 hw p1 p2 p3 p4 (6 : Int32) c1 c2 c3 c4 c5 c6 ar (1 : Int32) x t kt ([c1, c2, c3, c4, c5, c6] : List Int32) cd N2 vs G1 G3 h0 n0 X292 hx hby hml hown hZ hrt hlk h1 e292 N292 (Nat.le_trans Z0 (Nat.le_refl _)) O1 hh hS0 hk0 C0 E_x Fv_x Fc_x V_t O2 P5 O4 rG3 OA OH OL hC hok (own_ise_y (by simp) hc293)
      · skip
        refine own_go (fun _ k => XS.ifYes X290.here hx rfl (pc0 := 177) (pc' := 222) rfl (hb hby at_177) rfl ((if0 _ _).trans (feq hc291).2) (by decide) (by decide) k) ?_
        show own_Go p e below (T290.setTop (mkF m 222 #[.val (.int p1), .val (.int p2), .val (.int p3), .val (.int p4), .val (.int (6 : Int32)), .val (.int c1), .val (.int c2), .val (.int c3), .val (.int c4), .val (.int c5), .val (.int c6), .val (.ref ar), .val (.ref x), .unset] [])) _
        refine own_go (fun _ k => XS.iconst X290.here hx rfl (hb hby at_222) k) ?_
        show own_Go p e below (T290.setTop (mkF m 223 #[.val (.int p1), .val (.int p2), .val (.int p3), .val (.int p4), .val (.int (6 : Int32)), .val (.int c1), .val (.int c2), .val (.int c3), .val (.int c4), .val (.int c5), .val (.int c6), .val (.ref ar), .val (.ref x), .unset] [(.int (1 : Int32))])) _
        refine own_go (fun _ k => XS.goto X290.here hx rfl (pc0 := 223) (pc' := 227) rfl (hb hby at_223) (by decide) (by decide) k) ?_
        show own_Go p e below (T290.setTop (mkF m 227 #[.val (.int p1), .val (.int p2), .val (.int p3), .val (.int p4), .val (.int (6 : Int32)), .val (.int c1), .val (.int c2), .val (.int c3), .val (.int c4), .val (.int c5), .val (.int c6), .val (.ref ar), .val (.ref x), .unset] [(.int (1 : Int32))])) _
        refine own_go (fun _ k => XS.istore X290.here hx rfl (hb hby at_227) rfl (l' := #[.val (.int p1), .val (.int p2), .val (.int p3), .val (.int p4), .val (.int (6 : Int32)), .val (.int c1), .val (.int c2), .val (.int c3), .val (.int c4), .val (.int c5), .val (.int c6), .val (.ref ar), .val (.ref x), .val (.int (1 : Int32))]) rfl k) ?_
        show own_Go p e below (T290.setTop (mkF m 229 #[.val (.int p1), .val (.int p2), .val (.int p3), .val (.int p4), .val (.int (6 : Int32)), .val (.int c1), .val (.int c2), .val (.int c3), .val (.int c4), .val (.int c5), .val (.int c6), .val (.ref ar), .val (.ref x), .val (.int (1 : Int32))] [])) _
        exact own_end6 l Z a0 hw p1 p2 p3 p4 (6 : Int32) c1 c2 c3 c4 c5 c6 ar (1 : Int32) x t kt ([c1, c2, c3, c4, c5, c6] : List Int32) cd N2 vs G1 G3 h0 n0 X290 hx hby hml hown hZ hrt hlk h1 e290 N290 (Nat.le_trans Z0 (Nat.le_refl _)) O1 hh hS0 hk0 C0 E_x Fv_x Fc_x V_t O2 P5 O4 rG3 OA OH OL hC hok (own_ise_y (by simp) hc291)
    · skip
      refine own_go (fun _ k => XS.ifYes X288.here hx rfl (pc0 := 163) (pc' := 222) rfl (hb hby at_163) rfl ((if0 _ _).trans (feq hc289).2) (by decide) (by decide) k) ?_
      show own_Go p e below (T288.setTop (mkF m 222 #[.val (.int p1), .val (.int p2), .val (.int p3), .val (.int p4), .val (.int (6 : Int32)), .val (.int c1), .val (.int c2), .val (.int c3), .val (.int c4), .val (.int c5), .val (.int c6), .val (.ref ar), .val (.ref x), .unset] [])) _
      refine own_go (fun _ k => XS.iconst X288.here hx rfl (hb hby at_222) k) ?_
      show own_Go p e below (T288.setTop (mkF m 223 #[.val (.int p1), .val (.int p2), .val (.int p3), .val (.int p4), .val (.int (6 : Int32)), .val (.int c1), .val (.int c2), .val (.int c3), .val (.int c4), .val (.int c5), .val (.int c6), .val (.ref ar), .val (.ref x), .unset] [(.int (1 : Int32))])) _
      refine own_go (fun _ k => XS.goto X288.here hx rfl (pc0 := 223) (pc' := 227) rfl (hb hby at_223) (by decide) (by decide) k) ?_
      show own_Go p e below (T288.setTop (mkF m 227 #[.val (.int p1), .val (.int p2), .val (.int p3), .val (.int p4), .val (.int (6 : Int32)), .val (.int c1), .val (.int c2), .val (.int c3), .val (.int c4), .val (.int c5), .val (.int c6), .val (.ref ar), .val (.ref x), .unset] [(.int (1 : Int32))])) _
      refine own_go (fun _ k => XS.istore X288.here hx rfl (hb hby at_227) rfl (l' := #[.val (.int p1), .val (.int p2), .val (.int p3), .val (.int p4), .val (.int (6 : Int32)), .val (.int c1), .val (.int c2), .val (.int c3), .val (.int c4), .val (.int c5), .val (.int c6), .val (.ref ar), .val (.ref x), .val (.int (1 : Int32))]) rfl k) ?_
      show own_Go p e below (T288.setTop (mkF m 229 #[.val (.int p1), .val (.int p2), .val (.int p3), .val (.int p4), .val (.int (6 : Int32)), .val (.int c1), .val (.int c2), .val (.int c3), .val (.int c4), .val (.int c5), .val (.int c6), .val (.ref ar), .val (.ref x), .val (.int (1 : Int32))] [])) _
      exact own_end6 l Z a0 hw p1 p2 p3 p4 (6 : Int32) c1 c2 c3 c4 c5 c6 ar (1 : Int32) x t kt ([c1, c2, c3, c4, c5, c6] : List Int32) cd N2 vs G1 G3 h0 n0 X288 hx hby hml hown hZ hrt hlk h1 e288 N288 (Nat.le_trans Z0 (Nat.le_refl _)) O1 hh hS0 hk0 C0 E_x Fv_x Fc_x V_t O2 P5 O4 rG3 OA OH OL hC hok (own_ise_y (by simp) hc289)
  · skip
    refine own_go (fun _ k => XS.ifYes X286.here hx rfl (pc0 := 149) (pc' := 222) rfl (hb hby at_149) rfl ((if0 _ _).trans (feq hc287).2) (by decide) (by decide) k) ?_
    show own_Go p e below (T286.setTop (mkF m 222 #[.val (.int p1), .val (.int p2), .val (.int p3), .val (.int p4), .val (.int (6 : Int32)), .val (.int c1), .val (.int c2), .val (.int c3), .val (.int c4), .val (.int c5), .val (.int c6), .val (.ref ar), .val (.ref x), .unset] [])) _
    refine own_go (fun _ k => XS.iconst X286.here hx rfl (hb hby at_222) k) ?_
    show own_Go p e below (T286.setTop (mkF m 223 #[.val (.int p1), .val (.int p2), .val (.int p3), .val (.int p4), .val (.int (6 : Int32)), .val (.int c1), .val (.int c2), .val (.int c3), .val (.int c4), .val (.int c5), .val (.int c6), .val (.ref ar), .val (.ref x), .unset] [(.int (1 : Int32))])) _
    refine own_go (fun _ k => XS.goto X286.here hx rfl (pc0 := 223) (pc' := 227) rfl (hb hby at_223) (by decide) (by decide) k) ?_
    show own_Go p e below (T286.setTop (mkF m 227 #[.val (.int p1), .val (.int p2), .val (.int p3), .val (.int p4), .val (.int (6 : Int32)), .val (.int c1), .val (.int c2), .val (.int c3), .val (.int c4), .val (.int c5), .val (.int c6), .val (.ref ar), .val (.ref x), .unset] [(.int (1 : Int32))])) _
    refine own_go (fun _ k => XS.istore X286.here hx rfl (hb hby at_227) rfl (l' := #[.val (.int p1), .val (.int p2), .val (.int p3), .val (.int p4), .val (.int (6 : Int32)), .val (.int c1), .val (.int c2), .val (.int c3), .val (.int c4), .val (.int c5), .val (.int c6), .val (.ref ar), .val (.ref x), .val (.int (1 : Int32))]) rfl k) ?_
    show own_Go p e below (T286.setTop (mkF m 229 #[.val (.int p1), .val (.int p2), .val (.int p3), .val (.int p4), .val (.int (6 : Int32)), .val (.int c1), .val (.int c2), .val (.int c3), .val (.int c4), .val (.int c5), .val (.int c6), .val (.ref ar), .val (.ref x), .val (.int (1 : Int32))] [])) _
    exact own_end6 l Z a0 hw p1 p2 p3 p4 (6 : Int32) c1 c2 c3 c4 c5 c6 ar (1 : Int32) x t kt ([c1, c2, c3, c4, c5, c6] : List Int32) cd N2 vs G1 G3 h0 n0 X286 hx hby hml hown hZ hrt hlk h1 e286 N286 (Nat.le_trans Z0 (Nat.le_refl _)) O1 hh hS0 hk0 C0 E_x Fv_x Fc_x V_t O2 P5 O4 rG3 OA OH OL hC hok (own_ise_y (by simp) hc287)

set_option maxRecDepth 65536 in
set_option maxHeartbeats 40000000 in
theorem own_fst6 (l : Launch) (Z : State) (a0 : Array Value) (hw : ∀ d ∈ tables_1, d.before a0 Z = true) (p1 : Int32) (p2 : Int32) (p3 : Int32) (p4 : Int32) (c1 : Int32) (c2 : Int32) (c3 : Int32) (c4 : Int32) (c5 : Int32) (c6 : Int32) (G1 : Int32) (G3 : Value) (h0 : Heap) (n0 : Nat) {p : Program} {e : Env} {s : State} {vm0 : Vm} {m : MethodId} {below : List Frame} {meth : Method} {cC : Code} {T0 : State} {locs : List Loc} (X0 : Stand p l e room_1 (s.setVm vm0) m #[(.int p1), (.int p2), (.int p3), (.int p4)] below meth cC T0 locs 0 0) (hx : p.tables.exec = Jvm.exec) (hby : cC.code = code) (hml : cC.maxLocals = maxLocals) (hown : (s.setVm vm0).vm.findClass "com/example/rolelattice/rolelattice/decision/CatalogIsExpressionPinLaw" = some m.cls) (hZ : Z.Warmed39 (s.setVm vm0).vm) (hrt : meth.sig.returnType = ret) (hlk : meth.locks = false) (h1 : Heap) (e0 : T0.heap = h1) (N0 : Fr n0 locs) (Z0 : n0 ≤ h1.size) (O1 : Old Z n0 h1) (hh : s.heap = h0) {k0 : Nat} (hS0 : s.Since vm0 k0) (hk0 : k0 ≤ h1.size) (C0 : CHr Z own_EL s.vm h0 vm0 h1) (O2 : Sta Z Z.heap "java/lang/String" "COMPACT_STRINGS" "Z" (.int G1)) (P5 : ¬ (G1 = (0 : Int32))) (O4 : Sta Z Z.heap "jdk/internal/util/Preconditions" "SIOOBE_FORMATTER" "Ljava/util/function/BiFunction;" G3) (rG3 : G3.isRef = true) (OA : Sta Z Z.heap "java/lang/StringUTF16" "$assertionsDisabled" "Z" (.int (1 : Int32))) (OH : Sta Z Z.heap "java/lang/StringUTF16" "HI_BYTE_SHIFT" "I" (.int (0 : Int32))) (OL : Sta Z Z.heap "java/lang/StringUTF16" "LO_BYTE_SHIFT" "I" (.int (8 : Int32))) (b_c1 : ¬ c1 < 0 ∧ ¬ (65535 : Int32) < c1) (b_c2 : ¬ c2 < 0 ∧ ¬ (65535 : Int32) < c2) (b_c3 : ¬ c3 < 0 ∧ ¬ (65535 : Int32) < c3) (b_c4 : ¬ c4 < 0 ∧ ¬ (65535 : Int32) < c4) (b_c5 : ¬ c5 < 0 ∧ ¬ (65535 : Int32) < c5) (b_c6 : ¬ c6 < 0 ∧ ¬ (65535 : Int32) < c6) :
    own_Go p e below (T0.setTop (mkF m 51 #[.val (.int p1), .val (.int p2), .val (.int p3), .val (.int p4), .val (.int (6 : Int32)), .val (.int c1), .val (.int c2), .val (.int c3), .val (.int c4), .val (.int c5), .val (.int c6), .unset, .unset, .unset] [])) (fun oO U' => ∃ rV rL, oO = .returned rV ∧ QQ0 n0 rV U'.heap rL ∧ CHr Z own_EL s.vm s.heap U'.vm U'.heap ∧ ReturnedEndW s oO U' rL 24 1152) := by
  have own_wS := own_wSt hw
  have own_hEL := own_hELt hw
  show own_Go p e below (T0.setTop (mkF m 51 #[.val (.int p1), .val (.int p2), .val (.int p3), .val (.int p4), .val (.int (6 : Int32)), .val (.int c1), .val (.int c2), .val (.int c3), .val (.int c4), .val (.int c5), .val (.int c6), .unset, .unset, .unset] [])) _
  refine own_go (fun _ k => XS.iload X0.here hx rfl (hb hby at_51) rfl k) ?_
  show own_Go p e below (T0.setTop (mkF m 53 #[.val (.int p1), .val (.int p2), .val (.int p3), .val (.int p4), .val (.int (6 : Int32)), .val (.int c1), .val (.int c2), .val (.int c3), .val (.int c4), .val (.int c5), .val (.int c6), .unset, .unset, .unset] [(.int (6 : Int32))])) _
  obtain ⟨T298, h298, k298, X298, e298, E298, A298, st298⟩ := newP X0 hx hZ (hw _ (List.mem_of_getElem? (i := 2) rfl)) e0 (g := (mkF m 53 #[.val (.int p1), .val (.int p2), .val (.int p3), .val (.int p4), .val (.int (6 : Int32)), .val (.int c1), .val (.int c2), .val (.int c3), .val (.int c4), .val (.int c5), .val (.int c6), .unset, .unset, .unset] [(.int (6 : Int32))])) rfl (hb hby at_53) rfl (by decide) (cap := 6) (by decide) (by decide) (by decide) (by decide)
  obtain ⟨b298, g298⟩ : ∃ z, z = h1.size := ⟨_, rfl⟩
  rw [← g298] at A298 st298
  refine own_go st298 ?_
  have C299 := C0.trans (CHr.ext E298 C0.1)
  have V298 : Arv Z h298 b298 k298 .char (6 : Int32) [(.int (0 : Int32)), (.int (0 : Int32)), (.int (0 : Int32)), (.int (0 : Int32)), (.int (0 : Int32)), (.int (0 : Int32))] (.int (0 : Int32)) := (Arv.new A298 (by decide)).pad (pad_rep [] (.int (0 : Int32)) 6)
  show own_Go p e below (T298.setTop (mkF m 55 #[.val (.int p1), .val (.int p2), .val (.int p3), .val (.int p4), .val (.int (6 : Int32)), .val (.int c1), .val (.int c2), .val (.int c3), .val (.int c4), .val (.int c5), .val (.int c6), .unset, .unset, .unset] [(.ref b298)])) _
  refine own_go (fun _ k => XS.astore X298.here hx rfl (hb hby at_55) rfl rfl (l' := #[.val (.int p1), .val (.int p2), .val (.int p3), .val (.int p4), .val (.int (6 : Int32)), .val (.int c1), .val (.int c2), .val (.int c3), .val (.int c4), .val (.int c5), .val (.int c6), .val (.ref b298), .unset, .unset]) rfl k) ?_
  show own_Go p e below (T298.setTop (mkF m 57 #[.val (.int p1), .val (.int p2), .val (.int p3), .val (.int p4), .val (.int (6 : Int32)), .val (.int c1), .val (.int c2), .val (.int c3), .val (.int c4), .val (.int c5), .val (.int c6), .val (.ref b298), .unset, .unset] [])) _
  refine own_go (fun _ k => XS.iload X298.here hx rfl (hb hby at_57) rfl k) ?_
  show own_Go p e below (T298.setTop (mkF m 59 #[.val (.int p1), .val (.int p2), .val (.int p3), .val (.int p4), .val (.int (6 : Int32)), .val (.int c1), .val (.int c2), .val (.int c3), .val (.int c4), .val (.int c5), .val (.int c6), .val (.ref b298), .unset, .unset] [(.int (6 : Int32))])) _
  refine own_go (fun _ k => XS.ifNo X298.here hx rfl (hb hby at_59) rfl ((if0 _ _).trans (tlt (by decide : (0 : Int32) < (6 : Int32))).2.2.2) k) ?_
  show own_Go p e below (T298.setTop (mkF m 62 #[.val (.int p1), .val (.int p2), .val (.int p3), .val (.int p4), .val (.int (6 : Int32)), .val (.int c1), .val (.int c2), .val (.int c3), .val (.int c4), .val (.int c5), .val (.int c6), .val (.ref b298), .unset, .unset] [])) _
  refine own_go (fun _ k => XS.aload X298.here hx rfl (hb hby at_62) rfl rfl k) ?_
  show own_Go p e below (T298.setTop (mkF m 64 #[.val (.int p1), .val (.int p2), .val (.int p3), .val (.int p4), .val (.int (6 : Int32)), .val (.int c1), .val (.int c2), .val (.int c3), .val (.int c4), .val (.int c5), .val (.int c6), .val (.ref b298), .unset, .unset] [(.ref b298)])) _
  refine own_go (fun _ k => XS.iconst X298.here hx rfl (hb hby at_64) k) ?_
  show own_Go p e below (T298.setTop (mkF m 65 #[.val (.int p1), .val (.int p2), .val (.int p3), .val (.int p4), .val (.int (6 : Int32)), .val (.int c1), .val (.int c2), .val (.int c3), .val (.int c4), .val (.int c5), .val (.int c6), .val (.ref b298), .unset, .unset] [(.int (0 : Int32)), (.ref b298)])) _
  refine own_go (fun _ k => XS.iload X298.here hx rfl (hb hby at_65) rfl k) ?_
  show own_Go p e below (T298.setTop (mkF m 67 #[.val (.int p1), .val (.int p2), .val (.int p3), .val (.int p4), .val (.int (6 : Int32)), .val (.int c1), .val (.int c2), .val (.int c3), .val (.int c4), .val (.int c5), .val (.int c6), .val (.ref b298), .unset, .unset] [(.int c1), (.int (0 : Int32)), (.ref b298)])) _
  obtain ⟨c300, A300, q300, S300, M300, Hs300, Gs300⟩ := id V298
  obtain ⟨T301, h301, X301, e301, W301, st301⟩ := stC X298 hx hZ e298 A300 (j := (0 : Int32)) (inb_of S300 ⟨by decide, by decide⟩) (g := (mkF m 67 #[.val (.int p1), .val (.int p2), .val (.int p3), .val (.int p4), .val (.int (6 : Int32)), .val (.int c1), .val (.int c2), .val (.int c3), .val (.int c4), .val (.int c5), .val (.int c6), .val (.ref b298), .unset, .unset] [(.int c1), (.int (0 : Int32)), (.ref b298)])) rfl rfl (hb hby at_67)
  refine own_go st301 ?_
  have N301 := Fr.snoc X301 N0 (Nat.le_trans Z0 (Nat.le_of_eq g298.symm))
  have f302 := (Safe.ext E298 C0.1 (Safe.new (Nat.le_of_eq g298.symm)))
  have C303 := C299.trans (CHr.wr W301 f302 C299.1)
  have V301 : Arv Z h301 b298 k298 .char (6 : Int32) [(.int (nar .char c1)), (.int (0 : Int32)), (.int (0 : Int32)), (.int (0 : Int32)), (.int (0 : Int32)), (.int (0 : Int32))] (.int (0 : Int32)) := Arv.set A300 q300 S300 M300 Hs300 Gs300 (fits_nar_char _) W301 0 rfl (Nat.le_of_ble_eq_true rfl)
  have V301q : Arv Z h301 b298 k298 .char (6 : Int32) [(.int c1), (.int (0 : Int32)), (.int (0 : Int32)), (.int (0 : Int32)), (.int (0 : Int32)), (.int (0 : Int32))] (.int (0 : Int32)) := by rw [show nar .char c1 = c1 from (own_nc b_c1.1 b_c1.2)] at V301; exact V301
  show own_Go p e below (T301.setTop (mkF m 68 #[.val (.int p1), .val (.int p2), .val (.int p3), .val (.int p4), .val (.int (6 : Int32)), .val (.int c1), .val (.int c2), .val (.int c3), .val (.int c4), .val (.int c5), .val (.int c6), .val (.ref b298), .unset, .unset] [])) _
  refine own_go (fun _ k => XS.iload X301.here hx rfl (hb hby at_68) rfl k) ?_
  show own_Go p e below (T301.setTop (mkF m 70 #[.val (.int p1), .val (.int p2), .val (.int p3), .val (.int p4), .val (.int (6 : Int32)), .val (.int c1), .val (.int c2), .val (.int c3), .val (.int c4), .val (.int c5), .val (.int c6), .val (.ref b298), .unset, .unset] [(.int (6 : Int32))])) _
  refine own_go (fun _ k => XS.iconst X301.here hx rfl (hb hby at_70) k) ?_
  show own_Go p e below (T301.setTop (mkF m 71 #[.val (.int p1), .val (.int p2), .val (.int p3), .val (.int p4), .val (.int (6 : Int32)), .val (.int c1), .val (.int c2), .val (.int c3), .val (.int c4), .val (.int c5), .val (.int c6), .val (.ref b298), .unset, .unset] [(.int (1 : Int32)), (.int (6 : Int32))])) _
  refine own_go (fun _ k => XS.icmpNo X301.here hx rfl (hb hby at_71) rfl (tlt (by decide : (1 : Int32) < (6 : Int32))).2.2.2 k) ?_
  show own_Go p e below (T301.setTop (mkF m 74 #[.val (.int p1), .val (.int p2), .val (.int p3), .val (.int p4), .val (.int (6 : Int32)), .val (.int c1), .val (.int c2), .val (.int c3), .val (.int c4), .val (.int c5), .val (.int c6), .val (.ref b298), .unset, .unset] [])) _
  refine own_go (fun _ k => XS.aload X301.here hx rfl (hb hby at_74) rfl rfl k) ?_
  show own_Go p e below (T301.setTop (mkF m 76 #[.val (.int p1), .val (.int p2), .val (.int p3), .val (.int p4), .val (.int (6 : Int32)), .val (.int c1), .val (.int c2), .val (.int c3), .val (.int c4), .val (.int c5), .val (.int c6), .val (.ref b298), .unset, .unset] [(.ref b298)])) _
  refine own_go (fun _ k => XS.iconst X301.here hx rfl (hb hby at_76) k) ?_
  show own_Go p e below (T301.setTop (mkF m 77 #[.val (.int p1), .val (.int p2), .val (.int p3), .val (.int p4), .val (.int (6 : Int32)), .val (.int c1), .val (.int c2), .val (.int c3), .val (.int c4), .val (.int c5), .val (.int c6), .val (.ref b298), .unset, .unset] [(.int (1 : Int32)), (.ref b298)])) _
  refine own_go (fun _ k => XS.iload X301.here hx rfl (hb hby at_77) rfl k) ?_
  show own_Go p e below (T301.setTop (mkF m 79 #[.val (.int p1), .val (.int p2), .val (.int p3), .val (.int p4), .val (.int (6 : Int32)), .val (.int c1), .val (.int c2), .val (.int c3), .val (.int c4), .val (.int c5), .val (.int c6), .val (.ref b298), .unset, .unset] [(.int c2), (.int (1 : Int32)), (.ref b298)])) _
  obtain ⟨c304, A304, q304, S304, M304, Hs304, Gs304⟩ := id V301q
  obtain ⟨T305, h305, X305, e305, W305, st305⟩ := stC X301 hx hZ e301 A304 (j := (1 : Int32)) (inb_of S304 ⟨by decide, by decide⟩) (g := (mkF m 79 #[.val (.int p1), .val (.int p2), .val (.int p3), .val (.int p4), .val (.int (6 : Int32)), .val (.int c1), .val (.int c2), .val (.int c3), .val (.int c4), .val (.int c5), .val (.int c6), .val (.ref b298), .unset, .unset] [(.int c2), (.int (1 : Int32)), (.ref b298)])) rfl rfl (hb hby at_79)
  refine own_go st305 ?_
  have N305 := Fr.snoc X305 N301 (Nat.le_trans Z0 (Nat.le_of_eq g298.symm))
  have f306 := (Safe.wr W301 f302 C299.1 f302)
  have C307 := C303.trans (CHr.wr W305 f306 C303.1)
  have V305 : Arv Z h305 b298 k298 .char (6 : Int32) [(.int c1), (.int (nar .char c2)), (.int (0 : Int32)), (.int (0 : Int32)), (.int (0 : Int32)), (.int (0 : Int32))] (.int (0 : Int32)) := Arv.set A304 q304 S304 M304 Hs304 Gs304 (fits_nar_char _) W305 1 rfl (Nat.le_of_ble_eq_true rfl)
  have V305q : Arv Z h305 b298 k298 .char (6 : Int32) [(.int c1), (.int c2), (.int (0 : Int32)), (.int (0 : Int32)), (.int (0 : Int32)), (.int (0 : Int32))] (.int (0 : Int32)) := by rw [show nar .char c2 = c2 from (own_nc b_c2.1 b_c2.2)] at V305; exact V305
  show own_Go p e below (T305.setTop (mkF m 80 #[.val (.int p1), .val (.int p2), .val (.int p3), .val (.int p4), .val (.int (6 : Int32)), .val (.int c1), .val (.int c2), .val (.int c3), .val (.int c4), .val (.int c5), .val (.int c6), .val (.ref b298), .unset, .unset] [])) _
  refine own_go (fun _ k => XS.iload X305.here hx rfl (hb hby at_80) rfl k) ?_
  show own_Go p e below (T305.setTop (mkF m 82 #[.val (.int p1), .val (.int p2), .val (.int p3), .val (.int p4), .val (.int (6 : Int32)), .val (.int c1), .val (.int c2), .val (.int c3), .val (.int c4), .val (.int c5), .val (.int c6), .val (.ref b298), .unset, .unset] [(.int (6 : Int32))])) _
  refine own_go (fun _ k => XS.iconst X305.here hx rfl (hb hby at_82) k) ?_
  show own_Go p e below (T305.setTop (mkF m 83 #[.val (.int p1), .val (.int p2), .val (.int p3), .val (.int p4), .val (.int (6 : Int32)), .val (.int c1), .val (.int c2), .val (.int c3), .val (.int c4), .val (.int c5), .val (.int c6), .val (.ref b298), .unset, .unset] [(.int (2 : Int32)), (.int (6 : Int32))])) _
  refine own_go (fun _ k => XS.icmpNo X305.here hx rfl (hb hby at_83) rfl (tlt (by decide : (2 : Int32) < (6 : Int32))).2.2.2 k) ?_
  show own_Go p e below (T305.setTop (mkF m 86 #[.val (.int p1), .val (.int p2), .val (.int p3), .val (.int p4), .val (.int (6 : Int32)), .val (.int c1), .val (.int c2), .val (.int c3), .val (.int c4), .val (.int c5), .val (.int c6), .val (.ref b298), .unset, .unset] [])) _
  refine own_go (fun _ k => XS.aload X305.here hx rfl (hb hby at_86) rfl rfl k) ?_
  show own_Go p e below (T305.setTop (mkF m 88 #[.val (.int p1), .val (.int p2), .val (.int p3), .val (.int p4), .val (.int (6 : Int32)), .val (.int c1), .val (.int c2), .val (.int c3), .val (.int c4), .val (.int c5), .val (.int c6), .val (.ref b298), .unset, .unset] [(.ref b298)])) _
  refine own_go (fun _ k => XS.iconst X305.here hx rfl (hb hby at_88) k) ?_
  show own_Go p e below (T305.setTop (mkF m 89 #[.val (.int p1), .val (.int p2), .val (.int p3), .val (.int p4), .val (.int (6 : Int32)), .val (.int c1), .val (.int c2), .val (.int c3), .val (.int c4), .val (.int c5), .val (.int c6), .val (.ref b298), .unset, .unset] [(.int (2 : Int32)), (.ref b298)])) _
  refine own_go (fun _ k => XS.iload X305.here hx rfl (hb hby at_89) rfl k) ?_
  show own_Go p e below (T305.setTop (mkF m 91 #[.val (.int p1), .val (.int p2), .val (.int p3), .val (.int p4), .val (.int (6 : Int32)), .val (.int c1), .val (.int c2), .val (.int c3), .val (.int c4), .val (.int c5), .val (.int c6), .val (.ref b298), .unset, .unset] [(.int c3), (.int (2 : Int32)), (.ref b298)])) _
  obtain ⟨c308, A308, q308, S308, M308, Hs308, Gs308⟩ := id V305q
  obtain ⟨T309, h309, X309, e309, W309, st309⟩ := stC X305 hx hZ e305 A308 (j := (2 : Int32)) (inb_of S308 ⟨by decide, by decide⟩) (g := (mkF m 91 #[.val (.int p1), .val (.int p2), .val (.int p3), .val (.int p4), .val (.int (6 : Int32)), .val (.int c1), .val (.int c2), .val (.int c3), .val (.int c4), .val (.int c5), .val (.int c6), .val (.ref b298), .unset, .unset] [(.int c3), (.int (2 : Int32)), (.ref b298)])) rfl rfl (hb hby at_91)
  refine own_go st309 ?_
  have N309 := Fr.snoc X309 N305 (Nat.le_trans Z0 (Nat.le_of_eq g298.symm))
  have f310 := (Safe.wr W305 f306 C303.1 f306)
  have C311 := C307.trans (CHr.wr W309 f310 C307.1)
  have V309 : Arv Z h309 b298 k298 .char (6 : Int32) [(.int c1), (.int c2), (.int (nar .char c3)), (.int (0 : Int32)), (.int (0 : Int32)), (.int (0 : Int32))] (.int (0 : Int32)) := Arv.set A308 q308 S308 M308 Hs308 Gs308 (fits_nar_char _) W309 2 rfl (Nat.le_of_ble_eq_true rfl)
  have V309q : Arv Z h309 b298 k298 .char (6 : Int32) [(.int c1), (.int c2), (.int c3), (.int (0 : Int32)), (.int (0 : Int32)), (.int (0 : Int32))] (.int (0 : Int32)) := by rw [show nar .char c3 = c3 from (own_nc b_c3.1 b_c3.2)] at V309; exact V309
  show own_Go p e below (T309.setTop (mkF m 92 #[.val (.int p1), .val (.int p2), .val (.int p3), .val (.int p4), .val (.int (6 : Int32)), .val (.int c1), .val (.int c2), .val (.int c3), .val (.int c4), .val (.int c5), .val (.int c6), .val (.ref b298), .unset, .unset] [])) _
  refine own_go (fun _ k => XS.iload X309.here hx rfl (hb hby at_92) rfl k) ?_
  show own_Go p e below (T309.setTop (mkF m 94 #[.val (.int p1), .val (.int p2), .val (.int p3), .val (.int p4), .val (.int (6 : Int32)), .val (.int c1), .val (.int c2), .val (.int c3), .val (.int c4), .val (.int c5), .val (.int c6), .val (.ref b298), .unset, .unset] [(.int (6 : Int32))])) _
  refine own_go (fun _ k => XS.iconst X309.here hx rfl (hb hby at_94) k) ?_
  show own_Go p e below (T309.setTop (mkF m 95 #[.val (.int p1), .val (.int p2), .val (.int p3), .val (.int p4), .val (.int (6 : Int32)), .val (.int c1), .val (.int c2), .val (.int c3), .val (.int c4), .val (.int c5), .val (.int c6), .val (.ref b298), .unset, .unset] [(.int (3 : Int32)), (.int (6 : Int32))])) _
  refine own_go (fun _ k => XS.icmpNo X309.here hx rfl (hb hby at_95) rfl (tlt (by decide : (3 : Int32) < (6 : Int32))).2.2.2 k) ?_
  show own_Go p e below (T309.setTop (mkF m 98 #[.val (.int p1), .val (.int p2), .val (.int p3), .val (.int p4), .val (.int (6 : Int32)), .val (.int c1), .val (.int c2), .val (.int c3), .val (.int c4), .val (.int c5), .val (.int c6), .val (.ref b298), .unset, .unset] [])) _
  refine own_go (fun _ k => XS.aload X309.here hx rfl (hb hby at_98) rfl rfl k) ?_
  show own_Go p e below (T309.setTop (mkF m 100 #[.val (.int p1), .val (.int p2), .val (.int p3), .val (.int p4), .val (.int (6 : Int32)), .val (.int c1), .val (.int c2), .val (.int c3), .val (.int c4), .val (.int c5), .val (.int c6), .val (.ref b298), .unset, .unset] [(.ref b298)])) _
  refine own_go (fun _ k => XS.iconst X309.here hx rfl (hb hby at_100) k) ?_
  show own_Go p e below (T309.setTop (mkF m 101 #[.val (.int p1), .val (.int p2), .val (.int p3), .val (.int p4), .val (.int (6 : Int32)), .val (.int c1), .val (.int c2), .val (.int c3), .val (.int c4), .val (.int c5), .val (.int c6), .val (.ref b298), .unset, .unset] [(.int (3 : Int32)), (.ref b298)])) _
  refine own_go (fun _ k => XS.iload X309.here hx rfl (hb hby at_101) rfl k) ?_
  show own_Go p e below (T309.setTop (mkF m 103 #[.val (.int p1), .val (.int p2), .val (.int p3), .val (.int p4), .val (.int (6 : Int32)), .val (.int c1), .val (.int c2), .val (.int c3), .val (.int c4), .val (.int c5), .val (.int c6), .val (.ref b298), .unset, .unset] [(.int c4), (.int (3 : Int32)), (.ref b298)])) _
  obtain ⟨c312, A312, q312, S312, M312, Hs312, Gs312⟩ := id V309q
  obtain ⟨T313, h313, X313, e313, W313, st313⟩ := stC X309 hx hZ e309 A312 (j := (3 : Int32)) (inb_of S312 ⟨by decide, by decide⟩) (g := (mkF m 103 #[.val (.int p1), .val (.int p2), .val (.int p3), .val (.int p4), .val (.int (6 : Int32)), .val (.int c1), .val (.int c2), .val (.int c3), .val (.int c4), .val (.int c5), .val (.int c6), .val (.ref b298), .unset, .unset] [(.int c4), (.int (3 : Int32)), (.ref b298)])) rfl rfl (hb hby at_103)
  refine own_go st313 ?_
  have N313 := Fr.snoc X313 N309 (Nat.le_trans Z0 (Nat.le_of_eq g298.symm))
  have f314 := (Safe.wr W309 f310 C307.1 f310)
  have C315 := C311.trans (CHr.wr W313 f314 C311.1)
  have V313 : Arv Z h313 b298 k298 .char (6 : Int32) [(.int c1), (.int c2), (.int c3), (.int (nar .char c4)), (.int (0 : Int32)), (.int (0 : Int32))] (.int (0 : Int32)) := Arv.set A312 q312 S312 M312 Hs312 Gs312 (fits_nar_char _) W313 3 rfl (Nat.le_of_ble_eq_true rfl)
  have V313q : Arv Z h313 b298 k298 .char (6 : Int32) [(.int c1), (.int c2), (.int c3), (.int c4), (.int (0 : Int32)), (.int (0 : Int32))] (.int (0 : Int32)) := by rw [show nar .char c4 = c4 from (own_nc b_c4.1 b_c4.2)] at V313; exact V313
  show own_Go p e below (T313.setTop (mkF m 104 #[.val (.int p1), .val (.int p2), .val (.int p3), .val (.int p4), .val (.int (6 : Int32)), .val (.int c1), .val (.int c2), .val (.int c3), .val (.int c4), .val (.int c5), .val (.int c6), .val (.ref b298), .unset, .unset] [])) _
  refine own_go (fun _ k => XS.iload X313.here hx rfl (hb hby at_104) rfl k) ?_
  show own_Go p e below (T313.setTop (mkF m 106 #[.val (.int p1), .val (.int p2), .val (.int p3), .val (.int p4), .val (.int (6 : Int32)), .val (.int c1), .val (.int c2), .val (.int c3), .val (.int c4), .val (.int c5), .val (.int c6), .val (.ref b298), .unset, .unset] [(.int (6 : Int32))])) _
  refine own_go (fun _ k => XS.iconst X313.here hx rfl (hb hby at_106) k) ?_
  show own_Go p e below (T313.setTop (mkF m 107 #[.val (.int p1), .val (.int p2), .val (.int p3), .val (.int p4), .val (.int (6 : Int32)), .val (.int c1), .val (.int c2), .val (.int c3), .val (.int c4), .val (.int c5), .val (.int c6), .val (.ref b298), .unset, .unset] [(.int (4 : Int32)), (.int (6 : Int32))])) _
  refine own_go (fun _ k => XS.icmpNo X313.here hx rfl (hb hby at_107) rfl (tlt (by decide : (4 : Int32) < (6 : Int32))).2.2.2 k) ?_
  show own_Go p e below (T313.setTop (mkF m 110 #[.val (.int p1), .val (.int p2), .val (.int p3), .val (.int p4), .val (.int (6 : Int32)), .val (.int c1), .val (.int c2), .val (.int c3), .val (.int c4), .val (.int c5), .val (.int c6), .val (.ref b298), .unset, .unset] [])) _
  refine own_go (fun _ k => XS.aload X313.here hx rfl (hb hby at_110) rfl rfl k) ?_
  show own_Go p e below (T313.setTop (mkF m 112 #[.val (.int p1), .val (.int p2), .val (.int p3), .val (.int p4), .val (.int (6 : Int32)), .val (.int c1), .val (.int c2), .val (.int c3), .val (.int c4), .val (.int c5), .val (.int c6), .val (.ref b298), .unset, .unset] [(.ref b298)])) _
  refine own_go (fun _ k => XS.iconst X313.here hx rfl (hb hby at_112) k) ?_
  show own_Go p e below (T313.setTop (mkF m 113 #[.val (.int p1), .val (.int p2), .val (.int p3), .val (.int p4), .val (.int (6 : Int32)), .val (.int c1), .val (.int c2), .val (.int c3), .val (.int c4), .val (.int c5), .val (.int c6), .val (.ref b298), .unset, .unset] [(.int (4 : Int32)), (.ref b298)])) _
  refine own_go (fun _ k => XS.iload X313.here hx rfl (hb hby at_113) rfl k) ?_
  show own_Go p e below (T313.setTop (mkF m 115 #[.val (.int p1), .val (.int p2), .val (.int p3), .val (.int p4), .val (.int (6 : Int32)), .val (.int c1), .val (.int c2), .val (.int c3), .val (.int c4), .val (.int c5), .val (.int c6), .val (.ref b298), .unset, .unset] [(.int c5), (.int (4 : Int32)), (.ref b298)])) _
  obtain ⟨c316, A316, q316, S316, M316, Hs316, Gs316⟩ := id V313q
  obtain ⟨T317, h317, X317, e317, W317, st317⟩ := stC X313 hx hZ e313 A316 (j := (4 : Int32)) (inb_of S316 ⟨by decide, by decide⟩) (g := (mkF m 115 #[.val (.int p1), .val (.int p2), .val (.int p3), .val (.int p4), .val (.int (6 : Int32)), .val (.int c1), .val (.int c2), .val (.int c3), .val (.int c4), .val (.int c5), .val (.int c6), .val (.ref b298), .unset, .unset] [(.int c5), (.int (4 : Int32)), (.ref b298)])) rfl rfl (hb hby at_115)
  refine own_go st317 ?_
  have N317 := Fr.snoc X317 N313 (Nat.le_trans Z0 (Nat.le_of_eq g298.symm))
  have f318 := (Safe.wr W313 f314 C311.1 f314)
  have C319 := C315.trans (CHr.wr W317 f318 C315.1)
  have V317 : Arv Z h317 b298 k298 .char (6 : Int32) [(.int c1), (.int c2), (.int c3), (.int c4), (.int (nar .char c5)), (.int (0 : Int32))] (.int (0 : Int32)) := Arv.set A316 q316 S316 M316 Hs316 Gs316 (fits_nar_char _) W317 4 rfl (Nat.le_of_ble_eq_true rfl)
  have V317q : Arv Z h317 b298 k298 .char (6 : Int32) [(.int c1), (.int c2), (.int c3), (.int c4), (.int c5), (.int (0 : Int32))] (.int (0 : Int32)) := by rw [show nar .char c5 = c5 from (own_nc b_c5.1 b_c5.2)] at V317; exact V317
  show own_Go p e below (T317.setTop (mkF m 116 #[.val (.int p1), .val (.int p2), .val (.int p3), .val (.int p4), .val (.int (6 : Int32)), .val (.int c1), .val (.int c2), .val (.int c3), .val (.int c4), .val (.int c5), .val (.int c6), .val (.ref b298), .unset, .unset] [])) _
  refine own_go (fun _ k => XS.iload X317.here hx rfl (hb hby at_116) rfl k) ?_
  show own_Go p e below (T317.setTop (mkF m 118 #[.val (.int p1), .val (.int p2), .val (.int p3), .val (.int p4), .val (.int (6 : Int32)), .val (.int c1), .val (.int c2), .val (.int c3), .val (.int c4), .val (.int c5), .val (.int c6), .val (.ref b298), .unset, .unset] [(.int (6 : Int32))])) _
  refine own_go (fun _ k => XS.iconst X317.here hx rfl (hb hby at_118) k) ?_
  show own_Go p e below (T317.setTop (mkF m 119 #[.val (.int p1), .val (.int p2), .val (.int p3), .val (.int p4), .val (.int (6 : Int32)), .val (.int c1), .val (.int c2), .val (.int c3), .val (.int c4), .val (.int c5), .val (.int c6), .val (.ref b298), .unset, .unset] [(.int (5 : Int32)), (.int (6 : Int32))])) _
  refine own_go (fun _ k => XS.icmpNo X317.here hx rfl (hb hby at_119) rfl (tlt (by decide : (5 : Int32) < (6 : Int32))).2.2.2 k) ?_
  show own_Go p e below (T317.setTop (mkF m 122 #[.val (.int p1), .val (.int p2), .val (.int p3), .val (.int p4), .val (.int (6 : Int32)), .val (.int c1), .val (.int c2), .val (.int c3), .val (.int c4), .val (.int c5), .val (.int c6), .val (.ref b298), .unset, .unset] [])) _
  refine own_go (fun _ k => XS.aload X317.here hx rfl (hb hby at_122) rfl rfl k) ?_
  show own_Go p e below (T317.setTop (mkF m 124 #[.val (.int p1), .val (.int p2), .val (.int p3), .val (.int p4), .val (.int (6 : Int32)), .val (.int c1), .val (.int c2), .val (.int c3), .val (.int c4), .val (.int c5), .val (.int c6), .val (.ref b298), .unset, .unset] [(.ref b298)])) _
  refine own_go (fun _ k => XS.iconst X317.here hx rfl (hb hby at_124) k) ?_
  show own_Go p e below (T317.setTop (mkF m 125 #[.val (.int p1), .val (.int p2), .val (.int p3), .val (.int p4), .val (.int (6 : Int32)), .val (.int c1), .val (.int c2), .val (.int c3), .val (.int c4), .val (.int c5), .val (.int c6), .val (.ref b298), .unset, .unset] [(.int (5 : Int32)), (.ref b298)])) _
  refine own_go (fun _ k => XS.iload X317.here hx rfl (hb hby at_125) rfl k) ?_
  show own_Go p e below (T317.setTop (mkF m 127 #[.val (.int p1), .val (.int p2), .val (.int p3), .val (.int p4), .val (.int (6 : Int32)), .val (.int c1), .val (.int c2), .val (.int c3), .val (.int c4), .val (.int c5), .val (.int c6), .val (.ref b298), .unset, .unset] [(.int c6), (.int (5 : Int32)), (.ref b298)])) _
  obtain ⟨c320, A320, q320, S320, M320, Hs320, Gs320⟩ := id V317q
  obtain ⟨T321, h321, X321, e321, W321, st321⟩ := stC X317 hx hZ e317 A320 (j := (5 : Int32)) (inb_of S320 ⟨by decide, by decide⟩) (g := (mkF m 127 #[.val (.int p1), .val (.int p2), .val (.int p3), .val (.int p4), .val (.int (6 : Int32)), .val (.int c1), .val (.int c2), .val (.int c3), .val (.int c4), .val (.int c5), .val (.int c6), .val (.ref b298), .unset, .unset] [(.int c6), (.int (5 : Int32)), (.ref b298)])) rfl rfl (hb hby at_127)
  refine own_go st321 ?_
  have N321 := Fr.snoc X321 N317 (Nat.le_trans Z0 (Nat.le_of_eq g298.symm))
  have f322 := (Safe.wr W317 f318 C315.1 f318)
  have C323 := C319.trans (CHr.wr W321 f322 C319.1)
  have V321 : Arv Z h321 b298 k298 .char (6 : Int32) [(.int c1), (.int c2), (.int c3), (.int c4), (.int c5), (.int (nar .char c6))] (.int (0 : Int32)) := Arv.set A320 q320 S320 M320 Hs320 Gs320 (fits_nar_char _) W321 5 rfl (Nat.le_of_ble_eq_true rfl)
  have V321q : Arv Z h321 b298 k298 .char (6 : Int32) [(.int c1), (.int c2), (.int c3), (.int c4), (.int c5), (.int c6)] (.int (0 : Int32)) := by rw [show nar .char c6 = c6 from (own_nc b_c6.1 b_c6.2)] at V321; exact V321
  show own_Go p e below (T321.setTop (mkF m 128 #[.val (.int p1), .val (.int p2), .val (.int p3), .val (.int p4), .val (.int (6 : Int32)), .val (.int c1), .val (.int c2), .val (.int c3), .val (.int c4), .val (.int c5), .val (.int c6), .val (.ref b298), .unset, .unset] [])) _
  obtain ⟨T324, h324, X324, e324, E324, A324, D324, U324, st324⟩ := newO X321 hx hZ hown (hw _ (List.mem_of_getElem? (i := 3) rfl)) (hw _ (List.mem_of_getElem? (i := 4) rfl)) (hw _ (List.mem_of_getElem? (i := 5) rfl)) e321 (g := (mkF m 128 #[.val (.int p1), .val (.int p2), .val (.int p3), .val (.int p4), .val (.int (6 : Int32)), .val (.int c1), .val (.int c2), .val (.int c3), .val (.int c4), .val (.int c5), .val (.int c6), .val (.ref b298), .unset, .unset] [])) rfl (hb hby at_128) (by decide) (by decide)
  obtain ⟨b324, g324⟩ : ∃ z, z = h321.size := ⟨_, rfl⟩
  rw [← g324] at A324 D324 U324 st324
  refine own_go st324 ?_
  have C325 := C323.trans (CHr.ext E324 C323.1)
  have F324_coder : Fld Z h324 b324 "java/lang/String" "coder" "B" (.int (0 : Int32)) := D324 (Or.inr (hw _ (List.mem_of_getElem? (i := 29) rfl))) (ty := .byte) (by decide)
  have F324_value : Fld Z h324 b324 "java/lang/String" "value" "[B" .null := D324 (Or.inr (hw _ (List.mem_of_getElem? (i := 31) rfl))) (ty := (.array .byte)) (by decide)
  show own_Go p e below (T324.setTop (mkF m 131 #[.val (.int p1), .val (.int p2), .val (.int p3), .val (.int p4), .val (.int (6 : Int32)), .val (.int c1), .val (.int c2), .val (.int c3), .val (.int c4), .val (.int c5), .val (.int c6), .val (.ref b298), .unset, .unset] [(.ref b324)])) _
  refine own_go (fun _ k => XS.dup X324.here hx rfl (hb hby at_131) rfl rfl k) ?_
  show own_Go p e below (T324.setTop (mkF m 132 #[.val (.int p1), .val (.int p2), .val (.int p3), .val (.int p4), .val (.int (6 : Int32)), .val (.int c1), .val (.int c2), .val (.int c3), .val (.int c4), .val (.int c5), .val (.int c6), .val (.ref b298), .unset, .unset] [(.ref b324), (.ref b324)])) _
  refine own_go (fun _ k => XS.aload X324.here hx rfl (hb hby at_132) rfl rfl k) ?_
  show own_Go p e below (T324.setTop (mkF m 134 #[.val (.int p1), .val (.int p2), .val (.int p3), .val (.int p4), .val (.int (6 : Int32)), .val (.int c1), .val (.int c2), .val (.int c3), .val (.int c4), .val (.int c5), .val (.int c6), .val (.ref b298), .unset, .unset] [(.ref b298), (.ref b324), (.ref b324)])) _
  have z326 := (Nat.le_trans (Nat.le_trans (Nat.le_trans (Nat.le_trans (Nat.le_trans (Nat.le_trans E298.1 (Keep.of_wr W301).1) (Keep.of_wr W305).1) (Keep.of_wr W309).1) (Keep.of_wr W313).1) (Keep.of_wr W317).1) (Keep.of_wr W321).1)
  have f327 := ((((((((O1.ext E298).wr W301 (Nat.le_trans Z0 (Nat.le_of_eq g298.symm))).wr W305 (Nat.le_trans Z0 (Nat.le_of_eq g298.symm))).wr W309 (Nat.le_trans Z0 (Nat.le_of_eq g298.symm))).wr W313 (Nat.le_trans Z0 (Nat.le_of_eq g298.symm))).wr W317 (Nat.le_trans Z0 (Nat.le_of_eq g298.symm))).wr W321 (Nat.le_trans Z0 (Nat.le_of_eq g298.symm))).ext E324)
  obtain ⟨v328, _, ⟨T328, L328, k328, n328⟩, -, X328, ⟨Lc328, hQ328, l328, y328, z328⟩, st328⟩ := X324.specialBack hx (y := (⟨"java/lang/String", "<init>", "([C)V"⟩ : MethodName)) rfl hown (mvT hZ (hw _ (List.mem_of_getElem? (i := 6) rfl))) (mvT hZ (hw _ (List.mem_of_getElem? (i := 7) rfl))) (mvT hZ (hw _ (List.mem_of_getElem? (i := 8) rfl))) (by decide) (backOf (W := 1) (rm_i1 l Z a0 hw [] b324 b298 k298 (.int (0 : Int32)) [c1, c2, c3, c4, c5, c6] G1 h324 n0 f327 A324 F324_value F324_coder (Nat.le_trans Z0 (Nat.le_trans z326 (Nat.le_of_eq g324.symm))) OA OH OL O2 P5 (own_okL6 b_c1 b_c2 b_c3 b_c4 b_c5 b_c6) (V321q.ext E324) (Nat.le_of_ble_eq_true rfl) (Nat.le_of_ble_eq_true rfl)) hZ (hw _ (List.mem_of_getElem? (i := 8) rfl)) (hw _ (List.mem_of_getElem? (i := 5) rfl)) (by decide) (by decide)) (g := (mkF m 134 #[.val (.int p1), .val (.int p2), .val (.int p3), .val (.int p4), .val (.int (6 : Int32)), .val (.int c1), .val (.int c2), .val (.int c3), .val (.int c4), .val (.int c5), .val (.int c6), .val (.ref b298), .unset, .unset] [(.ref b298), (.ref b324), (.ref b324)])) rfl (by rw [hml]; rfl) (Steps.refl _) (a := b324) (argsL := [(.ref b298)]) (rest := [(.ref b324)]) (lenOf pd_18 rfl) rfl (by show 2 * 0 + _ ≤ _; exact Nat.le_of_eq rfl) (hb hby at_134) (fun _ _ => ⟨rfl, e324, (by decide : 2 + 2 ≤ _), (by decide : 10 + 18 ≤ _)⟩)
  dsimp only [Pt.U, Pt.locs, Pt.cells, Pt.slots] at X328 l328 y328 z328 st328 hQ328
  subst l328 y328 z328
  refine own_gos st328 ?_
  obtain ⟨t328, kt328, cd328, N2328, vs328, rfl, Nq328, K328, Fv328, Fc328, Vt328, hC328⟩ := hQ328
  have f329 := (Safe.ext E324 C323.1 (Safe.new (Nat.le_of_eq g324.symm)))
  have C330 := C325.trans (CHr.keep K328 (sfS f329 sf0) C325.1)
  have N328 := Fr.app N321 Nq328
  show own_Go p e below (T328.setTop (mkF m 137 #[.val (.int p1), .val (.int p2), .val (.int p3), .val (.int p4), .val (.int (6 : Int32)), .val (.int c1), .val (.int c2), .val (.int c3), .val (.int c4), .val (.int c5), .val (.int c6), .val (.ref b298), .unset, .unset] [(.ref b324)])) _
  refine own_go (fun _ k => XS.astore X328.here hx rfl (hb hby at_137) rfl rfl (l' := #[.val (.int p1), .val (.int p2), .val (.int p3), .val (.int p4), .val (.int (6 : Int32)), .val (.int c1), .val (.int c2), .val (.int c3), .val (.int c4), .val (.int c5), .val (.int c6), .val (.ref b298), .val (.ref b324), .unset]) rfl k) ?_
  show own_Go p e below (T328.setTop (mkF m 139 #[.val (.int p1), .val (.int p2), .val (.int p3), .val (.int p4), .val (.int (6 : Int32)), .val (.int c1), .val (.int c2), .val (.int c3), .val (.int c4), .val (.int c5), .val (.int c6), .val (.ref b298), .val (.ref b324), .unset] [])) _
  have z331 := (Nat.le_trans (Nat.le_trans z326 E324.1) K328.1)
  have f332 := (f327.keep K328 (allS (Nat.le_trans Z0 (Nat.le_trans z326 (Nat.le_of_eq g324.symm))) all0))
  exact own_mid6 l Z a0 hw p1 p2 p3 p4 c1 c2 c3 c4 c5 c6 b298 b324 t328 kt328 cd328 N2328 vs328 G1 G3 h0 n0 X328 hx hby hml hown hZ hrt hlk T328.heap (rfl : T328.heap = T328.heap) N328 (Nat.le_trans Z0 z331) f332 hh hS0 (Nat.le_trans hk0 z331) C330 (A324.keep K328) Fv328 Fc328 Vt328 O2 P5 O4 rG3 OA OH OL hC328 (own_okL6 b_c1 b_c2 b_c3 b_c4 b_c5 b_c6)

theorem ef_rm_law (m : MethodId) (x0 : Int32) (x1 : Int32) (x2 : Int32) (x3 : Int32) : entryFrame m #[(.int x0), (.int x1), (.int x2), (.int x3)] maxLocals = mkF m 0 #[.val (.int x0), .val (.int x1), .val (.int x2), .val (.int x3), .unset, .unset, .unset, .unset, .unset, .unset, .unset, .unset, .unset, .unset] [] := by
   first | (simp [entryFrame, mkF, argsToLocals, Value.category, maxLocals]; done) | rfl
set_option maxRecDepth 65536 in
set_option maxHeartbeats 40000000 in
theorem rm_law (l : Launch) (Z : State) (a0 : Array Value) (hw : ∀ d ∈ tables_1, d.before a0 Z = true) (ws : List Jvm.Cond) (p1 : Int32) (p2 : Int32) (p3 : Int32) (p4 : Int32) (G1 : Int32) (G3 : Value) (h0 : Heap) (n0 : Nat) (O0 : Old Z n0 h0) (O2 : Sta Z Z.heap "java/lang/String" "COMPACT_STRINGS" "Z" (.int G1)) (P5 : ¬ (G1 = (0 : Int32))) (O4 : Sta Z Z.heap "jdk/internal/util/Preconditions" "SIOOBE_FORMATTER" "Ljava/util/function/BiFunction;" G3) (rG3 : G3.isRef = true) (OA : Sta Z Z.heap "java/lang/StringUTF16" "$assertionsDisabled" "Z" (.int (1 : Int32))) (OH : Sta Z Z.heap "java/lang/StringUTF16" "HI_BYTE_SHIFT" "I" (.int (0 : Int32))) (OL : Sta Z Z.heap "java/lang/StringUTF16" "LO_BYTE_SHIFT" "I" (.int (8 : Int32))) :
    MetFree l x (head1 (Jvm.Cond.code x code maxLocals ret :: ws) room_1) (fun aA U => aA = #[(.int p1), (.int p2), (.int p3), (.int p4)] ∧ Z.Warmed39 U.vm ∧ U.heap = h0 ∧ CHv Z own_EL U.vm h0) (fun _ _ _ _ _ => True) (fun _ U oO U' => ∃ rV rL, oO = .returned rV ∧ QQ0 n0 rV U'.heap rL ∧ CHr Z own_EL U.vm U.heap U'.vm U'.heap ∧ ReturnedEndW U oO U' rL 24 1152) := by
  refine MetFree.of_bodySF (plainFor_of_name pn_4) hisR ?_
  intro p e s m args below meth cC s₁ Bd hml0 hP hK
  obtain ⟨rfl, hZ, hh, hC0⟩ := hP
  have hx := Bd.exec
  have hby := Bd.bytes
  have hml : cC.maxLocals = maxLocals := hml0
  have hown : s.vm.findClass "com/example/rolelattice/rolelattice/decision/CatalogIsExpressionPinLaw" = some m.cls := findClass_of_methodNamed Bd.named
  have hnm := (name_of_methodNamed Bd.named Bd.method).1
  have hrt := Bd.returns
  have hlk : meth.locks = false := Bd.notSynchronized
  have X0 : Stand p l e room_1 (s.setVm s.vm) m #[(.int p1), (.int p2), (.int p3), (.int p4)] below meth cC s₁ [] 0 0 := Stand.of_body Bd
  have e0 : s₁.heap = h0 := by rw [← hh, Bd.state]; rfl
  have N0 := Fr.nil n0
  have Z0 : n0 ≤ h0.size := O0.1 ▸ O0.2.1
  have hS0 : s.Since s.vm 0 := (State.WarmedH.refl s).since 0
  have C0 : CHr Z own_EL s.vm h0 s.vm h0 := CHr.refl hC0
  have own_wS := own_wSt hw
  have own_hEL := own_hELt hw
  show own_Go p e below (s₁.setTop (entryFrame m #[(.int p1), (.int p2), (.int p3), (.int p4)] maxLocals)) (fun oO U' => ∃ rV rL, oO = .returned rV ∧ QQ0 n0 rV U'.heap rL ∧ CHr Z own_EL s.vm s.heap U'.vm U'.heap ∧ ReturnedEndW s oO U' rL 24 1152)
  refine own_go (fun _ k => castTop (ef_rm_law m p1 p2 p3 p4) k) ?_
  show own_Go p e below (s₁.setTop (mkF m 0 #[.val (.int p1), .val (.int p2), .val (.int p3), .val (.int p4), .unset, .unset, .unset, .unset, .unset, .unset, .unset, .unset, .unset, .unset] [])) _
  refine own_go (fun _ k => XS.iloadN X0.here hx rfl (hb hby at_0) rfl k) ?_
  show own_Go p e below (s₁.setTop (mkF m 1 #[.val (.int p1), .val (.int p2), .val (.int p3), .val (.int p4), .unset, .unset, .unset, .unset, .unset, .unset, .unset, .unset, .unset, .unset] [(.int p4)])) _
  refine own_go (fun _ k => X0.ldcInt hx hown (mvT hZ (hw _ (List.mem_of_getElem? (i := 0) rfl))) (g := (mkF m 1 #[.val (.int p1), .val (.int p2), .val (.int p3), .val (.int p4), .unset, .unset, .unset, .unset, .unset, .unset, .unset, .unset, .unset, .unset] [(.int p4)])) rfl (hb hby at_1) _ k) ?_
  show own_Go p e below (s₁.setTop (mkF m 3 #[.val (.int p1), .val (.int p2), .val (.int p3), .val (.int p4), .unset, .unset, .unset, .unset, .unset, .unset, .unset, .unset, .unset, .unset] [(.int (2147483647 : Int32)), (.int p4)])) _
  refine own_go (fun _ k => XS.iand X0.here hx rfl (hb hby at_3) rfl k) ?_
  show own_Go p e below (s₁.setTop (mkF m 4 #[.val (.int p1), .val (.int p2), .val (.int p3), .val (.int p4), .unset, .unset, .unset, .unset, .unset, .unset, .unset, .unset, .unset, .unset] [(.int (p4 &&& (2147483647 : Int32)))])) _
  refine own_go (fun _ k => XS.bipush X0.here hx rfl (hb hby at_4) k) ?_
  show own_Go p e below (s₁.setTop (mkF m 6 #[.val (.int p1), .val (.int p2), .val (.int p3), .val (.int p4), .unset, .unset, .unset, .unset, .unset, .unset, .unset, .unset, .unset, .unset] [(.int (7 : Int32)), (.int (p4 &&& (2147483647 : Int32)))])) _
  refine own_go (fun _ k => Jvm.RoadKit.iremM (g := (mkF m 6 #[.val (.int p1), .val (.int p2), .val (.int p3), .val (.int p4), .unset, .unset, .unset, .unset, .unset, .unset, .unset, .unset, .unset, .unset] [(.int (7 : Int32)), (.int (p4 &&& (2147483647 : Int32)))])) X0 hx rfl (hb hby at_6) rfl (by decide) k) ?_
  show own_Go p e below (s₁.setTop (mkF m 7 #[.val (.int p1), .val (.int p2), .val (.int p3), .val (.int p4), .unset, .unset, .unset, .unset, .unset, .unset, .unset, .unset, .unset, .unset] [(.int ((p4 &&& (2147483647 : Int32)) % (7 : Int32)))])) _
  refine own_go (fun _ k => XS.istore X0.here hx rfl (hb hby at_7) rfl (l' := #[.val (.int p1), .val (.int p2), .val (.int p3), .val (.int p4), .val (.int ((p4 &&& (2147483647 : Int32)) % (7 : Int32))), .unset, .unset, .unset, .unset, .unset, .unset, .unset, .unset, .unset]) rfl k) ?_
  show own_Go p e below (s₁.setTop (mkF m 9 #[.val (.int p1), .val (.int p2), .val (.int p3), .val (.int p4), .val (.int ((p4 &&& (2147483647 : Int32)) % (7 : Int32))), .unset, .unset, .unset, .unset, .unset, .unset, .unset, .unset, .unset] [])) _
  refine own_go (fun _ k => XS.iloadN X0.here hx rfl (hb hby at_9) rfl k) ?_
  show own_Go p e below (s₁.setTop (mkF m 10 #[.val (.int p1), .val (.int p2), .val (.int p3), .val (.int p4), .val (.int ((p4 &&& (2147483647 : Int32)) % (7 : Int32))), .unset, .unset, .unset, .unset, .unset, .unset, .unset, .unset, .unset] [(.int p1)])) _
  refine own_go (fun _ k => X0.ldcInt hx hown (mvT hZ (hw _ (List.mem_of_getElem? (i := 1) rfl))) (g := (mkF m 10 #[.val (.int p1), .val (.int p2), .val (.int p3), .val (.int p4), .val (.int ((p4 &&& (2147483647 : Int32)) % (7 : Int32))), .unset, .unset, .unset, .unset, .unset, .unset, .unset, .unset, .unset] [(.int p1)])) rfl (hb hby at_10) _ k) ?_
  show own_Go p e below (s₁.setTop (mkF m 12 #[.val (.int p1), .val (.int p2), .val (.int p3), .val (.int p4), .val (.int ((p4 &&& (2147483647 : Int32)) % (7 : Int32))), .unset, .unset, .unset, .unset, .unset, .unset, .unset, .unset, .unset] [(.int (65535 : Int32)), (.int p1)])) _
  refine own_go (fun _ k => XS.iand X0.here hx rfl (hb hby at_12) rfl k) ?_
  show own_Go p e below (s₁.setTop (mkF m 13 #[.val (.int p1), .val (.int p2), .val (.int p3), .val (.int p4), .val (.int ((p4 &&& (2147483647 : Int32)) % (7 : Int32))), .unset, .unset, .unset, .unset, .unset, .unset, .unset, .unset, .unset] [(.int (p1 &&& (65535 : Int32)))])) _
  refine own_go (fun _ k => XS.i2c X0.here hx rfl (hb hby at_13) rfl k) ?_
  show own_Go p e below (s₁.setTop (mkF m 14 #[.val (.int p1), .val (.int p2), .val (.int p3), .val (.int p4), .val (.int ((p4 &&& (2147483647 : Int32)) % (7 : Int32))), .unset, .unset, .unset, .unset, .unset, .unset, .unset, .unset, .unset] [(.int ((p1 &&& (65535 : Int32)).toUInt32.toUInt16.toUInt32.toInt32))])) _
  refine own_go (fun _ k => XS.istore X0.here hx rfl (hb hby at_14) rfl (l' := #[.val (.int p1), .val (.int p2), .val (.int p3), .val (.int p4), .val (.int ((p4 &&& (2147483647 : Int32)) % (7 : Int32))), .val (.int ((p1 &&& (65535 : Int32)).toUInt32.toUInt16.toUInt32.toInt32)), .unset, .unset, .unset, .unset, .unset, .unset, .unset, .unset]) rfl k) ?_
  show own_Go p e below (s₁.setTop (mkF m 16 #[.val (.int p1), .val (.int p2), .val (.int p3), .val (.int p4), .val (.int ((p4 &&& (2147483647 : Int32)) % (7 : Int32))), .val (.int ((p1 &&& (65535 : Int32)).toUInt32.toUInt16.toUInt32.toInt32)), .unset, .unset, .unset, .unset, .unset, .unset, .unset, .unset] [])) _
  refine own_go (fun _ k => XS.iloadN X0.here hx rfl (hb hby at_16) rfl k) ?_
  show own_Go p e below (s₁.setTop (mkF m 17 #[.val (.int p1), .val (.int p2), .val (.int p3), .val (.int p4), .val (.int ((p4 &&& (2147483647 : Int32)) % (7 : Int32))), .val (.int ((p1 &&& (65535 : Int32)).toUInt32.toUInt16.toUInt32.toInt32)), .unset, .unset, .unset, .unset, .unset, .unset, .unset, .unset] [(.int p1)])) _
  refine own_go (fun _ k => XS.bipush X0.here hx rfl (hb hby at_17) k) ?_
  show own_Go p e below (s₁.setTop (mkF m 19 #[.val (.int p1), .val (.int p2), .val (.int p3), .val (.int p4), .val (.int ((p4 &&& (2147483647 : Int32)) % (7 : Int32))), .val (.int ((p1 &&& (65535 : Int32)).toUInt32.toUInt16.toUInt32.toInt32)), .unset, .unset, .unset, .unset, .unset, .unset, .unset, .unset] [(.int (16 : Int32)), (.int p1)])) _
  refine own_go (fun _ k => XS.iushr X0.here hx rfl (hb hby at_19) rfl k) ?_
  show own_Go p e below (s₁.setTop (mkF m 20 #[.val (.int p1), .val (.int p2), .val (.int p3), .val (.int p4), .val (.int ((p4 &&& (2147483647 : Int32)) % (7 : Int32))), .val (.int ((p1 &&& (65535 : Int32)).toUInt32.toUInt16.toUInt32.toInt32)), .unset, .unset, .unset, .unset, .unset, .unset, .unset, .unset] [(.int ((p1.toUInt32 >>> ((16 : Int32) &&& 31).toUInt32).toInt32))])) _
  refine own_go (fun _ k => XS.i2c X0.here hx rfl (hb hby at_20) rfl k) ?_
  show own_Go p e below (s₁.setTop (mkF m 21 #[.val (.int p1), .val (.int p2), .val (.int p3), .val (.int p4), .val (.int ((p4 &&& (2147483647 : Int32)) % (7 : Int32))), .val (.int ((p1 &&& (65535 : Int32)).toUInt32.toUInt16.toUInt32.toInt32)), .unset, .unset, .unset, .unset, .unset, .unset, .unset, .unset] [(.int (((p1.toUInt32 >>> ((16 : Int32) &&& 31).toUInt32).toInt32).toUInt32.toUInt16.toUInt32.toInt32))])) _
  refine own_go (fun _ k => XS.istore X0.here hx rfl (hb hby at_21) rfl (l' := #[.val (.int p1), .val (.int p2), .val (.int p3), .val (.int p4), .val (.int ((p4 &&& (2147483647 : Int32)) % (7 : Int32))), .val (.int ((p1 &&& (65535 : Int32)).toUInt32.toUInt16.toUInt32.toInt32)), .val (.int (((p1.toUInt32 >>> ((16 : Int32) &&& 31).toUInt32).toInt32).toUInt32.toUInt16.toUInt32.toInt32)), .unset, .unset, .unset, .unset, .unset, .unset, .unset]) rfl k) ?_
  show own_Go p e below (s₁.setTop (mkF m 23 #[.val (.int p1), .val (.int p2), .val (.int p3), .val (.int p4), .val (.int ((p4 &&& (2147483647 : Int32)) % (7 : Int32))), .val (.int ((p1 &&& (65535 : Int32)).toUInt32.toUInt16.toUInt32.toInt32)), .val (.int (((p1.toUInt32 >>> ((16 : Int32) &&& 31).toUInt32).toInt32).toUInt32.toUInt16.toUInt32.toInt32)), .unset, .unset, .unset, .unset, .unset, .unset, .unset] [])) _
  refine own_go (fun _ k => XS.iloadN X0.here hx rfl (hb hby at_23) rfl k) ?_
  show own_Go p e below (s₁.setTop (mkF m 24 #[.val (.int p1), .val (.int p2), .val (.int p3), .val (.int p4), .val (.int ((p4 &&& (2147483647 : Int32)) % (7 : Int32))), .val (.int ((p1 &&& (65535 : Int32)).toUInt32.toUInt16.toUInt32.toInt32)), .val (.int (((p1.toUInt32 >>> ((16 : Int32) &&& 31).toUInt32).toInt32).toUInt32.toUInt16.toUInt32.toInt32)), .unset, .unset, .unset, .unset, .unset, .unset, .unset] [(.int p2)])) _
  refine own_go (fun _ k => X0.ldcInt hx hown (mvT hZ (hw _ (List.mem_of_getElem? (i := 1) rfl))) (g := (mkF m 24 #[.val (.int p1), .val (.int p2), .val (.int p3), .val (.int p4), .val (.int ((p4 &&& (2147483647 : Int32)) % (7 : Int32))), .val (.int ((p1 &&& (65535 : Int32)).toUInt32.toUInt16.toUInt32.toInt32)), .val (.int (((p1.toUInt32 >>> ((16 : Int32) &&& 31).toUInt32).toInt32).toUInt32.toUInt16.toUInt32.toInt32)), .unset, .unset, .unset, .unset, .unset, .unset, .unset] [(.int p2)])) rfl (hb hby at_24) _ k) ?_
  show own_Go p e below (s₁.setTop (mkF m 26 #[.val (.int p1), .val (.int p2), .val (.int p3), .val (.int p4), .val (.int ((p4 &&& (2147483647 : Int32)) % (7 : Int32))), .val (.int ((p1 &&& (65535 : Int32)).toUInt32.toUInt16.toUInt32.toInt32)), .val (.int (((p1.toUInt32 >>> ((16 : Int32) &&& 31).toUInt32).toInt32).toUInt32.toUInt16.toUInt32.toInt32)), .unset, .unset, .unset, .unset, .unset, .unset, .unset] [(.int (65535 : Int32)), (.int p2)])) _
  refine own_go (fun _ k => XS.iand X0.here hx rfl (hb hby at_26) rfl k) ?_
  show own_Go p e below (s₁.setTop (mkF m 27 #[.val (.int p1), .val (.int p2), .val (.int p3), .val (.int p4), .val (.int ((p4 &&& (2147483647 : Int32)) % (7 : Int32))), .val (.int ((p1 &&& (65535 : Int32)).toUInt32.toUInt16.toUInt32.toInt32)), .val (.int (((p1.toUInt32 >>> ((16 : Int32) &&& 31).toUInt32).toInt32).toUInt32.toUInt16.toUInt32.toInt32)), .unset, .unset, .unset, .unset, .unset, .unset, .unset] [(.int (p2 &&& (65535 : Int32)))])) _
  refine own_go (fun _ k => XS.i2c X0.here hx rfl (hb hby at_27) rfl k) ?_
  show own_Go p e below (s₁.setTop (mkF m 28 #[.val (.int p1), .val (.int p2), .val (.int p3), .val (.int p4), .val (.int ((p4 &&& (2147483647 : Int32)) % (7 : Int32))), .val (.int ((p1 &&& (65535 : Int32)).toUInt32.toUInt16.toUInt32.toInt32)), .val (.int (((p1.toUInt32 >>> ((16 : Int32) &&& 31).toUInt32).toInt32).toUInt32.toUInt16.toUInt32.toInt32)), .unset, .unset, .unset, .unset, .unset, .unset, .unset] [(.int ((p2 &&& (65535 : Int32)).toUInt32.toUInt16.toUInt32.toInt32))])) _
  refine own_go (fun _ k => XS.istore X0.here hx rfl (hb hby at_28) rfl (l' := #[.val (.int p1), .val (.int p2), .val (.int p3), .val (.int p4), .val (.int ((p4 &&& (2147483647 : Int32)) % (7 : Int32))), .val (.int ((p1 &&& (65535 : Int32)).toUInt32.toUInt16.toUInt32.toInt32)), .val (.int (((p1.toUInt32 >>> ((16 : Int32) &&& 31).toUInt32).toInt32).toUInt32.toUInt16.toUInt32.toInt32)), .val (.int ((p2 &&& (65535 : Int32)).toUInt32.toUInt16.toUInt32.toInt32)), .unset, .unset, .unset, .unset, .unset, .unset]) rfl k) ?_
  show own_Go p e below (s₁.setTop (mkF m 30 #[.val (.int p1), .val (.int p2), .val (.int p3), .val (.int p4), .val (.int ((p4 &&& (2147483647 : Int32)) % (7 : Int32))), .val (.int ((p1 &&& (65535 : Int32)).toUInt32.toUInt16.toUInt32.toInt32)), .val (.int (((p1.toUInt32 >>> ((16 : Int32) &&& 31).toUInt32).toInt32).toUInt32.toUInt16.toUInt32.toInt32)), .val (.int ((p2 &&& (65535 : Int32)).toUInt32.toUInt16.toUInt32.toInt32)), .unset, .unset, .unset, .unset, .unset, .unset] [])) _
  refine own_go (fun _ k => XS.iloadN X0.here hx rfl (hb hby at_30) rfl k) ?_
  show own_Go p e below (s₁.setTop (mkF m 31 #[.val (.int p1), .val (.int p2), .val (.int p3), .val (.int p4), .val (.int ((p4 &&& (2147483647 : Int32)) % (7 : Int32))), .val (.int ((p1 &&& (65535 : Int32)).toUInt32.toUInt16.toUInt32.toInt32)), .val (.int (((p1.toUInt32 >>> ((16 : Int32) &&& 31).toUInt32).toInt32).toUInt32.toUInt16.toUInt32.toInt32)), .val (.int ((p2 &&& (65535 : Int32)).toUInt32.toUInt16.toUInt32.toInt32)), .unset, .unset, .unset, .unset, .unset, .unset] [(.int p2)])) _
  refine own_go (fun _ k => XS.bipush X0.here hx rfl (hb hby at_31) k) ?_
  show own_Go p e below (s₁.setTop (mkF m 33 #[.val (.int p1), .val (.int p2), .val (.int p3), .val (.int p4), .val (.int ((p4 &&& (2147483647 : Int32)) % (7 : Int32))), .val (.int ((p1 &&& (65535 : Int32)).toUInt32.toUInt16.toUInt32.toInt32)), .val (.int (((p1.toUInt32 >>> ((16 : Int32) &&& 31).toUInt32).toInt32).toUInt32.toUInt16.toUInt32.toInt32)), .val (.int ((p2 &&& (65535 : Int32)).toUInt32.toUInt16.toUInt32.toInt32)), .unset, .unset, .unset, .unset, .unset, .unset] [(.int (16 : Int32)), (.int p2)])) _
  refine own_go (fun _ k => XS.iushr X0.here hx rfl (hb hby at_33) rfl k) ?_
  show own_Go p e below (s₁.setTop (mkF m 34 #[.val (.int p1), .val (.int p2), .val (.int p3), .val (.int p4), .val (.int ((p4 &&& (2147483647 : Int32)) % (7 : Int32))), .val (.int ((p1 &&& (65535 : Int32)).toUInt32.toUInt16.toUInt32.toInt32)), .val (.int (((p1.toUInt32 >>> ((16 : Int32) &&& 31).toUInt32).toInt32).toUInt32.toUInt16.toUInt32.toInt32)), .val (.int ((p2 &&& (65535 : Int32)).toUInt32.toUInt16.toUInt32.toInt32)), .unset, .unset, .unset, .unset, .unset, .unset] [(.int ((p2.toUInt32 >>> ((16 : Int32) &&& 31).toUInt32).toInt32))])) _
  refine own_go (fun _ k => XS.i2c X0.here hx rfl (hb hby at_34) rfl k) ?_
  show own_Go p e below (s₁.setTop (mkF m 35 #[.val (.int p1), .val (.int p2), .val (.int p3), .val (.int p4), .val (.int ((p4 &&& (2147483647 : Int32)) % (7 : Int32))), .val (.int ((p1 &&& (65535 : Int32)).toUInt32.toUInt16.toUInt32.toInt32)), .val (.int (((p1.toUInt32 >>> ((16 : Int32) &&& 31).toUInt32).toInt32).toUInt32.toUInt16.toUInt32.toInt32)), .val (.int ((p2 &&& (65535 : Int32)).toUInt32.toUInt16.toUInt32.toInt32)), .unset, .unset, .unset, .unset, .unset, .unset] [(.int (((p2.toUInt32 >>> ((16 : Int32) &&& 31).toUInt32).toInt32).toUInt32.toUInt16.toUInt32.toInt32))])) _
  refine own_go (fun _ k => XS.istore X0.here hx rfl (hb hby at_35) rfl (l' := #[.val (.int p1), .val (.int p2), .val (.int p3), .val (.int p4), .val (.int ((p4 &&& (2147483647 : Int32)) % (7 : Int32))), .val (.int ((p1 &&& (65535 : Int32)).toUInt32.toUInt16.toUInt32.toInt32)), .val (.int (((p1.toUInt32 >>> ((16 : Int32) &&& 31).toUInt32).toInt32).toUInt32.toUInt16.toUInt32.toInt32)), .val (.int ((p2 &&& (65535 : Int32)).toUInt32.toUInt16.toUInt32.toInt32)), .val (.int (((p2.toUInt32 >>> ((16 : Int32) &&& 31).toUInt32).toInt32).toUInt32.toUInt16.toUInt32.toInt32)), .unset, .unset, .unset, .unset, .unset]) rfl k) ?_
  show own_Go p e below (s₁.setTop (mkF m 37 #[.val (.int p1), .val (.int p2), .val (.int p3), .val (.int p4), .val (.int ((p4 &&& (2147483647 : Int32)) % (7 : Int32))), .val (.int ((p1 &&& (65535 : Int32)).toUInt32.toUInt16.toUInt32.toInt32)), .val (.int (((p1.toUInt32 >>> ((16 : Int32) &&& 31).toUInt32).toInt32).toUInt32.toUInt16.toUInt32.toInt32)), .val (.int ((p2 &&& (65535 : Int32)).toUInt32.toUInt16.toUInt32.toInt32)), .val (.int (((p2.toUInt32 >>> ((16 : Int32) &&& 31).toUInt32).toInt32).toUInt32.toUInt16.toUInt32.toInt32)), .unset, .unset, .unset, .unset, .unset] [])) _
  refine own_go (fun _ k => XS.iloadN X0.here hx rfl (hb hby at_37) rfl k) ?_
  show own_Go p e below (s₁.setTop (mkF m 38 #[.val (.int p1), .val (.int p2), .val (.int p3), .val (.int p4), .val (.int ((p4 &&& (2147483647 : Int32)) % (7 : Int32))), .val (.int ((p1 &&& (65535 : Int32)).toUInt32.toUInt16.toUInt32.toInt32)), .val (.int (((p1.toUInt32 >>> ((16 : Int32) &&& 31).toUInt32).toInt32).toUInt32.toUInt16.toUInt32.toInt32)), .val (.int ((p2 &&& (65535 : Int32)).toUInt32.toUInt16.toUInt32.toInt32)), .val (.int (((p2.toUInt32 >>> ((16 : Int32) &&& 31).toUInt32).toInt32).toUInt32.toUInt16.toUInt32.toInt32)), .unset, .unset, .unset, .unset, .unset] [(.int p3)])) _
  refine own_go (fun _ k => X0.ldcInt hx hown (mvT hZ (hw _ (List.mem_of_getElem? (i := 1) rfl))) (g := (mkF m 38 #[.val (.int p1), .val (.int p2), .val (.int p3), .val (.int p4), .val (.int ((p4 &&& (2147483647 : Int32)) % (7 : Int32))), .val (.int ((p1 &&& (65535 : Int32)).toUInt32.toUInt16.toUInt32.toInt32)), .val (.int (((p1.toUInt32 >>> ((16 : Int32) &&& 31).toUInt32).toInt32).toUInt32.toUInt16.toUInt32.toInt32)), .val (.int ((p2 &&& (65535 : Int32)).toUInt32.toUInt16.toUInt32.toInt32)), .val (.int (((p2.toUInt32 >>> ((16 : Int32) &&& 31).toUInt32).toInt32).toUInt32.toUInt16.toUInt32.toInt32)), .unset, .unset, .unset, .unset, .unset] [(.int p3)])) rfl (hb hby at_38) _ k) ?_
  show own_Go p e below (s₁.setTop (mkF m 40 #[.val (.int p1), .val (.int p2), .val (.int p3), .val (.int p4), .val (.int ((p4 &&& (2147483647 : Int32)) % (7 : Int32))), .val (.int ((p1 &&& (65535 : Int32)).toUInt32.toUInt16.toUInt32.toInt32)), .val (.int (((p1.toUInt32 >>> ((16 : Int32) &&& 31).toUInt32).toInt32).toUInt32.toUInt16.toUInt32.toInt32)), .val (.int ((p2 &&& (65535 : Int32)).toUInt32.toUInt16.toUInt32.toInt32)), .val (.int (((p2.toUInt32 >>> ((16 : Int32) &&& 31).toUInt32).toInt32).toUInt32.toUInt16.toUInt32.toInt32)), .unset, .unset, .unset, .unset, .unset] [(.int (65535 : Int32)), (.int p3)])) _
  refine own_go (fun _ k => XS.iand X0.here hx rfl (hb hby at_40) rfl k) ?_
  show own_Go p e below (s₁.setTop (mkF m 41 #[.val (.int p1), .val (.int p2), .val (.int p3), .val (.int p4), .val (.int ((p4 &&& (2147483647 : Int32)) % (7 : Int32))), .val (.int ((p1 &&& (65535 : Int32)).toUInt32.toUInt16.toUInt32.toInt32)), .val (.int (((p1.toUInt32 >>> ((16 : Int32) &&& 31).toUInt32).toInt32).toUInt32.toUInt16.toUInt32.toInt32)), .val (.int ((p2 &&& (65535 : Int32)).toUInt32.toUInt16.toUInt32.toInt32)), .val (.int (((p2.toUInt32 >>> ((16 : Int32) &&& 31).toUInt32).toInt32).toUInt32.toUInt16.toUInt32.toInt32)), .unset, .unset, .unset, .unset, .unset] [(.int (p3 &&& (65535 : Int32)))])) _
  refine own_go (fun _ k => XS.i2c X0.here hx rfl (hb hby at_41) rfl k) ?_
  show own_Go p e below (s₁.setTop (mkF m 42 #[.val (.int p1), .val (.int p2), .val (.int p3), .val (.int p4), .val (.int ((p4 &&& (2147483647 : Int32)) % (7 : Int32))), .val (.int ((p1 &&& (65535 : Int32)).toUInt32.toUInt16.toUInt32.toInt32)), .val (.int (((p1.toUInt32 >>> ((16 : Int32) &&& 31).toUInt32).toInt32).toUInt32.toUInt16.toUInt32.toInt32)), .val (.int ((p2 &&& (65535 : Int32)).toUInt32.toUInt16.toUInt32.toInt32)), .val (.int (((p2.toUInt32 >>> ((16 : Int32) &&& 31).toUInt32).toInt32).toUInt32.toUInt16.toUInt32.toInt32)), .unset, .unset, .unset, .unset, .unset] [(.int ((p3 &&& (65535 : Int32)).toUInt32.toUInt16.toUInt32.toInt32))])) _
  refine own_go (fun _ k => XS.istore X0.here hx rfl (hb hby at_42) rfl (l' := #[.val (.int p1), .val (.int p2), .val (.int p3), .val (.int p4), .val (.int ((p4 &&& (2147483647 : Int32)) % (7 : Int32))), .val (.int ((p1 &&& (65535 : Int32)).toUInt32.toUInt16.toUInt32.toInt32)), .val (.int (((p1.toUInt32 >>> ((16 : Int32) &&& 31).toUInt32).toInt32).toUInt32.toUInt16.toUInt32.toInt32)), .val (.int ((p2 &&& (65535 : Int32)).toUInt32.toUInt16.toUInt32.toInt32)), .val (.int (((p2.toUInt32 >>> ((16 : Int32) &&& 31).toUInt32).toInt32).toUInt32.toUInt16.toUInt32.toInt32)), .val (.int ((p3 &&& (65535 : Int32)).toUInt32.toUInt16.toUInt32.toInt32)), .unset, .unset, .unset, .unset]) rfl k) ?_
  show own_Go p e below (s₁.setTop (mkF m 44 #[.val (.int p1), .val (.int p2), .val (.int p3), .val (.int p4), .val (.int ((p4 &&& (2147483647 : Int32)) % (7 : Int32))), .val (.int ((p1 &&& (65535 : Int32)).toUInt32.toUInt16.toUInt32.toInt32)), .val (.int (((p1.toUInt32 >>> ((16 : Int32) &&& 31).toUInt32).toInt32).toUInt32.toUInt16.toUInt32.toInt32)), .val (.int ((p2 &&& (65535 : Int32)).toUInt32.toUInt16.toUInt32.toInt32)), .val (.int (((p2.toUInt32 >>> ((16 : Int32) &&& 31).toUInt32).toInt32).toUInt32.toUInt16.toUInt32.toInt32)), .val (.int ((p3 &&& (65535 : Int32)).toUInt32.toUInt16.toUInt32.toInt32)), .unset, .unset, .unset, .unset] [])) _
  refine own_go (fun _ k => XS.iloadN X0.here hx rfl (hb hby at_44) rfl k) ?_
  show own_Go p e below (s₁.setTop (mkF m 45 #[.val (.int p1), .val (.int p2), .val (.int p3), .val (.int p4), .val (.int ((p4 &&& (2147483647 : Int32)) % (7 : Int32))), .val (.int ((p1 &&& (65535 : Int32)).toUInt32.toUInt16.toUInt32.toInt32)), .val (.int (((p1.toUInt32 >>> ((16 : Int32) &&& 31).toUInt32).toInt32).toUInt32.toUInt16.toUInt32.toInt32)), .val (.int ((p2 &&& (65535 : Int32)).toUInt32.toUInt16.toUInt32.toInt32)), .val (.int (((p2.toUInt32 >>> ((16 : Int32) &&& 31).toUInt32).toInt32).toUInt32.toUInt16.toUInt32.toInt32)), .val (.int ((p3 &&& (65535 : Int32)).toUInt32.toUInt16.toUInt32.toInt32)), .unset, .unset, .unset, .unset] [(.int p3)])) _
  refine own_go (fun _ k => XS.bipush X0.here hx rfl (hb hby at_45) k) ?_
  show own_Go p e below (s₁.setTop (mkF m 47 #[.val (.int p1), .val (.int p2), .val (.int p3), .val (.int p4), .val (.int ((p4 &&& (2147483647 : Int32)) % (7 : Int32))), .val (.int ((p1 &&& (65535 : Int32)).toUInt32.toUInt16.toUInt32.toInt32)), .val (.int (((p1.toUInt32 >>> ((16 : Int32) &&& 31).toUInt32).toInt32).toUInt32.toUInt16.toUInt32.toInt32)), .val (.int ((p2 &&& (65535 : Int32)).toUInt32.toUInt16.toUInt32.toInt32)), .val (.int (((p2.toUInt32 >>> ((16 : Int32) &&& 31).toUInt32).toInt32).toUInt32.toUInt16.toUInt32.toInt32)), .val (.int ((p3 &&& (65535 : Int32)).toUInt32.toUInt16.toUInt32.toInt32)), .unset, .unset, .unset, .unset] [(.int (16 : Int32)), (.int p3)])) _
  refine own_go (fun _ k => XS.iushr X0.here hx rfl (hb hby at_47) rfl k) ?_
  show own_Go p e below (s₁.setTop (mkF m 48 #[.val (.int p1), .val (.int p2), .val (.int p3), .val (.int p4), .val (.int ((p4 &&& (2147483647 : Int32)) % (7 : Int32))), .val (.int ((p1 &&& (65535 : Int32)).toUInt32.toUInt16.toUInt32.toInt32)), .val (.int (((p1.toUInt32 >>> ((16 : Int32) &&& 31).toUInt32).toInt32).toUInt32.toUInt16.toUInt32.toInt32)), .val (.int ((p2 &&& (65535 : Int32)).toUInt32.toUInt16.toUInt32.toInt32)), .val (.int (((p2.toUInt32 >>> ((16 : Int32) &&& 31).toUInt32).toInt32).toUInt32.toUInt16.toUInt32.toInt32)), .val (.int ((p3 &&& (65535 : Int32)).toUInt32.toUInt16.toUInt32.toInt32)), .unset, .unset, .unset, .unset] [(.int ((p3.toUInt32 >>> ((16 : Int32) &&& 31).toUInt32).toInt32))])) _
  refine own_go (fun _ k => XS.i2c X0.here hx rfl (hb hby at_48) rfl k) ?_
  show own_Go p e below (s₁.setTop (mkF m 49 #[.val (.int p1), .val (.int p2), .val (.int p3), .val (.int p4), .val (.int ((p4 &&& (2147483647 : Int32)) % (7 : Int32))), .val (.int ((p1 &&& (65535 : Int32)).toUInt32.toUInt16.toUInt32.toInt32)), .val (.int (((p1.toUInt32 >>> ((16 : Int32) &&& 31).toUInt32).toInt32).toUInt32.toUInt16.toUInt32.toInt32)), .val (.int ((p2 &&& (65535 : Int32)).toUInt32.toUInt16.toUInt32.toInt32)), .val (.int (((p2.toUInt32 >>> ((16 : Int32) &&& 31).toUInt32).toInt32).toUInt32.toUInt16.toUInt32.toInt32)), .val (.int ((p3 &&& (65535 : Int32)).toUInt32.toUInt16.toUInt32.toInt32)), .unset, .unset, .unset, .unset] [(.int (((p3.toUInt32 >>> ((16 : Int32) &&& 31).toUInt32).toInt32).toUInt32.toUInt16.toUInt32.toInt32))])) _
  refine own_go (fun _ k => XS.istore X0.here hx rfl (hb hby at_49) rfl (l' := #[.val (.int p1), .val (.int p2), .val (.int p3), .val (.int p4), .val (.int ((p4 &&& (2147483647 : Int32)) % (7 : Int32))), .val (.int ((p1 &&& (65535 : Int32)).toUInt32.toUInt16.toUInt32.toInt32)), .val (.int (((p1.toUInt32 >>> ((16 : Int32) &&& 31).toUInt32).toInt32).toUInt32.toUInt16.toUInt32.toInt32)), .val (.int ((p2 &&& (65535 : Int32)).toUInt32.toUInt16.toUInt32.toInt32)), .val (.int (((p2.toUInt32 >>> ((16 : Int32) &&& 31).toUInt32).toInt32).toUInt32.toUInt16.toUInt32.toInt32)), .val (.int ((p3 &&& (65535 : Int32)).toUInt32.toUInt16.toUInt32.toInt32)), .val (.int (((p3.toUInt32 >>> ((16 : Int32) &&& 31).toUInt32).toInt32).toUInt32.toUInt16.toUInt32.toInt32)), .unset, .unset, .unset]) rfl k) ?_
  show own_Go p e below (s₁.setTop (mkF m 51 #[.val (.int p1), .val (.int p2), .val (.int p3), .val (.int p4), .val (.int ((p4 &&& (2147483647 : Int32)) % (7 : Int32))), .val (.int ((p1 &&& (65535 : Int32)).toUInt32.toUInt16.toUInt32.toInt32)), .val (.int (((p1.toUInt32 >>> ((16 : Int32) &&& 31).toUInt32).toInt32).toUInt32.toUInt16.toUInt32.toInt32)), .val (.int ((p2 &&& (65535 : Int32)).toUInt32.toUInt16.toUInt32.toInt32)), .val (.int (((p2.toUInt32 >>> ((16 : Int32) &&& 31).toUInt32).toInt32).toUInt32.toUInt16.toUInt32.toInt32)), .val (.int ((p3 &&& (65535 : Int32)).toUInt32.toUInt16.toUInt32.toInt32)), .val (.int (((p3.toUInt32 >>> ((16 : Int32) &&& 31).toUInt32).toInt32).toUInt32.toUInt16.toUInt32.toInt32)), .unset, .unset, .unset] [])) _
  obtain ⟨c1, h_c1⟩ : ∃ z, z = ((p1 &&& (65535 : Int32)).toUInt32.toUInt16.toUInt32.toInt32) := ⟨_, rfl⟩
  have b_c1 : ¬ c1 < 0 ∧ ¬ (65535 : Int32) < c1 := h_c1 ▸ own_i2c _
  rw [← h_c1]
  obtain ⟨c2, h_c2⟩ : ∃ z, z = (((p1.toUInt32 >>> ((16 : Int32) &&& 31).toUInt32).toInt32).toUInt32.toUInt16.toUInt32.toInt32) := ⟨_, rfl⟩
  have b_c2 : ¬ c2 < 0 ∧ ¬ (65535 : Int32) < c2 := h_c2 ▸ own_i2c _
  rw [← h_c2]
  obtain ⟨c3, h_c3⟩ : ∃ z, z = ((p2 &&& (65535 : Int32)).toUInt32.toUInt16.toUInt32.toInt32) := ⟨_, rfl⟩
  have b_c3 : ¬ c3 < 0 ∧ ¬ (65535 : Int32) < c3 := h_c3 ▸ own_i2c _
  rw [← h_c3]
  obtain ⟨c4, h_c4⟩ : ∃ z, z = (((p2.toUInt32 >>> ((16 : Int32) &&& 31).toUInt32).toInt32).toUInt32.toUInt16.toUInt32.toInt32) := ⟨_, rfl⟩
  have b_c4 : ¬ c4 < 0 ∧ ¬ (65535 : Int32) < c4 := h_c4 ▸ own_i2c _
  rw [← h_c4]
  obtain ⟨c5, h_c5⟩ : ∃ z, z = ((p3 &&& (65535 : Int32)).toUInt32.toUInt16.toUInt32.toInt32) := ⟨_, rfl⟩
  have b_c5 : ¬ c5 < 0 ∧ ¬ (65535 : Int32) < c5 := h_c5 ▸ own_i2c _
  rw [← h_c5]
  obtain ⟨c6, h_c6⟩ : ∃ z, z = (((p3.toUInt32 >>> ((16 : Int32) &&& 31).toUInt32).toInt32).toUInt32.toUInt16.toUInt32.toInt32) := ⟨_, rfl⟩
  have b_c6 : ¬ c6 < 0 ∧ ¬ (65535 : Int32) < c6 := h_c6 ▸ own_i2c _
  rw [← h_c6]
  have hn7 := own_i7 p4
  obtain ⟨nn, h_nn⟩ : ∃ z, z = ((p4 &&& (2147483647 : Int32)) % (7 : Int32)) := ⟨_, rfl⟩
  rw [← h_nn] at hn7 ⊢
  clear h_nn
  rcases hn7 with q | q | q | q | q | q | q
  · subst q
    show own_Go p e below (s₁.setTop (mkF m 51 #[.val (.int p1), .val (.int p2), .val (.int p3), .val (.int p4), .val (.int (0 : Int32)), .val (.int c1), .val (.int c2), .val (.int c3), .val (.int c4), .val (.int c5), .val (.int c6), .unset, .unset, .unset] [])) _
    exact own_fst0 l Z a0 hw p1 p2 p3 p4 c1 c2 c3 c4 c5 c6 G1 G3 h0 n0 X0 hx hby hml hown hZ hrt hlk h0 e0 N0 (Nat.le_trans Z0 (Nat.le_refl _)) O0 hh hS0 (Nat.zero_le _) C0  O2 P5 O4 rG3 OA OH OL b_c1 b_c2 b_c3 b_c4 b_c5 b_c6
  · subst q
    show own_Go p e below (s₁.setTop (mkF m 51 #[.val (.int p1), .val (.int p2), .val (.int p3), .val (.int p4), .val (.int (1 : Int32)), .val (.int c1), .val (.int c2), .val (.int c3), .val (.int c4), .val (.int c5), .val (.int c6), .unset, .unset, .unset] [])) _
    exact own_fst1 l Z a0 hw p1 p2 p3 p4 c1 c2 c3 c4 c5 c6 G1 G3 h0 n0 X0 hx hby hml hown hZ hrt hlk h0 e0 N0 (Nat.le_trans Z0 (Nat.le_refl _)) O0 hh hS0 (Nat.zero_le _) C0  O2 P5 O4 rG3 OA OH OL b_c1 b_c2 b_c3 b_c4 b_c5 b_c6
  · subst q
    show own_Go p e below (s₁.setTop (mkF m 51 #[.val (.int p1), .val (.int p2), .val (.int p3), .val (.int p4), .val (.int (2 : Int32)), .val (.int c1), .val (.int c2), .val (.int c3), .val (.int c4), .val (.int c5), .val (.int c6), .unset, .unset, .unset] [])) _
    exact own_fst2 l Z a0 hw p1 p2 p3 p4 c1 c2 c3 c4 c5 c6 G1 G3 h0 n0 X0 hx hby hml hown hZ hrt hlk h0 e0 N0 (Nat.le_trans Z0 (Nat.le_refl _)) O0 hh hS0 (Nat.zero_le _) C0  O2 P5 O4 rG3 OA OH OL b_c1 b_c2 b_c3 b_c4 b_c5 b_c6
  · subst q
    show own_Go p e below (s₁.setTop (mkF m 51 #[.val (.int p1), .val (.int p2), .val (.int p3), .val (.int p4), .val (.int (3 : Int32)), .val (.int c1), .val (.int c2), .val (.int c3), .val (.int c4), .val (.int c5), .val (.int c6), .unset, .unset, .unset] [])) _
    exact own_fst3 l Z a0 hw p1 p2 p3 p4 c1 c2 c3 c4 c5 c6 G1 G3 h0 n0 X0 hx hby hml hown hZ hrt hlk h0 e0 N0 (Nat.le_trans Z0 (Nat.le_refl _)) O0 hh hS0 (Nat.zero_le _) C0  O2 P5 O4 rG3 OA OH OL b_c1 b_c2 b_c3 b_c4 b_c5 b_c6
  · subst q
    show own_Go p e below (s₁.setTop (mkF m 51 #[.val (.int p1), .val (.int p2), .val (.int p3), .val (.int p4), .val (.int (4 : Int32)), .val (.int c1), .val (.int c2), .val (.int c3), .val (.int c4), .val (.int c5), .val (.int c6), .unset, .unset, .unset] [])) _
    exact own_fst4 l Z a0 hw p1 p2 p3 p4 c1 c2 c3 c4 c5 c6 G1 G3 h0 n0 X0 hx hby hml hown hZ hrt hlk h0 e0 N0 (Nat.le_trans Z0 (Nat.le_refl _)) O0 hh hS0 (Nat.zero_le _) C0  O2 P5 O4 rG3 OA OH OL b_c1 b_c2 b_c3 b_c4 b_c5 b_c6
  · subst q
    show own_Go p e below (s₁.setTop (mkF m 51 #[.val (.int p1), .val (.int p2), .val (.int p3), .val (.int p4), .val (.int (5 : Int32)), .val (.int c1), .val (.int c2), .val (.int c3), .val (.int c4), .val (.int c5), .val (.int c6), .unset, .unset, .unset] [])) _
    exact own_fst5 l Z a0 hw p1 p2 p3 p4 c1 c2 c3 c4 c5 c6 G1 G3 h0 n0 X0 hx hby hml hown hZ hrt hlk h0 e0 N0 (Nat.le_trans Z0 (Nat.le_refl _)) O0 hh hS0 (Nat.zero_le _) C0  O2 P5 O4 rG3 OA OH OL b_c1 b_c2 b_c3 b_c4 b_c5 b_c6
  · subst q
    show own_Go p e below (s₁.setTop (mkF m 51 #[.val (.int p1), .val (.int p2), .val (.int p3), .val (.int p4), .val (.int (6 : Int32)), .val (.int c1), .val (.int c2), .val (.int c3), .val (.int c4), .val (.int c5), .val (.int c6), .unset, .unset, .unset] [])) _
    exact own_fst6 l Z a0 hw p1 p2 p3 p4 c1 c2 c3 c4 c5 c6 G1 G3 h0 n0 X0 hx hby hml hown hZ hrt hlk h0 e0 N0 (Nat.le_trans Z0 (Nat.le_refl _)) O0 hh hS0 (Nat.zero_le _) C0  O2 P5 O4 rG3 OA OH OL b_c1 b_c2 b_c3 b_c4 b_c5 b_c6

set_option maxRecDepth 65536 in
set_option maxHeartbeats 40000000 in
theorem comes_1 {Post : Tables → Env → Array Value → State → Outcome → State → Prop} (hpost : ∀ tb e args s v u, (limb_1_1.after args s (.returned v) u = true ∧ limb_1_2.after args s (.returned v) u = true ∧ True) → FramedW s (.returned v) u (Jvm.fieldLocs frame_1_writes args s ++ Jvm.arrayLocs frame_1_arrays args s ++ Jvm.staticLocs frame_1_statics s) 24 1152 → Post tb e args s (.returned v) u) :
    ArmFor flags0 classFile x code maxLocals ret World_1 tables_1 room_1 Calls_1 rest_1 Pre_1 Post := by
  intro l hfl _ _ p e ha hc hk s m args below hf hA hF happ hP
  obtain ⟨hcalls, hrest, hpre⟩ := hP
  obtain ⟨-, -, -, hnamed, -, -, -, hat⟩ := (Spec.applies_iff hf).mp happ
  obtain ⟨hg, hn⟩ := and_e (Cond.before_iff.mp (show (Jvm.Cond.and given_1 narrow_1).before args s = true from hpre))
  obtain ⟨hcount, hg0⟩ := and_e hg
  obtain ⟨ha0, hg1⟩ := and_e hg0
  obtain ⟨ha1, hg2⟩ := and_e hg1
  obtain ⟨ha2, hg3⟩ := and_e hg2
  obtain ⟨w0, w1, w2, w3, rfl⟩ : ∃ w0 w1 w2 w3 : Value, args = #[w0, w1, w2, w3] := by
    have hs : args.size = 4 := by simpa [Cond.value, given_1] using hcount
    obtain ⟨L⟩ := args
    match L, hs with
    | [w0, w1, w2, w3], _ => exact ⟨w0, w1, w2, w3, rfl⟩
  have hw := fun d (hd : d ∈ tables_1) => atoms_spec (ws := Jvm.Cond.code x code maxLocals ret :: tables_1) hat d (List.mem_cons_of_mem _ hd)
  obtain ⟨hsets, hown0⟩ := atoms_of _ (rest_1_c_eq ▸ (show rest_1_c.before _ s = true from hrest))
  obtain ⟨i0, e0⟩ := is_v ha0
  obtain rfl : w0 = (.int i0) := Option.some.inj e0
  obtain ⟨i1, e1⟩ := is_v ha1
  obtain rfl : w1 = (.int i1) := Option.some.inj e1
  obtain ⟨i2, e2⟩ := is_v ha2
  obtain rfl : w2 = (.int i2) := Option.some.inj e2
  obtain ⟨i3, e3⟩ := is_v hg3
  obtain rfl : w3 = (.int i3) := Option.some.inj e3
  obtain ⟨i_G1, e_G1⟩ := is_v (Cond.before_iff.mp (hsets _ (List.mem_of_getElem? (i := 1) rfl)))
  have S_G1 : Sta s s.heap "java/lang/String" "COMPACT_STRINGS" "Z" (.int i_G1) := Sta.start e_G1 (Or.inl (hsets _ (List.mem_of_getElem? (i := 0) rfl)))
  have c_G1 : ¬ (i_G1 = (0 : Int32)) := gotF (Cond.eq_ints e_G1 (Term.int_eval (0))) (not_v (Cond.before_iff.mp (hsets _ (List.mem_of_getElem? (i := 2) rfl))))
  obtain ⟨v_G3, e_G3, r_G3⟩ := isR_v (Cond.before_iff.mp (hsets _ (List.mem_of_getElem? (i := 8) rfl)))
  have S_G3 : Sta s s.heap "jdk/internal/util/Preconditions" "SIOOBE_FORMATTER" "Ljava/util/function/BiFunction;" v_G3 := Sta.start e_G3 (Or.inl (hsets _ (List.mem_of_getElem? (i := 7) rfl)))
  have S_OA : Sta s s.heap "java/lang/StringUTF16" "$assertionsDisabled" "Z" (.int (1 : Int32)) := Sta.start (Jvm.RoadKit.eqv_i (Term.int_eval (1)) (Cond.before_iff.mp (hsets _ (List.mem_of_getElem? (i := 12) rfl)))) (Or.inl (hsets _ (List.mem_of_getElem? (i := 11) rfl)))
  have S_OH : Sta s s.heap "java/lang/StringUTF16" "HI_BYTE_SHIFT" "I" (.int (0 : Int32)) := Sta.start (Jvm.RoadKit.eqv_i (Term.int_eval (0)) (Cond.before_iff.mp (hsets _ (List.mem_of_getElem? (i := 15) rfl)))) (Or.inl (hsets _ (List.mem_of_getElem? (i := 14) rfl)))
  have S_OL : Sta s s.heap "java/lang/StringUTF16" "LO_BYTE_SHIFT" "I" (.int (8 : Int32)) := Sta.start (Jvm.RoadKit.eqv_i (Term.int_eval (8)) (Cond.before_iff.mp (hsets _ (List.mem_of_getElem? (i := 18) rfl)))) (Or.inl (hsets _ (List.mem_of_getElem? (i := 17) rfl)))
  have hCH : CHv s own_EL s.vm s.heap := CHv.start (own_hELt hw) (fun p hp => hcalls.1 p hp) (hsets _ (List.mem_of_getElem? (i := 2) rfl)) (hw _ (List.mem_of_getElem? (i := 21) rfl)) (hw _ (List.mem_of_getElem? (i := 4) rfl))
  obtain ⟨n, o, h1, h2, h3, _, L, rfl, ⟨rfl, N⟩, hCH, hq⟩ := rm_law l s _ hw tables_1 i0 i1 i2 i3 i_G1 v_G3 s.heap s.heap.size (Old.start s) S_G1 c_G1 S_G3 r_G3 S_OA S_OH S_OL p e ha hc hk s m _ below hf ((Spec.applies_iff_loose hf).mp happ).1 ⟨rfl, State.Warmed39.refl s, rfl, hCH⟩ trivial
  refine ⟨n, _, h1, h2, h3, hpost _ _ _ _ _ _ ⟨Cond.after_iff.mpr rfl, Cond.after_iff.mpr (eq_i res_at (Term.int_eval (1)) rfl), trivial⟩ ⟨hq.1, hq.2.1, hq.2.2.1, (hq.2.2.2.sift fun y hy => Or.inr (N y hy)).mono (by decide) (by decide)⟩⟩
theorem main_1_1 : Claimed_1_1 := comes_1 fun _ _ _ _ _ _ h hF => ⟨h.1, hF⟩
theorem main_1_2 : Claimed_1_2 := comes_1 fun _ _ _ _ _ _ h hF => ⟨h.2.1, hF⟩
end Jvm.Pilot.@@N@@
namespace Jvm.Pilot.@@N@@
open Jvm Jvm.ClassFile Sem Op Lib Jvm.Free Jvm.Stand Jvm.Pilot.@@N@@.Jvm.D
/-! MADE BY PROGRAM (witnessworld.py) out of the Statement's table words and the real class files: 22 classes; the members and pool entries that the words name. The judged class is class 1, her method 1. -/
namespace start1
open Jvm.ClassFile
def u (s : String) : CpInfo := .utf8 (stringToUtf16 s)
/-- a pool by its gaps: so many unusable entries, then the entry; so many at the end -/
def gap : Nat → List CpInfo → List CpInfo
  | 0, r => r
  | n + 1, r => .unusable :: gap n r
def poolList (es : List (Nat × CpInfo)) (last : Nat) : List CpInfo := es.foldr (fun e r => gap e.1 (e.2 :: r)) (gap last [])
def pool (es : List (Nat × CpInfo)) (last : Nat) : Array CpInfo := ⟨poolList es last⟩
def fileOf (pool : Array CpInfo) (this : Nat) (attrs : Array Attribute := #[]) (ms : Array MethodInfo := #[]) (fl : Nat := 33) (sup : Nat := 0) (ifs : Array Nat := #[]) (fds : Array FieldInfo := #[]) : ClassFile where
  minorVersion := 0
  majorVersion := 65
  constantPool := pool
  accessFlags := fl
  thisClass := this
  superClass := sup
  interfaces := ifs
  fields := fds
  methods := ms
  attributes := attrs
def plain (name : String) (sup : Option ClassId) : Class where
  name := name
  kind := .ordinary
  loader := none
  accessFlags := 33
  super := sup
  interfaces := #[]
  cf := none
  fields := #[]
  methods := #[]
  instanceTypes := #[]
  staticTypes := #[]
  resolved := #[]
  callSites := []
  init := .initialized
  statics := none
  mirror := none

def pool0 : Array CpInfo := pool [(5, u "<init>"), (0, u "()V"), (1, .class_ 10), (1, u "java/lang/Object")] 113

def k0c0 : Code := { maxStack := 0, maxLocals := 1, code := object_method_1_code, exceptionTable := #[], attributes := #[] }
def k0m0 : Method := { name := "<init>", desc := "()V", sig := { parameters := [], returnType := none }, accessFlags := 1, code := some k0c0 }
/-- java/lang/Object -/
def k0 : Class := { plain "java/lang/Object" none with
  accessFlags := 33
  interfaces := #[]
  cf := some (fileOf pool0 8 #[] #[{ accessFlags := 1, nameIndex := 5, descriptorIndex := 6, attributes := #[] }] 33 0 #[] #[])
  fields := #[]
  methods := #[k0m0]
  instanceTypes := #[]
  staticTypes := #[]
  resolved := Array.replicate 124 none
  statics := none }

def pool1 : Array CpInfo := pool [(2, .class_ 4), (1, u "java/lang/Object"), (0, u "<init>"), (0, u "()V"), (0, .integer 2147483647), (0, .integer 65535), (0, .class_ 10), (0, u "java/lang/String"), (0, .methodref 9 12), (0, .nameAndType 5 13), (0, u "([C)V"), (0, .methodref 15 16), (0, .class_ 17), (0, .nameAndType 18 19), (0, u "com/example/rolelattice/rolelattice/decision/CatalogIsExpressionPinLaw"), (0, u "wild"), (0, u "(C)Z"), (0, .methodref 21 22), (0, .class_ 23), (0, .nameAndType 24 25), (0, u "com/example/rolelattice/rolelattice/decision/Catalog"), (0, u "isExpression"), (0, u "(Ljava/lang/String;)Z"), (2, u "law"), (0, u "(IIII)Z")] 5

def k1m0 : Method := { name := "<init>", desc := "()V", sig := { parameters := [], returnType := none }, accessFlags := 1, code := none }
def k1c1 : Code := { maxStack := 3, maxLocals := 14, code := code, exceptionTable := #[], attributes := #[] }
def k1m1 : Method := { name := "law", desc := "(IIII)Z", sig := { parameters := [.int, .int, .int, .int], returnType := some .boolean }, accessFlags := 9, code := some k1c1 }
def k1c2 : Code := { maxStack := 2, maxLocals := 1, code := method_3_code, exceptionTable := #[], attributes := #[] }
def k1m2 : Method := { name := "wild", desc := "(C)Z", sig := { parameters := [.char], returnType := some .boolean }, accessFlags := 10, code := some k1c2 }
/-- com/example/rolelattice/rolelattice/decision/CatalogIsExpressionPinLaw -/
def k1 : Class := { plain "com/example/rolelattice/rolelattice/decision/CatalogIsExpressionPinLaw" (some 0) with
  accessFlags := 49
  interfaces := #[]
  cf := some (fileOf pool1 15 #[] #[{ accessFlags := 1, nameIndex := 5, descriptorIndex := 6, attributes := #[] }, { accessFlags := 9, nameIndex := 28, descriptorIndex := 29, attributes := #[] }, { accessFlags := 10, nameIndex := 18, descriptorIndex := 19, attributes := #[] }] 49 2 #[] #[])
  fields := #[]
  methods := #[k1m0, k1m1, k1m2]
  instanceTypes := #[]
  staticTypes := #[]
  resolved := Array.replicate 35 none
  statics := none }

def pool2 : Array CpInfo := pool [(1, .class_ 2), (0, u "java/io/Serializable"), (0, .class_ 4), (0, u "java/lang/Object")] 2

/-- java/io/Serializable -/
def k2 : Class := { plain "java/io/Serializable" (some 0) with
  accessFlags := 1537
  interfaces := #[]
  cf := some (fileOf pool2 1 #[] #[] 1537 3 #[] #[])
  fields := #[]
  methods := #[]
  instanceTypes := #[]
  staticTypes := #[]
  resolved := Array.replicate 7 none
  statics := none }

def pool3 : Array CpInfo := pool [(1, .class_ 2), (0, u "java/lang/Comparable"), (0, .class_ 4), (0, u "java/lang/Object")] 7

/-- java/lang/Comparable -/
def k3 : Class := { plain "java/lang/Comparable" (some 0) with
  accessFlags := 1537
  interfaces := #[]
  cf := some (fileOf pool3 1 #[] #[] 1537 3 #[] #[])
  fields := #[]
  methods := #[]
  instanceTypes := #[]
  staticTypes := #[]
  resolved := Array.replicate 12 none
  statics := none }

def pool4 : Array CpInfo := pool [(2, .class_ 4), (1, u "java/lang/CharSequence"), (42, .class_ 48), (0, u "java/lang/CharSequence$1CodePointIterator"), (10, .class_ 60), (0, u "java/lang/CharSequence$1CharIterator"), (5, .class_ 67), (0, u "java/lang/Object")] 63

/-- java/lang/CharSequence -/
def k4 : Class := { plain "java/lang/CharSequence" (some 0) with
  accessFlags := 1537
  interfaces := #[]
  cf := some (fileOf pool4 2 #[.nestMembers #[47, 59]] #[] 1537 66 #[] #[])
  fields := #[]
  methods := #[]
  instanceTypes := #[]
  staticTypes := #[]
  resolved := Array.replicate 131 none
  statics := none }

def pool5 : Array CpInfo := pool [(1, .class_ 2), (0, u "java/lang/constant/Constable"), (0, .class_ 4), (0, u "java/lang/Object")] 6

/-- java/lang/constant/Constable -/
def k5 : Class := { plain "java/lang/constant/Constable" (some 0) with
  accessFlags := 1537
  interfaces := #[]
  cf := some (fileOf pool5 1 #[] #[] 1537 3 #[] #[])
  fields := #[]
  methods := #[]
  instanceTypes := #[]
  staticTypes := #[]
  resolved := Array.replicate 11 none
  statics := none }

def pool6 : Array CpInfo := pool [(1, .class_ 2), (0, u "java/lang/constant/ConstantDesc"), (0, .class_ 4), (0, u "java/lang/Object")] 32

/-- java/lang/constant/ConstantDesc -/
def k6 : Class := { plain "java/lang/constant/ConstantDesc" (some 0) with
  accessFlags := 1537
  interfaces := #[]
  cf := some (fileOf pool6 1 #[] #[] 1537 3 #[] #[])
  fields := #[]
  methods := #[]
  instanceTypes := #[]
  staticTypes := #[]
  resolved := Array.replicate 37 none
  statics := none }

def pool7 : Array CpInfo := pool [(1, .methodref 2 3), (0, .class_ 4), (0, .nameAndType 5 6), (0, u "java/lang/Object"), (0, u "<init>"), (0, u "()V"), (0, .string 8), (0, u ""), (0, .fieldref 10 11), (0, .class_ 12), (0, .nameAndType 13 14), (0, u "java/lang/String"), (0, u "value"), (0, u "[B"), (0, .fieldref 10 16), (0, .nameAndType 17 18), (0, u "coder"), (0, u "B"), (2, u "hash"), (0, u "I"), (2, u "hashIsZero"), (0, u "Z"), (0, .methodref 10 28), (0, .nameAndType 5 29), (0, u "([CIILjava/lang/Void;)V"), (8, .fieldref 10 39), (0, .nameAndType 40 26), (0, u "COMPACT_STRINGS"), (1, .class_ 44), (1, u "java/lang/StringUTF16"), (0, u "compress"), (1, .methodref 42 48), (0, .nameAndType 49 50), (0, u "coderFromArrayLen"), (0, u "([BI)B"), (56, .class_ 109), (1, u "java/lang/StringLatin1"), (32, u "()Z"), (34, .methodref 42 178), (0, .nameAndType 45 179), (0, u "([CII)[B"), (154, u "()I"), (0, .methodref 10 336), (0, .nameAndType 17 337), (0, u "()B"), (154, .methodref 10 493), (0, .nameAndType 494 142), (0, u "isLatin1"), (10, .methodref 10 506), (0, .nameAndType 507 334), (0, u "length"), (5, u "checkFromToIndex"), (9, u "checkBoundsBeginEnd"), (0, u "(III)V"), (50, .class_ 576), (0, u "java/lang/CharSequence"), (22, u "CASE_INSENSITIVE_ORDER"), (0, u "Ljava/util/Comparator;"), (32, .methodref 10 634), (0, .nameAndType 635 636), (0, u "indexOf"), (0, u "(II)I"), (0, .methodref 107 638), (0, .nameAndType 635 639), (0, u "([BIII)I"), (0, .methodref 42 638), (124, u "(I)I"), (244, u "([C)V"), (42, .fieldref 1054 1055), (0, .class_ 1056), (0, .nameAndType 1057 1058), (0, u "jdk/internal/util/Preconditions"), (0, u "SIOOBE_FORMATTER"), (0, u "Ljava/util/function/BiFunction;"), (3, .methodref 1054 1063), (0, .nameAndType 513 1064), (0, u "(IIILjava/util/function/BiFunction;)I"), (36, u "serialPersistentFields"), (0, u "[Ljava/io/ObjectStreamField;"), (0, .class_ 1104), (0, u "java/lang/String$CaseInsensitiveComparator"), (1, .class_ 1107), (0, u "java/io/Serializable"), (0, .class_ 1109), (0, u "java/lang/Comparable"), (0, .class_ 1111), (0, u "java/lang/constant/Constable"), (0, .class_ 1113), (0, u "java/lang/constant/ConstantDesc"), (2, u "serialVersionUID"), (0, u "J"), (3, u "REPL"), (0, u "C"), (2, u "LATIN1"), (1, u "UTF16")] 323

def k7m0 : Method := { name := "<init>", desc := "()V", sig := { parameters := [], returnType := none }, accessFlags := 1, code := none }
def k7c1 : Code := { maxStack := 5, maxLocals := 2, code := jdk_42_method_3_code, exceptionTable := #[], attributes := #[] }
def k7m1 : Method := { name := "<init>", desc := "([C)V", sig := { parameters := [(.array .char)], returnType := none }, accessFlags := 1, code := some k7c1 }
def k7c2 : Code := { maxStack := 2, maxLocals := 1, code := jdk_42_method_54_code, exceptionTable := #[], attributes := #[] }
def k7m2 : Method := { name := "length", desc := "()I", sig := { parameters := [], returnType := some .int }, accessFlags := 1, code := some k7c2 }
def k7c3 : Code := { maxStack := 3, maxLocals := 2, code := jdk_42_method_79_code, exceptionTable := #[], attributes := #[] }
def k7m3 : Method := { name := "indexOf", desc := "(I)I", sig := { parameters := [.int], returnType := some .int }, accessFlags := 1, code := some k7c3 }
def k7c4 : Code := { maxStack := 4, maxLocals := 3, code := jdk_42_method_80_code, exceptionTable := #[], attributes := #[] }
def k7m4 : Method := { name := "indexOf", desc := "(II)I", sig := { parameters := [.int, .int], returnType := some .int }, accessFlags := 1, code := some k7c4 }
def k7c5 : Code := { maxStack := 4, maxLocals := 6, code := jdk_42_method_149_code, exceptionTable := #[], attributes := #[] }
def k7m5 : Method := { name := "<init>", desc := "([CIILjava/lang/Void;)V", sig := { parameters := [(.array .char), .int, .int, (.object "java/lang/Void")], returnType := none }, accessFlags := 2, code := some k7c5 }
def k7c6 : Code := { maxStack := 1, maxLocals := 1, code := jdk_42_method_152_code, exceptionTable := #[], attributes := #[] }
def k7m6 : Method := { name := "coder", desc := "()B", sig := { parameters := [], returnType := some .byte }, accessFlags := 0, code := some k7c6 }
def k7c7 : Code := { maxStack := 1, maxLocals := 1, code := jdk_42_method_154_code, exceptionTable := #[], attributes := #[] }
def k7m7 : Method := { name := "isLatin1", desc := "()Z", sig := { parameters := [], returnType := some .boolean }, accessFlags := 0, code := some k7c7 }
def k7c8 : Code := { maxStack := 4, maxLocals := 3, code := jdk_42_method_158_code, exceptionTable := #[], attributes := #[] }
def k7m8 : Method := { name := "checkBoundsBeginEnd", desc := "(III)V", sig := { parameters := [.int, .int, .int], returnType := none }, accessFlags := 8, code := some k7c8 }
/-- java/lang/String -/
def k7 : Class := { plain "java/lang/String" (some 0) with
  accessFlags := 49
  interfaces := #[2, 3, 4, 5, 6]
  cf := some (fileOf pool7 10 #[.nestMembers #[1103]] #[{ accessFlags := 1, nameIndex := 5, descriptorIndex := 6, attributes := #[] }, { accessFlags := 1, nameIndex := 5, descriptorIndex := 1010, attributes := #[] }, { accessFlags := 1, nameIndex := 507, descriptorIndex := 334, attributes := #[] }, { accessFlags := 1, nameIndex := 635, descriptorIndex := 765, attributes := #[] }, { accessFlags := 1, nameIndex := 635, descriptorIndex := 636, attributes := #[] }, { accessFlags := 2, nameIndex := 5, descriptorIndex := 29, attributes := #[] }, { accessFlags := 0, nameIndex := 17, descriptorIndex := 337, attributes := #[] }, { accessFlags := 0, nameIndex := 494, descriptorIndex := 142, attributes := #[] }, { accessFlags := 8, nameIndex := 523, descriptorIndex := 524, attributes := #[] }] 49 2 #[1106, 1108, 575, 1110, 1112] #[{ accessFlags := 18, nameIndex := 13, descriptorIndex := 14, attributes := #[] }, { accessFlags := 18, nameIndex := 17, descriptorIndex := 18, attributes := #[] }, { accessFlags := 2, nameIndex := 21, descriptorIndex := 22, attributes := #[] }, { accessFlags := 2, nameIndex := 25, descriptorIndex := 26, attributes := #[] }, { accessFlags := 26, nameIndex := 1116, descriptorIndex := 1117, attributes := #[] }, { accessFlags := 24, nameIndex := 40, descriptorIndex := 26, attributes := #[] }, { accessFlags := 26, nameIndex := 1101, descriptorIndex := 1102, attributes := #[] }, { accessFlags := 26, nameIndex := 1121, descriptorIndex := 1122, attributes := #[] }, { accessFlags := 25, nameIndex := 599, descriptorIndex := 600, attributes := #[] }, { accessFlags := 24, nameIndex := 1125, descriptorIndex := 18, attributes := #[] }, { accessFlags := 24, nameIndex := 1127, descriptorIndex := 18, attributes := #[] }])
  fields := #[{ name := "value", type := (.array .byte), accessFlags := 18, slot := 0, constantValue := 0 }, { name := "coder", type := .byte, accessFlags := 18, slot := 1, constantValue := 0 }, { name := "hash", type := .int, accessFlags := 2, slot := 2, constantValue := 0 }, { name := "hashIsZero", type := .boolean, accessFlags := 2, slot := 3, constantValue := 0 }, { name := "serialVersionUID", type := .long, accessFlags := 26, slot := 0, constantValue := 0 }, { name := "COMPACT_STRINGS", type := .boolean, accessFlags := 24, slot := 1, constantValue := 0 }, { name := "serialPersistentFields", type := (.array (.object "java/io/ObjectStreamField")), accessFlags := 26, slot := 2, constantValue := 0 }, { name := "REPL", type := .char, accessFlags := 26, slot := 3, constantValue := 0 }, { name := "CASE_INSENSITIVE_ORDER", type := (.object "java/util/Comparator"), accessFlags := 25, slot := 4, constantValue := 0 }, { name := "LATIN1", type := .byte, accessFlags := 24, slot := 5, constantValue := 0 }, { name := "UTF16", type := .byte, accessFlags := 24, slot := 6, constantValue := 0 }]
  methods := #[k7m0, k7m1, k7m2, k7m3, k7m4, k7m5, k7m6, k7m7, k7m8]
  instanceTypes := #[(.array .byte), .byte, .int, .boolean]
  staticTypes := #[.long, .boolean, (.array (.object "java/io/ObjectStreamField")), .char, (.object "java/util/Comparator"), .byte, .byte]
  resolved := Array.replicate 1451 none
  statics := some 0 }

def pool8 : Array CpInfo := pool [(3, .class_ 4), (0, u "java/lang/String"), (1, .class_ 8), (1, u "java/lang/Object"), (0, u "<init>"), (0, u "()V"), (0, .methodref 12 13), (0, .class_ 14), (0, .nameAndType 15 16), (0, u "java/lang/StringUTF16"), (0, u "newBytesLength"), (0, u "(I)I"), (3, .integer 1073741823), (23, .fieldref 12 45), (0, .nameAndType 46 47), (0, u "$assertionsDisabled"), (0, u "Z"), (0, .methodref 12 49), (0, .nameAndType 50 51), (0, u "length"), (0, u "([B)I"), (7, .fieldref 12 60), (0, .nameAndType 61 62), (0, u "HI_BYTE_SHIFT"), (0, u "I"), (0, .fieldref 12 64), (0, .nameAndType 65 62), (0, u "LO_BYTE_SHIFT"), (5, .methodref 12 72), (0, .nameAndType 73 74), (0, u "getChar"), (0, u "([BI)C"), (21, .methodref 12 97), (0, .nameAndType 98 99), (0, u "checkBoundsBeginEnd"), (0, u "(II[B)V"), (7, .methodref 12 108), (0, .nameAndType 109 110), (0, u "newBytesFor"), (0, u "(I)[B"), (0, .methodref 12 112), (0, .nameAndType 113 114), (0, u "putChar"), (0, u "([BII)V"), (0, .methodref 12 116), (0, .nameAndType 117 118), (0, u "compress"), (0, u "([CI[BII)I"), (0, .methodref 12 120), (0, .nameAndType 121 122), (0, u "toBytes"), (0, u "([CII)[B"), (60, .methodref 184 185), (0, .class_ 186), (0, .nameAndType 187 188), (0, u "java/lang/Math"), (0, u "min"), (0, u "(II)I"), (35, .methodref 184 225), (0, .nameAndType 226 188), (0, u "max"), (0, .integer 65536), (0, .methodref 12 229), (0, .nameAndType 230 231), (0, u "indexOfChar"), (0, u "([BIII)I"), (9, .methodref 3 242), (0, .nameAndType 98 243), (0, u "(III)V"), (0, .methodref 12 245), (0, .nameAndType 246 231), (0, u "indexOfCharUnsafe"), (14, u "coderFromArrayLen"), (0, u "([BI)B"), (5, u "indexOf"), (100, .class_ 371), (1, u "java/lang/StringUTF16$LinesSpliterator"), (58, u "MAX_LENGTH"), (196, .class_ 628), (0, u "java/lang/StringUTF16$CodePointsSpliterator"), (0, .class_ 630), (0, u "java/lang/StringUTF16$CharsSpliterator")] 4

def k8m0 : Method := { name := "<init>", desc := "()V", sig := { parameters := [], returnType := none }, accessFlags := 0, code := none }
def k8c1 : Code := { maxStack := 1, maxLocals := 1, code := jdk_52_method_2_code, exceptionTable := #[], attributes := #[] }
def k8m1 : Method := { name := "newBytesFor", desc := "(I)[B", sig := { parameters := [.int], returnType := some (.array .byte) }, accessFlags := 9, code := some k8c1 }
def k8c2 : Code := { maxStack := 4, maxLocals := 1, code := jdk_52_method_3_code, exceptionTable := #[], attributes := #[] }
def k8m2 : Method := { name := "newBytesLength", desc := "(I)I", sig := { parameters := [.int], returnType := some .int }, accessFlags := 9, code := some k8c2 }
def k8c3 : Code := { maxStack := 4, maxLocals := 3, code := jdk_52_method_4_code, exceptionTable := #[], attributes := #[] }
def k8m3 : Method := { name := "putChar", desc := "([BII)V", sig := { parameters := [(.array .byte), .int, .int], returnType := none }, accessFlags := 8, code := some k8c3 }
def k8c4 : Code := { maxStack := 3, maxLocals := 2, code := jdk_52_method_5_code, exceptionTable := #[], attributes := #[] }
def k8m4 : Method := { name := "getChar", desc := "([BI)C", sig := { parameters := [(.array .byte), .int], returnType := some .char }, accessFlags := 8, code := some k8c4 }
def k8c5 : Code := { maxStack := 2, maxLocals := 1, code := jdk_52_method_6_code, exceptionTable := #[], attributes := #[] }
def k8m5 : Method := { name := "length", desc := "([B)I", sig := { parameters := [(.array .byte)], returnType := some .int }, accessFlags := 9, code := some k8c5 }
def k8c6 : Code := { maxStack := 4, maxLocals := 5, code := jdk_52_method_14_code, exceptionTable := #[], attributes := #[] }
def k8m6 : Method := { name := "toBytes", desc := "([CII)[B", sig := { parameters := [(.array .char), .int, .int], returnType := some (.array .byte) }, accessFlags := 9, code := some k8c6 }
def k8c7 : Code := { maxStack := 2, maxLocals := 2, code := jdk_52_method_15_code, exceptionTable := #[], attributes := #[] }
def k8m7 : Method := { name := "coderFromArrayLen", desc := "([BI)B", sig := { parameters := [(.array .byte), .int], returnType := some .byte }, accessFlags := 8, code := some k8c7 }
def k8c8 : Code := { maxStack := 5, maxLocals := 6, code := jdk_52_method_16_code, exceptionTable := #[], attributes := #[] }
def k8m8 : Method := { name := "compress", desc := "([CII)[B", sig := { parameters := [(.array .char), .int, .int], returnType := some (.array .byte) }, accessFlags := 9, code := some k8c8 }
def k8c9 : Code := { maxStack := 3, maxLocals := 7, code := jdk_52_method_21_code, exceptionTable := #[], attributes := #[] }
def k8m9 : Method := { name := "compress", desc := "([CI[BII)I", sig := { parameters := [(.array .char), .int, (.array .byte), .int, .int], returnType := some .int }, accessFlags := 9, code := some k8c9 }
def k8c10 : Code := { maxStack := 4, maxLocals := 4, code := jdk_52_method_40_code, exceptionTable := #[], attributes := #[] }
def k8m10 : Method := { name := "indexOf", desc := "([BIII)I", sig := { parameters := [(.array .byte), .int, .int, .int], returnType := some .int }, accessFlags := 9, code := some k8c10 }
def k8c11 : Code := { maxStack := 4, maxLocals := 4, code := jdk_52_method_47_code, exceptionTable := #[], attributes := #[] }
def k8m11 : Method := { name := "indexOfChar", desc := "([BIII)I", sig := { parameters := [(.array .byte), .int, .int, .int], returnType := some .int }, accessFlags := 10, code := some k8c11 }
def k8c12 : Code := { maxStack := 2, maxLocals := 5, code := jdk_52_method_48_code, exceptionTable := #[], attributes := #[] }
def k8m12 : Method := { name := "indexOfCharUnsafe", desc := "([BIII)I", sig := { parameters := [(.array .byte), .int, .int, .int], returnType := some .int }, accessFlags := 10, code := some k8c12 }
def k8c13 : Code := { maxStack := 3, maxLocals := 3, code := jdk_52_method_93_code, exceptionTable := #[], attributes := #[] }
def k8m13 : Method := { name := "checkBoundsBeginEnd", desc := "(II[B)V", sig := { parameters := [.int, .int, (.array .byte)], returnType := none }, accessFlags := 9, code := some k8c13 }
/-- java/lang/StringUTF16 -/
def k8 : Class := { plain "java/lang/StringUTF16" (some 0) with
  accessFlags := 48
  interfaces := #[]
  cf := some (fileOf pool8 12 #[.nestMembers #[627, 629, 369]] #[{ accessFlags := 0, nameIndex := 9, descriptorIndex := 10, attributes := #[] }, { accessFlags := 9, nameIndex := 109, descriptorIndex := 110, attributes := #[] }, { accessFlags := 9, nameIndex := 15, descriptorIndex := 16, attributes := #[] }, { accessFlags := 8, nameIndex := 113, descriptorIndex := 114, attributes := #[] }, { accessFlags := 8, nameIndex := 73, descriptorIndex := 74, attributes := #[] }, { accessFlags := 9, nameIndex := 50, descriptorIndex := 51, attributes := #[] }, { accessFlags := 9, nameIndex := 121, descriptorIndex := 122, attributes := #[] }, { accessFlags := 8, nameIndex := 261, descriptorIndex := 262, attributes := #[] }, { accessFlags := 9, nameIndex := 117, descriptorIndex := 122, attributes := #[] }, { accessFlags := 9, nameIndex := 117, descriptorIndex := 118, attributes := #[] }, { accessFlags := 9, nameIndex := 268, descriptorIndex := 231, attributes := #[] }, { accessFlags := 10, nameIndex := 230, descriptorIndex := 231, attributes := #[] }, { accessFlags := 10, nameIndex := 246, descriptorIndex := 231, attributes := #[] }, { accessFlags := 9, nameIndex := 98, descriptorIndex := 99, attributes := #[] }] 48 6 #[] #[{ accessFlags := 26, nameIndex := 61, descriptorIndex := 62, attributes := #[] }, { accessFlags := 26, nameIndex := 65, descriptorIndex := 62, attributes := #[] }, { accessFlags := 24, nameIndex := 430, descriptorIndex := 62, attributes := #[] }, { accessFlags := 4120, nameIndex := 46, descriptorIndex := 47, attributes := #[] }])
  fields := #[{ name := "HI_BYTE_SHIFT", type := .int, accessFlags := 26, slot := 0, constantValue := 0 }, { name := "LO_BYTE_SHIFT", type := .int, accessFlags := 26, slot := 1, constantValue := 0 }, { name := "MAX_LENGTH", type := .int, accessFlags := 24, slot := 2, constantValue := 0 }, { name := "$assertionsDisabled", type := .boolean, accessFlags := 4120, slot := 3, constantValue := 0 }]
  methods := #[k8m0, k8m1, k8m2, k8m3, k8m4, k8m5, k8m6, k8m7, k8m8, k8m9, k8m10, k8m11, k8m12, k8m13]
  instanceTypes := #[]
  staticTypes := #[.int, .int, .int, .boolean]
  resolved := Array.replicate 635 none
  statics := some 1 }

def pool9 : Array CpInfo := pool [(2, .class_ 4), (1, u "java/lang/Object"), (0, u "<init>"), (0, u "()V"), (0, .class_ 8), (0, u "java/lang/Record")] 13

def k9m0 : Method := { name := "<init>", desc := "()V", sig := { parameters := [], returnType := none }, accessFlags := 4, code := none }
/-- java/lang/Record -/
def k9 : Class := { plain "java/lang/Record" (some 0) with
  accessFlags := 1057
  interfaces := #[]
  cf := some (fileOf pool9 7 #[] #[{ accessFlags := 4, nameIndex := 5, descriptorIndex := 6, attributes := #[] }] 1057 2 #[] #[])
  fields := #[]
  methods := #[k9m0]
  instanceTypes := #[]
  staticTypes := #[]
  resolved := Array.replicate 22 none
  statics := none }

def pool10 : Array CpInfo := pool [(2, .class_ 4), (1, u "java/lang/Record"), (44, .class_ 50), (0, u "java/lang/String"), (3, .class_ 56), (1, u "com/example/rolelattice/rolelattice/decision/Catalog"), (41, u "indices"), (0, u "Ljava/util/List;"), (2, u "aliases"), (0, u "Ljava/util/Map;"), (5, u "isExpression"), (0, u "(Ljava/lang/String;)Z"), (7, .methodref 49 119), (0, .nameAndType 120 121), (0, u "indexOf"), (0, u "(I)I")] 115

def k10c0 : Code := { maxStack := 2, maxLocals := 1, code := prog_11_method_3_code, exceptionTable := #[], attributes := #[] }
def k10m0 : Method := { name := "isExpression", desc := "(Ljava/lang/String;)Z", sig := { parameters := [(.object "java/lang/String")], returnType := some .boolean }, accessFlags := 8, code := some k10c0 }
/-- com/example/rolelattice/rolelattice/decision/Catalog -/
def k10 : Class := { plain "com/example/rolelattice/rolelattice/decision/Catalog" (some 9) with
  accessFlags := 49
  interfaces := #[]
  cf := some (fileOf pool10 54 #[] #[{ accessFlags := 8, nameIndex := 109, descriptorIndex := 110, attributes := #[] }] 49 2 #[] #[{ accessFlags := 18, nameIndex := 98, descriptorIndex := 99, attributes := #[] }, { accessFlags := 18, nameIndex := 102, descriptorIndex := 103, attributes := #[] }])
  fields := #[{ name := "indices", type := (.object "java/util/List"), accessFlags := 18, slot := 0, constantValue := 0 }, { name := "aliases", type := (.object "java/util/Map"), accessFlags := 18, slot := 1, constantValue := 0 }]
  methods := #[k10m0]
  instanceTypes := #[(.object "java/util/List"), (.object "java/util/Map")]
  staticTypes := #[]
  resolved := Array.replicate 237 none
  statics := none }

def pool11 : Array CpInfo := pool [(4, .class_ 6), (1, u "java/lang/Object"), (0, u "<init>"), (0, u "()V"), (5, .class_ 16), (1, u "java/lang/StringLatin1"), (21, .methodref 39 40), (0, .class_ 41), (0, .nameAndType 42 43), (0, u "java/lang/Math"), (0, u "min"), (0, u "(II)I"), (44, .methodref 14 89), (0, .nameAndType 90 91), (0, u "canEncode"), (0, u "(I)Z"), (0, .methodref 39 93), (0, .nameAndType 94 43), (0, u "max"), (0, .methodref 14 96), (0, .nameAndType 97 98), (0, u "indexOfChar"), (0, u "([BIII)I"), (2, u "indexOf"), (19, u "$assertionsDisabled"), (0, u "Z"), (98, .class_ 223), (1, u "java/lang/StringLatin1$LinesSpliterator"), (166, .class_ 391), (0, u "java/lang/StringLatin1$CharsSpliterator")] 3

def k11m0 : Method := { name := "<init>", desc := "()V", sig := { parameters := [], returnType := none }, accessFlags := 0, code := none }
def k11c1 : Code := { maxStack := 2, maxLocals := 1, code := jdk_43_method_4_code, exceptionTable := #[], attributes := #[] }
def k11m1 : Method := { name := "canEncode", desc := "(I)Z", sig := { parameters := [.int], returnType := some .boolean }, accessFlags := 9, code := some k11c1 }
def k11c2 : Code := { maxStack := 4, maxLocals := 4, code := jdk_43_method_22_code, exceptionTable := #[], attributes := #[] }
def k11m2 : Method := { name := "indexOf", desc := "([BIII)I", sig := { parameters := [(.array .byte), .int, .int, .int], returnType := some .int }, accessFlags := 9, code := some k11c2 }
def k11c3 : Code := { maxStack := 2, maxLocals := 6, code := jdk_43_method_23_code, exceptionTable := #[], attributes := #[] }
def k11m3 : Method := { name := "indexOfChar", desc := "([BIII)I", sig := { parameters := [(.array .byte), .int, .int, .int], returnType := some .int }, accessFlags := 10, code := some k11c3 }
/-- java/lang/StringLatin1 -/
def k11 : Class := { plain "java/lang/StringLatin1" (some 0) with
  accessFlags := 48
  interfaces := #[]
  cf := some (fileOf pool11 14 #[.nestMembers #[390, 221]] #[{ accessFlags := 0, nameIndex := 7, descriptorIndex := 8, attributes := #[] }, { accessFlags := 9, nameIndex := 90, descriptorIndex := 91, attributes := #[] }, { accessFlags := 9, nameIndex := 101, descriptorIndex := 98, attributes := #[] }, { accessFlags := 10, nameIndex := 97, descriptorIndex := 98, attributes := #[] }] 48 4 #[] #[{ accessFlags := 4120, nameIndex := 121, descriptorIndex := 122, attributes := #[] }])
  fields := #[{ name := "$assertionsDisabled", type := .boolean, accessFlags := 4120, slot := 0, constantValue := 0 }]
  methods := #[k11m0, k11m1, k11m2, k11m3]
  instanceTypes := #[]
  staticTypes := #[.boolean]
  resolved := Array.replicate 395 none
  statics := none }

def pool12 : Array CpInfo := pool [(1, .class_ 2), (0, u "java/lang/Math"), (1, .class_ 6), (1, u "java/lang/Object"), (0, u "<init>"), (0, u "()V"), (89, .class_ 100), (1, u "java/lang/Math$RandomNumberGeneratorHolder"), (71, u "negativeZeroFloatBits"), (0, u "J"), (2, u "negativeZeroDoubleBits"), (21, u "max"), (2, u "min"), (43, u "$assertionsDisabled"), (0, u "Z"), (88, u "(II)I"), (2, u "twoToTheDoubleScaleDown"), (0, u "D"), (4, u "twoToTheDoubleScaleUp"), (9, u "E"), (3, u "PI"), (2, u "TAU"), (2, u "DEGREES_TO_RADIANS"), (0, u "RADIANS_TO_DEGREES")] 94

def k12m0 : Method := { name := "<init>", desc := "()V", sig := { parameters := [], returnType := none }, accessFlags := 2, code := none }
def k12c1 : Code := { maxStack := 2, maxLocals := 2, code := jdk_29_method_65_code, exceptionTable := #[], attributes := #[] }
def k12m1 : Method := { name := "max", desc := "(II)I", sig := { parameters := [.int, .int], returnType := some .int }, accessFlags := 9, code := some k12c1 }
def k12c2 : Code := { maxStack := 2, maxLocals := 2, code := jdk_29_method_69_code, exceptionTable := #[], attributes := #[] }
def k12m2 : Method := { name := "min", desc := "(II)I", sig := { parameters := [.int, .int], returnType := some .int }, accessFlags := 9, code := some k12c2 }
/-- java/lang/Math -/
def k12 : Class := { plain "java/lang/Math" (some 0) with
  accessFlags := 49
  interfaces := #[]
  cf := some (fileOf pool12 1 #[.nestMembers #[98]] #[{ accessFlags := 2, nameIndex := 7, descriptorIndex := 8, attributes := #[] }, { accessFlags := 9, nameIndex := 198, descriptorIndex := 335, attributes := #[] }, { accessFlags := 9, nameIndex := 201, descriptorIndex := 335, attributes := #[] }] 49 4 #[] #[{ accessFlags := 25, nameIndex := 354, descriptorIndex := 339, attributes := #[] }, { accessFlags := 25, nameIndex := 358, descriptorIndex := 339, attributes := #[] }, { accessFlags := 25, nameIndex := 361, descriptorIndex := 339, attributes := #[] }, { accessFlags := 26, nameIndex := 364, descriptorIndex := 339, attributes := #[] }, { accessFlags := 26, nameIndex := 365, descriptorIndex := 339, attributes := #[] }, { accessFlags := 26, nameIndex := 172, descriptorIndex := 173, attributes := #[] }, { accessFlags := 26, nameIndex := 176, descriptorIndex := 173, attributes := #[] }, { accessFlags := 8, nameIndex := 344, descriptorIndex := 339, attributes := #[] }, { accessFlags := 8, nameIndex := 338, descriptorIndex := 339, attributes := #[] }, { accessFlags := 4120, nameIndex := 245, descriptorIndex := 246, attributes := #[] }])
  fields := #[{ name := "E", type := .double, accessFlags := 25, slot := 0, constantValue := 0 }, { name := "PI", type := .double, accessFlags := 25, slot := 1, constantValue := 0 }, { name := "TAU", type := .double, accessFlags := 25, slot := 2, constantValue := 0 }, { name := "DEGREES_TO_RADIANS", type := .double, accessFlags := 26, slot := 3, constantValue := 0 }, { name := "RADIANS_TO_DEGREES", type := .double, accessFlags := 26, slot := 4, constantValue := 0 }, { name := "negativeZeroFloatBits", type := .long, accessFlags := 26, slot := 5, constantValue := 0 }, { name := "negativeZeroDoubleBits", type := .long, accessFlags := 26, slot := 6, constantValue := 0 }, { name := "twoToTheDoubleScaleUp", type := .double, accessFlags := 8, slot := 7, constantValue := 0 }, { name := "twoToTheDoubleScaleDown", type := .double, accessFlags := 8, slot := 8, constantValue := 0 }, { name := "$assertionsDisabled", type := .boolean, accessFlags := 4120, slot := 9, constantValue := 0 }]
  methods := #[k12m0, k12m1, k12m2]
  instanceTypes := #[]
  staticTypes := #[.double, .double, .double, .double, .double, .long, .long, .double, .double, .boolean]
  resolved := Array.replicate 460 none
  statics := none }

def pool13 : Array CpInfo := pool [(2, .class_ 4), (1, u "java/lang/Object"), (0, u "<init>"), (0, u "()V"), (17, .class_ 26), (1, u "jdk/internal/util/Preconditions"), (20, u "checkFromToIndex"), (7, .class_ 56), (0, u "jdk/internal/util/Preconditions$4"), (57, .class_ 115), (0, u "jdk/internal/util/Preconditions$1"), (7, u "SIOOBE_FORMATTER"), (0, u "Ljava/util/function/BiFunction;"), (0, .class_ 126), (0, u "jdk/internal/util/Preconditions$2"), (3, u "AIOOBE_FORMATTER"), (0, .class_ 132), (0, u "jdk/internal/util/Preconditions$3"), (3, u "IOOBE_FORMATTER"), (46, u "(IIILjava/util/function/BiFunction;)I")] 10

def k13m0 : Method := { name := "<init>", desc := "()V", sig := { parameters := [], returnType := none }, accessFlags := 1, code := none }
def k13c1 : Code := { maxStack := 4, maxLocals := 4, code := jdk_41_method_12_code, exceptionTable := #[], attributes := #[] }
def k13m1 : Method := { name := "checkFromToIndex", desc := "(IIILjava/util/function/BiFunction;)I", sig := { parameters := [.int, .int, .int, (.object "java/util/function/BiFunction")], returnType := some .int }, accessFlags := 9, code := some k13c1 }
/-- jdk/internal/util/Preconditions -/
def k13 : Class := { plain "jdk/internal/util/Preconditions" (some 0) with
  accessFlags := 33
  interfaces := #[]
  cf := some (fileOf pool13 24 #[.nestMembers #[55, 131, 125, 114]] #[{ accessFlags := 1, nameIndex := 5, descriptorIndex := 6, attributes := #[] }, { accessFlags := 9, nameIndex := 47, descriptorIndex := 183, attributes := #[] }] 33 2 #[] #[{ accessFlags := 25, nameIndex := 123, descriptorIndex := 124, attributes := #[] }, { accessFlags := 25, nameIndex := 130, descriptorIndex := 124, attributes := #[] }, { accessFlags := 25, nameIndex := 136, descriptorIndex := 124, attributes := #[] }])
  fields := #[{ name := "SIOOBE_FORMATTER", type := (.object "java/util/function/BiFunction"), accessFlags := 25, slot := 0, constantValue := 0 }, { name := "AIOOBE_FORMATTER", type := (.object "java/util/function/BiFunction"), accessFlags := 25, slot := 1, constantValue := 0 }, { name := "IOOBE_FORMATTER", type := (.object "java/util/function/BiFunction"), accessFlags := 25, slot := 2, constantValue := 0 }]
  methods := #[k13m0, k13m1]
  instanceTypes := #[]
  staticTypes := #[(.object "java/util/function/BiFunction"), (.object "java/util/function/BiFunction"), (.object "java/util/function/BiFunction")]
  resolved := Array.replicate 194 none
  statics := some 2 }

def pool14 : Array CpInfo := pool [(9, u "<init>"), (6, .class_ 18), (1, u "java/lang/Object"), (0, u "()V"), (1, .class_ 23), (1, u "jdk/internal/util/ArraysSupport"), (0, u "LOG2_ARRAY_LONG_INDEX_SCALE"), (0, u "I"), (2, u "U"), (0, u "Ljdk/internal/misc/Unsafe;"), (8, u "BIG_ENDIAN"), (0, u "Z"), (8, u "LOG2_BYTE_BIT_SIZE"), (4, u "LOG2_ARRAY_INT_INDEX_SCALE"), (54, u "JLA"), (0, u "Ljdk/internal/access/JavaLangAccess;"), (11, u "LOG2_ARRAY_BOOLEAN_INDEX_SCALE"), (9, u "LOG2_ARRAY_BYTE_INDEX_SCALE"), (5, u "LOG2_ARRAY_CHAR_INDEX_SCALE"), (5, u "LOG2_ARRAY_SHORT_INDEX_SCALE"), (18, u "LOG2_ARRAY_FLOAT_INDEX_SCALE"), (24, u "LOG2_ARRAY_DOUBLE_INDEX_SCALE"), (89, u "T_BOOLEAN"), (2, u "T_CHAR"), (1, u "T_FLOAT"), (1, u "T_DOUBLE"), (1, u "T_BYTE"), (1, u "T_SHORT"), (1, u "T_INT"), (1, u "T_LONG"), (1, u "SOFT_MAX_ARRAY_LENGTH")] 83

def k14m0 : Method := { name := "<init>", desc := "()V", sig := { parameters := [], returnType := none }, accessFlags := 2, code := none }
/-- jdk/internal/util/ArraysSupport -/
def k14 : Class := { plain "jdk/internal/util/ArraysSupport" (some 0) with
  accessFlags := 33
  interfaces := #[]
  cf := some (fileOf pool14 21 #[] #[{ accessFlags := 2, nameIndex := 9, descriptorIndex := 19, attributes := #[] }] 33 16 #[] #[{ accessFlags := 24, nameIndex := 28, descriptorIndex := 29, attributes := #[] }, { accessFlags := 26, nameIndex := 38, descriptorIndex := 39, attributes := #[] }, { accessFlags := 25, nameIndex := 121, descriptorIndex := 25, attributes := #[] }, { accessFlags := 25, nameIndex := 131, descriptorIndex := 25, attributes := #[] }, { accessFlags := 25, nameIndex := 137, descriptorIndex := 25, attributes := #[] }, { accessFlags := 25, nameIndex := 143, descriptorIndex := 25, attributes := #[] }, { accessFlags := 25, nameIndex := 53, descriptorIndex := 25, attributes := #[] }, { accessFlags := 25, nameIndex := 24, descriptorIndex := 25, attributes := #[] }, { accessFlags := 25, nameIndex := 162, descriptorIndex := 25, attributes := #[] }, { accessFlags := 25, nameIndex := 187, descriptorIndex := 25, attributes := #[] }, { accessFlags := 26, nameIndex := 48, descriptorIndex := 25, attributes := #[] }, { accessFlags := 25, nameIndex := 277, descriptorIndex := 25, attributes := #[] }, { accessFlags := 25, nameIndex := 280, descriptorIndex := 25, attributes := #[] }, { accessFlags := 25, nameIndex := 282, descriptorIndex := 25, attributes := #[] }, { accessFlags := 25, nameIndex := 284, descriptorIndex := 25, attributes := #[] }, { accessFlags := 25, nameIndex := 286, descriptorIndex := 25, attributes := #[] }, { accessFlags := 25, nameIndex := 288, descriptorIndex := 25, attributes := #[] }, { accessFlags := 25, nameIndex := 290, descriptorIndex := 25, attributes := #[] }, { accessFlags := 25, nameIndex := 292, descriptorIndex := 25, attributes := #[] }, { accessFlags := 26, nameIndex := 108, descriptorIndex := 109, attributes := #[] }, { accessFlags := 25, nameIndex := 294, descriptorIndex := 25, attributes := #[] }])
  fields := #[{ name := "U", type := (.object "jdk/internal/misc/Unsafe"), accessFlags := 24, slot := 0, constantValue := 0 }, { name := "BIG_ENDIAN", type := .boolean, accessFlags := 26, slot := 1, constantValue := 0 }, { name := "LOG2_ARRAY_BOOLEAN_INDEX_SCALE", type := .int, accessFlags := 25, slot := 2, constantValue := 0 }, { name := "LOG2_ARRAY_BYTE_INDEX_SCALE", type := .int, accessFlags := 25, slot := 3, constantValue := 0 }, { name := "LOG2_ARRAY_CHAR_INDEX_SCALE", type := .int, accessFlags := 25, slot := 4, constantValue := 0 }, { name := "LOG2_ARRAY_SHORT_INDEX_SCALE", type := .int, accessFlags := 25, slot := 5, constantValue := 0 }, { name := "LOG2_ARRAY_INT_INDEX_SCALE", type := .int, accessFlags := 25, slot := 6, constantValue := 0 }, { name := "LOG2_ARRAY_LONG_INDEX_SCALE", type := .int, accessFlags := 25, slot := 7, constantValue := 0 }, { name := "LOG2_ARRAY_FLOAT_INDEX_SCALE", type := .int, accessFlags := 25, slot := 8, constantValue := 0 }, { name := "LOG2_ARRAY_DOUBLE_INDEX_SCALE", type := .int, accessFlags := 25, slot := 9, constantValue := 0 }, { name := "LOG2_BYTE_BIT_SIZE", type := .int, accessFlags := 26, slot := 10, constantValue := 0 }, { name := "T_BOOLEAN", type := .int, accessFlags := 25, slot := 11, constantValue := 0 }, { name := "T_CHAR", type := .int, accessFlags := 25, slot := 12, constantValue := 0 }, { name := "T_FLOAT", type := .int, accessFlags := 25, slot := 13, constantValue := 0 }, { name := "T_DOUBLE", type := .int, accessFlags := 25, slot := 14, constantValue := 0 }, { name := "T_BYTE", type := .int, accessFlags := 25, slot := 15, constantValue := 0 }, { name := "T_SHORT", type := .int, accessFlags := 25, slot := 16, constantValue := 0 }, { name := "T_INT", type := .int, accessFlags := 25, slot := 17, constantValue := 0 }, { name := "T_LONG", type := .int, accessFlags := 25, slot := 18, constantValue := 0 }, { name := "JLA", type := (.object "jdk/internal/access/JavaLangAccess"), accessFlags := 26, slot := 19, constantValue := 0 }, { name := "SOFT_MAX_ARRAY_LENGTH", type := .int, accessFlags := 25, slot := 20, constantValue := 0 }]
  methods := #[k14m0]
  instanceTypes := #[]
  staticTypes := #[(.object "jdk/internal/misc/Unsafe"), .boolean, .int, .int, .int, .int, .int, .int, .int, .int, .int, .int, .int, .int, .int, .int, .int, .int, .int, (.object "jdk/internal/access/JavaLangAccess"), .int]
  resolved := Array.replicate 378 none
  statics := none }

def pool15 : Array CpInfo := pool [(1, u "java/lang/Cloneable"), (0, .class_ 1), (0, u "java/lang/Object"), (0, .class_ 3)] 3

/-- java/lang/Cloneable -/
def k15 : Class := { plain "java/lang/Cloneable" (some 0) with
  accessFlags := 1537
  interfaces := #[]
  cf := some (fileOf pool15 2 #[] #[] 1537 4 #[] #[])
  fields := #[]
  methods := #[]
  instanceTypes := #[]
  staticTypes := #[]
  resolved := Array.replicate 8 none
  statics := none }

/-- the primitive byte -/
def k16 : Class := { plain "byte" none with kind := .primitive 'B', accessFlags := 0x411 }
/-- [B -/
def k17 : Class := { plain "[B" (some 0) with kind := .array 16 .byte, interfaces := #[15, 2], accessFlags := 1041 }

/-- the primitive char -/
def k18 : Class := { plain "char" none with kind := .primitive 'C', accessFlags := 0x411 }
/-- [C -/
def k19 : Class := { plain "[C" (some 0) with kind := .array 18 .char, interfaces := #[15, 2], accessFlags := 1041 }

/-- the primitive int -/
def k20 : Class := { plain "int" none with kind := .primitive 'I', accessFlags := 0x411 }
/-- [I -/
def k21 : Class := { plain "[I" (some 0) with kind := .array 20 .int, interfaces := #[15, 2], accessFlags := 1041 }

def heap : Heap := #[{ cls := 7, slots := #[.long 0, .int 1, .null, .int 0, .null, .int 0, .int 0], vm := .statics 7 },
  { cls := 8, slots := #[.int 0, .int 8, .int 0, .int 1], vm := .statics 8 },
  { cls := 13, slots := #[.null, .null, .null], vm := .statics 13 }]
def classes : Array Class := #[k0, k1, k2, k3, k4, k5, k6, k7, k8, k9, k10, k11, k12, k13, k14, k15, k16, k17, k18, k19, k20, k21]
def interned : List (Array UInt16 × Addr) := []
def slotsUsed : Nat := 14
def theMethod : MethodId := ⟨1, 1⟩
def args0 : Array Value := #[.int 5, .int 5, .int 5, .int 5]
def aboutOver (below : List Frame) : State where
  vm := { classes := classes, interned := interned.toArray }
  heap := heap
  slotsUsed := slotsUsed
  threads := #[{ frames := .invoking theMethod args0 :: below }]
def below0 : List Frame := [.native { method := ⟨0, 0⟩, args := #[] }]
def about1 : State := aboutOver below0
def p0 : Program := .bare "" "" ""
def e0 : Env := launch0.env 0 0 0
theorem w_frames : about1.frames = Frame.invoking theMethod args0 :: below0 := rfl
set_option maxRecDepth 65536 in
theorem w_args : argsFit about1.vm theMethod args0 = true := by decide +kernel
set_option maxRecDepth 65536 in
theorem w_heap : heapFits about1 = true := by decide +kernel
set_option maxRecDepth 65536 in
theorem w_runnable : about1.curStatus? = some .runnable := by decide +kernel
set_option maxRecDepth 65536 in
theorem w_alone : about1.alone = true := by decide +kernel
set_option maxRecDepth 65536 in
theorem w_named : about1.methodNamed? x = some theMethod := by decide +kernel
set_option maxRecDepth 65536 in
theorem w_hears : about1.hears theMethod below0 = true := by decide +kernel
set_option maxRecDepth 65536 in
theorem w_ripe : about1.ripe theMethod args0 below0 = true := by decide +kernel
theorem w_running : about1.status = .running := rfl
set_option maxRecDepth 65536 in
theorem w_room : about1.hasRoom e0.platform room_1 = true :=
  launch0.hasRoom_least _ room_1 (by decide +kernel) (by decide +kernel) (by decide +kernel) (by decide +kernel) (by decide +kernel) (by decide +kernel)
theorem allAtoms_all (ts : List Jvm.Cond) (a : Array Jvm.Value) (st : Jvm.State) : (allAtoms ts).before a st = ts.all (fun c => c.before a st) := by
  induction ts with
  | nil => rfl
  | cons c t ih =>
    show (Jvm.Cond.and c (allAtoms t)).before a st = _
    rw [Jvm.Cond.before_and, ih, List.all_cons]
def words1 : List Jvm.Cond := Jvm.Cond.code x code maxLocals ret :: tables_1
/-- a 'code' word, met by the world's own term for the bytes: nothing is compared byte by byte -/
theorem code_word {y : MethodName} {bytes : ByteArray} {mx : Nat} {rt : Option FieldType} {a : Array Value} {s : State} {m : MethodId} {meth : Method} {c : Code} (h1 : s.methodNamed? y = some m) (h2 : s.vm.method? m = some meth) (h3 : meth.code = some c) (h4 : c.code = bytes)
    (h5 : (c.maxLocals == mx && c.exceptionTable.isEmpty && decide (c.maxStack ≤ mostOperands) && decide (meth.sig.returnType = rt) && !meth.locks && decide (parseMethodDescriptor y.desc = some meth.sig)) = true) : (Jvm.Cond.code y bytes mx rt).before a s = true := by
  simp only [Bool.and_eq_true, beq_iff_eq, Bool.not_eq_true', decide_eq_true_eq] at h5
  obtain ⟨⟨⟨⟨⟨g1, g2⟩, g3⟩, g4⟩, g5⟩, g6⟩ := h5
  simp [Cond.before, Cond.holds, Cond.value, h1, h2, h3, h4, g1, g2, g3, g4, g5, g6]
def isCode : Jvm.Cond → Bool
  | .code _ _ _ _ => true
  | _ => false
theorem all_split {L : List Jvm.Cond} {P : Jvm.Cond → Bool} (h1 : L.all (fun c => isCode c || P c) = true) (h2 : ∀ c ∈ L.filter isCode, P c = true) : L.all P = true := by
  refine List.all_eq_true.mpr fun c hc => ?_
  have h := List.all_eq_true.mp h1 c hc
  rcases Bool.eq_false_or_eq_true (isCode c) with hi | hi
  · exact h2 c (List.mem_filter.mpr ⟨hc, hi⟩)
  · simpa [hi] using h
set_option maxRecDepth 65536 in
theorem w_c0 : (Jvm.Cond.code x code maxLocals ret).before args0 about1 = true := code_word (m := ⟨1, 1⟩) (meth := k1m1) (c := k1c1) (by decide +kernel) rfl rfl rfl (by decide +kernel)
set_option maxRecDepth 65536 in
theorem w_c1 : (Jvm.Cond.code ({ cls := "java/lang/String", name := "<init>", desc := "([C)V" } : Jvm.MethodName) jdk_42_method_3_code (2 : Nat) (Option.none : Option Jvm.ClassFile.FieldType)).before args0 about1 = true := code_word (m := ⟨7, 1⟩) (meth := k7m1) (c := k7c1) (by decide +kernel) rfl rfl rfl (by decide +kernel)
set_option maxRecDepth 65536 in
theorem w_c2 : (Jvm.Cond.code ({ cls := "java/lang/String", name := "<init>", desc := "([CIILjava/lang/Void;)V" } : Jvm.MethodName) jdk_42_method_149_code (6 : Nat) (Option.none : Option Jvm.ClassFile.FieldType)).before args0 about1 = true := code_word (m := ⟨7, 5⟩) (meth := k7m5) (c := k7c5) (by decide +kernel) rfl rfl rfl (by decide +kernel)
set_option maxRecDepth 65536 in
theorem w_c3 : (Jvm.Cond.code ({ cls := "java/lang/Object", name := "<init>", desc := "()V" } : Jvm.MethodName) object_method_1_code (1 : Nat) (Option.none : Option Jvm.ClassFile.FieldType)).before args0 about1 = true := code_word (m := ⟨0, 0⟩) (meth := k0m0) (c := k0c0) (by decide +kernel) rfl rfl rfl (by decide +kernel)
set_option maxRecDepth 65536 in
theorem w_c4 : (Jvm.Cond.code ({ cls := "java/lang/StringUTF16", name := "compress", desc := "([CII)[B" } : Jvm.MethodName) jdk_52_method_16_code (6 : Nat) (Option.some (Jvm.ClassFile.FieldType.array Jvm.ClassFile.FieldType.byte))).before args0 about1 = true := code_word (m := ⟨8, 8⟩) (meth := k8m8) (c := k8c8) (by decide +kernel) rfl rfl rfl (by decide +kernel)
set_option maxRecDepth 65536 in
theorem w_c5 : (Jvm.Cond.code ({ cls := "java/lang/StringUTF16", name := "compress", desc := "([CI[BII)I" } : Jvm.MethodName) jdk_52_method_21_code (7 : Nat) (Option.some Jvm.ClassFile.FieldType.int)).before args0 about1 = true := code_word (m := ⟨8, 9⟩) (meth := k8m9) (c := k8c9) (by decide +kernel) rfl rfl rfl (by decide +kernel)
set_option maxRecDepth 65536 in
theorem w_c6 : (Jvm.Cond.code ({ cls := "java/lang/StringUTF16", name := "coderFromArrayLen", desc := "([BI)B" } : Jvm.MethodName) jdk_52_method_15_code (2 : Nat) (Option.some Jvm.ClassFile.FieldType.byte)).before args0 about1 = true := code_word (m := ⟨8, 7⟩) (meth := k8m7) (c := k8c7) (by decide +kernel) rfl rfl rfl (by decide +kernel)
set_option maxRecDepth 65536 in
theorem w_c7 : (Jvm.Cond.code ({ cls := "com/example/rolelattice/rolelattice/decision/CatalogIsExpressionPinLaw", name := "wild", desc := "(C)Z" } : Jvm.MethodName) method_3_code (1 : Nat) (Option.some Jvm.ClassFile.FieldType.boolean)).before args0 about1 = true := code_word (m := ⟨1, 2⟩) (meth := k1m2) (c := k1c2) (by decide +kernel) rfl rfl rfl (by decide +kernel)
set_option maxRecDepth 65536 in
theorem w_c8 : (Jvm.Cond.code ({ cls := "com/example/rolelattice/rolelattice/decision/Catalog", name := "isExpression", desc := "(Ljava/lang/String;)Z" } : Jvm.MethodName) prog_11_method_3_code (1 : Nat) (Option.some Jvm.ClassFile.FieldType.boolean)).before args0 about1 = true := code_word (m := ⟨10, 0⟩) (meth := k10m0) (c := k10c0) (by decide +kernel) rfl rfl rfl (by decide +kernel)
set_option maxRecDepth 65536 in
theorem w_c9 : (Jvm.Cond.code ({ cls := "java/lang/String", name := "indexOf", desc := "(I)I" } : Jvm.MethodName) jdk_42_method_79_code (2 : Nat) (Option.some Jvm.ClassFile.FieldType.int)).before args0 about1 = true := code_word (m := ⟨7, 3⟩) (meth := k7m3) (c := k7c3) (by decide +kernel) rfl rfl rfl (by decide +kernel)
set_option maxRecDepth 65536 in
theorem w_c10 : (Jvm.Cond.code ({ cls := "java/lang/String", name := "indexOf", desc := "(II)I" } : Jvm.MethodName) jdk_42_method_80_code (3 : Nat) (Option.some Jvm.ClassFile.FieldType.int)).before args0 about1 = true := code_word (m := ⟨7, 4⟩) (meth := k7m4) (c := k7c4) (by decide +kernel) rfl rfl rfl (by decide +kernel)
set_option maxRecDepth 65536 in
theorem w_c11 : (Jvm.Cond.code ({ cls := "java/lang/String", name := "isLatin1", desc := "()Z" } : Jvm.MethodName) jdk_42_method_154_code (1 : Nat) (Option.some Jvm.ClassFile.FieldType.boolean)).before args0 about1 = true := code_word (m := ⟨7, 7⟩) (meth := k7m7) (c := k7c7) (by decide +kernel) rfl rfl rfl (by decide +kernel)
set_option maxRecDepth 65536 in
theorem w_c12 : (Jvm.Cond.code ({ cls := "java/lang/String", name := "length", desc := "()I" } : Jvm.MethodName) jdk_42_method_54_code (1 : Nat) (Option.some Jvm.ClassFile.FieldType.int)).before args0 about1 = true := code_word (m := ⟨7, 2⟩) (meth := k7m2) (c := k7c2) (by decide +kernel) rfl rfl rfl (by decide +kernel)
set_option maxRecDepth 65536 in
theorem w_c13 : (Jvm.Cond.code ({ cls := "java/lang/String", name := "coder", desc := "()B" } : Jvm.MethodName) jdk_42_method_152_code (1 : Nat) (Option.some Jvm.ClassFile.FieldType.byte)).before args0 about1 = true := code_word (m := ⟨7, 6⟩) (meth := k7m6) (c := k7c6) (by decide +kernel) rfl rfl rfl (by decide +kernel)
set_option maxRecDepth 65536 in
theorem w_c14 : (Jvm.Cond.code ({ cls := "java/lang/StringLatin1", name := "indexOf", desc := "([BIII)I" } : Jvm.MethodName) jdk_43_method_22_code (4 : Nat) (Option.some Jvm.ClassFile.FieldType.int)).before args0 about1 = true := code_word (m := ⟨11, 2⟩) (meth := k11m2) (c := k11c2) (by decide +kernel) rfl rfl rfl (by decide +kernel)
set_option maxRecDepth 65536 in
theorem w_c15 : (Jvm.Cond.code ({ cls := "java/lang/StringLatin1", name := "canEncode", desc := "(I)Z" } : Jvm.MethodName) jdk_43_method_4_code (1 : Nat) (Option.some Jvm.ClassFile.FieldType.boolean)).before args0 about1 = true := code_word (m := ⟨11, 1⟩) (meth := k11m1) (c := k11c1) (by decide +kernel) rfl rfl rfl (by decide +kernel)
set_option maxRecDepth 65536 in
theorem w_c16 : (Jvm.Cond.code ({ cls := "java/lang/Math", name := "max", desc := "(II)I" } : Jvm.MethodName) jdk_29_method_65_code (2 : Nat) (Option.some Jvm.ClassFile.FieldType.int)).before args0 about1 = true := code_word (m := ⟨12, 1⟩) (meth := k12m1) (c := k12c1) (by decide +kernel) rfl rfl rfl (by decide +kernel)
set_option maxRecDepth 65536 in
theorem w_c17 : (Jvm.Cond.code ({ cls := "java/lang/Math", name := "min", desc := "(II)I" } : Jvm.MethodName) jdk_29_method_69_code (2 : Nat) (Option.some Jvm.ClassFile.FieldType.int)).before args0 about1 = true := code_word (m := ⟨12, 2⟩) (meth := k12m2) (c := k12c2) (by decide +kernel) rfl rfl rfl (by decide +kernel)
set_option maxRecDepth 65536 in
theorem w_c18 : (Jvm.Cond.code ({ cls := "java/lang/StringLatin1", name := "indexOfChar", desc := "([BIII)I" } : Jvm.MethodName) jdk_43_method_23_code (6 : Nat) (Option.some Jvm.ClassFile.FieldType.int)).before args0 about1 = true := code_word (m := ⟨11, 3⟩) (meth := k11m3) (c := k11c3) (by decide +kernel) rfl rfl rfl (by decide +kernel)
set_option maxRecDepth 65536 in
theorem w_c19 : (Jvm.Cond.code ({ cls := "java/lang/StringUTF16", name := "toBytes", desc := "([CII)[B" } : Jvm.MethodName) jdk_52_method_14_code (5 : Nat) (Option.some (Jvm.ClassFile.FieldType.array Jvm.ClassFile.FieldType.byte))).before args0 about1 = true := code_word (m := ⟨8, 6⟩) (meth := k8m6) (c := k8c6) (by decide +kernel) rfl rfl rfl (by decide +kernel)
set_option maxRecDepth 65536 in
theorem w_c20 : (Jvm.Cond.code ({ cls := "java/lang/StringUTF16", name := "newBytesFor", desc := "(I)[B" } : Jvm.MethodName) jdk_52_method_2_code (1 : Nat) (Option.some (Jvm.ClassFile.FieldType.array Jvm.ClassFile.FieldType.byte))).before args0 about1 = true := code_word (m := ⟨8, 1⟩) (meth := k8m1) (c := k8c1) (by decide +kernel) rfl rfl rfl (by decide +kernel)
set_option maxRecDepth 65536 in
theorem w_c21 : (Jvm.Cond.code ({ cls := "java/lang/StringUTF16", name := "newBytesLength", desc := "(I)I" } : Jvm.MethodName) jdk_52_method_3_code (1 : Nat) (Option.some Jvm.ClassFile.FieldType.int)).before args0 about1 = true := code_word (m := ⟨8, 2⟩) (meth := k8m2) (c := k8c2) (by decide +kernel) rfl rfl rfl (by decide +kernel)
set_option maxRecDepth 65536 in
theorem w_c22 : (Jvm.Cond.code ({ cls := "java/lang/StringUTF16", name := "putChar", desc := "([BII)V" } : Jvm.MethodName) jdk_52_method_4_code (3 : Nat) (Option.none : Option Jvm.ClassFile.FieldType)).before args0 about1 = true := code_word (m := ⟨8, 3⟩) (meth := k8m3) (c := k8c3) (by decide +kernel) rfl rfl rfl (by decide +kernel)
set_option maxRecDepth 65536 in
theorem w_c23 : (Jvm.Cond.code ({ cls := "java/lang/StringUTF16", name := "getChar", desc := "([BI)C" } : Jvm.MethodName) jdk_52_method_5_code (2 : Nat) (Option.some Jvm.ClassFile.FieldType.char)).before args0 about1 = true := code_word (m := ⟨8, 4⟩) (meth := k8m4) (c := k8c4) (by decide +kernel) rfl rfl rfl (by decide +kernel)
set_option maxRecDepth 65536 in
theorem w_c24 : (Jvm.Cond.code ({ cls := "java/lang/StringUTF16", name := "indexOf", desc := "([BIII)I" } : Jvm.MethodName) jdk_52_method_40_code (4 : Nat) (Option.some Jvm.ClassFile.FieldType.int)).before args0 about1 = true := code_word (m := ⟨8, 10⟩) (meth := k8m10) (c := k8c10) (by decide +kernel) rfl rfl rfl (by decide +kernel)
set_option maxRecDepth 65536 in
theorem w_c25 : (Jvm.Cond.code ({ cls := "java/lang/StringUTF16", name := "indexOfChar", desc := "([BIII)I" } : Jvm.MethodName) jdk_52_method_47_code (4 : Nat) (Option.some Jvm.ClassFile.FieldType.int)).before args0 about1 = true := code_word (m := ⟨8, 11⟩) (meth := k8m11) (c := k8c11) (by decide +kernel) rfl rfl rfl (by decide +kernel)
set_option maxRecDepth 65536 in
theorem w_c26 : (Jvm.Cond.code ({ cls := "java/lang/StringUTF16", name := "checkBoundsBeginEnd", desc := "(II[B)V" } : Jvm.MethodName) jdk_52_method_93_code (3 : Nat) (Option.none : Option Jvm.ClassFile.FieldType)).before args0 about1 = true := code_word (m := ⟨8, 13⟩) (meth := k8m13) (c := k8c13) (by decide +kernel) rfl rfl rfl (by decide +kernel)
set_option maxRecDepth 65536 in
theorem w_c27 : (Jvm.Cond.code ({ cls := "java/lang/StringUTF16", name := "length", desc := "([B)I" } : Jvm.MethodName) jdk_52_method_6_code (1 : Nat) (Option.some Jvm.ClassFile.FieldType.int)).before args0 about1 = true := code_word (m := ⟨8, 5⟩) (meth := k8m5) (c := k8c5) (by decide +kernel) rfl rfl rfl (by decide +kernel)
set_option maxRecDepth 65536 in
theorem w_c28 : (Jvm.Cond.code ({ cls := "java/lang/String", name := "checkBoundsBeginEnd", desc := "(III)V" } : Jvm.MethodName) jdk_42_method_158_code (3 : Nat) (Option.none : Option Jvm.ClassFile.FieldType)).before args0 about1 = true := code_word (m := ⟨7, 8⟩) (meth := k7m8) (c := k7c8) (by decide +kernel) rfl rfl rfl (by decide +kernel)
set_option maxRecDepth 65536 in
theorem w_c29 : (Jvm.Cond.code ({ cls := "jdk/internal/util/Preconditions", name := "checkFromToIndex", desc := "(IIILjava/util/function/BiFunction;)I" } : Jvm.MethodName) jdk_41_method_12_code (4 : Nat) (Option.some Jvm.ClassFile.FieldType.int)).before args0 about1 = true := code_word (m := ⟨13, 1⟩) (meth := k13m1) (c := k13c1) (by decide +kernel) rfl rfl rfl (by decide +kernel)
set_option maxRecDepth 65536 in
theorem w_c30 : (Jvm.Cond.code ({ cls := "java/lang/StringUTF16", name := "indexOfCharUnsafe", desc := "([BIII)I" } : Jvm.MethodName) jdk_52_method_48_code (5 : Nat) (Option.some Jvm.ClassFile.FieldType.int)).before args0 about1 = true := code_word (m := ⟨8, 12⟩) (meth := k8m12) (c := k8c12) (by decide +kernel) rfl rfl rfl (by decide +kernel)
def codes1 : List Jvm.Cond := [Jvm.Cond.code x code maxLocals ret, Jvm.Cond.code ({ cls := "java/lang/String", name := "<init>", desc := "([C)V" } : Jvm.MethodName) jdk_42_method_3_code (2 : Nat) (Option.none : Option Jvm.ClassFile.FieldType), Jvm.Cond.code ({ cls := "java/lang/String", name := "<init>", desc := "([CIILjava/lang/Void;)V" } : Jvm.MethodName) jdk_42_method_149_code (6 : Nat) (Option.none : Option Jvm.ClassFile.FieldType), Jvm.Cond.code ({ cls := "java/lang/Object", name := "<init>", desc := "()V" } : Jvm.MethodName) object_method_1_code (1 : Nat) (Option.none : Option Jvm.ClassFile.FieldType), Jvm.Cond.code ({ cls := "java/lang/StringUTF16", name := "compress", desc := "([CII)[B" } : Jvm.MethodName) jdk_52_method_16_code (6 : Nat) (Option.some (Jvm.ClassFile.FieldType.array Jvm.ClassFile.FieldType.byte)), Jvm.Cond.code ({ cls := "java/lang/StringUTF16", name := "compress", desc := "([CI[BII)I" } : Jvm.MethodName) jdk_52_method_21_code (7 : Nat) (Option.some Jvm.ClassFile.FieldType.int), Jvm.Cond.code ({ cls := "java/lang/StringUTF16", name := "coderFromArrayLen", desc := "([BI)B" } : Jvm.MethodName) jdk_52_method_15_code (2 : Nat) (Option.some Jvm.ClassFile.FieldType.byte), Jvm.Cond.code ({ cls := "com/example/rolelattice/rolelattice/decision/CatalogIsExpressionPinLaw", name := "wild", desc := "(C)Z" } : Jvm.MethodName) method_3_code (1 : Nat) (Option.some Jvm.ClassFile.FieldType.boolean), Jvm.Cond.code ({ cls := "com/example/rolelattice/rolelattice/decision/Catalog", name := "isExpression", desc := "(Ljava/lang/String;)Z" } : Jvm.MethodName) prog_11_method_3_code (1 : Nat) (Option.some Jvm.ClassFile.FieldType.boolean), Jvm.Cond.code ({ cls := "java/lang/String", name := "indexOf", desc := "(I)I" } : Jvm.MethodName) jdk_42_method_79_code (2 : Nat) (Option.some Jvm.ClassFile.FieldType.int), Jvm.Cond.code ({ cls := "java/lang/String", name := "indexOf", desc := "(II)I" } : Jvm.MethodName) jdk_42_method_80_code (3 : Nat) (Option.some Jvm.ClassFile.FieldType.int), Jvm.Cond.code ({ cls := "java/lang/String", name := "isLatin1", desc := "()Z" } : Jvm.MethodName) jdk_42_method_154_code (1 : Nat) (Option.some Jvm.ClassFile.FieldType.boolean), Jvm.Cond.code ({ cls := "java/lang/String", name := "length", desc := "()I" } : Jvm.MethodName) jdk_42_method_54_code (1 : Nat) (Option.some Jvm.ClassFile.FieldType.int), Jvm.Cond.code ({ cls := "java/lang/String", name := "coder", desc := "()B" } : Jvm.MethodName) jdk_42_method_152_code (1 : Nat) (Option.some Jvm.ClassFile.FieldType.byte), Jvm.Cond.code ({ cls := "java/lang/StringLatin1", name := "indexOf", desc := "([BIII)I" } : Jvm.MethodName) jdk_43_method_22_code (4 : Nat) (Option.some Jvm.ClassFile.FieldType.int), Jvm.Cond.code ({ cls := "java/lang/StringLatin1", name := "canEncode", desc := "(I)Z" } : Jvm.MethodName) jdk_43_method_4_code (1 : Nat) (Option.some Jvm.ClassFile.FieldType.boolean), Jvm.Cond.code ({ cls := "java/lang/Math", name := "max", desc := "(II)I" } : Jvm.MethodName) jdk_29_method_65_code (2 : Nat) (Option.some Jvm.ClassFile.FieldType.int), Jvm.Cond.code ({ cls := "java/lang/Math", name := "min", desc := "(II)I" } : Jvm.MethodName) jdk_29_method_69_code (2 : Nat) (Option.some Jvm.ClassFile.FieldType.int), Jvm.Cond.code ({ cls := "java/lang/StringLatin1", name := "indexOfChar", desc := "([BIII)I" } : Jvm.MethodName) jdk_43_method_23_code (6 : Nat) (Option.some Jvm.ClassFile.FieldType.int), Jvm.Cond.code ({ cls := "java/lang/StringUTF16", name := "toBytes", desc := "([CII)[B" } : Jvm.MethodName) jdk_52_method_14_code (5 : Nat) (Option.some (Jvm.ClassFile.FieldType.array Jvm.ClassFile.FieldType.byte)), Jvm.Cond.code ({ cls := "java/lang/StringUTF16", name := "newBytesFor", desc := "(I)[B" } : Jvm.MethodName) jdk_52_method_2_code (1 : Nat) (Option.some (Jvm.ClassFile.FieldType.array Jvm.ClassFile.FieldType.byte)), Jvm.Cond.code ({ cls := "java/lang/StringUTF16", name := "newBytesLength", desc := "(I)I" } : Jvm.MethodName) jdk_52_method_3_code (1 : Nat) (Option.some Jvm.ClassFile.FieldType.int), Jvm.Cond.code ({ cls := "java/lang/StringUTF16", name := "putChar", desc := "([BII)V" } : Jvm.MethodName) jdk_52_method_4_code (3 : Nat) (Option.none : Option Jvm.ClassFile.FieldType), Jvm.Cond.code ({ cls := "java/lang/StringUTF16", name := "getChar", desc := "([BI)C" } : Jvm.MethodName) jdk_52_method_5_code (2 : Nat) (Option.some Jvm.ClassFile.FieldType.char), Jvm.Cond.code ({ cls := "java/lang/StringUTF16", name := "indexOf", desc := "([BIII)I" } : Jvm.MethodName) jdk_52_method_40_code (4 : Nat) (Option.some Jvm.ClassFile.FieldType.int), Jvm.Cond.code ({ cls := "java/lang/StringUTF16", name := "indexOfChar", desc := "([BIII)I" } : Jvm.MethodName) jdk_52_method_47_code (4 : Nat) (Option.some Jvm.ClassFile.FieldType.int), Jvm.Cond.code ({ cls := "java/lang/StringUTF16", name := "checkBoundsBeginEnd", desc := "(II[B)V" } : Jvm.MethodName) jdk_52_method_93_code (3 : Nat) (Option.none : Option Jvm.ClassFile.FieldType), Jvm.Cond.code ({ cls := "java/lang/StringUTF16", name := "length", desc := "([B)I" } : Jvm.MethodName) jdk_52_method_6_code (1 : Nat) (Option.some Jvm.ClassFile.FieldType.int), Jvm.Cond.code ({ cls := "java/lang/String", name := "checkBoundsBeginEnd", desc := "(III)V" } : Jvm.MethodName) jdk_42_method_158_code (3 : Nat) (Option.none : Option Jvm.ClassFile.FieldType), Jvm.Cond.code ({ cls := "jdk/internal/util/Preconditions", name := "checkFromToIndex", desc := "(IIILjava/util/function/BiFunction;)I" } : Jvm.MethodName) jdk_41_method_12_code (4 : Nat) (Option.some Jvm.ClassFile.FieldType.int), Jvm.Cond.code ({ cls := "java/lang/StringUTF16", name := "indexOfCharUnsafe", desc := "([BIII)I" } : Jvm.MethodName) jdk_52_method_48_code (5 : Nat) (Option.some Jvm.ClassFile.FieldType.int)]
set_option maxRecDepth 65536 in
theorem codes_eq : words1.filter isCode = codes1 := rfl
theorem w_codes : ∀ c ∈ words1.filter isCode, c.before args0 about1 = true := by
  rw [codes_eq]
  intro c hc
  simp only [codes1, List.mem_cons, List.not_mem_nil, or_false] at hc
  rcases hc with rfl | rfl | rfl | rfl | rfl | rfl | rfl | rfl | rfl | rfl | rfl | rfl | rfl | rfl | rfl | rfl | rfl | rfl | rfl | rfl | rfl | rfl | rfl | rfl | rfl | rfl | rfl | rfl | rfl | rfl | rfl
  · exact w_c0
  · exact w_c1
  · exact w_c2
  · exact w_c3
  · exact w_c4
  · exact w_c5
  · exact w_c6
  · exact w_c7
  · exact w_c8
  · exact w_c9
  · exact w_c10
  · exact w_c11
  · exact w_c12
  · exact w_c13
  · exact w_c14
  · exact w_c15
  · exact w_c16
  · exact w_c17
  · exact w_c18
  · exact w_c19
  · exact w_c20
  · exact w_c21
  · exact w_c22
  · exact w_c23
  · exact w_c24
  · exact w_c25
  · exact w_c26
  · exact w_c27
  · exact w_c28
  · exact w_c29
  · exact w_c30
set_option maxRecDepth 65536 in
theorem w_t1 : (words1.take 24).all (fun c => isCode c || c.before args0 about1) = true := by decide +kernel
set_option maxRecDepth 65536 in
theorem w_t2 : ((words1.drop 24).take 24).all (fun c => isCode c || c.before args0 about1) = true := by decide +kernel
set_option maxRecDepth 65536 in
theorem w_t3 : (((words1.drop 24).drop 24).take 24).all (fun c => isCode c || c.before args0 about1) = true := by decide +kernel
set_option maxRecDepth 65536 in
theorem w_t4 : ((((words1.drop 24).drop 24).drop 24).take 24).all (fun c => isCode c || c.before args0 about1) = true := by decide +kernel
set_option maxRecDepth 65536 in
theorem w_t5 : (((((words1.drop 24).drop 24).drop 24).drop 24).take 24).all (fun c => isCode c || c.before args0 about1) = true := by decide +kernel
set_option maxRecDepth 65536 in
theorem w_t6 : (((((words1.drop 24).drop 24).drop 24).drop 24).drop 24).all (fun c => isCode c || c.before args0 about1) = true := by decide +kernel
theorem w_tables : (allAtoms (Jvm.Cond.code x code maxLocals ret :: tables_1)).before args0 about1 = true := by
  rw [allAtoms_all]
  show words1.all (fun c => c.before args0 about1) = true
  refine all_split ?_ w_codes
  rw [← List.take_append_drop 24 words1, List.all_append, w_t1, ← List.take_append_drop 24 (words1.drop 24), List.all_append, w_t2, ← List.take_append_drop 24 ((words1.drop 24).drop 24), List.all_append, w_t3, ← List.take_append_drop 24 (((words1.drop 24).drop 24).drop 24), List.all_append, w_t4, ← List.take_append_drop 24 ((((words1.drop 24).drop 24).drop 24).drop 24), List.all_append, w_t5, w_t6]
  rfl
set_option maxRecDepth 65536 in
theorem w_rest : rest_1_c.before args0 about1 = true := by decide +kernel
set_option maxRecDepth 65536 in
theorem w_case : (Jvm.Cond.and given_1 narrow_1).before args0 about1 = true := by decide +kernel
set_option maxRecDepth 65536 in
theorem w_consts : constsHeld consts_1 about1 := Jvm.Lit.constsHeldB_iff.mp (by decide +kernel)
theorem w_applies : (headSpec (Jvm.Cond.code x code maxLocals ret :: tables_1) room_1).applies x e0.platform about1 = true :=
  (Spec.applies_iff w_frames).mpr ⟨w_running, w_runnable, w_alone, w_named, w_hears, w_ripe, w_room, w_tables⟩
theorem atStart : AtStart classFile x code maxLocals ret World_1 tables_1 room_1 Calls_1 rest_1 Pre_1 launch0 p0 e0 about1 theMethod args0 below0 :=
  ⟨lists_1, trivial, launch0.admits_env _ _ _, launch0.least_env, fairChoices_fair.cas, fairChoices_fair.clock, w_frames, w_args, w_heap, w_applies, ⟨w_consts, trivial⟩, w_rest, w_case⟩
end start1
theorem witness_1 : WitnessClaimed_1 := ⟨start1.p0, start1.e0, start1.about1, start1.theMethod, start1.args0, start1.below0, start1.atStart⟩
end Jvm.Pilot.@@N@@
