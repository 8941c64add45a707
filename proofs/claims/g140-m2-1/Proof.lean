import JvmDerived
import JvmDerived.Pilot.@@N@@Statement
import JvmDerived.Pilot.@@N@@Code
set_option linter.unusedVariables false
set_option linter.unusedSimpArgs false
namespace Jvm.RoadKit
open Sem ClassFile Op Lib Jvm.Stand Jvm.Free Jvm.LawKit
section New
variable {p : Program} {l : Launch} {e : Env} {R : Room} {s : State} {m : MethodId} {args : Array Value} {below : List Frame} {meth : Method} {c : Code} {T : State} {locs : List Loc} {cells slots : Nat}
theorem retI (X : Stand p l e R s m args below meth c T locs cells slots) (hx : p.tables.exec = Jvm.exec) {pc : Nat} {Ls : Array Slot} {z : Int32} {rest : List Value} (hret : meth.sig.returnType = some .int) (hd : decode c.code pc = .ok (.ireturn, 1)) {fs : List Frame}
    (hl : ∀ (f : JFrame) (acts : List Action), f.method = m → f.locked = none → f.entered = [] → (doReturn e (T.setTop f) acts (some (.int z))).1 = T.setFrames fs) : Steps p.tables e below (T.setTop (mkF m pc Ls (.int z :: rest))) (T.setFrames fs) := by
  have hm' : T.vm.method? m = some meth := X.method'
  have hn : narrow .int (.int z) = .int z := rfl
  show Steps p.tables e below (T.setTop { method := m, pc := pc, locals := Ls, stack := _ :: rest, locked := none }) _
  jvm_step X.here [X.here.top, hx, hd, hm', hret, hn]
  first | (intro acts; rw [hl _ acts rfl rfl rfl]) | rw [hl _ _ rfl rfl rfl]
  exact Steps.refl _
theorem retR (X : Stand p l e R s m args below meth c T locs cells slots) (hx : p.tables.exec = Jvm.exec) {pc : Nat} {Ls : Array Slot} {w : Value} {t : FieldType} {rest : List Value} (hret : meth.sig.returnType = some t) (hn : narrow t w = w) (ht : t.isReference = true) (hw : w.isRef = true) (hd : decode c.code pc = .ok (.areturn, 1)) {fs : List Frame}
    (hl : ∀ (f : JFrame) (acts : List Action), f.method = m → f.locked = none → f.entered = [] → (doReturn e (T.setTop f) acts (some w)).1 = T.setFrames fs) : Steps p.tables e below (T.setTop (mkF m pc Ls (w :: rest))) (T.setFrames fs) := by
  have hm' : T.vm.method? m = some meth := X.method'
  show Steps p.tables e below (T.setTop { method := m, pc := pc, locals := Ls, stack := _ :: rest, locked := none }) _
  jvm_step X.here [X.here.top, hx, hd, hm', hret, hn, hw]
  try (refine ⟨ht, ?_⟩)
  first | (intro acts; rw [hl _ acts rfl rfl rfl]) | rw [hl _ _ rfl rfl rfl]
  exact Steps.refl _
end New
end Jvm.RoadKit
/- laws to paste: Road.backV, Road.lenW, Road.codOf, StrChars.pair_says, StrChars.lo8_mask, StrChars.shr1, StrChars.shr0, StrChars.narrow_ch, Road.wide_lo, Road.wide_hi (cut by pick.py; bodies as the Statement names them) -/
namespace Jvm.Pilot.@@N@@
namespace StrChars
open Jvm Sem ClassFile Op Lib Jvm.Stand Jvm.Free.XT Jvm.Free.ALB Jvm.Free.JM Jvm.Free
open Jvm.Lib.Cold (StaticIs)
/-- a char array whose places are chars -/
def Ch (a : Addr) (A : Cell) (U : State) : Prop := Arr .char a A U ∧ Typed .char A
theorem Ch.mv {a : Addr} {A : Cell} {U U' : State} (h : Ch a A U) (hal : U.vm.Alike U'.vm) (hh : U'.heap = U.heap) : Ch a A U' := ⟨h.1.mv hal hh, h.2⟩
theorem Ch.keep {a : Addr} {A : Cell} {U U' : State} (h : Ch a A U) (hal : U.vm.Alike U'.vm) (hk : U'.heap[a]? = some A) : Ch a A U' := ⟨h.1.keep hal hk, h.2⟩
/-- what place i of a char[]'s cell holds -/
def cv (A : Cell) (i : Nat) : Int32 := match A.slots[i]? with | some (.int x) => x | _ => 0
theorem Ch.get {a : Addr} {A : Cell} {U : State} (h : Ch a A U) {i : Nat} (hi : i < A.slots.size) : A.slots[i]? = some (.int (cv A i)) := by
  have e := Array.getElem?_eq_getElem hi
  have f := h.2 i _ e
  unfold cv; rw [e]
  generalize A.slots[i] = v at f
  cases v <;> simp [fits] at f ⊢
/-- the byte that i2b leaves of a char -/
def lo8 (x : Int32) : Int32 := x.toInt8.toInt32
theorem fits_lo8 (y : Int32) : fits .byte (.int (lo8 y)) = true := by
  have h1 := y.toInt8.le_toInt
  have h2 := y.toInt8.toInt_lt
  simp only [lo8, fits, Bool.and_eq_true, decide_eq_true_eq, Int32.le_iff_toInt_le, Int8.toInt_toInt32, show (-128 : Int32).toInt = -128 from by decide, show (127 : Int32).toInt = 127 from by decide]
  omega
/-- A' is A but that each place j of lo .. hi - 1 holds f j -/
def Laid (A A' : Cell) (lo hi : Nat) (f : Nat → Value) : Prop := A'.cls = A.cls ∧ A'.vm = A.vm ∧ A'.slots.size = A.slots.size ∧ ∀ i, A'.slots[i]? = if lo ≤ i ∧ i < hi then some (f i) else A.slots[i]?
theorem Laid.zero (A : Cell) (lo : Nat) (f : Nat → Value) : Laid A A lo (lo + 0) f := ⟨rfl, rfl, rfl, fun i => by rw [if_neg (by omega)]⟩
theorem Laid.step {A Ak : Cell} {lo k : Nat} {f : Nat → Value} {v : Value} (h : Laid A Ak lo k f) (hlo : lo ≤ k) (hk : k < Ak.slots.size) (hv : v = f k) : Laid A (Ak.setSlot k v) lo (k + 1) f := by
  refine ⟨h.1, h.2.1, by simpa [Cell.setSlot] using h.2.2.1, fun i => ?_⟩
  by_cases e : k = i
  · subst e; rw [Cell.slots_setSlot_self v hk, if_pos (by omega), hv]
  · rw [Cell.slots_setSlot_ne v e, h.2.2.2 i]
    by_cases q : lo ≤ i ∧ i < k
    · rw [if_pos q, if_pos (by omega)]
    · rw [if_neg q, if_neg (by omega)]
def U16 : String := "java/lang/StringUTF16"
namespace Cmp5
def yN : MethodName := ⟨"java/lang/StringUTF16", "compress", "([CI[BII)I"⟩
abbrev yB : ByteArray := jdk_52_method_21_code
theorem d0 : decode yB 0 = .ok (.iconst 0, 1) := by decide +kernel
theorem d1 : decode yB 1 = .ok (.istore 5, 2) := by decide +kernel
theorem d3 : decode yB 3 = .ok (.iload 5, 2) := by decide +kernel
theorem d5 : decode yB 5 = .ok (.iload 4, 2) := by decide +kernel
theorem d7 : decode yB 7 = .ok (.if_icmp (.ge) 37, 3) := by decide +kernel
theorem d10 : decode yB 10 = .ok (.aload_n 0, 1) := by decide +kernel
theorem d11 : decode yB 11 = .ok (.iload_n 1, 1) := by decide +kernel
theorem d12 : decode yB 12 = .ok (.caload, 1) := by decide +kernel
theorem d13 : decode yB 13 = .ok (.istore 6, 2) := by decide +kernel
theorem d15 : decode yB 15 = .ok (.iload 6, 2) := by decide +kernel
theorem d17 : decode yB 17 = .ok (.sipush 255, 3) := by decide +kernel
theorem d20 : decode yB 20 = .ok (.if_icmp (.le) 6, 3) := by decide +kernel
theorem d26 : decode yB 26 = .ok (.aload_n 2, 1) := by decide +kernel
theorem d27 : decode yB 27 = .ok (.iload_n 3, 1) := by decide +kernel
theorem d28 : decode yB 28 = .ok (.iload 6, 2) := by decide +kernel
theorem d30 : decode yB 30 = .ok (.i2b, 1) := by decide +kernel
theorem d31 : decode yB 31 = .ok (.bastore, 1) := by decide +kernel
theorem d32 : decode yB 32 = .ok (.iinc 1 1, 3) := by decide +kernel
theorem d35 : decode yB 35 = .ok (.iinc 3 1, 3) := by decide +kernel
theorem d38 : decode yB 38 = .ok (.iinc 5 1, 3) := by decide +kernel
theorem d41 : decode yB 41 = .ok (.goto (-38), 3) := by decide +kernel
theorem d44 : decode yB 44 = .ok (.iload 4, 2) := by decide +kernel
theorem d46 : decode yB 46 = .ok (.ireturn, 1) := by decide +kernel
def site : List Cond := []
def tab : Cond := tabOf yN yB 7 (some .int) site
def P (b : Addr) (A : Cell) (d : Addr) (B : Cell) (o q len : Nat) (args : Array Value) (s : State) : Prop := args = #[.ref b, .int (Int32.ofNat o), .ref d, .int (Int32.ofNat q), .int (Int32.ofNat len)] ∧ Ch b A s ∧ Arr .byte d B s ∧ b ≠ d ∧ o + len ≤ A.slots.size ∧ q + len ≤ B.slots.size ∧ ∀ i, i < len → ¬ 255 < cv A (o + i)
def E (b : Addr) (A : Cell) (d : Addr) (B : Cell) (o q len : Nat) (r : Option Value) (s u : State) : Prop := r = some (.int (Int32.ofNat len)) ∧ ∃ B', Put d B' s u ∧ Laid B B' q (q + len) (fun j => Value.int (lo8 (cv A (o + (j - q)))))
/-- no char of the range above 255: len; the places written hold each char's low byte -/
theorem law (l : Launch) (b : Addr) (A : Cell) (d : Addr) (B : Cell) (o q len : Nat) : Law l yN 5 5 0 0 yB 7 (some .int) site (P b A d B o q len) (E b A d B o q len) (copyLocs d q len) 0 0 := by
  refine Law.of_walk (plainFor_of_name (by decide +kernel)) (by decide +kernel) (by decide +kernel) (by decide) (fun _ _ h => by rw [h.1]; rfl) (fun _ U U' hal hh h => ⟨h.1, h.2.1.mv hal hh, h.2.2.1.mv hal hh, h.2.2.2⟩) (fun r U U' V V' h1 hal h2 h => ⟨h.1, h.2.elim fun B' q => ⟨B', q.1.mv h1 h2, q.2⟩⟩) ?_
  intro p e s m args below meth c s₁ X0 hexec hbytes hml hret hlk hnm hown hh0 W hP
  obtain ⟨rfl, hA, hB, hne, l1, l2, hp⟩ := hP
  have c1 : Steps p.tables e below (s₁.setTop (entryFrame m #[.ref b, .int (Int32.ofNat o), .ref d, .int (Int32.ofNat q), .int (Int32.ofNat len)] 7)) (s₁.setTop (mkF m 0 #[.val (.ref b), .val (.int (Int32.ofNat o)), .val (.ref d), .val (.int (Int32.ofNat q)), .val (.int (Int32.ofNat len)), .unset, .unset] [])) := entry rfl
  have hA0 := hA.1.mv X0.warmed.alike hh0
  have hB0 := hB.mv X0.warmed.alike hh0
  have a31 := hA.1.2.2.2
  have c2 : Steps p.tables e below (s₁.setTop (entryFrame m #[.ref b, .int (Int32.ofNat o), .ref d, .int (Int32.ofNat q), .int (Int32.ofNat len)] 7)) (s₁.setTop (mkF m 3 #[.val (.ref b), .val (.int (Int32.ofNat o)), .val (.ref d), .val (.int (Int32.ofNat q)), .val (.int (Int32.ofNat len)), .val (.int 0), .unset] [])) := c1.trans (by
    refine iconstV X0.here hexec rfl 0 (hb hbytes d0) (by decide) ?_
    refine XS.istore X0.here hexec rfl (hb hbytes d1) rfl rfl ?_
    exact Steps.refl _)
  have loop : ∀ (r i : Nat), i + r = len → ∀ (z : Slot), (z = .unset ∨ ∃ w, z = .val w ∧ w.category = 1) → ∀ (Tl : State) (Bk : Cell), Stand p l e { frames := 0, locals := 0, cells := 0, slots := 0 } s m #[.ref b, .int (Int32.ofNat o), .ref d, .int (Int32.ofNat q), .int (Int32.ofNat len)] below meth c Tl ([] ++ copyLocs d q i) 0 0 → Put d Bk s₁ Tl → Laid B Bk q (q + i) (fun j => Value.int (lo8 (cv A (o + (j - q))))) →
      Steps p.tables e below (s₁.setTop (entryFrame m #[.ref b, .int (Int32.ofNat o), .ref d, .int (Int32.ofNat q), .int (Int32.ofNat len)] 7)) (Tl.setTop (mkF m 3 #[.val (.ref b), .val (.int (Int32.ofNat (o + i))), .val (.ref d), .val (.int (Int32.ofNat (q + i))), .val (.int (Int32.ofNat len)), .val (.int (Int32.ofNat i)), z] [])) → ∃ (T' : State) (B' : Cell) (z' : Slot), Stand p l e { frames := 0, locals := 0, cells := 0, slots := 0 } s m #[.ref b, .int (Int32.ofNat o), .ref d, .int (Int32.ofNat q), .int (Int32.ofNat len)] below meth c T' ([] ++ copyLocs d q len) 0 0 ∧ Put d B' s₁ T' ∧ Laid B B' q (q + len) (fun j => Value.int (lo8 (cv A (o + (j - q))))) ∧
      Steps p.tables e below (s₁.setTop (entryFrame m #[.ref b, .int (Int32.ofNat o), .ref d, .int (Int32.ofNat q), .int (Int32.ofNat len)] 7)) (T'.setTop (mkF m 3 #[.val (.ref b), .val (.int (Int32.ofNat (o + len))), .val (.ref d), .val (.int (Int32.ofNat (q + len))), .val (.int (Int32.ofNat len)), .val (.int (Int32.ofNat len)), z'] [])) := by
    intro r
    induction r with
    | zero =>
      intro i hi z hz Tl Bk Xl pl fl cl
      have hil : i = len := by omega
      rw [hil] at Xl fl cl
      exact ⟨Tl, Bk, z, Xl, pl, fl, cl⟩
    | succ r ih =>
      intro i hi z hz Tl Bk Xl pl fl cl
      have all := X0.warmed.alike.symm.trans Xl.warmed.alike
      have hAl := hA0.keep all (pl.other hne hA0.1)
      have hBk := hB0.like all pl.1 fl.1 fl.2.1 fl.2.2.1
      have hlt : q + i < Bk.slots.size := by rw [fl.2.2.1]; omega
      have c3 : Steps p.tables e below (s₁.setTop (entryFrame m #[.ref b, .int (Int32.ofNat o), .ref d, .int (Int32.ofNat q), .int (Int32.ofNat len)] 7)) (Tl.setTop (mkF m 12 #[.val (.ref b), .val (.int (Int32.ofNat (o + i))), .val (.ref d), .val (.int (Int32.ofNat (q + i))), .val (.int (Int32.ofNat len)), .val (.int (Int32.ofNat i)), z] [.int (Int32.ofNat (o + i)), .ref b])) := cl.trans (by
        refine XS.iload Xl.here hexec rfl (hb hbytes d3) rfl ?_
        refine XS.iload Xl.here hexec rfl (hb hbytes d5) rfl ?_
        refine XS.icmpNo Xl.here hexec rfl (hb hbytes d7) rfl (ii_ge_f (lt32 (by omega) (by omega))) ?_
        refine XS.aloadN Xl.here hexec rfl (hb hbytes d10) rfl rfl ?_
        refine XS.iloadN Xl.here hexec rfl (hb hbytes d11) rfl ?_
        exact Steps.refl _)
      have c4 : Steps p.tables e below (s₁.setTop (entryFrame m #[.ref b, .int (Int32.ofNat o), .ref d, .int (Int32.ofNat q), .int (Int32.ofNat len)] 7)) (Tl.setTop (mkF m 13 #[.val (.ref b), .val (.int (Int32.ofNat (o + i))), .val (.ref d), .val (.int (Int32.ofNat (q + i))), .val (.int (Int32.ofNat len)), .val (.int (Int32.ofNat i)), z] [.int (cv A (o + i))])) := c3.trans (by
        refine Xl.aget hexec hAl rfl (hA.get (i := o + i) (by omega)) rfl rfl (hb hbytes d12) ?_
        exact Steps.refl _)
      have c5 : Steps p.tables e below (s₁.setTop (entryFrame m #[.ref b, .int (Int32.ofNat o), .ref d, .int (Int32.ofNat q), .int (Int32.ofNat len)] 7)) (Tl.setTop (mkF m 15 #[.val (.ref b), .val (.int (Int32.ofNat (o + i))), .val (.ref d), .val (.int (Int32.ofNat (q + i))), .val (.int (Int32.ofNat len)), .val (.int (Int32.ofNat i)), .val (.int (cv A (o + i)))] [])) := c4.trans (by
        refine XS.istoreS Xl.here hexec rfl (hb hbytes d13) rfl rfl hz ?_
        exact Steps.refl _)
      have c6 : Steps p.tables e below (s₁.setTop (entryFrame m #[.ref b, .int (Int32.ofNat o), .ref d, .int (Int32.ofNat q), .int (Int32.ofNat len)] 7)) (Tl.setTop (mkF m 31 #[.val (.ref b), .val (.int (Int32.ofNat (o + i))), .val (.ref d), .val (.int (Int32.ofNat (q + i))), .val (.int (Int32.ofNat len)), .val (.int (Int32.ofNat i)), .val (.int (cv A (o + i)))] [.int (lo8 (cv A (o + i))), .int (Int32.ofNat (q + i)), .ref d])) := c5.trans (by
        refine XS.iload Xl.here hexec rfl (hb hbytes d15) rfl ?_
        refine sipushV Xl.here hexec rfl 255 (hb hbytes d17) (by decide) ?_
        refine XS.icmpYes Xl.here hexec rfl (pc0 := 20) rfl (hb hbytes d20) rfl (ii_le_t (hp i (by omega))) (by decide) rfl ?_
        refine XS.aloadN Xl.here hexec rfl (hb hbytes d26) rfl rfl ?_
        refine XS.iloadN Xl.here hexec rfl (hb hbytes d27) rfl ?_
        refine XS.iload Xl.here hexec rfl (hb hbytes d28) rfl ?_
        refine i2b Xl.here hexec rfl (hb hbytes d30) rfl ?_
        exact Steps.refl _)
      obtain ⟨T7, X7, p7, st7⟩ := Xl.aput hexec hBk rfl hlt rfl (fits_lo8 (cv A (o + i))) (g := (mkF m 31 #[.val (.ref b), .val (.int (Int32.ofNat (o + i))), .val (.ref d), .val (.int (Int32.ofNat (q + i))), .val (.int (Int32.ofNat len)), .val (.int (Int32.ofNat i)), .val (.int (cv A (o + i)))] [.int (lo8 (cv A (o + i))), .int (Int32.ofNat (q + i)), .ref d])) rfl (rest := []) rfl (hb hbytes d31)
      have c8 : Steps p.tables e below (s₁.setTop (entryFrame m #[.ref b, .int (Int32.ofNat o), .ref d, .int (Int32.ofNat q), .int (Int32.ofNat len)] 7)) (T7.setTop (mkF m 32 #[.val (.ref b), .val (.int (Int32.ofNat (o + i))), .val (.ref d), .val (.int (Int32.ofNat (q + i))), .val (.int (Int32.ofNat len)), .val (.int (Int32.ofNat i)), .val (.int (cv A (o + i)))] [])) := c6.trans (st7 _ (Steps.refl _))
      have c9 : Steps p.tables e below (s₁.setTop (entryFrame m #[.ref b, .int (Int32.ofNat o), .ref d, .int (Int32.ofNat q), .int (Int32.ofNat len)] 7)) (T7.setTop (mkF m 3 #[.val (.ref b), .val (.int (Int32.ofNat (o + i) + 1)), .val (.ref d), .val (.int (Int32.ofNat (q + i) + 1)), .val (.int (Int32.ofNat len)), .val (.int (Int32.ofNat i + 1)), .val (.int (cv A (o + i)))] [])) := c8.trans (by
        refine iincV X7.here hexec rfl 1 (hb hbytes d32) (by decide) rfl rfl ?_
        refine iincV X7.here hexec rfl 1 (hb hbytes d35) (by decide) rfl rfl ?_
        refine iincV X7.here hexec rfl 1 (hb hbytes d38) (by decide) rfl rfl ?_
        refine XS.goto X7.here hexec rfl (pc0 := 41) rfl (hb hbytes d41) (by decide) rfl ?_
        exact Steps.refl _)
      have c10 : Steps p.tables e below (s₁.setTop (entryFrame m #[.ref b, .int (Int32.ofNat o), .ref d, .int (Int32.ofNat q), .int (Int32.ofNat len)] 7)) (T7.setTop (mkF m 3 #[.val (.ref b), .val (.int (Int32.ofNat (o + (i + 1)))), .val (.ref d), .val (.int (Int32.ofNat (q + (i + 1)))), .val (.int (Int32.ofNat len)), .val (.int (Int32.ofNat (i + 1))), .val (.int (cv A (o + i)))] [])) := by
        have := c9
        rw [succ32, succ32, succ32] at this
        exact this
      exact ih (i + 1) (by omega) _ (Or.inr ⟨_, rfl, rfl⟩) T7 _ (by rw [copyLocs_step, ← List.append_assoc]; exact X7) (pl.trans p7) (fl.step (by omega) hlt (by simp)) c10
  obtain ⟨T9, B9, z9, X9, p9, f9, g9⟩ := loop len 0 (by omega) .unset (Or.inl rfl) s₁ B (by simpa [copyLocs] using X0) ⟨hB0.1, fun _ _ => rfl, rfl⟩ (Laid.zero _ _ _) c2
  have c11 : Steps p.tables e below (s₁.setTop (entryFrame m #[.ref b, .int (Int32.ofNat o), .ref d, .int (Int32.ofNat q), .int (Int32.ofNat len)] 7)) (T9.setTop (mkF m 46 #[.val (.ref b), .val (.int (Int32.ofNat (o + len))), .val (.ref d), .val (.int (Int32.ofNat (q + len))), .val (.int (Int32.ofNat len)), .val (.int (Int32.ofNat len)), z9] [.int (Int32.ofNat len)])) := g9.trans (by
    refine XS.iload X9.here hexec rfl (hb hbytes d3) rfl ?_
    refine XS.iload X9.here hexec rfl (hb hbytes d5) rfl ?_
    refine XS.icmpYes X9.here hexec rfl (pc0 := 7) rfl (hb hbytes d7) rfl (ii_ge_t (nlt32 (by omega) (Nat.le_refl _))) (by decide) rfl ?_
    refine XS.iload X9.here hexec rfl (hb hbytes d44) rfl ?_
    exact Steps.refl _)
  exact ⟨T9, some (.int (Int32.ofNat len)), _, _, _, X9, by simp, rfl, rfl, (fun h => by cases h), ⟨rfl, B9, p9.from hh0, f9⟩, fun fs hl => c11.trans (X9.ireturnOut hexec hret rfl (Or.inl rfl) (hb hbytes d46) hl)⟩
end Cmp5
namespace Cmp3
def yN : MethodName := ⟨"java/lang/StringUTF16", "compress", "([CII)[B"⟩
abbrev yB : ByteArray := jdk_52_method_16_code
theorem d0 : decode yB 0 = .ok (.iload_n 2, 1) := by decide +kernel
theorem d1 : decode yB 1 = .ok (.newarray .byte, 2) := by decide +kernel
theorem d3 : decode yB 3 = .ok (.astore_n 3, 1) := by decide +kernel
theorem d4 : decode yB 4 = .ok (.aload_n 0, 1) := by decide +kernel
theorem d5 : decode yB 5 = .ok (.iload_n 1, 1) := by decide +kernel
theorem d6 : decode yB 6 = .ok (.aload_n 3, 1) := by decide +kernel
theorem d7 : decode yB 7 = .ok (.iconst 0, 1) := by decide +kernel
theorem d8 : decode yB 8 = .ok (.iload_n 2, 1) := by decide +kernel
theorem d9 : decode yB 9 = .ok (.invokestatic 115, 3) := by decide +kernel
theorem d12 : decode yB 12 = .ok (.istore 4, 2) := by decide +kernel
theorem d14 : decode yB 14 = .ok (.iload 4, 2) := by decide +kernel
theorem d16 : decode yB 16 = .ok (.iload_n 2, 1) := by decide +kernel
theorem d17 : decode yB 17 = .ok (.if_icmp (.eq) 40, 3) := by decide +kernel
theorem d57 : decode yB 57 = .ok (.aload_n 3, 1) := by decide +kernel
theorem d58 : decode yB 58 = .ok (.areturn, 1) := by decide +kernel
def site : List Cond := [.arrayClass .byte, Cmp5.tab] ++ staticW U16 115 Cmp5.yN
def tab : Cond := tabOf yN yB 6 (some (.array .byte)) site
def P (b : Addr) (A : Cell) (o len : Nat) (args : Array Value) (s : State) : Prop := args = #[.ref b, .int (Int32.ofNat o), .int (Int32.ofNat len)] ∧ Ch b A s ∧ o + len ≤ A.slots.size ∧ len ≤ 536870912 ∧ ∀ i, i < len → ¬ 255 < cv A (o + i)
def E (b : Addr) (A : Cell) (o len : Nat) (r : Option Value) (s u : State) : Prop := NewArr .byte "[B" len (fun j => .int (lo8 (cv A (o + j)))) r s u ∧ u.heap.size = s.heap.size + 1
/-- no char of the range above 255: a new byte[] of their low bytes -/
theorem law (l : Launch) (b : Addr) (A : Cell) (o len : Nat) : Law l yN 3 3 1 18 yB 6 (some (.array .byte)) site (P b A o len) (E b A o len) [] 1 len := by
  refine Law.of_walk (plainFor_of_name (by decide +kernel)) (by decide +kernel) (by decide +kernel) (by decide) (fun _ _ h => by rw [h.1]; rfl) (fun _ U U' hal hh h => ⟨h.1, h.2.1.mv hal hh, h.2.2⟩) (fun r U U' V V' h1 hal h2 h => ⟨NewArr.mv r U U' V V' h1 hal h2 h.1, by rw [h1, h2]; exact h.2⟩) ?_
  intro p e s m args below meth c s₁ X0 hexec hbytes hml hret hlk hnm hown hh0 W hP
  obtain ⟨rfl, hA, l1, l2, hp⟩ := hP
  have a31 := hA.1.2.2.2
  have c1 : Steps p.tables e below (s₁.setTop (entryFrame m #[.ref b, .int (Int32.ofNat o), .int (Int32.ofNat len)] 6)) (s₁.setTop (mkF m 0 #[.val (.ref b), .val (.int (Int32.ofNat o)), .val (.int (Int32.ofNat len)), .unset, .unset, .unset] [])) := entry rfl
  have c2 : Steps p.tables e below (s₁.setTop (entryFrame m #[.ref b, .int (Int32.ofNat o), .int (Int32.ofNat len)] 6)) (s₁.setTop (mkF m 1 #[.val (.ref b), .val (.int (Int32.ofNat o)), .val (.int (Int32.ofNat len)), .unset, .unset, .unset] [.int (Int32.ofNat len)])) := c1.trans (by
    refine XS.iloadN X0.here hexec rfl (hb hbytes d0) rfl ?_
    exact Steps.refl _)
  obtain ⟨T3, B3, X3, ba3, bs3, bv3, bh3, bf3, st3⟩ := X0.anew hexec (atype := .byte) (wk W (.arrayClass .byte)) rfl (by show len * 1 ≤ _; omega) (by omega) (g := (mkF m 1 #[.val (.ref b), .val (.int (Int32.ofNat o)), .val (.int (Int32.ofNat len)), .unset, .unset, .unset] [.int (Int32.ofNat len)])) rfl (hb hbytes d1) (rest := []) rfl (Nat.le_refl _) (by show 0 + len ≤ len; omega)
  rw [hh0] at ba3 st3
  have kp3 : XT.Kept s T3 := (XT.Kept.of_eq hh0).push bh3
  have hA3 := hA.keep X3.warmed.alike (kp3 _ _ hA.1.1)
  have hne : b ≠ s.heap.size := hA.1.ne
  have c4 : Steps p.tables e below (s₁.setTop (entryFrame m #[.ref b, .int (Int32.ofNat o), .int (Int32.ofNat len)] 6)) (T3.setTop (mkF m 3 #[.val (.ref b), .val (.int (Int32.ofNat o)), .val (.int (Int32.ofNat len)), .unset, .unset, .unset] [.ref s.heap.size])) := c2.trans (st3 _ (Steps.refl _))
  have c5 : Steps p.tables e below (s₁.setTop (entryFrame m #[.ref b, .int (Int32.ofNat o), .int (Int32.ofNat len)] 6)) (T3.setTop (mkF m 9 #[.val (.ref b), .val (.int (Int32.ofNat o)), .val (.int (Int32.ofNat len)), .val (.ref s.heap.size), .unset, .unset] [.int (Int32.ofNat len), .int 0, .ref s.heap.size, .int (Int32.ofNat o), .ref b])) := c4.trans (by
    refine XS.astoreN X3.here hexec rfl (hb hbytes d3) rfl rfl rfl ?_
    refine XS.aloadN X3.here hexec rfl (hb hbytes d4) rfl rfl ?_
    refine XS.iloadN X3.here hexec rfl (hb hbytes d5) rfl ?_
    refine XS.aloadN X3.here hexec rfl (hb hbytes d6) rfl rfl ?_
    refine iconstV X3.here hexec rfl 0 (hb hbytes d7) (by decide) ?_
    refine XS.iloadN X3.here hexec rfl (hb hbytes d8) rfl ?_
    exact Steps.refl _)
  obtain ⟨v6, T6, X6, E6, g6⟩ := X3.callS hexec (Cmp5.law l b A s.heap.size B3 o 0 len) hown (wks W (staticW U16 115 Cmp5.yN)) (wk W Cmp5.tab) (W := 0) (Nat.le_of_ble_eq_true rfl) (Nat.le_of_ble_eq_true rfl) (Nat.le_refl _) (by show 0 + len + 0 ≤ len; omega) (g := (mkF m 9 #[.val (.ref b), .val (.int (Int32.ofNat o)), .val (.int (Int32.ofNat len)), .val (.ref s.heap.size), .unset, .unset] [.int (Int32.ofNat len), .int (Int32.ofNat 0), .ref s.heap.size, .int (Int32.ofNat o), .ref b])) rfl (by rw [hml]; rfl) c5 (argsL := [.ref b, .int (Int32.ofNat o), .ref s.heap.size, .int (Int32.ofNat 0), .int (Int32.ofNat len)]) (rest := []) rfl rfl (by show 2 * 0 + 0 ≤ _; decide) (hb hbytes d9) (⟨rfl, hA3, ba3, hne, l1, by rw [bs3]; simp, hp⟩)
  obtain ⟨rfl, B6, p6, f6⟩ := E6
  have c7 : Steps p.tables e below (s₁.setTop (entryFrame m #[.ref b, .int (Int32.ofNat o), .int (Int32.ofNat len)] 6)) (T6.setTop (mkF m 12 #[.val (.ref b), .val (.int (Int32.ofNat o)), .val (.int (Int32.ofNat len)), .val (.ref s.heap.size), .unset, .unset] [.int (Int32.ofNat len)])) := g6
  have c8 : Steps p.tables e below (s₁.setTop (entryFrame m #[.ref b, .int (Int32.ofNat o), .int (Int32.ofNat len)] 6)) (T6.setTop (mkF m 58 #[.val (.ref b), .val (.int (Int32.ofNat o)), .val (.int (Int32.ofNat len)), .val (.ref s.heap.size), .val (.int (Int32.ofNat len)), .unset] [.ref s.heap.size])) := c7.trans (by
    refine XS.istore X6.here hexec rfl (hb hbytes d12) rfl rfl ?_
    refine XS.iload X6.here hexec rfl (hb hbytes d14) rfl ?_
    refine XS.iloadN X6.here hexec rfl (hb hbytes d16) rfl ?_
    refine XS.icmpYes X6.here hexec rfl (pc0 := 17) rfl (hb hbytes d17) rfl (ii_eq_t rfl) (by decide) rfl ?_
    refine XS.aloadN X6.here hexec rfl (hb hbytes d57) rfl rfl ?_
    exact Steps.refl _)
  have X8 := X6.wide (L' := []) (cells' := 1) (slots' := len) (fun x hx hlt => by
    simp only [List.nil_append, copyLocs, List.mem_map, List.mem_range] at hx
    obtain ⟨i, -, rfl⟩ := hx
    exact absurd hlt (Nat.lt_irrefl _)) (Nat.le_refl _) (by omega)
  exact ⟨T6, some (.ref s.heap.size), _, _, _, X8, rfl, rfl, rfl, (fun h => by cases h), ⟨⟨rfl, B6, ba3.like (X3.warmed.alike.symm.trans X6.warmed.alike) p6.1 f6.1 f6.2.1 f6.2.2.1, f6.2.1.trans bv3, by rw [X6.warmed.alike.findClass, f6.1]; exact bf3, by rw [f6.2.2.1, bs3]; simp, fun j hj => by rw [f6.2.2.2 j, if_pos (by omega)]; rfl, kp3.put p6 (Nat.le_refl _)⟩, by rw [p6.2.2, bh3, hh0]; simp⟩, fun fs hl => c8.trans (X8.areturnOut hexec rfl hret rfl (hb hbytes d58) hl)⟩
end Cmp3
namespace CodL
def yN : MethodName := ⟨"java/lang/StringUTF16", "coderFromArrayLen", "([BI)B"⟩
abbrev yB : ByteArray := jdk_52_method_15_code
theorem d0 : decode yB 0 = .ok (.iload_n 1, 1) := by decide +kernel
theorem d1 : decode yB 1 = .ok (.aload_n 0, 1) := by decide +kernel
theorem d2 : decode yB 2 = .ok (.arraylength, 1) := by decide +kernel
theorem d3 : decode yB 3 = .ok (.isub, 1) := by decide +kernel
theorem d4 : decode yB 4 = .ok (.bipush 31, 2) := by decide +kernel
theorem d6 : decode yB 6 = .ok (.iushr, 1) := by decide +kernel
theorem d7 : decode yB 7 = .ok (.i2b, 1) := by decide +kernel
theorem d8 : decode yB 8 = .ok (.ireturn, 1) := by decide +kernel
def site : List Cond := []
def tab : Cond := tabOf yN yB 2 (some .byte) site
def P (d : Addr) (B : Cell) (args : Array Value) (s : State) : Prop := args = #[.ref d, .int (Int32.ofNat B.slots.size)] ∧ Arr .byte d B s
def E (r : Option Value) (s u : State) : Prop := XT.PureE (some (.int 0)) r s u
/-- an array as long as the number of chars: LATIN1 -/
theorem law (l : Launch) (d : Addr) (B : Cell) : Law l yN 2 2 0 0 yB 2 (some .byte) site (P d B) E [] 0 0 := by
  refine Law.of_walk (plainFor_of_name (by decide +kernel)) (by decide +kernel) (by decide +kernel) (by decide) (fun _ _ h => by rw [h.1]; rfl) (fun _ U U' hal hh h => ⟨h.1, h.2.mv hal hh⟩) (fun r U U' V V' h1 hal h2 h => XT.PureE.mv r U U' V V' h1 hal h2 h) ?_
  intro p e s m args below meth c s₁ X0 hexec hbytes hml hret hlk hnm hown hh0 W hP
  obtain ⟨rfl, hB⟩ := hP
  have hB0 := hB.mv X0.warmed.alike hh0
  have c1 : Steps p.tables e below (s₁.setTop (entryFrame m #[.ref d, .int (Int32.ofNat B.slots.size)] 2)) (s₁.setTop (mkF m 0 #[.val (.ref d), .val (.int (Int32.ofNat B.slots.size))] [])) := entry rfl
  have c2 : Steps p.tables e below (s₁.setTop (entryFrame m #[.ref d, .int (Int32.ofNat B.slots.size)] 2)) (s₁.setTop (mkF m 2 #[.val (.ref d), .val (.int (Int32.ofNat B.slots.size))] [.ref d, .int (Int32.ofNat B.slots.size)])) := c1.trans (by
    refine XS.iloadN X0.here hexec rfl (hb hbytes d0) rfl ?_
    refine XS.aloadN X0.here hexec rfl (hb hbytes d1) rfl rfl ?_
    exact Steps.refl _)
  have c3 : Steps p.tables e below (s₁.setTop (entryFrame m #[.ref d, .int (Int32.ofNat B.slots.size)] 2)) (s₁.setTop (mkF m 8 #[.val (.ref d), .val (.int (Int32.ofNat B.slots.size))] [.int (lo8 (ushr (Int32.ofNat B.slots.size - Int32.ofNat B.slots.size) 31))])) := c2.trans (by
    refine X0.alen hexec hB0 rfl rfl (hb hbytes d2) ?_
    refine XS.isub X0.here hexec rfl (hb hbytes d3) rfl ?_
    refine bipushV X0.here hexec rfl 31 (hb hbytes d4) (by decide) ?_
    refine iushr X0.here hexec rfl (hb hbytes d6) rfl ?_
    refine i2b X0.here hexec rfl (hb hbytes d7) rfl ?_
    exact Steps.refl _)
  have e0 : lo8 (ushr (Int32.ofNat B.slots.size - Int32.ofNat B.slots.size) 31) = 0 := by rw [Int32.sub_self]; decide
  rw [e0] at c3
  exact ⟨s₁, some (.int 0), _, _, _, X0, rfl, rfl, rfl, (fun h => by cases h), ⟨rfl, hh0⟩, fun fs hl => c3.trans (X0.ireturnOut hexec hret rfl (Or.inr (Or.inr (Or.inl rfl))) (hb hbytes d8) hl)⟩
end CodL
/-- the String at a is Latin-1 over a new byte[] (the heap's one new cell): the low bytes of the len chars of A from o on; every cell but a is kept -/
def Got (a : Addr) (D : Cell) (fV fC : Field) (A : Cell) (o len : Nat) (r : Option Value) (s u : State) : Prop := r = none ∧ ∃ D' V : Cell, Blank "java/lang/String" a D' u ∧ Same D D' [fV.slot, fC.slot] ∧ D'.slots[fV.slot]? = some (.ref s.heap.size) ∧ D'.slots[fC.slot]? = some (.int 0) ∧ Arr .byte s.heap.size V u ∧ V.vm = .none ∧ u.vm.findClass "[B" = some V.cls ∧ V.slots.size = len ∧ (∀ j, j < len → V.slots[j]? = some (.int (lo8 (cv A (o + j))))) ∧ (∀ (y : Addr) (c : Cell), y ≠ a → s.heap[y]? = some c → u.heap[y]? = some c) ∧ u.heap.size = s.heap.size + 1
theorem Got.mv {a : Addr} {D A : Cell} {fV fC : Field} {o len : Nat} : ∀ r (U U' V V' : State), U'.heap = U.heap → V.vm.Alike V'.vm → V'.heap = V.heap → Got a D fV fC A o len r U V → Got a D fV fC A o len r U' V' :=
  fun r U U' V V' h1 hal h2 ⟨e0, D', X, a1, a2, a3, a4, a5, a6, a7, a8, a9, a10, a11⟩ => ⟨e0, D', X, a1.mv hal h2, a2, by rw [h1]; exact a3, a4, by rw [h1]; exact a5.mv hal h2, a6, by rw [hal.findClass]; exact a7, a8, a9, by rw [h1, h2]; exact a10, by rw [h1, h2]; exact a11⟩
namespace New4
def yN : MethodName := ⟨"java/lang/String", "<init>", "([CIILjava/lang/Void;)V"⟩
abbrev yB : ByteArray := jdk_42_method_149_code
theorem d0 : decode yB 0 = .ok (.aload_n 0, 1) := by decide +kernel
theorem d1 : decode yB 1 = .ok (.invokespecial 1, 3) := by decide +kernel
theorem d4 : decode yB 4 = .ok (.iload_n 3, 1) := by decide +kernel
theorem d5 : decode yB 5 = .ok (.ifCond (.ne) 22, 3) := by decide +kernel
theorem d27 : decode yB 27 = .ok (.getstatic 38, 3) := by decide +kernel
theorem d30 : decode yB 30 = .ok (.ifCond (.eq) 28, 3) := by decide +kernel
theorem d33 : decode yB 33 = .ok (.aload_n 1, 1) := by decide +kernel
theorem d34 : decode yB 34 = .ok (.iload_n 2, 1) := by decide +kernel
theorem d35 : decode yB 35 = .ok (.iload_n 3, 1) := by decide +kernel
theorem d36 : decode yB 36 = .ok (.invokestatic 177, 3) := by decide +kernel
theorem d39 : decode yB 39 = .ok (.astore 5, 2) := by decide +kernel
theorem d41 : decode yB 41 = .ok (.aload_n 0, 1) := by decide +kernel
theorem d42 : decode yB 42 = .ok (.aload 5, 2) := by decide +kernel
theorem d44 : decode yB 44 = .ok (.iload_n 3, 1) := by decide +kernel
theorem d45 : decode yB 45 = .ok (.invokestatic 47, 3) := by decide +kernel
theorem d48 : decode yB 48 = .ok (.putfield 15, 3) := by decide +kernel
theorem d51 : decode yB 51 = .ok (.aload_n 0, 1) := by decide +kernel
theorem d52 : decode yB 52 = .ok (.aload 5, 2) := by decide +kernel
theorem d54 : decode yB 54 = .ok (.putfield 9, 3) := by decide +kernel
theorem d57 : decode yB 57 = .ok (.return_, 1) := by decide +kernel
def site : List Cond := [.fieldLink "java/lang/String" 38 "java/lang/String" "COMPACT_STRINGS" "Z", Cmp3.tab, CodL.tab, .laysFinal "java/lang/String" "java/lang/String" "value" "[B", .fieldLink "java/lang/String" 9 "java/lang/String" "value" "[B", .laysFinal "java/lang/String" "java/lang/String" "coder" "B", .fieldLink "java/lang/String" 15 "java/lang/String" "coder" "B"] ++ objW "java/lang/String" 1 ++ staticW "java/lang/String" 177 Cmp3.yN ++ staticW "java/lang/String" 47 CodL.yN
def tab : Cond := tabOf yN yB 6 none site
def P (a : Addr) (D : Cell) (fV fC : Field) (b : Addr) (A : Cell) (z : Int32) (o len : Nat) (args : Array Value) (s : State) : Prop := args = #[.ref a, .ref b, .int (Int32.ofNat o), .int (Int32.ofNat len), .null] ∧ Blank "java/lang/String" a D s ∧ Found "java/lang/String" "value" "[B" fV s ∧ Found "java/lang/String" "coder" "B" fC s ∧ Ch b A s ∧ StaticIs s "java/lang/String" "COMPACT_STRINGS" "Z" (.int z) ∧ ¬ z = 0 ∧ 0 < len ∧ o + len ≤ A.slots.size ∧ len ≤ 536870912 ∧ ∀ i, i < len → ¬ 255 < cv A (o + i)
def E (a : Addr) (D : Cell) (fV fC : Field) (A : Cell) (o len : Nat) (r : Option Value) (s u : State) : Prop := Got a D fV fC A o len r s u
/-- len > 0, no char of the range above 255: a Latin-1 String of their low bytes -/
theorem law (l : Launch) (a : Addr) (D : Cell) (fV fC : Field) (b : Addr) (A : Cell) (z : Int32) (o len : Nat) : Law l yN 5 4 2 35 yB 6 none site (P a D fV fC b A z o len) (E a D fV fC A o len) [⟨a, fC.slot⟩, ⟨a, fV.slot⟩] 1 len := by
  refine Law.of_walk (plainFor_of_name (by decide +kernel)) (by decide +kernel) (by decide +kernel) (by decide) (fun _ _ h => by rw [h.1]; rfl) (fun _ U U' hal hh h => ⟨h.1, h.2.1.mv hal hh, h.2.2.1.al hal, h.2.2.2.1.al hal, h.2.2.2.2.1.mv hal hh, h.2.2.2.2.2.1.there hal hh, h.2.2.2.2.2.2⟩) (fun r U U' V V' h1 hal h2 h => Got.mv r U U' V V' h1 hal h2 h) ?_
  intro p e s m args below meth c s₁ X0 hexec hbytes hml hret hlk hnm hown hh0 W hP
  obtain ⟨rfl, hB, f1, f2, hA, s1, hz, l0, l1, l2, hp⟩ := hP
  have a31 := hA.1.2.2.2
  have c1 : Steps p.tables e below (s₁.setTop (entryFrame m #[.ref a, .ref b, .int (Int32.ofNat o), .int (Int32.ofNat len), .null] 6)) (s₁.setTop (mkF m 0 #[.val (.ref a), .val (.ref b), .val (.int (Int32.ofNat o)), .val (.int (Int32.ofNat len)), .val .null, .unset] [])) := entry rfl
  have c2 : Steps p.tables e below (s₁.setTop (entryFrame m #[.ref a, .ref b, .int (Int32.ofNat o), .int (Int32.ofNat len), .null] 6)) (s₁.setTop (mkF m 1 #[.val (.ref a), .val (.ref b), .val (.int (Int32.ofNat o)), .val (.int (Int32.ofNat len)), .val .null, .unset] [.ref a])) := c1.trans (by
    refine XS.aloadN X0.here hexec rfl (hb hbytes d0) rfl rfl ?_
    exact Steps.refl _)
  obtain ⟨T3, X3, q3, st3⟩ := X0.oinit hexec hown (wks W (objW "java/lang/String" 1)) (g := (mkF m 1 #[.val (.ref a), .val (.ref b), .val (.int (Int32.ofNat o)), .val (.int (Int32.ofNat len)), .val .null, .unset] [.ref a])) rfl (by rw [hml]; rfl) (rest := []) rfl (hb hbytes d1) (W := 0) (by show 2 * 0 + 0 ≤ _; decide) (Nat.le_of_ble_eq_true rfl) (Nat.le_of_ble_eq_true rfl)
  have hh3 := q3.trans hh0
  have c4 : Steps p.tables e below (s₁.setTop (entryFrame m #[.ref a, .ref b, .int (Int32.ofNat o), .int (Int32.ofNat len), .null] 6)) (T3.setTop (mkF m 27 #[.val (.ref a), .val (.ref b), .val (.int (Int32.ofNat o)), .val (.int (Int32.ofNat len)), .val .null, .unset] [])) := (c2.trans (st3 _ (Steps.refl _))).trans (by
    refine XS.iloadN X3.here hexec rfl (hb hbytes d4) rfl ?_
    refine XS.ifYes X3.here hexec rfl (pc0 := 5) rfl (hb hbytes d5) rfl (i0_ne_t (nz32 (by omega) l0)) (by decide) rfl ?_
    exact Steps.refl _)
  obtain ⟨T5, X5, q5, st5⟩ := X3.sget hexec hown (wk W (.fieldLink "java/lang/String" 38 "java/lang/String" "COMPACT_STRINGS" "Z")) s1 (fun _ _ h => by rw [hh3]; exact h) (g := (mkF m 27 #[.val (.ref a), .val (.ref b), .val (.int (Int32.ofNat o)), .val (.int (Int32.ofNat len)), .val .null, .unset] [])) rfl (hb hbytes d27)
  have hh5 := q5.trans hh3
  have c6 : Steps p.tables e below (s₁.setTop (entryFrame m #[.ref a, .ref b, .int (Int32.ofNat o), .int (Int32.ofNat len), .null] 6)) (T5.setTop (mkF m 30 #[.val (.ref a), .val (.ref b), .val (.int (Int32.ofNat o)), .val (.int (Int32.ofNat len)), .val .null, .unset] [.int z])) := c4.trans (st5 _ (Steps.refl _))
  have c7 : Steps p.tables e below (s₁.setTop (entryFrame m #[.ref a, .ref b, .int (Int32.ofNat o), .int (Int32.ofNat len), .null] 6)) (T5.setTop (mkF m 36 #[.val (.ref a), .val (.ref b), .val (.int (Int32.ofNat o)), .val (.int (Int32.ofNat len)), .val .null, .unset] [.int (Int32.ofNat len), .int (Int32.ofNat o), .ref b])) := c6.trans (by
    refine XS.ifNo X5.here hexec rfl (hb hbytes d30) rfl (i0_eq_f hz) ?_
    refine XS.aloadN X5.here hexec rfl (hb hbytes d33) rfl rfl ?_
    refine XS.iloadN X5.here hexec rfl (hb hbytes d34) rfl ?_
    refine XS.iloadN X5.here hexec rfl (hb hbytes d35) rfl ?_
    exact Steps.refl _)
  obtain ⟨v8, T8, X8, E8, g8⟩ := X5.callS hexec (Cmp3.law l b A o len) hown (wks W (staticW "java/lang/String" 177 Cmp3.yN)) (wk W Cmp3.tab) (W := 0) (Nat.le_of_ble_eq_true rfl) (Nat.le_of_ble_eq_true rfl) (Nat.le_refl _) (by show 0 + len ≤ len; omega) (g := (mkF m 36 #[.val (.ref a), .val (.ref b), .val (.int (Int32.ofNat o)), .val (.int (Int32.ofNat len)), .val .null, .unset] [.int (Int32.ofNat len), .int (Int32.ofNat o), .ref b])) rfl (by rw [hml]; rfl) c7 (argsL := [.ref b, .int (Int32.ofNat o), .int (Int32.ofNat len)]) (rest := []) rfl rfl (by show 2 * 0 + 0 ≤ _; decide) (hb hbytes d36) (⟨rfl, hA.mv X5.warmed.alike hh5, l1, l2, hp⟩)
  obtain ⟨e8, z8⟩ := E8
  obtain ⟨rfl, N, n1, n2, n3, n4, n5, n6⟩ := NewArr.mv _ T5 s _ _ hh5.symm (Vm.Alike.refl _) rfl e8
  rw [hh5] at z8
  have hB1 := hB.keep X8.warmed.alike (n6 _ _ hB.1)
  have hne : s.heap.size ≠ a := (Nat.ne_of_lt (Array.getElem?_eq_some_iff.mp hB.1).1).symm
  have c9 : Steps p.tables e below (s₁.setTop (entryFrame m #[.ref a, .ref b, .int (Int32.ofNat o), .int (Int32.ofNat len), .null] 6)) (T8.setTop (mkF m 39 #[.val (.ref a), .val (.ref b), .val (.int (Int32.ofNat o)), .val (.int (Int32.ofNat len)), .val .null, .unset] [.ref s.heap.size])) := g8
  have c10 : Steps p.tables e below (s₁.setTop (entryFrame m #[.ref a, .ref b, .int (Int32.ofNat o), .int (Int32.ofNat len), .null] 6)) (T8.setTop (mkF m 45 #[.val (.ref a), .val (.ref b), .val (.int (Int32.ofNat o)), .val (.int (Int32.ofNat len)), .val .null, .val (.ref s.heap.size)] [.int (Int32.ofNat N.slots.size), .ref s.heap.size, .ref a])) := by
    have hc : Steps p.tables e below (s₁.setTop (entryFrame m #[.ref a, .ref b, .int (Int32.ofNat o), .int (Int32.ofNat len), .null] 6)) (T8.setTop (mkF m 45 #[.val (.ref a), .val (.ref b), .val (.int (Int32.ofNat o)), .val (.int (Int32.ofNat len)), .val .null, .val (.ref s.heap.size)] [.int (Int32.ofNat len), .ref s.heap.size, .ref a])) := c9.trans (by
      refine XS.astore X8.here hexec rfl (hb hbytes d39) rfl rfl rfl ?_
      refine XS.aloadN X8.here hexec rfl (hb hbytes d41) rfl rfl ?_
      refine XS.aload X8.here hexec rfl (hb hbytes d42) rfl rfl ?_
      refine XS.iloadN X8.here hexec rfl (hb hbytes d44) rfl ?_
      exact Steps.refl _)
    rw [n4]; exact hc
  obtain ⟨v11, T11, X11, E11, g11⟩ := X8.callS hexec (CodL.law l s.heap.size N) hown (wks W (staticW "java/lang/String" 47 CodL.yN)) (wk W CodL.tab) (W := 1) (Nat.le_of_ble_eq_true rfl) (Nat.le_of_ble_eq_true rfl) (Nat.le_refl _) (by show 0 + len + 0 ≤ len; omega) (g := (mkF m 45 #[.val (.ref a), .val (.ref b), .val (.int (Int32.ofNat o)), .val (.int (Int32.ofNat len)), .val .null, .val (.ref s.heap.size)] [.int (Int32.ofNat N.slots.size), .ref s.heap.size, .ref a])) rfl (by rw [hml]; rfl) c10 (argsL := [.ref s.heap.size, .int (Int32.ofNat N.slots.size)]) (rest := [.ref a]) rfl rfl (by show 2 * 0 + (1 + 0) ≤ _; decide) (hb hbytes d45) (⟨rfl, n1⟩)
  obtain ⟨rfl, q11⟩ := E11
  have hB11 := hB1.mv (X8.warmed.alike.symm.trans X11.warmed.alike) q11
  have c12 : Steps p.tables e below (s₁.setTop (entryFrame m #[.ref a, .ref b, .int (Int32.ofNat o), .int (Int32.ofNat len), .null] 6)) (T11.setTop (mkF m 48 #[.val (.ref a), .val (.ref b), .val (.int (Int32.ofNat o)), .val (.int (Int32.ofNat len)), .val .null, .val (.ref s.heap.size)] [.int 0, .ref a])) := g11
  obtain ⟨T13, X13, p13, bl13, sl13, st13⟩ := X11.finit hexec hown (wk W (.fieldLink "java/lang/String" 15 "java/lang/String" "coder" "B")) (Or.inr ⟨_, (wk W (.laysFinal "java/lang/String" "java/lang/String" "coder" "B"))⟩) (Or.inl ⟨rfl, hnm⟩) f2 (Or.inl rfl) hB11 (t := .byte) (by decide +kernel) rfl (g := (mkF m 48 #[.val (.ref a), .val (.ref b), .val (.int (Int32.ofNat o)), .val (.int (Int32.ofNat len)), .val .null, .val (.ref s.heap.size)] [.int 0, .ref a])) rfl (rest := []) rfl (hb hbytes d48)
  have c14 : Steps p.tables e below (s₁.setTop (entryFrame m #[.ref a, .ref b, .int (Int32.ofNat o), .int (Int32.ofNat len), .null] 6)) (T13.setTop (mkF m 54 #[.val (.ref a), .val (.ref b), .val (.int (Int32.ofNat o)), .val (.int (Int32.ofNat len)), .val .null, .val (.ref s.heap.size)] [.ref s.heap.size, .ref a])) := (c12.trans (st13 _ (Steps.refl _))).trans (by
    refine XS.aloadN X13.here hexec rfl (hb hbytes d51) rfl rfl ?_
    refine XS.aload X13.here hexec rfl (hb hbytes d52) rfl rfl ?_
    exact Steps.refl _)
  obtain ⟨T15, X15, p15, bl15, sl15, st15⟩ := X13.finit hexec hown (wk W (.fieldLink "java/lang/String" 9 "java/lang/String" "value" "[B")) (Or.inr ⟨_, (wk W (.laysFinal "java/lang/String" "java/lang/String" "value" "[B"))⟩) (Or.inl ⟨rfl, hnm⟩) f1 (Or.inl rfl) bl13 (t := (.array .byte)) (by decide +kernel) rfl (g := (mkF m 54 #[.val (.ref a), .val (.ref b), .val (.int (Int32.ofNat o)), .val (.int (Int32.ofNat len)), .val .null, .val (.ref s.heap.size)] [.ref s.heap.size, .ref a])) rfl (rest := []) rfl (hb hbytes d54)
  have c16 : Steps p.tables e below (s₁.setTop (entryFrame m #[.ref a, .ref b, .int (Int32.ofNat o), .int (Int32.ofNat len), .null] 6)) (T15.setTop (mkF m 57 #[.val (.ref a), .val (.ref b), .val (.int (Int32.ofNat o)), .val (.int (Int32.ofNat len)), .val .null, .val (.ref s.heap.size)] [])) := c14.trans (st15 _ (Steps.refl _))
  have ap := apart (Or.inr ⟨_, (wk W (.laysFinal "java/lang/String" "java/lang/String" "value" "[B"))⟩) (Or.inr ⟨_, (wk W (.laysFinal "java/lang/String" "java/lang/String" "coder" "B"))⟩) f1 f2 (t₁ := .array .byte) (t₂ := .byte) (by decide +kernel) (by decide +kernel) (by decide)
  have al := X8.warmed.alike.symm.trans X15.warmed.alike
  have n7 : T11.heap[s.heap.size]? = some N := by rw [q11]; exact n1.1
  exact ⟨T15, none, _, _, _, X15, by simp, rfl, by omega, (fun _ => rfl), ⟨rfl, _, N, bl15, ((Same.refl D _).set _ (by simp)).set _ (by simp), sl15, (Cell.slots_setSlot_ne _ ap).trans sl13, n1.keep al (p15.other hne (p13.other hne n7)), n2, by rw [al.findClass]; exact n3, n4, n5, fun y c h1 h2 => p15.other h1 (p13.other h1 (by rw [q11]; exact n6 y c h2)), by rw [p15.2.2, p13.2.2, q11]; exact z8⟩, fun fs hl => c16.trans (X15.returnOut hexec hret (hb hbytes d57) hl)⟩
end New4
namespace New1
def yN : MethodName := ⟨"java/lang/String", "<init>", "([C)V"⟩
abbrev yB : ByteArray := jdk_42_method_3_code
theorem d0 : decode yB 0 = .ok (.aload_n 0, 1) := by decide +kernel
theorem d1 : decode yB 1 = .ok (.aload_n 1, 1) := by decide +kernel
theorem d2 : decode yB 2 = .ok (.iconst 0, 1) := by decide +kernel
theorem d3 : decode yB 3 = .ok (.aload_n 1, 1) := by decide +kernel
theorem d4 : decode yB 4 = .ok (.arraylength, 1) := by decide +kernel
theorem d5 : decode yB 5 = .ok (.aconst_null, 1) := by decide +kernel
theorem d6 : decode yB 6 = .ok (.invokespecial 27, 3) := by decide +kernel
theorem d9 : decode yB 9 = .ok (.return_, 1) := by decide +kernel
def site : List Cond := [New4.tab] ++ initW "java/lang/String" 27 New4.yN
def tab : Cond := tabOf yN yB 2 none site
def P (a : Addr) (D : Cell) (fV fC : Field) (b : Addr) (A : Cell) (z : Int32) (args : Array Value) (s : State) : Prop := args = #[.ref a, .ref b] ∧ Blank "java/lang/String" a D s ∧ Found "java/lang/String" "value" "[B" fV s ∧ Found "java/lang/String" "coder" "B" fC s ∧ Ch b A s ∧ StaticIs s "java/lang/String" "COMPACT_STRINGS" "Z" (.int z) ∧ ¬ z = 0 ∧ 0 < A.slots.size ∧ A.slots.size ≤ 536870912 ∧ ∀ i, i < A.slots.size → ¬ 255 < cv A i
def E (a : Addr) (D : Cell) (fV fC : Field) (A : Cell) (r : Option Value) (s u : State) : Prop := Got a D fV fC A 0 A.slots.size r s u
/-- new String(chars), not empty, no char above 255: a Latin-1 String of their low bytes -/
theorem law (l : Launch) (a : Addr) (D : Cell) (fV fC : Field) (b : Addr) (A : Cell) (z : Int32) : Law l yN 2 1 3 52 yB 2 none site (P a D fV fC b A z) (E a D fV fC A) [⟨a, fC.slot⟩, ⟨a, fV.slot⟩] 1 A.slots.size := by
  refine Law.of_walk (plainFor_of_name (by decide +kernel)) (by decide +kernel) (by decide +kernel) (by decide) (fun _ _ h => by rw [h.1]; rfl) (fun _ U U' hal hh h => ⟨h.1, h.2.1.mv hal hh, h.2.2.1.al hal, h.2.2.2.1.al hal, h.2.2.2.2.1.mv hal hh, h.2.2.2.2.2.1.there hal hh, h.2.2.2.2.2.2⟩) (fun r U U' V V' h1 hal h2 h => Got.mv r U U' V V' h1 hal h2 h) ?_
  intro p e s m args below meth c s₁ X0 hexec hbytes hml hret hlk hnm hown hh0 W hP
  obtain ⟨rfl, hB, f1, f2, hA, s1, hz, l0, l2, hp⟩ := hP
  have c1 : Steps p.tables e below (s₁.setTop (entryFrame m #[.ref a, .ref b] 2)) (s₁.setTop (mkF m 0 #[.val (.ref a), .val (.ref b)] [])) := entry rfl
  have c2 : Steps p.tables e below (s₁.setTop (entryFrame m #[.ref a, .ref b] 2)) (s₁.setTop (mkF m 6 #[.val (.ref a), .val (.ref b)] [.null, .int (Int32.ofNat A.slots.size), .int 0, .ref b, .ref a])) := c1.trans (by
    refine XS.aloadN X0.here hexec rfl (hb hbytes d0) rfl rfl ?_
    refine XS.aloadN X0.here hexec rfl (hb hbytes d1) rfl rfl ?_
    refine iconstV X0.here hexec rfl 0 (hb hbytes d2) (by decide) ?_
    refine XS.aloadN X0.here hexec rfl (hb hbytes d3) rfl rfl ?_
    refine X0.alen hexec (hA.1.mv X0.warmed.alike hh0) rfl rfl (hb hbytes d4) ?_
    refine XS.aconstNull X0.here hexec rfl (hb hbytes d5) ?_
    exact Steps.refl _)
  obtain ⟨v3, T3, X3, E3, g3⟩ := X0.callN hexec (New4.law l a D fV fC b A z 0 A.slots.size) rfl hown (wks W (initW "java/lang/String" 27 New4.yN)) (W New4.tab (by simp only [site, List.mem_cons, List.mem_append, true_or, or_true])) (W := 0) (Nat.le_of_ble_eq_true rfl) (Nat.le_of_ble_eq_true rfl) (Nat.le_refl _) (by show 0 + A.slots.size ≤ A.slots.size; omega) (g := (mkF m 6 #[.val (.ref a), .val (.ref b)] [.null, .int (Int32.ofNat A.slots.size), .int (Int32.ofNat 0), .ref b, .ref a])) rfl (by rw [hml]; rfl) c2 (argsL := [.ref b, .int (Int32.ofNat 0), .int (Int32.ofNat A.slots.size), .null]) (rest := []) rfl rfl (by show 2 * 0 + 0 ≤ _; decide) (hb hbytes d6) (⟨rfl, hB.mv X0.warmed.alike hh0, f1.al X0.warmed.alike, f2.al X0.warmed.alike, hA.mv X0.warmed.alike hh0, s1.there X0.warmed.alike hh0, hz, l0, by omega, l2, fun i hi => by rw [Nat.zero_add]; exact hp i hi⟩)
  have e0 := Got.mv _ s₁ s _ _ hh0.symm (Vm.Alike.refl _) rfl E3
  obtain rfl := e0.1
  have c4 : Steps p.tables e below (s₁.setTop (entryFrame m #[.ref a, .ref b] 2)) (T3.setTop (mkF m 9 #[.val (.ref a), .val (.ref b)] [])) := g3
  exact ⟨T3, none, _, _, _, X3, by simp, rfl, by omega, (fun _ => rfl), e0, fun fs hl => c4.trans (X3.returnOut hexec hret (hb hbytes d9) hl)⟩
theorem pays {l : Launch} {R : Room} {p : Program} {e : Env} {below : List Frame} {s : State} {sargs : Array Value} {len W : Nat} (a : Addr) (D : Cell) (fV fC : Field) (b : Addr) (A : Cell) (z : Int32) (htab : tab.before sargs s = true) (hfr : 4 ≤ R.frames) (hlo : W + 65 ≤ R.locals) :
    Back l R p e below s sargs yN len W (fun A₁ a₁ => A₁.cells + 1 ≤ R.cells ∧ A₁.slots + A.slots.size ≤ R.slots ∧ P a D fV fC b A z a₁ A₁.U) (fun A₁ _ v₁ B₁ => E a D fV fC A v₁ A₁.U B₁.U ∧ B₁.locs = A₁.locs ++ [⟨a, fC.slot⟩, ⟨a, fV.slot⟩] ∧ B₁.cells = A₁.cells + 1 ∧ B₁.slots = A₁.slots + A.slots.size) :=
  (law l a D fV fC b A z).pays htab hfr (by omega)
end New1
/-- the byte, read back as charAt reads it, is the char -/
theorem lo8_mask {x : Int32} (h0 : ¬ x < 0) (h1 : ¬ 255 < x) : lo8 x &&& 255 = x := by
  have t : ∀ k : Fin 256, lo8 (Int32.ofNat k.val) &&& 255 = Int32.ofNat k.val := by decide +kernel
  rw [Int32.lt_iff_toInt_lt] at h0 h1
  have e0 : (0 : Int32).toInt = 0 := rfl
  have e1 : (255 : Int32).toInt = 255 := rfl
  obtain ⟨k, hk⟩ : ∃ k : Nat, x.toInt = k := ⟨x.toInt.toNat, by omega⟩
  have hx : x = Int32.ofNat k := Int32.toInt_inj.mp (by rw [hk, Int32.toInt_ofNat_small (by omega)])
  rw [hx]
  exact t ⟨k, by omega⟩
end StrChars
namespace StrChars.Road
open Jvm Sem ClassFile Op Lib Jvm.Stand Jvm.Free Jvm.Free.XT
open Jvm.Lib.Cold (StaticIs)
abbrev ST : String := "java/lang/String"
/-- every table word that New1's law asks, flat -/
abbrev words : List Jvm.Cond := [.code New1.yN New1.yB 2 none, .initialized ST, .methodLink ST 27 New4.yN, .instanceMethod New4.yN,
  .code New4.yN New4.yB 6 none, .fieldLink ST 38 ST "COMPACT_STRINGS" "Z", .laysFinal ST ST "value" "[B", .fieldLink ST 9 ST "value" "[B", .laysFinal ST ST "coder" "B", .fieldLink ST 15 ST "coder" "B",
  .methodLink ST 1 Lib.objectInit, .instanceMethod Lib.objectInit, .code Lib.objectInit ⟨#[0xb1]⟩ 1 none, .methodLink ST 177 Cmp3.yN, .static Cmp3.yN, .methodLink ST 47 CodL.yN, .static CodL.yN,
  .code Cmp3.yN Cmp3.yB 6 (some (.array .byte)), .initialized U16, .arrayClass .byte, .methodLink U16 115 Cmp5.yN, .static Cmp5.yN, .code Cmp5.yN Cmp5.yB 7 (some .int), .code CodL.yN CodL.yB 2 (some .byte)]
theorem tab_of {a : Array Value} {s : State} (h : ∀ w ∈ words, w.before a s = true) : New1.tab.before a s = true := by
  have h5 : Cmp5.tab.before a s = true := unparts (wk h (.code Cmp5.yN Cmp5.yB 7 (some .int))) (wks h (.initialized Cmp5.yN.cls :: Cmp5.site))
  have hc : CodL.tab.before a s = true := unparts (wk h (.code CodL.yN CodL.yB 2 (some .byte))) (wks h (.initialized CodL.yN.cls :: CodL.site))
  have q5 : ∀ w ∈ Cmp5.tab :: words, w.before a s = true := fun w hw => (List.mem_cons.mp hw).elim (fun e => e ▸ h5) (h w)
  have h3 : Cmp3.tab.before a s = true := unparts (wk q5 (.code Cmp3.yN Cmp3.yB 6 (some (.array .byte)))) (wks q5 (.initialized Cmp3.yN.cls :: Cmp3.site))
  have q3 : ∀ w ∈ Cmp3.tab :: CodL.tab :: words, w.before a s = true := fun w hw => (List.mem_cons.mp hw).elim (fun e => e ▸ h3) fun hw => (List.mem_cons.mp hw).elim (fun e => e ▸ hc) (h w)
  have h4 : New4.tab.before a s = true := unparts (wk q3 (.code New4.yN New4.yB 6 none)) (wks q3 (.initialized New4.yN.cls :: New4.site))
  have q4 : ∀ w ∈ New4.tab :: words, w.before a s = true := fun w hw => (List.mem_cons.mp hw).elim (fun e => e ▸ h4) (h w)
  exact unparts (wk q4 (.code New1.yN New1.yB 2 none)) (wks q4 (.initialized New1.yN.cls :: New1.site))
/-- the words ride from the start Z to the walk's own state -/
theorem moved {Z s : State} {a0 args : Array Value} (hZ : Z.Warmed39 s.vm) (hw : ∀ d ∈ words, d.before a0 Z = true) : ∀ d ∈ words, d.before args s = true := fun d hd => by
  have q := hw d hd
  have t : ∀ d ∈ words, d = .arrayClass .byte ∨ (d.onTables && d.keepsFace) = true := by decide +kernel
  rcases t d hd with rfl | t
  · exact RoadKit.mvA hZ q
  · exact RoadKit.mv hZ q t
/-- WHAT COMES BACK, over the tables of the start Z: h the heap at the call, h' behind it -/
def Q (Z : State) (x : Addr) (A : Cell) (h : Heap) (v : Option Value) (h' : Heap) (L : List Loc) : Prop := v = none ∧ (∀ y ∈ L, y.base = x) ∧ RoadKit.Keep h h' [x] ∧ h'.size = h.size + 1 ∧ RoadKit.Exa Z h' x ST ∧ RoadKit.Fld Z h' x ST "value" "[B" (.ref h.size) ∧ RoadKit.Fld Z h' x ST "coder" "B" (.int 0) ∧
  (∃ V : Cell, RoadKit.Arr Z h' h.size V .byte ∧ V.vm = .none ∧ Z.vm.findClass "[B" = some V.cls ∧ V.slots.size = A.slots.size ∧ ∀ j, j < A.slots.size → V.slots[j]? = some (.int (lo8 (cv A j)))) ∧
  ∀ (O n d : String) (w : Value), RoadKit.Fld Z h x O n d w → RoadKit.slotOf Z O n d ≠ RoadKit.slotOf Z ST "value" "[B" → RoadKit.slotOf Z O n d ≠ RoadKit.slotOf Z ST "coder" "B" → RoadKit.Fld Z h' x O n d w
/-- **new String(chars) AT A CALL, IN THE ROAD'S FORM**: for specialBack behind newO: x the fresh String, b the char[] with the cell A -/
theorem back {p : Program} {l : Launch} {e : Env} {R : Room} {s : State} {args : Array Value} {below : List Frame} {len W : Nat} {Z : State} {a0 : Array Value} {h : Heap} (hZ : Z.Warmed39 s.vm) (hw : ∀ d ∈ words, d.before a0 Z = true) {kI : Nat} (wi : (Jvm.Cond.instantiable ST kI).before a0 Z = true)
    {x b : Addr} {A : Cell} {z : Int32} {v0 c0 : Value} (E : RoadKit.Exa Z h x ST) (V : RoadKit.Fld Z h x ST "value" "[B" v0) (C : RoadKit.Fld Z h x ST "coder" "B" c0) (K : RoadKit.Arr Z h b A .char) (hty : Typed .char A) (S : RoadKit.Sta Z h ST "COMPACT_STRINGS" "Z" (.int z)) (hz : ¬ z = 0)
    (l0 : 0 < A.slots.size) (l2 : A.slots.size ≤ 536870912) (hp : ∀ i, i < A.slots.size → ¬ 255 < cv A i) (hfr : 4 ≤ R.frames) (hlo : W + 65 ≤ R.locals) :
    Back l R p e below s args New1.yN len W (fun P a => a = #[.ref x, .ref b] ∧ P.U.heap = h ∧ P.cells + 1 ≤ R.cells ∧ P.slots + A.slots.size ≤ R.slots)
      (fun P _ v B => ∃ L, Q Z x A h v B.U.heap L ∧ B.locs = P.locs ++ L ∧ B.cells = P.cells + 1 ∧ B.slots = P.slots + A.slots.size) := by
  intro m meth c P g ig mk a X hg hsize hdg hW hn hp'
  obtain ⟨rfl, rfl, r1, r2⟩ := hp'
  have al : Z.vm.Alike P.U.vm := hZ.alike.trans X.warmed.alike
  obtain ⟨D, cfV, kV, iV, fV, hD, gV, stV, knV, obV, asV, slV⟩ := id V
  obtain ⟨D', cfC, kC, iC, fC, hD', gC, stC, -, -, asC, slC⟩ := id C
  cases hD.symm.trans hD'
  obtain ⟨D2, kD, e1, e2, e3, e4, e5⟩ := id E
  cases hD.symm.trans e1
  obtain ⟨c2, k2, i1, i2, i3, -⟩ := Cond.instantiable_spec wi
  cases e2.symm.trans i1
  cases e3.symm.trans i2
  obtain ⟨kU, u1, u2⟩ := al.2.2 _ _ e3
  have hB : Blank ST x D P.U := ⟨hD, ⟨knV, fun q hq => by rw [hq] at obV; cases obV⟩, by rw [al.findClass]; exact e2, kU, u1, by rw [u2]; exact i3, by rw [u2]; exact e5 i3⟩
  have F1 : Found ST "value" "[B" fV P.U := ⟨SBG.found_only al ⟨cfV, kV, iV, gV⟩, stV⟩
  have F2 : Found ST "coder" "B" fC P.U := ⟨SBG.found_only al ⟨cfC, kC, iC, gC⟩, stC⟩
  have hA : Ch b A P.U := ⟨⟨K.1, State.isArrayOf_alike al K.2.1, K.2.2, by omega⟩, hty⟩
  have hS : StaticIs P.U ST "COMPACT_STRINGS" "Z" (.int z) := by
    obtain ⟨cfS, iS, kS, fS, st, cS, t1, t2, t3, t4, t5, t6, t7⟩ := S
    exact StaticIs.there (s := { Z with heap := P.U.heap }) ⟨cfS, iS, kS, fS, st, cS, t1, t2, t3, t4, t5, (fun q => by rw [q] at t6; cases t6), t7⟩ al rfl
  obtain ⟨v, B, X', ⟨⟨hv, E', V', q1, q2, q3, q4, q5, q6, q7, q8, q9, q10, q11⟩, hl, hc, hs⟩, st⟩ := New1.pays x D fV fC b A z (tab_of (moved hZ hw)) hfr hlo m meth c P g ig mk _ X hg hsize hdg hW hn ⟨r1, r2, rfl, hB, F1, F2, hA, hS, hz, l0, l2, hp⟩
  have al' : Z.vm.Alike B.U.vm := hZ.alike.trans X'.warmed.alike
  have hsz : E'.slots.size = D.slots.size := by
    obtain ⟨-, -, -, kB, w1, w2, w3⟩ := q1
    obtain ⟨kB', y1, y2⟩ := al'.2.2 _ _ e3
    rw [q2.2.1] at w1
    cases w1.symm.trans y1
    rw [w3, e5 i3, y2]
  refine ⟨v, B, X', ⟨_, ⟨hv, ?_, ⟨by omega, fun y cy hy hn' => q10 y cy (by simpa using hn') hy, fun y cy hy => ?_⟩, q11, ⟨E', _, q1.1, by rw [q2.2.1]; exact e2, by rw [q2.2.1]; exact e3, by rw [q2.1]; exact obV, fun _ => by rw [hsz]; exact e5 i3⟩,
    ⟨E', cfV, kV, iV, fV, q1.1, gV, stV, by rw [q2.1]; exact knV, by rw [q2.1]; exact obV, by rw [q2.2.1]; exact asV, q3⟩, ⟨E', cfC, kC, iC, fC, q1.1, gC, stC, by rw [q2.1]; exact knV, by rw [q2.1]; exact obV, by rw [q2.2.1]; exact asC, q4⟩,
    ⟨V', ⟨q5.1, State.isArrayOf_alike al'.symm q5.2.1, q5.2.2.1⟩, q6, by rw [← al'.findClass]; exact q7, q8, fun j hj => by have := q9 j hj; rwa [Nat.zero_add] at this⟩, fun O n d w F n1 n2 => ?_⟩, hl, hc, hs⟩, st⟩
  · intro y hy
    simp only [List.mem_cons, List.not_mem_nil, or_false] at hy
    rcases hy with rfl | rfl <;> rfl
  · by_cases q : y = x
    · subst q
      cases hD.symm.trans hy
      exact ⟨E', q1.1, q2.2.1, q2.1, hsz⟩
    · exact ⟨cy, q10 y cy q hy, rfl, rfl, rfl⟩
  · obtain ⟨D3, cf, k, i, f, g1, g2, g3, g4, g5, g6, g7⟩ := F
    cases hD.symm.trans g1
    simp only [RoadKit.slotOf, g2, gV, gC, Option.map_some, Option.getD_some] at n1 n2
    exact ⟨E', cf, k, i, f, q1.1, g2, g3, by rw [q2.1]; exact g4, by rw [q2.1]; exact g5, by rw [q2.2.1]; exact g6, by rw [q2.2.2 f.slot (by simp [n1, n2])]; exact g7⟩
end StrChars.Road
namespace StrChars.Road
open Jvm Sem ClassFile Op Lib Jvm.Stand Jvm.Free Jvm.Free.XT
/-- WHAT COMES BACK, the byte[] as a list of values -/
def QA (Z : State) (x : Addr) (zn : Int32) (cs : List Int32) (h : Heap) (v : Option Value) (h' : Heap) (L : List Loc) : Prop := v = none ∧ (∀ y ∈ L, y.base = x) ∧ RoadKit.Keep h h' [x] ∧ h'.size = h.size + 1 ∧ RoadKit.Exa Z h' x ST ∧ RoadKit.Fld Z h' x ST "value" "[B" (.ref h.size) ∧ RoadKit.Fld Z h' x ST "coder" "B" (.int 0) ∧
  (∃ kb, Z.vm.findClass "[B" = some kb ∧ RoadKit.Arv Z h' h.size kb .byte zn (cs.map fun c => .int (lo8 c)) (.int 0)) ∧
  ∀ (O n d : String) (w : Value), RoadKit.Fld Z h x O n d w → RoadKit.slotOf Z O n d ≠ RoadKit.slotOf Z ST "value" "[B" → RoadKit.slotOf Z O n d ≠ RoadKit.slotOf Z ST "coder" "B" → RoadKit.Fld Z h' x O n d w
/-- **new String(chars) AT A CALL, THE ARRAYS AS LISTS**: the char[] at b holds cs, not empty, no char above 255 -/
theorem backArv {p : Program} {l : Launch} {e : Env} {R : Room} {s : State} {args : Array Value} {below : List Frame} {len W : Nat} {Z : State} {a0 : Array Value} {h : Heap} (hZ : Z.Warmed39 s.vm) (hw : ∀ d ∈ words, d.before a0 Z = true) {kI : Nat} (wi : (Jvm.Cond.instantiable ST kI).before a0 Z = true)
    {x b : Addr} {k : ClassId} {zn z : Int32} {cs : List Int32} {dv v0 c0 : Value} (E : RoadKit.Exa Z h x ST) (V : RoadKit.Fld Z h x ST "value" "[B" v0) (C : RoadKit.Fld Z h x ST "coder" "B" c0) (K : RoadKit.Arv Z h b k .char zn (cs.map Value.int) dv) (S : RoadKit.Sta Z h ST "COMPACT_STRINGS" "Z" (.int z)) (hz : ¬ z = 0)
    (hlen : zn.toNatClampNeg = cs.length) (h0 : 0 < cs.length) (hbig : cs.length ≤ 536870912) (hall : ∀ c ∈ cs, ¬ 255 < c) (hfr : 4 ≤ R.frames) (hlo : W + 65 ≤ R.locals) :
    Back l R p e below s args New1.yN len W (fun P a => a = #[.ref x, .ref b] ∧ P.U.heap = h ∧ P.cells + 1 ≤ R.cells ∧ P.slots + cs.length ≤ R.slots)
      (fun P _ v B => ∃ L, QA Z x zn cs h v B.U.heap L ∧ B.locs = P.locs ++ L ∧ B.cells = P.cells + 1 ∧ B.slots = P.slots + cs.length) := by
  obtain ⟨A, K1, K2, K3, K4, K5, K6⟩ := K
  have e : A.slots.size = cs.length := K3.trans hlen
  have hat : ∀ (i : Nat) (hi : i < cs.length), A.slots[i]? = some (.int cs[i]) := fun i hi => by rw [K5 i (by omega)]; simp [List.getD_eq_getElem?_getD, hi]
  have hcv : ∀ (i : Nat) (hi : i < cs.length), cv A i = cs[i] := fun i hi => by unfold cv; rw [hat i hi]
  have hty : Typed .char A := fun i v hv => by
    have hi : i < A.slots.size := (Array.getElem?_eq_some_iff.mp hv).1
    have q := K5 i hi
    rw [hv] at q
    rw [Option.some.inj q]
    exact K6 i hi
  refine Back.mono (back hZ hw wi E V C K1 hty S hz (by omega) (by omega) (fun i hi => by rw [hcv i (by omega)]; exact hall _ (List.getElem_mem _)) hfr hlo) (fun P a hp => ⟨hp.1, hp.2.1, hp.2.2.1, by rw [e]; exact hp.2.2.2⟩) (fun P a v B hp hq => ?_)
  obtain ⟨L, ⟨q1, q2, q3, q4, q5, q6, q7, ⟨V', v1, v2, v3, v4, v5⟩, q9⟩, hl, hc, hs⟩ := hq
  refine ⟨L, ⟨q1, q2, q3, q4, q5, q6, q7, ⟨V'.cls, v3, V', v1, rfl, by rw [v4, e, hlen], K4, fun i hi => ?_, fun i hi => ?_⟩, q9⟩, hl, hc, by rw [hs, e]⟩
  · have hi' : i < cs.length := by omega
    rw [v5 i (by omega), hcv i hi']; simp [List.getD_eq_getElem?_getD, hi']
  · have hi' : i < cs.length := by omega
    simp only [List.getD_eq_getElem?_getD, List.getElem?_map, List.getElem?_eq_getElem hi', Option.map_some, Option.getD_some]
    exact fits_lo8 _
end StrChars.Road
namespace StrChars.Road
open Jvm Sem ClassFile Op Lib Jvm.Stand Jvm.Free Jvm.Free.XT
/-- WHAT COMES BACK, in the writer's own shape -/
def QV (Z : State) (x : Addr) (N : Int32) (bs : List Int32) (h : Heap) (n0 : Nat) (v : Option Value) (h' : Heap) (L : List Loc) : Prop := v = none ∧ RoadKit.Fr n0 L ∧ RoadKit.Keep h h' [x] ∧ RoadKit.Exa Z h' x ST ∧ RoadKit.Fld Z h' x ST "coder" "B" (.int 0) ∧
  ∃ (t : Addr) (kb : ClassId), n0 ≤ t ∧ h.size ≤ t ∧ ¬ t = x ∧ RoadKit.Fld Z h' x ST "value" "[B" (.ref t) ∧ RoadKit.Arv Z h' t kb .byte N (bs.map Value.int) (.int 0)
/-- **new String(chars) AT A CALL, FOR THE WRITER**: a char[] of n known ints, each 0 to 255 -/
theorem backV {p : Program} {l : Launch} {e : Env} {R : Room} {s : State} {args : Array Value} {below : List Frame} {len W : Nat} {Z : State} {a0 : Array Value} {h : Heap} (hZ : Z.Warmed39 s.vm) (hw : ∀ d ∈ words, d.before a0 Z = true) {kI : Nat} (wi : (Jvm.Cond.instantiable ST kI).before a0 Z = true)
    {x b : Addr} {kC : ClassId} {cs bs : List Int32} {d v0 c0 : Value} {z N : Int32} {n n0 : Nat} (hx0 : n0 ≤ x) (hh0 : n0 ≤ h.size) (E : RoadKit.Exa Z h x ST) (V : RoadKit.Fld Z h x ST "value" "[B" v0) (C : RoadKit.Fld Z h x ST "coder" "B" c0) (K : RoadKit.Arv Z h b kC .char N (cs.map Value.int) d) (S : RoadKit.Sta Z h ST "COMPACT_STRINGS" "Z" (.int z)) (hz : ¬ z = 0)
    (hn : cs.length = n) (hN : N = Int32.ofNat n) (l0 : 0 < n) (l2 : n ≤ 4000) (hp : ∀ c ∈ cs, ¬ c < 0 ∧ ¬ (255 : Int32) < c) (hb : bs = cs.map (fun c => c.toInt8.toInt32)) (hfr : 4 ≤ R.frames) (hlo : W + 65 ≤ R.locals) :
    Back l R p e below s args (⟨"java/lang/String", "<init>", "([C)V"⟩ : MethodName) len W (fun P a => a = #[.ref x, .ref b] ∧ P.U.heap = h ∧ P.cells + 1 ≤ R.cells ∧ P.slots + n ≤ R.slots)
      (fun P _ v B => ∃ L, QV Z x N bs h n0 v B.U.heap L ∧ B.locs = P.locs ++ L ∧ B.cells = P.cells + 1 ∧ B.slots = P.slots + n) := by
  subst hn hN hb
  refine Back.mono (backArv hZ hw wi E V C K S hz (n32 (by omega)) l0 (by omega) (fun c hc => (hp c hc).2) hfr hlo) (fun P a hp => hp) (fun P a v B hp hq => ?_)
  obtain ⟨L, ⟨q1, q2, q3, q4, q5, q6, q7, ⟨kb, v1, v2⟩, q9⟩, hl, hc, hs⟩ := hq
  exact ⟨L, ⟨q1, fun y hy => by rw [q2 y hy]; exact hx0, q3, q5, q7, h.size, kb, hh0, Nat.le_refl _, Nat.ne_of_gt E.lt, q6, by rw [List.map_map]; exact v2⟩, hl, hc, hs⟩
end StrChars.Road
namespace StrChars
open Jvm Sem ClassFile Op Lib Jvm.Stand Jvm.Free.XT Jvm.Free.ALB Jvm.Free.JM Jvm.Free
open Jvm.Lib.Cold (StaticIs)
def hi8 (x : Int32) : Int32 := lo8 (x >>> ((8 : Int32) &&& 31))
/-- what StringUTF16.getChar makes of two bytes -/
def pairCh (u v : Int32) : Int32 := (((u &&& 255) <<< ((0 : Int32) &&& 31)) ||| ((v &&& 255) <<< ((8 : Int32) &&& 31))).toUInt32.toUInt16.toUInt32.toInt32
theorem shr0 (c : Int32) : c >>> ((0 : Int32) &&& 31) = c := by
  have e : ((0 : Int32) &&& 31) = 0 := by decide
  rw [e]
  apply Int32.toBitVec_inj.mp
  rw [Int32.toBitVec_shiftRight]
  have e1 : ((0 : Int32).toBitVec.smod 32) = 0#32 := by decide
  rw [e1, BitVec.sshiftRight_eq']
  exact BitVec.sshiftRight_zero
theorem lo8_and (x : Int32) : (lo8 x &&& 255).toBitVec.toNat = x.toBitVec.toNat % 256 := by
  have h : (lo8 x).toBitVec = (x.toBitVec.signExtend 8).signExtend 32 := by rw [lo8, Int8.toBitVec_toInt32, Int32.toBitVec_toInt8]
  rw [Int32.toBitVec_and, BitVec.toNat_and, h]
  have e : ((x.toBitVec.signExtend 8).signExtend 32).toNat % 256 = x.toBitVec.toNat % 256 := by
    rw [BitVec.toNat_signExtend]
    have hlt := x.toBitVec.isLt
    simp only [BitVec.toNat_setWidth, BitVec.toNat_signExtend]
    split <;> split <;> omega
  rw [← e]
  exact Nat.and_two_pow_sub_one_eq_mod _ 8
theorem pair_says {c : Int32} (h0 : ¬ c < 0) (h1 : ¬ 65535 < c) : pairCh (lo8 c) (hi8 c) = c := by
  rw [Int32.lt_iff_toInt_lt] at h0 h1
  have e0 : (0 : Int32).toInt = 0 := rfl
  have e1 : (65535 : Int32).toInt = 65535 := rfl
  have hc : c.toInt = c.toBitVec.toNat := by
    have := c.toBitVec.isLt
    have e : c.toInt = c.toBitVec.toInt := rfl
    rw [e] at h0 h1
    rw [e]
    rw [BitVec.toInt_eq_toNat_cond] at h0 h1 ⊢
    split at h0 <;> split <;> omega
  have hn : c.toBitVec.toNat < 65536 := by omega
  have a1 := lo8_and c
  have a2 : (hi8 c &&& 255).toBitVec.toNat = c.toBitVec.toNat / 256 := by
    rw [hi8, lo8_and]
    have e : ((8 : Int32) &&& 31) = 8 := by decide
    rw [e, Int32.toBitVec_shiftRight]
    have e2 : ((8 : Int32).toBitVec.smod 32) = 8#32 := by decide
    rw [e2, BitVec.sshiftRight_eq', BitVec.toNat_sshiftRight_of_msb_false (by rw [BitVec.msb_eq_false_iff_two_mul_lt]; omega)]
    show c.toBitVec.toNat >>> 8 % 256 = _
    rw [Nat.shiftRight_eq_div_pow]
    omega
  unfold pairCh
  apply Int32.toBitVec_inj.mp
  apply BitVec.eq_of_toNat_eq
  have f0 : ((0 : Int32) &&& 31) = 0 := by decide
  have f8 : ((8 : Int32) &&& 31) = 8 := by decide
  rw [f0, f8]
  have g : (((lo8 c &&& 255) <<< (0 : Int32)) ||| ((hi8 c &&& 255) <<< (8 : Int32))).toBitVec.toNat = c.toBitVec.toNat := by
    rw [Int32.toBitVec_or, Int32.toBitVec_shiftLeft, Int32.toBitVec_shiftLeft]
    have s0 : ((0 : Int32).toBitVec.smod 32) = 0#32 := by decide
    have s8 : ((8 : Int32).toBitVec.smod 32) = 8#32 := by decide
    rw [s0, s8, BitVec.toNat_or]
    simp only [BitVec.shiftLeft_eq', BitVec.toNat_shiftLeft, a1, a2]
    show (c.toBitVec.toNat % 256) <<< 0 % 2 ^ 32 ||| (c.toBitVec.toNat / 256) <<< 8 % 2 ^ 32 = _
    rw [Nat.shiftLeft_zero, Nat.mod_eq_of_lt (show c.toBitVec.toNat % 256 < 2 ^ 32 by omega), Nat.mod_eq_of_lt (show (c.toBitVec.toNat / 256) <<< 8 < 2 ^ 32 by rw [Nat.shiftLeft_eq]; omega), Nat.or_comm, ← Nat.shiftLeft_add_eq_or_of_lt (by omega), Nat.shiftLeft_eq]
    omega
  show BitVec.toNat (((((lo8 c &&& 255) <<< (0 : Int32)) ||| ((hi8 c &&& 255) <<< (8 : Int32))).toBitVec.setWidth 16).setWidth 32) = _
  rw [BitVec.toNat_setWidth, BitVec.toNat_setWidth, g]
  omega
end StrChars
namespace StrChars
open Jvm Sem ClassFile Op Lib Jvm.Stand Jvm.Free.XT Jvm.Free.ALB Jvm.Free.JM Jvm.Free
open Jvm.Lib.Cold (StaticIs)
theorem shr1 {n : Nat} (h : 2 * n < 2 ^ 31) : Int32.ofNat (2 * n) >>> ((1 : Int32) &&& 31) = Int32.ofNat n := by
  have e : ((1 : Int32) &&& 31) = 1 := by decide
  rw [e]
  apply Int32.toBitVec_inj.mp
  rw [Int32.toBitVec_shiftRight]
  have e1 : ((1 : Int32).toBitVec.smod 32) = 1#32 := by decide
  have hm : (BitVec.ofNat 32 (2 * n)).toNat = 2 * n := by rw [BitVec.toNat_ofNat, Nat.mod_eq_of_lt (by omega)]
  rw [e1, BitVec.sshiftRight_eq']
  apply BitVec.eq_of_toNat_eq
  show ((BitVec.ofNat 32 (2 * n)).sshiftRight 1).toNat = (BitVec.ofNat 32 n).toNat
  rw [BitVec.toNat_sshiftRight_of_msb_false (by rw [BitVec.msb_eq_false_iff_two_mul_lt, hm]; omega), hm, BitVec.toNat_ofNat, Nat.shiftRight_eq_div_pow]
  omega
theorem narrow_ch {c : Int32} (h0 : ¬ c < 0) (h1 : ¬ 65535 < c) : narrow .char (.int c) = .int c := by
  have q : narrow .char (.int (pairCh (lo8 c) (hi8 c))) = .int (pairCh (lo8 c) (hi8 c)) := narrow_c _
  rwa [pair_says h0 h1] at q
/-- the array's cell V codes the n chars f 0 .. f (n - 1) by the coder cd, as the JDK does: coder 1 just where some char is above 255 -/
def Cod (cd : Int32) (n : Nat) (f : Nat → Int32) (V : Cell) : Prop := (cd = 0 ∧ V.slots.size = n ∧ ∀ j, j < n → V.slots[j]? = some (.int (lo8 (f j))) ∧ ¬ 255 < f j) ∨ (cd = 1 ∧ V.slots.size = 2 * n ∧ (∀ j, j < n → V.slots[2 * j]? = some (.int (lo8 (f j))) ∧ V.slots[2 * j + 1]? = some (.int (hi8 (f j)))) ∧ ∃ j, j < n ∧ 255 < f j)
theorem Cod.cd {cd : Int32} {n : Nat} {f : Nat → Int32} {V : Cell} (h : Cod cd n f V) : cd = 0 ∨ cd = 1 := h.imp (fun q => q.1) fun q => q.1
theorem Cod.len {cd : Int32} {n : Nat} {f : Nat → Int32} {V : Cell} (h : Cod cd n f V) (hs : V.slots.size < 2 ^ 31) : Int32.ofNat V.slots.size >>> (cd &&& 31) = Int32.ofNat n := by
  rcases h with ⟨rfl, h, -⟩ | ⟨rfl, h, -⟩
  · rw [shr0, h]
  · rw [h, shr1 (by omega)]
/-- **x is a String of the n chars f 0 .. f (n - 1)**, Latin-1 or UTF-16; its array at t has the cell V -/
def Txt (x t : Addr) (V : Cell) (cd : Int32) (n : Nat) (f : Nat → Int32) (U : State) : Prop := Exact "java/lang/String" x U ∧ Has x "java/lang/String" "value" "[B" (.ref t) U ∧ Has x "java/lang/String" "coder" "B" (.int cd) U ∧ XT.Arr .byte t V U ∧ Cod cd n f V ∧ ∀ j, j < n → ¬ f j < 0 ∧ ¬ 65535 < f j
theorem Txt.mv {x t : Addr} {V : Cell} {cd : Int32} {n : Nat} {f : Nat → Int32} {U U' : State} (h : Txt x t V cd n f U) (hal : U.vm.Alike U'.vm) (hh : U'.heap = U.heap) : Txt x t V cd n f U' := ⟨h.1.mv hal hh, h.2.1.mv hal hh, h.2.2.1.mv hal hh, h.2.2.2.1.mv hal hh, h.2.2.2.2⟩
namespace Cdr
def yN : MethodName := ⟨"java/lang/String", "coder", "()B"⟩
abbrev yB : ByteArray := jdk_42_method_152_code
theorem d0 : decode yB 0 = .ok (.getstatic 38, 3) := by decide +kernel
theorem d3 : decode yB 3 = .ok (.ifCond (.eq) 10, 3) := by decide +kernel
theorem d6 : decode yB 6 = .ok (.aload_n 0, 1) := by decide +kernel
theorem d7 : decode yB 7 = .ok (.getfield 15, 3) := by decide +kernel
theorem d10 : decode yB 10 = .ok (.goto 4, 3) := by decide +kernel
theorem d14 : decode yB 14 = .ok (.ireturn, 1) := by decide +kernel
def site : List Cond := [.fieldLink "java/lang/String" 38 "java/lang/String" "COMPACT_STRINGS" "Z", .fieldLink "java/lang/String" 15 "java/lang/String" "coder" "B"]
def tab : Cond := tabOf yN yB 1 (some .byte) site
def P (x : Addr) (cd z : Int32) (args : Array Value) (s : State) : Prop := args = #[.ref x] ∧ Has x "java/lang/String" "coder" "B" (.int cd) s ∧ (cd = 0 ∨ cd = 1) ∧ StaticIs s "java/lang/String" "COMPACT_STRINGS" "Z" (.int z) ∧ ¬ z = 0
def E (cd : Int32) (r : Option Value) (s u : State) : Prop := XT.PureE (some (.int cd)) r s u
theorem law (l : Launch) (x : Addr) (cd z : Int32) : Law l yN 1 0 0 0 yB 1 (some .byte) site (P x cd z) (E cd) [] 0 0 := by
  refine Law.of_walk (plainFor_of_name (by decide +kernel)) (by decide +kernel) (by decide +kernel) (by decide) (fun _ _ h => by rw [h.1]; rfl) (fun _ U U' hal hh h => ⟨h.1, h.2.1.mv hal hh, h.2.2.1, h.2.2.2.1.there hal hh, h.2.2.2.2⟩) (fun r U U' V V' h1 hal h2 h => XT.PureE.mv r U U' V V' h1 hal h2 h) ?_
  intro p e s m args below meth c s₁ X0 hexec hbytes hml hret hlk hnm hown hh0 W hP
  obtain ⟨rfl, hx, hc, s1, hz⟩ := hP
  have c1 : Steps p.tables e below (s₁.setTop (entryFrame m #[.ref x] 1)) (s₁.setTop (mkF m 0 #[.val (.ref x)] [])) := entry rfl
  obtain ⟨T2, X2, q2, st2⟩ := X0.sget hexec hown (wk W (.fieldLink "java/lang/String" 38 "java/lang/String" "COMPACT_STRINGS" "Z")) s1 (fun _ _ h => by rw [hh0]; exact h) (g := (mkF m 0 #[.val (.ref x)] [])) rfl (hb hbytes d0)
  have hh2 := q2.trans hh0
  have c3 : Steps p.tables e below (s₁.setTop (entryFrame m #[.ref x] 1)) (T2.setTop (mkF m 7 #[.val (.ref x)] [.ref x])) := (c1.trans (st2 _ (Steps.refl _))).trans (by
    refine XS.ifNo X2.here hexec rfl (hb hbytes d3) rfl (i0_eq_f hz) ?_
    refine XS.aloadN X2.here hexec rfl (hb hbytes d6) rfl rfl ?_
    exact Steps.refl _)
  obtain ⟨T4, X4, q4, st4⟩ := X2.hget hexec hown (wk W (.fieldLink "java/lang/String" 15 "java/lang/String" "coder" "B")) (hx.mv X2.warmed.alike hh2) (g := (mkF m 7 #[.val (.ref x)] [.ref x])) rfl (rest := []) rfl (hb hbytes d7)
  have c5 : Steps p.tables e below (s₁.setTop (entryFrame m #[.ref x] 1)) (T4.setTop (mkF m 14 #[.val (.ref x)] [.int cd])) := (c3.trans (st4 _ (Steps.refl _))).trans (by
    refine XS.goto X4.here hexec rfl (pc0 := 10) rfl (hb hbytes d10) (by decide) rfl ?_
    exact Steps.refl _)
  exact ⟨T4, some (.int cd), _, _, _, X4, rfl, rfl, rfl, (fun h => by cases h), ⟨rfl, q4.trans hh2⟩, fun fs hl => c5.trans (X4.ireturnOut hexec hret (by rcases hc with rfl | rfl <;> rfl) (Or.inr (Or.inr (Or.inl rfl))) (hb hbytes d14) hl)⟩
end Cdr
namespace Len
def yN : MethodName := ⟨"java/lang/String", "length", "()I"⟩
abbrev yB : ByteArray := jdk_42_method_54_code
theorem d0 : decode yB 0 = .ok (.aload_n 0, 1) := by decide +kernel
theorem d1 : decode yB 1 = .ok (.getfield 9, 3) := by decide +kernel
theorem d4 : decode yB 4 = .ok (.arraylength, 1) := by decide +kernel
theorem d5 : decode yB 5 = .ok (.aload_n 0, 1) := by decide +kernel
theorem d6 : decode yB 6 = .ok (.invokevirtual 335, 3) := by decide +kernel
theorem d9 : decode yB 9 = .ok (.ishr, 1) := by decide +kernel
theorem d10 : decode yB 10 = .ok (.ireturn, 1) := by decide +kernel
def site : List Cond := [.fieldLink "java/lang/String" 9 "java/lang/String" "value" "[B", Cdr.tab] ++ virtW "java/lang/String" 335 "java/lang/String" Cdr.yN Cdr.yN
def tab : Cond := tabOf yN yB 1 (some .int) site
def P (x t : Addr) (V : Cell) (cd : Int32) (n : Nat) (f : Nat → Int32) (z : Int32) (args : Array Value) (s : State) : Prop := args = #[.ref x] ∧ Txt x t V cd n f s ∧ StaticIs s "java/lang/String" "COMPACT_STRINGS" "Z" (.int z) ∧ ¬ z = 0
def E (n : Nat) (r : Option Value) (s u : State) : Prop := XT.PureE (some (.int (Int32.ofNat n))) r s u
/-- length() of a String of n chars, in either coding -/
theorem law (l : Launch) (x t : Addr) (V : Cell) (cd : Int32) (n : Nat) (f : Nat → Int32) (z : Int32) : Law l yN 1 0 1 13 yB 1 (some .int) site (P x t V cd n f z) (E n) [] 0 0 := by
  refine Law.of_walk (plainFor_of_name (by decide +kernel)) (by decide +kernel) (by decide +kernel) (by decide) (fun _ _ h => by rw [h.1]; rfl) (fun _ U U' hal hh h => ⟨h.1, h.2.1.mv hal hh, h.2.2.1.there hal hh, h.2.2.2⟩) (fun r U U' V V' h1 hal h2 h => XT.PureE.mv r U U' V V' h1 hal h2 h) ?_
  intro p e s m args below meth c s₁ X0 hexec hbytes hml hret hlk hnm hown hh0 W hP
  obtain ⟨rfl, hx, s1, hz⟩ := hP
  have v31 := hx.2.2.2.1.2.2.2
  have c1 : Steps p.tables e below (s₁.setTop (entryFrame m #[.ref x] 1)) (s₁.setTop (mkF m 1 #[.val (.ref x)] [.ref x])) := Steps.trans (entry rfl) (by
    show Steps p.tables e below (s₁.setTop (mkF m 0 #[.val (.ref x)] [])) _
    refine XS.aloadN X0.here hexec rfl (hb hbytes d0) rfl rfl ?_
    exact Steps.refl _)
  obtain ⟨T2, X2, q2, st2⟩ := X0.hget hexec hown (wk W (.fieldLink "java/lang/String" 9 "java/lang/String" "value" "[B")) (hx.mv X0.warmed.alike hh0).2.1 (g := (mkF m 1 #[.val (.ref x)] [.ref x])) rfl (rest := []) rfl (hb hbytes d1)
  have hh2 := q2.trans hh0
  have hx2 := hx.mv X2.warmed.alike hh2
  have c3 : Steps p.tables e below (s₁.setTop (entryFrame m #[.ref x] 1)) (T2.setTop (mkF m 6 #[.val (.ref x)] [.ref x, .int (Int32.ofNat V.slots.size)])) := (c1.trans (st2 _ (Steps.refl _))).trans (by
    refine X2.alen hexec hx2.2.2.2.1 rfl rfl (hb hbytes d4) ?_
    refine XS.aloadN X2.here hexec rfl (hb hbytes d5) rfl rfl ?_
    exact Steps.refl _)
  obtain ⟨v4, T4, X4, E4, g4⟩ := X2.callV hexec (Cdr.law l x cd z) hown (wks W (virtW "java/lang/String" 335 "java/lang/String" Cdr.yN Cdr.yN)) rfl (by decide) (wk W Cdr.tab) (W := 1) (Nat.le_of_ble_eq_true rfl) (Nat.le_of_ble_eq_true rfl) (Nat.le_refl _) (Nat.le_refl _) (hx2.1.fc X2.warmed.alike) hx2.1.is (g := (mkF m 6 #[.val (.ref x)] [.ref x, .int (Int32.ofNat V.slots.size)])) rfl (by rw [hml]; rfl) c3 (argsL := []) (rest := [.int (Int32.ofNat V.slots.size)]) rfl rfl (by show 2 * 0 + (1 + 0) ≤ _; decide) (hb hbytes d6) (⟨rfl, hx2.2.2.1, hx.2.2.2.2.1.cd, s1.there X2.warmed.alike hh2, hz⟩)
  obtain ⟨rfl, q4⟩ := E4
  have c5 : Steps p.tables e below (s₁.setTop (entryFrame m #[.ref x] 1)) (T4.setTop (mkF m 10 #[.val (.ref x)] [.int (Int32.ofNat V.slots.size >>> (cd &&& 31))])) := Steps.trans g4 (by
    refine ishr X4.here hexec rfl (hb hbytes d9) rfl ?_
    exact Steps.refl _)
  rw [hx.2.2.2.2.1.len v31] at c5
  exact ⟨T4, some (.int (Int32.ofNat n)), _, _, _, X4, rfl, rfl, rfl, (fun h => by cases h), ⟨rfl, q4.trans hh2⟩, fun fs hl => c5.trans (X4.ireturnOut hexec hret rfl (Or.inl rfl) (hb hbytes d10) hl)⟩
theorem pays {l : Launch} {R : Room} {p : Program} {e : Env} {below : List Frame} {s : State} {sargs : Array Value} {len W : Nat} (x t : Addr) (V : Cell) (cd : Int32) (n : Nat) (f : Nat → Int32) (z : Int32) (htab : tab.before sargs s = true) (hfr : 2 ≤ R.frames) (hlo : W + 25 ≤ R.locals) :
    Back l R p e below s sargs yN len W (fun A₁ a₁ => A₁.cells + 0 ≤ R.cells ∧ A₁.slots + 0 ≤ R.slots ∧ P x t V cd n f z a₁ A₁.U) (fun A₁ _ v₁ B₁ => E n v₁ A₁.U B₁.U ∧ B₁.locs = A₁.locs ++ [] ∧ B₁.cells = A₁.cells + 0 ∧ B₁.slots = A₁.slots + 0) :=
  (law l x t V cd n f z).pays htab hfr (by omega)
end Len
end StrChars
namespace StrChars.Road
open Jvm Sem ClassFile Op Lib Jvm.Stand Jvm.Free Jvm.Free.XT
open Jvm.Lib.Cold (StaticIs)
theorem consq {a : Array Value} {s : State} {c : Jvm.Cond} {L : List Jvm.Cond} (h0 : c.before a s = true) (h : ∀ w ∈ L, w.before a s = true) : ∀ w ∈ c :: L, w.before a s = true := fun w hw => (List.mem_cons.mp hw).elim (fun e => e ▸ h0) (h w)
/-- the words of String.length(), either coding -/
abbrev wordsLen : List Jvm.Cond := [.code Len.yN Len.yB 1 (some .int), .initialized ST, .fieldLink ST 9 ST "value" "[B", .fieldLink ST 38 ST "COMPACT_STRINGS" "Z", .fieldLink ST 15 ST "coder" "B", .code Cdr.yN Cdr.yB 1 (some .byte), .methodLink ST 335 Cdr.yN, .declares Cdr.yN, .selects ST Cdr.yN Cdr.yN, .instanceMethod Cdr.yN]
theorem tabLen_of {a : Array Value} {s : State} (h : ∀ w ∈ wordsLen, w.before a s = true) : Len.tab.before a s = true := by
  have hc : Cdr.tab.before a s = true := unparts (wk h (.code Cdr.yN Cdr.yB 1 (some .byte))) (wks h (.initialized Cdr.yN.cls :: Cdr.site))
  have q := consq hc h
  exact unparts (wk q (.code Len.yN Len.yB 1 (some .int))) (wks q (.initialized Len.yN.cls :: Len.site))
theorem movedLen {Z s : State} {a0 args : Array Value} (hZ : Z.Warmed39 s.vm) (hw : ∀ d ∈ wordsLen, d.before a0 Z = true) : ∀ d ∈ wordsLen, d.before args s = true := fun d hd => by
  have q := hw d hd
  have t : ∀ d ∈ wordsLen, d = .arrayClass .byte ∨ (d.onTables && d.keepsFace) = true := by decide +kernel
  rcases t d hd with rfl | t
  · exact RoadKit.mvA hZ q
  · exact RoadKit.mv hZ q t
/-- the bytes of the chars cs, low before high -/
def wideBytes : List Int32 → List Value
  | [] => []
  | c :: cs => .int (lo8 c) :: .int (hi8 c) :: wideBytes cs
theorem wide_lo (d : Value) : ∀ (cs : List Int32) (j : Nat), j < cs.length → (wideBytes cs).getD (2 * j) d = .int (lo8 (cs.getD j 0))
  | [], j, h => absurd h (Nat.not_lt_zero j)
  | c :: cs, 0, _ => rfl
  | c :: cs, j + 1, h => by
    have q := wide_lo d cs j (by simpa using h)
    rw [show 2 * (j + 1) = 2 * j + 1 + 1 from by omega]
    simpa [wideBytes] using q
theorem wide_hi (d : Value) : ∀ (cs : List Int32) (j : Nat), j < cs.length → (wideBytes cs).getD (2 * j + 1) d = .int (hi8 (cs.getD j 0))
  | [], j, h => absurd h (Nat.not_lt_zero j)
  | c :: cs, 0, _ => rfl
  | c :: cs, j + 1, h => by
    have q := wide_hi d cs j (by simpa using h)
    rw [show 2 * (j + 1) + 1 = 2 * j + 1 + 1 + 1 from by omega]
    simpa [wideBytes] using q
theorem low_at (d : Value) (cs : List Int32) (j : Nat) (h : j < cs.length) : (cs.map fun c => Value.int (lo8 c)).getD j d = .int (lo8 (cs.getD j 0)) := by
  simp [List.getD_eq_getElem?_getD, h]
/-- an array of N2 bytes vs codes the chars cs by the coder cd -/
def CodA (cs : List Int32) (cd N2 : Int32) (vs : List Value) : Prop := (cd = 0 ∧ N2 = Int32.ofNat cs.length ∧ vs = (cs.map fun c => Value.int (lo8 c)) ∧ ∀ c ∈ cs, ¬ 255 < c) ∨ (cd = 1 ∧ N2 = Int32.ofNat (2 * cs.length) ∧ vs = wideBytes cs ∧ ∃ c ∈ cs, 255 < c)
theorem CodA.cod {cs : List Int32} {cd N2 : Int32} {vs : List Value} {V : Cell} (h : CodA cs cd N2 vs) (hn : 2 * cs.length < 2 ^ 31) (hs : V.slots.size = N2.toNatClampNeg) (hv : RoadKit.Has V vs (.int 0)) : Cod cd cs.length (fun j => cs.getD j 0) V := by
  rcases h with ⟨rfl, rfl, rfl, h⟩ | ⟨rfl, rfl, rfl, c, hc, hw⟩
  · rw [n32 (by omega)] at hs
    exact Or.inl ⟨rfl, hs, fun j hj => ⟨by rw [hv j (by omega), low_at _ _ _ hj], by
      have e : cs.getD j 0 = cs[j] := by simp [List.getD_eq_getElem?_getD, hj]
      show ¬ 255 < cs.getD j 0
      rw [e]; exact h _ (List.getElem_mem _)⟩⟩
  · rw [n32 (by omega)] at hs
    obtain ⟨j, hj, rfl⟩ := List.getElem_of_mem hc
    exact Or.inr ⟨rfl, hs, fun j hj => ⟨by rw [hv _ (by omega), wide_lo _ _ _ hj], by rw [hv _ (by omega), wide_hi _ _ _ hj]⟩, j, hj, by
      have e : cs.getD j 0 = cs[j] := by simp [List.getD_eq_getElem?_getD, hj]
      show 255 < cs.getD j 0
      rw [e]; exact hw⟩
/-- an object of exactly java/lang/String, its two fields found: as the laws ask it -/
theorem strObj {Z U : State} {a0 : Array Value} {kI : Nat} (wi : (Jvm.Cond.instantiable ST kI).before a0 Z = true) (al : Z.vm.Alike U.vm) {x : Addr} {v0 c0 : Value} (E : RoadKit.Exa Z U.heap x ST) (V : RoadKit.Fld Z U.heap x ST "value" "[B" v0) (C : RoadKit.Fld Z U.heap x ST "coder" "B" c0) :
    ∃ (D : Cell) (fV fC : Field), Blank ST x D U ∧ Found ST "value" "[B" fV U ∧ Found ST "coder" "B" fC U ∧ D.slots[fV.slot]? = some v0 ∧ D.slots[fC.slot]? = some c0 ∧ RoadKit.slotOf Z ST "value" "[B" = fV.slot ∧ RoadKit.slotOf Z ST "coder" "B" = fC.slot := by
  obtain ⟨D, cfV, kV, iV, fV, hD, gV, stV, knV, obV, asV, slV⟩ := V
  obtain ⟨D', cfC, kC, iC, fC, hD', gC, stC, -, -, asC, slC⟩ := C
  cases hD.symm.trans hD'
  obtain ⟨D2, kD, e1, e2, e3, e4, e5⟩ := E
  cases hD.symm.trans e1
  obtain ⟨c2, k2, i1, i2, i3, -⟩ := Cond.instantiable_spec wi
  cases e2.symm.trans i1
  cases e3.symm.trans i2
  obtain ⟨kU, u1, u2⟩ := al.2.2 _ _ e3
  exact ⟨D, fV, fC, ⟨hD, ⟨knV, fun q hq => by rw [hq] at obV; cases obV⟩, by rw [al.findClass]; exact e2, kU, u1, by rw [u2]; exact i3, by rw [u2]; exact e5 i3⟩, ⟨SBG.found_only al ⟨cfV, kV, iV, gV⟩, stV⟩, ⟨SBG.found_only al ⟨cfC, kC, iC, gC⟩, stC⟩, slV, slC, by simp [RoadKit.slotOf, gV], by simp [RoadKit.slotOf, gC]⟩
theorem sta_is {Z U : State} (al : Z.vm.Alike U.vm) {C n d : String} {v : Value} (S : RoadKit.Sta Z U.heap C n d v) : StaticIs U C n d v := by
  obtain ⟨cfS, iS, kS, fS, st, cS, t1, t2, t3, t4, t5, t6, t7⟩ := S
  exact StaticIs.there (s := { Z with heap := U.heap }) ⟨cfS, iS, kS, fS, st, cS, t1, t2, t3, t4, t5, (fun q => by rw [q] at t6; cases t6), t7⟩ al rfl
/-- **length() OF SUCH A STRING** -/
theorem lenW {p : Program} {l : Launch} {e : Env} {R : Room} {s : State} {args : Array Value} {below : List Frame} {len W : Nat} {Z : State} {a0 : Array Value} {h : Heap} (hZ : Z.Warmed39 s.vm) (hw : ∀ d ∈ wordsLen, d.before a0 Z = true) {kI : Nat} (wi : (Jvm.Cond.instantiable ST kI).before a0 Z = true)
    {x t : Addr} {kb : ClassId} {cs : List Int32} {cd N2 z : Int32} {vs : List Value} (E : RoadKit.Exa Z h x ST) (V : RoadKit.Fld Z h x ST "value" "[B" (.ref t)) (C : RoadKit.Fld Z h x ST "coder" "B" (.int cd)) (K : RoadKit.Arv Z h t kb .byte N2 vs (.int 0)) (hc : CodA cs cd N2 vs) (hb : ∀ c ∈ cs, ¬ c < 0 ∧ ¬ (65535 : Int32) < c)
    (S : RoadKit.Sta Z h ST "COMPACT_STRINGS" "Z" (.int z)) (hz : ¬ z = 0) (l2 : cs.length ≤ 4000) (hfr : 2 ≤ R.frames) (hlo : W + 25 ≤ R.locals) :
    Back l R p e below s args (⟨"java/lang/String", "length", "()I"⟩ : MethodName) len W (fun P a => a = #[.ref x] ∧ P.U.heap = h ∧ P.cells + 0 ≤ R.cells ∧ P.slots + 0 ≤ R.slots)
      (fun P _ v B => ∃ L, (v = some (.int (Int32.ofNat cs.length)) ∧ L = [] ∧ B.U.heap = h) ∧ B.locs = P.locs ++ L ∧ B.cells = P.cells + 0 ∧ B.slots = P.slots + 0) := by
  obtain ⟨A, K1, K2, K3, K4, K5, K6⟩ := K
  have hcod := hc.cod (by omega) K3 K5
  intro m meth c P g ig mk a X hg hsize hdg hW hn hp'
  obtain ⟨rfl, rfl, r1, r2⟩ := hp'
  have al : Z.vm.Alike P.U.vm := hZ.alike.trans X.warmed.alike
  obtain ⟨D, fV, fC, hB, F1, F2, g1, g2, -, -⟩ := strObj wi al E V C
  have hx : Txt x t A cd cs.length (fun j => cs.getD j 0) P.U := ⟨⟨_, hB.2.2.1, D, hB.1, rfl, by cases q : D.vm <;> first | rfl | exact absurd q (hB.2.1.2 _)⟩, Has.of hB F1 g1, Has.of hB F2 g2, ⟨K1.1, State.isArrayOf_alike al K1.2.1, K1.2.2, by rcases hcod with ⟨-, q, -⟩ | ⟨-, q, -⟩ <;> omega⟩, hcod, fun j hj => by
    have e : cs.getD j 0 = cs[j] := by simp [List.getD_eq_getElem?_getD, hj]
    show ¬ cs.getD j 0 < 0 ∧ ¬ 65535 < cs.getD j 0
    rw [e]; exact hb _ (List.getElem_mem _)⟩
  obtain ⟨v, B, X', ⟨⟨hv, hh⟩, hl, hk, hs⟩, st⟩ := Len.pays x t A cd cs.length (fun j => cs.getD j 0) z (tabLen_of (movedLen hZ hw)) hfr hlo m meth c P g ig mk _ X hg hsize hdg hW hn ⟨r1, r2, rfl, hx, sta_is al S, hz⟩
  exact ⟨v, B, X', ⟨[], ⟨hv, rfl, hh⟩, hl, hk, hs⟩, st⟩
end StrChars.Road
namespace StrChars.Road
open Jvm Sem ClassFile Op Lib Jvm.Stand Jvm.Free Jvm.Free.XT
open Jvm.Lib.Cold (StaticIs)
/-- what backV says of its String, as the contracts of this text ask it: cs's low bytes, coder 0 -/
theorem codOf {cs : List Int32} {n : Nat} (hn : cs.length = n) (hb : ∀ c ∈ cs, ¬ 255 < c) : CodA cs 0 (Int32.ofNat n) ((cs.map lo8).map Value.int) := Or.inl ⟨rfl, by rw [hn], by simp [List.map_map, Function.comp_def], hb⟩
end StrChars.Road
end Jvm.Pilot.@@N@@
namespace Jvm.Pilot.@@N@@
open Jvm Jvm.ClassFile Sem Op Lib Jvm.Free Jvm.Stand Jvm.LawKit Jvm.RoadKit Bundle Jvm.Pilot.@@N@@.Jvm.D
def own_Go (p : Program) (e : Env) (below : List Frame) (A : State) (G : Outcome → State → Prop) : Prop := ∃ s₂ o, Steps p.tables e below A s₂ ∧ s₂.status = .running ∧ Ended s₂ below o ∧ G o s₂
theorem own_go {p : Program} {e : Env} {below : List Frame} {A B : State} {G : Outcome → State → Prop} (st : ∀ t, Steps p.tables e below B t → Steps p.tables e below A t) (k : own_Go p e below B G) : own_Go p e below A G := by
  obtain ⟨t, o, h1, h2⟩ := k
  exact ⟨t, o, st t h1, h2⟩
theorem own_gos {p : Program} {e : Env} {below : List Frame} {A B : State} {G : Outcome → State → Prop} (st : Steps p.tables e below A B) (k : own_Go p e below B G) : own_Go p e below A G := by
  obtain ⟨t, o, h1, h2⟩ := k
  exact ⟨t, o, st.trans h1, h2⟩
theorem own_fin {p : Program} {l : Launch} {e : Env} {R : Room} {s : State} {m : MethodId} {args : Array Value} {below : List Frame} {meth : Method} {c : Code} {T : State} {locs : List Loc} {cells slots : Nat} (X : Stand p l e R s m args below meth c T locs cells slots) {v : Option Value} (hv : meth.sig.returnType = none → v = none) (hl : meth.locks = false) {A : State}
    (ret : ∀ fs : List Frame, (∀ (f : JFrame) (acts : List Action), f.method = m → f.locked = none → f.entered = [] → (doReturn e (T.setTop f) acts v).1 = T.setFrames fs) → Steps p.tables e below A (T.setFrames fs)) {QQ : Option Value → Heap → List Loc → Prop} (hQ : QQ v T.heap locs) {C S : Nat} (hc : cells ≤ C) (hs : slots ≤ S) :
    own_Go p e below A (fun o U' => ∃ v L, o = .returned v ∧ QQ v U'.heap L ∧ FrameEnd s o U' L C S) := by
  obtain ⟨fs, hr, hrun, hended, hW, hsame⟩ := X.leave hv hl
  exact ⟨_, _, ret fs hr, hrun, hended, v, locs, rfl, hQ, ⟨_, rfl⟩, hW, hsame.mono hc hs⟩
theorem own_finW {p : Program} {l : Launch} {e : Env} {R : Room} {s : State} {vm1 : Vm} {m : MethodId} {args : Array Value} {below : List Frame} {meth : Method} {c : Code} {T : State} {locs : List Loc} {cells slots : Nat} (X : Stand p l e R (s.setVm vm1) m args below meth c T locs cells slots) {h0 h : Heap} (hh : s.heap = h0) {Z : State} {a0 : Array Value} (hZ : Z.Warmed39 (s.setVm vm1).vm) {n : Nat} (hS : s.Since vm1 n) (hn : n ≤ T.heap.size) {v : Option Value} (hv : meth.sig.returnType = none → v = none) (hl : meth.locks = false) {A : State}
    (ret : ∀ fs : List Frame, (∀ (f : JFrame) (acts : List Action), f.method = m → f.locked = none → f.entered = [] → (doReturn e (T.setTop f) acts v).1 = T.setFrames fs) → Steps p.tables e below A (T.setFrames fs)) {QQ : Option Value → Heap → List Loc → Prop} (hQ : QQ v T.heap locs) {EL : List (String × Nat)} (hEL : EW Z a0 EL) (eT : T.heap = h) (C : CHr Z EL s.vm h0 vm1 h) {CC SS : Nat} (hc : cells ≤ CC) (hs : slots ≤ SS) :
    own_Go p e below A (fun o U' => ∃ v L, o = .returned v ∧ QQ v U'.heap L ∧ CHr Z EL s.vm s.heap U'.vm U'.heap ∧ ReturnedEndW s o U' L CC SS) := by
  obtain ⟨fs, hr, hrun, hended, hE⟩ := X.leaveW hS hn hv hl
  have hC := C.trans (CHv.at X hZ hEL C.1)
  subst hh eT
  exact ⟨_, _, ret fs hr, hrun, hended, v, locs, rfl, hQ, hC, hE.1, hE.2.1, hE.2.2.1, hE.2.2.2.mono hc hs⟩
def own_EL : List (String × Nat) := [("java/lang/String", 7)]
theorem own_wSt {Z : State} {a0 : Array Value} (hw : ∀ d ∈ tables_1, d.before a0 Z = true) : ∀ a ∈ Bundle.stringAtoms, a.before a0 Z = true := fun d hd => hw d ((by decide +kernel : ∀ d ∈ Bundle.stringAtoms, d ∈ tables_1) d hd)
theorem own_hELt {Z : State} {a0 : Array Value} (hw : ∀ d ∈ tables_1, d.before a0 Z = true) : EW Z a0 own_EL := (EW.cons (hw _ (List.mem_of_getElem? (i := 23) rfl)) (by decide) EW.nil)
theorem own_and255 (x : Int32) : ¬ nar .char ((x &&& (255 : Int32)).toUInt32.toUInt16.toUInt32.toInt32) < 0 ∧ ¬ (255 : Int32) < nar .char ((x &&& (255 : Int32)).toUInt32.toUInt16.toUInt32.toInt32) := by
  have t : ∀ k : Fin 256, ¬ nar .char ((Int32.ofNat k.val).toUInt32.toUInt16.toUInt32.toInt32) < 0 ∧ ¬ (255 : Int32) < nar .char ((Int32.ofNat k.val).toUInt32.toUInt16.toUInt32.toInt32) := by decide +kernel
  have h : (x &&& 255).toBitVec.toNat < 256 := by
    simp only [Int32.toBitVec_and, BitVec.toNat_and]
    exact Nat.lt_succ_of_le Nat.and_le_right
  have e : (x &&& 255) = Int32.ofNat (x &&& 255).toBitVec.toNat := by
    apply Int32.toBitVec_inj.mp
    show _ = BitVec.ofNat 32 _
    rw [BitVec.ofNat_toNat]; simp
  rw [e]
  exact t ⟨_, h⟩
theorem own_up (cs : List Int32) (h : ∀ c ∈ cs, ¬ c < 0 ∧ ¬ (255 : Int32) < c) : ∀ c ∈ cs, ¬ c < 0 ∧ ¬ (65535 : Int32) < c := fun c hc => ⟨(h c hc).1, fun q => (h c hc).2 (by rw [Int32.lt_iff_toInt_lt] at q ⊢; have e1 : (65535 : Int32).toInt = 65535 := rfl; have e2 : (255 : Int32).toInt = 255 := rfl; omega)⟩
theorem own_safeNull {Z : State} {EL : List (String × Nat)} {vm : Vm} {h : Heap} {x : Addr} (hal : Z.vm.Alike vm) (E : Exa Z h x "java/lang/String") (F : Fld Z h x "java/lang/String" "value" "[B" .null) : Safe Z EL vm h x := fun B => by
  obtain ⟨cell, k, e1, e2, e3, -, -⟩ := E
  obtain ⟨cell', cf, kf, i, f, f1, f2, -, -, -, -, f7⟩ := F
  cases e1.symm.trans f1
  obtain ⟨p, -, u, a, -, q, -, G, rfl | rfl⟩ := B
  · cases (show h[q.sa]? = some q.sC from G.ha).symm.trans e1
    obtain ⟨cS, ⟨⟨s1, s2, s3, ⟨cv, kv, iv, s4, s4'⟩, -, s6, s7, s8, -⟩, -⟩, -⟩ := G
    obtain ⟨k', hf'⟩ := ff_back (U := Wst Z vm h) hal s4
    cases f2.symm.trans hf'
    rw [f7] at s8
    cases s8
  · cases (show h[q.sd]? = some q.SA from G.hd).symm.trans e1
    obtain ⟨cS, -, -, hB, -⟩ := G
    have hB : vm.findClass "[B" = some q.SA.cls := hB
    rw [hal.findClass] at hB
    obtain ⟨k1, q1, q2⟩ := Vm.findClass_spec hB
    obtain ⟨k2, q3, q4⟩ := Vm.findClass_spec e2
    cases q1.symm.trans q3
    exact absurd (q2.symm.trans q4) (by decide)
theorem own_catR {v : Value} (h : v.isRef = true) : v.category = 1 := by cases v <;> first | rfl | cases h
def QPure (r : Option Value) (h0 : Heap) (n0 : Nat) (v : Option Value) (h : Heap) (L : List Loc) : Prop := v = r ∧ Fr n0 L ∧ h = h0
theorem own_selP {Z s : State} {a0 args : Array Value} {y : MethodName} {n : Nat} (hZ : Z.Warmed39 s.vm) (wi : (Cond.instantiable y.cls n).before a0 Z = true) (wp : (Cond.privateMethod y).before a0 Z = true) (wm : (Cond.instanceMethod y).before a0 Z = true) (hy : y.cls ≠ "java/lang/invoke/MethodHandle" ∧ y.cls ≠ "java/lang/invoke/VarHandle") : (Cond.selects y.cls y y).before args s = true := by
  have wi' : (Cond.instantiable y.cls n).before args s = true := mvT hZ wi
  have wm' : (Cond.instanceMethod y).before args s = true := mvT hZ wm
  obtain ⟨c, k, h1, h2, h3, h4⟩ := Cond.instantiable_spec wi'
  refine Jvm.Stand.selects_self_of_private h1 h2 ?_ (Cond.privateMethod_at (mvP hZ wp (args := args))) wm' hy
  have h5 := h4.1
  cases hi : k.isInterface <;> simp_all
theorem own_ti {i : Nat} (h : i < 2147483648) : (Int32.ofNat i).toInt = (i : Int) := Int32.toInt_ofNat_of_lt (by omega)
theorem own_tn {i : Nat} (h : i < 2147483648) : (Int32.ofNat i).toNatClampNeg = i := by
  show (Int32.ofNat i).toInt.toNat = i
  rw [own_ti h]; rfl
theorem own_nn0 {i : Nat} (h : i < 2147483648) : ¬ Int32.ofNat i < (0 : Int32) := by
  rw [Int32.lt_iff_toInt_lt, own_ti h]
  show ¬ (i : Int) < 0
  omega
theorem own_lti {i j : Nat} (hi : i < 2147483648) (hj : j < 2147483648) : Int32.ofNat i < Int32.ofNat j ↔ i < j := by
  rw [Int32.lt_iff_toInt_lt, own_ti hi, own_ti hj]; omega
theorem own_inc (i : Nat) : Int32.ofNat i + (1 : Int32) = Int32.ofNat (i + 1) := (Int32.ofNat_add i 1).symm
theorem own_inb {i j : Nat} (hi : i < j) (hj : j < 2147483648) : ¬ Int32.ofNat i < (0 : Int32) ∧ Int32.ofNat i < Int32.ofNat j := ⟨own_nn0 (by omega), (own_lti (by omega) hj).mpr hi⟩
theorem own_shl1 {n : Nat} (h : n ≤ 4000) : Int32.ofNat n <<< ((1 : Int32) &&& 31) = Int32.ofNat (2 * n) := by
  apply Int32.toBitVec_inj.mp
  show (BitVec.ofNat 32 n) <<< ((((1 : Int32) &&& 31).toBitVec).smod 32#32) = BitVec.ofNat 32 (2 * n)
  have e : (((1 : Int32) &&& 31).toBitVec).smod 32#32 = 1#32 := by decide
  rw [e]
  apply BitVec.eq_of_toNat_eq
  rw [BitVec.shiftLeft_eq', BitVec.toNat_shiftLeft, BitVec.toNat_ofNat, BitVec.toNat_ofNat, Nat.shiftLeft_eq]
  show n % 4294967296 * 2 % 4294967296 = 2 * n % 4294967296
  omega
theorem own_nb (x : Int32) : nar .byte (x.toInt8.toInt32) = x.toInt8.toInt32 := by simp [nar]
theorem own_nc {c : Int32} (h0 : ¬ c < 0) (h1 : ¬ (65535 : Int32) < c) : nar .char c = c := by
  have h := StrChars.narrow_ch h0 h1
  exact Value.int.inj h
def own_lat (cs : List Int32) : List Value := cs.map fun c => Value.int (StrChars.lo8 c)
def own_part (cs : List Int32) (i : Nat) : List Value := own_lat (cs.take i) ++ List.replicate (cs.length - i) (Value.int (0 : Int32))
def own_wpart (cs : List Int32) (i : Nat) : List Value := StrChars.Road.wideBytes (cs.take i) ++ List.replicate (2 * (cs.length - i)) (Value.int (0 : Int32))
theorem own_gd {cs : List Int32} {i n : Nat} {d : Value} (hn : cs.length = n) (hi : i < n) (h : n < 2147483648) : (cs.map Value.int).getD (Int32.ofNat i).toNatClampNeg d = Value.int (cs.getD i 0) := by
  rw [own_tn (by omega)]
  simp [List.getD_eq_getElem?_getD, hn, hi]
theorem own_set1 {cs : List Int32} {i : Nat} (hi : i < cs.length) : (own_part cs i).set i (Value.int (StrChars.lo8 (cs.getD i 0))) = own_part cs (i + 1) := by
  apply List.ext_getElem?
  intro j
  simp only [own_part, own_lat, List.getElem?_set, List.getElem?_append, List.length_append, List.length_map, List.length_take, List.length_replicate, List.getElem?_map, List.getElem?_take, List.getElem?_replicate]
  have e : cs.getD i 0 = cs[i] := by simp [List.getD_eq_getElem?_getD, hi]
  by_cases q : i = j
  · subst q
    have h1 : i < min i cs.length + (cs.length - i) := by omega
    have h2 : i < min (i + 1) cs.length := by omega
    rw [if_pos rfl, if_pos h1, if_pos h2, if_pos (by omega), e]
    simp [hi]
  · rw [if_neg q]
    by_cases a : j < i
    · have h1 : j < min i cs.length := by omega
      have h2 : j < min (i + 1) cs.length := by omega
      rw [if_pos h1, if_pos h2, if_pos a, if_pos (by omega)]
    · have h1 : ¬ j < min i cs.length := by omega
      have h2 : ¬ j < min (i + 1) cs.length := by omega
      rw [if_neg h1, if_neg h2]
      by_cases b : j < cs.length
      · rw [if_pos (by omega), if_pos (by omega)]
      · rw [if_neg (by omega), if_neg (by omega)]
theorem own_part0 (cs : List Int32) : own_part cs 0 = List.replicate cs.length (Value.int (0 : Int32)) := by simp [own_part, own_lat]
theorem own_partn (cs : List Int32) : own_part cs cs.length = own_lat cs := by simp [own_part]
theorem own_partl {cs : List Int32} {i : Nat} (hi : i ≤ cs.length) : (own_part cs i).length = cs.length := by simp [own_part, own_lat]; omega
theorem own_wl : ∀ cs : List Int32, (StrChars.Road.wideBytes cs).length = 2 * cs.length
  | [] => rfl
  | _ :: cs => by simp [StrChars.Road.wideBytes, own_wl cs]; omega
theorem own_wa : ∀ (as bs : List Int32), StrChars.Road.wideBytes (as ++ bs) = StrChars.Road.wideBytes as ++ StrChars.Road.wideBytes bs
  | [], _ => rfl
  | a :: as, bs => by simp [StrChars.Road.wideBytes, own_wa as bs]
theorem own_set2 {cs : List Int32} {i : Nat} (hi : i < cs.length) : ((own_wpart cs i).set (2 * i) (Value.int (StrChars.lo8 (cs.getD i 0)))).set (2 * i + 1) (Value.int (StrChars.hi8 (cs.getD i 0))) = own_wpart cs (i + 1) := by
  have e : cs.take (i + 1) = cs.take i ++ [cs[i]] := by rw [List.take_succ_eq_append_getElem hi]
  have e2 : cs.getD i 0 = cs[i] := by simp [List.getD_eq_getElem?_getD, hi]
  have e3 : List.replicate (2 * (cs.length - i)) (Value.int (0 : Int32)) = Value.int 0 :: Value.int 0 :: List.replicate (2 * (cs.length - (i + 1))) (Value.int (0 : Int32)) := by
    rw [show 2 * (cs.length - i) = 2 * (cs.length - (i + 1)) + 1 + 1 by omega]; rfl
  have l : (StrChars.Road.wideBytes (cs.take i)).length = 2 * i := by rw [own_wl, List.length_take]; omega
  unfold own_wpart
  rw [e, e2, own_wa, e3, List.set_append_right _ _ (by omega), l, Nat.sub_self, List.set_cons_zero, List.set_append_right _ _ (by omega), l, show 2 * i + 1 - 2 * i = 0 + 1 by omega, List.set_cons_succ, List.set_cons_zero, List.append_assoc]
  rfl
theorem own_wpart0 (cs : List Int32) : own_wpart cs 0 = List.replicate (2 * cs.length) (Value.int (0 : Int32)) := by simp [own_wpart, StrChars.Road.wideBytes]
theorem own_wpartn (cs : List Int32) : own_wpart cs cs.length = StrChars.Road.wideBytes cs := by simp [own_wpart]
theorem own_wpartl {cs : List Int32} {i : Nat} (hi : i ≤ cs.length) : (own_wpart cs i).length = 2 * cs.length := by simp [own_wpart, own_wl]; omega
theorem own_rpl {n : Nat} : (List.replicate n (Value.int (0 : Int32))).length = n := List.length_replicate
def own_Ok (cs : List Int32) : Prop := (∀ c ∈ cs, ¬ c < 0 ∧ ¬ (65535 : Int32) < c) ∧ cs.length ≤ 4000
theorem own_Ok.at {cs : List Int32} (h : own_Ok cs) {i : Nat} (hi : i < cs.length) : ¬ cs.getD i 0 < 0 ∧ ¬ (65535 : Int32) < cs.getD i 0 := by
  have e : cs.getD i 0 = cs[i] := by simp [List.getD_eq_getElem?_getD, hi]
  rw [e]; exact h.1 _ (List.getElem_mem _)
theorem own_all {cs : List Int32} (h : ∀ j, j < cs.length → ¬ (255 : Int32) < cs.getD j 0) : ∀ c ∈ cs, ¬ (255 : Int32) < c := fun c hc => by
  obtain ⟨j, hj, rfl⟩ := List.getElem_of_mem hc
  have := h j hj
  rwa [show cs.getD j 0 = cs[j] by simp [List.getD_eq_getElem?_getD, hj]] at this
def own_cfa (n N2 : Int32) : Int32 := (((n - N2).toUInt32 >>> ((31 : Int32) &&& 31).toUInt32).toInt32).toInt8.toInt32
theorem own_cfa1 {k : Nat} (h1 : 0 < k) (h2 : k ≤ 4000) : own_cfa (Int32.ofNat k) (Int32.ofNat (2 * k)) = 1 := by
  have q : ((Int32.ofNat k - Int32.ofNat (2 * k)).toUInt32 >>> ((31 : Int32) &&& 31).toUInt32).toInt32 = 1 := by
    apply Int32.toBitVec_inj.mp
    show (BitVec.ofNat 32 k - BitVec.ofNat 32 (2 * k)) >>> ((((31 : Int32) &&& 31).toUInt32.mod 32).toBitVec) = 1#32
    have e : (((31 : Int32) &&& 31).toUInt32.mod 32).toBitVec = 31#32 := by decide
    rw [e]
    apply BitVec.eq_of_toNat_eq
    rw [BitVec.ushiftRight_eq', BitVec.toNat_ushiftRight, BitVec.toNat_sub, BitVec.toNat_ofNat, BitVec.toNat_ofNat, Nat.shiftRight_eq_div_pow]
    show (4294967296 - 2 * k % 4294967296 + k % 4294967296) % 4294967296 / 2147483648 = 1
    omega
  unfold own_cfa; rw [q]; decide
theorem own_cod {cs : List Int32} {cd N2 : Int32} {vs : List Value} (h : StrChars.Road.CodA cs cd N2 vs) (h1 : 0 < cs.length) (h2 : cs.length ≤ 4000) : own_cfa (Int32.ofNat cs.length) N2 = cd := by
  rcases h with ⟨rfl, rfl, -⟩ | ⟨rfl, rfl, -⟩
  · unfold own_cfa; rw [Int32.sub_self]; decide
  · exact own_cfa1 h1 h2
theorem own_cd01 {cs : List Int32} {cd N2 : Int32} {vs : List Value} (h : StrChars.Road.CodA cs cd N2 vs) : cd = 0 ∨ cd = 1 := h.imp (fun q => q.1) fun q => q.1
def QC5 (Z : State) (b : Addr) (kb : ClassId) (cs : List Int32) (h0 : Heap) (n0 : Nat) (v : Option Value) (h : Heap) (L : List Loc) : Prop := ∃ r : Nat, v = some (.int (Int32.ofNat r)) ∧ Fr n0 L ∧ Keep h0 h [b] ∧ ((r = cs.length ∧ (∀ c ∈ cs, ¬ (255 : Int32) < c) ∧ Arv Z h b kb .byte (Int32.ofNat cs.length) (own_lat cs) (.int (0 : Int32))) ∨ (r < cs.length ∧ (255 : Int32) < cs.getD r 0))
def QPut (Z : State) (b : Addr) (kb : ClassId) (N : Int32) (vs : List Value) (h0 : Heap) (n0 : Nat) (v : Option Value) (h : Heap) (L : List Loc) : Prop := v = none ∧ Fr n0 L ∧ Keep h0 h [b] ∧ Arv Z h b kb .byte N vs (.int (0 : Int32))
def QNew (Z : State) (N : Int32) (vs : List Value) (h0 : Heap) (n0 : Nat) (v : Option Value) (h : Heap) (L : List Loc) : Prop := ∃ (t : Addr) (k : ClassId), v = some (.ref t) ∧ Fr n0 L ∧ Keep h0 h [] ∧ h0.size ≤ t ∧ Arv Z h t k .byte N vs (.int (0 : Int32))
def QCmp (Z : State) (cs : List Int32) (h0 : Heap) (n0 : Nat) (v : Option Value) (h : Heap) (L : List Loc) : Prop := ∃ (t : Addr) (k : ClassId) (cd N2 : Int32) (vs : List Value), v = some (.ref t) ∧ Fr n0 L ∧ Keep h0 h [] ∧ h0.size ≤ t ∧ Arv Z h t k .byte N2 vs (.int (0 : Int32)) ∧ StrChars.Road.CodA cs cd N2 vs
def QSt (Z : State) (x : Addr) (cs : List Int32) (h0 : Heap) (n0 : Nat) (v : Option Value) (h : Heap) (L : List Loc) : Prop := ∃ (t : Addr) (k : ClassId) (cd N2 : Int32) (vs : List Value), v = none ∧ Fr n0 L ∧ Keep h0 h [x] ∧ Fld Z h x "java/lang/String" "value" "[B" (.ref t) ∧ Fld Z h x "java/lang/String" "coder" "B" (.int cd) ∧ Arv Z h t k .byte N2 vs (.int (0 : Int32)) ∧ StrChars.Road.CodA cs cd N2 vs
theorem own_i2c (x : Int32) : ¬ x.toUInt32.toUInt16.toUInt32.toInt32 < 0 ∧ ¬ (65535 : Int32) < x.toUInt32.toUInt16.toUInt32.toInt32 := by
  obtain ⟨u, hu⟩ : ∃ u, u = x.toUInt32.toUInt16 := ⟨_, rfl⟩
  rw [← hu]
  have h : u.toUInt32.toInt32.toInt = (u.toNat : Int) := by
    have h1 : u.toUInt32.toInt32 = Int32.ofNat u.toNat := by
      apply Int32.toBitVec_inj.mp
      apply BitVec.eq_of_toNat_eq
      have := u.toNat_lt
      show u.toUInt32.toNat = (BitVec.ofNat 32 u.toNat).toNat
      rw [UInt16.toNat_toUInt32, BitVec.toNat_ofNat]; omega
    rw [h1]; exact own_ti (by have := u.toNat_lt; omega)
  have hl := u.toNat_lt
  rw [Int32.lt_iff_toInt_lt, Int32.lt_iff_toInt_lt, h]
  have e0 : (0 : Int32).toInt = 0 := rfl
  have e1 : (65535 : Int32).toInt = 65535 := rfl
  rw [e0, e1]; omega
def own_h1 (c : Int32) : Int32 := if c < (55296 : Int32) then 0 else if c < (56320 : Int32) then 1 else 0
def own_l1 (c : Int32) : Int32 := if c < (56320 : Int32) then 0 else if c < (57344 : Int32) then 1 else 0
theorem own_h01 (c : Int32) : own_h1 c = 0 ∨ own_h1 c = 1 := by unfold own_h1; split; exact Or.inl rfl; split; exact Or.inr rfl; exact Or.inl rfl
theorem own_l01 (c : Int32) : own_l1 c = 0 ∨ own_l1 c = 1 := by unfold own_l1; split; exact Or.inl rfl; split; exact Or.inr rfl; exact Or.inl rfl
theorem own_h1n {c : Int32} (h : ¬ own_h1 c = 0) : own_h1 c = 1 := (own_h01 c).resolve_left h
theorem own_l1n {c : Int32} (h : ¬ own_l1 c = 0) : own_l1 c = 1 := (own_l01 c).resolve_left h
theorem own_10 {c : Int32} (h : c = 0) : ¬ c = 1 := by rw [h]; decide
def own_pr (cs : List Int32) (i : Nat) : Bool := decide (own_h1 (cs.getD i 0) = 1) && decide (i + 1 < cs.length) && decide (own_l1 (cs.getD (i + 1) 0) = 1)
def own_cpt (cs : List Int32) (i : Nat) : Int32 := if own_pr cs i = true then ((cs.getD i 0) <<< ((10 : Int32) &&& 31)) + cs.getD (i + 1) 0 + (-56613888 : Int32) else cs.getD i 0
def own_w (cs : List Int32) (i : Nat) : Nat := if own_pr cs i = true then 2 else 1
theorem own_pr_y {cs : List Int32} {i : Nat} (h : own_h1 (cs.getD i 0) = 1) (hl : i + 1 < cs.length) (h2 : own_l1 (cs.getD (i + 1) 0) = 1) : own_pr cs i = true := by simp only [own_pr, h, hl, h2, decide_true, Bool.and_self]
theorem own_pr_n1 {cs : List Int32} {i : Nat} (h : own_h1 (cs.getD i 0) = 0) : ¬ own_pr cs i = true := by simp only [own_pr, own_10 h, decide_false, Bool.false_and]; exact Bool.false_ne_true
theorem own_pr_n2 {cs : List Int32} {i : Nat} (h : ¬ i + 1 < cs.length) : ¬ own_pr cs i = true := by simp only [own_pr, h, decide_false, Bool.false_and, Bool.and_false]; exact Bool.false_ne_true
theorem own_pr_n3 {cs : List Int32} {i : Nat} (h : own_l1 (cs.getD (i + 1) 0) = 0) : ¬ own_pr cs i = true := by simp only [own_pr, own_10 h, decide_false, Bool.and_false]; exact Bool.false_ne_true
theorem own_pr_of {cs : List Int32} {i : Nat} (h : own_pr cs i = true) : own_h1 (cs.getD i 0) = 1 ∧ i + 1 < cs.length ∧ own_l1 (cs.getD (i + 1) 0) = 1 := by
  unfold own_pr at h
  rw [Bool.and_eq_true, Bool.and_eq_true] at h
  exact ⟨of_decide_eq_true h.1.1, of_decide_eq_true h.1.2, of_decide_eq_true h.2⟩
theorem own_w1 (cs : List Int32) (i : Nat) : 1 ≤ own_w cs i := by unfold own_w; split <;> omega
theorem own_w12 (cs : List Int32) (i : Nat) : own_w cs i = 1 ∨ own_w cs i = 2 := by unfold own_w; split <;> omega
theorem own_wle {cs : List Int32} {i : Nat} (h : i < cs.length) : i + own_w cs i ≤ cs.length := by
  unfold own_w; split
  · rename_i q; have := (own_pr_of q).2.1; omega
  · omega
def own_S : Nat → List Int32 → Nat → List Int32
  | 0, _, _ => []
  | f + 1, cs, i => if i < cs.length then own_cpt cs i :: own_S f cs (i + own_w cs i) else []
theorem own_Ss (cs : List Int32) : ∀ (f g i : Nat), cs.length - i ≤ f → cs.length - i ≤ g → own_S f cs i = own_S g cs i := by
  intro f
  induction f with
  | zero =>
    intro g i hf hg
    cases g with
    | zero => rfl
    | succ g => show [] = if i < cs.length then _ else []; rw [if_neg (by omega)]
  | succ f ih =>
    intro g i hf hg
    cases g with
    | zero => show (if i < cs.length then _ else []) = []; rw [if_neg (by omega)]
    | succ g =>
      show (if i < cs.length then own_cpt cs i :: own_S f cs (i + own_w cs i) else []) = if i < cs.length then own_cpt cs i :: own_S g cs (i + own_w cs i) else []
      have := own_w1 cs i
      by_cases q : i < cs.length
      · rw [if_pos q, if_pos q, ih g (i + own_w cs i) (by omega) (by omega)]
      · rw [if_neg q, if_neg q]
def own_T (cs : List Int32) (i : Nat) : List Int32 := own_S cs.length cs i
theorem own_T_lt {cs : List Int32} {i : Nat} (h : i < cs.length) : own_T cs i = own_cpt cs i :: own_T cs (i + own_w cs i) := by
  have := own_w1 cs i
  unfold own_T
  rw [own_Ss cs cs.length (cs.length + 1) i (by omega) (by omega)]
  show (if i < cs.length then own_cpt cs i :: own_S cs.length cs (i + own_w cs i) else []) = _
  rw [if_pos h]
theorem own_T_ge {cs : List Int32} {i : Nat} (h : ¬ i < cs.length) : own_T cs i = [] := by
  unfold own_T
  rw [own_Ss cs cs.length (cs.length + 1) i (by omega) (by omega)]
  show (if i < cs.length then own_cpt cs i :: own_S cs.length cs (i + own_w cs i) else []) = _
  rw [if_neg h]
def own_lex : List Int32 → List Int32 → Int32
  | [], [] => 0
  | [], _ :: _ => -1
  | _ :: _, [] => 1
  | a :: as, b :: bs => if a = b then own_lex as bs else if a < b then -1 else 1
def own_ic (a b : Int32) : Int32 := if a < b then -1 else if a = b then 0 else 1
def own_sg (a : Int32) : Int32 := if a < 0 then -1 else if (0 : Int32) < a then 1 else 0
def own_cc (a : Int32) : Int32 := if a < (65536 : Int32) then 1 else 2
theorem own_ofadd (a b : Nat) : Int32.ofNat a + Int32.ofNat b = Int32.ofNat (a + b) := (Int32.ofNat_add a b).symm
theorem own_ofsub {n i : Nat} (h : i ≤ n) : Int32.ofNat n - Int32.ofNat i = Int32.ofNat (n - i) := by
  have e : Int32.ofNat n = Int32.ofNat (n - i) + Int32.ofNat i := by rw [own_ofadd, Nat.sub_add_cancel h]
  rw [e, Int32.add_sub_cancel]
theorem own_toN {a : Int32} {lo hi : Nat} (h1 : ¬ a < Int32.ofNat lo) (h2 : a < Int32.ofNat (lo + hi)) (hb : lo + hi < 2147483648) : ∃ j : Fin hi, a = Int32.ofNat (lo + j.val) := by
  rw [Int32.lt_iff_toInt_lt, own_ti (by omega)] at h1 h2
  have : a.toInt.toNat - lo < hi := by omega
  refine ⟨⟨a.toInt.toNat - lo, this⟩, Int32.toInt_inj.mp ?_⟩
  rw [own_ti (by show lo + (a.toInt.toNat - lo) < _; omega)]
  show a.toInt = ((lo + (a.toInt.toNat - lo) : Nat) : Int)
  omega
theorem own_h1j {a : Int32} (h : own_h1 a = 1) : ∃ j : Fin 1024, a = Int32.ofNat (55296 + j.val) := by
  unfold own_h1 at h
  by_cases q : a < (55296 : Int32)
  · rw [if_pos q] at h; exact absurd h (by decide)
  rw [if_neg q] at h
  by_cases r : a < (56320 : Int32)
  · exact own_toN (lo := 55296) (hi := 1024) q r (by decide)
  · rw [if_neg r] at h; exact absurd h (by decide)
theorem own_l1j {a : Int32} (h : own_l1 a = 1) : ∃ j : Fin 1024, a = Int32.ofNat (56320 + j.val) := by
  unfold own_l1 at h
  by_cases q : a < (56320 : Int32)
  · rw [if_pos q] at h; exact absurd h (by decide)
  rw [if_neg q] at h
  by_cases r : a < (57344 : Int32)
  · exact own_toN (lo := 56320) (hi := 1024) q r (by decide)
  · rw [if_neg r] at h; exact absurd h (by decide)
theorem own_k1 : ∀ j : Fin 1024, (Int32.ofNat (55296 + j.val) - (55296 : Int32)) <<< ((10 : Int32) &&& 31) = Int32.ofNat (1024 * j.val) := by decide +kernel
theorem own_k2 : ∀ j : Fin 1024, Int32.ofNat (56320 + j.val) - (56320 : Int32) = Int32.ofNat j.val := by decide +kernel
theorem own_k3 : ∀ j : Fin 1024, Int32.ofNat (55296 + j.val) <<< ((10 : Int32) &&& 31) = Int32.ofNat (1024 * j.val + 56623104) := by decide +kernel
theorem own_cpval {a b : Int32} {j k : Fin 1024} (ha : a = Int32.ofNat (55296 + j.val)) (hb : b = Int32.ofNat (56320 + k.val)) : (a <<< ((10 : Int32) &&& 31)) + b + (-56613888 : Int32) = Int32.ofNat (1024 * j.val + k.val + 65536) := by
  rw [ha, hb, own_k3 j, own_ofadd]
  have e : (-56613888 : Int32) = 0 - Int32.ofNat 56613888 := by decide
  rw [e, Int32.zero_sub, ← Int32.sub_eq_add_neg, own_ofsub (by omega)]
  exact congrArg Int32.ofNat (by omega)
theorem own_cpeq {a b : Int32} (ha : own_h1 a = 1) (hb : own_l1 b = 1) : ((a - (55296 : Int32)) <<< ((10 : Int32) &&& 31)) + (b - (56320 : Int32)) + (65536 : Int32) = (a <<< ((10 : Int32) &&& 31)) + b + (-56613888 : Int32) := by
  obtain ⟨j, hj⟩ := own_h1j ha
  obtain ⟨k, hk⟩ := own_l1j hb
  rw [own_cpval hj hk, hj, hk, own_k1 j, own_k2 k]
  show Int32.ofNat (1024 * j.val) + Int32.ofNat k.val + Int32.ofNat 65536 = _
  rw [own_ofadd, own_ofadd]
theorem own_lt16 {c : Int32} (h : ¬ (65535 : Int32) < c) : c < (65536 : Int32) := by
  rw [Int32.lt_iff_toInt_lt] at h ⊢
  have e1 : (65536 : Int32).toInt = 65536 := rfl
  have e2 : (65535 : Int32).toInt = 65535 := rfl
  omega
theorem own_ccw {cs : List Int32} {i : Nat} (hok : own_Ok cs) (hi : i < cs.length) : own_cc (own_cpt cs i) = Int32.ofNat (own_w cs i) := by
  by_cases q : own_pr cs i = true
  · obtain ⟨h1, h2, h3⟩ := own_pr_of q
    obtain ⟨j, hj⟩ := own_h1j h1
    obtain ⟨k, hk⟩ := own_l1j h3
    have e : own_cpt cs i = Int32.ofNat (1024 * j.val + k.val + 65536) := by unfold own_cpt; rw [if_pos q]; exact own_cpval hj hk
    have hb : ¬ Int32.ofNat (1024 * j.val + k.val + 65536) < (65536 : Int32) := fun z => by
      have := (own_lti (i := 1024 * j.val + k.val + 65536) (j := 65536) (by omega) (by decide)).mp z
      omega
    rw [e]; unfold own_cc own_w; rw [if_neg hb, if_pos q]; rfl
  · have e : own_cpt cs i = cs.getD i 0 := by unfold own_cpt; rw [if_neg q]
    rw [e]; unfold own_cc own_w; rw [if_pos (own_lt16 (hok.at hi).2), if_neg q]; rfl
theorem own_wsame {cs ds : List Int32} {i : Nat} (h1 : own_Ok cs) (h2 : own_Ok ds) (hi : i < cs.length) (hj : i < ds.length) (e : own_cpt cs i = own_cpt ds i) : own_w ds i = own_w cs i := by
  have q := (own_ccw h1 hi).symm.trans ((congrArg own_cc e).trans (own_ccw h2 hj))
  rcases own_w12 cs i with a | a <;> rcases own_w12 ds i with b | b <;> rw [a, b] at q ⊢ <;> exact absurd q (by decide)
theorem own_stepL {cs ds : List Int32} {i : Nat} (h1 : own_Ok cs) (h2 : own_Ok ds) (hi : i < cs.length) (hj : i < ds.length) (e : own_cpt cs i = own_cpt ds i) : own_lex (own_T cs i) (own_T ds i) = own_lex (own_T cs (i + own_w cs i)) (own_T ds (i + own_w cs i)) := by
  rw [own_T_lt hi, own_T_lt hj, own_wsame h1 h2 hi hj e]
  show (if own_cpt cs i = own_cpt ds i then _ else _) = _
  rw [if_pos e]
theorem own_diffL {cs ds : List Int32} {i : Nat} (hi : i < cs.length) (hj : i < ds.length) (e : ¬ own_cpt cs i = own_cpt ds i) : own_sg (own_ic (own_cpt cs i) (own_cpt ds i)) = own_lex (own_T cs i) (own_T ds i) := by
  rw [own_T_lt hi, own_T_lt hj]
  show _ = if own_cpt cs i = own_cpt ds i then _ else if own_cpt cs i < own_cpt ds i then (-1 : Int32) else 1
  rw [if_neg e]; unfold own_ic
  by_cases q : own_cpt cs i < own_cpt ds i
  · rw [if_pos q, if_pos q]; decide
  · rw [if_neg q, if_neg q, if_neg e]; decide
theorem own_exitL {cs ds : List Int32} {i : Nat} (hl1 : cs.length ≤ 4000) (hl2 : ds.length ≤ 4000) (hi : i ≤ cs.length) (hj : i ≤ ds.length) (h : ¬ i < cs.length ∨ ¬ i < ds.length) : own_sg (own_ic (Int32.ofNat cs.length - Int32.ofNat i) (Int32.ofNat ds.length - Int32.ofNat i)) = own_lex (own_T cs i) (own_T ds i) := by
  rw [own_ofsub hi, own_ofsub hj]; unfold own_ic
  by_cases a : i < cs.length
  · have b : ¬ i < ds.length := h.resolve_left (fun q => q a)
    rw [own_T_lt a, own_T_ge b]
    have e : ds.length - i = 0 := by omega
    rw [e, if_neg (fun q => by have := (own_lti (by omega) (by omega)).mp q; omega), if_neg (fun q => by have := congrArg Int32.toInt q; rw [own_ti (by omega), own_ti (by omega)] at this; omega)]
    rfl
  · have e : cs.length - i = 0 := by omega
    rw [own_T_ge a, e]
    by_cases b : i < ds.length
    · rw [own_T_lt b, if_pos ((own_lti (by omega) (by omega)).mpr (by omega))]; rfl
    · have e2 : ds.length - i = 0 := by omega
      rw [own_T_ge b, e2, if_neg (fun q => by have := (own_lti (by omega) (by omega)).mp q; omega), if_pos rfl]; rfl
theorem own_5631 (c : Int32) : (56319 : Int32) < c ↔ ¬ c < (56320 : Int32) := by
  rw [Int32.lt_iff_toInt_lt, Int32.lt_iff_toInt_lt]
  have e1 : (56319 : Int32).toInt = 56319 := rfl
  have e2 : (56320 : Int32).toInt = 56320 := rfl
  omega
theorem own_5734 (c : Int32) : (57343 : Int32) < c ↔ ¬ c < (57344 : Int32) := by
  rw [Int32.lt_iff_toInt_lt, Int32.lt_iff_toInt_lt]
  have e1 : (57343 : Int32).toInt = 57343 := rfl
  have e2 : (57344 : Int32).toInt = 57344 := rfl
  omega
theorem own_tkg {us : List Int32} {n i : Nat} (h : i < n) : (us.take n).getD i 0 = us.getD i 0 := by simp [List.getD_eq_getElem?_getD, List.getElem?_take, h]
theorem own_lat_cpt {cs : List Int32} {i : Nat} (ha : ∀ c ∈ cs, ¬ (255 : Int32) < c) (hi : i < cs.length) : own_cpt cs i = cs.getD i 0 := by
  have hm : cs.getD i 0 ∈ cs := by rw [show cs.getD i 0 = cs[i] by simp [List.getD_eq_getElem?_getD, hi]]; exact List.getElem_mem _
  have h : own_h1 (cs.getD i 0) = 0 := by
    have q := ha _ hm
    have z : cs.getD i 0 < (55296 : Int32) := by
      rw [Int32.lt_iff_toInt_lt] at q ⊢
      have e1 : (255 : Int32).toInt = 255 := rfl
      have e2 : (55296 : Int32).toInt = 55296 := rfl
      omega
    unfold own_h1; rw [if_pos z]
  unfold own_cpt; rw [if_neg (own_pr_n1 h)]
theorem own_none : ∀ c ∈ ([] : List Int32), ¬ c < 0 ∧ ¬ (255 : Int32) < c := fun c hc => nomatch hc
theorem own_ncb (x : Int32) : ¬ nar .char x < 0 ∧ ¬ (65535 : Int32) < nar .char x := own_i2c x
def own_kd (b : Int64) : Int32 := (((b.toUInt64 >>> ((16 : Int32) &&& 0x3f).toInt64.toUInt64).toInt64) &&& (3 : Int64)).toInt32
def own_vv (b : Int64) : Int32 := (b &&& (65535 : Int64)).toInt32
def own_chv (b : Int64) : Int32 := if own_kd b = (0 : Int32) then nar .char ((own_vv b).toUInt32.toUInt16.toUInt32.toInt32) else if own_kd b = (1 : Int32) then nar .char (((55296 : Int32) ||| (own_vv b &&& (1023 : Int32))).toUInt32.toUInt16.toUInt32.toInt32) else if own_kd b = (2 : Int32) then nar .char (((56320 : Int32) ||| (own_vv b &&& (1023 : Int32))).toUInt32.toUInt16.toUInt32.toInt32) else nar .char (((57344 : Int32) ||| (own_vv b &&& (8191 : Int32))).toUInt32.toUInt16.toUInt32.toInt32)
theorem own_chvB (b : Int64) : ¬ own_chv b < 0 ∧ ¬ (65535 : Int32) < own_chv b := by
  unfold own_chv; split
  · exact own_ncb _
  split
  · exact own_ncb _
  split
  · exact own_ncb _
  · exact own_ncb _
theorem own_and3 (v : Int64) : ∃ n : Nat, n ≤ 3 ∧ (v &&& (3 : Int64)).toInt32 = Int32.ofNat n := by
  have t : ∀ k : Fin 4, (Int64.ofNat k.val).toInt32 = Int32.ofNat k.val := by decide
  have h : (v &&& 3).toBitVec.toNat < 4 := by
    simp only [Int64.toBitVec_and, BitVec.toNat_and]
    exact Nat.lt_succ_of_le Nat.and_le_right
  have e : (v &&& 3) = Int64.ofNat (v &&& 3).toBitVec.toNat := by
    apply Int64.toBitVec_inj.mp
    show _ = BitVec.ofNat 64 _
    rw [BitVec.ofNat_toNat]; simp
  refine ⟨(v &&& 3).toBitVec.toNat, by omega, ?_⟩
  exact (congrArg Int64.toInt32 e).trans (t ⟨_, h⟩)
theorem own_cod0 : StrChars.Road.CodA ([] : List Int32) 0 0 [] := Or.inl ⟨rfl, rfl, rfl, fun c hc => nomatch hc⟩
theorem own_okT {c0 c1 c2 : Int32} {n : Nat} (b0 : ¬ c0 < 0 ∧ ¬ (65535 : Int32) < c0) (b1 : ¬ c1 < 0 ∧ ¬ (65535 : Int32) < c1) (b2 : ¬ c2 < 0 ∧ ¬ (65535 : Int32) < c2) : own_Ok (([c0, c1, c2] : List Int32).take n) := ⟨fun c hc => by
  have q := List.mem_of_mem_take hc
  simp only [List.mem_cons, List.not_mem_nil, or_false] at q
  rcases q with rfl | rfl | rfl <;> assumption, by rw [List.length_take]; have : min n ([c0, c1, c2] : List Int32).length ≤ 3 := Nat.min_le_right _ _; omega⟩
theorem own_tkl {c0 c1 c2 : Int32} {n : Nat} (h : n ≤ 3) : (([c0, c1, c2] : List Int32).take n).length = n := by rw [List.length_take]; exact Nat.min_eq_left h
def own_prI (cs : List Int32) (i : Nat) : Int32 := if own_pr cs i = true then 1 else 0
theorem own_prIy {cs : List Int32} {i : Nat} (h : ¬ own_prI cs i = 0) : own_pr cs i = true := by
  by_cases q : own_pr cs i = true
  · exact q
  · exact absurd (by unfold own_prI; rw [if_neg q]) h
theorem own_prIn {cs : List Int32} {i : Nat} (h : own_prI cs i = 0) : ¬ own_pr cs i = true := fun q => by
  unfold own_prI at h; rw [if_pos q] at h; exact absurd h (by decide)
theorem own_prI1 {cs : List Int32} {i : Nat} (q : own_pr cs i = true) : (1 : Int32) = own_prI cs i := by unfold own_prI; rw [if_pos q]
theorem own_prI0 {cs : List Int32} {i : Nat} (q : ¬ own_pr cs i = true) : (0 : Int32) = own_prI cs i := by unfold own_prI; rw [if_neg q]
theorem own_cpy {cs : List Int32} {i : Nat} (h : ¬ own_prI cs i = 0) : ((cs.getD i 0 - (55296 : Int32)) <<< ((10 : Int32) &&& 31)) + (cs.getD (i + 1) 0 - (56320 : Int32)) + (65536 : Int32) = own_cpt cs i := by
  have q := own_prIy h
  rw [own_cpeq (own_pr_of q).1 (own_pr_of q).2.2]; unfold own_cpt; rw [if_pos q]
theorem own_cpn {cs : List Int32} {i : Nat} (h : ¬ own_pr cs i = true) : cs.getD i 0 = own_cpt cs i := by unfold own_cpt; rw [if_neg h]
theorem own_cpj {cs : List Int32} {i : Nat} (h : own_pr cs i = true) : ((cs.getD i 0) <<< ((10 : Int32) &&& 31)) + cs.getD (i + 1) 0 + (-56613888 : Int32) = own_cpt cs i := by unfold own_cpt; rw [if_pos h]
theorem own_wdy {cs : List Int32} {i : Nat} (h : ¬ own_prI cs i = 0) : (2 : Int32) = Int32.ofNat (own_w cs i) := by unfold own_w; rw [if_pos (own_prIy h)]; rfl
theorem own_wdn {cs : List Int32} {i : Nat} (h : own_prI cs i = 0) : (1 : Int32) = Int32.ofNat (own_w cs i) := by unfold own_w; rw [if_neg (own_prIn h)]; rfl
theorem own_T_step {cs : List Int32} {i j w : Nat} {rs : List Int32} (h : i < cs.length) (q : own_w cs i = w) (e : i + w = j) (t : own_T cs j = rs) : own_T cs i = own_cpt cs i :: rs := by rw [own_T_lt h, q, e, t]
def own_pad (rs : List Int32) : List Int32 := rs ++ List.replicate (3 - rs.length) 0
theorem own_l3 : ∀ {rs : List Int32}, rs.length ≤ 3 → rs = [] ∨ (∃ a, rs = [a]) ∨ (∃ a b, rs = [a, b]) ∨ ∃ a b c, rs = [a, b, c]
  | [], _ => Or.inl rfl
  | [a], _ => Or.inr (Or.inl ⟨a, rfl⟩)
  | [a, b], _ => Or.inr (Or.inr (Or.inl ⟨a, b, rfl⟩))
  | [a, b, c], _ => Or.inr (Or.inr (Or.inr ⟨a, b, c, rfl⟩))
  | _ :: _ :: _ :: _ :: _, h => by simp at h
theorem own_lexE {a b r : Int32} {as bs : List Int32} (h : a = b) (t : r = own_lex as bs) : r = own_lex (a :: as) (b :: bs) := by show r = if a = b then _ else _; rw [if_pos h]; exact t
theorem own_lexL {a b : Int32} {as bs : List Int32} (h : ¬ a = b) (l : a < b) : (-1 : Int32) = own_lex (a :: as) (b :: bs) := by show _ = if a = b then _ else if a < b then (-1 : Int32) else 1; rw [if_neg h, if_pos l]
theorem own_lexG {a b : Int32} {as bs : List Int32} (h : ¬ a = b) (l : ¬ a < b) : (1 : Int32) = own_lex (a :: as) (b :: bs) := by show _ = if a = b then _ else if a < b then (-1 : Int32) else 1; rw [if_neg h, if_neg l]
def QCp (cs ds : List Int32) (h0 : Heap) (n0 : Nat) (v : Option Value) (h : Heap) (L : List Loc) : Prop := ∃ r : Int32, v = some (.int r) ∧ Fr n0 L ∧ h = h0 ∧ own_sg r = own_lex (own_T cs 0) (own_T ds 0)
def QMk (Z : State) (cs : List Int32) (h0 : Heap) (n0 : Nat) (v : Option Value) (h : Heap) (L : List Loc) : Prop := ∃ (x t : Addr) (k : ClassId) (cd N2 : Int32) (vs : List Value), v = some (.ref x) ∧ Fr n0 L ∧ Keep h0 h [] ∧ h0.size ≤ x ∧ Exa Z h x "java/lang/String" ∧ Fld Z h x "java/lang/String" "value" "[B" (.ref t) ∧ Fld Z h x "java/lang/String" "coder" "B" (.int cd) ∧ Arv Z h t k .byte N2 vs (.int (0 : Int32)) ∧ StrChars.Road.CodA cs cd N2 vs
def QDec (Z : State) (o : Addr) (ko : ClassId) (cs : List Int32) (h0 : Heap) (n0 : Nat) (v : Option Value) (h : Heap) (L : List Loc) : Prop := ∃ rs : List Int32, rs = own_T cs 0 ∧ v = some (.int (Int32.ofNat rs.length)) ∧ Fr n0 L ∧ Keep h0 h [o] ∧ rs.length ≤ 3 ∧ Arv Z h o ko .int (3 : Int32) ((own_pad rs).map Value.int) (.int (0 : Int32))
def QQ0 (n0 : Nat) (v : Option Value) (h : Heap) (L : List Loc) : Prop := v = some (.int 1) ∧ Fr n0 L
def own_cq (rs ss : List Int32) : Int32 :=
  if Int32.ofNat rs.length = (0 : Int32) then own_sg (Int32.ofNat rs.length - Int32.ofNat ss.length) else if Int32.ofNat ss.length = (0 : Int32) then own_sg (Int32.ofNat rs.length - Int32.ofNat ss.length) else
  if (own_pad rs).getD 0 0 = (own_pad ss).getD 0 0 then
    (if Int32.ofNat rs.length = (1 : Int32) then own_sg (Int32.ofNat rs.length - Int32.ofNat ss.length) else if Int32.ofNat ss.length = (1 : Int32) then own_sg (Int32.ofNat rs.length - Int32.ofNat ss.length) else
    if (own_pad rs).getD 1 0 = (own_pad ss).getD 1 0 then
      (if Int32.ofNat rs.length = (2 : Int32) then own_sg (Int32.ofNat rs.length - Int32.ofNat ss.length) else if Int32.ofNat ss.length = (2 : Int32) then own_sg (Int32.ofNat rs.length - Int32.ofNat ss.length) else
      if (own_pad rs).getD 2 0 = (own_pad ss).getD 2 0 then 0 else if (own_pad rs).getD 2 0 < (own_pad ss).getD 2 0 then -1 else 1)
    else if (own_pad rs).getD 1 0 < (own_pad ss).getD 1 0 then -1 else 1)
  else if (own_pad rs).getD 0 0 < (own_pad ss).getD 0 0 then -1 else 1
theorem own_01 : ¬ (0 : Int32) = 1 := by decide
theorem own_sgs : own_sg ((0 : Int32) - 0) = 0 ∧ own_sg ((0 : Int32) - 1) = -1 ∧ own_sg ((0 : Int32) - 2) = -1 ∧ own_sg ((0 : Int32) - 3) = -1 ∧ own_sg ((1 : Int32) - 0) = 1 ∧ own_sg ((1 : Int32) - 1) = 0 ∧ own_sg ((1 : Int32) - 2) = -1 ∧ own_sg ((1 : Int32) - 3) = -1 ∧ own_sg ((2 : Int32) - 0) = 1 ∧ own_sg ((2 : Int32) - 1) = 1 ∧ own_sg ((2 : Int32) - 2) = 0 ∧ own_sg ((2 : Int32) - 3) = -1 ∧ own_sg ((3 : Int32) - 0) = 1 ∧ own_sg ((3 : Int32) - 1) = 1 ∧ own_sg ((3 : Int32) - 2) = 1 ∧ own_sg ((3 : Int32) - 3) = 0 := by decide
theorem own_cq_lex {rs ss : List Int32} (hr : rs.length ≤ 3) (hs : ss.length ≤ 3) : own_cq rs ss = own_lex rs ss := by
  obtain ⟨s00, s01, s02, s03, s10, s11, s12, s13, s20, s21, s22, s23, s30, s31, s32, s33⟩ := own_sgs
  have n10 : ¬ (1 : Int32) = 0 := by decide
  have n20 : ¬ (2 : Int32) = 0 := by decide
  have n30 : ¬ (3 : Int32) = 0 := by decide
  have n21 : ¬ (2 : Int32) = 1 := by decide
  have n31 : ¬ (3 : Int32) = 1 := by decide
  have n32 : ¬ (3 : Int32) = 2 := by decide
  have l0 : Int32.ofNat 0 = 0 := rfl
  have l1 : Int32.ofNat 1 = 1 := rfl
  have l2 : Int32.ofNat 2 = 2 := rfl
  have l3 : Int32.ofNat 3 = 3 := rfl
  have k0 : ([] : List Int32).length = 0 := rfl
  have k1 : ∀ a : Int32, [a].length = 1 := fun _ => rfl
  have k2 : ∀ a b : Int32, [a, b].length = 2 := fun _ _ => rfl
  have k3 : ∀ a b c : Int32, [a, b, c].length = 3 := fun _ _ _ => rfl
  have p1 : ∀ a : Int32, own_pad [a] = [a, 0, 0] := fun _ => rfl
  have p2 : ∀ a b : Int32, own_pad [a, b] = [a, b, 0] := fun _ _ => rfl
  have p3 : ∀ a b c : Int32, own_pad [a, b, c] = [a, b, c] := fun _ _ _ => rfl
  have g0 : ∀ a b c : Int32, [a, b, c].getD 0 0 = a := fun _ _ _ => rfl
  have g1 : ∀ a b c : Int32, [a, b, c].getD 1 0 = b := fun _ _ _ => rfl
  have g2 : ∀ a b c : Int32, [a, b, c].getD 2 0 = c := fun _ _ _ => rfl
  unfold own_cq
  rcases own_l3 hr with rfl | ⟨a0, rfl⟩ | ⟨a0, a1, rfl⟩ | ⟨a0, a1, a2, rfl⟩ <;> rcases own_l3 hs with rfl | ⟨b0, rfl⟩ | ⟨b0, b1, rfl⟩ | ⟨b0, b1, b2, rfl⟩ <;> simp only [k0, k1, k2, k3, l0, l1, l2, l3, p1, p2, p3, g0, g1, g2, s00, s01, s02, s03, s10, s11, s12, s13, s20, s21, s22, s23, s30, s31, s32, s33, n10, n20, n30, n21, n31, n32, if_true, if_false, own_lex]
theorem own_wl1 {cs : List Int32} {i : Nat} (h : ¬ i + 1 < cs.length) : own_w cs i = 1 := by unfold own_w; rw [if_neg (own_pr_n2 h)]
theorem own_okL0  : own_Ok ([] : List Int32) := ⟨fun c hc => by simp only [List.mem_cons, List.not_mem_nil, or_false] at hc, Nat.le_of_ble_eq_true rfl⟩
theorem own_okL1 {c0 : Int32} (b_c0 : ¬ c0 < 0 ∧ ¬ (65535 : Int32) < c0) : own_Ok ([c0] : List Int32) := ⟨fun c hc => by simp only [List.mem_cons, List.not_mem_nil, or_false] at hc; rcases hc with rfl <;> assumption, Nat.le_of_ble_eq_true rfl⟩
theorem own_okL2 {c0 c1 : Int32} (b_c0 : ¬ c0 < 0 ∧ ¬ (65535 : Int32) < c0) (b_c1 : ¬ c1 < 0 ∧ ¬ (65535 : Int32) < c1) : own_Ok ([c0, c1] : List Int32) := ⟨fun c hc => by simp only [List.mem_cons, List.not_mem_nil, or_false] at hc; rcases hc with rfl | rfl <;> assumption, Nat.le_of_ble_eq_true rfl⟩
theorem own_okL3 {c0 c1 c2 : Int32} (b_c0 : ¬ c0 < 0 ∧ ¬ (65535 : Int32) < c0) (b_c1 : ¬ c1 < 0 ∧ ¬ (65535 : Int32) < c1) (b_c2 : ¬ c2 < 0 ∧ ¬ (65535 : Int32) < c2) : own_Ok ([c0, c1, c2] : List Int32) := ⟨fun c hc => by simp only [List.mem_cons, List.not_mem_nil, or_false] at hc; rcases hc with rfl | rfl | rfl <;> assumption, Nat.le_of_ble_eq_true rfl⟩
def QE0 (Z : State) (a1 : Addr) (h0 : Heap) (n0 : Nat) (v : Option Value) (h : Heap) (L : List Loc) : Prop := ∃ (t : Addr) (k : ClassId), v = none ∧ Fr n0 L ∧ Keep h0 h [a1] ∧ Fld Z h a1 "java/lang/String" "value" "[B" (.ref t) ∧ Fld Z h a1 "java/lang/String" "coder" "B" (.int (0 : Int32)) ∧ Arv Z h t k .byte (0 : Int32) [] (.int (0 : Int32))
theorem d_jdk_42_m149_0 : decode jdk_42_method_149_code 0 = .ok (.aload_n 0, 1) := by decide +kernel
theorem d_jdk_42_m149_1 : decode jdk_42_method_149_code 1 = .ok (.invokespecial 1, 3) := by decide +kernel
theorem d_jdk_42_m149_4 : decode jdk_42_method_149_code 4 = .ok (.iload_n 3, 1) := by decide +kernel
theorem d_jdk_42_m149_5 : decode jdk_42_method_149_code 5 = .ok (.ifCond .ne 22, 3) := by decide +kernel
theorem d_jdk_42_m149_8 : decode jdk_42_method_149_code 8 = .ok (.aload_n 0, 1) := by decide +kernel
theorem d_jdk_42_m149_9 : decode jdk_42_method_149_code 9 = .ok (.ldc 7, 2) := by decide +kernel
theorem d_jdk_42_m149_11 : decode jdk_42_method_149_code 11 = .ok (.getfield 9, 3) := by decide +kernel
theorem d_jdk_42_m149_14 : decode jdk_42_method_149_code 14 = .ok (.putfield 9, 3) := by decide +kernel
theorem d_jdk_42_m149_17 : decode jdk_42_method_149_code 17 = .ok (.aload_n 0, 1) := by decide +kernel
theorem d_jdk_42_m149_18 : decode jdk_42_method_149_code 18 = .ok (.ldc 7, 2) := by decide +kernel
theorem d_jdk_42_m149_20 : decode jdk_42_method_149_code 20 = .ok (.getfield 15, 3) := by decide +kernel
theorem d_jdk_42_m149_23 : decode jdk_42_method_149_code 23 = .ok (.putfield 15, 3) := by decide +kernel
theorem d_jdk_42_m149_26 : decode jdk_42_method_149_code 26 = .ok (.return_, 1) := by decide +kernel
theorem pn_0 : plainName "java/lang/String" = true := by first | (simp [plainName, overriddenIn]; done) | decide +kernel
theorem ef_rm_i4e (m : MethodId) (x0 : Addr) (x1 : Addr) (x2 : Int32) (x3 : Int32) : entryFrame m #[(.ref x0), (.ref x1), (.int x2), (.int x3), .null] 6 = mkF m 0 #[.val (.ref x0), .val (.ref x1), .val (.int x2), .val (.int x3), .val .null, .unset] [] := by
   first | (simp [entryFrame, mkF, argsToLocals, Value.category]; done) | rfl
set_option maxRecDepth 65536 in
set_option maxHeartbeats 40000000 in
theorem rm_i4e (l : Launch) (Z : State) (a0 : Array Value) (hw : ∀ d ∈ tables_1, d.before a0 Z = true) (ws : List Jvm.Cond) (a1 : Addr) (a2 : Addr) (h0 : Heap) (n0 : Nat) (O0 : Old Z n0 h0) (E_a : Exa Z h0 a1 "java/lang/String") (F_v : Fld Z h0 a1 "java/lang/String" "value" "[B" .null) (F_c : Fld Z h0 a1 "java/lang/String" "coder" "B" (.int (0 : Int32))) (g_a : n0 ≤ a1) :
    MetFree l (⟨"java/lang/String", "<init>", "([CIILjava/lang/Void;)V"⟩ : MethodName) (head1 (Jvm.Cond.code (⟨"java/lang/String", "<init>", "([CIILjava/lang/Void;)V"⟩ : MethodName) jdk_42_method_149_code 6 none :: ws) ({ frames := 1, cells := 4, slots := 8, locals := 12 } : Room)) (fun aA U => aA = #[(.ref a1), (.ref a2), (.int (0 : Int32)), (.int (0 : Int32)), .null] ∧ Z.Warmed39 U.vm ∧ U.heap = h0 ∧ CHv Z own_EL U.vm h0) (fun _ _ _ _ _ => True) (fun _ U oO U' => ∃ rV rL, oO = .returned rV ∧ QE0 Z a1 h0 n0 rV U'.heap rL ∧ CHr Z own_EL U.vm U.heap U'.vm U'.heap ∧ ReturnedEndW U oO U' rL 4 8) := by
  refine MetFree.of_bodySF (plainFor_of_name pn_0) hisR ?_
  intro p e s m args below meth cC s₁ Bd hml0 hP hK
  obtain ⟨rfl, hZ, hh, hC0⟩ := hP
  have hx := Bd.exec
  have hby := Bd.bytes
  have hml : cC.maxLocals = 6 := hml0
  have hown : s.vm.findClass "java/lang/String" = some m.cls := findClass_of_methodNamed Bd.named
  have hnm := (name_of_methodNamed Bd.named Bd.method).1
  have hrt := Bd.returns
  have hlk : meth.locks = false := Bd.notSynchronized
  have X0 : Stand p l e ({ frames := 1, cells := 4, slots := 8, locals := 12 } : Room) (s.setVm s.vm) m #[(.ref a1), (.ref a2), (.int (0 : Int32)), (.int (0 : Int32)), .null] below meth cC s₁ [] 0 0 := Stand.of_body Bd
  have e0 : s₁.heap = h0 := by rw [← hh, Bd.state]; rfl
  have N0 := Fr.nil n0
  have Z0 : n0 ≤ h0.size := O0.1 ▸ O0.2.1
  have hS0 : s.Since s.vm 0 := (State.WarmedH.refl s).since 0
  have C0 : CHr Z own_EL s.vm h0 s.vm h0 := CHr.refl hC0
  have own_wS := own_wSt hw
  have own_hEL := own_hELt hw
  show own_Go p e below (s₁.setTop (entryFrame m #[(.ref a1), (.ref a2), (.int (0 : Int32)), (.int (0 : Int32)), .null] 6)) (fun oO U' => ∃ rV rL, oO = .returned rV ∧ QE0 Z a1 h0 n0 rV U'.heap rL ∧ CHr Z own_EL s.vm s.heap U'.vm U'.heap ∧ ReturnedEndW s oO U' rL 4 8)
  refine own_go (fun _ k => castTop (ef_rm_i4e m a1 a2 _ _) k) ?_
  show own_Go p e below (s₁.setTop (mkF m 0 #[.val (.ref a1), .val (.ref a2), .val (.int (0 : Int32)), .val (.int (0 : Int32)), .val .null, .unset] [])) _
  refine own_go (fun _ k => XS.aloadN X0.here hx rfl (hb hby d_jdk_42_m149_0) rfl rfl k) ?_
  show own_Go p e below (s₁.setTop (mkF m 1 #[.val (.ref a1), .val (.ref a2), .val (.int (0 : Int32)), .val (.int (0 : Int32)), .val .null, .unset] [(.ref a1)])) _
  obtain ⟨T1, X1, e1, st1⟩ := initO X0 hx hZ hown (hw _ (List.mem_of_getElem? (i := 20) rfl)) (hw _ (List.mem_of_getElem? (i := 21) rfl)) (hw _ (List.mem_of_getElem? (i := 22) rfl)) e0 (g := (mkF m 1 #[.val (.ref a1), .val (.ref a2), .val (.int (0 : Int32)), .val (.int (0 : Int32)), .val .null, .unset] [(.ref a1)])) rfl (by rw [hml]; rfl) rfl (hb hby d_jdk_42_m149_1) (by decide) (W := 0) (by show 2 * 0 + _ ≤ _; exact Nat.le_of_eq rfl) (by decide)
  refine own_go st1 ?_
  show own_Go p e below (T1.setTop (mkF m 4 #[.val (.ref a1), .val (.ref a2), .val (.int (0 : Int32)), .val (.int (0 : Int32)), .val .null, .unset] [])) _
  refine own_go (fun _ k => XS.iloadN X1.here hx rfl (hb hby d_jdk_42_m149_4) rfl k) ?_
  show own_Go p e below (T1.setTop (mkF m 5 #[.val (.ref a1), .val (.ref a2), .val (.int (0 : Int32)), .val (.int (0 : Int32)), .val .null, .unset] [(.int (0 : Int32))])) _
  refine own_go (fun _ k => XS.ifNo X1.here hx rfl (hb hby d_jdk_42_m149_5) rfl ((if0 _ _).trans (teq (by decide : (0 : Int32) = (0 : Int32))).2) k) ?_
  show own_Go p e below (T1.setTop (mkF m 8 #[.val (.ref a1), .val (.ref a2), .val (.int (0 : Int32)), .val (.int (0 : Int32)), .val .null, .unset] [])) _
  refine own_go (fun _ k => XS.aloadN X1.here hx rfl (hb hby d_jdk_42_m149_8) rfl rfl k) ?_
  show own_Go p e below (T1.setTop (mkF m 9 #[.val (.ref a1), .val (.ref a2), .val (.int (0 : Int32)), .val (.int (0 : Int32)), .val .null, .unset] [(.ref a1)])) _
  obtain ⟨aL2, T2, h2, k12, b2, kb2, X2, e2, E2, hS2, hk2, hZ2, hown2, Ea2, Fc2, Fv2, Va2, la2, lb2, A2, Li2, sf2, st2⟩ := ldcCH X1 hx hZ hown (hw _ (List.mem_of_getElem? (i := 23) rfl)) own_wS e1 hS0 (Nat.zero_le _) own_hEL (by decide) C0.1 (vs := []) (z := (0 : Int32)) ⟨by decide, by decide⟩ (by decide) (by decide) (g := (mkF m 9 #[.val (.ref a1), .val (.ref a2), .val (.int (0 : Int32)), .val (.int (0 : Int32)), .val .null, .unset] [(.ref a1)])) rfl (hb hby d_jdk_42_m149_9) (n := 0) (by decide) (by decide) (by decide) (by decide)
  refine own_go st2 ?_
  have C3 := C0.trans A2
  have sf4 : Safe Z own_EL T2.vm h2 a1 := own_safeNull hZ2.alike (E_a.ext E2) (F_v.ext E2)
  show own_Go p e below (T2.setTop (mkF m 11 #[.val (.ref a1), .val (.ref a2), .val (.int (0 : Int32)), .val (.int (0 : Int32)), .val .null, .unset] [(.ref aL2), (.ref a1)])) _
  obtain ⟨T5, X5, e5, st5⟩ := getF X2 hx hZ2 hown2 (host := "") (Or.inl (hw _ (List.mem_of_getElem? (i := 29) rfl))) Via.refl e2 Fv2 (g := (mkF m 11 #[.val (.ref a1), .val (.ref a2), .val (.int (0 : Int32)), .val (.int (0 : Int32)), .val .null, .unset] [(.ref aL2), (.ref a1)])) rfl rfl (hb hby d_jdk_42_m149_11)
  refine own_go st5 ?_
  show own_Go p e below (T5.setTop (mkF m 14 #[.val (.ref a1), .val (.ref a2), .val (.int (0 : Int32)), .val (.int (0 : Int32)), .val .null, .unset] [(.ref b2), (.ref a1)])) _
  obtain ⟨T6, h6, X6, e6, W6, st6⟩ := putF X5 hx hZ2 hown2 (host := "") (Or.inl (hw _ (List.mem_of_getElem? (i := 29) rfl))) Via.refl e5 (F_v.ext E2) (E_a.ext E2) (Or.inr ⟨(hw _ (List.mem_of_getElem? (i := 25) rfl)), rfl, hnm⟩) (hw _ (List.mem_of_getElem? (i := 11) rfl)) (ty := (.array .byte)) (by decide) rfl rfl (g := (mkF m 14 #[.val (.ref a1), .val (.ref a2), .val (.int (0 : Int32)), .val (.int (0 : Int32)), .val .null, .unset] [(.ref b2), (.ref a1)])) rfl rfl (hb hby d_jdk_42_m149_14)
  refine own_go st6 ?_
  have N6 := Fr.snoc X6 N0 g_a
  have C7 := C3.trans (CHr.wr W6 sf4 C3.1)
  have Fw6 := (F_v.ext E2).same W6
  show own_Go p e below (T6.setTop (mkF m 17 #[.val (.ref a1), .val (.ref a2), .val (.int (0 : Int32)), .val (.int (0 : Int32)), .val .null, .unset] [])) _
  refine own_go (fun _ k => XS.aloadN X6.here hx rfl (hb hby d_jdk_42_m149_17) rfl rfl k) ?_
  show own_Go p e below (T6.setTop (mkF m 18 #[.val (.ref a1), .val (.ref a2), .val (.int (0 : Int32)), .val (.int (0 : Int32)), .val .null, .unset] [(.ref a1)])) _
  obtain ⟨aL8, T8, h8, k18, b8, kb8, X8, e8, E8, hS8, hk8, hZ8, hown8, Ea8, Fc8, Fv8, Va8, la8, lb8, A8, Li8, sf8, st8⟩ := ldcCH X6 hx hZ2 hown2 (hw _ (List.mem_of_getElem? (i := 23) rfl)) own_wS e6 hS2 (Nat.le_trans hk2 (Keep.of_wr W6).1) own_hEL (by decide) C7.1 (vs := []) (z := (0 : Int32)) ⟨by decide, by decide⟩ (by decide) (by decide) (g := (mkF m 18 #[.val (.ref a1), .val (.ref a2), .val (.int (0 : Int32)), .val (.int (0 : Int32)), .val .null, .unset] [(.ref a1)])) rfl (hb hby d_jdk_42_m149_18) (n := 0) (by decide) (by decide) (by decide) (by decide)
  refine own_go st8 ?_
  have C9 := C7.trans A8
  have f10 := (A8.safe (Nat.lt_of_lt_of_le E_a.lt (Nat.le_trans E2.1 (Keep.of_wr W6).1)) (Safe.wr W6 sf4 C3.1 sf4))
  show own_Go p e below (T8.setTop (mkF m 20 #[.val (.ref a1), .val (.ref a2), .val (.int (0 : Int32)), .val (.int (0 : Int32)), .val .null, .unset] [(.ref aL8), (.ref a1)])) _
  obtain ⟨T11, X11, e11, st11⟩ := getF X8 hx hZ8 hown8 (host := "") (Or.inl (hw _ (List.mem_of_getElem? (i := 30) rfl))) Via.refl e8 Fc8 (g := (mkF m 20 #[.val (.ref a1), .val (.ref a2), .val (.int (0 : Int32)), .val (.int (0 : Int32)), .val .null, .unset] [(.ref aL8), (.ref a1)])) rfl rfl (hb hby d_jdk_42_m149_20)
  refine own_go st11 ?_
  show own_Go p e below (T11.setTop (mkF m 23 #[.val (.ref a1), .val (.ref a2), .val (.int (0 : Int32)), .val (.int (0 : Int32)), .val .null, .unset] [(.int (0 : Int32)), (.ref a1)])) _
  have f12 := (((F_c.ext E2).other W6 (Or.inr (slot_ne (Or.inr (hw _ (List.mem_of_getElem? (i := 26) rfl))) (Or.inr (hw _ (List.mem_of_getElem? (i := 25) rfl))) (by decide) (t := .byte) (t' := (.array .byte)) (by decide) (by decide)))).ext E8)
  have f13 := (((E_a.ext E2).wr W6).ext E8)
  obtain ⟨T14, h14, X14, e14, W14, st14⟩ := putFN X11 hx hZ8 hown8 (hw _ (List.mem_of_getElem? (i := 30) rfl)) Via.refl e11 f12 f13 (Or.inr ⟨(hw _ (List.mem_of_getElem? (i := 26) rfl)), rfl, hnm⟩) (hw _ (List.mem_of_getElem? (i := 11) rfl)) (ty := .byte) (v' := (.int (0 : Int32))) (by decide) rfl rfl (g := (mkF m 23 #[.val (.ref a1), .val (.ref a2), .val (.int (0 : Int32)), .val (.int (0 : Int32)), .val .null, .unset] [(.int (0 : Int32)), (.ref a1)])) rfl rfl (hb hby d_jdk_42_m149_23)
  refine own_go st14 ?_
  have N14 := Fr.snoc X14 N6 g_a
  have C15 := C9.trans (CHr.wr W14 f10 C9.1)
  have Fw14 := f12.same W14
  show own_Go p e below (T14.setTop (mkF m 26 #[.val (.ref a1), .val (.ref a2), .val (.int (0 : Int32)), .val (.int (0 : Int32)), .val .null, .unset] [])) _
  have f16 := (((((Keep.refl h0 [a1]).ext E2).wr W6 (Or.inl (List.mem_of_getElem? (i := 0) rfl))).ext E8).wr W14 (Or.inl (List.mem_of_getElem? (i := 0) rfl)))
  have f17 := ((Fw6.ext E8).other W14 (Or.inr (slot_ne (Or.inr (hw _ (List.mem_of_getElem? (i := 25) rfl))) (Or.inr (hw _ (List.mem_of_getElem? (i := 26) rfl))) (by decide) (t := (.array .byte)) (t' := .byte) (by decide) (by decide))))
  have f18 := (((Va2.other W6 (Ne.symm (sf2 _ sf4).2)).ext E8).other W14 (Ne.symm (sf2 _ sf4).2))
  refine own_finW (v := none) X14 hh hZ8 hS8 (by rw [e14]; exact (Nat.le_trans hk8 (Keep.of_wr W14).1)) (fun _ => rfl) hlk (fun fs hr => X14.returnOut hx hrt (hb hby d_jdk_42_m149_26) hr) (QQ := QE0 Z a1 h0 n0) ?_ own_hEL e14 (C15) (by decide) (by decide)
  rw [e14]
  exact ⟨b2, kb2, rfl, N14, f16, f17, Fw14, f18⟩

theorem d_jdk_42_m3_0 : decode jdk_42_method_3_code 0 = .ok (.aload_n 0, 1) := by decide +kernel
theorem d_jdk_42_m3_1 : decode jdk_42_method_3_code 1 = .ok (.aload_n 1, 1) := by decide +kernel
theorem d_jdk_42_m3_2 : decode jdk_42_method_3_code 2 = .ok (.iconst 0, 1) := by decide +kernel
theorem d_jdk_42_m3_3 : decode jdk_42_method_3_code 3 = .ok (.aload_n 1, 1) := by decide +kernel
theorem d_jdk_42_m3_4 : decode jdk_42_method_3_code 4 = .ok (.arraylength, 1) := by decide +kernel
theorem d_jdk_42_m3_5 : decode jdk_42_method_3_code 5 = .ok (.aconst_null, 1) := by decide +kernel
theorem d_jdk_42_m3_6 : decode jdk_42_method_3_code 6 = .ok (.invokespecial 27, 3) := by decide +kernel
theorem pd_0 : parseMethodDescriptor "([CIILjava/lang/Void;)V" = some ⟨[(.array .char), .int, .int, (.object "java/lang/Void")], none⟩ := by decide +kernel
theorem d_jdk_42_m3_9 : decode jdk_42_method_3_code 9 = .ok (.return_, 1) := by decide +kernel
theorem ef_rm_i1e (m : MethodId) (x0 : Addr) (x1 : Addr) : entryFrame m #[(.ref x0), (.ref x1)] 2 = mkF m 0 #[.val (.ref x0), .val (.ref x1)] [] := by
   first | (simp [entryFrame, mkF, argsToLocals, Value.category]; done) | rfl
set_option maxRecDepth 65536 in
set_option maxHeartbeats 40000000 in
theorem rm_i1e (l : Launch) (Z : State) (a0 : Array Value) (hw : ∀ d ∈ tables_1, d.before a0 Z = true) (ws : List Jvm.Cond) (a1 : Addr) (a2 : Addr) (k2 : ClassId) (h0 : Heap) (n0 : Nat) (O0 : Old Z n0 h0) (E_a : Exa Z h0 a1 "java/lang/String") (F_v : Fld Z h0 a1 "java/lang/String" "value" "[B" .null) (F_c : Fld Z h0 a1 "java/lang/String" "coder" "B" (.int (0 : Int32))) (g_a : n0 ≤ a1) (V_a2 : Arv Z h0 a2 k2 .char (0 : Int32) [] (.int (0 : Int32))) :
    MetFree l (⟨"java/lang/String", "<init>", "([C)V"⟩ : MethodName) (head1 (Jvm.Cond.code (⟨"java/lang/String", "<init>", "([C)V"⟩ : MethodName) jdk_42_method_3_code 2 none :: ws) ({ frames := 2, cells := 4, slots := 8, locals := 29 } : Room)) (fun aA U => aA = #[(.ref a1), (.ref a2)] ∧ Z.Warmed39 U.vm ∧ U.heap = h0 ∧ CHv Z own_EL U.vm h0) (fun _ _ _ _ _ => True) (fun _ U oO U' => ∃ rV rL, oO = .returned rV ∧ QE0 Z a1 h0 n0 rV U'.heap rL ∧ CHr Z own_EL U.vm U.heap U'.vm U'.heap ∧ ReturnedEndW U oO U' rL 4 8) := by
  refine MetFree.of_bodySF (plainFor_of_name pn_0) hisR ?_
  intro p e s m args below meth cC s₁ Bd hml0 hP hK
  obtain ⟨rfl, hZ, hh, hC0⟩ := hP
  have hx := Bd.exec
  have hby := Bd.bytes
  have hml : cC.maxLocals = 2 := hml0
  have hown : s.vm.findClass "java/lang/String" = some m.cls := findClass_of_methodNamed Bd.named
  have hnm := (name_of_methodNamed Bd.named Bd.method).1
  have hrt := Bd.returns
  have hlk : meth.locks = false := Bd.notSynchronized
  have X0 : Stand p l e ({ frames := 2, cells := 4, slots := 8, locals := 29 } : Room) (s.setVm s.vm) m #[(.ref a1), (.ref a2)] below meth cC s₁ [] 0 0 := Stand.of_body Bd
  have e0 : s₁.heap = h0 := by rw [← hh, Bd.state]; rfl
  have N0 := Fr.nil n0
  have Z0 : n0 ≤ h0.size := O0.1 ▸ O0.2.1
  have hS0 : s.Since s.vm 0 := (State.WarmedH.refl s).since 0
  have C0 : CHr Z own_EL s.vm h0 s.vm h0 := CHr.refl hC0
  have own_wS := own_wSt hw
  have own_hEL := own_hELt hw
  show own_Go p e below (s₁.setTop (entryFrame m #[(.ref a1), (.ref a2)] 2)) (fun oO U' => ∃ rV rL, oO = .returned rV ∧ QE0 Z a1 h0 n0 rV U'.heap rL ∧ CHr Z own_EL s.vm s.heap U'.vm U'.heap ∧ ReturnedEndW s oO U' rL 4 8)
  refine own_go (fun _ k => castTop (ef_rm_i1e m a1 a2) k) ?_
  show own_Go p e below (s₁.setTop (mkF m 0 #[.val (.ref a1), .val (.ref a2)] [])) _
  refine own_go (fun _ k => XS.aloadN X0.here hx rfl (hb hby d_jdk_42_m3_0) rfl rfl k) ?_
  show own_Go p e below (s₁.setTop (mkF m 1 #[.val (.ref a1), .val (.ref a2)] [(.ref a1)])) _
  refine own_go (fun _ k => XS.aloadN X0.here hx rfl (hb hby d_jdk_42_m3_1) rfl rfl k) ?_
  show own_Go p e below (s₁.setTop (mkF m 2 #[.val (.ref a1), .val (.ref a2)] [(.ref a2), (.ref a1)])) _
  refine own_go (fun _ k => XS.iconst X0.here hx rfl (hb hby d_jdk_42_m3_2) k) ?_
  show own_Go p e below (s₁.setTop (mkF m 3 #[.val (.ref a1), .val (.ref a2)] [(.int (0 : Int32)), (.ref a2), (.ref a1)])) _
  refine own_go (fun _ k => XS.aloadN X0.here hx rfl (hb hby d_jdk_42_m3_3) rfl rfl k) ?_
  show own_Go p e below (s₁.setTop (mkF m 4 #[.val (.ref a1), .val (.ref a2)] [(.ref a2), (.int (0 : Int32)), (.ref a2), (.ref a1)])) _
  obtain ⟨c19, A19, q19, S19, M19, Hs19, Gs19⟩ := id V_a2
  refine own_go (fun _ k => X0.arraylength hx (by rw [e0]; exact A19.1) (State.isArrayOf_alike hZ.alike A19.2.1) (g := (mkF m 4 #[.val (.ref a1), .val (.ref a2)] [(.ref a2), (.int (0 : Int32)), (.ref a2), (.ref a1)])) rfl rfl (hb hby d_jdk_42_m3_4) _ k) ?_
  rw [len_of S19 M19]
  show own_Go p e below (s₁.setTop (mkF m 5 #[.val (.ref a1), .val (.ref a2)] [(.int (0 : Int32)), (.int (0 : Int32)), (.ref a2), (.ref a1)])) _
  refine own_go (fun _ k => XS.aconstNull X0.here hx rfl (hb hby d_jdk_42_m3_5) k) ?_
  show own_Go p e below (s₁.setTop (mkF m 6 #[.val (.ref a1), .val (.ref a2)] [.null, (.int (0 : Int32)), (.int (0 : Int32)), (.ref a2), (.ref a1)])) _
  obtain ⟨v20, _, ⟨T20, L20, k20, n20⟩, -, X20, hS20, hg20, ⟨Lc20, hQ20, l20, y20, z20, A20⟩, st20⟩ := X0.specialBackS hx (y := (⟨"java/lang/String", "<init>", "([CIILjava/lang/Void;)V"⟩ : MethodName)) rfl hown (mvT hZ (hw _ (List.mem_of_getElem? (i := 16) rfl))) (mvT hZ (hw _ (List.mem_of_getElem? (i := 17) rfl))) (mvT hZ (hw _ (List.mem_of_getElem? (i := 19) rfl))) (by decide) (backOfSH (W := 0) (rm_i4e l Z a0 hw [] a1 a2 h0 n0 O0 E_a F_v F_c g_a) hZ (hw _ (List.mem_of_getElem? (i := 19) rfl)) (hw _ (List.mem_of_getElem? (i := 12) rfl)) (by decide) (by decide) own_hEL C0.1) (g := (mkF m 6 #[.val (.ref a1), .val (.ref a2)] [.null, (.int (0 : Int32)), (.int (0 : Int32)), (.ref a2), (.ref a1)])) rfl (by rw [hml]; rfl) (Steps.refl _) (a := a1) (argsL := [(.ref a2), (.int (0 : Int32)), (.int (0 : Int32)), .null]) (rest := []) (lenOf pd_0 rfl) rfl (by show 2 * 0 + _ ≤ _; exact Nat.le_of_eq rfl) (hb hby d_jdk_42_m3_6) (fun _ _ => ⟨rfl, e0, (by decide : 0 + 4 ≤ _), (by decide : 0 + 8 ≤ _)⟩)
  dsimp only [Pt.U, Pt.locs, Pt.cells, Pt.slots] at X20 l20 y20 z20 st20 hQ20 hS20 hg20 A20
  subst l20 y20 z20
  refine own_gos st20 ?_
  obtain ⟨X20, hS20, hZ20, hown20⟩ := rebS hS0 (k0 := _) (n1 := s₁.heap.size) (by rw [e0]; exact (Nat.zero_le _)) X20 hS20 hg20 hZ hown
  obtain ⟨t20, kt20, rfl, Nq20, K20, Fv20, Fc20, Vt20⟩ := hQ20
  have C21 := C0.trans A20
  have N20 := Fr.app N0 Nq20
  show own_Go p e below (T20.setTop (mkF m 9 #[.val (.ref a1), .val (.ref a2)] [])) _
  have f22 := ((Keep.refl h0 [a1]).trans K20 (allS (Or.inl (List.mem_of_getElem? (i := 0) rfl)) all0))
  refine own_finW (v := none) X20 hh hZ20 hS20 (by rw [(rfl : T20.heap = T20.heap)]; exact (Nat.le_refl _)) (fun _ => rfl) hlk (fun fs hr => X20.returnOut hx hrt (hb hby d_jdk_42_m3_9) hr) (QQ := QE0 Z a1 h0 n0) ?_ own_hEL (rfl : T20.heap = T20.heap) (C21) (by decide) (by decide)
  exact ⟨t20, kt20, rfl, N20, f22, Fv20, Fc20, Vt20⟩

theorem d_jdk_52_m21_0 : decode jdk_52_method_21_code 0 = .ok (.iconst 0, 1) := by decide +kernel
theorem d_jdk_52_m21_1 : decode jdk_52_method_21_code 1 = .ok (.istore 5, 2) := by decide +kernel
theorem d_jdk_52_m21_3 : decode jdk_52_method_21_code 3 = .ok (.iload 5, 2) := by decide +kernel
theorem d_jdk_52_m21_5 : decode jdk_52_method_21_code 5 = .ok (.iload 4, 2) := by decide +kernel
theorem d_jdk_52_m21_7 : decode jdk_52_method_21_code 7 = .ok (.if_icmp .ge 37, 3) := by decide +kernel
theorem d_jdk_52_m21_44 : decode jdk_52_method_21_code 44 = .ok (.iload 4, 2) := by decide +kernel
theorem d_jdk_52_m21_46 : decode jdk_52_method_21_code 46 = .ok (.ireturn, 1) := by decide +kernel
theorem d_jdk_52_m21_10 : decode jdk_52_method_21_code 10 = .ok (.aload_n 0, 1) := by decide +kernel
theorem d_jdk_52_m21_11 : decode jdk_52_method_21_code 11 = .ok (.iload_n 1, 1) := by decide +kernel
theorem d_jdk_52_m21_12 : decode jdk_52_method_21_code 12 = .ok (.caload, 1) := by decide +kernel
theorem d_jdk_52_m21_13 : decode jdk_52_method_21_code 13 = .ok (.istore 6, 2) := by decide +kernel
theorem d_jdk_52_m21_15 : decode jdk_52_method_21_code 15 = .ok (.iload 6, 2) := by decide +kernel
theorem d_jdk_52_m21_17 : decode jdk_52_method_21_code 17 = .ok (.sipush 255, 3) := by decide +kernel
theorem d_jdk_52_m21_20 : decode jdk_52_method_21_code 20 = .ok (.if_icmp .le 6, 3) := by decide +kernel
theorem d_jdk_52_m21_23 : decode jdk_52_method_21_code 23 = .ok (.iload 5, 2) := by decide +kernel
theorem d_jdk_52_m21_25 : decode jdk_52_method_21_code 25 = .ok (.ireturn, 1) := by decide +kernel
theorem d_jdk_52_m21_26 : decode jdk_52_method_21_code 26 = .ok (.aload_n 2, 1) := by decide +kernel
theorem d_jdk_52_m21_27 : decode jdk_52_method_21_code 27 = .ok (.iload_n 3, 1) := by decide +kernel
theorem d_jdk_52_m21_28 : decode jdk_52_method_21_code 28 = .ok (.iload 6, 2) := by decide +kernel
theorem d_jdk_52_m21_30 : decode jdk_52_method_21_code 30 = .ok (.i2b, 1) := by decide +kernel
theorem d_jdk_52_m21_31 : decode jdk_52_method_21_code 31 = .ok (.bastore, 1) := by decide +kernel
theorem d_jdk_52_m21_32 : decode jdk_52_method_21_code 32 = .ok (.iinc 1 1, 3) := by decide +kernel
theorem d_jdk_52_m21_35 : decode jdk_52_method_21_code 35 = .ok (.iinc 3 1, 3) := by decide +kernel
theorem d_jdk_52_m21_38 : decode jdk_52_method_21_code 38 = .ok (.iinc 5 1, 3) := by decide +kernel
theorem d_jdk_52_m21_41 : decode jdk_52_method_21_code 41 = .ok (.goto (-38), 3) := by decide +kernel
theorem pn_1 : plainName "java/lang/StringUTF16" = true := by first | (simp [plainName, overriddenIn]; done) | decide +kernel
theorem ef_rm_cmp5 (m : MethodId) (x0 : Addr) (x1 : Int32) (x2 : Addr) (x3 : Int32) (x4 : Int32) : entryFrame m #[(.ref x0), (.int x1), (.ref x2), (.int x3), (.int x4)] 7 = mkF m 0 #[.val (.ref x0), .val (.int x1), .val (.ref x2), .val (.int x3), .val (.int x4), .unset, .unset] [] := by
   first | (simp [entryFrame, mkF, argsToLocals, Value.category]; done) | rfl
set_option maxRecDepth 65536 in
set_option maxHeartbeats 40000000 in
theorem rm_cmp5 (l : Launch) (Z : State) (a0 : Array Value) (hw : ∀ d ∈ tables_1, d.before a0 Z = true) (ws : List Jvm.Cond) (a : Addr) (ka : ClassId) (da : Value) (cs : List Int32) (b : Addr) (kb : ClassId) (h0 : Heap) (n0 : Nat) (O0 : Old Z n0 h0) (hok : own_Ok cs) (V_a : Arv Z h0 a ka .char (Int32.ofNat cs.length) (cs.map Value.int) da) (V_b : Arv Z h0 b kb .byte (Int32.ofNat cs.length) (List.replicate cs.length (.int (0 : Int32))) (.int (0 : Int32))) (g_b : n0 ≤ b) (hab : a ≠ b) :
    MetFree l (⟨"java/lang/StringUTF16", "compress", "([CI[BII)I"⟩ : MethodName) (head1 (Jvm.Cond.code (⟨"java/lang/StringUTF16", "compress", "([CI[BII)I"⟩ : MethodName) jdk_52_method_21_code 7 (some .int) :: ws) ({ frames := 0, cells := 0, slots := 0, locals := 0 } : Room)) (fun aA U => aA = #[(.ref a), (.int (0 : Int32)), (.ref b), (.int (0 : Int32)), (.int (Int32.ofNat cs.length))] ∧ Z.Warmed39 U.vm ∧ U.heap = h0) (fun _ _ _ _ _ => True) (fun _ U oO U' => ∃ rV rL, oO = .returned rV ∧ QC5 Z b kb cs h0 n0 rV U'.heap rL ∧ FrameEnd U oO U' rL 0 0) := by
  refine MetFree.of_bodySF (plainFor_of_name pn_1) hisR ?_
  intro p e s m args below meth cC s₁ Bd hml0 hP hK
  obtain ⟨rfl, hZ, hh⟩ := hP
  have hx := Bd.exec
  have hby := Bd.bytes
  have hml : cC.maxLocals = 7 := hml0
  have hown : s.vm.findClass "java/lang/StringUTF16" = some m.cls := findClass_of_methodNamed Bd.named
  have hnm := (name_of_methodNamed Bd.named Bd.method).1
  have hrt := Bd.returns
  have hlk : meth.locks = false := Bd.notSynchronized
  have X0 : Stand p l e ({ frames := 0, cells := 0, slots := 0, locals := 0 } : Room) s m #[(.ref a), (.int (0 : Int32)), (.ref b), (.int (0 : Int32)), (.int (Int32.ofNat cs.length))] below meth cC s₁ [] 0 0 := Stand.of_body Bd
  have e0 : s₁.heap = h0 := by rw [← hh, Bd.state]; rfl
  have N0 := Fr.nil n0
  have Z0 : n0 ≤ h0.size := O0.1 ▸ O0.2.1
  show own_Go p e below (s₁.setTop (entryFrame m #[(.ref a), (.int (0 : Int32)), (.ref b), (.int (0 : Int32)), (.int (Int32.ofNat cs.length))] 7)) (fun oO U' => ∃ rV rL, oO = .returned rV ∧ QC5 Z b kb cs h0 n0 rV U'.heap rL ∧ FrameEnd s oO U' rL 0 0)
  refine own_go (fun _ k => castTop (ef_rm_cmp5 m a _ b _ _) k) ?_
  have hlen : cs.length ≤ 4000 := hok.2
  show own_Go p e below (s₁.setTop (mkF m 0 #[.val (.ref a), .val (.int (0 : Int32)), .val (.ref b), .val (.int (0 : Int32)), .val (.int (Int32.ofNat cs.length)), .unset, .unset] [])) _
  refine own_go (fun _ k => XS.iconst X0.here hx rfl (hb hby d_jdk_52_m21_0) k) ?_
  show own_Go p e below (s₁.setTop (mkF m 1 #[.val (.ref a), .val (.int (0 : Int32)), .val (.ref b), .val (.int (0 : Int32)), .val (.int (Int32.ofNat cs.length)), .unset, .unset] [(.int (0 : Int32))])) _
  refine own_go (fun _ k => XS.istore X0.here hx rfl (hb hby d_jdk_52_m21_1) rfl (l' := #[.val (.ref a), .val (.int (0 : Int32)), .val (.ref b), .val (.int (0 : Int32)), .val (.int (Int32.ofNat cs.length)), .val (.int (0 : Int32)), .unset]) rfl k) ?_
  show own_Go p e below (s₁.setTop (mkF m 3 #[.val (.ref a), .val (.int (0 : Int32)), .val (.ref b), .val (.int (0 : Int32)), .val (.int (Int32.ofNat cs.length)), .val (.int (0 : Int32)), .unset] [])) _
  have loop : ∀ (kT iloop : Nat) (sl : Slot) (T : State) (locs : List Loc) (h : Heap), iloop + kT = cs.length → Stand p l e ({ frames := 0, cells := 0, slots := 0, locals := 0 } : Room) s m #[(.ref a), (.int (0 : Int32)), (.ref b), (.int (0 : Int32)), (.int (Int32.ofNat cs.length))] below meth cC T locs 0 0 → T.heap = h → Fr n0 locs → Old Z n0 h → Keep h0 h [b] → Arv Z h a ka .char (Int32.ofNat cs.length) (cs.map Value.int) da → Arv Z h b kb .byte (Int32.ofNat cs.length) (own_part cs iloop) (.int (0 : Int32)) → (∀ j, j < iloop → ¬ (255 : Int32) < cs.getD j 0) → ((sl = .unset ∨ ∃ w, sl = .val w ∧ w.category = 1)) → own_Go p e below (T.setTop (mkF m 3 #[.val (.ref a), .val (.int (Int32.ofNat iloop)), .val (.ref b), .val (.int (Int32.ofNat iloop)), .val (.int (Int32.ofNat cs.length)), .val (.int (Int32.ofNat iloop)), sl] [])) (fun oO U' => ∃ rV rL, oO = .returned rV ∧ QC5 Z b kb cs h0 n0 rV U'.heap rL ∧ FrameEnd s oO U' rL 0 0) := by
    intro kT
    induction kT with
    | zero =>
      intro iloop sl T23 L23 h23 hik X23 e23 N23 O23 K23 J0_23 J1_23 hall hsl
      have Z0_23 : n0 ≤ h23.size := O23.1 ▸ O23.2.1
      have hin : iloop = cs.length := by omega
      have hlt : ¬ ((Int32.ofNat iloop) < (Int32.ofNat cs.length)) := by rw [own_lti (by omega) (by omega)]; omega
      show own_Go p e below (T23.setTop (mkF m 3 #[.val (.ref a), .val (.int (Int32.ofNat iloop)), .val (.ref b), .val (.int (Int32.ofNat iloop)), .val (.int (Int32.ofNat cs.length)), .val (.int (Int32.ofNat iloop)), sl] [])) _
      refine own_go (fun _ k => XS.iload X23.here hx rfl (hb hby d_jdk_52_m21_3) rfl k) ?_
      show own_Go p e below (T23.setTop (mkF m 5 #[.val (.ref a), .val (.int (Int32.ofNat iloop)), .val (.ref b), .val (.int (Int32.ofNat iloop)), .val (.int (Int32.ofNat cs.length)), .val (.int (Int32.ofNat iloop)), sl] [(.int (Int32.ofNat iloop))])) _
      refine own_go (fun _ k => XS.iload X23.here hx rfl (hb hby d_jdk_52_m21_5) rfl k) ?_
      show own_Go p e below (T23.setTop (mkF m 7 #[.val (.ref a), .val (.int (Int32.ofNat iloop)), .val (.ref b), .val (.int (Int32.ofNat iloop)), .val (.int (Int32.ofNat cs.length)), .val (.int (Int32.ofNat iloop)), sl] [(.int (Int32.ofNat cs.length)), (.int (Int32.ofNat iloop))])) _
      refine own_go (fun _ k => XS.icmpYes X23.here hx rfl (pc0 := 7) (pc' := 44) rfl (hb hby d_jdk_52_m21_7) rfl (flt hlt).2.1 (by decide) (by decide) k) ?_
      show own_Go p e below (T23.setTop (mkF m 44 #[.val (.ref a), .val (.int (Int32.ofNat iloop)), .val (.ref b), .val (.int (Int32.ofNat iloop)), .val (.int (Int32.ofNat cs.length)), .val (.int (Int32.ofNat iloop)), sl] [])) _
      refine own_go (fun _ k => XS.iload X23.here hx rfl (hb hby d_jdk_52_m21_44) rfl k) ?_
      show own_Go p e below (T23.setTop (mkF m 46 #[.val (.ref a), .val (.int (Int32.ofNat iloop)), .val (.ref b), .val (.int (Int32.ofNat iloop)), .val (.int (Int32.ofNat cs.length)), .val (.int (Int32.ofNat iloop)), sl] [(.int (Int32.ofNat cs.length))])) _
      refine own_fin (v := (some (.int (Int32.ofNat cs.length)))) X23 (fun h => by rw [hrt] at h; cases h) hlk (fun fs hr => retI X23 hx hrt (hb hby d_jdk_52_m21_46) hr) (QQ := QC5 Z b kb cs h0 n0) ?_ (by decide) (by decide)
      rw [e23]
      exact ⟨cs.length, rfl, N23, K23, Or.inl ⟨rfl, own_all (fun j hj => hall j (by omega)), by have q := J1_23; rw [hin, own_partn] at q; exact q⟩⟩
    | succ kT ih =>
      intro iloop sl T24 L24 h24 hik X24 e24 N24 O24 K24 J0_24 J1_24 hall hsl
      have Z0_24 : n0 ≤ h24.size := O24.1 ▸ O24.2.1
      have hi : iloop < cs.length := by omega
      have hlt : (Int32.ofNat iloop) < (Int32.ofNat cs.length) := (own_lti (by omega) (by omega)).mpr hi
      show own_Go p e below (T24.setTop (mkF m 3 #[.val (.ref a), .val (.int (Int32.ofNat iloop)), .val (.ref b), .val (.int (Int32.ofNat iloop)), .val (.int (Int32.ofNat cs.length)), .val (.int (Int32.ofNat iloop)), sl] [])) _
      refine own_go (fun _ k => XS.iload X24.here hx rfl (hb hby d_jdk_52_m21_3) rfl k) ?_
      show own_Go p e below (T24.setTop (mkF m 5 #[.val (.ref a), .val (.int (Int32.ofNat iloop)), .val (.ref b), .val (.int (Int32.ofNat iloop)), .val (.int (Int32.ofNat cs.length)), .val (.int (Int32.ofNat iloop)), sl] [(.int (Int32.ofNat iloop))])) _
      refine own_go (fun _ k => XS.iload X24.here hx rfl (hb hby d_jdk_52_m21_5) rfl k) ?_
      show own_Go p e below (T24.setTop (mkF m 7 #[.val (.ref a), .val (.int (Int32.ofNat iloop)), .val (.ref b), .val (.int (Int32.ofNat iloop)), .val (.int (Int32.ofNat cs.length)), .val (.int (Int32.ofNat iloop)), sl] [(.int (Int32.ofNat cs.length)), (.int (Int32.ofNat iloop))])) _
      refine own_go (fun _ k => XS.icmpNo X24.here hx rfl (hb hby d_jdk_52_m21_7) rfl (tlt hlt).2.1 k) ?_
      show own_Go p e below (T24.setTop (mkF m 10 #[.val (.ref a), .val (.int (Int32.ofNat iloop)), .val (.ref b), .val (.int (Int32.ofNat iloop)), .val (.int (Int32.ofNat cs.length)), .val (.int (Int32.ofNat iloop)), sl] [])) _
      refine own_go (fun _ k => XS.aloadN X24.here hx rfl (hb hby d_jdk_52_m21_10) rfl rfl k) ?_
      show own_Go p e below (T24.setTop (mkF m 11 #[.val (.ref a), .val (.int (Int32.ofNat iloop)), .val (.ref b), .val (.int (Int32.ofNat iloop)), .val (.int (Int32.ofNat cs.length)), .val (.int (Int32.ofNat iloop)), sl] [(.ref a)])) _
      refine own_go (fun _ k => XS.iloadN X24.here hx rfl (hb hby d_jdk_52_m21_11) rfl k) ?_
      show own_Go p e below (T24.setTop (mkF m 12 #[.val (.ref a), .val (.int (Int32.ofNat iloop)), .val (.ref b), .val (.int (Int32.ofNat iloop)), .val (.int (Int32.ofNat cs.length)), .val (.int (Int32.ofNat iloop)), sl] [(.int (Int32.ofNat iloop)), (.ref a)])) _
      obtain ⟨c25, A25, q25, S25, M25, Hs25, Gs25⟩ := id J0_24
      have hi25 := inb_of (j := (Int32.ofNat iloop)) S25 (own_inb hi (by omega))
      refine own_go (fun _ k => X24.caload hx (j := (Int32.ofNat iloop)) (v := (.int (cs.getD iloop 0))) (by rw [e24]; exact A25.1) (State.isArrayOf_alike hZ.alike A25.2.1) A25.2.2 hi25 (Has.at Hs25 hi25 (own_gd rfl hi (by omega))) (g := (mkF m 12 #[.val (.ref a), .val (.int (Int32.ofNat iloop)), .val (.ref b), .val (.int (Int32.ofNat iloop)), .val (.int (Int32.ofNat cs.length)), .val (.int (Int32.ofNat iloop)), sl] [(.int (Int32.ofNat iloop)), (.ref a)])) rfl rfl (hb hby d_jdk_52_m21_12) _ k) ?_
      show own_Go p e below (T24.setTop (mkF m 13 #[.val (.ref a), .val (.int (Int32.ofNat iloop)), .val (.ref b), .val (.int (Int32.ofNat iloop)), .val (.int (Int32.ofNat cs.length)), .val (.int (Int32.ofNat iloop)), sl] [(.int (cs.getD iloop 0))])) _
      refine own_go (fun _ k => XS.istoreS X24.here hx rfl (hb hby d_jdk_52_m21_13) rfl rfl hsl k) ?_
      show own_Go p e below (T24.setTop (mkF m 15 #[.val (.ref a), .val (.int (Int32.ofNat iloop)), .val (.ref b), .val (.int (Int32.ofNat iloop)), .val (.int (Int32.ofNat cs.length)), .val (.int (Int32.ofNat iloop)), .val (.int (cs.getD iloop 0))] [])) _
      refine own_go (fun _ k => XS.iload X24.here hx rfl (hb hby d_jdk_52_m21_15) rfl k) ?_
      show own_Go p e below (T24.setTop (mkF m 17 #[.val (.ref a), .val (.int (Int32.ofNat iloop)), .val (.ref b), .val (.int (Int32.ofNat iloop)), .val (.int (Int32.ofNat cs.length)), .val (.int (Int32.ofNat iloop)), .val (.int (cs.getD iloop 0))] [(.int (cs.getD iloop 0))])) _
      refine own_go (fun _ k => XS.sipush X24.here hx rfl (hb hby d_jdk_52_m21_17) k) ?_
      show own_Go p e below (T24.setTop (mkF m 20 #[.val (.ref a), .val (.int (Int32.ofNat iloop)), .val (.ref b), .val (.int (Int32.ofNat iloop)), .val (.int (Int32.ofNat cs.length)), .val (.int (Int32.ofNat iloop)), .val (.int (cs.getD iloop 0))] [(.int (255 : Int32)), (.int (cs.getD iloop 0))])) _
      by_cases hc26 : (255 : Int32) < (cs.getD iloop 0)
      · skip
        refine own_go (fun _ k => XS.icmpNo X24.here hx rfl (hb hby d_jdk_52_m21_20) rfl (tlt hc26).2.2.2 k) ?_
        show own_Go p e below (T24.setTop (mkF m 23 #[.val (.ref a), .val (.int (Int32.ofNat iloop)), .val (.ref b), .val (.int (Int32.ofNat iloop)), .val (.int (Int32.ofNat cs.length)), .val (.int (Int32.ofNat iloop)), .val (.int (cs.getD iloop 0))] [])) _
        refine own_go (fun _ k => XS.iload X24.here hx rfl (hb hby d_jdk_52_m21_23) rfl k) ?_
        show own_Go p e below (T24.setTop (mkF m 25 #[.val (.ref a), .val (.int (Int32.ofNat iloop)), .val (.ref b), .val (.int (Int32.ofNat iloop)), .val (.int (Int32.ofNat cs.length)), .val (.int (Int32.ofNat iloop)), .val (.int (cs.getD iloop 0))] [(.int (Int32.ofNat iloop))])) _
        refine own_fin (v := (some (.int (Int32.ofNat iloop)))) X24 (fun h => by rw [hrt] at h; cases h) hlk (fun fs hr => retI X24 hx hrt (hb hby d_jdk_52_m21_25) hr) (QQ := QC5 Z b kb cs h0 n0) ?_ (by decide) (by decide)
        rw [e24]
        exact ⟨iloop, rfl, N24, K24, Or.inr ⟨hi, hc26⟩⟩
      · skip
        refine own_go (fun _ k => XS.icmpYes X24.here hx rfl (pc0 := 20) (pc' := 26) rfl (hb hby d_jdk_52_m21_20) rfl (flt hc26).2.2.2 (by decide) (by decide) k) ?_
        show own_Go p e below (T24.setTop (mkF m 26 #[.val (.ref a), .val (.int (Int32.ofNat iloop)), .val (.ref b), .val (.int (Int32.ofNat iloop)), .val (.int (Int32.ofNat cs.length)), .val (.int (Int32.ofNat iloop)), .val (.int (cs.getD iloop 0))] [])) _
        refine own_go (fun _ k => XS.aloadN X24.here hx rfl (hb hby d_jdk_52_m21_26) rfl rfl k) ?_
        show own_Go p e below (T24.setTop (mkF m 27 #[.val (.ref a), .val (.int (Int32.ofNat iloop)), .val (.ref b), .val (.int (Int32.ofNat iloop)), .val (.int (Int32.ofNat cs.length)), .val (.int (Int32.ofNat iloop)), .val (.int (cs.getD iloop 0))] [(.ref b)])) _
        refine own_go (fun _ k => XS.iloadN X24.here hx rfl (hb hby d_jdk_52_m21_27) rfl k) ?_
        show own_Go p e below (T24.setTop (mkF m 28 #[.val (.ref a), .val (.int (Int32.ofNat iloop)), .val (.ref b), .val (.int (Int32.ofNat iloop)), .val (.int (Int32.ofNat cs.length)), .val (.int (Int32.ofNat iloop)), .val (.int (cs.getD iloop 0))] [(.int (Int32.ofNat iloop)), (.ref b)])) _
        refine own_go (fun _ k => XS.iload X24.here hx rfl (hb hby d_jdk_52_m21_28) rfl k) ?_
        show own_Go p e below (T24.setTop (mkF m 30 #[.val (.ref a), .val (.int (Int32.ofNat iloop)), .val (.ref b), .val (.int (Int32.ofNat iloop)), .val (.int (Int32.ofNat cs.length)), .val (.int (Int32.ofNat iloop)), .val (.int (cs.getD iloop 0))] [(.int (cs.getD iloop 0)), (.int (Int32.ofNat iloop)), (.ref b)])) _
        refine own_go (fun _ k => XS.i2b X24.here hx rfl (hb hby d_jdk_52_m21_30) rfl k) ?_
        show own_Go p e below (T24.setTop (mkF m 31 #[.val (.ref a), .val (.int (Int32.ofNat iloop)), .val (.ref b), .val (.int (Int32.ofNat iloop)), .val (.int (Int32.ofNat cs.length)), .val (.int (Int32.ofNat iloop)), .val (.int (cs.getD iloop 0))] [(.int ((cs.getD iloop 0).toInt8.toInt32)), (.int (Int32.ofNat iloop)), (.ref b)])) _
        obtain ⟨c27, A27, q27, S27, M27, Hs27, Gs27⟩ := id J1_24
        obtain ⟨T28, h28, X28, e28, W28, st28⟩ := stB X24 hx hZ e24 A27 (j := (Int32.ofNat iloop)) (inb_of S27 (own_inb hi (by omega))) (g := (mkF m 31 #[.val (.ref a), .val (.int (Int32.ofNat iloop)), .val (.ref b), .val (.int (Int32.ofNat iloop)), .val (.int (Int32.ofNat cs.length)), .val (.int (Int32.ofNat iloop)), .val (.int (cs.getD iloop 0))] [(.int ((cs.getD iloop 0).toInt8.toInt32)), (.int (Int32.ofNat iloop)), (.ref b)])) rfl rfl (hb hby d_jdk_52_m21_31)
        refine own_go st28 ?_
        have N28 := Fr.snoc X28 N24 g_b
        have V28 : Arv Z h28 b kb .byte (Int32.ofNat cs.length) (own_part cs (iloop + 1)) (.int (0 : Int32)) := Eq.mp (congrArg (fun LL => Arv Z h28 b kb .byte (Int32.ofNat cs.length) LL (.int (0 : Int32))) (show ((own_part cs iloop) : List Value).set iloop (.int (nar .byte ((cs.getD iloop 0).toInt8.toInt32))) = (own_part cs (iloop + 1)) from (by rw [own_nb]; exact own_set1 hi))) (Arv.set A27 q27 S27 M27 Hs27 Gs27 (fits_nar_byte _) W28 iloop (own_tn (by omega)) (by rw [own_partl (by omega)]; exact hi))
        show own_Go p e below (T28.setTop (mkF m 32 #[.val (.ref a), .val (.int (Int32.ofNat iloop)), .val (.ref b), .val (.int (Int32.ofNat iloop)), .val (.int (Int32.ofNat cs.length)), .val (.int (Int32.ofNat iloop)), .val (.int (cs.getD iloop 0))] [])) _
        refine own_go (fun _ k => XS.iinc X28.here hx rfl (hb hby d_jdk_52_m21_32) rfl (l' := #[.val (.ref a), .val (.int ((Int32.ofNat iloop) + (1 : Int32))), .val (.ref b), .val (.int (Int32.ofNat iloop)), .val (.int (Int32.ofNat cs.length)), .val (.int (Int32.ofNat iloop)), .val (.int (cs.getD iloop 0))]) rfl k) ?_
        show own_Go p e below (T28.setTop (mkF m 35 #[.val (.ref a), .val (.int ((Int32.ofNat iloop) + (1 : Int32))), .val (.ref b), .val (.int (Int32.ofNat iloop)), .val (.int (Int32.ofNat cs.length)), .val (.int (Int32.ofNat iloop)), .val (.int (cs.getD iloop 0))] [])) _
        refine own_go (fun _ k => XS.iinc X28.here hx rfl (hb hby d_jdk_52_m21_35) rfl (l' := #[.val (.ref a), .val (.int ((Int32.ofNat iloop) + (1 : Int32))), .val (.ref b), .val (.int ((Int32.ofNat iloop) + (1 : Int32))), .val (.int (Int32.ofNat cs.length)), .val (.int (Int32.ofNat iloop)), .val (.int (cs.getD iloop 0))]) rfl k) ?_
        show own_Go p e below (T28.setTop (mkF m 38 #[.val (.ref a), .val (.int ((Int32.ofNat iloop) + (1 : Int32))), .val (.ref b), .val (.int ((Int32.ofNat iloop) + (1 : Int32))), .val (.int (Int32.ofNat cs.length)), .val (.int (Int32.ofNat iloop)), .val (.int (cs.getD iloop 0))] [])) _
        refine own_go (fun _ k => XS.iinc X28.here hx rfl (hb hby d_jdk_52_m21_38) rfl (l' := #[.val (.ref a), .val (.int ((Int32.ofNat iloop) + (1 : Int32))), .val (.ref b), .val (.int ((Int32.ofNat iloop) + (1 : Int32))), .val (.int (Int32.ofNat cs.length)), .val (.int ((Int32.ofNat iloop) + (1 : Int32))), .val (.int (cs.getD iloop 0))]) rfl k) ?_
        show own_Go p e below (T28.setTop (mkF m 41 #[.val (.ref a), .val (.int ((Int32.ofNat iloop) + (1 : Int32))), .val (.ref b), .val (.int ((Int32.ofNat iloop) + (1 : Int32))), .val (.int (Int32.ofNat cs.length)), .val (.int ((Int32.ofNat iloop) + (1 : Int32))), .val (.int (cs.getD iloop 0))] [])) _
        refine own_go (fun _ k => XS.goto X28.here hx rfl (pc0 := 41) (pc' := 3) rfl (hb hby d_jdk_52_m21_41) (by decide) (by decide) k) ?_
        show own_Go p e below (T28.setTop (mkF m 3 #[.val (.ref a), .val (.int ((Int32.ofNat iloop) + (1 : Int32))), .val (.ref b), .val (.int ((Int32.ofNat iloop) + (1 : Int32))), .val (.int (Int32.ofNat cs.length)), .val (.int ((Int32.ofNat iloop) + (1 : Int32))), .val (.int (cs.getD iloop 0))] [])) _
        rw [own_inc]
        have f29 := (K24.wr W28 (Or.inl (List.mem_of_getElem? (i := 0) rfl)))
        exact ih (iloop + 1) (.val (.int (cs.getD iloop 0))) T28 _ h28 (by omega) X28 e28 N28 (O24.wr W28 g_b) f29 (J0_24.other W28 hab) V28 (fun j hj => (Nat.lt_succ_iff_lt_or_eq.mp hj).elim (fun q => hall j q) (fun q => q ▸ hc26)) (Or.inr ⟨_, rfl, rfl⟩)
  exact loop (cs.length) 0 .unset s₁ _ h0 (by omega) X0 e0 N0 O0 (Keep.refl h0 [b]) V_a (own_part0 cs ▸ V_b) (fun j hj => absurd hj (Nat.not_lt_zero _)) (Or.inl rfl)

theorem d_jdk_52_m4_0 : decode jdk_52_method_4_code 0 = .ok (.getstatic 44, 3) := by decide +kernel
theorem d_jdk_52_m4_3 : decode jdk_52_method_4_code 3 = .ok (.ifCond .ne 25, 3) := by decide +kernel
theorem d_jdk_52_m4_28 : decode jdk_52_method_4_code 28 = .ok (.iload_n 1, 1) := by decide +kernel
theorem d_jdk_52_m4_29 : decode jdk_52_method_4_code 29 = .ok (.iconst 1, 1) := by decide +kernel
theorem d_jdk_52_m4_30 : decode jdk_52_method_4_code 30 = .ok (.ishl, 1) := by decide +kernel
theorem d_jdk_52_m4_31 : decode jdk_52_method_4_code 31 = .ok (.istore_n 1, 1) := by decide +kernel
theorem d_jdk_52_m4_32 : decode jdk_52_method_4_code 32 = .ok (.aload_n 0, 1) := by decide +kernel
theorem d_jdk_52_m4_33 : decode jdk_52_method_4_code 33 = .ok (.iload_n 1, 1) := by decide +kernel
theorem d_jdk_52_m4_34 : decode jdk_52_method_4_code 34 = .ok (.iinc 1 1, 3) := by decide +kernel
theorem d_jdk_52_m4_37 : decode jdk_52_method_4_code 37 = .ok (.iload_n 2, 1) := by decide +kernel
theorem d_jdk_52_m4_38 : decode jdk_52_method_4_code 38 = .ok (.getstatic 59, 3) := by decide +kernel
theorem d_jdk_52_m4_41 : decode jdk_52_method_4_code 41 = .ok (.ishr, 1) := by decide +kernel
theorem d_jdk_52_m4_42 : decode jdk_52_method_4_code 42 = .ok (.i2b, 1) := by decide +kernel
theorem d_jdk_52_m4_43 : decode jdk_52_method_4_code 43 = .ok (.bastore, 1) := by decide +kernel
theorem d_jdk_52_m4_44 : decode jdk_52_method_4_code 44 = .ok (.aload_n 0, 1) := by decide +kernel
theorem d_jdk_52_m4_45 : decode jdk_52_method_4_code 45 = .ok (.iload_n 1, 1) := by decide +kernel
theorem d_jdk_52_m4_46 : decode jdk_52_method_4_code 46 = .ok (.iload_n 2, 1) := by decide +kernel
theorem d_jdk_52_m4_47 : decode jdk_52_method_4_code 47 = .ok (.getstatic 63, 3) := by decide +kernel
theorem d_jdk_52_m4_50 : decode jdk_52_method_4_code 50 = .ok (.ishr, 1) := by decide +kernel
theorem d_jdk_52_m4_51 : decode jdk_52_method_4_code 51 = .ok (.i2b, 1) := by decide +kernel
theorem d_jdk_52_m4_52 : decode jdk_52_method_4_code 52 = .ok (.bastore, 1) := by decide +kernel
theorem d_jdk_52_m4_53 : decode jdk_52_method_4_code 53 = .ok (.return_, 1) := by decide +kernel
theorem ef_rm_put (m : MethodId) (x0 : Addr) (x1 : Int32) (x2 : Int32) : entryFrame m #[(.ref x0), (.int x1), (.int x2)] 3 = mkF m 0 #[.val (.ref x0), .val (.int x1), .val (.int x2)] [] := by
   first | (simp [entryFrame, mkF, argsToLocals, Value.category]; done) | rfl
set_option maxRecDepth 65536 in
set_option maxHeartbeats 40000000 in
theorem rm_put (l : Launch) (Z : State) (a0 : Array Value) (hw : ∀ d ∈ tables_1, d.before a0 Z = true) (ws : List Jvm.Cond) (b : Addr) (kb : ClassId) (N : Nat) (vs : List Value) (i : Nat) (c : Int32) (h0 : Heap) (n0 : Nat) (O0 : Old Z n0 h0) (OA : Sta Z Z.heap "java/lang/StringUTF16" "$assertionsDisabled" "Z" (.int (1 : Int32))) (OH : Sta Z Z.heap "java/lang/StringUTF16" "HI_BYTE_SHIFT" "I" (.int (0 : Int32))) (OL : Sta Z Z.heap "java/lang/StringUTF16" "LO_BYTE_SHIFT" "I" (.int (8 : Int32))) (V_b : Arv Z h0 b kb .byte (Int32.ofNat N) vs (.int (0 : Int32))) (g_b : n0 ≤ b) (hv : vs.length = N) (hi : 2 * i + 1 < N) (hN : N ≤ 8000) :
    MetFree l (⟨"java/lang/StringUTF16", "putChar", "([BII)V"⟩ : MethodName) (head1 (Jvm.Cond.code (⟨"java/lang/StringUTF16", "putChar", "([BII)V"⟩ : MethodName) jdk_52_method_4_code 3 none :: ws) ({ frames := 0, cells := 0, slots := 0, locals := 0 } : Room)) (fun aA U => aA = #[(.ref b), (.int (Int32.ofNat i)), (.int c)] ∧ Z.Warmed39 U.vm ∧ U.heap = h0) (fun _ _ _ _ _ => True) (fun _ U oO U' => ∃ rV rL, oO = .returned rV ∧ QPut Z b kb (Int32.ofNat N) ((vs.set (2 * i) (.int (StrChars.lo8 c))).set (2 * i + 1) (.int (StrChars.hi8 c))) h0 n0 rV U'.heap rL ∧ FrameEnd U oO U' rL 0 0) := by
  refine MetFree.of_bodySF (plainFor_of_name pn_1) hisR ?_
  intro p e s m args below meth cC s₁ Bd hml0 hP hK
  obtain ⟨rfl, hZ, hh⟩ := hP
  have hx := Bd.exec
  have hby := Bd.bytes
  have hml : cC.maxLocals = 3 := hml0
  have hown : s.vm.findClass "java/lang/StringUTF16" = some m.cls := findClass_of_methodNamed Bd.named
  have hnm := (name_of_methodNamed Bd.named Bd.method).1
  have hrt := Bd.returns
  have hlk : meth.locks = false := Bd.notSynchronized
  have X0 : Stand p l e ({ frames := 0, cells := 0, slots := 0, locals := 0 } : Room) s m #[(.ref b), (.int (Int32.ofNat i)), (.int c)] below meth cC s₁ [] 0 0 := Stand.of_body Bd
  have e0 : s₁.heap = h0 := by rw [← hh, Bd.state]; rfl
  have N0 := Fr.nil n0
  have Z0 : n0 ≤ h0.size := O0.1 ▸ O0.2.1
  show own_Go p e below (s₁.setTop (entryFrame m #[(.ref b), (.int (Int32.ofNat i)), (.int c)] 3)) (fun oO U' => ∃ rV rL, oO = .returned rV ∧ QPut Z b kb (Int32.ofNat N) ((vs.set (2 * i) (.int (StrChars.lo8 c))).set (2 * i + 1) (.int (StrChars.hi8 c))) h0 n0 rV U'.heap rL ∧ FrameEnd s oO U' rL 0 0)
  refine own_go (fun _ k => castTop (ef_rm_put m b _ c) k) ?_
  show own_Go p e below (s₁.setTop (mkF m 0 #[.val (.ref b), .val (.int (Int32.ofNat i)), .val (.int c)] [])) _
  obtain ⟨T30, X30, e30, st30⟩ := getS2 X0 hx hZ hown (host := "") (Or.inl (hw _ (List.mem_of_getElem? (i := 82) rfl))) Via.refl e0 (OA.ext O0.2) (g := (mkF m 0 #[.val (.ref b), .val (.int (Int32.ofNat i)), .val (.int c)] [])) rfl (hb hby d_jdk_52_m4_0)
  refine own_go st30 ?_
  show own_Go p e below (T30.setTop (mkF m 3 #[.val (.ref b), .val (.int (Int32.ofNat i)), .val (.int c)] [(.int (1 : Int32))])) _
  refine own_go (fun _ k => XS.ifYes X30.here hx rfl (pc0 := 3) (pc' := 28) rfl (hb hby d_jdk_52_m4_3) rfl ((if0 _ _).trans (feq (by decide : ¬ ((1 : Int32) = (0 : Int32)))).2) (by decide) (by decide) k) ?_
  show own_Go p e below (T30.setTop (mkF m 28 #[.val (.ref b), .val (.int (Int32.ofNat i)), .val (.int c)] [])) _
  refine own_go (fun _ k => XS.iloadN X30.here hx rfl (hb hby d_jdk_52_m4_28) rfl k) ?_
  show own_Go p e below (T30.setTop (mkF m 29 #[.val (.ref b), .val (.int (Int32.ofNat i)), .val (.int c)] [(.int (Int32.ofNat i))])) _
  refine own_go (fun _ k => XS.iconst X30.here hx rfl (hb hby d_jdk_52_m4_29) k) ?_
  show own_Go p e below (T30.setTop (mkF m 30 #[.val (.ref b), .val (.int (Int32.ofNat i)), .val (.int c)] [(.int (1 : Int32)), (.int (Int32.ofNat i))])) _
  refine own_go (fun _ k => XS.ishl X30.here hx rfl (hb hby d_jdk_52_m4_30) rfl k) ?_
  show own_Go p e below (T30.setTop (mkF m 31 #[.val (.ref b), .val (.int (Int32.ofNat i)), .val (.int c)] [(.int ((Int32.ofNat i) <<< ((1 : Int32) &&& 31)))])) _
  rw [own_shl1 (by omega : i ≤ 4000)]
  show own_Go p e below (T30.setTop (mkF m 31 #[.val (.ref b), .val (.int (Int32.ofNat i)), .val (.int c)] [(.int (Int32.ofNat (2 * i)))])) _
  refine own_go (fun _ k => XS.istoreN X30.here hx rfl (hb hby d_jdk_52_m4_31) rfl (l' := #[.val (.ref b), .val (.int (Int32.ofNat (2 * i))), .val (.int c)]) rfl k) ?_
  show own_Go p e below (T30.setTop (mkF m 32 #[.val (.ref b), .val (.int (Int32.ofNat (2 * i))), .val (.int c)] [])) _
  refine own_go (fun _ k => XS.aloadN X30.here hx rfl (hb hby d_jdk_52_m4_32) rfl rfl k) ?_
  show own_Go p e below (T30.setTop (mkF m 33 #[.val (.ref b), .val (.int (Int32.ofNat (2 * i))), .val (.int c)] [(.ref b)])) _
  refine own_go (fun _ k => XS.iloadN X30.here hx rfl (hb hby d_jdk_52_m4_33) rfl k) ?_
  show own_Go p e below (T30.setTop (mkF m 34 #[.val (.ref b), .val (.int (Int32.ofNat (2 * i))), .val (.int c)] [(.int (Int32.ofNat (2 * i))), (.ref b)])) _
  refine own_go (fun _ k => XS.iinc X30.here hx rfl (hb hby d_jdk_52_m4_34) rfl (l' := #[.val (.ref b), .val (.int ((Int32.ofNat (2 * i)) + (1 : Int32))), .val (.int c)]) rfl k) ?_
  show own_Go p e below (T30.setTop (mkF m 37 #[.val (.ref b), .val (.int ((Int32.ofNat (2 * i)) + (1 : Int32))), .val (.int c)] [(.int (Int32.ofNat (2 * i))), (.ref b)])) _
  rw [own_inc]
  show own_Go p e below (T30.setTop (mkF m 37 #[.val (.ref b), .val (.int (Int32.ofNat (2 * i + 1))), .val (.int c)] [(.int (Int32.ofNat (2 * i))), (.ref b)])) _
  refine own_go (fun _ k => XS.iloadN X30.here hx rfl (hb hby d_jdk_52_m4_37) rfl k) ?_
  show own_Go p e below (T30.setTop (mkF m 38 #[.val (.ref b), .val (.int (Int32.ofNat (2 * i + 1))), .val (.int c)] [(.int c), (.int (Int32.ofNat (2 * i))), (.ref b)])) _
  obtain ⟨T31, X31, e31, st31⟩ := getS2 X30 hx hZ hown (host := "") (Or.inl (hw _ (List.mem_of_getElem? (i := 83) rfl))) Via.refl e30 (OH.ext O0.2) (g := (mkF m 38 #[.val (.ref b), .val (.int (Int32.ofNat (2 * i + 1))), .val (.int c)] [(.int c), (.int (Int32.ofNat (2 * i))), (.ref b)])) rfl (hb hby d_jdk_52_m4_38)
  refine own_go st31 ?_
  show own_Go p e below (T31.setTop (mkF m 41 #[.val (.ref b), .val (.int (Int32.ofNat (2 * i + 1))), .val (.int c)] [(.int (0 : Int32)), (.int c), (.int (Int32.ofNat (2 * i))), (.ref b)])) _
  refine own_go (fun _ k => XS.ishr X31.here hx rfl (hb hby d_jdk_52_m4_41) rfl k) ?_
  show own_Go p e below (T31.setTop (mkF m 42 #[.val (.ref b), .val (.int (Int32.ofNat (2 * i + 1))), .val (.int c)] [(.int (c >>> ((0 : Int32) &&& 31))), (.int (Int32.ofNat (2 * i))), (.ref b)])) _
  refine own_go (fun _ k => XS.i2b X31.here hx rfl (hb hby d_jdk_52_m4_42) rfl k) ?_
  show own_Go p e below (T31.setTop (mkF m 43 #[.val (.ref b), .val (.int (Int32.ofNat (2 * i + 1))), .val (.int c)] [(.int ((c >>> ((0 : Int32) &&& 31)).toInt8.toInt32)), (.int (Int32.ofNat (2 * i))), (.ref b)])) _
  obtain ⟨c32, A32, q32, S32, M32, Hs32, Gs32⟩ := id V_b
  obtain ⟨T33, h33, X33, e33, W33, st33⟩ := stB X31 hx hZ e31 A32 (j := (Int32.ofNat (2 * i))) (inb_of S32 (own_inb (by omega) (by omega))) (g := (mkF m 43 #[.val (.ref b), .val (.int (Int32.ofNat (2 * i + 1))), .val (.int c)] [(.int ((c >>> ((0 : Int32) &&& 31)).toInt8.toInt32)), (.int (Int32.ofNat (2 * i))), (.ref b)])) rfl rfl (hb hby d_jdk_52_m4_43)
  refine own_go st33 ?_
  have N33 := Fr.snoc X33 N0 g_b
  have V33 : Arv Z h33 b kb .byte (Int32.ofNat N) (vs.set (2 * i) (.int (StrChars.lo8 c))) (.int (0 : Int32)) := Eq.mp (congrArg (fun LL => Arv Z h33 b kb .byte (Int32.ofNat N) LL (.int (0 : Int32))) (show (vs : List Value).set (2 * i) (.int (nar .byte ((c >>> ((0 : Int32) &&& 31)).toInt8.toInt32))) = (vs.set (2 * i) (.int (StrChars.lo8 c))) from (by rw [own_nb, StrChars.shr0]; rfl))) (Arv.set A32 q32 S32 M32 Hs32 Gs32 (fits_nar_byte _) W33 (2 * i) (own_tn (by omega)) (by omega))
  show own_Go p e below (T33.setTop (mkF m 44 #[.val (.ref b), .val (.int (Int32.ofNat (2 * i + 1))), .val (.int c)] [])) _
  refine own_go (fun _ k => XS.aloadN X33.here hx rfl (hb hby d_jdk_52_m4_44) rfl rfl k) ?_
  show own_Go p e below (T33.setTop (mkF m 45 #[.val (.ref b), .val (.int (Int32.ofNat (2 * i + 1))), .val (.int c)] [(.ref b)])) _
  refine own_go (fun _ k => XS.iloadN X33.here hx rfl (hb hby d_jdk_52_m4_45) rfl k) ?_
  show own_Go p e below (T33.setTop (mkF m 46 #[.val (.ref b), .val (.int (Int32.ofNat (2 * i + 1))), .val (.int c)] [(.int (Int32.ofNat (2 * i + 1))), (.ref b)])) _
  refine own_go (fun _ k => XS.iloadN X33.here hx rfl (hb hby d_jdk_52_m4_46) rfl k) ?_
  show own_Go p e below (T33.setTop (mkF m 47 #[.val (.ref b), .val (.int (Int32.ofNat (2 * i + 1))), .val (.int c)] [(.int c), (.int (Int32.ofNat (2 * i + 1))), (.ref b)])) _
  obtain ⟨T34, X34, e34, st34⟩ := getS2 X33 hx hZ hown (host := "") (Or.inl (hw _ (List.mem_of_getElem? (i := 84) rfl))) Via.refl e33 (OL.ext (O0.wr W33 g_b).2) (g := (mkF m 47 #[.val (.ref b), .val (.int (Int32.ofNat (2 * i + 1))), .val (.int c)] [(.int c), (.int (Int32.ofNat (2 * i + 1))), (.ref b)])) rfl (hb hby d_jdk_52_m4_47)
  refine own_go st34 ?_
  show own_Go p e below (T34.setTop (mkF m 50 #[.val (.ref b), .val (.int (Int32.ofNat (2 * i + 1))), .val (.int c)] [(.int (8 : Int32)), (.int c), (.int (Int32.ofNat (2 * i + 1))), (.ref b)])) _
  refine own_go (fun _ k => XS.ishr X34.here hx rfl (hb hby d_jdk_52_m4_50) rfl k) ?_
  show own_Go p e below (T34.setTop (mkF m 51 #[.val (.ref b), .val (.int (Int32.ofNat (2 * i + 1))), .val (.int c)] [(.int (c >>> ((8 : Int32) &&& 31))), (.int (Int32.ofNat (2 * i + 1))), (.ref b)])) _
  refine own_go (fun _ k => XS.i2b X34.here hx rfl (hb hby d_jdk_52_m4_51) rfl k) ?_
  show own_Go p e below (T34.setTop (mkF m 52 #[.val (.ref b), .val (.int (Int32.ofNat (2 * i + 1))), .val (.int c)] [(.int ((c >>> ((8 : Int32) &&& 31)).toInt8.toInt32)), (.int (Int32.ofNat (2 * i + 1))), (.ref b)])) _
  obtain ⟨c35, A35, q35, S35, M35, Hs35, Gs35⟩ := id V33
  obtain ⟨T36, h36, X36, e36, W36, st36⟩ := stB X34 hx hZ e34 A35 (j := (Int32.ofNat (2 * i + 1))) (inb_of S35 (own_inb (by omega) (by omega))) (g := (mkF m 52 #[.val (.ref b), .val (.int (Int32.ofNat (2 * i + 1))), .val (.int c)] [(.int ((c >>> ((8 : Int32) &&& 31)).toInt8.toInt32)), (.int (Int32.ofNat (2 * i + 1))), (.ref b)])) rfl rfl (hb hby d_jdk_52_m4_52)
  refine own_go st36 ?_
  have N36 := Fr.snoc X36 N33 g_b
  have V36 : Arv Z h36 b kb .byte (Int32.ofNat N) ((vs.set (2 * i) (.int (StrChars.lo8 c))).set (2 * i + 1) (.int (StrChars.hi8 c))) (.int (0 : Int32)) := Eq.mp (congrArg (fun LL => Arv Z h36 b kb .byte (Int32.ofNat N) LL (.int (0 : Int32))) (show ((vs.set (2 * i) (.int (StrChars.lo8 c))) : List Value).set (2 * i + 1) (.int (nar .byte ((c >>> ((8 : Int32) &&& 31)).toInt8.toInt32))) = ((vs.set (2 * i) (.int (StrChars.lo8 c))).set (2 * i + 1) (.int (StrChars.hi8 c))) from (by rw [own_nb]; rfl))) (Arv.set A35 q35 S35 M35 Hs35 Gs35 (fits_nar_byte _) W36 (2 * i + 1) (own_tn (by omega)) (by rw [List.length_set]; omega))
  show own_Go p e below (T36.setTop (mkF m 53 #[.val (.ref b), .val (.int (Int32.ofNat (2 * i + 1))), .val (.int c)] [])) _
  have f37 := (((Keep.refl h0 [b]).wr W33 (Or.inl (List.mem_of_getElem? (i := 0) rfl))).wr W36 (Or.inl (List.mem_of_getElem? (i := 0) rfl)))
  refine own_fin (v := none) X36 (fun _ => rfl) hlk (fun fs hr => X36.returnOut hx hrt (hb hby d_jdk_52_m4_53) hr) (QQ := QPut Z b kb (Int32.ofNat N) ((vs.set (2 * i) (.int (StrChars.lo8 c))).set (2 * i + 1) (.int (StrChars.hi8 c))) h0 n0) ?_ (by decide) (by decide)
  rw [e36]
  exact ⟨rfl, N36, f37, V36⟩

theorem d_jdk_52_m5_0 : decode jdk_52_method_5_code 0 = .ok (.getstatic 44, 3) := by decide +kernel
theorem d_jdk_52_m5_3 : decode jdk_52_method_5_code 3 = .ok (.ifCond .ne 25, 3) := by decide +kernel
theorem d_jdk_52_m5_28 : decode jdk_52_method_5_code 28 = .ok (.iload_n 1, 1) := by decide +kernel
theorem d_jdk_52_m5_29 : decode jdk_52_method_5_code 29 = .ok (.iconst 1, 1) := by decide +kernel
theorem d_jdk_52_m5_30 : decode jdk_52_method_5_code 30 = .ok (.ishl, 1) := by decide +kernel
theorem d_jdk_52_m5_31 : decode jdk_52_method_5_code 31 = .ok (.istore_n 1, 1) := by decide +kernel
theorem d_jdk_52_m5_32 : decode jdk_52_method_5_code 32 = .ok (.aload_n 0, 1) := by decide +kernel
theorem d_jdk_52_m5_33 : decode jdk_52_method_5_code 33 = .ok (.iload_n 1, 1) := by decide +kernel
theorem d_jdk_52_m5_34 : decode jdk_52_method_5_code 34 = .ok (.iinc 1 1, 3) := by decide +kernel
theorem d_jdk_52_m5_37 : decode jdk_52_method_5_code 37 = .ok (.baload, 1) := by decide +kernel
theorem d_jdk_52_m5_38 : decode jdk_52_method_5_code 38 = .ok (.sipush 255, 3) := by decide +kernel
theorem d_jdk_52_m5_41 : decode jdk_52_method_5_code 41 = .ok (.iand, 1) := by decide +kernel
theorem d_jdk_52_m5_42 : decode jdk_52_method_5_code 42 = .ok (.getstatic 59, 3) := by decide +kernel
theorem d_jdk_52_m5_45 : decode jdk_52_method_5_code 45 = .ok (.ishl, 1) := by decide +kernel
theorem d_jdk_52_m5_46 : decode jdk_52_method_5_code 46 = .ok (.aload_n 0, 1) := by decide +kernel
theorem d_jdk_52_m5_47 : decode jdk_52_method_5_code 47 = .ok (.iload_n 1, 1) := by decide +kernel
theorem d_jdk_52_m5_48 : decode jdk_52_method_5_code 48 = .ok (.baload, 1) := by decide +kernel
theorem d_jdk_52_m5_49 : decode jdk_52_method_5_code 49 = .ok (.sipush 255, 3) := by decide +kernel
theorem d_jdk_52_m5_52 : decode jdk_52_method_5_code 52 = .ok (.iand, 1) := by decide +kernel
theorem d_jdk_52_m5_53 : decode jdk_52_method_5_code 53 = .ok (.getstatic 63, 3) := by decide +kernel
theorem d_jdk_52_m5_56 : decode jdk_52_method_5_code 56 = .ok (.ishl, 1) := by decide +kernel
theorem d_jdk_52_m5_57 : decode jdk_52_method_5_code 57 = .ok (.ior, 1) := by decide +kernel
theorem d_jdk_52_m5_58 : decode jdk_52_method_5_code 58 = .ok (.i2c, 1) := by decide +kernel
theorem d_jdk_52_m5_59 : decode jdk_52_method_5_code 59 = .ok (.ireturn, 1) := by decide +kernel
theorem ef_rm_get (m : MethodId) (x0 : Addr) (x1 : Int32) : entryFrame m #[(.ref x0), (.int x1)] 2 = mkF m 0 #[.val (.ref x0), .val (.int x1)] [] := by
   first | (simp [entryFrame, mkF, argsToLocals, Value.category]; done) | rfl
set_option maxRecDepth 65536 in
set_option maxHeartbeats 40000000 in
theorem rm_get (l : Launch) (Z : State) (a0 : Array Value) (hw : ∀ d ∈ tables_1, d.before a0 Z = true) (ws : List Jvm.Cond) (b : Addr) (kb : ClassId) (N : Nat) (vs : List Value) (i : Nat) (c : Int32) (h0 : Heap) (n0 : Nat) (O0 : Old Z n0 h0) (OA : Sta Z Z.heap "java/lang/StringUTF16" "$assertionsDisabled" "Z" (.int (1 : Int32))) (OH : Sta Z Z.heap "java/lang/StringUTF16" "HI_BYTE_SHIFT" "I" (.int (0 : Int32))) (OL : Sta Z Z.heap "java/lang/StringUTF16" "LO_BYTE_SHIFT" "I" (.int (8 : Int32))) (V_b : Arv Z h0 b kb .byte (Int32.ofNat N) vs (.int (0 : Int32))) (h1 : vs.getD (2 * i) (.int (0 : Int32)) = .int (StrChars.lo8 c)) (h2 : vs.getD (2 * i + 1) (.int (0 : Int32)) = .int (StrChars.hi8 c)) (hi : 2 * i + 1 < N) (hN : N ≤ 8000) (hc : ¬ c < 0 ∧ ¬ (65535 : Int32) < c) :
    MetFree l (⟨"java/lang/StringUTF16", "getChar", "([BI)C"⟩ : MethodName) (head1 (Jvm.Cond.code (⟨"java/lang/StringUTF16", "getChar", "([BI)C"⟩ : MethodName) jdk_52_method_5_code 2 (some .char) :: ws) ({ frames := 0, cells := 0, slots := 0, locals := 0 } : Room)) (fun aA U => aA = #[(.ref b), (.int (Int32.ofNat i))] ∧ Z.Warmed39 U.vm ∧ U.heap = h0) (fun _ _ _ _ _ => True) (fun _ U oO U' => ∃ rV rL, oO = .returned rV ∧ QPure (some (.int c)) h0 n0 rV U'.heap rL ∧ FrameEnd U oO U' rL 0 0) := by
  refine MetFree.of_bodySF (plainFor_of_name pn_1) hisR ?_
  intro p e s m args below meth cC s₁ Bd hml0 hP hK
  obtain ⟨rfl, hZ, hh⟩ := hP
  have hx := Bd.exec
  have hby := Bd.bytes
  have hml : cC.maxLocals = 2 := hml0
  have hown : s.vm.findClass "java/lang/StringUTF16" = some m.cls := findClass_of_methodNamed Bd.named
  have hnm := (name_of_methodNamed Bd.named Bd.method).1
  have hrt := Bd.returns
  have hlk : meth.locks = false := Bd.notSynchronized
  have X0 : Stand p l e ({ frames := 0, cells := 0, slots := 0, locals := 0 } : Room) s m #[(.ref b), (.int (Int32.ofNat i))] below meth cC s₁ [] 0 0 := Stand.of_body Bd
  have e0 : s₁.heap = h0 := by rw [← hh, Bd.state]; rfl
  have N0 := Fr.nil n0
  have Z0 : n0 ≤ h0.size := O0.1 ▸ O0.2.1
  show own_Go p e below (s₁.setTop (entryFrame m #[(.ref b), (.int (Int32.ofNat i))] 2)) (fun oO U' => ∃ rV rL, oO = .returned rV ∧ QPure (some (.int c)) h0 n0 rV U'.heap rL ∧ FrameEnd s oO U' rL 0 0)
  refine own_go (fun _ k => castTop (ef_rm_get m b _) k) ?_
  show own_Go p e below (s₁.setTop (mkF m 0 #[.val (.ref b), .val (.int (Int32.ofNat i))] [])) _
  obtain ⟨T38, X38, e38, st38⟩ := getS2 X0 hx hZ hown (host := "") (Or.inl (hw _ (List.mem_of_getElem? (i := 82) rfl))) Via.refl e0 (OA.ext O0.2) (g := (mkF m 0 #[.val (.ref b), .val (.int (Int32.ofNat i))] [])) rfl (hb hby d_jdk_52_m5_0)
  refine own_go st38 ?_
  show own_Go p e below (T38.setTop (mkF m 3 #[.val (.ref b), .val (.int (Int32.ofNat i))] [(.int (1 : Int32))])) _
  refine own_go (fun _ k => XS.ifYes X38.here hx rfl (pc0 := 3) (pc' := 28) rfl (hb hby d_jdk_52_m5_3) rfl ((if0 _ _).trans (feq (by decide : ¬ ((1 : Int32) = (0 : Int32)))).2) (by decide) (by decide) k) ?_
  show own_Go p e below (T38.setTop (mkF m 28 #[.val (.ref b), .val (.int (Int32.ofNat i))] [])) _
  refine own_go (fun _ k => XS.iloadN X38.here hx rfl (hb hby d_jdk_52_m5_28) rfl k) ?_
  show own_Go p e below (T38.setTop (mkF m 29 #[.val (.ref b), .val (.int (Int32.ofNat i))] [(.int (Int32.ofNat i))])) _
  refine own_go (fun _ k => XS.iconst X38.here hx rfl (hb hby d_jdk_52_m5_29) k) ?_
  show own_Go p e below (T38.setTop (mkF m 30 #[.val (.ref b), .val (.int (Int32.ofNat i))] [(.int (1 : Int32)), (.int (Int32.ofNat i))])) _
  refine own_go (fun _ k => XS.ishl X38.here hx rfl (hb hby d_jdk_52_m5_30) rfl k) ?_
  show own_Go p e below (T38.setTop (mkF m 31 #[.val (.ref b), .val (.int (Int32.ofNat i))] [(.int ((Int32.ofNat i) <<< ((1 : Int32) &&& 31)))])) _
  rw [own_shl1 (by omega : i ≤ 4000)]
  show own_Go p e below (T38.setTop (mkF m 31 #[.val (.ref b), .val (.int (Int32.ofNat i))] [(.int (Int32.ofNat (2 * i)))])) _
  refine own_go (fun _ k => XS.istoreN X38.here hx rfl (hb hby d_jdk_52_m5_31) rfl (l' := #[.val (.ref b), .val (.int (Int32.ofNat (2 * i)))]) rfl k) ?_
  show own_Go p e below (T38.setTop (mkF m 32 #[.val (.ref b), .val (.int (Int32.ofNat (2 * i)))] [])) _
  refine own_go (fun _ k => XS.aloadN X38.here hx rfl (hb hby d_jdk_52_m5_32) rfl rfl k) ?_
  show own_Go p e below (T38.setTop (mkF m 33 #[.val (.ref b), .val (.int (Int32.ofNat (2 * i)))] [(.ref b)])) _
  refine own_go (fun _ k => XS.iloadN X38.here hx rfl (hb hby d_jdk_52_m5_33) rfl k) ?_
  show own_Go p e below (T38.setTop (mkF m 34 #[.val (.ref b), .val (.int (Int32.ofNat (2 * i)))] [(.int (Int32.ofNat (2 * i))), (.ref b)])) _
  refine own_go (fun _ k => XS.iinc X38.here hx rfl (hb hby d_jdk_52_m5_34) rfl (l' := #[.val (.ref b), .val (.int ((Int32.ofNat (2 * i)) + (1 : Int32)))]) rfl k) ?_
  show own_Go p e below (T38.setTop (mkF m 37 #[.val (.ref b), .val (.int ((Int32.ofNat (2 * i)) + (1 : Int32)))] [(.int (Int32.ofNat (2 * i))), (.ref b)])) _
  rw [own_inc]
  show own_Go p e below (T38.setTop (mkF m 37 #[.val (.ref b), .val (.int (Int32.ofNat (2 * i + 1)))] [(.int (Int32.ofNat (2 * i))), (.ref b)])) _
  obtain ⟨c39, A39, q39, S39, M39, Hs39, Gs39⟩ := id V_b
  have hi39 := inb_of (j := (Int32.ofNat (2 * i))) S39 (own_inb (by omega) (by omega))
  refine own_go (fun _ k => X38.baloadBytes hx (j := (Int32.ofNat (2 * i))) (v := (.int (StrChars.lo8 c))) (by rw [e38]; exact A39.1) (State.isArrayOf_alike hZ.alike A39.2.1) A39.2.2 hi39 (Has.at Hs39 hi39 (by rw [own_tn (by omega)]; exact h1)) (g := (mkF m 37 #[.val (.ref b), .val (.int (Int32.ofNat (2 * i + 1)))] [(.int (Int32.ofNat (2 * i))), (.ref b)])) rfl rfl (hb hby d_jdk_52_m5_37) _ k) ?_
  show own_Go p e below (T38.setTop (mkF m 38 #[.val (.ref b), .val (.int (Int32.ofNat (2 * i + 1)))] [(.int (StrChars.lo8 c))])) _
  refine own_go (fun _ k => XS.sipush X38.here hx rfl (hb hby d_jdk_52_m5_38) k) ?_
  show own_Go p e below (T38.setTop (mkF m 41 #[.val (.ref b), .val (.int (Int32.ofNat (2 * i + 1)))] [(.int (255 : Int32)), (.int (StrChars.lo8 c))])) _
  refine own_go (fun _ k => XS.iand X38.here hx rfl (hb hby d_jdk_52_m5_41) rfl k) ?_
  show own_Go p e below (T38.setTop (mkF m 42 #[.val (.ref b), .val (.int (Int32.ofNat (2 * i + 1)))] [(.int ((StrChars.lo8 c) &&& (255 : Int32)))])) _
  obtain ⟨T40, X40, e40, st40⟩ := getS2 X38 hx hZ hown (host := "") (Or.inl (hw _ (List.mem_of_getElem? (i := 83) rfl))) Via.refl e38 (OH.ext O0.2) (g := (mkF m 42 #[.val (.ref b), .val (.int (Int32.ofNat (2 * i + 1)))] [(.int ((StrChars.lo8 c) &&& (255 : Int32)))])) rfl (hb hby d_jdk_52_m5_42)
  refine own_go st40 ?_
  show own_Go p e below (T40.setTop (mkF m 45 #[.val (.ref b), .val (.int (Int32.ofNat (2 * i + 1)))] [(.int (0 : Int32)), (.int ((StrChars.lo8 c) &&& (255 : Int32)))])) _
  refine own_go (fun _ k => XS.ishl X40.here hx rfl (hb hby d_jdk_52_m5_45) rfl k) ?_
  show own_Go p e below (T40.setTop (mkF m 46 #[.val (.ref b), .val (.int (Int32.ofNat (2 * i + 1)))] [(.int (((StrChars.lo8 c) &&& (255 : Int32)) <<< ((0 : Int32) &&& 31)))])) _
  refine own_go (fun _ k => XS.aloadN X40.here hx rfl (hb hby d_jdk_52_m5_46) rfl rfl k) ?_
  show own_Go p e below (T40.setTop (mkF m 47 #[.val (.ref b), .val (.int (Int32.ofNat (2 * i + 1)))] [(.ref b), (.int (((StrChars.lo8 c) &&& (255 : Int32)) <<< ((0 : Int32) &&& 31)))])) _
  refine own_go (fun _ k => XS.iloadN X40.here hx rfl (hb hby d_jdk_52_m5_47) rfl k) ?_
  show own_Go p e below (T40.setTop (mkF m 48 #[.val (.ref b), .val (.int (Int32.ofNat (2 * i + 1)))] [(.int (Int32.ofNat (2 * i + 1))), (.ref b), (.int (((StrChars.lo8 c) &&& (255 : Int32)) <<< ((0 : Int32) &&& 31)))])) _
  obtain ⟨c41, A41, q41, S41, M41, Hs41, Gs41⟩ := id V_b
  have hi41 := inb_of (j := (Int32.ofNat (2 * i + 1))) S41 (own_inb (by omega) (by omega))
  refine own_go (fun _ k => X40.baloadBytes hx (j := (Int32.ofNat (2 * i + 1))) (v := (.int (StrChars.hi8 c))) (by rw [e40]; exact A41.1) (State.isArrayOf_alike hZ.alike A41.2.1) A41.2.2 hi41 (Has.at Hs41 hi41 (by rw [own_tn (by omega)]; exact h2)) (g := (mkF m 48 #[.val (.ref b), .val (.int (Int32.ofNat (2 * i + 1)))] [(.int (Int32.ofNat (2 * i + 1))), (.ref b), (.int (((StrChars.lo8 c) &&& (255 : Int32)) <<< ((0 : Int32) &&& 31)))])) rfl rfl (hb hby d_jdk_52_m5_48) _ k) ?_
  show own_Go p e below (T40.setTop (mkF m 49 #[.val (.ref b), .val (.int (Int32.ofNat (2 * i + 1)))] [(.int (StrChars.hi8 c)), (.int (((StrChars.lo8 c) &&& (255 : Int32)) <<< ((0 : Int32) &&& 31)))])) _
  refine own_go (fun _ k => XS.sipush X40.here hx rfl (hb hby d_jdk_52_m5_49) k) ?_
  show own_Go p e below (T40.setTop (mkF m 52 #[.val (.ref b), .val (.int (Int32.ofNat (2 * i + 1)))] [(.int (255 : Int32)), (.int (StrChars.hi8 c)), (.int (((StrChars.lo8 c) &&& (255 : Int32)) <<< ((0 : Int32) &&& 31)))])) _
  refine own_go (fun _ k => XS.iand X40.here hx rfl (hb hby d_jdk_52_m5_52) rfl k) ?_
  show own_Go p e below (T40.setTop (mkF m 53 #[.val (.ref b), .val (.int (Int32.ofNat (2 * i + 1)))] [(.int ((StrChars.hi8 c) &&& (255 : Int32))), (.int (((StrChars.lo8 c) &&& (255 : Int32)) <<< ((0 : Int32) &&& 31)))])) _
  obtain ⟨T42, X42, e42, st42⟩ := getS2 X40 hx hZ hown (host := "") (Or.inl (hw _ (List.mem_of_getElem? (i := 84) rfl))) Via.refl e40 (OL.ext O0.2) (g := (mkF m 53 #[.val (.ref b), .val (.int (Int32.ofNat (2 * i + 1)))] [(.int ((StrChars.hi8 c) &&& (255 : Int32))), (.int (((StrChars.lo8 c) &&& (255 : Int32)) <<< ((0 : Int32) &&& 31)))])) rfl (hb hby d_jdk_52_m5_53)
  refine own_go st42 ?_
  show own_Go p e below (T42.setTop (mkF m 56 #[.val (.ref b), .val (.int (Int32.ofNat (2 * i + 1)))] [(.int (8 : Int32)), (.int ((StrChars.hi8 c) &&& (255 : Int32))), (.int (((StrChars.lo8 c) &&& (255 : Int32)) <<< ((0 : Int32) &&& 31)))])) _
  refine own_go (fun _ k => XS.ishl X42.here hx rfl (hb hby d_jdk_52_m5_56) rfl k) ?_
  show own_Go p e below (T42.setTop (mkF m 57 #[.val (.ref b), .val (.int (Int32.ofNat (2 * i + 1)))] [(.int (((StrChars.hi8 c) &&& (255 : Int32)) <<< ((8 : Int32) &&& 31))), (.int (((StrChars.lo8 c) &&& (255 : Int32)) <<< ((0 : Int32) &&& 31)))])) _
  refine own_go (fun _ k => XS.ior X42.here hx rfl (hb hby d_jdk_52_m5_57) rfl k) ?_
  show own_Go p e below (T42.setTop (mkF m 58 #[.val (.ref b), .val (.int (Int32.ofNat (2 * i + 1)))] [(.int ((((StrChars.lo8 c) &&& (255 : Int32)) <<< ((0 : Int32) &&& 31)) ||| (((StrChars.hi8 c) &&& (255 : Int32)) <<< ((8 : Int32) &&& 31))))])) _
  refine own_go (fun _ k => XS.i2c X42.here hx rfl (hb hby d_jdk_52_m5_58) rfl k) ?_
  show own_Go p e below (T42.setTop (mkF m 59 #[.val (.ref b), .val (.int (Int32.ofNat (2 * i + 1)))] [(.int (((((StrChars.lo8 c) &&& (255 : Int32)) <<< ((0 : Int32) &&& 31)) ||| (((StrChars.hi8 c) &&& (255 : Int32)) <<< ((8 : Int32) &&& 31))).toUInt32.toUInt16.toUInt32.toInt32))])) _
  refine own_fin (v := (some (.int (nar .char (((((StrChars.lo8 c) &&& (255 : Int32)) <<< ((0 : Int32) &&& 31)) ||| (((StrChars.hi8 c) &&& (255 : Int32)) <<< ((8 : Int32) &&& 31))).toUInt32.toUInt16.toUInt32.toInt32))))) X42 (fun h => by rw [hrt] at h; cases h) hlk (fun fs hr => retN X42 hx (t := .char) hrt (by simp) (hb hby d_jdk_52_m5_59) hr) (QQ := QPure (some (.int c)) h0 n0) ?_ (by decide) (by decide)
  rw [e42]
  exact ⟨congrArg (fun z => some (Value.int z)) ((congrArg (nar .char) (StrChars.pair_says hc.1 hc.2)).trans (own_nc hc.1 hc.2)), N0, rfl⟩

theorem d_jdk_52_m3_0 : decode jdk_52_method_3_code 0 = .ok (.iload_n 0, 1) := by decide +kernel
theorem d_jdk_52_m3_1 : decode jdk_52_method_3_code 1 = .ok (.ifCond .ge 11, 3) := by decide +kernel
theorem d_jdk_52_m3_12 : decode jdk_52_method_3_code 12 = .ok (.iload_n 0, 1) := by decide +kernel
theorem d_jdk_52_m3_13 : decode jdk_52_method_3_code 13 = .ok (.ldc 20, 2) := by decide +kernel
theorem d_jdk_52_m3_15 : decode jdk_52_method_3_code 15 = .ok (.if_icmp .lt 40, 3) := by decide +kernel
theorem d_jdk_52_m3_55 : decode jdk_52_method_3_code 55 = .ok (.iload_n 0, 1) := by decide +kernel
theorem d_jdk_52_m3_56 : decode jdk_52_method_3_code 56 = .ok (.iconst 1, 1) := by decide +kernel
theorem d_jdk_52_m3_57 : decode jdk_52_method_3_code 57 = .ok (.ishl, 1) := by decide +kernel
theorem d_jdk_52_m3_58 : decode jdk_52_method_3_code 58 = .ok (.ireturn, 1) := by decide +kernel
theorem ef_rm_nbl (m : MethodId) (x0 : Int32) : entryFrame m #[(.int x0)] 1 = mkF m 0 #[.val (.int x0)] [] := by
   first | (simp [entryFrame, mkF, argsToLocals, Value.category]; done) | rfl
set_option maxRecDepth 65536 in
set_option maxHeartbeats 40000000 in
theorem rm_nbl (l : Launch) (Z : State) (a0 : Array Value) (hw : ∀ d ∈ tables_1, d.before a0 Z = true) (ws : List Jvm.Cond) (n : Nat) (h0 : Heap) (n0 : Nat) (O0 : Old Z n0 h0) (hn : n ≤ 4000) :
    MetFree l (⟨"java/lang/StringUTF16", "newBytesLength", "(I)I"⟩ : MethodName) (head1 (Jvm.Cond.code (⟨"java/lang/StringUTF16", "newBytesLength", "(I)I"⟩ : MethodName) jdk_52_method_3_code 1 (some .int) :: ws) ({ frames := 0, cells := 0, slots := 0, locals := 0 } : Room)) (fun aA U => aA = #[(.int (Int32.ofNat n))] ∧ Z.Warmed39 U.vm ∧ U.heap = h0) (fun _ _ _ _ _ => True) (fun _ U oO U' => ∃ rV rL, oO = .returned rV ∧ QPure (some (.int (Int32.ofNat (2 * n)))) h0 n0 rV U'.heap rL ∧ FrameEnd U oO U' rL 0 0) := by
  refine MetFree.of_bodySF (plainFor_of_name pn_1) hisR ?_
  intro p e s m args below meth cC s₁ Bd hml0 hP hK
  obtain ⟨rfl, hZ, hh⟩ := hP
  have hx := Bd.exec
  have hby := Bd.bytes
  have hml : cC.maxLocals = 1 := hml0
  have hown : s.vm.findClass "java/lang/StringUTF16" = some m.cls := findClass_of_methodNamed Bd.named
  have hnm := (name_of_methodNamed Bd.named Bd.method).1
  have hrt := Bd.returns
  have hlk : meth.locks = false := Bd.notSynchronized
  have X0 : Stand p l e ({ frames := 0, cells := 0, slots := 0, locals := 0 } : Room) s m #[(.int (Int32.ofNat n))] below meth cC s₁ [] 0 0 := Stand.of_body Bd
  have e0 : s₁.heap = h0 := by rw [← hh, Bd.state]; rfl
  have N0 := Fr.nil n0
  have Z0 : n0 ≤ h0.size := O0.1 ▸ O0.2.1
  show own_Go p e below (s₁.setTop (entryFrame m #[(.int (Int32.ofNat n))] 1)) (fun oO U' => ∃ rV rL, oO = .returned rV ∧ QPure (some (.int (Int32.ofNat (2 * n)))) h0 n0 rV U'.heap rL ∧ FrameEnd s oO U' rL 0 0)
  refine own_go (fun _ k => castTop (ef_rm_nbl m _) k) ?_
  show own_Go p e below (s₁.setTop (mkF m 0 #[.val (.int (Int32.ofNat n))] [])) _
  refine own_go (fun _ k => XS.iloadN X0.here hx rfl (hb hby d_jdk_52_m3_0) rfl k) ?_
  show own_Go p e below (s₁.setTop (mkF m 1 #[.val (.int (Int32.ofNat n))] [(.int (Int32.ofNat n))])) _
  refine own_go (fun _ k => XS.ifYes X0.here hx rfl (pc0 := 1) (pc' := 12) rfl (hb hby d_jdk_52_m3_1) rfl ((if0 _ _).trans (flt (own_nn0 (by omega))).2.1) (by decide) (by decide) k) ?_
  show own_Go p e below (s₁.setTop (mkF m 12 #[.val (.int (Int32.ofNat n))] [])) _
  refine own_go (fun _ k => XS.iloadN X0.here hx rfl (hb hby d_jdk_52_m3_12) rfl k) ?_
  show own_Go p e below (s₁.setTop (mkF m 13 #[.val (.int (Int32.ofNat n))] [(.int (Int32.ofNat n))])) _
  refine own_go (fun _ k => X0.ldcInt hx hown (mvT hZ (hw _ (List.mem_of_getElem? (i := 78) rfl))) (g := (mkF m 13 #[.val (.int (Int32.ofNat n))] [(.int (Int32.ofNat n))])) rfl (hb hby d_jdk_52_m3_13) _ k) ?_
  show own_Go p e below (s₁.setTop (mkF m 15 #[.val (.int (Int32.ofNat n))] [(.int (1073741823 : Int32)), (.int (Int32.ofNat n))])) _
  refine own_go (fun _ k => XS.icmpYes X0.here hx rfl (pc0 := 15) (pc' := 55) rfl (hb hby d_jdk_52_m3_15) rfl (tlt ((own_lti (j := 1073741823) (by omega) (by decide)).mpr (by omega))).1 (by decide) (by decide) k) ?_
  show own_Go p e below (s₁.setTop (mkF m 55 #[.val (.int (Int32.ofNat n))] [])) _
  refine own_go (fun _ k => XS.iloadN X0.here hx rfl (hb hby d_jdk_52_m3_55) rfl k) ?_
  show own_Go p e below (s₁.setTop (mkF m 56 #[.val (.int (Int32.ofNat n))] [(.int (Int32.ofNat n))])) _
  refine own_go (fun _ k => XS.iconst X0.here hx rfl (hb hby d_jdk_52_m3_56) k) ?_
  show own_Go p e below (s₁.setTop (mkF m 57 #[.val (.int (Int32.ofNat n))] [(.int (1 : Int32)), (.int (Int32.ofNat n))])) _
  refine own_go (fun _ k => XS.ishl X0.here hx rfl (hb hby d_jdk_52_m3_57) rfl k) ?_
  show own_Go p e below (s₁.setTop (mkF m 58 #[.val (.int (Int32.ofNat n))] [(.int ((Int32.ofNat n) <<< ((1 : Int32) &&& 31)))])) _
  refine own_fin (v := (some (.int ((Int32.ofNat n) <<< ((1 : Int32) &&& 31))))) X0 (fun h => by rw [hrt] at h; cases h) hlk (fun fs hr => retI X0 hx hrt (hb hby d_jdk_52_m3_58) hr) (QQ := QPure (some (.int (Int32.ofNat (2 * n)))) h0 n0) ?_ (by decide) (by decide)
  rw [e0]
  exact ⟨congrArg (fun z => some (Value.int z)) (own_shl1 hn), N0, rfl⟩

theorem d_jdk_52_m2_0 : decode jdk_52_method_2_code 0 = .ok (.iload_n 0, 1) := by decide +kernel
theorem d_jdk_52_m2_1 : decode jdk_52_method_2_code 1 = .ok (.invokestatic 11, 3) := by decide +kernel
theorem pd_1 : parseMethodDescriptor "(I)I" = some ⟨[.int], some .int⟩ := by decide +kernel
theorem d_jdk_52_m2_4 : decode jdk_52_method_2_code 4 = .ok (.newarray .byte, 2) := by decide +kernel
theorem d_jdk_52_m2_6 : decode jdk_52_method_2_code 6 = .ok (.areturn, 1) := by decide +kernel
theorem ef_rm_nbf (m : MethodId) (x0 : Int32) : entryFrame m #[(.int x0)] 1 = mkF m 0 #[.val (.int x0)] [] := by
   first | (simp [entryFrame, mkF, argsToLocals, Value.category]; done) | rfl
set_option maxRecDepth 65536 in
set_option maxHeartbeats 40000000 in
theorem rm_nbf (l : Launch) (Z : State) (a0 : Array Value) (hw : ∀ d ∈ tables_1, d.before a0 Z = true) (ws : List Jvm.Cond) (n : Nat) (h0 : Heap) (n0 : Nat) (O0 : Old Z n0 h0) (hn : n ≤ 3) :
    MetFree l (⟨"java/lang/StringUTF16", "newBytesFor", "(I)[B"⟩ : MethodName) (head1 (Jvm.Cond.code (⟨"java/lang/StringUTF16", "newBytesFor", "(I)[B"⟩ : MethodName) jdk_52_method_2_code 1 (some (.array .byte)) :: ws) ({ frames := 1, cells := 1, slots := 6, locals := 12 } : Room)) (fun aA U => aA = #[(.int (Int32.ofNat n))] ∧ Z.Warmed39 U.vm ∧ U.heap = h0) (fun _ _ _ _ _ => True) (fun _ U oO U' => ∃ rV rL, oO = .returned rV ∧ QNew Z (Int32.ofNat (2 * n)) (List.replicate (2 * n) (.int (0 : Int32))) h0 n0 rV U'.heap rL ∧ FrameEnd U oO U' rL 1 6) := by
  refine MetFree.of_bodySF (plainFor_of_name pn_1) hisR ?_
  intro p e s m args below meth cC s₁ Bd hml0 hP hK
  obtain ⟨rfl, hZ, hh⟩ := hP
  have hx := Bd.exec
  have hby := Bd.bytes
  have hml : cC.maxLocals = 1 := hml0
  have hown : s.vm.findClass "java/lang/StringUTF16" = some m.cls := findClass_of_methodNamed Bd.named
  have hnm := (name_of_methodNamed Bd.named Bd.method).1
  have hrt := Bd.returns
  have hlk : meth.locks = false := Bd.notSynchronized
  have X0 : Stand p l e ({ frames := 1, cells := 1, slots := 6, locals := 12 } : Room) s m #[(.int (Int32.ofNat n))] below meth cC s₁ [] 0 0 := Stand.of_body Bd
  have e0 : s₁.heap = h0 := by rw [← hh, Bd.state]; rfl
  have N0 := Fr.nil n0
  have Z0 : n0 ≤ h0.size := O0.1 ▸ O0.2.1
  show own_Go p e below (s₁.setTop (entryFrame m #[(.int (Int32.ofNat n))] 1)) (fun oO U' => ∃ rV rL, oO = .returned rV ∧ QNew Z (Int32.ofNat (2 * n)) (List.replicate (2 * n) (.int (0 : Int32))) h0 n0 rV U'.heap rL ∧ FrameEnd s oO U' rL 1 6)
  refine own_go (fun _ k => castTop (ef_rm_nbf m _) k) ?_
  show own_Go p e below (s₁.setTop (mkF m 0 #[.val (.int (Int32.ofNat n))] [])) _
  refine own_go (fun _ k => XS.iloadN X0.here hx rfl (hb hby d_jdk_52_m2_0) rfl k) ?_
  show own_Go p e below (s₁.setTop (mkF m 1 #[.val (.int (Int32.ofNat n))] [(.int (Int32.ofNat n))])) _
  obtain ⟨v43, _, ⟨T43, L43, k43, n43⟩, -, X43, ⟨Lc43, hQ43, l43, y43, z43⟩, st43⟩ := Jvm.LawKit.callS X0 hx (y := (⟨"java/lang/StringUTF16", "newBytesLength", "(I)I"⟩ : MethodName)) hown (mvT hZ (hw _ (List.mem_of_getElem? (i := 75) rfl))) (mvT hZ (hw _ (List.mem_of_getElem? (i := 76) rfl))) (mvT hZ (hw _ (List.mem_of_getElem? (i := 64) rfl))) (mvT hZ (hw _ (List.mem_of_getElem? (i := 77) rfl))) (by decide) (backOf (W := 0) (rm_nbl l Z a0 hw [] n h0 n0 O0 (by omega)) hZ (hw _ (List.mem_of_getElem? (i := 77) rfl)) (hw _ (List.mem_of_getElem? (i := 64) rfl)) (by decide) (by decide)) (g := (mkF m 1 #[.val (.int (Int32.ofNat n))] [(.int (Int32.ofNat n))])) rfl (by rw [hml]; rfl) (argsL := [(.int (Int32.ofNat n))]) (rest := []) (lenOf pd_1 rfl) rfl (by show 2 * 0 + _ ≤ _; exact Nat.le_of_eq rfl) (hb hby d_jdk_52_m2_1) (fun _ _ => ⟨rfl, e0, (by decide : 0 + 0 ≤ _), (by decide : 0 + 0 ≤ _)⟩)
  dsimp only [Pt.U, Pt.locs, Pt.cells, Pt.slots] at X43 l43 y43 z43 st43 hQ43
  subst l43 y43 z43
  refine own_go st43 ?_
  obtain ⟨rfl, Nq43, e43⟩ := hQ43
  have N43 := Fr.app N0 Nq43
  show own_Go p e below (T43.setTop (mkF m 4 #[.val (.int (Int32.ofNat n))] [(.int (Int32.ofNat (2 * n)))])) _
  obtain ⟨T44, h44, k44, X44, e44, E44, A44, st44⟩ := newP X43 hx hZ (hw _ (List.mem_of_getElem? (i := 24) rfl)) e43 (g := (mkF m 4 #[.val (.int (Int32.ofNat n))] [(.int (Int32.ofNat (2 * n)))])) rfl (hb hby d_jdk_52_m2_4) rfl (own_nn0 (by omega)) (cap := 6) (by rw [own_tn (by omega)]; omega) (by decide) (by decide) (by decide)
  obtain ⟨b44, g44⟩ : ∃ z, z = h0.size := ⟨_, rfl⟩
  rw [← g44] at A44 st44
  refine own_go st44 ?_
  have V44 : Arv Z h44 b44 k44 .byte (Int32.ofNat (2 * n)) (List.replicate ((Int32.ofNat (2 * n))).toNatClampNeg (.int (0 : Int32))) (.int (0 : Int32)) := (Arv.new A44 (own_nn0 (by omega))).pad (pad_rep [] (.int (0 : Int32)) _)
  show own_Go p e below (T44.setTop (mkF m 6 #[.val (.int (Int32.ofNat n))] [(.ref b44)])) _
  have f45 := ((Keep.refl h0 []).ext E44)
  refine own_fin (v := (some (.ref b44))) X44 (fun h => by rw [hrt] at h; cases h) hlk (fun fs hr => retR X44 hx hrt (by rfl) rfl rfl (hb hby d_jdk_52_m2_6) hr) (QQ := QNew Z (Int32.ofNat (2 * n)) (List.replicate (2 * n) (.int (0 : Int32))) h0 n0) ?_ (by decide) (by decide)
  rw [e44]
  exact ⟨b44, _, rfl, N43, f45, (Nat.le_of_eq g44.symm), by have q := V44; rw [own_tn (by omega)] at q; exact q⟩

theorem d_jdk_52_m14_0 : decode jdk_52_method_14_code 0 = .ok (.iload_n 2, 1) := by decide +kernel
theorem d_jdk_52_m14_1 : decode jdk_52_method_14_code 1 = .ok (.invokestatic 107, 3) := by decide +kernel
theorem pd_2 : parseMethodDescriptor "(I)[B" = some ⟨[.int], some (.array .byte)⟩ := by decide +kernel
theorem d_jdk_52_m14_4 : decode jdk_52_method_14_code 4 = .ok (.astore_n 3, 1) := by decide +kernel
theorem d_jdk_52_m14_5 : decode jdk_52_method_14_code 5 = .ok (.iconst 0, 1) := by decide +kernel
theorem d_jdk_52_m14_6 : decode jdk_52_method_14_code 6 = .ok (.istore 4, 2) := by decide +kernel
theorem d_jdk_52_m14_8 : decode jdk_52_method_14_code 8 = .ok (.iload 4, 2) := by decide +kernel
theorem d_jdk_52_m14_10 : decode jdk_52_method_14_code 10 = .ok (.iload_n 2, 1) := by decide +kernel
theorem d_jdk_52_m14_11 : decode jdk_52_method_14_code 11 = .ok (.if_icmp .ge 21, 3) := by decide +kernel
theorem d_jdk_52_m14_32 : decode jdk_52_method_14_code 32 = .ok (.aload_n 3, 1) := by decide +kernel
theorem d_jdk_52_m14_33 : decode jdk_52_method_14_code 33 = .ok (.areturn, 1) := by decide +kernel
theorem d_jdk_52_m14_14 : decode jdk_52_method_14_code 14 = .ok (.aload_n 3, 1) := by decide +kernel
theorem d_jdk_52_m14_15 : decode jdk_52_method_14_code 15 = .ok (.iload 4, 2) := by decide +kernel
theorem d_jdk_52_m14_17 : decode jdk_52_method_14_code 17 = .ok (.aload_n 0, 1) := by decide +kernel
theorem d_jdk_52_m14_18 : decode jdk_52_method_14_code 18 = .ok (.iload_n 1, 1) := by decide +kernel
theorem d_jdk_52_m14_19 : decode jdk_52_method_14_code 19 = .ok (.caload, 1) := by decide +kernel
theorem d_jdk_52_m14_20 : decode jdk_52_method_14_code 20 = .ok (.invokestatic 111, 3) := by decide +kernel
theorem pd_3 : parseMethodDescriptor "([BII)V" = some ⟨[(.array .byte), .int, .int], none⟩ := by decide +kernel
theorem d_jdk_52_m14_23 : decode jdk_52_method_14_code 23 = .ok (.iinc 1 1, 3) := by decide +kernel
theorem d_jdk_52_m14_26 : decode jdk_52_method_14_code 26 = .ok (.iinc 4 1, 3) := by decide +kernel
theorem d_jdk_52_m14_29 : decode jdk_52_method_14_code 29 = .ok (.goto (-21), 3) := by decide +kernel
theorem ef_rm_tob (m : MethodId) (x0 : Addr) (x1 : Int32) (x2 : Int32) : entryFrame m #[(.ref x0), (.int x1), (.int x2)] 5 = mkF m 0 #[.val (.ref x0), .val (.int x1), .val (.int x2), .unset, .unset] [] := by
   first | (simp [entryFrame, mkF, argsToLocals, Value.category]; done) | rfl
set_option maxRecDepth 65536 in
set_option maxHeartbeats 40000000 in
theorem rm_tob (l : Launch) (Z : State) (a0 : Array Value) (hw : ∀ d ∈ tables_1, d.before a0 Z = true) (ws : List Jvm.Cond) (a : Addr) (ka : ClassId) (da : Value) (cs : List Int32) (h0 : Heap) (n0 : Nat) (O0 : Old Z n0 h0) (OA : Sta Z Z.heap "java/lang/StringUTF16" "$assertionsDisabled" "Z" (.int (1 : Int32))) (OH : Sta Z Z.heap "java/lang/StringUTF16" "HI_BYTE_SHIFT" "I" (.int (0 : Int32))) (OL : Sta Z Z.heap "java/lang/StringUTF16" "LO_BYTE_SHIFT" "I" (.int (8 : Int32))) (hok : own_Ok cs) (V_a : Arv Z h0 a ka .char (Int32.ofNat cs.length) (cs.map Value.int) da) (hcap : cs.length ≤ 3) :
    MetFree l (⟨"java/lang/StringUTF16", "toBytes", "([CII)[B"⟩ : MethodName) (head1 (Jvm.Cond.code (⟨"java/lang/StringUTF16", "toBytes", "([CII)[B"⟩ : MethodName) jdk_52_method_14_code 5 (some (.array .byte)) :: ws) ({ frames := 2, cells := 1, slots := 6, locals := 24 } : Room)) (fun aA U => aA = #[(.ref a), (.int (0 : Int32)), (.int (Int32.ofNat cs.length))] ∧ Z.Warmed39 U.vm ∧ U.heap = h0) (fun _ _ _ _ _ => True) (fun _ U oO U' => ∃ rV rL, oO = .returned rV ∧ QNew Z (Int32.ofNat (2 * cs.length)) (StrChars.Road.wideBytes cs) h0 n0 rV U'.heap rL ∧ FrameEnd U oO U' rL 1 6) := by
  refine MetFree.of_bodySF (plainFor_of_name pn_1) hisR ?_
  intro p e s m args below meth cC s₁ Bd hml0 hP hK
  obtain ⟨rfl, hZ, hh⟩ := hP
  have hx := Bd.exec
  have hby := Bd.bytes
  have hml : cC.maxLocals = 5 := hml0
  have hown : s.vm.findClass "java/lang/StringUTF16" = some m.cls := findClass_of_methodNamed Bd.named
  have hnm := (name_of_methodNamed Bd.named Bd.method).1
  have hrt := Bd.returns
  have hlk : meth.locks = false := Bd.notSynchronized
  have X0 : Stand p l e ({ frames := 2, cells := 1, slots := 6, locals := 24 } : Room) s m #[(.ref a), (.int (0 : Int32)), (.int (Int32.ofNat cs.length))] below meth cC s₁ [] 0 0 := Stand.of_body Bd
  have e0 : s₁.heap = h0 := by rw [← hh, Bd.state]; rfl
  have N0 := Fr.nil n0
  have Z0 : n0 ≤ h0.size := O0.1 ▸ O0.2.1
  show own_Go p e below (s₁.setTop (entryFrame m #[(.ref a), (.int (0 : Int32)), (.int (Int32.ofNat cs.length))] 5)) (fun oO U' => ∃ rV rL, oO = .returned rV ∧ QNew Z (Int32.ofNat (2 * cs.length)) (StrChars.Road.wideBytes cs) h0 n0 rV U'.heap rL ∧ FrameEnd s oO U' rL 1 6)
  refine own_go (fun _ k => castTop (ef_rm_tob m a _ _) k) ?_
  have hlen : cs.length ≤ 4000 := hok.2
  show own_Go p e below (s₁.setTop (mkF m 0 #[.val (.ref a), .val (.int (0 : Int32)), .val (.int (Int32.ofNat cs.length)), .unset, .unset] [])) _
  refine own_go (fun _ k => XS.iloadN X0.here hx rfl (hb hby d_jdk_52_m14_0) rfl k) ?_
  show own_Go p e below (s₁.setTop (mkF m 1 #[.val (.ref a), .val (.int (0 : Int32)), .val (.int (Int32.ofNat cs.length)), .unset, .unset] [(.int (Int32.ofNat cs.length))])) _
  obtain ⟨v46, _, ⟨T46, L46, k46, n46⟩, -, X46, ⟨Lc46, hQ46, l46, y46, z46⟩, st46⟩ := Jvm.LawKit.callS X0 hx (y := (⟨"java/lang/StringUTF16", "newBytesFor", "(I)[B"⟩ : MethodName)) hown (mvT hZ (hw _ (List.mem_of_getElem? (i := 72) rfl))) (mvT hZ (hw _ (List.mem_of_getElem? (i := 73) rfl))) (mvT hZ (hw _ (List.mem_of_getElem? (i := 64) rfl))) (mvT hZ (hw _ (List.mem_of_getElem? (i := 74) rfl))) (by decide) (backOf (W := 0) (rm_nbf l Z a0 hw [] cs.length h0 n0 O0 hcap) hZ (hw _ (List.mem_of_getElem? (i := 74) rfl)) (hw _ (List.mem_of_getElem? (i := 64) rfl)) (by decide) (by decide)) (g := (mkF m 1 #[.val (.ref a), .val (.int (0 : Int32)), .val (.int (Int32.ofNat cs.length)), .unset, .unset] [(.int (Int32.ofNat cs.length))])) rfl (by rw [hml]; rfl) (argsL := [(.int (Int32.ofNat cs.length))]) (rest := []) (lenOf pd_2 rfl) rfl (by show 2 * 0 + _ ≤ _; exact Nat.le_of_eq rfl) (hb hby d_jdk_52_m14_1) (fun _ _ => ⟨rfl, e0, (by decide : 0 + 1 ≤ _), (by decide : 0 + 6 ≤ _)⟩)
  dsimp only [Pt.U, Pt.locs, Pt.cells, Pt.slots] at X46 l46 y46 z46 st46 hQ46
  subst l46 y46 z46
  refine own_go st46 ?_
  obtain ⟨t46, kt46, rfl, Nq46, K46, tg46, Vt46⟩ := hQ46
  have N46 := Fr.app N0 Nq46
  show own_Go p e below (T46.setTop (mkF m 4 #[.val (.ref a), .val (.int (0 : Int32)), .val (.int (Int32.ofNat cs.length)), .unset, .unset] [(.ref t46)])) _
  refine own_go (fun _ k => XS.astoreN X46.here hx rfl (hb hby d_jdk_52_m14_4) rfl rfl (l' := #[.val (.ref a), .val (.int (0 : Int32)), .val (.int (Int32.ofNat cs.length)), .val (.ref t46), .unset]) rfl k) ?_
  show own_Go p e below (T46.setTop (mkF m 5 #[.val (.ref a), .val (.int (0 : Int32)), .val (.int (Int32.ofNat cs.length)), .val (.ref t46), .unset] [])) _
  refine own_go (fun _ k => XS.iconst X46.here hx rfl (hb hby d_jdk_52_m14_5) k) ?_
  show own_Go p e below (T46.setTop (mkF m 6 #[.val (.ref a), .val (.int (0 : Int32)), .val (.int (Int32.ofNat cs.length)), .val (.ref t46), .unset] [(.int (0 : Int32))])) _
  refine own_go (fun _ k => XS.istore X46.here hx rfl (hb hby d_jdk_52_m14_6) rfl (l' := #[.val (.ref a), .val (.int (0 : Int32)), .val (.int (Int32.ofNat cs.length)), .val (.ref t46), .val (.int (0 : Int32))]) rfl k) ?_
  show own_Go p e below (T46.setTop (mkF m 8 #[.val (.ref a), .val (.int (0 : Int32)), .val (.int (Int32.ofNat cs.length)), .val (.ref t46), .val (.int (0 : Int32))] [])) _
  have ne47 : a ≠ t46 := Nat.ne_of_lt (Nat.lt_of_lt_of_le V_a.lt tg46)
  have loop : ∀ (kT iloop : Nat) (T : State) (locs : List Loc) (h : Heap), iloop + kT = cs.length → Stand p l e ({ frames := 2, cells := 1, slots := 6, locals := 24 } : Room) s m #[(.ref a), (.int (0 : Int32)), (.int (Int32.ofNat cs.length))] below meth cC T locs 1 6 → T.heap = h → Fr n0 locs → Old Z n0 h → Keep h0 h [] → Arv Z h a ka .char (Int32.ofNat cs.length) (cs.map Value.int) da → Arv Z h t46 kt46 .byte (Int32.ofNat (2 * cs.length)) (own_wpart cs iloop) (.int (0 : Int32)) → own_Go p e below (T.setTop (mkF m 8 #[.val (.ref a), .val (.int (Int32.ofNat iloop)), .val (.int (Int32.ofNat cs.length)), .val (.ref t46), .val (.int (Int32.ofNat iloop))] [])) (fun oO U' => ∃ rV rL, oO = .returned rV ∧ QNew Z (Int32.ofNat (2 * cs.length)) (StrChars.Road.wideBytes cs) h0 n0 rV U'.heap rL ∧ FrameEnd s oO U' rL 1 6) := by
    intro kT
    induction kT with
    | zero =>
      intro iloop T48 L48 h48 hik X48 e48 N48 O48 K48 J0_48 J1_48
      have Z0_48 : n0 ≤ h48.size := O48.1 ▸ O48.2.1
      have hin : iloop = cs.length := by omega
      have hlt : ¬ ((Int32.ofNat iloop) < (Int32.ofNat cs.length)) := by rw [own_lti (by omega) (by omega)]; omega
      show own_Go p e below (T48.setTop (mkF m 8 #[.val (.ref a), .val (.int (Int32.ofNat iloop)), .val (.int (Int32.ofNat cs.length)), .val (.ref t46), .val (.int (Int32.ofNat iloop))] [])) _
      refine own_go (fun _ k => XS.iload X48.here hx rfl (hb hby d_jdk_52_m14_8) rfl k) ?_
      show own_Go p e below (T48.setTop (mkF m 10 #[.val (.ref a), .val (.int (Int32.ofNat iloop)), .val (.int (Int32.ofNat cs.length)), .val (.ref t46), .val (.int (Int32.ofNat iloop))] [(.int (Int32.ofNat iloop))])) _
      refine own_go (fun _ k => XS.iloadN X48.here hx rfl (hb hby d_jdk_52_m14_10) rfl k) ?_
      show own_Go p e below (T48.setTop (mkF m 11 #[.val (.ref a), .val (.int (Int32.ofNat iloop)), .val (.int (Int32.ofNat cs.length)), .val (.ref t46), .val (.int (Int32.ofNat iloop))] [(.int (Int32.ofNat cs.length)), (.int (Int32.ofNat iloop))])) _
      refine own_go (fun _ k => XS.icmpYes X48.here hx rfl (pc0 := 11) (pc' := 32) rfl (hb hby d_jdk_52_m14_11) rfl (flt hlt).2.1 (by decide) (by decide) k) ?_
      show own_Go p e below (T48.setTop (mkF m 32 #[.val (.ref a), .val (.int (Int32.ofNat iloop)), .val (.int (Int32.ofNat cs.length)), .val (.ref t46), .val (.int (Int32.ofNat iloop))] [])) _
      refine own_go (fun _ k => XS.aloadN X48.here hx rfl (hb hby d_jdk_52_m14_32) rfl rfl k) ?_
      show own_Go p e below (T48.setTop (mkF m 33 #[.val (.ref a), .val (.int (Int32.ofNat iloop)), .val (.int (Int32.ofNat cs.length)), .val (.ref t46), .val (.int (Int32.ofNat iloop))] [(.ref t46)])) _
      refine own_fin (v := (some (.ref t46))) X48 (fun h => by rw [hrt] at h; cases h) hlk (fun fs hr => retR X48 hx hrt (by rfl) rfl rfl (hb hby d_jdk_52_m14_33) hr) (QQ := QNew Z (Int32.ofNat (2 * cs.length)) (StrChars.Road.wideBytes cs) h0 n0) ?_ (by decide) (by decide)
      rw [e48]
      exact ⟨t46, _, rfl, N48, K48, tg46, by have q := J1_48; rw [hin, own_wpartn] at q; exact q⟩
    | succ kT ih =>
      intro iloop T49 L49 h49 hik X49 e49 N49 O49 K49 J0_49 J1_49
      have Z0_49 : n0 ≤ h49.size := O49.1 ▸ O49.2.1
      have hi : iloop < cs.length := by omega
      have hlt : (Int32.ofNat iloop) < (Int32.ofNat cs.length) := (own_lti (by omega) (by omega)).mpr hi
      show own_Go p e below (T49.setTop (mkF m 8 #[.val (.ref a), .val (.int (Int32.ofNat iloop)), .val (.int (Int32.ofNat cs.length)), .val (.ref t46), .val (.int (Int32.ofNat iloop))] [])) _
      refine own_go (fun _ k => XS.iload X49.here hx rfl (hb hby d_jdk_52_m14_8) rfl k) ?_
      show own_Go p e below (T49.setTop (mkF m 10 #[.val (.ref a), .val (.int (Int32.ofNat iloop)), .val (.int (Int32.ofNat cs.length)), .val (.ref t46), .val (.int (Int32.ofNat iloop))] [(.int (Int32.ofNat iloop))])) _
      refine own_go (fun _ k => XS.iloadN X49.here hx rfl (hb hby d_jdk_52_m14_10) rfl k) ?_
      show own_Go p e below (T49.setTop (mkF m 11 #[.val (.ref a), .val (.int (Int32.ofNat iloop)), .val (.int (Int32.ofNat cs.length)), .val (.ref t46), .val (.int (Int32.ofNat iloop))] [(.int (Int32.ofNat cs.length)), (.int (Int32.ofNat iloop))])) _
      refine own_go (fun _ k => XS.icmpNo X49.here hx rfl (hb hby d_jdk_52_m14_11) rfl (tlt hlt).2.1 k) ?_
      show own_Go p e below (T49.setTop (mkF m 14 #[.val (.ref a), .val (.int (Int32.ofNat iloop)), .val (.int (Int32.ofNat cs.length)), .val (.ref t46), .val (.int (Int32.ofNat iloop))] [])) _
      refine own_go (fun _ k => XS.aloadN X49.here hx rfl (hb hby d_jdk_52_m14_14) rfl rfl k) ?_
      show own_Go p e below (T49.setTop (mkF m 15 #[.val (.ref a), .val (.int (Int32.ofNat iloop)), .val (.int (Int32.ofNat cs.length)), .val (.ref t46), .val (.int (Int32.ofNat iloop))] [(.ref t46)])) _
      refine own_go (fun _ k => XS.iload X49.here hx rfl (hb hby d_jdk_52_m14_15) rfl k) ?_
      show own_Go p e below (T49.setTop (mkF m 17 #[.val (.ref a), .val (.int (Int32.ofNat iloop)), .val (.int (Int32.ofNat cs.length)), .val (.ref t46), .val (.int (Int32.ofNat iloop))] [(.int (Int32.ofNat iloop)), (.ref t46)])) _
      refine own_go (fun _ k => XS.aloadN X49.here hx rfl (hb hby d_jdk_52_m14_17) rfl rfl k) ?_
      show own_Go p e below (T49.setTop (mkF m 18 #[.val (.ref a), .val (.int (Int32.ofNat iloop)), .val (.int (Int32.ofNat cs.length)), .val (.ref t46), .val (.int (Int32.ofNat iloop))] [(.ref a), (.int (Int32.ofNat iloop)), (.ref t46)])) _
      refine own_go (fun _ k => XS.iloadN X49.here hx rfl (hb hby d_jdk_52_m14_18) rfl k) ?_
      show own_Go p e below (T49.setTop (mkF m 19 #[.val (.ref a), .val (.int (Int32.ofNat iloop)), .val (.int (Int32.ofNat cs.length)), .val (.ref t46), .val (.int (Int32.ofNat iloop))] [(.int (Int32.ofNat iloop)), (.ref a), (.int (Int32.ofNat iloop)), (.ref t46)])) _
      obtain ⟨c50, A50, q50, S50, M50, Hs50, Gs50⟩ := id J0_49
      have hi50 := inb_of (j := (Int32.ofNat iloop)) S50 (own_inb hi (by omega))
      refine own_go (fun _ k => X49.caload hx (j := (Int32.ofNat iloop)) (v := (.int (cs.getD iloop 0))) (by rw [e49]; exact A50.1) (State.isArrayOf_alike hZ.alike A50.2.1) A50.2.2 hi50 (Has.at Hs50 hi50 (own_gd rfl hi (by omega))) (g := (mkF m 19 #[.val (.ref a), .val (.int (Int32.ofNat iloop)), .val (.int (Int32.ofNat cs.length)), .val (.ref t46), .val (.int (Int32.ofNat iloop))] [(.int (Int32.ofNat iloop)), (.ref a), (.int (Int32.ofNat iloop)), (.ref t46)])) rfl rfl (hb hby d_jdk_52_m14_19) _ k) ?_
      show own_Go p e below (T49.setTop (mkF m 20 #[.val (.ref a), .val (.int (Int32.ofNat iloop)), .val (.int (Int32.ofNat cs.length)), .val (.ref t46), .val (.int (Int32.ofNat iloop))] [(.int (cs.getD iloop 0)), (.int (Int32.ofNat iloop)), (.ref t46)])) _
      obtain ⟨v51, _, ⟨T51, L51, k51, n51⟩, -, X51, ⟨Lc51, hQ51, l51, y51, z51⟩, st51⟩ := Jvm.LawKit.callS X49 hx (y := (⟨"java/lang/StringUTF16", "putChar", "([BII)V"⟩ : MethodName)) hown (mvT hZ (hw _ (List.mem_of_getElem? (i := 79) rfl))) (mvT hZ (hw _ (List.mem_of_getElem? (i := 80) rfl))) (mvT hZ (hw _ (List.mem_of_getElem? (i := 64) rfl))) (mvT hZ (hw _ (List.mem_of_getElem? (i := 81) rfl))) (by decide) (backOf (W := 0) (rm_put l Z a0 hw [] t46 kt46 (2 * cs.length) (own_wpart cs iloop) iloop (cs.getD iloop 0) h49 n0 O49 OA OH OL J1_49 (Nat.le_trans Z0 tg46) (own_wpartl (by omega)) (by omega) (by omega)) hZ (hw _ (List.mem_of_getElem? (i := 81) rfl)) (hw _ (List.mem_of_getElem? (i := 64) rfl)) (by decide) (by decide)) (g := (mkF m 20 #[.val (.ref a), .val (.int (Int32.ofNat iloop)), .val (.int (Int32.ofNat cs.length)), .val (.ref t46), .val (.int (Int32.ofNat iloop))] [(.int (cs.getD iloop 0)), (.int (Int32.ofNat iloop)), (.ref t46)])) rfl (by rw [hml]; rfl) (argsL := [(.ref t46), (.int (Int32.ofNat iloop)), (.int (cs.getD iloop 0))]) (rest := []) (lenOf pd_3 rfl) rfl (by show 2 * 0 + _ ≤ _; exact Nat.le_of_eq rfl) (hb hby d_jdk_52_m14_20) (fun _ _ => ⟨rfl, e49, (by decide : 1 + 0 ≤ _), (by decide : 6 + 0 ≤ _)⟩)
      dsimp only [Pt.U, Pt.locs, Pt.cells, Pt.slots] at X51 l51 y51 z51 st51 hQ51
      subst l51 y51 z51
      refine own_go st51 ?_
      obtain ⟨rfl, Nq51, K51, Vb51⟩ := hQ51
      have N51 := Fr.app N49 Nq51
      show own_Go p e below (T51.setTop (mkF m 23 #[.val (.ref a), .val (.int (Int32.ofNat iloop)), .val (.int (Int32.ofNat cs.length)), .val (.ref t46), .val (.int (Int32.ofNat iloop))] [])) _
      refine own_go (fun _ k => XS.iinc X51.here hx rfl (hb hby d_jdk_52_m14_23) rfl (l' := #[.val (.ref a), .val (.int ((Int32.ofNat iloop) + (1 : Int32))), .val (.int (Int32.ofNat cs.length)), .val (.ref t46), .val (.int (Int32.ofNat iloop))]) rfl k) ?_
      show own_Go p e below (T51.setTop (mkF m 26 #[.val (.ref a), .val (.int ((Int32.ofNat iloop) + (1 : Int32))), .val (.int (Int32.ofNat cs.length)), .val (.ref t46), .val (.int (Int32.ofNat iloop))] [])) _
      refine own_go (fun _ k => XS.iinc X51.here hx rfl (hb hby d_jdk_52_m14_26) rfl (l' := #[.val (.ref a), .val (.int ((Int32.ofNat iloop) + (1 : Int32))), .val (.int (Int32.ofNat cs.length)), .val (.ref t46), .val (.int ((Int32.ofNat iloop) + (1 : Int32)))]) rfl k) ?_
      show own_Go p e below (T51.setTop (mkF m 29 #[.val (.ref a), .val (.int ((Int32.ofNat iloop) + (1 : Int32))), .val (.int (Int32.ofNat cs.length)), .val (.ref t46), .val (.int ((Int32.ofNat iloop) + (1 : Int32)))] [])) _
      refine own_go (fun _ k => XS.goto X51.here hx rfl (pc0 := 29) (pc' := 8) rfl (hb hby d_jdk_52_m14_29) (by decide) (by decide) k) ?_
      show own_Go p e below (T51.setTop (mkF m 8 #[.val (.ref a), .val (.int ((Int32.ofNat iloop) + (1 : Int32))), .val (.int (Int32.ofNat cs.length)), .val (.ref t46), .val (.int ((Int32.ofNat iloop) + (1 : Int32)))] [])) _
      rw [own_inc]
      have f52 := (J0_49.keep K51 (ninS ne47 nin0))
      have f53 := (O49.keep K51 (allS (Nat.le_trans Z0 tg46) all0))
      have f54 := (K49.trans K51 (allS (Or.inr tg46) all0))
      exact ih (iloop + 1) T51 _ T51.heap (by omega) X51 (rfl : T51.heap = T51.heap) N51 f53 f54 f52 (own_set2 hi ▸ Vb51) 
  have f55 := ((Keep.refl h0 []).trans K46 all0)
  exact loop (cs.length) 0 T46 _ T46.heap (by omega) X46 (rfl : T46.heap = T46.heap) N46 (O0.keep K46 all0) f55 (V_a.keep K46 nin0) (own_wpart0 cs ▸ Vt46) 

theorem own_ne_n {r n : Nat} (h : r < n) (hn : n ≤ 4000) : ¬ Int32.ofNat r = Int32.ofNat n := fun q => by
  have e := congrArg Int32.toInt q
  rw [own_ti (by omega), own_ti (by omega)] at e
  omega
theorem own_ne_0 {n : Nat} (h : 0 < n) (hn : n ≤ 4000) : ¬ Int32.ofNat n = (0 : Int32) := fun q => own_ne_n h hn q.symm
theorem own_getm {cs : List Int32} {r : Nat} (h : r < cs.length) : cs.getD r 0 ∈ cs := by
  rw [show cs.getD r 0 = cs[r] by simp [List.getD_eq_getElem?_getD, h]]; exact List.getElem_mem _
theorem own_ncd {cs : List Int32} {cd N2 : Int32} {vs : List Value} (h : StrChars.Road.CodA cs cd N2 vs) : nar .byte cd = cd := by
  rcases own_cd01 h with rfl | rfl <;> decide
theorem d_jdk_52_m16_0 : decode jdk_52_method_16_code 0 = .ok (.iload_n 2, 1) := by decide +kernel
theorem d_jdk_52_m16_1 : decode jdk_52_method_16_code 1 = .ok (.newarray .byte, 2) := by decide +kernel
theorem d_jdk_52_m16_3 : decode jdk_52_method_16_code 3 = .ok (.astore_n 3, 1) := by decide +kernel
theorem d_jdk_52_m16_4 : decode jdk_52_method_16_code 4 = .ok (.aload_n 0, 1) := by decide +kernel
theorem d_jdk_52_m16_5 : decode jdk_52_method_16_code 5 = .ok (.iload_n 1, 1) := by decide +kernel
theorem d_jdk_52_m16_6 : decode jdk_52_method_16_code 6 = .ok (.aload_n 3, 1) := by decide +kernel
theorem d_jdk_52_m16_7 : decode jdk_52_method_16_code 7 = .ok (.iconst 0, 1) := by decide +kernel
theorem d_jdk_52_m16_8 : decode jdk_52_method_16_code 8 = .ok (.iload_n 2, 1) := by decide +kernel
theorem d_jdk_52_m16_9 : decode jdk_52_method_16_code 9 = .ok (.invokestatic 115, 3) := by decide +kernel
theorem pd_4 : parseMethodDescriptor "([CI[BII)I" = some ⟨[(.array .char), .int, (.array .byte), .int, .int], some .int⟩ := by decide +kernel
theorem d_jdk_52_m16_12 : decode jdk_52_method_16_code 12 = .ok (.istore 4, 2) := by decide +kernel
theorem d_jdk_52_m16_14 : decode jdk_52_method_16_code 14 = .ok (.iload 4, 2) := by decide +kernel
theorem d_jdk_52_m16_16 : decode jdk_52_method_16_code 16 = .ok (.iload_n 2, 1) := by decide +kernel
theorem d_jdk_52_m16_17 : decode jdk_52_method_16_code 17 = .ok (.if_icmp .eq 40, 3) := by decide +kernel
theorem d_jdk_52_m16_57 : decode jdk_52_method_16_code 57 = .ok (.aload_n 3, 1) := by decide +kernel
theorem d_jdk_52_m16_58 : decode jdk_52_method_16_code 58 = .ok (.areturn, 1) := by decide +kernel
theorem d_jdk_52_m16_20 : decode jdk_52_method_16_code 20 = .ok (.aload_n 0, 1) := by decide +kernel
theorem d_jdk_52_m16_21 : decode jdk_52_method_16_code 21 = .ok (.iload_n 1, 1) := by decide +kernel
theorem d_jdk_52_m16_22 : decode jdk_52_method_16_code 22 = .ok (.iload_n 2, 1) := by decide +kernel
theorem d_jdk_52_m16_23 : decode jdk_52_method_16_code 23 = .ok (.invokestatic 119, 3) := by decide +kernel
theorem pd_5 : parseMethodDescriptor "([CII)[B" = some ⟨[(.array .char), .int, .int], some (.array .byte)⟩ := by decide +kernel
theorem d_jdk_52_m16_26 : decode jdk_52_method_16_code 26 = .ok (.astore 5, 2) := by decide +kernel
theorem d_jdk_52_m16_28 : decode jdk_52_method_16_code 28 = .ok (.aload 5, 2) := by decide +kernel
theorem d_jdk_52_m16_30 : decode jdk_52_method_16_code 30 = .ok (.iload 4, 2) := by decide +kernel
theorem d_jdk_52_m16_32 : decode jdk_52_method_16_code 32 = .ok (.invokestatic 71, 3) := by decide +kernel
theorem pd_6 : parseMethodDescriptor "([BI)C" = some ⟨[(.array .byte), .int], some .char⟩ := by decide +kernel
theorem d_jdk_52_m16_35 : decode jdk_52_method_16_code 35 = .ok (.sipush 255, 3) := by decide +kernel
theorem d_jdk_52_m16_38 : decode jdk_52_method_16_code 38 = .ok (.if_icmp .gt 16, 3) := by decide +kernel
theorem d_jdk_52_m16_54 : decode jdk_52_method_16_code 54 = .ok (.aload 5, 2) := by decide +kernel
theorem d_jdk_52_m16_56 : decode jdk_52_method_16_code 56 = .ok (.areturn, 1) := by decide +kernel
theorem ef_rm_cmp3 (m : MethodId) (x0 : Addr) (x1 : Int32) (x2 : Int32) : entryFrame m #[(.ref x0), (.int x1), (.int x2)] 6 = mkF m 0 #[.val (.ref x0), .val (.int x1), .val (.int x2), .unset, .unset, .unset] [] := by
   first | (simp [entryFrame, mkF, argsToLocals, Value.category]; done) | rfl
set_option maxRecDepth 65536 in
set_option maxHeartbeats 40000000 in
theorem rm_cmp3 (l : Launch) (Z : State) (a0 : Array Value) (hw : ∀ d ∈ tables_1, d.before a0 Z = true) (ws : List Jvm.Cond) (a : Addr) (ka : ClassId) (da : Value) (cs : List Int32) (h0 : Heap) (n0 : Nat) (O0 : Old Z n0 h0) (OA : Sta Z Z.heap "java/lang/StringUTF16" "$assertionsDisabled" "Z" (.int (1 : Int32))) (OH : Sta Z Z.heap "java/lang/StringUTF16" "HI_BYTE_SHIFT" "I" (.int (0 : Int32))) (OL : Sta Z Z.heap "java/lang/StringUTF16" "LO_BYTE_SHIFT" "I" (.int (8 : Int32))) (hok : own_Ok cs) (V_a : Arv Z h0 a ka .char (Int32.ofNat cs.length) (cs.map Value.int) da) (hcap : cs.length ≤ 3) :
    MetFree l (⟨"java/lang/StringUTF16", "compress", "([CII)[B"⟩ : MethodName) (head1 (Jvm.Cond.code (⟨"java/lang/StringUTF16", "compress", "([CII)[B"⟩ : MethodName) jdk_52_method_16_code 6 (some (.array .byte)) :: ws) ({ frames := 3, cells := 2, slots := 9, locals := 40 } : Room)) (fun aA U => aA = #[(.ref a), (.int (0 : Int32)), (.int (Int32.ofNat cs.length))] ∧ Z.Warmed39 U.vm ∧ U.heap = h0) (fun _ _ _ _ _ => True) (fun _ U oO U' => ∃ rV rL, oO = .returned rV ∧ QCmp Z cs h0 n0 rV U'.heap rL ∧ FrameEnd U oO U' rL 2 9) := by
  refine MetFree.of_bodySF (plainFor_of_name pn_1) hisR ?_
  intro p e s m args below meth cC s₁ Bd hml0 hP hK
  obtain ⟨rfl, hZ, hh⟩ := hP
  have hx := Bd.exec
  have hby := Bd.bytes
  have hml : cC.maxLocals = 6 := hml0
  have hown : s.vm.findClass "java/lang/StringUTF16" = some m.cls := findClass_of_methodNamed Bd.named
  have hnm := (name_of_methodNamed Bd.named Bd.method).1
  have hrt := Bd.returns
  have hlk : meth.locks = false := Bd.notSynchronized
  have X0 : Stand p l e ({ frames := 3, cells := 2, slots := 9, locals := 40 } : Room) s m #[(.ref a), (.int (0 : Int32)), (.int (Int32.ofNat cs.length))] below meth cC s₁ [] 0 0 := Stand.of_body Bd
  have e0 : s₁.heap = h0 := by rw [← hh, Bd.state]; rfl
  have N0 := Fr.nil n0
  have Z0 : n0 ≤ h0.size := O0.1 ▸ O0.2.1
  show own_Go p e below (s₁.setTop (entryFrame m #[(.ref a), (.int (0 : Int32)), (.int (Int32.ofNat cs.length))] 6)) (fun oO U' => ∃ rV rL, oO = .returned rV ∧ QCmp Z cs h0 n0 rV U'.heap rL ∧ FrameEnd s oO U' rL 2 9)
  refine own_go (fun _ k => castTop (ef_rm_cmp3 m a _ _) k) ?_
  have hlen : cs.length ≤ 4000 := hok.2
  show own_Go p e below (s₁.setTop (mkF m 0 #[.val (.ref a), .val (.int (0 : Int32)), .val (.int (Int32.ofNat cs.length)), .unset, .unset, .unset] [])) _
  refine own_go (fun _ k => XS.iloadN X0.here hx rfl (hb hby d_jdk_52_m16_0) rfl k) ?_
  show own_Go p e below (s₁.setTop (mkF m 1 #[.val (.ref a), .val (.int (0 : Int32)), .val (.int (Int32.ofNat cs.length)), .unset, .unset, .unset] [(.int (Int32.ofNat cs.length))])) _
  obtain ⟨T56, h56, k56, X56, e56, E56, A56, st56⟩ := newP X0 hx hZ (hw _ (List.mem_of_getElem? (i := 24) rfl)) e0 (g := (mkF m 1 #[.val (.ref a), .val (.int (0 : Int32)), .val (.int (Int32.ofNat cs.length)), .unset, .unset, .unset] [(.int (Int32.ofNat cs.length))])) rfl (hb hby d_jdk_52_m16_1) rfl (own_nn0 (by omega)) (cap := 3) (by rw [own_tn (by omega)]; exact hcap) (by decide) (by decide) (by decide)
  obtain ⟨b56, g56⟩ : ∃ z, z = h0.size := ⟨_, rfl⟩
  rw [← g56] at A56 st56
  refine own_go st56 ?_
  have V56 : Arv Z h56 b56 k56 .byte (Int32.ofNat cs.length) (List.replicate ((Int32.ofNat cs.length)).toNatClampNeg (.int (0 : Int32))) (.int (0 : Int32)) := (Arv.new A56 (own_nn0 (by omega))).pad (pad_rep [] (.int (0 : Int32)) _)
  show own_Go p e below (T56.setTop (mkF m 3 #[.val (.ref a), .val (.int (0 : Int32)), .val (.int (Int32.ofNat cs.length)), .unset, .unset, .unset] [(.ref b56)])) _
  have Vb0 : Arv Z h56 b56 k56 .byte (Int32.ofNat cs.length) (List.replicate cs.length (.int (0 : Int32))) (.int (0 : Int32)) := by have q := V56; rw [own_tn (by omega)] at q; exact q
  refine own_go (fun _ k => XS.astoreN X56.here hx rfl (hb hby d_jdk_52_m16_3) rfl rfl (l' := #[.val (.ref a), .val (.int (0 : Int32)), .val (.int (Int32.ofNat cs.length)), .val (.ref b56), .unset, .unset]) rfl k) ?_
  show own_Go p e below (T56.setTop (mkF m 4 #[.val (.ref a), .val (.int (0 : Int32)), .val (.int (Int32.ofNat cs.length)), .val (.ref b56), .unset, .unset] [])) _
  refine own_go (fun _ k => XS.aloadN X56.here hx rfl (hb hby d_jdk_52_m16_4) rfl rfl k) ?_
  show own_Go p e below (T56.setTop (mkF m 5 #[.val (.ref a), .val (.int (0 : Int32)), .val (.int (Int32.ofNat cs.length)), .val (.ref b56), .unset, .unset] [(.ref a)])) _
  refine own_go (fun _ k => XS.iloadN X56.here hx rfl (hb hby d_jdk_52_m16_5) rfl k) ?_
  show own_Go p e below (T56.setTop (mkF m 6 #[.val (.ref a), .val (.int (0 : Int32)), .val (.int (Int32.ofNat cs.length)), .val (.ref b56), .unset, .unset] [(.int (0 : Int32)), (.ref a)])) _
  refine own_go (fun _ k => XS.aloadN X56.here hx rfl (hb hby d_jdk_52_m16_6) rfl rfl k) ?_
  show own_Go p e below (T56.setTop (mkF m 7 #[.val (.ref a), .val (.int (0 : Int32)), .val (.int (Int32.ofNat cs.length)), .val (.ref b56), .unset, .unset] [(.ref b56), (.int (0 : Int32)), (.ref a)])) _
  refine own_go (fun _ k => XS.iconst X56.here hx rfl (hb hby d_jdk_52_m16_7) k) ?_
  show own_Go p e below (T56.setTop (mkF m 8 #[.val (.ref a), .val (.int (0 : Int32)), .val (.int (Int32.ofNat cs.length)), .val (.ref b56), .unset, .unset] [(.int (0 : Int32)), (.ref b56), (.int (0 : Int32)), (.ref a)])) _
  refine own_go (fun _ k => XS.iloadN X56.here hx rfl (hb hby d_jdk_52_m16_8) rfl k) ?_
  show own_Go p e below (T56.setTop (mkF m 9 #[.val (.ref a), .val (.int (0 : Int32)), .val (.int (Int32.ofNat cs.length)), .val (.ref b56), .unset, .unset] [(.int (Int32.ofNat cs.length)), (.int (0 : Int32)), (.ref b56), (.int (0 : Int32)), (.ref a)])) _
  have ne57 : a ≠ b56 := Nat.ne_of_lt (Nat.lt_of_lt_of_le V_a.lt (Nat.le_of_eq g56.symm))
  obtain ⟨v58, _, ⟨T58, L58, k58, n58⟩, -, X58, ⟨Lc58, hQ58, l58, y58, z58⟩, st58⟩ := Jvm.LawKit.callS X56 hx (y := (⟨"java/lang/StringUTF16", "compress", "([CI[BII)I"⟩ : MethodName)) hown (mvT hZ (hw _ (List.mem_of_getElem? (i := 66) rfl))) (mvT hZ (hw _ (List.mem_of_getElem? (i := 67) rfl))) (mvT hZ (hw _ (List.mem_of_getElem? (i := 64) rfl))) (mvT hZ (hw _ (List.mem_of_getElem? (i := 68) rfl))) (by decide) (backOf (W := 0) (rm_cmp5 l Z a0 hw [] a ka da cs b56 k56 h56 n0 (O0.ext E56) hok (V_a.ext E56) Vb0 (Nat.le_trans Z0 (Nat.le_of_eq g56.symm)) ne57) hZ (hw _ (List.mem_of_getElem? (i := 68) rfl)) (hw _ (List.mem_of_getElem? (i := 64) rfl)) (by decide) (by decide)) (g := (mkF m 9 #[.val (.ref a), .val (.int (0 : Int32)), .val (.int (Int32.ofNat cs.length)), .val (.ref b56), .unset, .unset] [(.int (Int32.ofNat cs.length)), (.int (0 : Int32)), (.ref b56), (.int (0 : Int32)), (.ref a)])) rfl (by rw [hml]; rfl) (argsL := [(.ref a), (.int (0 : Int32)), (.ref b56), (.int (0 : Int32)), (.int (Int32.ofNat cs.length))]) (rest := []) (lenOf pd_4 rfl) rfl (by show 2 * 0 + _ ≤ _; exact Nat.le_of_eq rfl) (hb hby d_jdk_52_m16_9) (fun _ _ => ⟨rfl, e56, (by decide : 1 + 0 ≤ _), (by decide : 3 + 0 ≤ _)⟩)
  dsimp only [Pt.U, Pt.locs, Pt.cells, Pt.slots] at X58 l58 y58 z58 st58 hQ58
  subst l58 y58 z58
  refine own_go st58 ?_
  obtain ⟨r58, rfl, Nq58, K58, hr58⟩ := hQ58
  have N58 := Fr.app N0 Nq58
  show own_Go p e below (T58.setTop (mkF m 12 #[.val (.ref a), .val (.int (0 : Int32)), .val (.int (Int32.ofNat cs.length)), .val (.ref b56), .unset, .unset] [(.int (Int32.ofNat r58))])) _
  refine own_go (fun _ k => XS.istore X58.here hx rfl (hb hby d_jdk_52_m16_12) rfl (l' := #[.val (.ref a), .val (.int (0 : Int32)), .val (.int (Int32.ofNat cs.length)), .val (.ref b56), .val (.int (Int32.ofNat r58)), .unset]) rfl k) ?_
  show own_Go p e below (T58.setTop (mkF m 14 #[.val (.ref a), .val (.int (0 : Int32)), .val (.int (Int32.ofNat cs.length)), .val (.ref b56), .val (.int (Int32.ofNat r58)), .unset] [])) _
  rcases hr58 with ⟨hr1, hall, Vl⟩ | ⟨hr1, hbig⟩
  · subst hr1
    show own_Go p e below (T58.setTop (mkF m 14 #[.val (.ref a), .val (.int (0 : Int32)), .val (.int (Int32.ofNat cs.length)), .val (.ref b56), .val (.int (Int32.ofNat cs.length)), .unset] [])) _
    refine own_go (fun _ k => XS.iload X58.here hx rfl (hb hby d_jdk_52_m16_14) rfl k) ?_
    show own_Go p e below (T58.setTop (mkF m 16 #[.val (.ref a), .val (.int (0 : Int32)), .val (.int (Int32.ofNat cs.length)), .val (.ref b56), .val (.int (Int32.ofNat cs.length)), .unset] [(.int (Int32.ofNat cs.length))])) _
    refine own_go (fun _ k => XS.iloadN X58.here hx rfl (hb hby d_jdk_52_m16_16) rfl k) ?_
    show own_Go p e below (T58.setTop (mkF m 17 #[.val (.ref a), .val (.int (0 : Int32)), .val (.int (Int32.ofNat cs.length)), .val (.ref b56), .val (.int (Int32.ofNat cs.length)), .unset] [(.int (Int32.ofNat cs.length)), (.int (Int32.ofNat cs.length))])) _
    refine own_go (fun _ k => XS.icmpYes X58.here hx rfl (pc0 := 17) (pc' := 57) rfl (hb hby d_jdk_52_m16_17) rfl (teq (rfl : (Int32.ofNat cs.length) = (Int32.ofNat cs.length))).1 (by decide) (by decide) k) ?_
    show own_Go p e below (T58.setTop (mkF m 57 #[.val (.ref a), .val (.int (0 : Int32)), .val (.int (Int32.ofNat cs.length)), .val (.ref b56), .val (.int (Int32.ofNat cs.length)), .unset] [])) _
    refine own_go (fun _ k => XS.aloadN X58.here hx rfl (hb hby d_jdk_52_m16_57) rfl rfl k) ?_
    show own_Go p e below (T58.setTop (mkF m 58 #[.val (.ref a), .val (.int (0 : Int32)), .val (.int (Int32.ofNat cs.length)), .val (.ref b56), .val (.int (Int32.ofNat cs.length)), .unset] [(.ref b56)])) _
    have f59 := (((Keep.refl h0 []).ext E56).trans K58 (allS (Or.inr (Nat.le_of_eq g56.symm)) all0))
    refine own_fin (v := (some (.ref b56))) X58 (fun h => by rw [hrt] at h; cases h) hlk (fun fs hr => retR X58 hx hrt (by rfl) rfl rfl (hb hby d_jdk_52_m16_58) hr) (QQ := QCmp Z cs h0 n0) ?_ (by decide) (by decide)
    exact ⟨b56, _, 0, _, _, rfl, N58, f59, (Nat.le_of_eq g56.symm), Vl, Or.inl ⟨rfl, rfl, rfl, hall⟩⟩
  · skip
    show own_Go p e below (T58.setTop (mkF m 14 #[.val (.ref a), .val (.int (0 : Int32)), .val (.int (Int32.ofNat cs.length)), .val (.ref b56), .val (.int (Int32.ofNat r58)), .unset] [])) _
    refine own_go (fun _ k => XS.iload X58.here hx rfl (hb hby d_jdk_52_m16_14) rfl k) ?_
    show own_Go p e below (T58.setTop (mkF m 16 #[.val (.ref a), .val (.int (0 : Int32)), .val (.int (Int32.ofNat cs.length)), .val (.ref b56), .val (.int (Int32.ofNat r58)), .unset] [(.int (Int32.ofNat r58))])) _
    refine own_go (fun _ k => XS.iloadN X58.here hx rfl (hb hby d_jdk_52_m16_16) rfl k) ?_
    show own_Go p e below (T58.setTop (mkF m 17 #[.val (.ref a), .val (.int (0 : Int32)), .val (.int (Int32.ofNat cs.length)), .val (.ref b56), .val (.int (Int32.ofNat r58)), .unset] [(.int (Int32.ofNat cs.length)), (.int (Int32.ofNat r58))])) _
    refine own_go (fun _ k => XS.icmpNo X58.here hx rfl (hb hby d_jdk_52_m16_17) rfl (feq (own_ne_n hr1 hlen)).1 k) ?_
    show own_Go p e below (T58.setTop (mkF m 20 #[.val (.ref a), .val (.int (0 : Int32)), .val (.int (Int32.ofNat cs.length)), .val (.ref b56), .val (.int (Int32.ofNat r58)), .unset] [])) _
    refine own_go (fun _ k => XS.aloadN X58.here hx rfl (hb hby d_jdk_52_m16_20) rfl rfl k) ?_
    show own_Go p e below (T58.setTop (mkF m 21 #[.val (.ref a), .val (.int (0 : Int32)), .val (.int (Int32.ofNat cs.length)), .val (.ref b56), .val (.int (Int32.ofNat r58)), .unset] [(.ref a)])) _
    refine own_go (fun _ k => XS.iloadN X58.here hx rfl (hb hby d_jdk_52_m16_21) rfl k) ?_
    show own_Go p e below (T58.setTop (mkF m 22 #[.val (.ref a), .val (.int (0 : Int32)), .val (.int (Int32.ofNat cs.length)), .val (.ref b56), .val (.int (Int32.ofNat r58)), .unset] [(.int (0 : Int32)), (.ref a)])) _
    refine own_go (fun _ k => XS.iloadN X58.here hx rfl (hb hby d_jdk_52_m16_22) rfl k) ?_
    show own_Go p e below (T58.setTop (mkF m 23 #[.val (.ref a), .val (.int (0 : Int32)), .val (.int (Int32.ofNat cs.length)), .val (.ref b56), .val (.int (Int32.ofNat r58)), .unset] [(.int (Int32.ofNat cs.length)), (.int (0 : Int32)), (.ref a)])) _
    have f60 := ((V_a.ext E56).keep K58 (ninS ne57 nin0))
    have f61 := ((O0.ext E56).keep K58 (allS (Nat.le_trans Z0 (Nat.le_of_eq g56.symm)) all0))
    obtain ⟨v62, _, ⟨T62, L62, k62, n62⟩, -, X62, ⟨Lc62, hQ62, l62, y62, z62⟩, st62⟩ := Jvm.LawKit.callS X58 hx (y := (⟨"java/lang/StringUTF16", "toBytes", "([CII)[B"⟩ : MethodName)) hown (mvT hZ (hw _ (List.mem_of_getElem? (i := 69) rfl))) (mvT hZ (hw _ (List.mem_of_getElem? (i := 70) rfl))) (mvT hZ (hw _ (List.mem_of_getElem? (i := 64) rfl))) (mvT hZ (hw _ (List.mem_of_getElem? (i := 71) rfl))) (by decide) (backOf (W := 0) (rm_tob l Z a0 hw [] a ka da cs T58.heap n0 f61 OA OH OL hok f60 hcap) hZ (hw _ (List.mem_of_getElem? (i := 71) rfl)) (hw _ (List.mem_of_getElem? (i := 64) rfl)) (by decide) (by decide)) (g := (mkF m 23 #[.val (.ref a), .val (.int (0 : Int32)), .val (.int (Int32.ofNat cs.length)), .val (.ref b56), .val (.int (Int32.ofNat r58)), .unset] [(.int (Int32.ofNat cs.length)), (.int (0 : Int32)), (.ref a)])) rfl (by rw [hml]; rfl) (argsL := [(.ref a), (.int (0 : Int32)), (.int (Int32.ofNat cs.length))]) (rest := []) (lenOf pd_5 rfl) rfl (by show 2 * 0 + _ ≤ _; exact Nat.le_of_eq rfl) (hb hby d_jdk_52_m16_23) (fun _ _ => ⟨rfl, (rfl : T58.heap = T58.heap), (by decide : 1 + 1 ≤ _), (by decide : 3 + 6 ≤ _)⟩)
    dsimp only [Pt.U, Pt.locs, Pt.cells, Pt.slots] at X62 l62 y62 z62 st62 hQ62
    subst l62 y62 z62
    refine own_go st62 ?_
    obtain ⟨t62, kt62, rfl, Nq62, K62, tg62, Vt62⟩ := hQ62
    have N62 := Fr.app N58 Nq62
    show own_Go p e below (T62.setTop (mkF m 26 #[.val (.ref a), .val (.int (0 : Int32)), .val (.int (Int32.ofNat cs.length)), .val (.ref b56), .val (.int (Int32.ofNat r58)), .unset] [(.ref t62)])) _
    refine own_go (fun _ k => XS.astore X62.here hx rfl (hb hby d_jdk_52_m16_26) rfl rfl (l' := #[.val (.ref a), .val (.int (0 : Int32)), .val (.int (Int32.ofNat cs.length)), .val (.ref b56), .val (.int (Int32.ofNat r58)), .val (.ref t62)]) rfl k) ?_
    show own_Go p e below (T62.setTop (mkF m 28 #[.val (.ref a), .val (.int (0 : Int32)), .val (.int (Int32.ofNat cs.length)), .val (.ref b56), .val (.int (Int32.ofNat r58)), .val (.ref t62)] [])) _
    refine own_go (fun _ k => XS.aload X62.here hx rfl (hb hby d_jdk_52_m16_28) rfl rfl k) ?_
    show own_Go p e below (T62.setTop (mkF m 30 #[.val (.ref a), .val (.int (0 : Int32)), .val (.int (Int32.ofNat cs.length)), .val (.ref b56), .val (.int (Int32.ofNat r58)), .val (.ref t62)] [(.ref t62)])) _
    refine own_go (fun _ k => XS.iload X62.here hx rfl (hb hby d_jdk_52_m16_30) rfl k) ?_
    show own_Go p e below (T62.setTop (mkF m 32 #[.val (.ref a), .val (.int (0 : Int32)), .val (.int (Int32.ofNat cs.length)), .val (.ref b56), .val (.int (Int32.ofNat r58)), .val (.ref t62)] [(.int (Int32.ofNat r58)), (.ref t62)])) _
    obtain ⟨v63, _, ⟨T63, L63, k63, n63⟩, -, X63, ⟨Lc63, hQ63, l63, y63, z63⟩, st63⟩ := Jvm.LawKit.callS X62 hx (y := (⟨"java/lang/StringUTF16", "getChar", "([BI)C"⟩ : MethodName)) hown (mvT hZ (hw _ (List.mem_of_getElem? (i := 85) rfl))) (mvT hZ (hw _ (List.mem_of_getElem? (i := 86) rfl))) (mvT hZ (hw _ (List.mem_of_getElem? (i := 64) rfl))) (mvT hZ (hw _ (List.mem_of_getElem? (i := 87) rfl))) (by decide) (backOf (W := 0) (rm_get l Z a0 hw [] t62 kt62 (2 * cs.length) (StrChars.Road.wideBytes cs) r58 (cs.getD r58 0) T62.heap n0 (f61.keep K62 all0) OA OH OL Vt62 (StrChars.Road.wide_lo _ cs _ hr1) (StrChars.Road.wide_hi _ cs _ hr1) (by omega) (by omega) (hok.at hr1)) hZ (hw _ (List.mem_of_getElem? (i := 87) rfl)) (hw _ (List.mem_of_getElem? (i := 64) rfl)) (by decide) (by decide)) (g := (mkF m 32 #[.val (.ref a), .val (.int (0 : Int32)), .val (.int (Int32.ofNat cs.length)), .val (.ref b56), .val (.int (Int32.ofNat r58)), .val (.ref t62)] [(.int (Int32.ofNat r58)), (.ref t62)])) rfl (by rw [hml]; rfl) (argsL := [(.ref t62), (.int (Int32.ofNat r58))]) (rest := []) (lenOf pd_6 rfl) rfl (by show 2 * 0 + _ ≤ _; exact Nat.le_of_eq rfl) (hb hby d_jdk_52_m16_32) (fun _ _ => ⟨rfl, (rfl : T62.heap = T62.heap), (by decide : 2 + 0 ≤ _), (by decide : 9 + 0 ≤ _)⟩)
    dsimp only [Pt.U, Pt.locs, Pt.cells, Pt.slots] at X63 l63 y63 z63 st63 hQ63
    subst l63 y63 z63
    refine own_go st63 ?_
    obtain ⟨rfl, Nq63, e63⟩ := hQ63
    have N63 := Fr.app N62 Nq63
    show own_Go p e below (T63.setTop (mkF m 35 #[.val (.ref a), .val (.int (0 : Int32)), .val (.int (Int32.ofNat cs.length)), .val (.ref b56), .val (.int (Int32.ofNat r58)), .val (.ref t62)] [(.int (cs.getD r58 0))])) _
    refine own_go (fun _ k => XS.sipush X63.here hx rfl (hb hby d_jdk_52_m16_35) k) ?_
    show own_Go p e below (T63.setTop (mkF m 38 #[.val (.ref a), .val (.int (0 : Int32)), .val (.int (Int32.ofNat cs.length)), .val (.ref b56), .val (.int (Int32.ofNat r58)), .val (.ref t62)] [(.int (255 : Int32)), (.int (cs.getD r58 0))])) _
    refine own_go (fun _ k => XS.icmpYes X63.here hx rfl (pc0 := 38) (pc' := 54) rfl (hb hby d_jdk_52_m16_38) rfl (tlt hbig).2.2.1 (by decide) (by decide) k) ?_
    show own_Go p e below (T63.setTop (mkF m 54 #[.val (.ref a), .val (.int (0 : Int32)), .val (.int (Int32.ofNat cs.length)), .val (.ref b56), .val (.int (Int32.ofNat r58)), .val (.ref t62)] [])) _
    refine own_go (fun _ k => XS.aload X63.here hx rfl (hb hby d_jdk_52_m16_54) rfl rfl k) ?_
    show own_Go p e below (T63.setTop (mkF m 56 #[.val (.ref a), .val (.int (0 : Int32)), .val (.int (Int32.ofNat cs.length)), .val (.ref b56), .val (.int (Int32.ofNat r58)), .val (.ref t62)] [(.ref t62)])) _
    have f64 := ((((Keep.refl h0 []).ext E56).trans K58 (allS (Or.inr (Nat.le_of_eq g56.symm)) all0)).trans K62 all0)
    refine own_fin (v := (some (.ref t62))) X63 (fun h => by rw [hrt] at h; cases h) hlk (fun fs hr => retR X63 hx hrt (by rfl) rfl rfl (hb hby d_jdk_52_m16_56) hr) (QQ := QCmp Z cs h0 n0) ?_ (by decide) (by decide)
    rw [e63]
    exact ⟨t62, _, 1, _, _, rfl, N63, f64, (Nat.le_trans (Nat.le_trans E56.1 K58.1) tg62), Vt62, Or.inr ⟨rfl, rfl, rfl, _, own_getm hr1, hbig⟩⟩

theorem d_jdk_52_m15_0 : decode jdk_52_method_15_code 0 = .ok (.iload_n 1, 1) := by decide +kernel
theorem d_jdk_52_m15_1 : decode jdk_52_method_15_code 1 = .ok (.aload_n 0, 1) := by decide +kernel
theorem d_jdk_52_m15_2 : decode jdk_52_method_15_code 2 = .ok (.arraylength, 1) := by decide +kernel
theorem d_jdk_52_m15_3 : decode jdk_52_method_15_code 3 = .ok (.isub, 1) := by decide +kernel
theorem d_jdk_52_m15_4 : decode jdk_52_method_15_code 4 = .ok (.bipush 31, 2) := by decide +kernel
theorem d_jdk_52_m15_6 : decode jdk_52_method_15_code 6 = .ok (.iushr, 1) := by decide +kernel
theorem d_jdk_52_m15_7 : decode jdk_52_method_15_code 7 = .ok (.i2b, 1) := by decide +kernel
theorem d_jdk_52_m15_8 : decode jdk_52_method_15_code 8 = .ok (.ireturn, 1) := by decide +kernel
theorem ef_rm_cfa (m : MethodId) (x0 : Addr) (x1 : Int32) : entryFrame m #[(.ref x0), (.int x1)] 2 = mkF m 0 #[.val (.ref x0), .val (.int x1)] [] := by
   first | (simp [entryFrame, mkF, argsToLocals, Value.category]; done) | rfl
set_option maxRecDepth 65536 in
set_option maxHeartbeats 40000000 in
theorem rm_cfa (l : Launch) (Z : State) (a0 : Array Value) (hw : ∀ d ∈ tables_1, d.before a0 Z = true) (ws : List Jvm.Cond) (t : Addr) (k : ClassId) (N2 : Int32) (vs : List Value) (cs : List Int32) (cd : Int32) (h0 : Heap) (n0 : Nat) (O0 : Old Z n0 h0) (V_t : Arv Z h0 t k .byte N2 vs (.int (0 : Int32))) (hC : StrChars.Road.CodA cs cd N2 vs) (h1 : 0 < cs.length) (h2 : cs.length ≤ 4000) :
    MetFree l (⟨"java/lang/StringUTF16", "coderFromArrayLen", "([BI)B"⟩ : MethodName) (head1 (Jvm.Cond.code (⟨"java/lang/StringUTF16", "coderFromArrayLen", "([BI)B"⟩ : MethodName) jdk_52_method_15_code 2 (some .byte) :: ws) ({ frames := 0, cells := 0, slots := 0, locals := 0 } : Room)) (fun aA U => aA = #[(.ref t), (.int (Int32.ofNat cs.length))] ∧ Z.Warmed39 U.vm ∧ U.heap = h0) (fun _ _ _ _ _ => True) (fun _ U oO U' => ∃ rV rL, oO = .returned rV ∧ QPure (some (.int cd)) h0 n0 rV U'.heap rL ∧ FrameEnd U oO U' rL 0 0) := by
  refine MetFree.of_bodySF (plainFor_of_name pn_1) hisR ?_
  intro p e s m args below meth cC s₁ Bd hml0 hP hK
  obtain ⟨rfl, hZ, hh⟩ := hP
  have hx := Bd.exec
  have hby := Bd.bytes
  have hml : cC.maxLocals = 2 := hml0
  have hown : s.vm.findClass "java/lang/StringUTF16" = some m.cls := findClass_of_methodNamed Bd.named
  have hnm := (name_of_methodNamed Bd.named Bd.method).1
  have hrt := Bd.returns
  have hlk : meth.locks = false := Bd.notSynchronized
  have X0 : Stand p l e ({ frames := 0, cells := 0, slots := 0, locals := 0 } : Room) s m #[(.ref t), (.int (Int32.ofNat cs.length))] below meth cC s₁ [] 0 0 := Stand.of_body Bd
  have e0 : s₁.heap = h0 := by rw [← hh, Bd.state]; rfl
  have N0 := Fr.nil n0
  have Z0 : n0 ≤ h0.size := O0.1 ▸ O0.2.1
  show own_Go p e below (s₁.setTop (entryFrame m #[(.ref t), (.int (Int32.ofNat cs.length))] 2)) (fun oO U' => ∃ rV rL, oO = .returned rV ∧ QPure (some (.int cd)) h0 n0 rV U'.heap rL ∧ FrameEnd s oO U' rL 0 0)
  refine own_go (fun _ k => castTop (ef_rm_cfa m t _) k) ?_
  show own_Go p e below (s₁.setTop (mkF m 0 #[.val (.ref t), .val (.int (Int32.ofNat cs.length))] [])) _
  refine own_go (fun _ k => XS.iloadN X0.here hx rfl (hb hby d_jdk_52_m15_0) rfl k) ?_
  show own_Go p e below (s₁.setTop (mkF m 1 #[.val (.ref t), .val (.int (Int32.ofNat cs.length))] [(.int (Int32.ofNat cs.length))])) _
  refine own_go (fun _ k => XS.aloadN X0.here hx rfl (hb hby d_jdk_52_m15_1) rfl rfl k) ?_
  show own_Go p e below (s₁.setTop (mkF m 2 #[.val (.ref t), .val (.int (Int32.ofNat cs.length))] [(.ref t), (.int (Int32.ofNat cs.length))])) _
  obtain ⟨c65, A65, q65, S65, M65, Hs65, Gs65⟩ := id V_t
  refine own_go (fun _ k => X0.arraylength hx (by rw [e0]; exact A65.1) (State.isArrayOf_alike hZ.alike A65.2.1) (g := (mkF m 2 #[.val (.ref t), .val (.int (Int32.ofNat cs.length))] [(.ref t), (.int (Int32.ofNat cs.length))])) rfl rfl (hb hby d_jdk_52_m15_2) _ k) ?_
  rw [len_of S65 M65]
  show own_Go p e below (s₁.setTop (mkF m 3 #[.val (.ref t), .val (.int (Int32.ofNat cs.length))] [(.int N2), (.int (Int32.ofNat cs.length))])) _
  refine own_go (fun _ k => XS.isub X0.here hx rfl (hb hby d_jdk_52_m15_3) rfl k) ?_
  show own_Go p e below (s₁.setTop (mkF m 4 #[.val (.ref t), .val (.int (Int32.ofNat cs.length))] [(.int ((Int32.ofNat cs.length) - N2))])) _
  refine own_go (fun _ k => XS.bipush X0.here hx rfl (hb hby d_jdk_52_m15_4) k) ?_
  show own_Go p e below (s₁.setTop (mkF m 6 #[.val (.ref t), .val (.int (Int32.ofNat cs.length))] [(.int (31 : Int32)), (.int ((Int32.ofNat cs.length) - N2))])) _
  refine own_go (fun _ k => XS.iushr X0.here hx rfl (hb hby d_jdk_52_m15_6) rfl k) ?_
  show own_Go p e below (s₁.setTop (mkF m 7 #[.val (.ref t), .val (.int (Int32.ofNat cs.length))] [(.int ((((Int32.ofNat cs.length) - N2).toUInt32 >>> ((31 : Int32) &&& 31).toUInt32).toInt32))])) _
  refine own_go (fun _ k => XS.i2b X0.here hx rfl (hb hby d_jdk_52_m15_7) rfl k) ?_
  show own_Go p e below (s₁.setTop (mkF m 8 #[.val (.ref t), .val (.int (Int32.ofNat cs.length))] [(.int (((((Int32.ofNat cs.length) - N2).toUInt32 >>> ((31 : Int32) &&& 31).toUInt32).toInt32).toInt8.toInt32))])) _
  refine own_fin (v := (some (.int (nar .byte (((((Int32.ofNat cs.length) - N2).toUInt32 >>> ((31 : Int32) &&& 31).toUInt32).toInt32).toInt8.toInt32))))) X0 (fun h => by rw [hrt] at h; cases h) hlk (fun fs hr => retN X0 hx (t := .byte) hrt (by simp) (hb hby d_jdk_52_m15_8) hr) (QQ := QPure (some (.int cd)) h0 n0) ?_ (by decide) (by decide)
  rw [e0]
  exact ⟨congrArg (fun z => some (Value.int z)) ((own_nb _).trans (own_cod hC h1 h2)), N0, rfl⟩

theorem d_jdk_42_m149_27 : decode jdk_42_method_149_code 27 = .ok (.getstatic 38, 3) := by decide +kernel
theorem d_jdk_42_m149_30 : decode jdk_42_method_149_code 30 = .ok (.ifCond .eq 28, 3) := by decide +kernel
theorem d_jdk_42_m149_33 : decode jdk_42_method_149_code 33 = .ok (.aload_n 1, 1) := by decide +kernel
theorem d_jdk_42_m149_34 : decode jdk_42_method_149_code 34 = .ok (.iload_n 2, 1) := by decide +kernel
theorem d_jdk_42_m149_35 : decode jdk_42_method_149_code 35 = .ok (.iload_n 3, 1) := by decide +kernel
theorem d_jdk_42_m149_36 : decode jdk_42_method_149_code 36 = .ok (.invokestatic 177, 3) := by decide +kernel
theorem d_jdk_42_m149_39 : decode jdk_42_method_149_code 39 = .ok (.astore 5, 2) := by decide +kernel
theorem d_jdk_42_m149_41 : decode jdk_42_method_149_code 41 = .ok (.aload_n 0, 1) := by decide +kernel
theorem d_jdk_42_m149_42 : decode jdk_42_method_149_code 42 = .ok (.aload 5, 2) := by decide +kernel
theorem d_jdk_42_m149_44 : decode jdk_42_method_149_code 44 = .ok (.iload_n 3, 1) := by decide +kernel
theorem d_jdk_42_m149_45 : decode jdk_42_method_149_code 45 = .ok (.invokestatic 47, 3) := by decide +kernel
theorem pd_7 : parseMethodDescriptor "([BI)B" = some ⟨[(.array .byte), .int], some .byte⟩ := by decide +kernel
theorem d_jdk_42_m149_48 : decode jdk_42_method_149_code 48 = .ok (.putfield 15, 3) := by decide +kernel
theorem d_jdk_42_m149_51 : decode jdk_42_method_149_code 51 = .ok (.aload_n 0, 1) := by decide +kernel
theorem d_jdk_42_m149_52 : decode jdk_42_method_149_code 52 = .ok (.aload 5, 2) := by decide +kernel
theorem d_jdk_42_m149_54 : decode jdk_42_method_149_code 54 = .ok (.putfield 9, 3) := by decide +kernel
theorem d_jdk_42_m149_57 : decode jdk_42_method_149_code 57 = .ok (.return_, 1) := by decide +kernel
theorem ef_rm_i4 (m : MethodId) (x0 : Addr) (x1 : Addr) (x2 : Int32) (x3 : Int32) : entryFrame m #[(.ref x0), (.ref x1), (.int x2), (.int x3), .null] 6 = mkF m 0 #[.val (.ref x0), .val (.ref x1), .val (.int x2), .val (.int x3), .val .null, .unset] [] := by
   first | (simp [entryFrame, mkF, argsToLocals, Value.category]; done) | rfl
set_option maxRecDepth 65536 in
set_option maxHeartbeats 40000000 in
theorem rm_i4 (l : Launch) (Z : State) (a0 : Array Value) (hw : ∀ d ∈ tables_1, d.before a0 Z = true) (ws : List Jvm.Cond) (x : Addr) (a : Addr) (ka : ClassId) (da : Value) (cs : List Int32) (G1 : Int32) (h0 : Heap) (n0 : Nat) (O0 : Old Z n0 h0) (E_x : Exa Z h0 x "java/lang/String") (F_v : Fld Z h0 x "java/lang/String" "value" "[B" .null) (F_c : Fld Z h0 x "java/lang/String" "coder" "B" (.int (0 : Int32))) (g_x : n0 ≤ x) (OA : Sta Z Z.heap "java/lang/StringUTF16" "$assertionsDisabled" "Z" (.int (1 : Int32))) (OH : Sta Z Z.heap "java/lang/StringUTF16" "HI_BYTE_SHIFT" "I" (.int (0 : Int32))) (OL : Sta Z Z.heap "java/lang/StringUTF16" "LO_BYTE_SHIFT" "I" (.int (8 : Int32))) (O2 : Sta Z Z.heap "java/lang/String" "COMPACT_STRINGS" "Z" (.int G1)) (P5 : ¬ (G1 = (0 : Int32))) (hok : own_Ok cs) (V_a : Arv Z h0 a ka .char (Int32.ofNat cs.length) (cs.map Value.int) da) (hcap : cs.length ≤ 3) (h1 : 0 < cs.length) :
    MetFree l (⟨"java/lang/String", "<init>", "([CIILjava/lang/Void;)V"⟩ : MethodName) (head1 (Jvm.Cond.code (⟨"java/lang/String", "<init>", "([CIILjava/lang/Void;)V"⟩ : MethodName) jdk_42_method_149_code 6 none :: ws) ({ frames := 4, cells := 2, slots := 9, locals := 57 } : Room)) (fun aA U => aA = #[(.ref x), (.ref a), (.int (0 : Int32)), (.int (Int32.ofNat cs.length)), .null] ∧ Z.Warmed39 U.vm ∧ U.heap = h0) (fun _ _ _ _ _ => True) (fun _ U oO U' => ∃ rV rL, oO = .returned rV ∧ QSt Z x cs h0 n0 rV U'.heap rL ∧ FrameEnd U oO U' rL 2 9) := by
  refine MetFree.of_bodySF (plainFor_of_name pn_0) hisR ?_
  intro p e s m args below meth cC s₁ Bd hml0 hP hK
  obtain ⟨rfl, hZ, hh⟩ := hP
  have hx := Bd.exec
  have hby := Bd.bytes
  have hml : cC.maxLocals = 6 := hml0
  have hown : s.vm.findClass "java/lang/String" = some m.cls := findClass_of_methodNamed Bd.named
  have hnm := (name_of_methodNamed Bd.named Bd.method).1
  have hrt := Bd.returns
  have hlk : meth.locks = false := Bd.notSynchronized
  have X0 : Stand p l e ({ frames := 4, cells := 2, slots := 9, locals := 57 } : Room) s m #[(.ref x), (.ref a), (.int (0 : Int32)), (.int (Int32.ofNat cs.length)), .null] below meth cC s₁ [] 0 0 := Stand.of_body Bd
  have e0 : s₁.heap = h0 := by rw [← hh, Bd.state]; rfl
  have N0 := Fr.nil n0
  have Z0 : n0 ≤ h0.size := O0.1 ▸ O0.2.1
  show own_Go p e below (s₁.setTop (entryFrame m #[(.ref x), (.ref a), (.int (0 : Int32)), (.int (Int32.ofNat cs.length)), .null] 6)) (fun oO U' => ∃ rV rL, oO = .returned rV ∧ QSt Z x cs h0 n0 rV U'.heap rL ∧ FrameEnd s oO U' rL 2 9)
  refine own_go (fun _ k => castTop (ef_rm_i4 m x a _ _) k) ?_
  have hlen : cs.length ≤ 4000 := hok.2
  have hxa := Exa.neArv E_x V_a (hw _ (List.mem_of_getElem? (i := 11) rfl))
  show own_Go p e below (s₁.setTop (mkF m 0 #[.val (.ref x), .val (.ref a), .val (.int (0 : Int32)), .val (.int (Int32.ofNat cs.length)), .val .null, .unset] [])) _
  refine own_go (fun _ k => XS.aloadN X0.here hx rfl (hb hby d_jdk_42_m149_0) rfl rfl k) ?_
  show own_Go p e below (s₁.setTop (mkF m 1 #[.val (.ref x), .val (.ref a), .val (.int (0 : Int32)), .val (.int (Int32.ofNat cs.length)), .val .null, .unset] [(.ref x)])) _
  obtain ⟨T66, X66, e66, st66⟩ := initO X0 hx hZ hown (hw _ (List.mem_of_getElem? (i := 20) rfl)) (hw _ (List.mem_of_getElem? (i := 21) rfl)) (hw _ (List.mem_of_getElem? (i := 22) rfl)) e0 (g := (mkF m 1 #[.val (.ref x), .val (.ref a), .val (.int (0 : Int32)), .val (.int (Int32.ofNat cs.length)), .val .null, .unset] [(.ref x)])) rfl (by rw [hml]; rfl) rfl (hb hby d_jdk_42_m149_1) (by decide) (W := 0) (by show 2 * 0 + _ ≤ _; exact Nat.le_of_eq rfl) (by decide)
  refine own_go st66 ?_
  show own_Go p e below (T66.setTop (mkF m 4 #[.val (.ref x), .val (.ref a), .val (.int (0 : Int32)), .val (.int (Int32.ofNat cs.length)), .val .null, .unset] [])) _
  refine own_go (fun _ k => XS.iloadN X66.here hx rfl (hb hby d_jdk_42_m149_4) rfl k) ?_
  show own_Go p e below (T66.setTop (mkF m 5 #[.val (.ref x), .val (.ref a), .val (.int (0 : Int32)), .val (.int (Int32.ofNat cs.length)), .val .null, .unset] [(.int (Int32.ofNat cs.length))])) _
  refine own_go (fun _ k => XS.ifYes X66.here hx rfl (pc0 := 5) (pc' := 27) rfl (hb hby d_jdk_42_m149_5) rfl ((if0 _ _).trans (feq (own_ne_0 h1 hlen)).2) (by decide) (by decide) k) ?_
  show own_Go p e below (T66.setTop (mkF m 27 #[.val (.ref x), .val (.ref a), .val (.int (0 : Int32)), .val (.int (Int32.ofNat cs.length)), .val .null, .unset] [])) _
  obtain ⟨T67, X67, e67, st67⟩ := getS2 X66 hx hZ hown (host := "") (Or.inl (hw _ (List.mem_of_getElem? (i := 45) rfl))) Via.refl e66 (O2.ext O0.2) (g := (mkF m 27 #[.val (.ref x), .val (.ref a), .val (.int (0 : Int32)), .val (.int (Int32.ofNat cs.length)), .val .null, .unset] [])) rfl (hb hby d_jdk_42_m149_27)
  refine own_go st67 ?_
  show own_Go p e below (T67.setTop (mkF m 30 #[.val (.ref x), .val (.ref a), .val (.int (0 : Int32)), .val (.int (Int32.ofNat cs.length)), .val .null, .unset] [(.int G1)])) _
  refine own_go (fun _ k => XS.ifNo X67.here hx rfl (hb hby d_jdk_42_m149_30) rfl ((if0 _ _).trans (feq P5).1) k) ?_
  show own_Go p e below (T67.setTop (mkF m 33 #[.val (.ref x), .val (.ref a), .val (.int (0 : Int32)), .val (.int (Int32.ofNat cs.length)), .val .null, .unset] [])) _
  refine own_go (fun _ k => XS.aloadN X67.here hx rfl (hb hby d_jdk_42_m149_33) rfl rfl k) ?_
  show own_Go p e below (T67.setTop (mkF m 34 #[.val (.ref x), .val (.ref a), .val (.int (0 : Int32)), .val (.int (Int32.ofNat cs.length)), .val .null, .unset] [(.ref a)])) _
  refine own_go (fun _ k => XS.iloadN X67.here hx rfl (hb hby d_jdk_42_m149_34) rfl k) ?_
  show own_Go p e below (T67.setTop (mkF m 35 #[.val (.ref x), .val (.ref a), .val (.int (0 : Int32)), .val (.int (Int32.ofNat cs.length)), .val .null, .unset] [(.int (0 : Int32)), (.ref a)])) _
  refine own_go (fun _ k => XS.iloadN X67.here hx rfl (hb hby d_jdk_42_m149_35) rfl k) ?_
  show own_Go p e below (T67.setTop (mkF m 36 #[.val (.ref x), .val (.ref a), .val (.int (0 : Int32)), .val (.int (Int32.ofNat cs.length)), .val .null, .unset] [(.int (Int32.ofNat cs.length)), (.int (0 : Int32)), (.ref a)])) _
  obtain ⟨v68, _, ⟨T68, L68, k68, n68⟩, -, X68, ⟨Lc68, hQ68, l68, y68, z68⟩, st68⟩ := Jvm.LawKit.callS X67 hx (y := (⟨"java/lang/StringUTF16", "compress", "([CII)[B"⟩ : MethodName)) hown (mvT hZ (hw _ (List.mem_of_getElem? (i := 62) rfl))) (mvT hZ (hw _ (List.mem_of_getElem? (i := 63) rfl))) (mvT hZ (hw _ (List.mem_of_getElem? (i := 64) rfl))) (mvT hZ (hw _ (List.mem_of_getElem? (i := 65) rfl))) (by decide) (backOf (W := 0) (rm_cmp3 l Z a0 hw [] a ka da cs h0 n0 O0 OA OH OL hok V_a hcap) hZ (hw _ (List.mem_of_getElem? (i := 65) rfl)) (hw _ (List.mem_of_getElem? (i := 64) rfl)) (by decide) (by decide)) (g := (mkF m 36 #[.val (.ref x), .val (.ref a), .val (.int (0 : Int32)), .val (.int (Int32.ofNat cs.length)), .val .null, .unset] [(.int (Int32.ofNat cs.length)), (.int (0 : Int32)), (.ref a)])) rfl (by rw [hml]; rfl) (argsL := [(.ref a), (.int (0 : Int32)), (.int (Int32.ofNat cs.length))]) (rest := []) (lenOf pd_5 rfl) rfl (by show 2 * 0 + _ ≤ _; exact Nat.le_of_eq rfl) (hb hby d_jdk_42_m149_36) (fun _ _ => ⟨rfl, e67, (by decide : 0 + 2 ≤ _), (by decide : 0 + 9 ≤ _)⟩)
  dsimp only [Pt.U, Pt.locs, Pt.cells, Pt.slots] at X68 l68 y68 z68 st68 hQ68
  subst l68 y68 z68
  refine own_go st68 ?_
  obtain ⟨t68, kt68, cd68, N268, vs68, rfl, Nq68, K68, tg68, Vt68, hC68⟩ := hQ68
  have N68 := Fr.app N0 Nq68
  show own_Go p e below (T68.setTop (mkF m 39 #[.val (.ref x), .val (.ref a), .val (.int (0 : Int32)), .val (.int (Int32.ofNat cs.length)), .val .null, .unset] [(.ref t68)])) _
  refine own_go (fun _ k => XS.astore X68.here hx rfl (hb hby d_jdk_42_m149_39) rfl rfl (l' := #[.val (.ref x), .val (.ref a), .val (.int (0 : Int32)), .val (.int (Int32.ofNat cs.length)), .val .null, .val (.ref t68)]) rfl k) ?_
  show own_Go p e below (T68.setTop (mkF m 41 #[.val (.ref x), .val (.ref a), .val (.int (0 : Int32)), .val (.int (Int32.ofNat cs.length)), .val .null, .val (.ref t68)] [])) _
  refine own_go (fun _ k => XS.aloadN X68.here hx rfl (hb hby d_jdk_42_m149_41) rfl rfl k) ?_
  show own_Go p e below (T68.setTop (mkF m 42 #[.val (.ref x), .val (.ref a), .val (.int (0 : Int32)), .val (.int (Int32.ofNat cs.length)), .val .null, .val (.ref t68)] [(.ref x)])) _
  refine own_go (fun _ k => XS.aload X68.here hx rfl (hb hby d_jdk_42_m149_42) rfl rfl k) ?_
  show own_Go p e below (T68.setTop (mkF m 44 #[.val (.ref x), .val (.ref a), .val (.int (0 : Int32)), .val (.int (Int32.ofNat cs.length)), .val .null, .val (.ref t68)] [(.ref t68), (.ref x)])) _
  refine own_go (fun _ k => XS.iloadN X68.here hx rfl (hb hby d_jdk_42_m149_44) rfl k) ?_
  show own_Go p e below (T68.setTop (mkF m 45 #[.val (.ref x), .val (.ref a), .val (.int (0 : Int32)), .val (.int (Int32.ofNat cs.length)), .val .null, .val (.ref t68)] [(.int (Int32.ofNat cs.length)), (.ref t68), (.ref x)])) _
  obtain ⟨v69, _, ⟨T69, L69, k69, n69⟩, -, X69, ⟨Lc69, hQ69, l69, y69, z69⟩, st69⟩ := Jvm.LawKit.callS X68 hx (y := (⟨"java/lang/StringUTF16", "coderFromArrayLen", "([BI)B"⟩ : MethodName)) hown (mvT hZ (hw _ (List.mem_of_getElem? (i := 88) rfl))) (mvT hZ (hw _ (List.mem_of_getElem? (i := 89) rfl))) (mvT hZ (hw _ (List.mem_of_getElem? (i := 64) rfl))) (mvT hZ (hw _ (List.mem_of_getElem? (i := 90) rfl))) (by decide) (backOf (W := 1) (rm_cfa l Z a0 hw [] t68 kt68 N268 vs68 cs cd68 T68.heap n0 (O0.keep K68 all0) Vt68 hC68 h1 hlen) hZ (hw _ (List.mem_of_getElem? (i := 90) rfl)) (hw _ (List.mem_of_getElem? (i := 64) rfl)) (by decide) (by decide)) (g := (mkF m 45 #[.val (.ref x), .val (.ref a), .val (.int (0 : Int32)), .val (.int (Int32.ofNat cs.length)), .val .null, .val (.ref t68)] [(.int (Int32.ofNat cs.length)), (.ref t68), (.ref x)])) rfl (by rw [hml]; rfl) (argsL := [(.ref t68), (.int (Int32.ofNat cs.length))]) (rest := [(.ref x)]) (lenOf pd_7 rfl) rfl (by show 2 * 0 + _ ≤ _; exact Nat.le_of_eq rfl) (hb hby d_jdk_42_m149_45) (fun _ _ => ⟨rfl, (rfl : T68.heap = T68.heap), (by decide : 2 + 0 ≤ _), (by decide : 9 + 0 ≤ _)⟩)
  dsimp only [Pt.U, Pt.locs, Pt.cells, Pt.slots] at X69 l69 y69 z69 st69 hQ69
  subst l69 y69 z69
  refine own_go st69 ?_
  obtain ⟨rfl, Nq69, e69⟩ := hQ69
  have N69 := Fr.app N68 Nq69
  show own_Go p e below (T69.setTop (mkF m 48 #[.val (.ref x), .val (.ref a), .val (.int (0 : Int32)), .val (.int (Int32.ofNat cs.length)), .val .null, .val (.ref t68)] [(.int cd68), (.ref x)])) _
  obtain ⟨T70, h70, X70, e70, W70, st70⟩ := putFN X69 hx hZ hown (hw _ (List.mem_of_getElem? (i := 30) rfl)) Via.refl e69 (F_c.keep K68 nin0) (E_x.keep K68) (Or.inr ⟨(hw _ (List.mem_of_getElem? (i := 26) rfl)), rfl, hnm⟩) (hw _ (List.mem_of_getElem? (i := 11) rfl)) (ty := .byte) (v' := (.int (nar .byte cd68))) (by decide) rfl (fits_nar_byte _) (g := (mkF m 48 #[.val (.ref x), .val (.ref a), .val (.int (0 : Int32)), .val (.int (Int32.ofNat cs.length)), .val .null, .val (.ref t68)] [(.int cd68), (.ref x)])) rfl rfl (hb hby d_jdk_42_m149_48)
  refine own_go st70 ?_
  have N70 := Fr.snoc X70 N69 g_x
  have Fw70 := (F_c.keep K68 nin0).same W70
  show own_Go p e below (T70.setTop (mkF m 51 #[.val (.ref x), .val (.ref a), .val (.int (0 : Int32)), .val (.int (Int32.ofNat cs.length)), .val .null, .val (.ref t68)] [])) _
  refine own_go (fun _ k => XS.aloadN X70.here hx rfl (hb hby d_jdk_42_m149_51) rfl rfl k) ?_
  show own_Go p e below (T70.setTop (mkF m 52 #[.val (.ref x), .val (.ref a), .val (.int (0 : Int32)), .val (.int (Int32.ofNat cs.length)), .val .null, .val (.ref t68)] [(.ref x)])) _
  refine own_go (fun _ k => XS.aload X70.here hx rfl (hb hby d_jdk_42_m149_52) rfl rfl k) ?_
  show own_Go p e below (T70.setTop (mkF m 54 #[.val (.ref x), .val (.ref a), .val (.int (0 : Int32)), .val (.int (Int32.ofNat cs.length)), .val .null, .val (.ref t68)] [(.ref t68), (.ref x)])) _
  have f71 := ((F_v.keep K68 nin0).other W70 (Or.inr (slot_ne (Or.inr (hw _ (List.mem_of_getElem? (i := 25) rfl))) (Or.inr (hw _ (List.mem_of_getElem? (i := 26) rfl))) (by decide) (t := (.array .byte)) (t' := .byte) (by decide) (by decide))))
  obtain ⟨T72, h72, X72, e72, W72, st72⟩ := putF X70 hx hZ hown (host := "") (Or.inl (hw _ (List.mem_of_getElem? (i := 29) rfl))) Via.refl e70 f71 ((E_x.keep K68).wr W70) (Or.inr ⟨(hw _ (List.mem_of_getElem? (i := 25) rfl)), rfl, hnm⟩) (hw _ (List.mem_of_getElem? (i := 11) rfl)) (ty := (.array .byte)) (by decide) rfl rfl (g := (mkF m 54 #[.val (.ref x), .val (.ref a), .val (.int (0 : Int32)), .val (.int (Int32.ofNat cs.length)), .val .null, .val (.ref t68)] [(.ref t68), (.ref x)])) rfl rfl (hb hby d_jdk_42_m149_54)
  refine own_go st72 ?_
  have N72 := Fr.snoc X72 N70 g_x
  have Fw72 := f71.same W72
  show own_Go p e below (T72.setTop (mkF m 57 #[.val (.ref x), .val (.ref a), .val (.int (0 : Int32)), .val (.int (Int32.ofNat cs.length)), .val .null, .val (.ref t68)] [])) _
  have f73 := (Fw70.other W72 (Or.inr (slot_ne (Or.inr (hw _ (List.mem_of_getElem? (i := 26) rfl))) (Or.inr (hw _ (List.mem_of_getElem? (i := 25) rfl))) (by decide) (t := .byte) (t' := (.array .byte)) (by decide) (by decide))))
  have f74 := ((((Keep.refl h0 [x]).trans K68 all0).wr W70 (Or.inl (List.mem_of_getElem? (i := 0) rfl))).wr W72 (Or.inl (List.mem_of_getElem? (i := 0) rfl)))
  have ne75 : x ≠ t68 := Nat.ne_of_lt (Nat.lt_of_lt_of_le E_x.lt tg68)
  have f76 := ((Vt68.other W70 (Ne.symm ne75)).other W72 (Ne.symm ne75))
  refine own_fin (v := none) X72 (fun _ => rfl) hlk (fun fs hr => X72.returnOut hx hrt (hb hby d_jdk_42_m149_57) hr) (QQ := QSt Z x cs h0 n0) ?_ (by decide) (by decide)
  rw [e72]
  exact ⟨t68, _, _, _, _, rfl, N72, f74, Fw72, (own_ncd hC68 ▸ f73), f76, hC68⟩

theorem ef_rm_i1 (m : MethodId) (x0 : Addr) (x1 : Addr) : entryFrame m #[(.ref x0), (.ref x1)] 2 = mkF m 0 #[.val (.ref x0), .val (.ref x1)] [] := by
   first | (simp [entryFrame, mkF, argsToLocals, Value.category]; done) | rfl
set_option maxRecDepth 65536 in
set_option maxHeartbeats 40000000 in
theorem rm_i1 (l : Launch) (Z : State) (a0 : Array Value) (hw : ∀ d ∈ tables_1, d.before a0 Z = true) (ws : List Jvm.Cond) (x : Addr) (a : Addr) (ka : ClassId) (da : Value) (cs : List Int32) (G1 : Int32) (h0 : Heap) (n0 : Nat) (O0 : Old Z n0 h0) (E_x : Exa Z h0 x "java/lang/String") (F_v : Fld Z h0 x "java/lang/String" "value" "[B" .null) (F_c : Fld Z h0 x "java/lang/String" "coder" "B" (.int (0 : Int32))) (g_x : n0 ≤ x) (OA : Sta Z Z.heap "java/lang/StringUTF16" "$assertionsDisabled" "Z" (.int (1 : Int32))) (OH : Sta Z Z.heap "java/lang/StringUTF16" "HI_BYTE_SHIFT" "I" (.int (0 : Int32))) (OL : Sta Z Z.heap "java/lang/StringUTF16" "LO_BYTE_SHIFT" "I" (.int (8 : Int32))) (O2 : Sta Z Z.heap "java/lang/String" "COMPACT_STRINGS" "Z" (.int G1)) (P5 : ¬ (G1 = (0 : Int32))) (hok : own_Ok cs) (V_a : Arv Z h0 a ka .char (Int32.ofNat cs.length) (cs.map Value.int) da) (hcap : cs.length ≤ 3) (h1 : 0 < cs.length) :
    MetFree l (⟨"java/lang/String", "<init>", "([C)V"⟩ : MethodName) (head1 (Jvm.Cond.code (⟨"java/lang/String", "<init>", "([C)V"⟩ : MethodName) jdk_42_method_3_code 2 none :: ws) ({ frames := 5, cells := 2, slots := 9, locals := 74 } : Room)) (fun aA U => aA = #[(.ref x), (.ref a)] ∧ Z.Warmed39 U.vm ∧ U.heap = h0) (fun _ _ _ _ _ => True) (fun _ U oO U' => ∃ rV rL, oO = .returned rV ∧ QSt Z x cs h0 n0 rV U'.heap rL ∧ FrameEnd U oO U' rL 2 9) := by
  refine MetFree.of_bodySF (plainFor_of_name pn_0) hisR ?_
  intro p e s m args below meth cC s₁ Bd hml0 hP hK
  obtain ⟨rfl, hZ, hh⟩ := hP
  have hx := Bd.exec
  have hby := Bd.bytes
  have hml : cC.maxLocals = 2 := hml0
  have hown : s.vm.findClass "java/lang/String" = some m.cls := findClass_of_methodNamed Bd.named
  have hnm := (name_of_methodNamed Bd.named Bd.method).1
  have hrt := Bd.returns
  have hlk : meth.locks = false := Bd.notSynchronized
  have X0 : Stand p l e ({ frames := 5, cells := 2, slots := 9, locals := 74 } : Room) s m #[(.ref x), (.ref a)] below meth cC s₁ [] 0 0 := Stand.of_body Bd
  have e0 : s₁.heap = h0 := by rw [← hh, Bd.state]; rfl
  have N0 := Fr.nil n0
  have Z0 : n0 ≤ h0.size := O0.1 ▸ O0.2.1
  show own_Go p e below (s₁.setTop (entryFrame m #[(.ref x), (.ref a)] 2)) (fun oO U' => ∃ rV rL, oO = .returned rV ∧ QSt Z x cs h0 n0 rV U'.heap rL ∧ FrameEnd s oO U' rL 2 9)
  refine own_go (fun _ k => castTop (ef_rm_i1 m x a) k) ?_
  have hlen : cs.length ≤ 4000 := hok.2
  have hxa := Exa.neArv E_x V_a (hw _ (List.mem_of_getElem? (i := 11) rfl))
  show own_Go p e below (s₁.setTop (mkF m 0 #[.val (.ref x), .val (.ref a)] [])) _
  refine own_go (fun _ k => XS.aloadN X0.here hx rfl (hb hby d_jdk_42_m3_0) rfl rfl k) ?_
  show own_Go p e below (s₁.setTop (mkF m 1 #[.val (.ref x), .val (.ref a)] [(.ref x)])) _
  refine own_go (fun _ k => XS.aloadN X0.here hx rfl (hb hby d_jdk_42_m3_1) rfl rfl k) ?_
  show own_Go p e below (s₁.setTop (mkF m 2 #[.val (.ref x), .val (.ref a)] [(.ref a), (.ref x)])) _
  refine own_go (fun _ k => XS.iconst X0.here hx rfl (hb hby d_jdk_42_m3_2) k) ?_
  show own_Go p e below (s₁.setTop (mkF m 3 #[.val (.ref x), .val (.ref a)] [(.int (0 : Int32)), (.ref a), (.ref x)])) _
  refine own_go (fun _ k => XS.aloadN X0.here hx rfl (hb hby d_jdk_42_m3_3) rfl rfl k) ?_
  show own_Go p e below (s₁.setTop (mkF m 4 #[.val (.ref x), .val (.ref a)] [(.ref a), (.int (0 : Int32)), (.ref a), (.ref x)])) _
  obtain ⟨c77, A77, q77, S77, M77, Hs77, Gs77⟩ := id V_a
  refine own_go (fun _ k => X0.arraylength hx (by rw [e0]; exact A77.1) (State.isArrayOf_alike hZ.alike A77.2.1) (g := (mkF m 4 #[.val (.ref x), .val (.ref a)] [(.ref a), (.int (0 : Int32)), (.ref a), (.ref x)])) rfl rfl (hb hby d_jdk_42_m3_4) _ k) ?_
  rw [len_of S77 M77]
  show own_Go p e below (s₁.setTop (mkF m 5 #[.val (.ref x), .val (.ref a)] [(.int (Int32.ofNat cs.length)), (.int (0 : Int32)), (.ref a), (.ref x)])) _
  refine own_go (fun _ k => XS.aconstNull X0.here hx rfl (hb hby d_jdk_42_m3_5) k) ?_
  show own_Go p e below (s₁.setTop (mkF m 6 #[.val (.ref x), .val (.ref a)] [.null, (.int (Int32.ofNat cs.length)), (.int (0 : Int32)), (.ref a), (.ref x)])) _
  obtain ⟨v78, _, ⟨T78, L78, k78, n78⟩, -, X78, ⟨Lc78, hQ78, l78, y78, z78⟩, st78⟩ := X0.specialBack hx (y := (⟨"java/lang/String", "<init>", "([CIILjava/lang/Void;)V"⟩ : MethodName)) rfl hown (mvT hZ (hw _ (List.mem_of_getElem? (i := 16) rfl))) (mvT hZ (hw _ (List.mem_of_getElem? (i := 17) rfl))) (mvT hZ (hw _ (List.mem_of_getElem? (i := 19) rfl))) (by decide) (backOf (W := 0) (rm_i4 l Z a0 hw [] x a ka da cs G1 h0 n0 O0 E_x F_v F_c g_x OA OH OL O2 P5 hok V_a hcap h1) hZ (hw _ (List.mem_of_getElem? (i := 19) rfl)) (hw _ (List.mem_of_getElem? (i := 12) rfl)) (by decide) (by decide)) (g := (mkF m 6 #[.val (.ref x), .val (.ref a)] [.null, (.int (Int32.ofNat cs.length)), (.int (0 : Int32)), (.ref a), (.ref x)])) rfl (by rw [hml]; rfl) (Steps.refl _) (a := x) (argsL := [(.ref a), (.int (0 : Int32)), (.int (Int32.ofNat cs.length)), .null]) (rest := []) (lenOf pd_0 rfl) rfl (by show 2 * 0 + _ ≤ _; exact Nat.le_of_eq rfl) (hb hby d_jdk_42_m3_6) (fun _ _ => ⟨rfl, e0, (by decide : 0 + 2 ≤ _), (by decide : 0 + 9 ≤ _)⟩)
  dsimp only [Pt.U, Pt.locs, Pt.cells, Pt.slots] at X78 l78 y78 z78 st78 hQ78
  subst l78 y78 z78
  refine own_gos st78 ?_
  obtain ⟨t78, kt78, cd78, N278, vs78, rfl, Nq78, K78, Fv78, Fc78, Vt78, hC78⟩ := hQ78
  have N78 := Fr.app N0 Nq78
  show own_Go p e below (T78.setTop (mkF m 9 #[.val (.ref x), .val (.ref a)] [])) _
  have f79 := ((Keep.refl h0 [x]).trans K78 (allS (Or.inl (List.mem_of_getElem? (i := 0) rfl)) all0))
  refine own_fin (v := none) X78 (fun _ => rfl) hlk (fun fs hr => X78.returnOut hx hrt (hb hby d_jdk_42_m3_9) hr) (QQ := QSt Z x cs h0 n0) ?_ (by decide) (by decide)
  exact ⟨t78, _, _, _, _, rfl, N78, f79, Fv78, Fc78, Vt78, hC78⟩

def QIx (cs : List Int32) (ch : Int32) (h0 : Heap) (n0 : Nat) (v : Option Value) (h : Heap) (L : List Loc) : Prop := ∃ r : Int32, v = some (.int r) ∧ Fr n0 L ∧ h = h0 ∧ ((¬ r < 0 ∧ ch ∈ cs) ∨ (r < 0 ∧ ¬ ch ∈ cs))
theorem own_loinj {x c : Int32} (h0 : ¬ x < 0) (h1 : ¬ (255 : Int32) < x) (g0 : ¬ c < 0) (g1 : ¬ (255 : Int32) < c) (e : StrChars.lo8 x = c.toInt8.toInt32) : x = c := by
  have e' : StrChars.lo8 x = StrChars.lo8 c := e
  rw [← StrChars.lo8_mask h0 h1, ← StrChars.lo8_mask g0 g1, e']
theorem own_lgd {cs : List Int32} {i : Nat} (hi : i < cs.length) (h : cs.length ≤ 4000) : (own_lat cs).getD (Int32.ofNat i).toNatClampNeg (.int (0 : Int32)) = Value.int (StrChars.lo8 (cs.getD i 0)) := by
  rw [own_tn (by omega)]
  simp [own_lat, List.getD_eq_getElem?_getD, hi]
theorem own_nomem {cs : List Int32} {c : Int32} (h : ∀ j, j < cs.length → ¬ cs.getD j 0 = c) : ¬ c ∈ cs := fun q => by
  obtain ⟨j, hj, e⟩ := List.getElem_of_mem q
  exact h j hj (by rw [show cs.getD j 0 = cs[j] by simp [List.getD_eq_getElem?_getD, hj]]; exact e)
theorem own_mem_of {cs : List Int32} {c : Int32} {i : Nat} (hi : i < cs.length) (e : cs.getD i 0 = c) : c ∈ cs := e ▸ own_getm hi
theorem own_minself (x : Int32) : x = if x < x then x else x := by split <;> rfl
theorem own_empty {cs : List Int32} {c : Int32} (h : ¬ (0 : Int32) < Int32.ofNat cs.length) (hl : cs.length ≤ 4000) : ¬ c ∈ cs := by
  have : ¬ 0 < cs.length := fun q => h ((own_lti (i := 0) (by omega) (by omega)).mpr q)
  have e : cs = [] := List.eq_nil_of_length_eq_zero (by omega)
  rw [e]; exact List.not_mem_nil
theorem own_irr (x : Int32) : ¬ x < x := by rw [Int32.lt_iff_toInt_lt]; omega
theorem own_lt65 {c : Int32} (h : ¬ (255 : Int32) < c) : c < (65536 : Int32) := by
  rw [Int32.lt_iff_toInt_lt] at h ⊢
  have e1 : (65536 : Int32).toInt = 65536 := rfl
  have e2 : (255 : Int32).toInt = 255 := rfl
  omega
theorem own_wpos {cs : List Int32} {c : Int32} (h : c ∈ cs) : 0 < cs.length := List.length_pos_of_mem h
theorem d_jdk_42_m154_0 : decode jdk_42_method_154_code 0 = .ok (.getstatic 38, 3) := by decide +kernel
theorem d_jdk_42_m154_3 : decode jdk_42_method_154_code 3 = .ok (.ifCond .eq 14, 3) := by decide +kernel
theorem d_jdk_42_m154_6 : decode jdk_42_method_154_code 6 = .ok (.aload_n 0, 1) := by decide +kernel
theorem d_jdk_42_m154_7 : decode jdk_42_method_154_code 7 = .ok (.getfield 15, 3) := by decide +kernel
theorem d_jdk_42_m154_10 : decode jdk_42_method_154_code 10 = .ok (.ifCond .ne 7, 3) := by decide +kernel
theorem d_jdk_42_m154_13 : decode jdk_42_method_154_code 13 = .ok (.iconst 1, 1) := by decide +kernel
theorem d_jdk_42_m154_14 : decode jdk_42_method_154_code 14 = .ok (.goto 4, 3) := by decide +kernel
theorem d_jdk_42_m154_18 : decode jdk_42_method_154_code 18 = .ok (.ireturn, 1) := by decide +kernel
theorem ef_rm_lat (m : MethodId) (x0 : Addr) : entryFrame m #[(.ref x0)] 1 = mkF m 0 #[.val (.ref x0)] [] := by
   first | (simp [entryFrame, mkF, argsToLocals, Value.category]; done) | rfl
set_option maxRecDepth 65536 in
set_option maxHeartbeats 40000000 in
theorem rm_lat (l : Launch) (Z : State) (a0 : Array Value) (hw : ∀ d ∈ tables_1, d.before a0 Z = true) (ws : List Jvm.Cond) (a1 : Addr) (G1 : Int32) (h0 : Heap) (n0 : Nat) (O0 : Old Z n0 h0) (E_a : Exa Z h0 a1 "java/lang/String") (F_c : Fld Z h0 a1 "java/lang/String" "coder" "B" (.int (0 : Int32))) (O2 : Sta Z Z.heap "java/lang/String" "COMPACT_STRINGS" "Z" (.int G1)) (P5 : ¬ (G1 = (0 : Int32))) :
    MetFree l (⟨"java/lang/String", "isLatin1", "()Z"⟩ : MethodName) (head1 (Jvm.Cond.code (⟨"java/lang/String", "isLatin1", "()Z"⟩ : MethodName) jdk_42_method_154_code 1 (some .boolean) :: ws) ({ frames := 0, cells := 0, slots := 0, locals := 0 } : Room)) (fun aA U => aA = #[(.ref a1)] ∧ Z.Warmed39 U.vm ∧ U.heap = h0) (fun _ _ _ _ _ => True) (fun _ U oO U' => ∃ rV rL, oO = .returned rV ∧ QPure (some (.int (1 : Int32))) h0 n0 rV U'.heap rL ∧ FrameEnd U oO U' rL 0 0) := by
  refine MetFree.of_bodySF (plainFor_of_name pn_0) hisR ?_
  intro p e s m args below meth cC s₁ Bd hml0 hP hK
  obtain ⟨rfl, hZ, hh⟩ := hP
  have hx := Bd.exec
  have hby := Bd.bytes
  have hml : cC.maxLocals = 1 := hml0
  have hown : s.vm.findClass "java/lang/String" = some m.cls := findClass_of_methodNamed Bd.named
  have hnm := (name_of_methodNamed Bd.named Bd.method).1
  have hrt := Bd.returns
  have hlk : meth.locks = false := Bd.notSynchronized
  have X0 : Stand p l e ({ frames := 0, cells := 0, slots := 0, locals := 0 } : Room) s m #[(.ref a1)] below meth cC s₁ [] 0 0 := Stand.of_body Bd
  have e0 : s₁.heap = h0 := by rw [← hh, Bd.state]; rfl
  have N0 := Fr.nil n0
  have Z0 : n0 ≤ h0.size := O0.1 ▸ O0.2.1
  show own_Go p e below (s₁.setTop (entryFrame m #[(.ref a1)] 1)) (fun oO U' => ∃ rV rL, oO = .returned rV ∧ QPure (some (.int (1 : Int32))) h0 n0 rV U'.heap rL ∧ FrameEnd s oO U' rL 0 0)
  refine own_go (fun _ k => castTop (ef_rm_lat m a1) k) ?_
  show own_Go p e below (s₁.setTop (mkF m 0 #[.val (.ref a1)] [])) _
  obtain ⟨T80, X80, e80, st80⟩ := getS2 X0 hx hZ hown (host := "") (Or.inl (hw _ (List.mem_of_getElem? (i := 45) rfl))) Via.refl e0 (O2.ext O0.2) (g := (mkF m 0 #[.val (.ref a1)] [])) rfl (hb hby d_jdk_42_m154_0)
  refine own_go st80 ?_
  show own_Go p e below (T80.setTop (mkF m 3 #[.val (.ref a1)] [(.int G1)])) _
  refine own_go (fun _ k => XS.ifNo X80.here hx rfl (hb hby d_jdk_42_m154_3) rfl ((if0 _ _).trans (feq P5).1) k) ?_
  show own_Go p e below (T80.setTop (mkF m 6 #[.val (.ref a1)] [])) _
  refine own_go (fun _ k => XS.aloadN X80.here hx rfl (hb hby d_jdk_42_m154_6) rfl rfl k) ?_
  show own_Go p e below (T80.setTop (mkF m 7 #[.val (.ref a1)] [(.ref a1)])) _
  obtain ⟨T81, X81, e81, st81⟩ := getF X80 hx hZ hown (host := "") (Or.inl (hw _ (List.mem_of_getElem? (i := 30) rfl))) Via.refl e80 F_c (g := (mkF m 7 #[.val (.ref a1)] [(.ref a1)])) rfl rfl (hb hby d_jdk_42_m154_7)
  refine own_go st81 ?_
  show own_Go p e below (T81.setTop (mkF m 10 #[.val (.ref a1)] [(.int (0 : Int32))])) _
  refine own_go (fun _ k => XS.ifNo X81.here hx rfl (hb hby d_jdk_42_m154_10) rfl ((if0 _ _).trans (teq (by decide : (0 : Int32) = (0 : Int32))).2) k) ?_
  show own_Go p e below (T81.setTop (mkF m 13 #[.val (.ref a1)] [])) _
  refine own_go (fun _ k => XS.iconst X81.here hx rfl (hb hby d_jdk_42_m154_13) k) ?_
  show own_Go p e below (T81.setTop (mkF m 14 #[.val (.ref a1)] [(.int (1 : Int32))])) _
  refine own_go (fun _ k => XS.goto X81.here hx rfl (pc0 := 14) (pc' := 18) rfl (hb hby d_jdk_42_m154_14) (by decide) (by decide) k) ?_
  show own_Go p e below (T81.setTop (mkF m 18 #[.val (.ref a1)] [(.int (1 : Int32))])) _
  refine own_fin (v := (some (.int (nar .boolean (1 : Int32))))) X81 (fun h => by rw [hrt] at h; cases h) hlk (fun fs hr => retN X81 hx (t := .boolean) hrt (by simp) (hb hby d_jdk_42_m154_18) hr) (QQ := QPure (some (.int (1 : Int32))) h0 n0) ?_ (by decide) (by decide)
  rw [e81]
  exact ⟨rfl, N0, rfl⟩

theorem own_wLen {Z : State} {a0 : Array Value} (hw : ∀ d ∈ tables_1, d.before a0 Z = true) : ∀ d ∈ StrChars.Road.wordsLen, d.before a0 Z = true := fun d hd => hw d ((by decide +kernel : ∀ d ∈ StrChars.Road.wordsLen, d ∈ tables_1) d hd)
theorem d_jdk_89_m14_0 : decode jdk_89_method_14_code 0 = .ok (.iload_n 0, 1) := by decide +kernel
theorem d_jdk_89_m14_1 : decode jdk_89_method_14_code 1 = .ok (.ldc 75, 2) := by decide +kernel
theorem d_jdk_89_m14_3 : decode jdk_89_method_14_code 3 = .ok (.if_icmp .lt 13, 3) := by decide +kernel
theorem d_jdk_89_m14_16 : decode jdk_89_method_14_code 16 = .ok (.iconst 0, 1) := by decide +kernel
theorem d_jdk_89_m14_17 : decode jdk_89_method_14_code 17 = .ok (.ireturn, 1) := by decide +kernel
theorem d_jdk_89_m14_6 : decode jdk_89_method_14_code 6 = .ok (.iload_n 0, 1) := by decide +kernel
theorem d_jdk_89_m14_7 : decode jdk_89_method_14_code 7 = .ok (.ldc 76, 2) := by decide +kernel
theorem d_jdk_89_m14_9 : decode jdk_89_method_14_code 9 = .ok (.if_icmp .ge 7, 3) := by decide +kernel
theorem d_jdk_89_m14_12 : decode jdk_89_method_14_code 12 = .ok (.iconst 1, 1) := by decide +kernel
theorem d_jdk_89_m14_13 : decode jdk_89_method_14_code 13 = .ok (.goto 4, 3) := by decide +kernel
theorem pn_2 : plainName "java/lang/Character" = true := by first | (simp [plainName, overriddenIn]; done) | decide +kernel
theorem ef_rm_jhi (m : MethodId) (x0 : Int32) : entryFrame m #[(.int x0)] 1 = mkF m 0 #[.val (.int x0)] [] := by
   first | (simp [entryFrame, mkF, argsToLocals, Value.category]; done) | rfl
set_option maxRecDepth 65536 in
set_option maxHeartbeats 40000000 in
theorem rm_jhi (l : Launch) (Z : State) (a0 : Array Value) (hw : ∀ d ∈ tables_1, d.before a0 Z = true) (ws : List Jvm.Cond) (c : Int32) (h0 : Heap) (n0 : Nat) (O0 : Old Z n0 h0) :
    MetFree l (⟨"java/lang/Character", "isHighSurrogate", "(C)Z"⟩ : MethodName) (head1 (Jvm.Cond.code (⟨"java/lang/Character", "isHighSurrogate", "(C)Z"⟩ : MethodName) jdk_89_method_14_code 1 (some .boolean) :: ws) ({ frames := 0, cells := 0, slots := 0, locals := 0 } : Room)) (fun aA U => aA = #[(.int c)] ∧ Z.Warmed39 U.vm ∧ U.heap = h0) (fun _ _ _ _ _ => True) (fun _ U oO U' => ∃ rV rL, oO = .returned rV ∧ QPure (some (.int (own_h1 c))) h0 n0 rV U'.heap rL ∧ FrameEnd U oO U' rL 0 0) := by
  refine MetFree.of_bodySF (plainFor_of_name pn_2) hisR ?_
  intro p e s m args below meth cC s₁ Bd hml0 hP hK
  obtain ⟨rfl, hZ, hh⟩ := hP
  have hx := Bd.exec
  have hby := Bd.bytes
  have hml : cC.maxLocals = 1 := hml0
  have hown : s.vm.findClass "java/lang/Character" = some m.cls := findClass_of_methodNamed Bd.named
  have hnm := (name_of_methodNamed Bd.named Bd.method).1
  have hrt := Bd.returns
  have hlk : meth.locks = false := Bd.notSynchronized
  have X0 : Stand p l e ({ frames := 0, cells := 0, slots := 0, locals := 0 } : Room) s m #[(.int c)] below meth cC s₁ [] 0 0 := Stand.of_body Bd
  have e0 : s₁.heap = h0 := by rw [← hh, Bd.state]; rfl
  have N0 := Fr.nil n0
  have Z0 : n0 ≤ h0.size := O0.1 ▸ O0.2.1
  show own_Go p e below (s₁.setTop (entryFrame m #[(.int c)] 1)) (fun oO U' => ∃ rV rL, oO = .returned rV ∧ QPure (some (.int (own_h1 c))) h0 n0 rV U'.heap rL ∧ FrameEnd s oO U' rL 0 0)
  refine own_go (fun _ k => castTop (ef_rm_jhi m c) k) ?_
  show own_Go p e below (s₁.setTop (mkF m 0 #[.val (.int c)] [])) _
  refine own_go (fun _ k => XS.iloadN X0.here hx rfl (hb hby d_jdk_89_m14_0) rfl k) ?_
  show own_Go p e below (s₁.setTop (mkF m 1 #[.val (.int c)] [(.int c)])) _
  refine own_go (fun _ k => X0.ldcInt hx hown (mvT hZ (hw _ (List.mem_of_getElem? (i := 136) rfl))) (g := (mkF m 1 #[.val (.int c)] [(.int c)])) rfl (hb hby d_jdk_89_m14_1) _ k) ?_
  show own_Go p e below (s₁.setTop (mkF m 3 #[.val (.int c)] [(.int (55296 : Int32)), (.int c)])) _
  by_cases hc82 : c < (55296 : Int32)
  · skip
    refine own_go (fun _ k => XS.icmpYes X0.here hx rfl (pc0 := 3) (pc' := 16) rfl (hb hby d_jdk_89_m14_3) rfl (tlt hc82).1 (by decide) (by decide) k) ?_
    show own_Go p e below (s₁.setTop (mkF m 16 #[.val (.int c)] [])) _
    refine own_go (fun _ k => XS.iconst X0.here hx rfl (hb hby d_jdk_89_m14_16) k) ?_
    show own_Go p e below (s₁.setTop (mkF m 17 #[.val (.int c)] [(.int (0 : Int32))])) _
    refine own_fin (v := (some (.int (nar .boolean (0 : Int32))))) X0 (fun h => by rw [hrt] at h; cases h) hlk (fun fs hr => retN X0 hx (t := .boolean) hrt (by simp) (hb hby d_jdk_89_m14_17) hr) (QQ := QPure (some (.int (own_h1 c))) h0 n0) ?_ (by decide) (by decide)
    rw [e0]
    exact ⟨by unfold own_h1; rw [if_pos hc82] <;> rfl, N0, rfl⟩
  · skip
    refine own_go (fun _ k => XS.icmpNo X0.here hx rfl (hb hby d_jdk_89_m14_3) rfl (flt hc82).1 k) ?_
    show own_Go p e below (s₁.setTop (mkF m 6 #[.val (.int c)] [])) _
    refine own_go (fun _ k => XS.iloadN X0.here hx rfl (hb hby d_jdk_89_m14_6) rfl k) ?_
    show own_Go p e below (s₁.setTop (mkF m 7 #[.val (.int c)] [(.int c)])) _
    refine own_go (fun _ k => X0.ldcInt hx hown (mvT hZ (hw _ (List.mem_of_getElem? (i := 137) rfl))) (g := (mkF m 7 #[.val (.int c)] [(.int c)])) rfl (hb hby d_jdk_89_m14_7) _ k) ?_
    show own_Go p e below (s₁.setTop (mkF m 9 #[.val (.int c)] [(.int (56320 : Int32)), (.int c)])) _
    by_cases hc83 : c < (56320 : Int32)
    · skip
      refine own_go (fun _ k => XS.icmpNo X0.here hx rfl (hb hby d_jdk_89_m14_9) rfl (tlt hc83).2.1 k) ?_
      show own_Go p e below (s₁.setTop (mkF m 12 #[.val (.int c)] [])) _
      refine own_go (fun _ k => XS.iconst X0.here hx rfl (hb hby d_jdk_89_m14_12) k) ?_
      show own_Go p e below (s₁.setTop (mkF m 13 #[.val (.int c)] [(.int (1 : Int32))])) _
      refine own_go (fun _ k => XS.goto X0.here hx rfl (pc0 := 13) (pc' := 17) rfl (hb hby d_jdk_89_m14_13) (by decide) (by decide) k) ?_
      show own_Go p e below (s₁.setTop (mkF m 17 #[.val (.int c)] [(.int (1 : Int32))])) _
      refine own_fin (v := (some (.int (nar .boolean (1 : Int32))))) X0 (fun h => by rw [hrt] at h; cases h) hlk (fun fs hr => retN X0 hx (t := .boolean) hrt (by simp) (hb hby d_jdk_89_m14_17) hr) (QQ := QPure (some (.int (own_h1 c))) h0 n0) ?_ (by decide) (by decide)
      rw [e0]
      exact ⟨by unfold own_h1; rw [if_neg hc82, if_pos hc83] <;> rfl, N0, rfl⟩
    · skip
      refine own_go (fun _ k => XS.icmpYes X0.here hx rfl (pc0 := 9) (pc' := 16) rfl (hb hby d_jdk_89_m14_9) rfl (flt hc83).2.1 (by decide) (by decide) k) ?_
      show own_Go p e below (s₁.setTop (mkF m 16 #[.val (.int c)] [])) _
      refine own_go (fun _ k => XS.iconst X0.here hx rfl (hb hby d_jdk_89_m14_16) k) ?_
      show own_Go p e below (s₁.setTop (mkF m 17 #[.val (.int c)] [(.int (0 : Int32))])) _
      refine own_fin (v := (some (.int (nar .boolean (0 : Int32))))) X0 (fun h => by rw [hrt] at h; cases h) hlk (fun fs hr => retN X0 hx (t := .boolean) hrt (by simp) (hb hby d_jdk_89_m14_17) hr) (QQ := QPure (some (.int (own_h1 c))) h0 n0) ?_ (by decide) (by decide)
      rw [e0]
      exact ⟨by unfold own_h1; rw [if_neg hc82, if_neg hc83] <;> rfl, N0, rfl⟩

theorem d_jdk_89_m15_0 : decode jdk_89_method_15_code 0 = .ok (.iload_n 0, 1) := by decide +kernel
theorem d_jdk_89_m15_1 : decode jdk_89_method_15_code 1 = .ok (.ldc 76, 2) := by decide +kernel
theorem d_jdk_89_m15_3 : decode jdk_89_method_15_code 3 = .ok (.if_icmp .lt 13, 3) := by decide +kernel
theorem d_jdk_89_m15_16 : decode jdk_89_method_15_code 16 = .ok (.iconst 0, 1) := by decide +kernel
theorem d_jdk_89_m15_17 : decode jdk_89_method_15_code 17 = .ok (.ireturn, 1) := by decide +kernel
theorem d_jdk_89_m15_6 : decode jdk_89_method_15_code 6 = .ok (.iload_n 0, 1) := by decide +kernel
theorem d_jdk_89_m15_7 : decode jdk_89_method_15_code 7 = .ok (.ldc 77, 2) := by decide +kernel
theorem d_jdk_89_m15_9 : decode jdk_89_method_15_code 9 = .ok (.if_icmp .ge 7, 3) := by decide +kernel
theorem d_jdk_89_m15_12 : decode jdk_89_method_15_code 12 = .ok (.iconst 1, 1) := by decide +kernel
theorem d_jdk_89_m15_13 : decode jdk_89_method_15_code 13 = .ok (.goto 4, 3) := by decide +kernel
theorem ef_rm_jlo (m : MethodId) (x0 : Int32) : entryFrame m #[(.int x0)] 1 = mkF m 0 #[.val (.int x0)] [] := by
   first | (simp [entryFrame, mkF, argsToLocals, Value.category]; done) | rfl
set_option maxRecDepth 65536 in
set_option maxHeartbeats 40000000 in
theorem rm_jlo (l : Launch) (Z : State) (a0 : Array Value) (hw : ∀ d ∈ tables_1, d.before a0 Z = true) (ws : List Jvm.Cond) (c : Int32) (h0 : Heap) (n0 : Nat) (O0 : Old Z n0 h0) :
    MetFree l (⟨"java/lang/Character", "isLowSurrogate", "(C)Z"⟩ : MethodName) (head1 (Jvm.Cond.code (⟨"java/lang/Character", "isLowSurrogate", "(C)Z"⟩ : MethodName) jdk_89_method_15_code 1 (some .boolean) :: ws) ({ frames := 0, cells := 0, slots := 0, locals := 0 } : Room)) (fun aA U => aA = #[(.int c)] ∧ Z.Warmed39 U.vm ∧ U.heap = h0) (fun _ _ _ _ _ => True) (fun _ U oO U' => ∃ rV rL, oO = .returned rV ∧ QPure (some (.int (own_l1 c))) h0 n0 rV U'.heap rL ∧ FrameEnd U oO U' rL 0 0) := by
  refine MetFree.of_bodySF (plainFor_of_name pn_2) hisR ?_
  intro p e s m args below meth cC s₁ Bd hml0 hP hK
  obtain ⟨rfl, hZ, hh⟩ := hP
  have hx := Bd.exec
  have hby := Bd.bytes
  have hml : cC.maxLocals = 1 := hml0
  have hown : s.vm.findClass "java/lang/Character" = some m.cls := findClass_of_methodNamed Bd.named
  have hnm := (name_of_methodNamed Bd.named Bd.method).1
  have hrt := Bd.returns
  have hlk : meth.locks = false := Bd.notSynchronized
  have X0 : Stand p l e ({ frames := 0, cells := 0, slots := 0, locals := 0 } : Room) s m #[(.int c)] below meth cC s₁ [] 0 0 := Stand.of_body Bd
  have e0 : s₁.heap = h0 := by rw [← hh, Bd.state]; rfl
  have N0 := Fr.nil n0
  have Z0 : n0 ≤ h0.size := O0.1 ▸ O0.2.1
  show own_Go p e below (s₁.setTop (entryFrame m #[(.int c)] 1)) (fun oO U' => ∃ rV rL, oO = .returned rV ∧ QPure (some (.int (own_l1 c))) h0 n0 rV U'.heap rL ∧ FrameEnd s oO U' rL 0 0)
  refine own_go (fun _ k => castTop (ef_rm_jlo m c) k) ?_
  show own_Go p e below (s₁.setTop (mkF m 0 #[.val (.int c)] [])) _
  refine own_go (fun _ k => XS.iloadN X0.here hx rfl (hb hby d_jdk_89_m15_0) rfl k) ?_
  show own_Go p e below (s₁.setTop (mkF m 1 #[.val (.int c)] [(.int c)])) _
  refine own_go (fun _ k => X0.ldcInt hx hown (mvT hZ (hw _ (List.mem_of_getElem? (i := 137) rfl))) (g := (mkF m 1 #[.val (.int c)] [(.int c)])) rfl (hb hby d_jdk_89_m15_1) _ k) ?_
  show own_Go p e below (s₁.setTop (mkF m 3 #[.val (.int c)] [(.int (56320 : Int32)), (.int c)])) _
  by_cases hc84 : c < (56320 : Int32)
  · skip
    refine own_go (fun _ k => XS.icmpYes X0.here hx rfl (pc0 := 3) (pc' := 16) rfl (hb hby d_jdk_89_m15_3) rfl (tlt hc84).1 (by decide) (by decide) k) ?_
    show own_Go p e below (s₁.setTop (mkF m 16 #[.val (.int c)] [])) _
    refine own_go (fun _ k => XS.iconst X0.here hx rfl (hb hby d_jdk_89_m15_16) k) ?_
    show own_Go p e below (s₁.setTop (mkF m 17 #[.val (.int c)] [(.int (0 : Int32))])) _
    refine own_fin (v := (some (.int (nar .boolean (0 : Int32))))) X0 (fun h => by rw [hrt] at h; cases h) hlk (fun fs hr => retN X0 hx (t := .boolean) hrt (by simp) (hb hby d_jdk_89_m15_17) hr) (QQ := QPure (some (.int (own_l1 c))) h0 n0) ?_ (by decide) (by decide)
    rw [e0]
    exact ⟨by unfold own_l1; rw [if_pos hc84] <;> rfl, N0, rfl⟩
  · skip
    refine own_go (fun _ k => XS.icmpNo X0.here hx rfl (hb hby d_jdk_89_m15_3) rfl (flt hc84).1 k) ?_
    show own_Go p e below (s₁.setTop (mkF m 6 #[.val (.int c)] [])) _
    refine own_go (fun _ k => XS.iloadN X0.here hx rfl (hb hby d_jdk_89_m15_6) rfl k) ?_
    show own_Go p e below (s₁.setTop (mkF m 7 #[.val (.int c)] [(.int c)])) _
    refine own_go (fun _ k => X0.ldcInt hx hown (mvT hZ (hw _ (List.mem_of_getElem? (i := 141) rfl))) (g := (mkF m 7 #[.val (.int c)] [(.int c)])) rfl (hb hby d_jdk_89_m15_7) _ k) ?_
    show own_Go p e below (s₁.setTop (mkF m 9 #[.val (.int c)] [(.int (57344 : Int32)), (.int c)])) _
    by_cases hc85 : c < (57344 : Int32)
    · skip
      refine own_go (fun _ k => XS.icmpNo X0.here hx rfl (hb hby d_jdk_89_m15_9) rfl (tlt hc85).2.1 k) ?_
      show own_Go p e below (s₁.setTop (mkF m 12 #[.val (.int c)] [])) _
      refine own_go (fun _ k => XS.iconst X0.here hx rfl (hb hby d_jdk_89_m15_12) k) ?_
      show own_Go p e below (s₁.setTop (mkF m 13 #[.val (.int c)] [(.int (1 : Int32))])) _
      refine own_go (fun _ k => XS.goto X0.here hx rfl (pc0 := 13) (pc' := 17) rfl (hb hby d_jdk_89_m15_13) (by decide) (by decide) k) ?_
      show own_Go p e below (s₁.setTop (mkF m 17 #[.val (.int c)] [(.int (1 : Int32))])) _
      refine own_fin (v := (some (.int (nar .boolean (1 : Int32))))) X0 (fun h => by rw [hrt] at h; cases h) hlk (fun fs hr => retN X0 hx (t := .boolean) hrt (by simp) (hb hby d_jdk_89_m15_17) hr) (QQ := QPure (some (.int (own_l1 c))) h0 n0) ?_ (by decide) (by decide)
      rw [e0]
      exact ⟨by unfold own_l1; rw [if_neg hc84, if_pos hc85] <;> rfl, N0, rfl⟩
    · skip
      refine own_go (fun _ k => XS.icmpYes X0.here hx rfl (pc0 := 9) (pc' := 16) rfl (hb hby d_jdk_89_m15_9) rfl (flt hc85).2.1 (by decide) (by decide) k) ?_
      show own_Go p e below (s₁.setTop (mkF m 16 #[.val (.int c)] [])) _
      refine own_go (fun _ k => XS.iconst X0.here hx rfl (hb hby d_jdk_89_m15_16) k) ?_
      show own_Go p e below (s₁.setTop (mkF m 17 #[.val (.int c)] [(.int (0 : Int32))])) _
      refine own_fin (v := (some (.int (nar .boolean (0 : Int32))))) X0 (fun h => by rw [hrt] at h; cases h) hlk (fun fs hr => retN X0 hx (t := .boolean) hrt (by simp) (hb hby d_jdk_89_m15_17) hr) (QQ := QPure (some (.int (own_l1 c))) h0 n0) ?_ (by decide) (by decide)
      rw [e0]
      exact ⟨by unfold own_l1; rw [if_neg hc84, if_neg hc85] <;> rfl, N0, rfl⟩

theorem d_m5_0 : decode method_5_code 0 = .ok (.iload_n 0, 1) := by decide +kernel
theorem d_m5_1 : decode method_5_code 1 = .ok (.ldc 39, 2) := by decide +kernel
theorem d_m5_3 : decode method_5_code 3 = .ok (.if_icmp .lt 13, 3) := by decide +kernel
theorem d_m5_16 : decode method_5_code 16 = .ok (.iconst 0, 1) := by decide +kernel
theorem d_m5_17 : decode method_5_code 17 = .ok (.ireturn, 1) := by decide +kernel
theorem d_m5_6 : decode method_5_code 6 = .ok (.iload_n 0, 1) := by decide +kernel
theorem d_m5_7 : decode method_5_code 7 = .ok (.ldc 47, 2) := by decide +kernel
theorem d_m5_9 : decode method_5_code 9 = .ok (.if_icmp .gt 7, 3) := by decide +kernel
theorem d_m5_12 : decode method_5_code 12 = .ok (.iconst 1, 1) := by decide +kernel
theorem d_m5_13 : decode method_5_code 13 = .ok (.goto 4, 3) := by decide +kernel
theorem pn_3 : plainName "com/example/rolelattice/rolelattice/decision/CodePointsComparePinLaw" = true := by first | (simp [plainName, overriddenIn]; done) | decide +kernel
theorem ef_rm_hi (m : MethodId) (x0 : Int32) : entryFrame m #[(.int x0)] 1 = mkF m 0 #[.val (.int x0)] [] := by
   first | (simp [entryFrame, mkF, argsToLocals, Value.category]; done) | rfl
set_option maxRecDepth 65536 in
set_option maxHeartbeats 40000000 in
theorem rm_hi (l : Launch) (Z : State) (a0 : Array Value) (hw : ∀ d ∈ tables_1, d.before a0 Z = true) (ws : List Jvm.Cond) (c : Int32) (h0 : Heap) (n0 : Nat) (O0 : Old Z n0 h0) :
    MetFree l (⟨"com/example/rolelattice/rolelattice/decision/CodePointsComparePinLaw", "isHi", "(C)Z"⟩ : MethodName) (head1 (Jvm.Cond.code (⟨"com/example/rolelattice/rolelattice/decision/CodePointsComparePinLaw", "isHi", "(C)Z"⟩ : MethodName) method_5_code 1 (some .boolean) :: ws) ({ frames := 0, cells := 0, slots := 0, locals := 0 } : Room)) (fun aA U => aA = #[(.int c)] ∧ Z.Warmed39 U.vm ∧ U.heap = h0) (fun _ _ _ _ _ => True) (fun _ U oO U' => ∃ rV rL, oO = .returned rV ∧ QPure (some (.int (own_h1 c))) h0 n0 rV U'.heap rL ∧ FrameEnd U oO U' rL 0 0) := by
  refine MetFree.of_bodySF (plainFor_of_name pn_3) hisR ?_
  intro p e s m args below meth cC s₁ Bd hml0 hP hK
  obtain ⟨rfl, hZ, hh⟩ := hP
  have hx := Bd.exec
  have hby := Bd.bytes
  have hml : cC.maxLocals = 1 := hml0
  have hown : s.vm.findClass "com/example/rolelattice/rolelattice/decision/CodePointsComparePinLaw" = some m.cls := findClass_of_methodNamed Bd.named
  have hnm := (name_of_methodNamed Bd.named Bd.method).1
  have hrt := Bd.returns
  have hlk : meth.locks = false := Bd.notSynchronized
  have X0 : Stand p l e ({ frames := 0, cells := 0, slots := 0, locals := 0 } : Room) s m #[(.int c)] below meth cC s₁ [] 0 0 := Stand.of_body Bd
  have e0 : s₁.heap = h0 := by rw [← hh, Bd.state]; rfl
  have N0 := Fr.nil n0
  have Z0 : n0 ≤ h0.size := O0.1 ▸ O0.2.1
  show own_Go p e below (s₁.setTop (entryFrame m #[(.int c)] 1)) (fun oO U' => ∃ rV rL, oO = .returned rV ∧ QPure (some (.int (own_h1 c))) h0 n0 rV U'.heap rL ∧ FrameEnd s oO U' rL 0 0)
  refine own_go (fun _ k => castTop (ef_rm_hi m c) k) ?_
  show own_Go p e below (s₁.setTop (mkF m 0 #[.val (.int c)] [])) _
  refine own_go (fun _ k => XS.iloadN X0.here hx rfl (hb hby d_m5_0) rfl k) ?_
  show own_Go p e below (s₁.setTop (mkF m 1 #[.val (.int c)] [(.int c)])) _
  refine own_go (fun _ k => X0.ldcInt hx hown (mvT hZ (hw _ (List.mem_of_getElem? (i := 61) rfl))) (g := (mkF m 1 #[.val (.int c)] [(.int c)])) rfl (hb hby d_m5_1) _ k) ?_
  show own_Go p e below (s₁.setTop (mkF m 3 #[.val (.int c)] [(.int (55296 : Int32)), (.int c)])) _
  by_cases hc86 : c < (55296 : Int32)
  · skip
    refine own_go (fun _ k => XS.icmpYes X0.here hx rfl (pc0 := 3) (pc' := 16) rfl (hb hby d_m5_3) rfl (tlt hc86).1 (by decide) (by decide) k) ?_
    show own_Go p e below (s₁.setTop (mkF m 16 #[.val (.int c)] [])) _
    refine own_go (fun _ k => XS.iconst X0.here hx rfl (hb hby d_m5_16) k) ?_
    show own_Go p e below (s₁.setTop (mkF m 17 #[.val (.int c)] [(.int (0 : Int32))])) _
    refine own_fin (v := (some (.int (nar .boolean (0 : Int32))))) X0 (fun h => by rw [hrt] at h; cases h) hlk (fun fs hr => retN X0 hx (t := .boolean) hrt (by simp) (hb hby d_m5_17) hr) (QQ := QPure (some (.int (own_h1 c))) h0 n0) ?_ (by decide) (by decide)
    rw [e0]
    exact ⟨by unfold own_h1; rw [if_pos hc86] <;> rfl, N0, rfl⟩
  · skip
    refine own_go (fun _ k => XS.icmpNo X0.here hx rfl (hb hby d_m5_3) rfl (flt hc86).1 k) ?_
    show own_Go p e below (s₁.setTop (mkF m 6 #[.val (.int c)] [])) _
    refine own_go (fun _ k => XS.iloadN X0.here hx rfl (hb hby d_m5_6) rfl k) ?_
    show own_Go p e below (s₁.setTop (mkF m 7 #[.val (.int c)] [(.int c)])) _
    refine own_go (fun _ k => X0.ldcInt hx hown (mvT hZ (hw _ (List.mem_of_getElem? (i := 100) rfl))) (g := (mkF m 7 #[.val (.int c)] [(.int c)])) rfl (hb hby d_m5_7) _ k) ?_
    show own_Go p e below (s₁.setTop (mkF m 9 #[.val (.int c)] [(.int (56319 : Int32)), (.int c)])) _
    by_cases hc87 : (56319 : Int32) < c
    · skip
      refine own_go (fun _ k => XS.icmpYes X0.here hx rfl (pc0 := 9) (pc' := 16) rfl (hb hby d_m5_9) rfl (tlt hc87).2.2.1 (by decide) (by decide) k) ?_
      show own_Go p e below (s₁.setTop (mkF m 16 #[.val (.int c)] [])) _
      refine own_go (fun _ k => XS.iconst X0.here hx rfl (hb hby d_m5_16) k) ?_
      show own_Go p e below (s₁.setTop (mkF m 17 #[.val (.int c)] [(.int (0 : Int32))])) _
      refine own_fin (v := (some (.int (nar .boolean (0 : Int32))))) X0 (fun h => by rw [hrt] at h; cases h) hlk (fun fs hr => retN X0 hx (t := .boolean) hrt (by simp) (hb hby d_m5_17) hr) (QQ := QPure (some (.int (own_h1 c))) h0 n0) ?_ (by decide) (by decide)
      rw [e0]
      exact ⟨by unfold own_h1; rw [if_neg hc86, if_neg ((own_5631 c).mp hc87)] <;> rfl, N0, rfl⟩
    · skip
      refine own_go (fun _ k => XS.icmpNo X0.here hx rfl (hb hby d_m5_9) rfl (flt hc87).2.2.1 k) ?_
      show own_Go p e below (s₁.setTop (mkF m 12 #[.val (.int c)] [])) _
      refine own_go (fun _ k => XS.iconst X0.here hx rfl (hb hby d_m5_12) k) ?_
      show own_Go p e below (s₁.setTop (mkF m 13 #[.val (.int c)] [(.int (1 : Int32))])) _
      refine own_go (fun _ k => XS.goto X0.here hx rfl (pc0 := 13) (pc' := 17) rfl (hb hby d_m5_13) (by decide) (by decide) k) ?_
      show own_Go p e below (s₁.setTop (mkF m 17 #[.val (.int c)] [(.int (1 : Int32))])) _
      refine own_fin (v := (some (.int (nar .boolean (1 : Int32))))) X0 (fun h => by rw [hrt] at h; cases h) hlk (fun fs hr => retN X0 hx (t := .boolean) hrt (by simp) (hb hby d_m5_17) hr) (QQ := QPure (some (.int (own_h1 c))) h0 n0) ?_ (by decide) (by decide)
      rw [e0]
      exact ⟨by unfold own_h1; rw [if_neg hc86, if_pos (Decidable.not_not.mp fun q => hc87 ((own_5631 c).mpr q))] <;> rfl, N0, rfl⟩

theorem d_m6_0 : decode method_6_code 0 = .ok (.iload_n 0, 1) := by decide +kernel
theorem d_m6_1 : decode method_6_code 1 = .ok (.ldc 40, 2) := by decide +kernel
theorem d_m6_3 : decode method_6_code 3 = .ok (.if_icmp .lt 13, 3) := by decide +kernel
theorem d_m6_16 : decode method_6_code 16 = .ok (.iconst 0, 1) := by decide +kernel
theorem d_m6_17 : decode method_6_code 17 = .ok (.ireturn, 1) := by decide +kernel
theorem d_m6_6 : decode method_6_code 6 = .ok (.iload_n 0, 1) := by decide +kernel
theorem d_m6_7 : decode method_6_code 7 = .ok (.ldc 48, 2) := by decide +kernel
theorem d_m6_9 : decode method_6_code 9 = .ok (.if_icmp .gt 7, 3) := by decide +kernel
theorem d_m6_12 : decode method_6_code 12 = .ok (.iconst 1, 1) := by decide +kernel
theorem d_m6_13 : decode method_6_code 13 = .ok (.goto 4, 3) := by decide +kernel
theorem ef_rm_lo (m : MethodId) (x0 : Int32) : entryFrame m #[(.int x0)] 1 = mkF m 0 #[.val (.int x0)] [] := by
   first | (simp [entryFrame, mkF, argsToLocals, Value.category]; done) | rfl
set_option maxRecDepth 65536 in
set_option maxHeartbeats 40000000 in
theorem rm_lo (l : Launch) (Z : State) (a0 : Array Value) (hw : ∀ d ∈ tables_1, d.before a0 Z = true) (ws : List Jvm.Cond) (c : Int32) (h0 : Heap) (n0 : Nat) (O0 : Old Z n0 h0) :
    MetFree l (⟨"com/example/rolelattice/rolelattice/decision/CodePointsComparePinLaw", "isLo", "(C)Z"⟩ : MethodName) (head1 (Jvm.Cond.code (⟨"com/example/rolelattice/rolelattice/decision/CodePointsComparePinLaw", "isLo", "(C)Z"⟩ : MethodName) method_6_code 1 (some .boolean) :: ws) ({ frames := 0, cells := 0, slots := 0, locals := 0 } : Room)) (fun aA U => aA = #[(.int c)] ∧ Z.Warmed39 U.vm ∧ U.heap = h0) (fun _ _ _ _ _ => True) (fun _ U oO U' => ∃ rV rL, oO = .returned rV ∧ QPure (some (.int (own_l1 c))) h0 n0 rV U'.heap rL ∧ FrameEnd U oO U' rL 0 0) := by
  refine MetFree.of_bodySF (plainFor_of_name pn_3) hisR ?_
  intro p e s m args below meth cC s₁ Bd hml0 hP hK
  obtain ⟨rfl, hZ, hh⟩ := hP
  have hx := Bd.exec
  have hby := Bd.bytes
  have hml : cC.maxLocals = 1 := hml0
  have hown : s.vm.findClass "com/example/rolelattice/rolelattice/decision/CodePointsComparePinLaw" = some m.cls := findClass_of_methodNamed Bd.named
  have hnm := (name_of_methodNamed Bd.named Bd.method).1
  have hrt := Bd.returns
  have hlk : meth.locks = false := Bd.notSynchronized
  have X0 : Stand p l e ({ frames := 0, cells := 0, slots := 0, locals := 0 } : Room) s m #[(.int c)] below meth cC s₁ [] 0 0 := Stand.of_body Bd
  have e0 : s₁.heap = h0 := by rw [← hh, Bd.state]; rfl
  have N0 := Fr.nil n0
  have Z0 : n0 ≤ h0.size := O0.1 ▸ O0.2.1
  show own_Go p e below (s₁.setTop (entryFrame m #[(.int c)] 1)) (fun oO U' => ∃ rV rL, oO = .returned rV ∧ QPure (some (.int (own_l1 c))) h0 n0 rV U'.heap rL ∧ FrameEnd s oO U' rL 0 0)
  refine own_go (fun _ k => castTop (ef_rm_lo m c) k) ?_
  show own_Go p e below (s₁.setTop (mkF m 0 #[.val (.int c)] [])) _
  refine own_go (fun _ k => XS.iloadN X0.here hx rfl (hb hby d_m6_0) rfl k) ?_
  show own_Go p e below (s₁.setTop (mkF m 1 #[.val (.int c)] [(.int c)])) _
  refine own_go (fun _ k => X0.ldcInt hx hown (mvT hZ (hw _ (List.mem_of_getElem? (i := 107) rfl))) (g := (mkF m 1 #[.val (.int c)] [(.int c)])) rfl (hb hby d_m6_1) _ k) ?_
  show own_Go p e below (s₁.setTop (mkF m 3 #[.val (.int c)] [(.int (56320 : Int32)), (.int c)])) _
  by_cases hc88 : c < (56320 : Int32)
  · skip
    refine own_go (fun _ k => XS.icmpYes X0.here hx rfl (pc0 := 3) (pc' := 16) rfl (hb hby d_m6_3) rfl (tlt hc88).1 (by decide) (by decide) k) ?_
    show own_Go p e below (s₁.setTop (mkF m 16 #[.val (.int c)] [])) _
    refine own_go (fun _ k => XS.iconst X0.here hx rfl (hb hby d_m6_16) k) ?_
    show own_Go p e below (s₁.setTop (mkF m 17 #[.val (.int c)] [(.int (0 : Int32))])) _
    refine own_fin (v := (some (.int (nar .boolean (0 : Int32))))) X0 (fun h => by rw [hrt] at h; cases h) hlk (fun fs hr => retN X0 hx (t := .boolean) hrt (by simp) (hb hby d_m6_17) hr) (QQ := QPure (some (.int (own_l1 c))) h0 n0) ?_ (by decide) (by decide)
    rw [e0]
    exact ⟨by unfold own_l1; rw [if_pos hc88] <;> rfl, N0, rfl⟩
  · skip
    refine own_go (fun _ k => XS.icmpNo X0.here hx rfl (hb hby d_m6_3) rfl (flt hc88).1 k) ?_
    show own_Go p e below (s₁.setTop (mkF m 6 #[.val (.int c)] [])) _
    refine own_go (fun _ k => XS.iloadN X0.here hx rfl (hb hby d_m6_6) rfl k) ?_
    show own_Go p e below (s₁.setTop (mkF m 7 #[.val (.int c)] [(.int c)])) _
    refine own_go (fun _ k => X0.ldcInt hx hown (mvT hZ (hw _ (List.mem_of_getElem? (i := 146) rfl))) (g := (mkF m 7 #[.val (.int c)] [(.int c)])) rfl (hb hby d_m6_7) _ k) ?_
    show own_Go p e below (s₁.setTop (mkF m 9 #[.val (.int c)] [(.int (57343 : Int32)), (.int c)])) _
    by_cases hc89 : (57343 : Int32) < c
    · skip
      refine own_go (fun _ k => XS.icmpYes X0.here hx rfl (pc0 := 9) (pc' := 16) rfl (hb hby d_m6_9) rfl (tlt hc89).2.2.1 (by decide) (by decide) k) ?_
      show own_Go p e below (s₁.setTop (mkF m 16 #[.val (.int c)] [])) _
      refine own_go (fun _ k => XS.iconst X0.here hx rfl (hb hby d_m6_16) k) ?_
      show own_Go p e below (s₁.setTop (mkF m 17 #[.val (.int c)] [(.int (0 : Int32))])) _
      refine own_fin (v := (some (.int (nar .boolean (0 : Int32))))) X0 (fun h => by rw [hrt] at h; cases h) hlk (fun fs hr => retN X0 hx (t := .boolean) hrt (by simp) (hb hby d_m6_17) hr) (QQ := QPure (some (.int (own_l1 c))) h0 n0) ?_ (by decide) (by decide)
      rw [e0]
      exact ⟨by unfold own_l1; rw [if_neg hc88, if_neg ((own_5734 c).mp hc89)] <;> rfl, N0, rfl⟩
    · skip
      refine own_go (fun _ k => XS.icmpNo X0.here hx rfl (hb hby d_m6_9) rfl (flt hc89).2.2.1 k) ?_
      show own_Go p e below (s₁.setTop (mkF m 12 #[.val (.int c)] [])) _
      refine own_go (fun _ k => XS.iconst X0.here hx rfl (hb hby d_m6_12) k) ?_
      show own_Go p e below (s₁.setTop (mkF m 13 #[.val (.int c)] [(.int (1 : Int32))])) _
      refine own_go (fun _ k => XS.goto X0.here hx rfl (pc0 := 13) (pc' := 17) rfl (hb hby d_m6_13) (by decide) (by decide) k) ?_
      show own_Go p e below (s₁.setTop (mkF m 17 #[.val (.int c)] [(.int (1 : Int32))])) _
      refine own_fin (v := (some (.int (nar .boolean (1 : Int32))))) X0 (fun h => by rw [hrt] at h; cases h) hlk (fun fs hr => retN X0 hx (t := .boolean) hrt (by simp) (hb hby d_m6_17) hr) (QQ := QPure (some (.int (own_l1 c))) h0 n0) ?_ (by decide) (by decide)
      rw [e0]
      exact ⟨by unfold own_l1; rw [if_neg hc88, if_pos (Decidable.not_not.mp fun q => hc89 ((own_5734 c).mpr q))] <;> rfl, N0, rfl⟩

theorem d_jdk_89_m18_0 : decode jdk_89_method_18_code 0 = .ok (.iload_n 0, 1) := by decide +kernel
theorem d_jdk_89_m18_1 : decode jdk_89_method_18_code 1 = .ok (.ldc 73, 2) := by decide +kernel
theorem d_jdk_89_m18_3 : decode jdk_89_method_18_code 3 = .ok (.if_icmp .lt 7, 3) := by decide +kernel
theorem d_jdk_89_m18_10 : decode jdk_89_method_18_code 10 = .ok (.iconst 1, 1) := by decide +kernel
theorem d_jdk_89_m18_11 : decode jdk_89_method_18_code 11 = .ok (.ireturn, 1) := by decide +kernel
theorem d_jdk_89_m18_6 : decode jdk_89_method_18_code 6 = .ok (.iconst 2, 1) := by decide +kernel
theorem d_jdk_89_m18_7 : decode jdk_89_method_18_code 7 = .ok (.goto 4, 3) := by decide +kernel
theorem ef_rm_cc (m : MethodId) (x0 : Int32) : entryFrame m #[(.int x0)] 1 = mkF m 0 #[.val (.int x0)] [] := by
   first | (simp [entryFrame, mkF, argsToLocals, Value.category]; done) | rfl
set_option maxRecDepth 65536 in
set_option maxHeartbeats 40000000 in
theorem rm_cc (l : Launch) (Z : State) (a0 : Array Value) (hw : ∀ d ∈ tables_1, d.before a0 Z = true) (ws : List Jvm.Cond) (c : Int32) (h0 : Heap) (n0 : Nat) (O0 : Old Z n0 h0) :
    MetFree l (⟨"java/lang/Character", "charCount", "(I)I"⟩ : MethodName) (head1 (Jvm.Cond.code (⟨"java/lang/Character", "charCount", "(I)I"⟩ : MethodName) jdk_89_method_18_code 1 (some .int) :: ws) ({ frames := 0, cells := 0, slots := 0, locals := 0 } : Room)) (fun aA U => aA = #[(.int c)] ∧ Z.Warmed39 U.vm ∧ U.heap = h0) (fun _ _ _ _ _ => True) (fun _ U oO U' => ∃ rV rL, oO = .returned rV ∧ QPure (some (.int (own_cc c))) h0 n0 rV U'.heap rL ∧ FrameEnd U oO U' rL 0 0) := by
  refine MetFree.of_bodySF (plainFor_of_name pn_2) hisR ?_
  intro p e s m args below meth cC s₁ Bd hml0 hP hK
  obtain ⟨rfl, hZ, hh⟩ := hP
  have hx := Bd.exec
  have hby := Bd.bytes
  have hml : cC.maxLocals = 1 := hml0
  have hown : s.vm.findClass "java/lang/Character" = some m.cls := findClass_of_methodNamed Bd.named
  have hnm := (name_of_methodNamed Bd.named Bd.method).1
  have hrt := Bd.returns
  have hlk : meth.locks = false := Bd.notSynchronized
  have X0 : Stand p l e ({ frames := 0, cells := 0, slots := 0, locals := 0 } : Room) s m #[(.int c)] below meth cC s₁ [] 0 0 := Stand.of_body Bd
  have e0 : s₁.heap = h0 := by rw [← hh, Bd.state]; rfl
  have N0 := Fr.nil n0
  have Z0 : n0 ≤ h0.size := O0.1 ▸ O0.2.1
  show own_Go p e below (s₁.setTop (entryFrame m #[(.int c)] 1)) (fun oO U' => ∃ rV rL, oO = .returned rV ∧ QPure (some (.int (own_cc c))) h0 n0 rV U'.heap rL ∧ FrameEnd s oO U' rL 0 0)
  refine own_go (fun _ k => castTop (ef_rm_cc m c) k) ?_
  show own_Go p e below (s₁.setTop (mkF m 0 #[.val (.int c)] [])) _
  refine own_go (fun _ k => XS.iloadN X0.here hx rfl (hb hby d_jdk_89_m18_0) rfl k) ?_
  show own_Go p e below (s₁.setTop (mkF m 1 #[.val (.int c)] [(.int c)])) _
  refine own_go (fun _ k => X0.ldcInt hx hown (mvT hZ (hw _ (List.mem_of_getElem? (i := 145) rfl))) (g := (mkF m 1 #[.val (.int c)] [(.int c)])) rfl (hb hby d_jdk_89_m18_1) _ k) ?_
  show own_Go p e below (s₁.setTop (mkF m 3 #[.val (.int c)] [(.int (65536 : Int32)), (.int c)])) _
  by_cases hc90 : c < (65536 : Int32)
  · skip
    refine own_go (fun _ k => XS.icmpYes X0.here hx rfl (pc0 := 3) (pc' := 10) rfl (hb hby d_jdk_89_m18_3) rfl (tlt hc90).1 (by decide) (by decide) k) ?_
    show own_Go p e below (s₁.setTop (mkF m 10 #[.val (.int c)] [])) _
    refine own_go (fun _ k => XS.iconst X0.here hx rfl (hb hby d_jdk_89_m18_10) k) ?_
    show own_Go p e below (s₁.setTop (mkF m 11 #[.val (.int c)] [(.int (1 : Int32))])) _
    refine own_fin (v := (some (.int (1 : Int32)))) X0 (fun h => by rw [hrt] at h; cases h) hlk (fun fs hr => retI X0 hx hrt (hb hby d_jdk_89_m18_11) hr) (QQ := QPure (some (.int (own_cc c))) h0 n0) ?_ (by decide) (by decide)
    rw [e0]
    exact ⟨by unfold own_cc; rw [if_pos hc90] <;> rfl, N0, rfl⟩
  · skip
    refine own_go (fun _ k => XS.icmpNo X0.here hx rfl (hb hby d_jdk_89_m18_3) rfl (flt hc90).1 k) ?_
    show own_Go p e below (s₁.setTop (mkF m 6 #[.val (.int c)] [])) _
    refine own_go (fun _ k => XS.iconst X0.here hx rfl (hb hby d_jdk_89_m18_6) k) ?_
    show own_Go p e below (s₁.setTop (mkF m 7 #[.val (.int c)] [(.int (2 : Int32))])) _
    refine own_go (fun _ k => XS.goto X0.here hx rfl (pc0 := 7) (pc' := 11) rfl (hb hby d_jdk_89_m18_7) (by decide) (by decide) k) ?_
    show own_Go p e below (s₁.setTop (mkF m 11 #[.val (.int c)] [(.int (2 : Int32))])) _
    refine own_fin (v := (some (.int (2 : Int32)))) X0 (fun h => by rw [hrt] at h; cases h) hlk (fun fs hr => retI X0 hx hrt (hb hby d_jdk_89_m18_11) hr) (QQ := QPure (some (.int (own_cc c))) h0 n0) ?_ (by decide) (by decide)
    rw [e0]
    exact ⟨by unfold own_cc; rw [if_neg hc90] <;> rfl, N0, rfl⟩

theorem d_m11_0 : decode method_11_code 0 = .ok (.iload_n 0, 1) := by decide +kernel
theorem d_m11_1 : decode method_11_code 1 = .ok (.ifCond .ge 7, 3) := by decide +kernel
theorem d_m11_4 : decode method_11_code 4 = .ok (.iconst (-1), 1) := by decide +kernel
theorem d_m11_5 : decode method_11_code 5 = .ok (.goto 12, 3) := by decide +kernel
theorem d_m11_17 : decode method_11_code 17 = .ok (.ireturn, 1) := by decide +kernel
theorem d_m11_8 : decode method_11_code 8 = .ok (.iload_n 0, 1) := by decide +kernel
theorem d_m11_9 : decode method_11_code 9 = .ok (.ifCond .le 7, 3) := by decide +kernel
theorem d_m11_12 : decode method_11_code 12 = .ok (.iconst 1, 1) := by decide +kernel
theorem d_m11_13 : decode method_11_code 13 = .ok (.goto 4, 3) := by decide +kernel
theorem d_m11_16 : decode method_11_code 16 = .ok (.iconst 0, 1) := by decide +kernel
theorem ef_rm_sg (m : MethodId) (x0 : Int32) : entryFrame m #[(.int x0)] 1 = mkF m 0 #[.val (.int x0)] [] := by
   first | (simp [entryFrame, mkF, argsToLocals, Value.category]; done) | rfl
set_option maxRecDepth 65536 in
set_option maxHeartbeats 40000000 in
theorem rm_sg (l : Launch) (Z : State) (a0 : Array Value) (hw : ∀ d ∈ tables_1, d.before a0 Z = true) (ws : List Jvm.Cond) (c : Int32) (h0 : Heap) (n0 : Nat) (O0 : Old Z n0 h0) :
    MetFree l (⟨"com/example/rolelattice/rolelattice/decision/CodePointsComparePinLaw", "sign", "(I)I"⟩ : MethodName) (head1 (Jvm.Cond.code (⟨"com/example/rolelattice/rolelattice/decision/CodePointsComparePinLaw", "sign", "(I)I"⟩ : MethodName) method_11_code 1 (some .int) :: ws) ({ frames := 0, cells := 0, slots := 0, locals := 0 } : Room)) (fun aA U => aA = #[(.int c)] ∧ Z.Warmed39 U.vm ∧ U.heap = h0) (fun _ _ _ _ _ => True) (fun _ U oO U' => ∃ rV rL, oO = .returned rV ∧ QPure (some (.int (own_sg c))) h0 n0 rV U'.heap rL ∧ FrameEnd U oO U' rL 0 0) := by
  refine MetFree.of_bodySF (plainFor_of_name pn_3) hisR ?_
  intro p e s m args below meth cC s₁ Bd hml0 hP hK
  obtain ⟨rfl, hZ, hh⟩ := hP
  have hx := Bd.exec
  have hby := Bd.bytes
  have hml : cC.maxLocals = 1 := hml0
  have hown : s.vm.findClass "com/example/rolelattice/rolelattice/decision/CodePointsComparePinLaw" = some m.cls := findClass_of_methodNamed Bd.named
  have hnm := (name_of_methodNamed Bd.named Bd.method).1
  have hrt := Bd.returns
  have hlk : meth.locks = false := Bd.notSynchronized
  have X0 : Stand p l e ({ frames := 0, cells := 0, slots := 0, locals := 0 } : Room) s m #[(.int c)] below meth cC s₁ [] 0 0 := Stand.of_body Bd
  have e0 : s₁.heap = h0 := by rw [← hh, Bd.state]; rfl
  have N0 := Fr.nil n0
  have Z0 : n0 ≤ h0.size := O0.1 ▸ O0.2.1
  show own_Go p e below (s₁.setTop (entryFrame m #[(.int c)] 1)) (fun oO U' => ∃ rV rL, oO = .returned rV ∧ QPure (some (.int (own_sg c))) h0 n0 rV U'.heap rL ∧ FrameEnd s oO U' rL 0 0)
  refine own_go (fun _ k => castTop (ef_rm_sg m c) k) ?_
  show own_Go p e below (s₁.setTop (mkF m 0 #[.val (.int c)] [])) _
  refine own_go (fun _ k => XS.iloadN X0.here hx rfl (hb hby d_m11_0) rfl k) ?_
  show own_Go p e below (s₁.setTop (mkF m 1 #[.val (.int c)] [(.int c)])) _
  by_cases hc91 : c < (0 : Int32)
  · skip
    refine own_go (fun _ k => XS.ifNo X0.here hx rfl (hb hby d_m11_1) rfl ((if0 _ _).trans (tlt hc91).2.1) k) ?_
    show own_Go p e below (s₁.setTop (mkF m 4 #[.val (.int c)] [])) _
    refine own_go (fun _ k => XS.iconst X0.here hx rfl (hb hby d_m11_4) k) ?_
    show own_Go p e below (s₁.setTop (mkF m 5 #[.val (.int c)] [(.int (-1 : Int32))])) _
    refine own_go (fun _ k => XS.goto X0.here hx rfl (pc0 := 5) (pc' := 17) rfl (hb hby d_m11_5) (by decide) (by decide) k) ?_
    show own_Go p e below (s₁.setTop (mkF m 17 #[.val (.int c)] [(.int (-1 : Int32))])) _
    refine own_fin (v := (some (.int (-1 : Int32)))) X0 (fun h => by rw [hrt] at h; cases h) hlk (fun fs hr => retI X0 hx hrt (hb hby d_m11_17) hr) (QQ := QPure (some (.int (own_sg c))) h0 n0) ?_ (by decide) (by decide)
    rw [e0]
    exact ⟨by unfold own_sg; rw [if_pos hc91] <;> rfl, N0, rfl⟩
  · skip
    refine own_go (fun _ k => XS.ifYes X0.here hx rfl (pc0 := 1) (pc' := 8) rfl (hb hby d_m11_1) rfl ((if0 _ _).trans (flt hc91).2.1) (by decide) (by decide) k) ?_
    show own_Go p e below (s₁.setTop (mkF m 8 #[.val (.int c)] [])) _
    refine own_go (fun _ k => XS.iloadN X0.here hx rfl (hb hby d_m11_8) rfl k) ?_
    show own_Go p e below (s₁.setTop (mkF m 9 #[.val (.int c)] [(.int c)])) _
    by_cases hc92 : (0 : Int32) < c
    · skip
      refine own_go (fun _ k => XS.ifNo X0.here hx rfl (hb hby d_m11_9) rfl ((if0 _ _).trans (tlt hc92).2.2.2) k) ?_
      show own_Go p e below (s₁.setTop (mkF m 12 #[.val (.int c)] [])) _
      refine own_go (fun _ k => XS.iconst X0.here hx rfl (hb hby d_m11_12) k) ?_
      show own_Go p e below (s₁.setTop (mkF m 13 #[.val (.int c)] [(.int (1 : Int32))])) _
      refine own_go (fun _ k => XS.goto X0.here hx rfl (pc0 := 13) (pc' := 17) rfl (hb hby d_m11_13) (by decide) (by decide) k) ?_
      show own_Go p e below (s₁.setTop (mkF m 17 #[.val (.int c)] [(.int (1 : Int32))])) _
      refine own_fin (v := (some (.int (1 : Int32)))) X0 (fun h => by rw [hrt] at h; cases h) hlk (fun fs hr => retI X0 hx hrt (hb hby d_m11_17) hr) (QQ := QPure (some (.int (own_sg c))) h0 n0) ?_ (by decide) (by decide)
      rw [e0]
      exact ⟨by unfold own_sg; rw [if_neg hc91, if_pos hc92] <;> rfl, N0, rfl⟩
    · skip
      refine own_go (fun _ k => XS.ifYes X0.here hx rfl (pc0 := 9) (pc' := 16) rfl (hb hby d_m11_9) rfl ((if0 _ _).trans (flt hc92).2.2.2) (by decide) (by decide) k) ?_
      show own_Go p e below (s₁.setTop (mkF m 16 #[.val (.int c)] [])) _
      refine own_go (fun _ k => XS.iconst X0.here hx rfl (hb hby d_m11_16) k) ?_
      show own_Go p e below (s₁.setTop (mkF m 17 #[.val (.int c)] [(.int (0 : Int32))])) _
      refine own_fin (v := (some (.int (0 : Int32)))) X0 (fun h => by rw [hrt] at h; cases h) hlk (fun fs hr => retI X0 hx hrt (hb hby d_m11_17) hr) (QQ := QPure (some (.int (own_sg c))) h0 n0) ?_ (by decide) (by decide)
      rw [e0]
      exact ⟨by unfold own_sg; rw [if_neg hc91, if_neg hc92] <;> rfl, N0, rfl⟩

theorem d_jdk_33_m40_0 : decode jdk_33_method_40_code 0 = .ok (.iload_n 0, 1) := by decide +kernel
theorem d_jdk_33_m40_1 : decode jdk_33_method_40_code 1 = .ok (.iload_n 1, 1) := by decide +kernel
theorem d_jdk_33_m40_2 : decode jdk_33_method_40_code 2 = .ok (.if_icmp .ge 7, 3) := by decide +kernel
theorem d_jdk_33_m40_5 : decode jdk_33_method_40_code 5 = .ok (.iconst (-1), 1) := by decide +kernel
theorem d_jdk_33_m40_6 : decode jdk_33_method_40_code 6 = .ok (.goto 13, 3) := by decide +kernel
theorem d_jdk_33_m40_19 : decode jdk_33_method_40_code 19 = .ok (.ireturn, 1) := by decide +kernel
theorem d_jdk_33_m40_9 : decode jdk_33_method_40_code 9 = .ok (.iload_n 0, 1) := by decide +kernel
theorem d_jdk_33_m40_10 : decode jdk_33_method_40_code 10 = .ok (.iload_n 1, 1) := by decide +kernel
theorem d_jdk_33_m40_11 : decode jdk_33_method_40_code 11 = .ok (.if_icmp .ne 7, 3) := by decide +kernel
theorem d_jdk_33_m40_14 : decode jdk_33_method_40_code 14 = .ok (.iconst 0, 1) := by decide +kernel
theorem d_jdk_33_m40_15 : decode jdk_33_method_40_code 15 = .ok (.goto 4, 3) := by decide +kernel
theorem d_jdk_33_m40_18 : decode jdk_33_method_40_code 18 = .ok (.iconst 1, 1) := by decide +kernel
theorem pn_4 : plainName "java/lang/Integer" = true := by first | (simp [plainName, overriddenIn]; done) | decide +kernel
theorem ef_rm_ic (m : MethodId) (x0 : Int32) (x1 : Int32) : entryFrame m #[(.int x0), (.int x1)] 2 = mkF m 0 #[.val (.int x0), .val (.int x1)] [] := by
   first | (simp [entryFrame, mkF, argsToLocals, Value.category]; done) | rfl
set_option maxRecDepth 65536 in
set_option maxHeartbeats 40000000 in
theorem rm_ic (l : Launch) (Z : State) (a0 : Array Value) (hw : ∀ d ∈ tables_1, d.before a0 Z = true) (ws : List Jvm.Cond) (a : Int32) (b : Int32) (h0 : Heap) (n0 : Nat) (O0 : Old Z n0 h0) :
    MetFree l (⟨"java/lang/Integer", "compare", "(II)I"⟩ : MethodName) (head1 (Jvm.Cond.code (⟨"java/lang/Integer", "compare", "(II)I"⟩ : MethodName) jdk_33_method_40_code 2 (some .int) :: ws) ({ frames := 0, cells := 0, slots := 0, locals := 0 } : Room)) (fun aA U => aA = #[(.int a), (.int b)] ∧ Z.Warmed39 U.vm ∧ U.heap = h0) (fun _ _ _ _ _ => True) (fun _ U oO U' => ∃ rV rL, oO = .returned rV ∧ QPure (some (.int (own_ic a b))) h0 n0 rV U'.heap rL ∧ FrameEnd U oO U' rL 0 0) := by
  refine MetFree.of_bodySF (plainFor_of_name pn_4) hisR ?_
  intro p e s m args below meth cC s₁ Bd hml0 hP hK
  obtain ⟨rfl, hZ, hh⟩ := hP
  have hx := Bd.exec
  have hby := Bd.bytes
  have hml : cC.maxLocals = 2 := hml0
  have hown : s.vm.findClass "java/lang/Integer" = some m.cls := findClass_of_methodNamed Bd.named
  have hnm := (name_of_methodNamed Bd.named Bd.method).1
  have hrt := Bd.returns
  have hlk : meth.locks = false := Bd.notSynchronized
  have X0 : Stand p l e ({ frames := 0, cells := 0, slots := 0, locals := 0 } : Room) s m #[(.int a), (.int b)] below meth cC s₁ [] 0 0 := Stand.of_body Bd
  have e0 : s₁.heap = h0 := by rw [← hh, Bd.state]; rfl
  have N0 := Fr.nil n0
  have Z0 : n0 ≤ h0.size := O0.1 ▸ O0.2.1
  show own_Go p e below (s₁.setTop (entryFrame m #[(.int a), (.int b)] 2)) (fun oO U' => ∃ rV rL, oO = .returned rV ∧ QPure (some (.int (own_ic a b))) h0 n0 rV U'.heap rL ∧ FrameEnd s oO U' rL 0 0)
  refine own_go (fun _ k => castTop (ef_rm_ic m a b) k) ?_
  show own_Go p e below (s₁.setTop (mkF m 0 #[.val (.int a), .val (.int b)] [])) _
  refine own_go (fun _ k => XS.iloadN X0.here hx rfl (hb hby d_jdk_33_m40_0) rfl k) ?_
  show own_Go p e below (s₁.setTop (mkF m 1 #[.val (.int a), .val (.int b)] [(.int a)])) _
  refine own_go (fun _ k => XS.iloadN X0.here hx rfl (hb hby d_jdk_33_m40_1) rfl k) ?_
  show own_Go p e below (s₁.setTop (mkF m 2 #[.val (.int a), .val (.int b)] [(.int b), (.int a)])) _
  by_cases hc93 : a < b
  · skip
    refine own_go (fun _ k => XS.icmpNo X0.here hx rfl (hb hby d_jdk_33_m40_2) rfl (tlt hc93).2.1 k) ?_
    show own_Go p e below (s₁.setTop (mkF m 5 #[.val (.int a), .val (.int b)] [])) _
    refine own_go (fun _ k => XS.iconst X0.here hx rfl (hb hby d_jdk_33_m40_5) k) ?_
    show own_Go p e below (s₁.setTop (mkF m 6 #[.val (.int a), .val (.int b)] [(.int (-1 : Int32))])) _
    refine own_go (fun _ k => XS.goto X0.here hx rfl (pc0 := 6) (pc' := 19) rfl (hb hby d_jdk_33_m40_6) (by decide) (by decide) k) ?_
    show own_Go p e below (s₁.setTop (mkF m 19 #[.val (.int a), .val (.int b)] [(.int (-1 : Int32))])) _
    refine own_fin (v := (some (.int (-1 : Int32)))) X0 (fun h => by rw [hrt] at h; cases h) hlk (fun fs hr => retI X0 hx hrt (hb hby d_jdk_33_m40_19) hr) (QQ := QPure (some (.int (own_ic a b))) h0 n0) ?_ (by decide) (by decide)
    rw [e0]
    exact ⟨by unfold own_ic; rw [if_pos hc93], N0, rfl⟩
  · skip
    refine own_go (fun _ k => XS.icmpYes X0.here hx rfl (pc0 := 2) (pc' := 9) rfl (hb hby d_jdk_33_m40_2) rfl (flt hc93).2.1 (by decide) (by decide) k) ?_
    show own_Go p e below (s₁.setTop (mkF m 9 #[.val (.int a), .val (.int b)] [])) _
    refine own_go (fun _ k => XS.iloadN X0.here hx rfl (hb hby d_jdk_33_m40_9) rfl k) ?_
    show own_Go p e below (s₁.setTop (mkF m 10 #[.val (.int a), .val (.int b)] [(.int a)])) _
    refine own_go (fun _ k => XS.iloadN X0.here hx rfl (hb hby d_jdk_33_m40_10) rfl k) ?_
    show own_Go p e below (s₁.setTop (mkF m 11 #[.val (.int a), .val (.int b)] [(.int b), (.int a)])) _
    by_cases hc94 : a = b
    · skip
      refine own_go (fun _ k => XS.icmpNo X0.here hx rfl (hb hby d_jdk_33_m40_11) rfl (teq hc94).2 k) ?_
      show own_Go p e below (s₁.setTop (mkF m 14 #[.val (.int a), .val (.int b)] [])) _
      refine own_go (fun _ k => XS.iconst X0.here hx rfl (hb hby d_jdk_33_m40_14) k) ?_
      show own_Go p e below (s₁.setTop (mkF m 15 #[.val (.int a), .val (.int b)] [(.int (0 : Int32))])) _
      refine own_go (fun _ k => XS.goto X0.here hx rfl (pc0 := 15) (pc' := 19) rfl (hb hby d_jdk_33_m40_15) (by decide) (by decide) k) ?_
      show own_Go p e below (s₁.setTop (mkF m 19 #[.val (.int a), .val (.int b)] [(.int (0 : Int32))])) _
      refine own_fin (v := (some (.int (0 : Int32)))) X0 (fun h => by rw [hrt] at h; cases h) hlk (fun fs hr => retI X0 hx hrt (hb hby d_jdk_33_m40_19) hr) (QQ := QPure (some (.int (own_ic a b))) h0 n0) ?_ (by decide) (by decide)
      rw [e0]
      exact ⟨by unfold own_ic; rw [if_neg hc93, if_pos hc94], N0, rfl⟩
    · skip
      refine own_go (fun _ k => XS.icmpYes X0.here hx rfl (pc0 := 11) (pc' := 18) rfl (hb hby d_jdk_33_m40_11) rfl (feq hc94).2 (by decide) (by decide) k) ?_
      show own_Go p e below (s₁.setTop (mkF m 18 #[.val (.int a), .val (.int b)] [])) _
      refine own_go (fun _ k => XS.iconst X0.here hx rfl (hb hby d_jdk_33_m40_18) k) ?_
      show own_Go p e below (s₁.setTop (mkF m 19 #[.val (.int a), .val (.int b)] [(.int (1 : Int32))])) _
      refine own_fin (v := (some (.int (1 : Int32)))) X0 (fun h => by rw [hrt] at h; cases h) hlk (fun fs hr => retI X0 hx hrt (hb hby d_jdk_33_m40_19) hr) (QQ := QPure (some (.int (own_ic a b))) h0 n0) ?_ (by decide) (by decide)
      rw [e0]
      exact ⟨by unfold own_ic; rw [if_neg hc93, if_neg hc94], N0, rfl⟩

theorem d_jdk_89_m19_0 : decode jdk_89_method_19_code 0 = .ok (.iload_n 0, 1) := by decide +kernel
theorem d_jdk_89_m19_1 : decode jdk_89_method_19_code 1 = .ok (.bipush 10, 2) := by decide +kernel
theorem d_jdk_89_m19_3 : decode jdk_89_method_19_code 3 = .ok (.ishl, 1) := by decide +kernel
theorem d_jdk_89_m19_4 : decode jdk_89_method_19_code 4 = .ok (.iload_n 1, 1) := by decide +kernel
theorem d_jdk_89_m19_5 : decode jdk_89_method_19_code 5 = .ok (.iadd, 1) := by decide +kernel
theorem d_jdk_89_m19_6 : decode jdk_89_method_19_code 6 = .ok (.ldc 85, 2) := by decide +kernel
theorem d_jdk_89_m19_8 : decode jdk_89_method_19_code 8 = .ok (.iadd, 1) := by decide +kernel
theorem d_jdk_89_m19_9 : decode jdk_89_method_19_code 9 = .ok (.ireturn, 1) := by decide +kernel
theorem ef_rm_tcp (m : MethodId) (x0 : Int32) (x1 : Int32) : entryFrame m #[(.int x0), (.int x1)] 2 = mkF m 0 #[.val (.int x0), .val (.int x1)] [] := by
   first | (simp [entryFrame, mkF, argsToLocals, Value.category]; done) | rfl
set_option maxRecDepth 65536 in
set_option maxHeartbeats 40000000 in
theorem rm_tcp (l : Launch) (Z : State) (a0 : Array Value) (hw : ∀ d ∈ tables_1, d.before a0 Z = true) (ws : List Jvm.Cond) (a : Int32) (b : Int32) (h0 : Heap) (n0 : Nat) (O0 : Old Z n0 h0) :
    MetFree l (⟨"java/lang/Character", "toCodePoint", "(CC)I"⟩ : MethodName) (head1 (Jvm.Cond.code (⟨"java/lang/Character", "toCodePoint", "(CC)I"⟩ : MethodName) jdk_89_method_19_code 2 (some .int) :: ws) ({ frames := 0, cells := 0, slots := 0, locals := 0 } : Room)) (fun aA U => aA = #[(.int a), (.int b)] ∧ Z.Warmed39 U.vm ∧ U.heap = h0) (fun _ _ _ _ _ => True) (fun _ U oO U' => ∃ rV rL, oO = .returned rV ∧ QPure (some (.int (((a <<< ((10 : Int32) &&& 31)) + b) + (-56613888 : Int32)))) h0 n0 rV U'.heap rL ∧ FrameEnd U oO U' rL 0 0) := by
  refine MetFree.of_bodySF (plainFor_of_name pn_2) hisR ?_
  intro p e s m args below meth cC s₁ Bd hml0 hP hK
  obtain ⟨rfl, hZ, hh⟩ := hP
  have hx := Bd.exec
  have hby := Bd.bytes
  have hml : cC.maxLocals = 2 := hml0
  have hown : s.vm.findClass "java/lang/Character" = some m.cls := findClass_of_methodNamed Bd.named
  have hnm := (name_of_methodNamed Bd.named Bd.method).1
  have hrt := Bd.returns
  have hlk : meth.locks = false := Bd.notSynchronized
  have X0 : Stand p l e ({ frames := 0, cells := 0, slots := 0, locals := 0 } : Room) s m #[(.int a), (.int b)] below meth cC s₁ [] 0 0 := Stand.of_body Bd
  have e0 : s₁.heap = h0 := by rw [← hh, Bd.state]; rfl
  have N0 := Fr.nil n0
  have Z0 : n0 ≤ h0.size := O0.1 ▸ O0.2.1
  show own_Go p e below (s₁.setTop (entryFrame m #[(.int a), (.int b)] 2)) (fun oO U' => ∃ rV rL, oO = .returned rV ∧ QPure (some (.int (((a <<< ((10 : Int32) &&& 31)) + b) + (-56613888 : Int32)))) h0 n0 rV U'.heap rL ∧ FrameEnd s oO U' rL 0 0)
  refine own_go (fun _ k => castTop (ef_rm_tcp m a b) k) ?_
  show own_Go p e below (s₁.setTop (mkF m 0 #[.val (.int a), .val (.int b)] [])) _
  refine own_go (fun _ k => XS.iloadN X0.here hx rfl (hb hby d_jdk_89_m19_0) rfl k) ?_
  show own_Go p e below (s₁.setTop (mkF m 1 #[.val (.int a), .val (.int b)] [(.int a)])) _
  refine own_go (fun _ k => XS.bipush X0.here hx rfl (hb hby d_jdk_89_m19_1) k) ?_
  show own_Go p e below (s₁.setTop (mkF m 3 #[.val (.int a), .val (.int b)] [(.int (10 : Int32)), (.int a)])) _
  refine own_go (fun _ k => XS.ishl X0.here hx rfl (hb hby d_jdk_89_m19_3) rfl k) ?_
  show own_Go p e below (s₁.setTop (mkF m 4 #[.val (.int a), .val (.int b)] [(.int (a <<< ((10 : Int32) &&& 31)))])) _
  refine own_go (fun _ k => XS.iloadN X0.here hx rfl (hb hby d_jdk_89_m19_4) rfl k) ?_
  show own_Go p e below (s₁.setTop (mkF m 5 #[.val (.int a), .val (.int b)] [(.int b), (.int (a <<< ((10 : Int32) &&& 31)))])) _
  refine own_go (fun _ k => XS.iadd X0.here hx rfl (hb hby d_jdk_89_m19_5) rfl k) ?_
  show own_Go p e below (s₁.setTop (mkF m 6 #[.val (.int a), .val (.int b)] [(.int ((a <<< ((10 : Int32) &&& 31)) + b))])) _
  refine own_go (fun _ k => X0.ldcInt hx hown (mvT hZ (hw _ (List.mem_of_getElem? (i := 150) rfl))) (g := (mkF m 6 #[.val (.int a), .val (.int b)] [(.int ((a <<< ((10 : Int32) &&& 31)) + b))])) rfl (hb hby d_jdk_89_m19_6) _ k) ?_
  show own_Go p e below (s₁.setTop (mkF m 8 #[.val (.int a), .val (.int b)] [(.int (-56613888 : Int32)), (.int ((a <<< ((10 : Int32) &&& 31)) + b))])) _
  refine own_go (fun _ k => XS.iadd X0.here hx rfl (hb hby d_jdk_89_m19_8) rfl k) ?_
  show own_Go p e below (s₁.setTop (mkF m 9 #[.val (.int a), .val (.int b)] [(.int (((a <<< ((10 : Int32) &&& 31)) + b) + (-56613888 : Int32)))])) _
  refine own_fin (v := (some (.int (((a <<< ((10 : Int32) &&& 31)) + b) + (-56613888 : Int32))))) X0 (fun h => by rw [hrt] at h; cases h) hlk (fun fs hr => retI X0 hx hrt (hb hby d_jdk_89_m19_9) hr) (QQ := QPure (some (.int (((a <<< ((10 : Int32) &&& 31)) + b) + (-56613888 : Int32)))) h0 n0) ?_ (by decide) (by decide)
  rw [e0]
  exact ⟨rfl, N0, rfl⟩

theorem d_jdk_41_m11_0 : decode jdk_41_method_11_code 0 = .ok (.iload_n 0, 1) := by decide +kernel
theorem d_jdk_41_m11_1 : decode jdk_41_method_11_code 1 = .ok (.ifCond .lt 8, 3) := by decide +kernel
theorem d_jdk_41_m11_4 : decode jdk_41_method_11_code 4 = .ok (.iload_n 0, 1) := by decide +kernel
theorem d_jdk_41_m11_5 : decode jdk_41_method_11_code 5 = .ok (.iload_n 1, 1) := by decide +kernel
theorem d_jdk_41_m11_6 : decode jdk_41_method_11_code 6 = .ok (.if_icmp .lt 10, 3) := by decide +kernel
theorem d_jdk_41_m11_16 : decode jdk_41_method_11_code 16 = .ok (.iload_n 0, 1) := by decide +kernel
theorem d_jdk_41_m11_17 : decode jdk_41_method_11_code 17 = .ok (.ireturn, 1) := by decide +kernel
theorem pn_5 : plainName "jdk/internal/util/Preconditions" = true := by first | (simp [plainName, overriddenIn]; done) | decide +kernel
theorem ef_rm_cki (m : MethodId) (x0 : Int32) (x1 : Int32) (f4 : Value) (r_f4 : f4.isRef = true) : entryFrame m #[(.int x0), (.int x1), f4] 3 = mkF m 0 #[.val (.int x0), .val (.int x1), .val f4] [] := by
  cases f4 <;> first | (cases r_f4; done) | skip
  all_goals  first | (simp [entryFrame, mkF, argsToLocals, Value.category]; done) | rfl
set_option maxRecDepth 65536 in
set_option maxHeartbeats 40000000 in
theorem rm_cki (l : Launch) (Z : State) (a0 : Array Value) (hw : ∀ d ∈ tables_1, d.before a0 Z = true) (ws : List Jvm.Cond) (p1 : Int32) (p2 : Int32) (f4 : Value) (h0 : Heap) (n0 : Nat) (O0 : Old Z n0 h0) (r4 : f4.isRef = true) (q1 : ¬ (p1 < (0 : Int32))) (q2 : p1 < p2) :
    MetFree l (⟨"jdk/internal/util/Preconditions", "checkIndex", "(IILjava/util/function/BiFunction;)I"⟩ : MethodName) (head1 (Jvm.Cond.code (⟨"jdk/internal/util/Preconditions", "checkIndex", "(IILjava/util/function/BiFunction;)I"⟩ : MethodName) jdk_41_method_11_code 3 (some .int) :: ws) ({ frames := 0, cells := 0, slots := 0, locals := 0 } : Room)) (fun aA U => aA = #[(.int p1), (.int p2), f4] ∧ Z.Warmed39 U.vm ∧ U.heap = h0) (fun _ _ _ _ _ => True) (fun _ U oO U' => ∃ rV rL, oO = .returned rV ∧ QPure (some (.int p1)) h0 n0 rV U'.heap rL ∧ FrameEnd U oO U' rL 0 0) := by
  refine MetFree.of_bodySF (plainFor_of_name pn_5) hisR ?_
  intro p e s m args below meth cC s₁ Bd hml0 hP hK
  obtain ⟨rfl, hZ, hh⟩ := hP
  have hx := Bd.exec
  have hby := Bd.bytes
  have hml : cC.maxLocals = 3 := hml0
  have hown : s.vm.findClass "jdk/internal/util/Preconditions" = some m.cls := findClass_of_methodNamed Bd.named
  have hnm := (name_of_methodNamed Bd.named Bd.method).1
  have hrt := Bd.returns
  have hlk : meth.locks = false := Bd.notSynchronized
  have X0 : Stand p l e ({ frames := 0, cells := 0, slots := 0, locals := 0 } : Room) s m #[(.int p1), (.int p2), f4] below meth cC s₁ [] 0 0 := Stand.of_body Bd
  have e0 : s₁.heap = h0 := by rw [← hh, Bd.state]; rfl
  have N0 := Fr.nil n0
  have Z0 : n0 ≤ h0.size := O0.1 ▸ O0.2.1
  show own_Go p e below (s₁.setTop (entryFrame m #[(.int p1), (.int p2), f4] 3)) (fun oO U' => ∃ rV rL, oO = .returned rV ∧ QPure (some (.int p1)) h0 n0 rV U'.heap rL ∧ FrameEnd s oO U' rL 0 0)
  refine own_go (fun _ k => castTop (ef_rm_cki m p1 p2 f4 r4) k) ?_
  show own_Go p e below (s₁.setTop (mkF m 0 #[.val (.int p1), .val (.int p2), .val f4] [])) _
  refine own_go (fun _ k => XS.iloadN X0.here hx rfl (hb hby d_jdk_41_m11_0) rfl k) ?_
  show own_Go p e below (s₁.setTop (mkF m 1 #[.val (.int p1), .val (.int p2), .val f4] [(.int p1)])) _
  refine own_go (fun _ k => XS.ifNo X0.here hx rfl (hb hby d_jdk_41_m11_1) rfl ((if0 _ _).trans (flt q1).1) k) ?_
  show own_Go p e below (s₁.setTop (mkF m 4 #[.val (.int p1), .val (.int p2), .val f4] [])) _
  refine own_go (fun _ k => XS.iloadN X0.here hx rfl (hb hby d_jdk_41_m11_4) rfl k) ?_
  show own_Go p e below (s₁.setTop (mkF m 5 #[.val (.int p1), .val (.int p2), .val f4] [(.int p1)])) _
  refine own_go (fun _ k => XS.iloadN X0.here hx rfl (hb hby d_jdk_41_m11_5) rfl k) ?_
  show own_Go p e below (s₁.setTop (mkF m 6 #[.val (.int p1), .val (.int p2), .val f4] [(.int p2), (.int p1)])) _
  refine own_go (fun _ k => XS.icmpYes X0.here hx rfl (pc0 := 6) (pc' := 16) rfl (hb hby d_jdk_41_m11_6) rfl (tlt q2).1 (by decide) (by decide) k) ?_
  show own_Go p e below (s₁.setTop (mkF m 16 #[.val (.int p1), .val (.int p2), .val f4] [])) _
  refine own_go (fun _ k => XS.iloadN X0.here hx rfl (hb hby d_jdk_41_m11_16) rfl k) ?_
  show own_Go p e below (s₁.setTop (mkF m 17 #[.val (.int p1), .val (.int p2), .val f4] [(.int p1)])) _
  refine own_fin (v := (some (.int p1))) X0 (fun h => by rw [hrt] at h; cases h) hlk (fun fs hr => retI X0 hx hrt (hb hby d_jdk_41_m11_17) hr) (QQ := QPure (some (.int p1)) h0 n0) ?_ (by decide) (by decide)
  rw [e0]
  exact ⟨rfl, N0, rfl⟩

theorem d_jdk_42_m155_0 : decode jdk_42_method_155_code 0 = .ok (.iload_n 0, 1) := by decide +kernel
theorem d_jdk_42_m155_1 : decode jdk_42_method_155_code 1 = .ok (.iload_n 1, 1) := by decide +kernel
theorem d_jdk_42_m155_2 : decode jdk_42_method_155_code 2 = .ok (.getstatic 1053, 3) := by decide +kernel
theorem d_jdk_42_m155_5 : decode jdk_42_method_155_code 5 = .ok (.invokestatic 1059, 3) := by decide +kernel
theorem pd_8 : parseMethodDescriptor "(IILjava/util/function/BiFunction;)I" = some ⟨[.int, .int, (.object "java/util/function/BiFunction")], some .int⟩ := by decide +kernel
theorem d_jdk_42_m155_8 : decode jdk_42_method_155_code 8 = .ok (.pop, 1) := by decide +kernel
theorem d_jdk_42_m155_9 : decode jdk_42_method_155_code 9 = .ok (.return_, 1) := by decide +kernel
theorem ef_rm_sci (m : MethodId) (x0 : Int32) (x1 : Int32) : entryFrame m #[(.int x0), (.int x1)] 2 = mkF m 0 #[.val (.int x0), .val (.int x1)] [] := by
   first | (simp [entryFrame, mkF, argsToLocals, Value.category]; done) | rfl
set_option maxRecDepth 65536 in
set_option maxHeartbeats 40000000 in
theorem rm_sci (l : Launch) (Z : State) (a0 : Array Value) (hw : ∀ d ∈ tables_1, d.before a0 Z = true) (ws : List Jvm.Cond) (p1 : Int32) (p2 : Int32) (G3 : Value) (h0 : Heap) (n0 : Nat) (O0 : Old Z n0 h0) (O4 : Sta Z Z.heap "jdk/internal/util/Preconditions" "SIOOBE_FORMATTER" "Ljava/util/function/BiFunction;" G3) (rG3 : G3.isRef = true) (q1 : ¬ (p1 < (0 : Int32))) (q2 : p1 < p2) :
    MetFree l (⟨"java/lang/String", "checkIndex", "(II)V"⟩ : MethodName) (head1 (Jvm.Cond.code (⟨"java/lang/String", "checkIndex", "(II)V"⟩ : MethodName) jdk_42_method_155_code 2 none :: ws) ({ frames := 1, cells := 0, slots := 0, locals := 14 } : Room)) (fun aA U => aA = #[(.int p1), (.int p2)] ∧ Z.Warmed39 U.vm ∧ U.heap = h0) (fun _ _ _ _ _ => True) (fun _ U oO U' => ∃ rV rL, oO = .returned rV ∧ QPure (none) h0 n0 rV U'.heap rL ∧ FrameEnd U oO U' rL 0 0) := by
  refine MetFree.of_bodySF (plainFor_of_name pn_0) hisR ?_
  intro p e s m args below meth cC s₁ Bd hml0 hP hK
  obtain ⟨rfl, hZ, hh⟩ := hP
  have hx := Bd.exec
  have hby := Bd.bytes
  have hml : cC.maxLocals = 2 := hml0
  have hown : s.vm.findClass "java/lang/String" = some m.cls := findClass_of_methodNamed Bd.named
  have hnm := (name_of_methodNamed Bd.named Bd.method).1
  have hrt := Bd.returns
  have hlk : meth.locks = false := Bd.notSynchronized
  have X0 : Stand p l e ({ frames := 1, cells := 0, slots := 0, locals := 14 } : Room) s m #[(.int p1), (.int p2)] below meth cC s₁ [] 0 0 := Stand.of_body Bd
  have e0 : s₁.heap = h0 := by rw [← hh, Bd.state]; rfl
  have N0 := Fr.nil n0
  have Z0 : n0 ≤ h0.size := O0.1 ▸ O0.2.1
  show own_Go p e below (s₁.setTop (entryFrame m #[(.int p1), (.int p2)] 2)) (fun oO U' => ∃ rV rL, oO = .returned rV ∧ QPure (none) h0 n0 rV U'.heap rL ∧ FrameEnd s oO U' rL 0 0)
  refine own_go (fun _ k => castTop (ef_rm_sci m p1 p2) k) ?_
  show own_Go p e below (s₁.setTop (mkF m 0 #[.val (.int p1), .val (.int p2)] [])) _
  refine own_go (fun _ k => XS.iloadN X0.here hx rfl (hb hby d_jdk_42_m155_0) rfl k) ?_
  show own_Go p e below (s₁.setTop (mkF m 1 #[.val (.int p1), .val (.int p2)] [(.int p1)])) _
  refine own_go (fun _ k => XS.iloadN X0.here hx rfl (hb hby d_jdk_42_m155_1) rfl k) ?_
  show own_Go p e below (s₁.setTop (mkF m 2 #[.val (.int p1), .val (.int p2)] [(.int p2), (.int p1)])) _
  obtain ⟨T95, X95, e95, st95⟩ := getS2 X0 hx hZ hown (host := "") (Or.inl (hw _ (List.mem_of_getElem? (i := 121) rfl))) Via.refl e0 (O4.ext O0.2) (g := (mkF m 2 #[.val (.int p1), .val (.int p2)] [(.int p2), (.int p1)])) rfl (hb hby d_jdk_42_m155_2)
  refine own_go st95 ?_
  show own_Go p e below (T95.setTop (mkF m 5 #[.val (.int p1), .val (.int p2)] [G3, (.int p2), (.int p1)])) _
  obtain ⟨v96, _, ⟨T96, L96, k96, n96⟩, -, X96, ⟨Lc96, hQ96, l96, y96, z96⟩, st96⟩ := Jvm.LawKit.callS X95 hx (y := (⟨"jdk/internal/util/Preconditions", "checkIndex", "(IILjava/util/function/BiFunction;)I"⟩ : MethodName)) hown (mvT hZ (hw _ (List.mem_of_getElem? (i := 123) rfl))) (mvT hZ (hw _ (List.mem_of_getElem? (i := 124) rfl))) (mvT hZ (hw _ (List.mem_of_getElem? (i := 122) rfl))) (mvT hZ (hw _ (List.mem_of_getElem? (i := 125) rfl))) (by decide) (backOf (W := 0) (rm_cki l Z a0 hw [] p1 p2 G3 h0 n0 O0 rG3 q1 q2) hZ (hw _ (List.mem_of_getElem? (i := 125) rfl)) (hw _ (List.mem_of_getElem? (i := 122) rfl)) (by decide) (by decide)) (g := (mkF m 5 #[.val (.int p1), .val (.int p2)] [G3, (.int p2), (.int p1)])) rfl (by rw [hml]; rfl) (argsL := [(.int p1), (.int p2), G3]) (rest := []) (lenOf pd_8 rfl) rfl (by show 2 * 0 + _ ≤ _; exact Nat.le_of_eq rfl) (hb hby d_jdk_42_m155_5) (fun _ _ => ⟨rfl, e95, (by decide : 0 + 0 ≤ _), (by decide : 0 + 0 ≤ _)⟩)
  dsimp only [Pt.U, Pt.locs, Pt.cells, Pt.slots] at X96 l96 y96 z96 st96 hQ96
  subst l96 y96 z96
  refine own_go st96 ?_
  obtain ⟨rfl, Nq96, e96⟩ := hQ96
  have N96 := Fr.app N0 Nq96
  show own_Go p e below (T96.setTop (mkF m 8 #[.val (.int p1), .val (.int p2)] [(.int p1)])) _
  refine own_go (fun _ k => XS.pop X96.here hx rfl (hb hby d_jdk_42_m155_8) rfl rfl k) ?_
  show own_Go p e below (T96.setTop (mkF m 9 #[.val (.int p1), .val (.int p2)] [])) _
  refine own_fin (v := none) X96 (fun _ => rfl) hlk (fun fs hr => X96.returnOut hx hrt (hb hby d_jdk_42_m155_9) hr) (QQ := QPure (none) h0 n0) ?_ (by decide) (by decide)
  rw [e96]
  exact ⟨rfl, N96, rfl⟩

theorem d_jdk_52_m7_0 : decode jdk_52_method_7_code 0 = .ok (.getstatic 44, 3) := by decide +kernel
theorem d_jdk_52_m7_3 : decode jdk_52_method_7_code 3 = .ok (.ifCond .ne 16, 3) := by decide +kernel
theorem d_jdk_52_m7_19 : decode jdk_52_method_7_code 19 = .ok (.iload_n 3, 1) := by decide +kernel
theorem d_jdk_52_m7_20 : decode jdk_52_method_7_code 20 = .ok (.ifCond .eq 8, 3) := by decide +kernel
theorem d_jdk_52_m7_28 : decode jdk_52_method_7_code 28 = .ok (.aload_n 0, 1) := by decide +kernel
theorem d_jdk_52_m7_29 : decode jdk_52_method_7_code 29 = .ok (.iload_n 1, 1) := by decide +kernel
theorem d_jdk_52_m7_30 : decode jdk_52_method_7_code 30 = .ok (.invokestatic 71, 3) := by decide +kernel
theorem d_jdk_52_m7_33 : decode jdk_52_method_7_code 33 = .ok (.istore 4, 2) := by decide +kernel
theorem d_jdk_52_m7_35 : decode jdk_52_method_7_code 35 = .ok (.iload 4, 2) := by decide +kernel
theorem d_jdk_52_m7_37 : decode jdk_52_method_7_code 37 = .ok (.invokestatic 75, 3) := by decide +kernel
theorem pd_9 : parseMethodDescriptor "(C)Z" = some ⟨[.char], some .boolean⟩ := by decide +kernel
theorem d_jdk_52_m7_40 : decode jdk_52_method_7_code 40 = .ok (.ifCond .eq 43, 3) := by decide +kernel
theorem d_jdk_52_m7_83 : decode jdk_52_method_7_code 83 = .ok (.iload 4, 2) := by decide +kernel
theorem d_jdk_52_m7_85 : decode jdk_52_method_7_code 85 = .ok (.ireturn, 1) := by decide +kernel
theorem d_jdk_52_m7_43 : decode jdk_52_method_7_code 43 = .ok (.iinc 1 1, 3) := by decide +kernel
theorem d_jdk_52_m7_46 : decode jdk_52_method_7_code 46 = .ok (.iload_n 1, 1) := by decide +kernel
theorem d_jdk_52_m7_47 : decode jdk_52_method_7_code 47 = .ok (.iload_n 2, 1) := by decide +kernel
theorem d_jdk_52_m7_48 : decode jdk_52_method_7_code 48 = .ok (.if_icmp .ge 35, 3) := by decide +kernel
theorem d_jdk_52_m7_51 : decode jdk_52_method_7_code 51 = .ok (.iload_n 3, 1) := by decide +kernel
theorem d_jdk_52_m7_52 : decode jdk_52_method_7_code 52 = .ok (.ifCond .eq 8, 3) := by decide +kernel
theorem d_jdk_52_m7_60 : decode jdk_52_method_7_code 60 = .ok (.aload_n 0, 1) := by decide +kernel
theorem d_jdk_52_m7_61 : decode jdk_52_method_7_code 61 = .ok (.iload_n 1, 1) := by decide +kernel
theorem d_jdk_52_m7_62 : decode jdk_52_method_7_code 62 = .ok (.invokestatic 71, 3) := by decide +kernel
theorem d_jdk_52_m7_65 : decode jdk_52_method_7_code 65 = .ok (.istore 5, 2) := by decide +kernel
theorem d_jdk_52_m7_67 : decode jdk_52_method_7_code 67 = .ok (.iload 5, 2) := by decide +kernel
theorem d_jdk_52_m7_69 : decode jdk_52_method_7_code 69 = .ok (.invokestatic 81, 3) := by decide +kernel
theorem d_jdk_52_m7_72 : decode jdk_52_method_7_code 72 = .ok (.ifCond .eq 11, 3) := by decide +kernel
theorem d_jdk_52_m7_75 : decode jdk_52_method_7_code 75 = .ok (.iload 4, 2) := by decide +kernel
theorem d_jdk_52_m7_77 : decode jdk_52_method_7_code 77 = .ok (.iload 5, 2) := by decide +kernel
theorem d_jdk_52_m7_79 : decode jdk_52_method_7_code 79 = .ok (.invokestatic 84, 3) := by decide +kernel
theorem pd_10 : parseMethodDescriptor "(CC)I" = some ⟨[.char, .char], some .int⟩ := by decide +kernel
theorem d_jdk_52_m7_82 : decode jdk_52_method_7_code 82 = .ok (.ireturn, 1) := by decide +kernel
theorem ef_rm_wcp4 (m : MethodId) (x0 : Addr) (x1 : Int32) (x2 : Int32) (x3 : Int32) : entryFrame m #[(.ref x0), (.int x1), (.int x2), (.int x3)] 6 = mkF m 0 #[.val (.ref x0), .val (.int x1), .val (.int x2), .val (.int x3), .unset, .unset] [] := by
   first | (simp [entryFrame, mkF, argsToLocals, Value.category]; done) | rfl
set_option maxRecDepth 65536 in
set_option maxHeartbeats 40000000 in
theorem rm_wcp4 (l : Launch) (Z : State) (a0 : Array Value) (hw : ∀ d ∈ tables_1, d.before a0 Z = true) (ws : List Jvm.Cond) (t : Addr) (k : ClassId) (cs : List Int32) (i : Nat) (h0 : Heap) (n0 : Nat) (O0 : Old Z n0 h0) (OA : Sta Z Z.heap "java/lang/StringUTF16" "$assertionsDisabled" "Z" (.int (1 : Int32))) (OH : Sta Z Z.heap "java/lang/StringUTF16" "HI_BYTE_SHIFT" "I" (.int (0 : Int32))) (OL : Sta Z Z.heap "java/lang/StringUTF16" "LO_BYTE_SHIFT" "I" (.int (8 : Int32))) (V_t : Arv Z h0 t k .byte (Int32.ofNat (2 * cs.length)) (StrChars.Road.wideBytes cs) (.int (0 : Int32))) (hok : own_Ok cs) (hi : i < cs.length) :
    MetFree l (⟨"java/lang/StringUTF16", "codePointAt", "([BIIZ)I"⟩ : MethodName) (head1 (Jvm.Cond.code (⟨"java/lang/StringUTF16", "codePointAt", "([BIIZ)I"⟩ : MethodName) jdk_52_method_7_code 6 (some .int) :: ws) ({ frames := 1, cells := 0, slots := 0, locals := 13 } : Room)) (fun aA U => aA = #[(.ref t), (.int (Int32.ofNat i)), (.int (Int32.ofNat cs.length)), (.int (0 : Int32))] ∧ Z.Warmed39 U.vm ∧ U.heap = h0) (fun _ _ _ _ _ => True) (fun _ U oO U' => ∃ rV rL, oO = .returned rV ∧ QPure (some (.int (own_cpt cs i))) h0 n0 rV U'.heap rL ∧ FrameEnd U oO U' rL 0 0) := by
  refine MetFree.of_bodySF (plainFor_of_name pn_1) hisR ?_
  intro p e s m args below meth cC s₁ Bd hml0 hP hK
  obtain ⟨rfl, hZ, hh⟩ := hP
  have hx := Bd.exec
  have hby := Bd.bytes
  have hml : cC.maxLocals = 6 := hml0
  have hown : s.vm.findClass "java/lang/StringUTF16" = some m.cls := findClass_of_methodNamed Bd.named
  have hnm := (name_of_methodNamed Bd.named Bd.method).1
  have hrt := Bd.returns
  have hlk : meth.locks = false := Bd.notSynchronized
  have X0 : Stand p l e ({ frames := 1, cells := 0, slots := 0, locals := 13 } : Room) s m #[(.ref t), (.int (Int32.ofNat i)), (.int (Int32.ofNat cs.length)), (.int (0 : Int32))] below meth cC s₁ [] 0 0 := Stand.of_body Bd
  have e0 : s₁.heap = h0 := by rw [← hh, Bd.state]; rfl
  have N0 := Fr.nil n0
  have Z0 : n0 ≤ h0.size := O0.1 ▸ O0.2.1
  show own_Go p e below (s₁.setTop (entryFrame m #[(.ref t), (.int (Int32.ofNat i)), (.int (Int32.ofNat cs.length)), (.int (0 : Int32))] 6)) (fun oO U' => ∃ rV rL, oO = .returned rV ∧ QPure (some (.int (own_cpt cs i))) h0 n0 rV U'.heap rL ∧ FrameEnd s oO U' rL 0 0)
  refine own_go (fun _ k => castTop (ef_rm_wcp4 m t _ _ _) k) ?_
  have hlen : cs.length ≤ 4000 := hok.2
  show own_Go p e below (s₁.setTop (mkF m 0 #[.val (.ref t), .val (.int (Int32.ofNat i)), .val (.int (Int32.ofNat cs.length)), .val (.int (0 : Int32)), .unset, .unset] [])) _
  obtain ⟨T97, X97, e97, st97⟩ := getS2 X0 hx hZ hown (host := "") (Or.inl (hw _ (List.mem_of_getElem? (i := 82) rfl))) Via.refl e0 (OA.ext O0.2) (g := (mkF m 0 #[.val (.ref t), .val (.int (Int32.ofNat i)), .val (.int (Int32.ofNat cs.length)), .val (.int (0 : Int32)), .unset, .unset] [])) rfl (hb hby d_jdk_52_m7_0)
  refine own_go st97 ?_
  show own_Go p e below (T97.setTop (mkF m 3 #[.val (.ref t), .val (.int (Int32.ofNat i)), .val (.int (Int32.ofNat cs.length)), .val (.int (0 : Int32)), .unset, .unset] [(.int (1 : Int32))])) _
  refine own_go (fun _ k => XS.ifYes X97.here hx rfl (pc0 := 3) (pc' := 19) rfl (hb hby d_jdk_52_m7_3) rfl ((if0 _ _).trans (feq (by decide : ¬ ((1 : Int32) = (0 : Int32)))).2) (by decide) (by decide) k) ?_
  show own_Go p e below (T97.setTop (mkF m 19 #[.val (.ref t), .val (.int (Int32.ofNat i)), .val (.int (Int32.ofNat cs.length)), .val (.int (0 : Int32)), .unset, .unset] [])) _
  refine own_go (fun _ k => XS.iloadN X97.here hx rfl (hb hby d_jdk_52_m7_19) rfl k) ?_
  show own_Go p e below (T97.setTop (mkF m 20 #[.val (.ref t), .val (.int (Int32.ofNat i)), .val (.int (Int32.ofNat cs.length)), .val (.int (0 : Int32)), .unset, .unset] [(.int (0 : Int32))])) _
  refine own_go (fun _ k => XS.ifYes X97.here hx rfl (pc0 := 20) (pc' := 28) rfl (hb hby d_jdk_52_m7_20) rfl ((if0 _ _).trans (teq (by decide : (0 : Int32) = (0 : Int32))).1) (by decide) (by decide) k) ?_
  show own_Go p e below (T97.setTop (mkF m 28 #[.val (.ref t), .val (.int (Int32.ofNat i)), .val (.int (Int32.ofNat cs.length)), .val (.int (0 : Int32)), .unset, .unset] [])) _
  refine own_go (fun _ k => XS.aloadN X97.here hx rfl (hb hby d_jdk_52_m7_28) rfl rfl k) ?_
  show own_Go p e below (T97.setTop (mkF m 29 #[.val (.ref t), .val (.int (Int32.ofNat i)), .val (.int (Int32.ofNat cs.length)), .val (.int (0 : Int32)), .unset, .unset] [(.ref t)])) _
  refine own_go (fun _ k => XS.iloadN X97.here hx rfl (hb hby d_jdk_52_m7_29) rfl k) ?_
  show own_Go p e below (T97.setTop (mkF m 30 #[.val (.ref t), .val (.int (Int32.ofNat i)), .val (.int (Int32.ofNat cs.length)), .val (.int (0 : Int32)), .unset, .unset] [(.int (Int32.ofNat i)), (.ref t)])) _
  obtain ⟨v98, _, ⟨T98, L98, k98, n98⟩, -, X98, ⟨Lc98, hQ98, l98, y98, z98⟩, st98⟩ := Jvm.LawKit.callS X97 hx (y := (⟨"java/lang/StringUTF16", "getChar", "([BI)C"⟩ : MethodName)) hown (mvT hZ (hw _ (List.mem_of_getElem? (i := 85) rfl))) (mvT hZ (hw _ (List.mem_of_getElem? (i := 86) rfl))) (mvT hZ (hw _ (List.mem_of_getElem? (i := 64) rfl))) (mvT hZ (hw _ (List.mem_of_getElem? (i := 87) rfl))) (by decide) (backOf (W := 0) (rm_get l Z a0 hw [] t k (2 * cs.length) (StrChars.Road.wideBytes cs) i (cs.getD i 0) h0 n0 O0 OA OH OL V_t (StrChars.Road.wide_lo _ cs _ hi) (StrChars.Road.wide_hi _ cs _ hi) (by omega) (by omega) (hok.at hi)) hZ (hw _ (List.mem_of_getElem? (i := 87) rfl)) (hw _ (List.mem_of_getElem? (i := 64) rfl)) (by decide) (by decide)) (g := (mkF m 30 #[.val (.ref t), .val (.int (Int32.ofNat i)), .val (.int (Int32.ofNat cs.length)), .val (.int (0 : Int32)), .unset, .unset] [(.int (Int32.ofNat i)), (.ref t)])) rfl (by rw [hml]; rfl) (argsL := [(.ref t), (.int (Int32.ofNat i))]) (rest := []) (lenOf pd_6 rfl) rfl (by show 2 * 0 + _ ≤ _; exact Nat.le_of_eq rfl) (hb hby d_jdk_52_m7_30) (fun _ _ => ⟨rfl, e97, (by decide : 0 + 0 ≤ _), (by decide : 0 + 0 ≤ _)⟩)
  dsimp only [Pt.U, Pt.locs, Pt.cells, Pt.slots] at X98 l98 y98 z98 st98 hQ98
  subst l98 y98 z98
  refine own_go st98 ?_
  obtain ⟨rfl, Nq98, e98⟩ := hQ98
  have N98 := Fr.app N0 Nq98
  show own_Go p e below (T98.setTop (mkF m 33 #[.val (.ref t), .val (.int (Int32.ofNat i)), .val (.int (Int32.ofNat cs.length)), .val (.int (0 : Int32)), .unset, .unset] [(.int (cs.getD i 0))])) _
  refine own_go (fun _ k => XS.istore X98.here hx rfl (hb hby d_jdk_52_m7_33) rfl (l' := #[.val (.ref t), .val (.int (Int32.ofNat i)), .val (.int (Int32.ofNat cs.length)), .val (.int (0 : Int32)), .val (.int (cs.getD i 0)), .unset]) rfl k) ?_
  show own_Go p e below (T98.setTop (mkF m 35 #[.val (.ref t), .val (.int (Int32.ofNat i)), .val (.int (Int32.ofNat cs.length)), .val (.int (0 : Int32)), .val (.int (cs.getD i 0)), .unset] [])) _
  refine own_go (fun _ k => XS.iload X98.here hx rfl (hb hby d_jdk_52_m7_35) rfl k) ?_
  show own_Go p e below (T98.setTop (mkF m 37 #[.val (.ref t), .val (.int (Int32.ofNat i)), .val (.int (Int32.ofNat cs.length)), .val (.int (0 : Int32)), .val (.int (cs.getD i 0)), .unset] [(.int (cs.getD i 0))])) _
  obtain ⟨v99, _, ⟨T99, L99, k99, n99⟩, -, X99, ⟨Lc99, hQ99, l99, y99, z99⟩, st99⟩ := Jvm.LawKit.callS X98 hx (y := (⟨"java/lang/Character", "isHighSurrogate", "(C)Z"⟩ : MethodName)) hown (mvT hZ (hw _ (List.mem_of_getElem? (i := 132) rfl))) (mvT hZ (hw _ (List.mem_of_getElem? (i := 133) rfl))) (mvT hZ (hw _ (List.mem_of_getElem? (i := 134) rfl))) (mvT hZ (hw _ (List.mem_of_getElem? (i := 135) rfl))) (by decide) (backOf (W := 0) (rm_jhi l Z a0 hw [] (cs.getD i 0) h0 n0 O0 ) hZ (hw _ (List.mem_of_getElem? (i := 135) rfl)) (hw _ (List.mem_of_getElem? (i := 134) rfl)) (by decide) (by decide)) (g := (mkF m 37 #[.val (.ref t), .val (.int (Int32.ofNat i)), .val (.int (Int32.ofNat cs.length)), .val (.int (0 : Int32)), .val (.int (cs.getD i 0)), .unset] [(.int (cs.getD i 0))])) rfl (by rw [hml]; rfl) (argsL := [(.int (cs.getD i 0))]) (rest := []) (lenOf pd_9 rfl) rfl (by show 2 * 0 + _ ≤ _; exact Nat.le_of_eq rfl) (hb hby d_jdk_52_m7_37) (fun _ _ => ⟨rfl, e98, (by decide : 0 + 0 ≤ _), (by decide : 0 + 0 ≤ _)⟩)
  dsimp only [Pt.U, Pt.locs, Pt.cells, Pt.slots] at X99 l99 y99 z99 st99 hQ99
  subst l99 y99 z99
  refine own_go st99 ?_
  obtain ⟨rfl, Nq99, e99⟩ := hQ99
  have N99 := Fr.app N98 Nq99
  show own_Go p e below (T99.setTop (mkF m 40 #[.val (.ref t), .val (.int (Int32.ofNat i)), .val (.int (Int32.ofNat cs.length)), .val (.int (0 : Int32)), .val (.int (cs.getD i 0)), .unset] [(.int (own_h1 (cs.getD i 0)))])) _
  by_cases hc100 : (own_h1 (cs.getD i 0)) = (0 : Int32)
  · skip
    refine own_go (fun _ k => XS.ifYes X99.here hx rfl (pc0 := 40) (pc' := 83) rfl (hb hby d_jdk_52_m7_40) rfl ((if0 _ _).trans (teq hc100).1) (by decide) (by decide) k) ?_
    show own_Go p e below (T99.setTop (mkF m 83 #[.val (.ref t), .val (.int (Int32.ofNat i)), .val (.int (Int32.ofNat cs.length)), .val (.int (0 : Int32)), .val (.int (cs.getD i 0)), .unset] [])) _
    refine own_go (fun _ k => XS.iload X99.here hx rfl (hb hby d_jdk_52_m7_83) rfl k) ?_
    show own_Go p e below (T99.setTop (mkF m 85 #[.val (.ref t), .val (.int (Int32.ofNat i)), .val (.int (Int32.ofNat cs.length)), .val (.int (0 : Int32)), .val (.int (cs.getD i 0)), .unset] [(.int (cs.getD i 0))])) _
    refine own_fin (v := (some (.int (cs.getD i 0)))) X99 (fun h => by rw [hrt] at h; cases h) hlk (fun fs hr => retI X99 hx hrt (hb hby d_jdk_52_m7_85) hr) (QQ := QPure (some (.int (own_cpt cs i))) h0 n0) ?_ (by decide) (by decide)
    rw [e99]
    exact ⟨congrArg (fun z => some (Value.int z)) (own_cpn (own_pr_n1 hc100)), N99, rfl⟩
  · skip
    refine own_go (fun _ k => XS.ifNo X99.here hx rfl (hb hby d_jdk_52_m7_40) rfl ((if0 _ _).trans (feq hc100).1) k) ?_
    show own_Go p e below (T99.setTop (mkF m 43 #[.val (.ref t), .val (.int (Int32.ofNat i)), .val (.int (Int32.ofNat cs.length)), .val (.int (0 : Int32)), .val (.int (cs.getD i 0)), .unset] [])) _
    refine own_go (fun _ k => XS.iinc X99.here hx rfl (hb hby d_jdk_52_m7_43) rfl (l' := #[.val (.ref t), .val (.int ((Int32.ofNat i) + (1 : Int32))), .val (.int (Int32.ofNat cs.length)), .val (.int (0 : Int32)), .val (.int (cs.getD i 0)), .unset]) rfl k) ?_
    show own_Go p e below (T99.setTop (mkF m 46 #[.val (.ref t), .val (.int ((Int32.ofNat i) + (1 : Int32))), .val (.int (Int32.ofNat cs.length)), .val (.int (0 : Int32)), .val (.int (cs.getD i 0)), .unset] [])) _
    rw [own_inc]
    show own_Go p e below (T99.setTop (mkF m 46 #[.val (.ref t), .val (.int (Int32.ofNat (i + 1))), .val (.int (Int32.ofNat cs.length)), .val (.int (0 : Int32)), .val (.int (cs.getD i 0)), .unset] [])) _
    refine own_go (fun _ k => XS.iloadN X99.here hx rfl (hb hby d_jdk_52_m7_46) rfl k) ?_
    show own_Go p e below (T99.setTop (mkF m 47 #[.val (.ref t), .val (.int (Int32.ofNat (i + 1))), .val (.int (Int32.ofNat cs.length)), .val (.int (0 : Int32)), .val (.int (cs.getD i 0)), .unset] [(.int (Int32.ofNat (i + 1)))])) _
    refine own_go (fun _ k => XS.iloadN X99.here hx rfl (hb hby d_jdk_52_m7_47) rfl k) ?_
    show own_Go p e below (T99.setTop (mkF m 48 #[.val (.ref t), .val (.int (Int32.ofNat (i + 1))), .val (.int (Int32.ofNat cs.length)), .val (.int (0 : Int32)), .val (.int (cs.getD i 0)), .unset] [(.int (Int32.ofNat cs.length)), (.int (Int32.ofNat (i + 1)))])) _
    by_cases hc101 : (Int32.ofNat (i + 1)) < (Int32.ofNat cs.length)
    · skip
      refine own_go (fun _ k => XS.icmpNo X99.here hx rfl (hb hby d_jdk_52_m7_48) rfl (tlt hc101).2.1 k) ?_
      show own_Go p e below (T99.setTop (mkF m 51 #[.val (.ref t), .val (.int (Int32.ofNat (i + 1))), .val (.int (Int32.ofNat cs.length)), .val (.int (0 : Int32)), .val (.int (cs.getD i 0)), .unset] [])) _
      refine own_go (fun _ k => XS.iloadN X99.here hx rfl (hb hby d_jdk_52_m7_51) rfl k) ?_
      show own_Go p e below (T99.setTop (mkF m 52 #[.val (.ref t), .val (.int (Int32.ofNat (i + 1))), .val (.int (Int32.ofNat cs.length)), .val (.int (0 : Int32)), .val (.int (cs.getD i 0)), .unset] [(.int (0 : Int32))])) _
      refine own_go (fun _ k => XS.ifYes X99.here hx rfl (pc0 := 52) (pc' := 60) rfl (hb hby d_jdk_52_m7_52) rfl ((if0 _ _).trans (teq (by decide : (0 : Int32) = (0 : Int32))).1) (by decide) (by decide) k) ?_
      show own_Go p e below (T99.setTop (mkF m 60 #[.val (.ref t), .val (.int (Int32.ofNat (i + 1))), .val (.int (Int32.ofNat cs.length)), .val (.int (0 : Int32)), .val (.int (cs.getD i 0)), .unset] [])) _
      have hi1 : i + 1 < cs.length := (own_lti (by omega) (by omega)).mp hc101
      refine own_go (fun _ k => XS.aloadN X99.here hx rfl (hb hby d_jdk_52_m7_60) rfl rfl k) ?_
      show own_Go p e below (T99.setTop (mkF m 61 #[.val (.ref t), .val (.int (Int32.ofNat (i + 1))), .val (.int (Int32.ofNat cs.length)), .val (.int (0 : Int32)), .val (.int (cs.getD i 0)), .unset] [(.ref t)])) _
      refine own_go (fun _ k => XS.iloadN X99.here hx rfl (hb hby d_jdk_52_m7_61) rfl k) ?_
      show own_Go p e below (T99.setTop (mkF m 62 #[.val (.ref t), .val (.int (Int32.ofNat (i + 1))), .val (.int (Int32.ofNat cs.length)), .val (.int (0 : Int32)), .val (.int (cs.getD i 0)), .unset] [(.int (Int32.ofNat (i + 1))), (.ref t)])) _
      obtain ⟨v102, _, ⟨T102, L102, k102, n102⟩, -, X102, ⟨Lc102, hQ102, l102, y102, z102⟩, st102⟩ := Jvm.LawKit.callS X99 hx (y := (⟨"java/lang/StringUTF16", "getChar", "([BI)C"⟩ : MethodName)) hown (mvT hZ (hw _ (List.mem_of_getElem? (i := 85) rfl))) (mvT hZ (hw _ (List.mem_of_getElem? (i := 86) rfl))) (mvT hZ (hw _ (List.mem_of_getElem? (i := 64) rfl))) (mvT hZ (hw _ (List.mem_of_getElem? (i := 87) rfl))) (by decide) (backOf (W := 0) (rm_get l Z a0 hw [] t k (2 * cs.length) (StrChars.Road.wideBytes cs) (i + 1) (cs.getD (i + 1) 0) h0 n0 O0 OA OH OL V_t (StrChars.Road.wide_lo _ cs _ hi1) (StrChars.Road.wide_hi _ cs _ hi1) (by omega) (by omega) (hok.at hi1)) hZ (hw _ (List.mem_of_getElem? (i := 87) rfl)) (hw _ (List.mem_of_getElem? (i := 64) rfl)) (by decide) (by decide)) (g := (mkF m 62 #[.val (.ref t), .val (.int (Int32.ofNat (i + 1))), .val (.int (Int32.ofNat cs.length)), .val (.int (0 : Int32)), .val (.int (cs.getD i 0)), .unset] [(.int (Int32.ofNat (i + 1))), (.ref t)])) rfl (by rw [hml]; rfl) (argsL := [(.ref t), (.int (Int32.ofNat (i + 1)))]) (rest := []) (lenOf pd_6 rfl) rfl (by show 2 * 0 + _ ≤ _; exact Nat.le_of_eq rfl) (hb hby d_jdk_52_m7_62) (fun _ _ => ⟨rfl, e99, (by decide : 0 + 0 ≤ _), (by decide : 0 + 0 ≤ _)⟩)
      dsimp only [Pt.U, Pt.locs, Pt.cells, Pt.slots] at X102 l102 y102 z102 st102 hQ102
      subst l102 y102 z102
      refine own_go st102 ?_
      obtain ⟨rfl, Nq102, e102⟩ := hQ102
      have N102 := Fr.app N99 Nq102
      show own_Go p e below (T102.setTop (mkF m 65 #[.val (.ref t), .val (.int (Int32.ofNat (i + 1))), .val (.int (Int32.ofNat cs.length)), .val (.int (0 : Int32)), .val (.int (cs.getD i 0)), .unset] [(.int (cs.getD (i + 1) 0))])) _
      refine own_go (fun _ k => XS.istore X102.here hx rfl (hb hby d_jdk_52_m7_65) rfl (l' := #[.val (.ref t), .val (.int (Int32.ofNat (i + 1))), .val (.int (Int32.ofNat cs.length)), .val (.int (0 : Int32)), .val (.int (cs.getD i 0)), .val (.int (cs.getD (i + 1) 0))]) rfl k) ?_
      show own_Go p e below (T102.setTop (mkF m 67 #[.val (.ref t), .val (.int (Int32.ofNat (i + 1))), .val (.int (Int32.ofNat cs.length)), .val (.int (0 : Int32)), .val (.int (cs.getD i 0)), .val (.int (cs.getD (i + 1) 0))] [])) _
      refine own_go (fun _ k => XS.iload X102.here hx rfl (hb hby d_jdk_52_m7_67) rfl k) ?_
      show own_Go p e below (T102.setTop (mkF m 69 #[.val (.ref t), .val (.int (Int32.ofNat (i + 1))), .val (.int (Int32.ofNat cs.length)), .val (.int (0 : Int32)), .val (.int (cs.getD i 0)), .val (.int (cs.getD (i + 1) 0))] [(.int (cs.getD (i + 1) 0))])) _
      obtain ⟨v103, _, ⟨T103, L103, k103, n103⟩, -, X103, ⟨Lc103, hQ103, l103, y103, z103⟩, st103⟩ := Jvm.LawKit.callS X102 hx (y := (⟨"java/lang/Character", "isLowSurrogate", "(C)Z"⟩ : MethodName)) hown (mvT hZ (hw _ (List.mem_of_getElem? (i := 138) rfl))) (mvT hZ (hw _ (List.mem_of_getElem? (i := 139) rfl))) (mvT hZ (hw _ (List.mem_of_getElem? (i := 134) rfl))) (mvT hZ (hw _ (List.mem_of_getElem? (i := 140) rfl))) (by decide) (backOf (W := 0) (rm_jlo l Z a0 hw [] (cs.getD (i + 1) 0) h0 n0 O0 ) hZ (hw _ (List.mem_of_getElem? (i := 140) rfl)) (hw _ (List.mem_of_getElem? (i := 134) rfl)) (by decide) (by decide)) (g := (mkF m 69 #[.val (.ref t), .val (.int (Int32.ofNat (i + 1))), .val (.int (Int32.ofNat cs.length)), .val (.int (0 : Int32)), .val (.int (cs.getD i 0)), .val (.int (cs.getD (i + 1) 0))] [(.int (cs.getD (i + 1) 0))])) rfl (by rw [hml]; rfl) (argsL := [(.int (cs.getD (i + 1) 0))]) (rest := []) (lenOf pd_9 rfl) rfl (by show 2 * 0 + _ ≤ _; exact Nat.le_of_eq rfl) (hb hby d_jdk_52_m7_69) (fun _ _ => ⟨rfl, e102, (by decide : 0 + 0 ≤ _), (by decide : 0 + 0 ≤ _)⟩)
      dsimp only [Pt.U, Pt.locs, Pt.cells, Pt.slots] at X103 l103 y103 z103 st103 hQ103
      subst l103 y103 z103
      refine own_go st103 ?_
      obtain ⟨rfl, Nq103, e103⟩ := hQ103
      have N103 := Fr.app N102 Nq103
      show own_Go p e below (T103.setTop (mkF m 72 #[.val (.ref t), .val (.int (Int32.ofNat (i + 1))), .val (.int (Int32.ofNat cs.length)), .val (.int (0 : Int32)), .val (.int (cs.getD i 0)), .val (.int (cs.getD (i + 1) 0))] [(.int (own_l1 (cs.getD (i + 1) 0)))])) _
      by_cases hc104 : (own_l1 (cs.getD (i + 1) 0)) = (0 : Int32)
      · skip
        refine own_go (fun _ k => XS.ifYes X103.here hx rfl (pc0 := 72) (pc' := 83) rfl (hb hby d_jdk_52_m7_72) rfl ((if0 _ _).trans (teq hc104).1) (by decide) (by decide) k) ?_
        show own_Go p e below (T103.setTop (mkF m 83 #[.val (.ref t), .val (.int (Int32.ofNat (i + 1))), .val (.int (Int32.ofNat cs.length)), .val (.int (0 : Int32)), .val (.int (cs.getD i 0)), .val (.int (cs.getD (i + 1) 0))] [])) _
        refine own_go (fun _ k => XS.iload X103.here hx rfl (hb hby d_jdk_52_m7_83) rfl k) ?_
        show own_Go p e below (T103.setTop (mkF m 85 #[.val (.ref t), .val (.int (Int32.ofNat (i + 1))), .val (.int (Int32.ofNat cs.length)), .val (.int (0 : Int32)), .val (.int (cs.getD i 0)), .val (.int (cs.getD (i + 1) 0))] [(.int (cs.getD i 0))])) _
        refine own_fin (v := (some (.int (cs.getD i 0)))) X103 (fun h => by rw [hrt] at h; cases h) hlk (fun fs hr => retI X103 hx hrt (hb hby d_jdk_52_m7_85) hr) (QQ := QPure (some (.int (own_cpt cs i))) h0 n0) ?_ (by decide) (by decide)
        rw [e103]
        exact ⟨congrArg (fun z => some (Value.int z)) (own_cpn (own_pr_n3 hc104)), N103, rfl⟩
      · skip
        refine own_go (fun _ k => XS.ifNo X103.here hx rfl (hb hby d_jdk_52_m7_72) rfl ((if0 _ _).trans (feq hc104).1) k) ?_
        show own_Go p e below (T103.setTop (mkF m 75 #[.val (.ref t), .val (.int (Int32.ofNat (i + 1))), .val (.int (Int32.ofNat cs.length)), .val (.int (0 : Int32)), .val (.int (cs.getD i 0)), .val (.int (cs.getD (i + 1) 0))] [])) _
        refine own_go (fun _ k => XS.iload X103.here hx rfl (hb hby d_jdk_52_m7_75) rfl k) ?_
        show own_Go p e below (T103.setTop (mkF m 77 #[.val (.ref t), .val (.int (Int32.ofNat (i + 1))), .val (.int (Int32.ofNat cs.length)), .val (.int (0 : Int32)), .val (.int (cs.getD i 0)), .val (.int (cs.getD (i + 1) 0))] [(.int (cs.getD i 0))])) _
        refine own_go (fun _ k => XS.iload X103.here hx rfl (hb hby d_jdk_52_m7_77) rfl k) ?_
        show own_Go p e below (T103.setTop (mkF m 79 #[.val (.ref t), .val (.int (Int32.ofNat (i + 1))), .val (.int (Int32.ofNat cs.length)), .val (.int (0 : Int32)), .val (.int (cs.getD i 0)), .val (.int (cs.getD (i + 1) 0))] [(.int (cs.getD (i + 1) 0)), (.int (cs.getD i 0))])) _
        obtain ⟨v105, _, ⟨T105, L105, k105, n105⟩, -, X105, ⟨Lc105, hQ105, l105, y105, z105⟩, st105⟩ := Jvm.LawKit.callS X103 hx (y := (⟨"java/lang/Character", "toCodePoint", "(CC)I"⟩ : MethodName)) hown (mvT hZ (hw _ (List.mem_of_getElem? (i := 147) rfl))) (mvT hZ (hw _ (List.mem_of_getElem? (i := 148) rfl))) (mvT hZ (hw _ (List.mem_of_getElem? (i := 134) rfl))) (mvT hZ (hw _ (List.mem_of_getElem? (i := 149) rfl))) (by decide) (backOf (W := 0) (rm_tcp l Z a0 hw [] (cs.getD i 0) (cs.getD (i + 1) 0) h0 n0 O0 ) hZ (hw _ (List.mem_of_getElem? (i := 149) rfl)) (hw _ (List.mem_of_getElem? (i := 134) rfl)) (by decide) (by decide)) (g := (mkF m 79 #[.val (.ref t), .val (.int (Int32.ofNat (i + 1))), .val (.int (Int32.ofNat cs.length)), .val (.int (0 : Int32)), .val (.int (cs.getD i 0)), .val (.int (cs.getD (i + 1) 0))] [(.int (cs.getD (i + 1) 0)), (.int (cs.getD i 0))])) rfl (by rw [hml]; rfl) (argsL := [(.int (cs.getD i 0)), (.int (cs.getD (i + 1) 0))]) (rest := []) (lenOf pd_10 rfl) rfl (by show 2 * 0 + _ ≤ _; exact Nat.le_of_eq rfl) (hb hby d_jdk_52_m7_79) (fun _ _ => ⟨rfl, e103, (by decide : 0 + 0 ≤ _), (by decide : 0 + 0 ≤ _)⟩)
        dsimp only [Pt.U, Pt.locs, Pt.cells, Pt.slots] at X105 l105 y105 z105 st105 hQ105
        subst l105 y105 z105
        refine own_go st105 ?_
        obtain ⟨rfl, Nq105, e105⟩ := hQ105
        have N105 := Fr.app N103 Nq105
        show own_Go p e below (T105.setTop (mkF m 82 #[.val (.ref t), .val (.int (Int32.ofNat (i + 1))), .val (.int (Int32.ofNat cs.length)), .val (.int (0 : Int32)), .val (.int (cs.getD i 0)), .val (.int (cs.getD (i + 1) 0))] [(.int ((((cs.getD i 0) <<< ((10 : Int32) &&& 31)) + (cs.getD (i + 1) 0)) + (-56613888 : Int32)))])) _
        refine own_fin (v := (some (.int ((((cs.getD i 0) <<< ((10 : Int32) &&& 31)) + (cs.getD (i + 1) 0)) + (-56613888 : Int32))))) X105 (fun h => by rw [hrt] at h; cases h) hlk (fun fs hr => retI X105 hx hrt (hb hby d_jdk_52_m7_82) hr) (QQ := QPure (some (.int (own_cpt cs i))) h0 n0) ?_ (by decide) (by decide)
        rw [e105]
        exact ⟨congrArg (fun z => some (Value.int z)) (own_cpj (own_pr_y (own_h1n hc100) hi1 (own_l1n hc104))), N105, rfl⟩
    · skip
      refine own_go (fun _ k => XS.icmpYes X99.here hx rfl (pc0 := 48) (pc' := 83) rfl (hb hby d_jdk_52_m7_48) rfl (flt hc101).2.1 (by decide) (by decide) k) ?_
      show own_Go p e below (T99.setTop (mkF m 83 #[.val (.ref t), .val (.int (Int32.ofNat (i + 1))), .val (.int (Int32.ofNat cs.length)), .val (.int (0 : Int32)), .val (.int (cs.getD i 0)), .unset] [])) _
      refine own_go (fun _ k => XS.iload X99.here hx rfl (hb hby d_jdk_52_m7_83) rfl k) ?_
      show own_Go p e below (T99.setTop (mkF m 85 #[.val (.ref t), .val (.int (Int32.ofNat (i + 1))), .val (.int (Int32.ofNat cs.length)), .val (.int (0 : Int32)), .val (.int (cs.getD i 0)), .unset] [(.int (cs.getD i 0))])) _
      refine own_fin (v := (some (.int (cs.getD i 0)))) X99 (fun h => by rw [hrt] at h; cases h) hlk (fun fs hr => retI X99 hx hrt (hb hby d_jdk_52_m7_85) hr) (QQ := QPure (some (.int (own_cpt cs i))) h0 n0) ?_ (by decide) (by decide)
      rw [e99]
      exact ⟨congrArg (fun z => some (Value.int z)) (own_cpn (own_pr_n2 (fun q => hc101 ((own_lti (by omega) (by omega)).mpr q)))), N99, rfl⟩

theorem d_jdk_52_m8_0 : decode jdk_52_method_8_code 0 = .ok (.aload_n 0, 1) := by decide +kernel
theorem d_jdk_52_m8_1 : decode jdk_52_method_8_code 1 = .ok (.iload_n 1, 1) := by decide +kernel
theorem d_jdk_52_m8_2 : decode jdk_52_method_8_code 2 = .ok (.iload_n 2, 1) := by decide +kernel
theorem d_jdk_52_m8_3 : decode jdk_52_method_8_code 3 = .ok (.iconst 0, 1) := by decide +kernel
theorem d_jdk_52_m8_4 : decode jdk_52_method_8_code 4 = .ok (.invokestatic 88, 3) := by decide +kernel
theorem pd_11 : parseMethodDescriptor "([BIIZ)I" = some ⟨[(.array .byte), .int, .int, .boolean], some .int⟩ := by decide +kernel
theorem d_jdk_52_m8_7 : decode jdk_52_method_8_code 7 = .ok (.ireturn, 1) := by decide +kernel
theorem ef_rm_wcp (m : MethodId) (x0 : Addr) (x1 : Int32) (x2 : Int32) : entryFrame m #[(.ref x0), (.int x1), (.int x2)] 3 = mkF m 0 #[.val (.ref x0), .val (.int x1), .val (.int x2)] [] := by
   first | (simp [entryFrame, mkF, argsToLocals, Value.category]; done) | rfl
set_option maxRecDepth 65536 in
set_option maxHeartbeats 40000000 in
theorem rm_wcp (l : Launch) (Z : State) (a0 : Array Value) (hw : ∀ d ∈ tables_1, d.before a0 Z = true) (ws : List Jvm.Cond) (t : Addr) (k : ClassId) (cs : List Int32) (i : Nat) (h0 : Heap) (n0 : Nat) (O0 : Old Z n0 h0) (OA : Sta Z Z.heap "java/lang/StringUTF16" "$assertionsDisabled" "Z" (.int (1 : Int32))) (OH : Sta Z Z.heap "java/lang/StringUTF16" "HI_BYTE_SHIFT" "I" (.int (0 : Int32))) (OL : Sta Z Z.heap "java/lang/StringUTF16" "LO_BYTE_SHIFT" "I" (.int (8 : Int32))) (V_t : Arv Z h0 t k .byte (Int32.ofNat (2 * cs.length)) (StrChars.Road.wideBytes cs) (.int (0 : Int32))) (hok : own_Ok cs) (hi : i < cs.length) :
    MetFree l (⟨"java/lang/StringUTF16", "codePointAt", "([BII)I"⟩ : MethodName) (head1 (Jvm.Cond.code (⟨"java/lang/StringUTF16", "codePointAt", "([BII)I"⟩ : MethodName) jdk_52_method_8_code 3 (some .int) :: ws) ({ frames := 2, cells := 0, slots := 0, locals := 30 } : Room)) (fun aA U => aA = #[(.ref t), (.int (Int32.ofNat i)), (.int (Int32.ofNat cs.length))] ∧ Z.Warmed39 U.vm ∧ U.heap = h0) (fun _ _ _ _ _ => True) (fun _ U oO U' => ∃ rV rL, oO = .returned rV ∧ QPure (some (.int (own_cpt cs i))) h0 n0 rV U'.heap rL ∧ FrameEnd U oO U' rL 0 0) := by
  refine MetFree.of_bodySF (plainFor_of_name pn_1) hisR ?_
  intro p e s m args below meth cC s₁ Bd hml0 hP hK
  obtain ⟨rfl, hZ, hh⟩ := hP
  have hx := Bd.exec
  have hby := Bd.bytes
  have hml : cC.maxLocals = 3 := hml0
  have hown : s.vm.findClass "java/lang/StringUTF16" = some m.cls := findClass_of_methodNamed Bd.named
  have hnm := (name_of_methodNamed Bd.named Bd.method).1
  have hrt := Bd.returns
  have hlk : meth.locks = false := Bd.notSynchronized
  have X0 : Stand p l e ({ frames := 2, cells := 0, slots := 0, locals := 30 } : Room) s m #[(.ref t), (.int (Int32.ofNat i)), (.int (Int32.ofNat cs.length))] below meth cC s₁ [] 0 0 := Stand.of_body Bd
  have e0 : s₁.heap = h0 := by rw [← hh, Bd.state]; rfl
  have N0 := Fr.nil n0
  have Z0 : n0 ≤ h0.size := O0.1 ▸ O0.2.1
  show own_Go p e below (s₁.setTop (entryFrame m #[(.ref t), (.int (Int32.ofNat i)), (.int (Int32.ofNat cs.length))] 3)) (fun oO U' => ∃ rV rL, oO = .returned rV ∧ QPure (some (.int (own_cpt cs i))) h0 n0 rV U'.heap rL ∧ FrameEnd s oO U' rL 0 0)
  refine own_go (fun _ k => castTop (ef_rm_wcp m t _ _) k) ?_
  have hlen : cs.length ≤ 4000 := hok.2
  show own_Go p e below (s₁.setTop (mkF m 0 #[.val (.ref t), .val (.int (Int32.ofNat i)), .val (.int (Int32.ofNat cs.length))] [])) _
  refine own_go (fun _ k => XS.aloadN X0.here hx rfl (hb hby d_jdk_52_m8_0) rfl rfl k) ?_
  show own_Go p e below (s₁.setTop (mkF m 1 #[.val (.ref t), .val (.int (Int32.ofNat i)), .val (.int (Int32.ofNat cs.length))] [(.ref t)])) _
  refine own_go (fun _ k => XS.iloadN X0.here hx rfl (hb hby d_jdk_52_m8_1) rfl k) ?_
  show own_Go p e below (s₁.setTop (mkF m 2 #[.val (.ref t), .val (.int (Int32.ofNat i)), .val (.int (Int32.ofNat cs.length))] [(.int (Int32.ofNat i)), (.ref t)])) _
  refine own_go (fun _ k => XS.iloadN X0.here hx rfl (hb hby d_jdk_52_m8_2) rfl k) ?_
  show own_Go p e below (s₁.setTop (mkF m 3 #[.val (.ref t), .val (.int (Int32.ofNat i)), .val (.int (Int32.ofNat cs.length))] [(.int (Int32.ofNat cs.length)), (.int (Int32.ofNat i)), (.ref t)])) _
  refine own_go (fun _ k => XS.iconst X0.here hx rfl (hb hby d_jdk_52_m8_3) k) ?_
  show own_Go p e below (s₁.setTop (mkF m 4 #[.val (.ref t), .val (.int (Int32.ofNat i)), .val (.int (Int32.ofNat cs.length))] [(.int (0 : Int32)), (.int (Int32.ofNat cs.length)), (.int (Int32.ofNat i)), (.ref t)])) _
  obtain ⟨v106, _, ⟨T106, L106, k106, n106⟩, -, X106, ⟨Lc106, hQ106, l106, y106, z106⟩, st106⟩ := Jvm.LawKit.callS X0 hx (y := (⟨"java/lang/StringUTF16", "codePointAt", "([BIIZ)I"⟩ : MethodName)) hown (mvT hZ (hw _ (List.mem_of_getElem? (i := 129) rfl))) (mvT hZ (hw _ (List.mem_of_getElem? (i := 130) rfl))) (mvT hZ (hw _ (List.mem_of_getElem? (i := 64) rfl))) (mvT hZ (hw _ (List.mem_of_getElem? (i := 131) rfl))) (by decide) (backOf (W := 0) (rm_wcp4 l Z a0 hw [] t k cs i h0 n0 O0 OA OH OL V_t hok hi) hZ (hw _ (List.mem_of_getElem? (i := 131) rfl)) (hw _ (List.mem_of_getElem? (i := 64) rfl)) (by decide) (by decide)) (g := (mkF m 4 #[.val (.ref t), .val (.int (Int32.ofNat i)), .val (.int (Int32.ofNat cs.length))] [(.int (0 : Int32)), (.int (Int32.ofNat cs.length)), (.int (Int32.ofNat i)), (.ref t)])) rfl (by rw [hml]; rfl) (argsL := [(.ref t), (.int (Int32.ofNat i)), (.int (Int32.ofNat cs.length)), (.int (0 : Int32))]) (rest := []) (lenOf pd_11 rfl) rfl (by show 2 * 0 + _ ≤ _; exact Nat.le_of_eq rfl) (hb hby d_jdk_52_m8_4) (fun _ _ => ⟨rfl, e0, (by decide : 0 + 0 ≤ _), (by decide : 0 + 0 ≤ _)⟩)
  dsimp only [Pt.U, Pt.locs, Pt.cells, Pt.slots] at X106 l106 y106 z106 st106 hQ106
  subst l106 y106 z106
  refine own_go st106 ?_
  obtain ⟨rfl, Nq106, e106⟩ := hQ106
  have N106 := Fr.app N0 Nq106
  show own_Go p e below (T106.setTop (mkF m 7 #[.val (.ref t), .val (.int (Int32.ofNat i)), .val (.int (Int32.ofNat cs.length))] [(.int (own_cpt cs i))])) _
  refine own_fin (v := (some (.int (own_cpt cs i)))) X106 (fun h => by rw [hrt] at h; cases h) hlk (fun fs hr => retI X106 hx hrt (hb hby d_jdk_52_m8_7) hr) (QQ := QPure (some (.int (own_cpt cs i))) h0 n0) ?_ (by decide) (by decide)
  rw [e106]
  exact ⟨rfl, N106, rfl⟩

theorem d_jdk_42_m154_17 : decode jdk_42_method_154_code 17 = .ok (.iconst 0, 1) := by decide +kernel
theorem ef_rm_lat1 (m : MethodId) (x0 : Addr) : entryFrame m #[(.ref x0)] 1 = mkF m 0 #[.val (.ref x0)] [] := by
   first | (simp [entryFrame, mkF, argsToLocals, Value.category]; done) | rfl
set_option maxRecDepth 65536 in
set_option maxHeartbeats 40000000 in
theorem rm_lat1 (l : Launch) (Z : State) (a0 : Array Value) (hw : ∀ d ∈ tables_1, d.before a0 Z = true) (ws : List Jvm.Cond) (a1 : Addr) (G1 : Int32) (h0 : Heap) (n0 : Nat) (O0 : Old Z n0 h0) (E_a : Exa Z h0 a1 "java/lang/String") (F_c : Fld Z h0 a1 "java/lang/String" "coder" "B" (.int (1 : Int32))) (O2 : Sta Z Z.heap "java/lang/String" "COMPACT_STRINGS" "Z" (.int G1)) (P5 : ¬ (G1 = (0 : Int32))) :
    MetFree l (⟨"java/lang/String", "isLatin1", "()Z"⟩ : MethodName) (head1 (Jvm.Cond.code (⟨"java/lang/String", "isLatin1", "()Z"⟩ : MethodName) jdk_42_method_154_code 1 (some .boolean) :: ws) ({ frames := 0, cells := 0, slots := 0, locals := 0 } : Room)) (fun aA U => aA = #[(.ref a1)] ∧ Z.Warmed39 U.vm ∧ U.heap = h0) (fun _ _ _ _ _ => True) (fun _ U oO U' => ∃ rV rL, oO = .returned rV ∧ QPure (some (.int (0 : Int32))) h0 n0 rV U'.heap rL ∧ FrameEnd U oO U' rL 0 0) := by
  refine MetFree.of_bodySF (plainFor_of_name pn_0) hisR ?_
  intro p e s m args below meth cC s₁ Bd hml0 hP hK
  obtain ⟨rfl, hZ, hh⟩ := hP
  have hx := Bd.exec
  have hby := Bd.bytes
  have hml : cC.maxLocals = 1 := hml0
  have hown : s.vm.findClass "java/lang/String" = some m.cls := findClass_of_methodNamed Bd.named
  have hnm := (name_of_methodNamed Bd.named Bd.method).1
  have hrt := Bd.returns
  have hlk : meth.locks = false := Bd.notSynchronized
  have X0 : Stand p l e ({ frames := 0, cells := 0, slots := 0, locals := 0 } : Room) s m #[(.ref a1)] below meth cC s₁ [] 0 0 := Stand.of_body Bd
  have e0 : s₁.heap = h0 := by rw [← hh, Bd.state]; rfl
  have N0 := Fr.nil n0
  have Z0 : n0 ≤ h0.size := O0.1 ▸ O0.2.1
  show own_Go p e below (s₁.setTop (entryFrame m #[(.ref a1)] 1)) (fun oO U' => ∃ rV rL, oO = .returned rV ∧ QPure (some (.int (0 : Int32))) h0 n0 rV U'.heap rL ∧ FrameEnd s oO U' rL 0 0)
  refine own_go (fun _ k => castTop (ef_rm_lat1 m a1) k) ?_
  show own_Go p e below (s₁.setTop (mkF m 0 #[.val (.ref a1)] [])) _
  obtain ⟨T107, X107, e107, st107⟩ := getS2 X0 hx hZ hown (host := "") (Or.inl (hw _ (List.mem_of_getElem? (i := 45) rfl))) Via.refl e0 (O2.ext O0.2) (g := (mkF m 0 #[.val (.ref a1)] [])) rfl (hb hby d_jdk_42_m154_0)
  refine own_go st107 ?_
  show own_Go p e below (T107.setTop (mkF m 3 #[.val (.ref a1)] [(.int G1)])) _
  refine own_go (fun _ k => XS.ifNo X107.here hx rfl (hb hby d_jdk_42_m154_3) rfl ((if0 _ _).trans (feq P5).1) k) ?_
  show own_Go p e below (T107.setTop (mkF m 6 #[.val (.ref a1)] [])) _
  refine own_go (fun _ k => XS.aloadN X107.here hx rfl (hb hby d_jdk_42_m154_6) rfl rfl k) ?_
  show own_Go p e below (T107.setTop (mkF m 7 #[.val (.ref a1)] [(.ref a1)])) _
  obtain ⟨T108, X108, e108, st108⟩ := getF X107 hx hZ hown (host := "") (Or.inl (hw _ (List.mem_of_getElem? (i := 30) rfl))) Via.refl e107 F_c (g := (mkF m 7 #[.val (.ref a1)] [(.ref a1)])) rfl rfl (hb hby d_jdk_42_m154_7)
  refine own_go st108 ?_
  show own_Go p e below (T108.setTop (mkF m 10 #[.val (.ref a1)] [(.int (1 : Int32))])) _
  refine own_go (fun _ k => XS.ifYes X108.here hx rfl (pc0 := 10) (pc' := 17) rfl (hb hby d_jdk_42_m154_10) rfl ((if0 _ _).trans (feq (by decide : ¬ ((1 : Int32) = (0 : Int32)))).2) (by decide) (by decide) k) ?_
  show own_Go p e below (T108.setTop (mkF m 17 #[.val (.ref a1)] [])) _
  refine own_go (fun _ k => XS.iconst X108.here hx rfl (hb hby d_jdk_42_m154_17) k) ?_
  show own_Go p e below (T108.setTop (mkF m 18 #[.val (.ref a1)] [(.int (0 : Int32))])) _
  refine own_fin (v := (some (.int (nar .boolean (0 : Int32))))) X108 (fun h => by rw [hrt] at h; cases h) hlk (fun fs hr => retN X108 hx (t := .boolean) hrt (by simp) (hb hby d_jdk_42_m154_18) hr) (QQ := QPure (some (.int (0 : Int32))) h0 n0) ?_ (by decide) (by decide)
  rw [e108]
  exact ⟨rfl, N0, rfl⟩

theorem d_jdk_42_m57_0 : decode jdk_42_method_57_code 0 = .ok (.aload_n 0, 1) := by decide +kernel
theorem d_jdk_42_m57_1 : decode jdk_42_method_57_code 1 = .ok (.invokevirtual 492, 3) := by decide +kernel
theorem pd_12 : parseMethodDescriptor "()Z" = some ⟨[], some .boolean⟩ := by decide +kernel
theorem d_jdk_42_m57_4 : decode jdk_42_method_57_code 4 = .ok (.ifCond .eq 23, 3) := by decide +kernel
theorem d_jdk_42_m57_7 : decode jdk_42_method_57_code 7 = .ok (.iload_n 1, 1) := by decide +kernel
theorem d_jdk_42_m57_8 : decode jdk_42_method_57_code 8 = .ok (.aload_n 0, 1) := by decide +kernel
theorem d_jdk_42_m57_9 : decode jdk_42_method_57_code 9 = .ok (.getfield 9, 3) := by decide +kernel
theorem d_jdk_42_m57_12 : decode jdk_42_method_57_code 12 = .ok (.arraylength, 1) := by decide +kernel
theorem d_jdk_42_m57_13 : decode jdk_42_method_57_code 13 = .ok (.invokestatic 499, 3) := by decide +kernel
theorem pd_13 : parseMethodDescriptor "(II)V" = some ⟨[.int, .int], none⟩ := by decide +kernel
theorem d_jdk_42_m57_16 : decode jdk_42_method_57_code 16 = .ok (.aload_n 0, 1) := by decide +kernel
theorem d_jdk_42_m57_17 : decode jdk_42_method_57_code 17 = .ok (.getfield 9, 3) := by decide +kernel
theorem d_jdk_42_m57_20 : decode jdk_42_method_57_code 20 = .ok (.iload_n 1, 1) := by decide +kernel
theorem d_jdk_42_m57_21 : decode jdk_42_method_57_code 21 = .ok (.baload, 1) := by decide +kernel
theorem d_jdk_42_m57_22 : decode jdk_42_method_57_code 22 = .ok (.sipush 255, 3) := by decide +kernel
theorem d_jdk_42_m57_25 : decode jdk_42_method_57_code 25 = .ok (.iand, 1) := by decide +kernel
theorem d_jdk_42_m57_26 : decode jdk_42_method_57_code 26 = .ok (.ireturn, 1) := by decide +kernel
theorem d_jdk_42_m57_27 : decode jdk_42_method_57_code 27 = .ok (.aload_n 0, 1) := by decide +kernel
theorem d_jdk_42_m57_28 : decode jdk_42_method_57_code 28 = .ok (.getfield 9, 3) := by decide +kernel
theorem d_jdk_42_m57_31 : decode jdk_42_method_57_code 31 = .ok (.arraylength, 1) := by decide +kernel
theorem d_jdk_42_m57_32 : decode jdk_42_method_57_code 32 = .ok (.iconst 1, 1) := by decide +kernel
theorem d_jdk_42_m57_33 : decode jdk_42_method_57_code 33 = .ok (.ishr, 1) := by decide +kernel
theorem d_jdk_42_m57_34 : decode jdk_42_method_57_code 34 = .ok (.istore_n 2, 1) := by decide +kernel
theorem d_jdk_42_m57_35 : decode jdk_42_method_57_code 35 = .ok (.iload_n 1, 1) := by decide +kernel
theorem d_jdk_42_m57_36 : decode jdk_42_method_57_code 36 = .ok (.iload_n 2, 1) := by decide +kernel
theorem d_jdk_42_m57_37 : decode jdk_42_method_57_code 37 = .ok (.invokestatic 499, 3) := by decide +kernel
theorem d_jdk_42_m57_40 : decode jdk_42_method_57_code 40 = .ok (.aload_n 0, 1) := by decide +kernel
theorem d_jdk_42_m57_41 : decode jdk_42_method_57_code 41 = .ok (.getfield 9, 3) := by decide +kernel
theorem d_jdk_42_m57_44 : decode jdk_42_method_57_code 44 = .ok (.iload_n 1, 1) := by decide +kernel
theorem d_jdk_42_m57_45 : decode jdk_42_method_57_code 45 = .ok (.iload_n 2, 1) := by decide +kernel
theorem d_jdk_42_m57_46 : decode jdk_42_method_57_code 46 = .ok (.invokestatic 502, 3) := by decide +kernel
theorem pd_14 : parseMethodDescriptor "([BII)I" = some ⟨[(.array .byte), .int, .int], some .int⟩ := by decide +kernel
theorem d_jdk_42_m57_49 : decode jdk_42_method_57_code 49 = .ok (.ireturn, 1) := by decide +kernel
theorem ef_rm_cpa (m : MethodId) (x0 : Addr) (x1 : Int32) : entryFrame m #[(.ref x0), (.int x1)] 3 = mkF m 0 #[.val (.ref x0), .val (.int x1), .unset] [] := by
   first | (simp [entryFrame, mkF, argsToLocals, Value.category]; done) | rfl
set_option maxRecDepth 65536 in
set_option maxHeartbeats 40000000 in
theorem rm_cpa (l : Launch) (Z : State) (a0 : Array Value) (hw : ∀ d ∈ tables_1, d.before a0 Z = true) (ws : List Jvm.Cond) (x : Addr) (t : Addr) (k : ClassId) (cs : List Int32) (cd : Int32) (N2 : Int32) (vs : List Value) (i : Nat) (G1 : Int32) (G3 : Value) (h0 : Heap) (n0 : Nat) (O0 : Old Z n0 h0) (O2 : Sta Z Z.heap "java/lang/String" "COMPACT_STRINGS" "Z" (.int G1)) (P5 : ¬ (G1 = (0 : Int32))) (O4 : Sta Z Z.heap "jdk/internal/util/Preconditions" "SIOOBE_FORMATTER" "Ljava/util/function/BiFunction;" G3) (rG3 : G3.isRef = true) (OA : Sta Z Z.heap "java/lang/StringUTF16" "$assertionsDisabled" "Z" (.int (1 : Int32))) (OH : Sta Z Z.heap "java/lang/StringUTF16" "HI_BYTE_SHIFT" "I" (.int (0 : Int32))) (OL : Sta Z Z.heap "java/lang/StringUTF16" "LO_BYTE_SHIFT" "I" (.int (8 : Int32))) (E_x : Exa Z h0 x "java/lang/String") (Fv_x : Fld Z h0 x "java/lang/String" "value" "[B" (.ref t)) (Fc_x : Fld Z h0 x "java/lang/String" "coder" "B" (.int cd)) (V_t : Arv Z h0 t k .byte N2 vs (.int (0 : Int32))) (hC_x : StrChars.Road.CodA cs cd N2 vs) (hok : own_Ok cs) (hi : i < cs.length) :
    MetFree l (⟨"java/lang/String", "codePointAt", "(I)I"⟩ : MethodName) (head1 (Jvm.Cond.code (⟨"java/lang/String", "codePointAt", "(I)I"⟩ : MethodName) jdk_42_method_57_code 3 (some .int) :: ws) ({ frames := 3, cells := 0, slots := 0, locals := 44 } : Room)) (fun aA U => aA = #[(.ref x), (.int (Int32.ofNat i))] ∧ Z.Warmed39 U.vm ∧ U.heap = h0) (fun _ _ _ _ _ => True) (fun _ U oO U' => ∃ rV rL, oO = .returned rV ∧ QPure (some (.int (own_cpt cs i))) h0 n0 rV U'.heap rL ∧ FrameEnd U oO U' rL 0 0) := by
  refine MetFree.of_bodySF (plainFor_of_name pn_0) hisR ?_
  intro p e s m args below meth cC s₁ Bd hml0 hP hK
  obtain ⟨rfl, hZ, hh⟩ := hP
  have hx := Bd.exec
  have hby := Bd.bytes
  have hml : cC.maxLocals = 3 := hml0
  have hown : s.vm.findClass "java/lang/String" = some m.cls := findClass_of_methodNamed Bd.named
  have hnm := (name_of_methodNamed Bd.named Bd.method).1
  have hrt := Bd.returns
  have hlk : meth.locks = false := Bd.notSynchronized
  have X0 : Stand p l e ({ frames := 3, cells := 0, slots := 0, locals := 44 } : Room) s m #[(.ref x), (.int (Int32.ofNat i))] below meth cC s₁ [] 0 0 := Stand.of_body Bd
  have e0 : s₁.heap = h0 := by rw [← hh, Bd.state]; rfl
  have N0 := Fr.nil n0
  have Z0 : n0 ≤ h0.size := O0.1 ▸ O0.2.1
  show own_Go p e below (s₁.setTop (entryFrame m #[(.ref x), (.int (Int32.ofNat i))] 3)) (fun oO U' => ∃ rV rL, oO = .returned rV ∧ QPure (some (.int (own_cpt cs i))) h0 n0 rV U'.heap rL ∧ FrameEnd s oO U' rL 0 0)
  refine own_go (fun _ k => castTop (ef_rm_cpa m x _) k) ?_
  have hlen : cs.length ≤ 4000 := hok.2
  show own_Go p e below (s₁.setTop (mkF m 0 #[.val (.ref x), .val (.int (Int32.ofNat i)), .unset] [])) _
  rcases id hC_x with ⟨c1, c2, c3, ha⟩ | ⟨c1, c2, c3, cw, hcw, hbig⟩
  · subst c1 c2 c3
    show own_Go p e below (s₁.setTop (mkF m 0 #[.val (.ref x), .val (.int (Int32.ofNat i)), .unset] [])) _
    refine own_go (fun _ k => XS.aloadN X0.here hx rfl (hb hby d_jdk_42_m57_0) rfl rfl k) ?_
    show own_Go p e below (s₁.setTop (mkF m 1 #[.val (.ref x), .val (.int (Int32.ofNat i)), .unset] [(.ref x)])) _
    obtain ⟨cq109, kq109, q109a, q109b, q109c⟩ := isOf hZ e0 E_x
    obtain ⟨v109, _, ⟨T109, L109, k109, n109⟩, -, X109, ⟨Lc109, hQ109, l109, y109, z109⟩, st109⟩ := X0.virtualBack hx (y := (⟨"java/lang/String", "isLatin1", "()Z"⟩ : MethodName)) (z := (⟨"java/lang/String", "isLatin1", "()Z"⟩ : MethodName)) hown (mvT hZ (hw _ (List.mem_of_getElem? (i := 113) rfl))) (mvT hZ (hw _ (List.mem_of_getElem? (i := 114) rfl))) (notFace_of_selects (args := #[]) (mvT hZ (hw _ (List.mem_of_getElem? (i := 116) rfl)))) (mvT hZ (hw _ (List.mem_of_getElem? (i := 116) rfl))) (mvT hZ (hw _ (List.mem_of_getElem? (i := 115) rfl))) (by decide) (backOf (W := 0) (rm_lat l Z a0 hw [] x G1 h0 n0 O0 E_x Fc_x O2 P5) hZ (hw _ (List.mem_of_getElem? (i := 117) rfl)) (hw _ (List.mem_of_getElem? (i := 12) rfl)) (by decide) (by decide)) q109a q109c (g := (mkF m 1 #[.val (.ref x), .val (.int (Int32.ofNat i)), .unset] [(.ref x)])) rfl (by rw [hml]; rfl) (Steps.refl _) (argsL := []) (rest := []) (lenOf pd_12 rfl) rfl (by show 2 * 0 + _ ≤ _; exact Nat.le_of_eq rfl) (hb hby d_jdk_42_m57_1) (fun _ _ => ⟨rfl, e0, (by decide : 0 + 0 ≤ _), (by decide : 0 + 0 ≤ _)⟩)
    dsimp only [Pt.U, Pt.locs, Pt.cells, Pt.slots] at X109 l109 y109 z109 st109 hQ109
    subst l109 y109 z109
    refine own_gos st109 ?_
    obtain ⟨rfl, Nq109, e109⟩ := hQ109
    have N109 := Fr.app N0 Nq109
    show own_Go p e below (T109.setTop (mkF m 4 #[.val (.ref x), .val (.int (Int32.ofNat i)), .unset] [(.int (1 : Int32))])) _
    refine own_go (fun _ k => XS.ifNo X109.here hx rfl (hb hby d_jdk_42_m57_4) rfl ((if0 _ _).trans (feq (by decide : ¬ ((1 : Int32) = (0 : Int32)))).1) k) ?_
    show own_Go p e below (T109.setTop (mkF m 7 #[.val (.ref x), .val (.int (Int32.ofNat i)), .unset] [])) _
    refine own_go (fun _ k => XS.iloadN X109.here hx rfl (hb hby d_jdk_42_m57_7) rfl k) ?_
    show own_Go p e below (T109.setTop (mkF m 8 #[.val (.ref x), .val (.int (Int32.ofNat i)), .unset] [(.int (Int32.ofNat i))])) _
    refine own_go (fun _ k => XS.aloadN X109.here hx rfl (hb hby d_jdk_42_m57_8) rfl rfl k) ?_
    show own_Go p e below (T109.setTop (mkF m 9 #[.val (.ref x), .val (.int (Int32.ofNat i)), .unset] [(.ref x), (.int (Int32.ofNat i))])) _
    obtain ⟨T110, X110, e110, st110⟩ := getF X109 hx hZ hown (host := "") (Or.inl (hw _ (List.mem_of_getElem? (i := 29) rfl))) Via.refl e109 Fv_x (g := (mkF m 9 #[.val (.ref x), .val (.int (Int32.ofNat i)), .unset] [(.ref x), (.int (Int32.ofNat i))])) rfl rfl (hb hby d_jdk_42_m57_9)
    refine own_go st110 ?_
    show own_Go p e below (T110.setTop (mkF m 12 #[.val (.ref x), .val (.int (Int32.ofNat i)), .unset] [(.ref t), (.int (Int32.ofNat i))])) _
    obtain ⟨c111, A111, q111, S111, M111, Hs111, Gs111⟩ := id V_t
    refine own_go (fun _ k => X110.arraylength hx (by rw [e110]; exact A111.1) (State.isArrayOf_alike hZ.alike A111.2.1) (g := (mkF m 12 #[.val (.ref x), .val (.int (Int32.ofNat i)), .unset] [(.ref t), (.int (Int32.ofNat i))])) rfl rfl (hb hby d_jdk_42_m57_12) _ k) ?_
    rw [len_of S111 M111]
    show own_Go p e below (T110.setTop (mkF m 13 #[.val (.ref x), .val (.int (Int32.ofNat i)), .unset] [(.int (Int32.ofNat cs.length)), (.int (Int32.ofNat i))])) _
    obtain ⟨v112, _, ⟨T112, L112, k112, n112⟩, -, X112, ⟨Lc112, hQ112, l112, y112, z112⟩, st112⟩ := Jvm.LawKit.callS X110 hx (y := (⟨"java/lang/String", "checkIndex", "(II)V"⟩ : MethodName)) hown (mvT hZ (hw _ (List.mem_of_getElem? (i := 118) rfl))) (mvT hZ (hw _ (List.mem_of_getElem? (i := 119) rfl))) (mvT hZ (hw _ (List.mem_of_getElem? (i := 12) rfl))) (mvT hZ (hw _ (List.mem_of_getElem? (i := 120) rfl))) (by decide) (backOf (W := 0) (rm_sci l Z a0 hw [] (Int32.ofNat i) (Int32.ofNat cs.length) G3 h0 n0 O0 O4 rG3 (own_nn0 (by omega)) ((own_lti (by omega) (by omega)).mpr hi)) hZ (hw _ (List.mem_of_getElem? (i := 120) rfl)) (hw _ (List.mem_of_getElem? (i := 12) rfl)) (by decide) (by decide)) (g := (mkF m 13 #[.val (.ref x), .val (.int (Int32.ofNat i)), .unset] [(.int (Int32.ofNat cs.length)), (.int (Int32.ofNat i))])) rfl (by rw [hml]; rfl) (argsL := [(.int (Int32.ofNat i)), (.int (Int32.ofNat cs.length))]) (rest := []) (lenOf pd_13 rfl) rfl (by show 2 * 0 + _ ≤ _; exact Nat.le_of_eq rfl) (hb hby d_jdk_42_m57_13) (fun _ _ => ⟨rfl, e110, (by decide : 0 + 0 ≤ _), (by decide : 0 + 0 ≤ _)⟩)
    dsimp only [Pt.U, Pt.locs, Pt.cells, Pt.slots] at X112 l112 y112 z112 st112 hQ112
    subst l112 y112 z112
    refine own_go st112 ?_
    obtain ⟨rfl, Nq112, e112⟩ := hQ112
    have N112 := Fr.app N109 Nq112
    show own_Go p e below (T112.setTop (mkF m 16 #[.val (.ref x), .val (.int (Int32.ofNat i)), .unset] [])) _
    refine own_go (fun _ k => XS.aloadN X112.here hx rfl (hb hby d_jdk_42_m57_16) rfl rfl k) ?_
    show own_Go p e below (T112.setTop (mkF m 17 #[.val (.ref x), .val (.int (Int32.ofNat i)), .unset] [(.ref x)])) _
    obtain ⟨T113, X113, e113, st113⟩ := getF X112 hx hZ hown (host := "") (Or.inl (hw _ (List.mem_of_getElem? (i := 29) rfl))) Via.refl e112 Fv_x (g := (mkF m 17 #[.val (.ref x), .val (.int (Int32.ofNat i)), .unset] [(.ref x)])) rfl rfl (hb hby d_jdk_42_m57_17)
    refine own_go st113 ?_
    show own_Go p e below (T113.setTop (mkF m 20 #[.val (.ref x), .val (.int (Int32.ofNat i)), .unset] [(.ref t)])) _
    refine own_go (fun _ k => XS.iloadN X113.here hx rfl (hb hby d_jdk_42_m57_20) rfl k) ?_
    show own_Go p e below (T113.setTop (mkF m 21 #[.val (.ref x), .val (.int (Int32.ofNat i)), .unset] [(.int (Int32.ofNat i)), (.ref t)])) _
    obtain ⟨c114, A114, q114, S114, M114, Hs114, Gs114⟩ := id V_t
    have hi114 := inb_of (j := (Int32.ofNat i)) S114 (own_inb hi (by omega))
    refine own_go (fun _ k => X113.baloadBytes hx (j := (Int32.ofNat i)) (v := (.int (StrChars.lo8 (cs.getD i 0)))) (by rw [e113]; exact A114.1) (State.isArrayOf_alike hZ.alike A114.2.1) A114.2.2 hi114 (Has.at Hs114 hi114 (own_lgd hi hlen)) (g := (mkF m 21 #[.val (.ref x), .val (.int (Int32.ofNat i)), .unset] [(.int (Int32.ofNat i)), (.ref t)])) rfl rfl (hb hby d_jdk_42_m57_21) _ k) ?_
    show own_Go p e below (T113.setTop (mkF m 22 #[.val (.ref x), .val (.int (Int32.ofNat i)), .unset] [(.int (StrChars.lo8 (cs.getD i 0)))])) _
    refine own_go (fun _ k => XS.sipush X113.here hx rfl (hb hby d_jdk_42_m57_22) k) ?_
    show own_Go p e below (T113.setTop (mkF m 25 #[.val (.ref x), .val (.int (Int32.ofNat i)), .unset] [(.int (255 : Int32)), (.int (StrChars.lo8 (cs.getD i 0)))])) _
    refine own_go (fun _ k => XS.iand X113.here hx rfl (hb hby d_jdk_42_m57_25) rfl k) ?_
    show own_Go p e below (T113.setTop (mkF m 26 #[.val (.ref x), .val (.int (Int32.ofNat i)), .unset] [(.int ((StrChars.lo8 (cs.getD i 0)) &&& (255 : Int32)))])) _
    refine own_fin (v := (some (.int ((StrChars.lo8 (cs.getD i 0)) &&& (255 : Int32))))) X113 (fun h => by rw [hrt] at h; cases h) hlk (fun fs hr => retI X113 hx hrt (hb hby d_jdk_42_m57_26) hr) (QQ := QPure (some (.int (own_cpt cs i))) h0 n0) ?_ (by decide) (by decide)
    rw [e113]
    exact ⟨congrArg (fun z => some (Value.int z)) ((StrChars.lo8_mask (hok.at hi).1 (ha _ (own_getm hi))).trans (own_lat_cpt ha hi).symm), N112, rfl⟩
  · subst c1 c2 c3
    show own_Go p e below (s₁.setTop (mkF m 0 #[.val (.ref x), .val (.int (Int32.ofNat i)), .unset] [])) _
    refine own_go (fun _ k => XS.aloadN X0.here hx rfl (hb hby d_jdk_42_m57_0) rfl rfl k) ?_
    show own_Go p e below (s₁.setTop (mkF m 1 #[.val (.ref x), .val (.int (Int32.ofNat i)), .unset] [(.ref x)])) _
    obtain ⟨cq115, kq115, q115a, q115b, q115c⟩ := isOf hZ e0 E_x
    obtain ⟨v115, _, ⟨T115, L115, k115, n115⟩, -, X115, ⟨Lc115, hQ115, l115, y115, z115⟩, st115⟩ := X0.virtualBack hx (y := (⟨"java/lang/String", "isLatin1", "()Z"⟩ : MethodName)) (z := (⟨"java/lang/String", "isLatin1", "()Z"⟩ : MethodName)) hown (mvT hZ (hw _ (List.mem_of_getElem? (i := 113) rfl))) (mvT hZ (hw _ (List.mem_of_getElem? (i := 114) rfl))) (notFace_of_selects (args := #[]) (mvT hZ (hw _ (List.mem_of_getElem? (i := 116) rfl)))) (mvT hZ (hw _ (List.mem_of_getElem? (i := 116) rfl))) (mvT hZ (hw _ (List.mem_of_getElem? (i := 115) rfl))) (by decide) (backOf (W := 0) (rm_lat1 l Z a0 hw [] x G1 h0 n0 O0 E_x Fc_x O2 P5) hZ (hw _ (List.mem_of_getElem? (i := 117) rfl)) (hw _ (List.mem_of_getElem? (i := 12) rfl)) (by decide) (by decide)) q115a q115c (g := (mkF m 1 #[.val (.ref x), .val (.int (Int32.ofNat i)), .unset] [(.ref x)])) rfl (by rw [hml]; rfl) (Steps.refl _) (argsL := []) (rest := []) (lenOf pd_12 rfl) rfl (by show 2 * 0 + _ ≤ _; exact Nat.le_of_eq rfl) (hb hby d_jdk_42_m57_1) (fun _ _ => ⟨rfl, e0, (by decide : 0 + 0 ≤ _), (by decide : 0 + 0 ≤ _)⟩)
    dsimp only [Pt.U, Pt.locs, Pt.cells, Pt.slots] at X115 l115 y115 z115 st115 hQ115
    subst l115 y115 z115
    refine own_gos st115 ?_
    obtain ⟨rfl, Nq115, e115⟩ := hQ115
    have N115 := Fr.app N0 Nq115
    show own_Go p e below (T115.setTop (mkF m 4 #[.val (.ref x), .val (.int (Int32.ofNat i)), .unset] [(.int (0 : Int32))])) _
    refine own_go (fun _ k => XS.ifYes X115.here hx rfl (pc0 := 4) (pc' := 27) rfl (hb hby d_jdk_42_m57_4) rfl ((if0 _ _).trans (teq (by decide : (0 : Int32) = (0 : Int32))).1) (by decide) (by decide) k) ?_
    show own_Go p e below (T115.setTop (mkF m 27 #[.val (.ref x), .val (.int (Int32.ofNat i)), .unset] [])) _
    refine own_go (fun _ k => XS.aloadN X115.here hx rfl (hb hby d_jdk_42_m57_27) rfl rfl k) ?_
    show own_Go p e below (T115.setTop (mkF m 28 #[.val (.ref x), .val (.int (Int32.ofNat i)), .unset] [(.ref x)])) _
    obtain ⟨T116, X116, e116, st116⟩ := getF X115 hx hZ hown (host := "") (Or.inl (hw _ (List.mem_of_getElem? (i := 29) rfl))) Via.refl e115 Fv_x (g := (mkF m 28 #[.val (.ref x), .val (.int (Int32.ofNat i)), .unset] [(.ref x)])) rfl rfl (hb hby d_jdk_42_m57_28)
    refine own_go st116 ?_
    show own_Go p e below (T116.setTop (mkF m 31 #[.val (.ref x), .val (.int (Int32.ofNat i)), .unset] [(.ref t)])) _
    obtain ⟨c117, A117, q117, S117, M117, Hs117, Gs117⟩ := id V_t
    refine own_go (fun _ k => X116.arraylength hx (by rw [e116]; exact A117.1) (State.isArrayOf_alike hZ.alike A117.2.1) (g := (mkF m 31 #[.val (.ref x), .val (.int (Int32.ofNat i)), .unset] [(.ref t)])) rfl rfl (hb hby d_jdk_42_m57_31) _ k) ?_
    rw [len_of S117 M117]
    show own_Go p e below (T116.setTop (mkF m 32 #[.val (.ref x), .val (.int (Int32.ofNat i)), .unset] [(.int (Int32.ofNat (2 * cs.length)))])) _
    refine own_go (fun _ k => XS.iconst X116.here hx rfl (hb hby d_jdk_42_m57_32) k) ?_
    show own_Go p e below (T116.setTop (mkF m 33 #[.val (.ref x), .val (.int (Int32.ofNat i)), .unset] [(.int (1 : Int32)), (.int (Int32.ofNat (2 * cs.length)))])) _
    refine own_go (fun _ k => XS.ishr X116.here hx rfl (hb hby d_jdk_42_m57_33) rfl k) ?_
    show own_Go p e below (T116.setTop (mkF m 34 #[.val (.ref x), .val (.int (Int32.ofNat i)), .unset] [(.int ((Int32.ofNat (2 * cs.length)) >>> ((1 : Int32) &&& 31)))])) _
    rw [(StrChars.shr1 (by omega : 2 * cs.length < 2 ^ 31))]
    show own_Go p e below (T116.setTop (mkF m 34 #[.val (.ref x), .val (.int (Int32.ofNat i)), .unset] [(.int (Int32.ofNat cs.length))])) _
    refine own_go (fun _ k => XS.istoreN X116.here hx rfl (hb hby d_jdk_42_m57_34) rfl (l' := #[.val (.ref x), .val (.int (Int32.ofNat i)), .val (.int (Int32.ofNat cs.length))]) rfl k) ?_
    show own_Go p e below (T116.setTop (mkF m 35 #[.val (.ref x), .val (.int (Int32.ofNat i)), .val (.int (Int32.ofNat cs.length))] [])) _
    refine own_go (fun _ k => XS.iloadN X116.here hx rfl (hb hby d_jdk_42_m57_35) rfl k) ?_
    show own_Go p e below (T116.setTop (mkF m 36 #[.val (.ref x), .val (.int (Int32.ofNat i)), .val (.int (Int32.ofNat cs.length))] [(.int (Int32.ofNat i))])) _
    refine own_go (fun _ k => XS.iloadN X116.here hx rfl (hb hby d_jdk_42_m57_36) rfl k) ?_
    show own_Go p e below (T116.setTop (mkF m 37 #[.val (.ref x), .val (.int (Int32.ofNat i)), .val (.int (Int32.ofNat cs.length))] [(.int (Int32.ofNat cs.length)), (.int (Int32.ofNat i))])) _
    obtain ⟨v118, _, ⟨T118, L118, k118, n118⟩, -, X118, ⟨Lc118, hQ118, l118, y118, z118⟩, st118⟩ := Jvm.LawKit.callS X116 hx (y := (⟨"java/lang/String", "checkIndex", "(II)V"⟩ : MethodName)) hown (mvT hZ (hw _ (List.mem_of_getElem? (i := 118) rfl))) (mvT hZ (hw _ (List.mem_of_getElem? (i := 119) rfl))) (mvT hZ (hw _ (List.mem_of_getElem? (i := 12) rfl))) (mvT hZ (hw _ (List.mem_of_getElem? (i := 120) rfl))) (by decide) (backOf (W := 0) (rm_sci l Z a0 hw [] (Int32.ofNat i) (Int32.ofNat cs.length) G3 h0 n0 O0 O4 rG3 (own_nn0 (by omega)) ((own_lti (by omega) (by omega)).mpr hi)) hZ (hw _ (List.mem_of_getElem? (i := 120) rfl)) (hw _ (List.mem_of_getElem? (i := 12) rfl)) (by decide) (by decide)) (g := (mkF m 37 #[.val (.ref x), .val (.int (Int32.ofNat i)), .val (.int (Int32.ofNat cs.length))] [(.int (Int32.ofNat cs.length)), (.int (Int32.ofNat i))])) rfl (by rw [hml]; rfl) (argsL := [(.int (Int32.ofNat i)), (.int (Int32.ofNat cs.length))]) (rest := []) (lenOf pd_13 rfl) rfl (by show 2 * 0 + _ ≤ _; exact Nat.le_of_eq rfl) (hb hby d_jdk_42_m57_37) (fun _ _ => ⟨rfl, e116, (by decide : 0 + 0 ≤ _), (by decide : 0 + 0 ≤ _)⟩)
    dsimp only [Pt.U, Pt.locs, Pt.cells, Pt.slots] at X118 l118 y118 z118 st118 hQ118
    subst l118 y118 z118
    refine own_go st118 ?_
    obtain ⟨rfl, Nq118, e118⟩ := hQ118
    have N118 := Fr.app N115 Nq118
    show own_Go p e below (T118.setTop (mkF m 40 #[.val (.ref x), .val (.int (Int32.ofNat i)), .val (.int (Int32.ofNat cs.length))] [])) _
    refine own_go (fun _ k => XS.aloadN X118.here hx rfl (hb hby d_jdk_42_m57_40) rfl rfl k) ?_
    show own_Go p e below (T118.setTop (mkF m 41 #[.val (.ref x), .val (.int (Int32.ofNat i)), .val (.int (Int32.ofNat cs.length))] [(.ref x)])) _
    obtain ⟨T119, X119, e119, st119⟩ := getF X118 hx hZ hown (host := "") (Or.inl (hw _ (List.mem_of_getElem? (i := 29) rfl))) Via.refl e118 Fv_x (g := (mkF m 41 #[.val (.ref x), .val (.int (Int32.ofNat i)), .val (.int (Int32.ofNat cs.length))] [(.ref x)])) rfl rfl (hb hby d_jdk_42_m57_41)
    refine own_go st119 ?_
    show own_Go p e below (T119.setTop (mkF m 44 #[.val (.ref x), .val (.int (Int32.ofNat i)), .val (.int (Int32.ofNat cs.length))] [(.ref t)])) _
    refine own_go (fun _ k => XS.iloadN X119.here hx rfl (hb hby d_jdk_42_m57_44) rfl k) ?_
    show own_Go p e below (T119.setTop (mkF m 45 #[.val (.ref x), .val (.int (Int32.ofNat i)), .val (.int (Int32.ofNat cs.length))] [(.int (Int32.ofNat i)), (.ref t)])) _
    refine own_go (fun _ k => XS.iloadN X119.here hx rfl (hb hby d_jdk_42_m57_45) rfl k) ?_
    show own_Go p e below (T119.setTop (mkF m 46 #[.val (.ref x), .val (.int (Int32.ofNat i)), .val (.int (Int32.ofNat cs.length))] [(.int (Int32.ofNat cs.length)), (.int (Int32.ofNat i)), (.ref t)])) _
    obtain ⟨v120, _, ⟨T120, L120, k120, n120⟩, -, X120, ⟨Lc120, hQ120, l120, y120, z120⟩, st120⟩ := Jvm.LawKit.callS X119 hx (y := (⟨"java/lang/StringUTF16", "codePointAt", "([BII)I"⟩ : MethodName)) hown (mvT hZ (hw _ (List.mem_of_getElem? (i := 126) rfl))) (mvT hZ (hw _ (List.mem_of_getElem? (i := 127) rfl))) (mvT hZ (hw _ (List.mem_of_getElem? (i := 64) rfl))) (mvT hZ (hw _ (List.mem_of_getElem? (i := 128) rfl))) (by decide) (backOf (W := 0) (rm_wcp l Z a0 hw [] t k cs i h0 n0 O0 OA OH OL V_t hok hi) hZ (hw _ (List.mem_of_getElem? (i := 128) rfl)) (hw _ (List.mem_of_getElem? (i := 64) rfl)) (by decide) (by decide)) (g := (mkF m 46 #[.val (.ref x), .val (.int (Int32.ofNat i)), .val (.int (Int32.ofNat cs.length))] [(.int (Int32.ofNat cs.length)), (.int (Int32.ofNat i)), (.ref t)])) rfl (by rw [hml]; rfl) (argsL := [(.ref t), (.int (Int32.ofNat i)), (.int (Int32.ofNat cs.length))]) (rest := []) (lenOf pd_14 rfl) rfl (by show 2 * 0 + _ ≤ _; exact Nat.le_of_eq rfl) (hb hby d_jdk_42_m57_46) (fun _ _ => ⟨rfl, e119, (by decide : 0 + 0 ≤ _), (by decide : 0 + 0 ≤ _)⟩)
    dsimp only [Pt.U, Pt.locs, Pt.cells, Pt.slots] at X120 l120 y120 z120 st120 hQ120
    subst l120 y120 z120
    refine own_go st120 ?_
    obtain ⟨rfl, Nq120, e120⟩ := hQ120
    have N120 := Fr.app N118 Nq120
    show own_Go p e below (T120.setTop (mkF m 49 #[.val (.ref x), .val (.int (Int32.ofNat i)), .val (.int (Int32.ofNat cs.length))] [(.int (own_cpt cs i))])) _
    refine own_fin (v := (some (.int (own_cpt cs i)))) X120 (fun h => by rw [hrt] at h; cases h) hlk (fun fs hr => retI X120 hx hrt (hb hby d_jdk_42_m57_49) hr) (QQ := QPure (some (.int (own_cpt cs i))) h0 n0) ?_ (by decide) (by decide)
    rw [e120]
    exact ⟨rfl, N120, rfl⟩

theorem d_prog_12_m2_0 : decode prog_12_method_2_code 0 = .ok (.iconst 0, 1) := by decide +kernel
theorem d_prog_12_m2_1 : decode prog_12_method_2_code 1 = .ok (.istore_n 2, 1) := by decide +kernel
theorem d_prog_12_m2_2 : decode prog_12_method_2_code 2 = .ok (.iload_n 2, 1) := by decide +kernel
theorem d_prog_12_m2_3 : decode prog_12_method_2_code 3 = .ok (.aload_n 0, 1) := by decide +kernel
theorem d_prog_12_m2_4 : decode prog_12_method_2_code 4 = .ok (.invokevirtual 7, 3) := by decide +kernel
theorem pd_15 : parseMethodDescriptor "()I" = some ⟨[], some .int⟩ := by decide +kernel
theorem d_prog_12_m2_7 : decode prog_12_method_2_code 7 = .ok (.if_icmp .ge 47, 3) := by decide +kernel
theorem d_prog_12_m2_54 : decode prog_12_method_2_code 54 = .ok (.aload_n 0, 1) := by decide +kernel
theorem d_prog_12_m2_55 : decode prog_12_method_2_code 55 = .ok (.invokevirtual 7, 3) := by decide +kernel
theorem d_prog_12_m2_58 : decode prog_12_method_2_code 58 = .ok (.iload_n 2, 1) := by decide +kernel
theorem d_prog_12_m2_59 : decode prog_12_method_2_code 59 = .ok (.isub, 1) := by decide +kernel
theorem d_prog_12_m2_60 : decode prog_12_method_2_code 60 = .ok (.aload_n 1, 1) := by decide +kernel
theorem d_prog_12_m2_61 : decode prog_12_method_2_code 61 = .ok (.invokevirtual 7, 3) := by decide +kernel
theorem d_prog_12_m2_64 : decode prog_12_method_2_code 64 = .ok (.iload_n 2, 1) := by decide +kernel
theorem d_prog_12_m2_65 : decode prog_12_method_2_code 65 = .ok (.isub, 1) := by decide +kernel
theorem d_prog_12_m2_66 : decode prog_12_method_2_code 66 = .ok (.invokestatic 17, 3) := by decide +kernel
theorem pd_16 : parseMethodDescriptor "(II)I" = some ⟨[.int, .int], some .int⟩ := by decide +kernel
theorem d_prog_12_m2_69 : decode prog_12_method_2_code 69 = .ok (.ireturn, 1) := by decide +kernel
theorem d_prog_12_m2_10 : decode prog_12_method_2_code 10 = .ok (.iload_n 2, 1) := by decide +kernel
theorem d_prog_12_m2_11 : decode prog_12_method_2_code 11 = .ok (.aload_n 1, 1) := by decide +kernel
theorem d_prog_12_m2_12 : decode prog_12_method_2_code 12 = .ok (.invokevirtual 7, 3) := by decide +kernel
theorem d_prog_12_m2_15 : decode prog_12_method_2_code 15 = .ok (.if_icmp .ge 39, 3) := by decide +kernel
theorem d_prog_12_m2_18 : decode prog_12_method_2_code 18 = .ok (.aload_n 0, 1) := by decide +kernel
theorem d_prog_12_m2_19 : decode prog_12_method_2_code 19 = .ok (.iload_n 2, 1) := by decide +kernel
theorem d_prog_12_m2_20 : decode prog_12_method_2_code 20 = .ok (.invokevirtual 13, 3) := by decide +kernel
theorem d_prog_12_m2_23 : decode prog_12_method_2_code 23 = .ok (.istore_n 3, 1) := by decide +kernel
theorem d_prog_12_m2_24 : decode prog_12_method_2_code 24 = .ok (.aload_n 1, 1) := by decide +kernel
theorem d_prog_12_m2_25 : decode prog_12_method_2_code 25 = .ok (.iload_n 2, 1) := by decide +kernel
theorem d_prog_12_m2_26 : decode prog_12_method_2_code 26 = .ok (.invokevirtual 13, 3) := by decide +kernel
theorem d_prog_12_m2_29 : decode prog_12_method_2_code 29 = .ok (.istore 4, 2) := by decide +kernel
theorem d_prog_12_m2_31 : decode prog_12_method_2_code 31 = .ok (.iload_n 3, 1) := by decide +kernel
theorem d_prog_12_m2_32 : decode prog_12_method_2_code 32 = .ok (.iload 4, 2) := by decide +kernel
theorem d_prog_12_m2_34 : decode prog_12_method_2_code 34 = .ok (.if_icmp .eq 10, 3) := by decide +kernel
theorem d_prog_12_m2_44 : decode prog_12_method_2_code 44 = .ok (.iload_n 2, 1) := by decide +kernel
theorem d_prog_12_m2_45 : decode prog_12_method_2_code 45 = .ok (.iload_n 3, 1) := by decide +kernel
theorem d_prog_12_m2_46 : decode prog_12_method_2_code 46 = .ok (.invokestatic 23, 3) := by decide +kernel
theorem d_prog_12_m2_49 : decode prog_12_method_2_code 49 = .ok (.iadd, 1) := by decide +kernel
theorem d_prog_12_m2_50 : decode prog_12_method_2_code 50 = .ok (.istore_n 2, 1) := by decide +kernel
theorem d_prog_12_m2_51 : decode prog_12_method_2_code 51 = .ok (.goto (-49), 3) := by decide +kernel
theorem d_prog_12_m2_37 : decode prog_12_method_2_code 37 = .ok (.iload_n 3, 1) := by decide +kernel
theorem d_prog_12_m2_38 : decode prog_12_method_2_code 38 = .ok (.iload 4, 2) := by decide +kernel
theorem d_prog_12_m2_40 : decode prog_12_method_2_code 40 = .ok (.invokestatic 17, 3) := by decide +kernel
theorem d_prog_12_m2_43 : decode prog_12_method_2_code 43 = .ok (.ireturn, 1) := by decide +kernel
theorem pn_6 : plainName "com/example/rolelattice/rolelattice/decision/CodePoints" = true := by first | (simp [plainName, overriddenIn]; done) | decide +kernel
theorem ef_rm_cmp (m : MethodId) (x0 : Addr) (x1 : Addr) : entryFrame m #[(.ref x0), (.ref x1)] 5 = mkF m 0 #[.val (.ref x0), .val (.ref x1), .unset, .unset, .unset] [] := by
   first | (simp [entryFrame, mkF, argsToLocals, Value.category]; done) | rfl
set_option maxRecDepth 65536 in
set_option maxHeartbeats 40000000 in
theorem rm_cmp (l : Launch) (Z : State) (a0 : Array Value) (hw : ∀ d ∈ tables_1, d.before a0 Z = true) (ws : List Jvm.Cond) (x : Addr) (t : Addr) (k : ClassId) (cs : List Int32) (cd : Int32) (N2 : Int32) (vs : List Value) (y : Addr) (u : Addr) (ky : ClassId) (ds : List Int32) (cy : Int32) (Ny : Int32) (us : List Value) (G1 : Int32) (G3 : Value) (h0 : Heap) (n0 : Nat) (O0 : Old Z n0 h0) (O2 : Sta Z Z.heap "java/lang/String" "COMPACT_STRINGS" "Z" (.int G1)) (P5 : ¬ (G1 = (0 : Int32))) (O4 : Sta Z Z.heap "jdk/internal/util/Preconditions" "SIOOBE_FORMATTER" "Ljava/util/function/BiFunction;" G3) (rG3 : G3.isRef = true) (OA : Sta Z Z.heap "java/lang/StringUTF16" "$assertionsDisabled" "Z" (.int (1 : Int32))) (OH : Sta Z Z.heap "java/lang/StringUTF16" "HI_BYTE_SHIFT" "I" (.int (0 : Int32))) (OL : Sta Z Z.heap "java/lang/StringUTF16" "LO_BYTE_SHIFT" "I" (.int (8 : Int32))) (E_x : Exa Z h0 x "java/lang/String") (Fv_x : Fld Z h0 x "java/lang/String" "value" "[B" (.ref t)) (Fc_x : Fld Z h0 x "java/lang/String" "coder" "B" (.int cd)) (V_t : Arv Z h0 t k .byte N2 vs (.int (0 : Int32))) (hC_x : StrChars.Road.CodA cs cd N2 vs) (hok : own_Ok cs) (E_y : Exa Z h0 y "java/lang/String") (Fv_y : Fld Z h0 y "java/lang/String" "value" "[B" (.ref u)) (Fc_y : Fld Z h0 y "java/lang/String" "coder" "B" (.int cy)) (V_u : Arv Z h0 u ky .byte Ny us (.int (0 : Int32))) (hC_y : StrChars.Road.CodA ds cy Ny us) (hok2 : own_Ok ds) :
    MetFree l (⟨"com/example/rolelattice/rolelattice/decision/CodePoints", "compare", "(Ljava/lang/String;Ljava/lang/String;)I"⟩ : MethodName) (head1 (Jvm.Cond.code (⟨"com/example/rolelattice/rolelattice/decision/CodePoints", "compare", "(Ljava/lang/String;Ljava/lang/String;)I"⟩ : MethodName) prog_12_method_2_code 5 (some .int) :: ws) ({ frames := 4, cells := 0, slots := 0, locals := 58 } : Room)) (fun aA U => aA = #[(.ref x), (.ref y)] ∧ Z.Warmed39 U.vm ∧ U.heap = h0) (fun _ _ _ _ _ => True) (fun _ U oO U' => ∃ rV rL, oO = .returned rV ∧ QCp cs ds h0 n0 rV U'.heap rL ∧ FrameEnd U oO U' rL 0 0) := by
  refine MetFree.of_bodySF (plainFor_of_name pn_6) hisR ?_
  intro p e s m args below meth cC s₁ Bd hml0 hP hK
  obtain ⟨rfl, hZ, hh⟩ := hP
  have hx := Bd.exec
  have hby := Bd.bytes
  have hml : cC.maxLocals = 5 := hml0
  have hown : s.vm.findClass "com/example/rolelattice/rolelattice/decision/CodePoints" = some m.cls := findClass_of_methodNamed Bd.named
  have hnm := (name_of_methodNamed Bd.named Bd.method).1
  have hrt := Bd.returns
  have hlk : meth.locks = false := Bd.notSynchronized
  have X0 : Stand p l e ({ frames := 4, cells := 0, slots := 0, locals := 58 } : Room) s m #[(.ref x), (.ref y)] below meth cC s₁ [] 0 0 := Stand.of_body Bd
  have e0 : s₁.heap = h0 := by rw [← hh, Bd.state]; rfl
  have N0 := Fr.nil n0
  have Z0 : n0 ≤ h0.size := O0.1 ▸ O0.2.1
  show own_Go p e below (s₁.setTop (entryFrame m #[(.ref x), (.ref y)] 5)) (fun oO U' => ∃ rV rL, oO = .returned rV ∧ QCp cs ds h0 n0 rV U'.heap rL ∧ FrameEnd s oO U' rL 0 0)
  refine own_go (fun _ k => castTop (ef_rm_cmp m x y) k) ?_
  have hlen : cs.length ≤ 4000 := hok.2
  have hlen2 : ds.length ≤ 4000 := hok2.2
  show own_Go p e below (s₁.setTop (mkF m 0 #[.val (.ref x), .val (.ref y), .unset, .unset, .unset] [])) _
  refine own_go (fun _ k => XS.iconst X0.here hx rfl (hb hby d_prog_12_m2_0) k) ?_
  show own_Go p e below (s₁.setTop (mkF m 1 #[.val (.ref x), .val (.ref y), .unset, .unset, .unset] [(.int (0 : Int32))])) _
  refine own_go (fun _ k => XS.istoreN X0.here hx rfl (hb hby d_prog_12_m2_1) rfl (l' := #[.val (.ref x), .val (.ref y), .val (.int (0 : Int32)), .unset, .unset]) rfl k) ?_
  show own_Go p e below (s₁.setTop (mkF m 2 #[.val (.ref x), .val (.ref y), .val (.int (0 : Int32)), .unset, .unset] [])) _
  have loop : ∀ (kT iloop : Nat) (s3 : Slot) (s4 : Slot) (T : State) (locs : List Loc) (h : Heap), cs.length ≤ iloop + kT → Stand p l e ({ frames := 4, cells := 0, slots := 0, locals := 58 } : Room) s m #[(.ref x), (.ref y)] below meth cC T locs 0 0 → T.heap = h → Fr n0 locs → Old Z n0 h → Keep h0 h [] → Exa Z h x "java/lang/String" → Fld Z h x "java/lang/String" "value" "[B" (.ref t) → Fld Z h x "java/lang/String" "coder" "B" (.int cd) → Arv Z h t k .byte N2 vs (.int (0 : Int32)) → Exa Z h y "java/lang/String" → Fld Z h y "java/lang/String" "value" "[B" (.ref u) → Fld Z h y "java/lang/String" "coder" "B" (.int cy) → Arv Z h u ky .byte Ny us (.int (0 : Int32)) → (h = h0) → (own_lex (own_T cs 0) (own_T ds 0) = own_lex (own_T cs iloop) (own_T ds iloop)) → (iloop ≤ cs.length) → (iloop ≤ ds.length) → ((s3 = .unset ∨ ∃ w, s3 = .val w ∧ w.category = 1)) → ((s4 = .unset ∨ ∃ w, s4 = .val w ∧ w.category = 1)) → own_Go p e below (T.setTop (mkF m 2 #[.val (.ref x), .val (.ref y), .val (.int (Int32.ofNat iloop)), s3, s4] [])) (fun oO U' => ∃ rV rL, oO = .returned rV ∧ QCp cs ds h0 n0 rV U'.heap rL ∧ FrameEnd s oO U' rL 0 0) := by
    intro kT
    induction kT with
    | zero =>
      intro iloop s3 s4 T121 L121 h121 hik X121 e121 N121 O121 K121 J0_121 J1_121 J2_121 J3_121 J4_121 J5_121 J6_121 J7_121 hhe hinv hile hjle hs3 hs4
      have Z0_121 : n0 ≤ h121.size := O121.1 ▸ O121.2.1
      have hlt : ¬ ((Int32.ofNat iloop) < (Int32.ofNat cs.length)) := by rw [own_lti (by omega) (by omega)]; omega
      show own_Go p e below (T121.setTop (mkF m 2 #[.val (.ref x), .val (.ref y), .val (.int (Int32.ofNat iloop)), s3, s4] [])) _
      refine own_go (fun _ k => XS.iloadN X121.here hx rfl (hb hby d_prog_12_m2_2) rfl k) ?_
      show own_Go p e below (T121.setTop (mkF m 3 #[.val (.ref x), .val (.ref y), .val (.int (Int32.ofNat iloop)), s3, s4] [(.int (Int32.ofNat iloop))])) _
      refine own_go (fun _ k => XS.aloadN X121.here hx rfl (hb hby d_prog_12_m2_3) rfl rfl k) ?_
      show own_Go p e below (T121.setTop (mkF m 4 #[.val (.ref x), .val (.ref y), .val (.int (Int32.ofNat iloop)), s3, s4] [(.ref x), (.int (Int32.ofNat iloop))])) _
      obtain ⟨cq122, kq122, q122a, q122b, q122c⟩ := isOf hZ e121 J0_121
      obtain ⟨v122, _, ⟨T122, L122, k122, n122⟩, -, X122, ⟨Lc122, hQ122, l122, y122, z122⟩, st122⟩ := X121.virtualBack hx (y := (⟨"java/lang/String", "length", "()I"⟩ : MethodName)) (z := (⟨"java/lang/String", "length", "()I"⟩ : MethodName)) hown (mvT hZ (hw _ (List.mem_of_getElem? (i := 35) rfl))) (mvT hZ (hw _ (List.mem_of_getElem? (i := 36) rfl))) (notFace_of_selects (args := #[]) (mvT hZ (hw _ (List.mem_of_getElem? (i := 38) rfl)))) (mvT hZ (hw _ (List.mem_of_getElem? (i := 38) rfl))) (mvT hZ (hw _ (List.mem_of_getElem? (i := 37) rfl))) (by decide) (StrChars.Road.lenW (W := 1) hZ (own_wLen hw) (kI := 4) (hw _ (List.mem_of_getElem? (i := 11) rfl)) J0_121 J1_121 J2_121 J3_121 hC_x (hok.1) (O2.ext O121.2) P5 hok.2 (by decide) (by decide)) q122a q122c (g := (mkF m 4 #[.val (.ref x), .val (.ref y), .val (.int (Int32.ofNat iloop)), s3, s4] [(.ref x), (.int (Int32.ofNat iloop))])) rfl (by rw [hml]; rfl) (Steps.refl _) (argsL := []) (rest := [(.int (Int32.ofNat iloop))]) (lenOf pd_15 rfl) rfl (by show 2 * 0 + _ ≤ _; exact Nat.le_of_eq rfl) (hb hby d_prog_12_m2_4) (fun _ _ => ⟨rfl, e121, (by decide : 0 + 0 ≤ _), (by decide : 0 + 0 ≤ _)⟩)
      dsimp only [Pt.U, Pt.locs, Pt.cells, Pt.slots] at X122 l122 y122 z122 st122 hQ122
      subst l122 y122 z122
      refine own_gos st122 ?_
      obtain ⟨rfl, rfl, e122⟩ := hQ122
      have Nq122 : Fr n0 ([] : List Loc) := Fr.nil n0
      have N122 := Fr.app N121 Nq122
      show own_Go p e below (T122.setTop (mkF m 7 #[.val (.ref x), .val (.ref y), .val (.int (Int32.ofNat iloop)), s3, s4] [(.int (Int32.ofNat cs.length)), (.int (Int32.ofNat iloop))])) _
      refine own_go (fun _ k => XS.icmpYes X122.here hx rfl (pc0 := 7) (pc' := 54) rfl (hb hby d_prog_12_m2_7) rfl (flt hlt).2.1 (by decide) (by decide) k) ?_
      show own_Go p e below (T122.setTop (mkF m 54 #[.val (.ref x), .val (.ref y), .val (.int (Int32.ofNat iloop)), s3, s4] [])) _
      refine own_go (fun _ k => XS.aloadN X122.here hx rfl (hb hby d_prog_12_m2_54) rfl rfl k) ?_
      show own_Go p e below (T122.setTop (mkF m 55 #[.val (.ref x), .val (.ref y), .val (.int (Int32.ofNat iloop)), s3, s4] [(.ref x)])) _
      obtain ⟨cq123, kq123, q123a, q123b, q123c⟩ := isOf hZ e122 J0_121
      obtain ⟨v123, _, ⟨T123, L123, k123, n123⟩, -, X123, ⟨Lc123, hQ123, l123, y123, z123⟩, st123⟩ := X122.virtualBack hx (y := (⟨"java/lang/String", "length", "()I"⟩ : MethodName)) (z := (⟨"java/lang/String", "length", "()I"⟩ : MethodName)) hown (mvT hZ (hw _ (List.mem_of_getElem? (i := 35) rfl))) (mvT hZ (hw _ (List.mem_of_getElem? (i := 36) rfl))) (notFace_of_selects (args := #[]) (mvT hZ (hw _ (List.mem_of_getElem? (i := 38) rfl)))) (mvT hZ (hw _ (List.mem_of_getElem? (i := 38) rfl))) (mvT hZ (hw _ (List.mem_of_getElem? (i := 37) rfl))) (by decide) (StrChars.Road.lenW (W := 0) hZ (own_wLen hw) (kI := 4) (hw _ (List.mem_of_getElem? (i := 11) rfl)) J0_121 J1_121 J2_121 J3_121 hC_x (hok.1) (O2.ext O121.2) P5 hok.2 (by decide) (by decide)) q123a q123c (g := (mkF m 55 #[.val (.ref x), .val (.ref y), .val (.int (Int32.ofNat iloop)), s3, s4] [(.ref x)])) rfl (by rw [hml]; rfl) (Steps.refl _) (argsL := []) (rest := []) (lenOf pd_15 rfl) rfl (by show 2 * 0 + _ ≤ _; exact Nat.le_of_eq rfl) (hb hby d_prog_12_m2_55) (fun _ _ => ⟨rfl, e122, (by decide : 0 + 0 ≤ _), (by decide : 0 + 0 ≤ _)⟩)
      dsimp only [Pt.U, Pt.locs, Pt.cells, Pt.slots] at X123 l123 y123 z123 st123 hQ123
      subst l123 y123 z123
      refine own_gos st123 ?_
      obtain ⟨rfl, rfl, e123⟩ := hQ123
      have Nq123 : Fr n0 ([] : List Loc) := Fr.nil n0
      have N123 := Fr.app N122 Nq123
      show own_Go p e below (T123.setTop (mkF m 58 #[.val (.ref x), .val (.ref y), .val (.int (Int32.ofNat iloop)), s3, s4] [(.int (Int32.ofNat cs.length))])) _
      refine own_go (fun _ k => XS.iloadN X123.here hx rfl (hb hby d_prog_12_m2_58) rfl k) ?_
      show own_Go p e below (T123.setTop (mkF m 59 #[.val (.ref x), .val (.ref y), .val (.int (Int32.ofNat iloop)), s3, s4] [(.int (Int32.ofNat iloop)), (.int (Int32.ofNat cs.length))])) _
      refine own_go (fun _ k => XS.isub X123.here hx rfl (hb hby d_prog_12_m2_59) rfl k) ?_
      show own_Go p e below (T123.setTop (mkF m 60 #[.val (.ref x), .val (.ref y), .val (.int (Int32.ofNat iloop)), s3, s4] [(.int ((Int32.ofNat cs.length) - (Int32.ofNat iloop)))])) _
      refine own_go (fun _ k => XS.aloadN X123.here hx rfl (hb hby d_prog_12_m2_60) rfl rfl k) ?_
      show own_Go p e below (T123.setTop (mkF m 61 #[.val (.ref x), .val (.ref y), .val (.int (Int32.ofNat iloop)), s3, s4] [(.ref y), (.int ((Int32.ofNat cs.length) - (Int32.ofNat iloop)))])) _
      obtain ⟨cq124, kq124, q124a, q124b, q124c⟩ := isOf hZ e123 J4_121
      obtain ⟨v124, _, ⟨T124, L124, k124, n124⟩, -, X124, ⟨Lc124, hQ124, l124, y124, z124⟩, st124⟩ := X123.virtualBack hx (y := (⟨"java/lang/String", "length", "()I"⟩ : MethodName)) (z := (⟨"java/lang/String", "length", "()I"⟩ : MethodName)) hown (mvT hZ (hw _ (List.mem_of_getElem? (i := 35) rfl))) (mvT hZ (hw _ (List.mem_of_getElem? (i := 36) rfl))) (notFace_of_selects (args := #[]) (mvT hZ (hw _ (List.mem_of_getElem? (i := 38) rfl)))) (mvT hZ (hw _ (List.mem_of_getElem? (i := 38) rfl))) (mvT hZ (hw _ (List.mem_of_getElem? (i := 37) rfl))) (by decide) (StrChars.Road.lenW (W := 1) hZ (own_wLen hw) (kI := 4) (hw _ (List.mem_of_getElem? (i := 11) rfl)) J4_121 J5_121 J6_121 J7_121 hC_y (hok2.1) (O2.ext O121.2) P5 hok2.2 (by decide) (by decide)) q124a q124c (g := (mkF m 61 #[.val (.ref x), .val (.ref y), .val (.int (Int32.ofNat iloop)), s3, s4] [(.ref y), (.int ((Int32.ofNat cs.length) - (Int32.ofNat iloop)))])) rfl (by rw [hml]; rfl) (Steps.refl _) (argsL := []) (rest := [(.int ((Int32.ofNat cs.length) - (Int32.ofNat iloop)))]) (lenOf pd_15 rfl) rfl (by show 2 * 0 + _ ≤ _; exact Nat.le_of_eq rfl) (hb hby d_prog_12_m2_61) (fun _ _ => ⟨rfl, e123, (by decide : 0 + 0 ≤ _), (by decide : 0 + 0 ≤ _)⟩)
      dsimp only [Pt.U, Pt.locs, Pt.cells, Pt.slots] at X124 l124 y124 z124 st124 hQ124
      subst l124 y124 z124
      refine own_gos st124 ?_
      obtain ⟨rfl, rfl, e124⟩ := hQ124
      have Nq124 : Fr n0 ([] : List Loc) := Fr.nil n0
      have N124 := Fr.app N123 Nq124
      show own_Go p e below (T124.setTop (mkF m 64 #[.val (.ref x), .val (.ref y), .val (.int (Int32.ofNat iloop)), s3, s4] [(.int (Int32.ofNat ds.length)), (.int ((Int32.ofNat cs.length) - (Int32.ofNat iloop)))])) _
      refine own_go (fun _ k => XS.iloadN X124.here hx rfl (hb hby d_prog_12_m2_64) rfl k) ?_
      show own_Go p e below (T124.setTop (mkF m 65 #[.val (.ref x), .val (.ref y), .val (.int (Int32.ofNat iloop)), s3, s4] [(.int (Int32.ofNat iloop)), (.int (Int32.ofNat ds.length)), (.int ((Int32.ofNat cs.length) - (Int32.ofNat iloop)))])) _
      refine own_go (fun _ k => XS.isub X124.here hx rfl (hb hby d_prog_12_m2_65) rfl k) ?_
      show own_Go p e below (T124.setTop (mkF m 66 #[.val (.ref x), .val (.ref y), .val (.int (Int32.ofNat iloop)), s3, s4] [(.int ((Int32.ofNat ds.length) - (Int32.ofNat iloop))), (.int ((Int32.ofNat cs.length) - (Int32.ofNat iloop)))])) _
      obtain ⟨v125, _, ⟨T125, L125, k125, n125⟩, -, X125, ⟨Lc125, hQ125, l125, y125, z125⟩, st125⟩ := Jvm.LawKit.callS X124 hx (y := (⟨"java/lang/Integer", "compare", "(II)I"⟩ : MethodName)) hown (mvT hZ (hw _ (List.mem_of_getElem? (i := 46) rfl))) (mvT hZ (hw _ (List.mem_of_getElem? (i := 47) rfl))) (mvT hZ (hw _ (List.mem_of_getElem? (i := 48) rfl))) (mvT hZ (hw _ (List.mem_of_getElem? (i := 49) rfl))) (by decide) (backOf (W := 0) (rm_ic l Z a0 hw [] ((Int32.ofNat cs.length) - (Int32.ofNat iloop)) ((Int32.ofNat ds.length) - (Int32.ofNat iloop)) h121 n0 O121 ) hZ (hw _ (List.mem_of_getElem? (i := 49) rfl)) (hw _ (List.mem_of_getElem? (i := 48) rfl)) (by decide) (by decide)) (g := (mkF m 66 #[.val (.ref x), .val (.ref y), .val (.int (Int32.ofNat iloop)), s3, s4] [(.int ((Int32.ofNat ds.length) - (Int32.ofNat iloop))), (.int ((Int32.ofNat cs.length) - (Int32.ofNat iloop)))])) rfl (by rw [hml]; rfl) (argsL := [(.int ((Int32.ofNat cs.length) - (Int32.ofNat iloop))), (.int ((Int32.ofNat ds.length) - (Int32.ofNat iloop)))]) (rest := []) (lenOf pd_16 rfl) rfl (by show 2 * 0 + _ ≤ _; exact Nat.le_of_eq rfl) (hb hby d_prog_12_m2_66) (fun _ _ => ⟨rfl, e124, (by decide : 0 + 0 ≤ _), (by decide : 0 + 0 ≤ _)⟩)
      dsimp only [Pt.U, Pt.locs, Pt.cells, Pt.slots] at X125 l125 y125 z125 st125 hQ125
      subst l125 y125 z125
      refine own_go st125 ?_
      obtain ⟨rfl, Nq125, e125⟩ := hQ125
      have N125 := Fr.app N124 Nq125
      show own_Go p e below (T125.setTop (mkF m 69 #[.val (.ref x), .val (.ref y), .val (.int (Int32.ofNat iloop)), s3, s4] [(.int (own_ic ((Int32.ofNat cs.length) - (Int32.ofNat iloop)) ((Int32.ofNat ds.length) - (Int32.ofNat iloop))))])) _
      refine own_fin (v := (some (.int (own_ic ((Int32.ofNat cs.length) - (Int32.ofNat iloop)) ((Int32.ofNat ds.length) - (Int32.ofNat iloop)))))) X125 (fun h => by rw [hrt] at h; cases h) hlk (fun fs hr => retI X125 hx hrt (hb hby d_prog_12_m2_69) hr) (QQ := QCp cs ds h0 n0) ?_ (by decide) (by decide)
      rw [e125]
      exact ⟨_, rfl, N125, hhe, (own_exitL hlen hlen2 hile hjle (Or.inl (fun q => hlt ((own_lti (by omega) (by omega)).mpr q)))).trans hinv.symm⟩
    | succ kT ih =>
      intro iloop s3 s4 T126 L126 h126 hik X126 e126 N126 O126 K126 J0_126 J1_126 J2_126 J3_126 J4_126 J5_126 J6_126 J7_126 hhe hinv hile hjle hs3 hs4
      have Z0_126 : n0 ≤ h126.size := O126.1 ▸ O126.2.1
      show own_Go p e below (T126.setTop (mkF m 2 #[.val (.ref x), .val (.ref y), .val (.int (Int32.ofNat iloop)), s3, s4] [])) _
      refine own_go (fun _ k => XS.iloadN X126.here hx rfl (hb hby d_prog_12_m2_2) rfl k) ?_
      show own_Go p e below (T126.setTop (mkF m 3 #[.val (.ref x), .val (.ref y), .val (.int (Int32.ofNat iloop)), s3, s4] [(.int (Int32.ofNat iloop))])) _
      refine own_go (fun _ k => XS.aloadN X126.here hx rfl (hb hby d_prog_12_m2_3) rfl rfl k) ?_
      show own_Go p e below (T126.setTop (mkF m 4 #[.val (.ref x), .val (.ref y), .val (.int (Int32.ofNat iloop)), s3, s4] [(.ref x), (.int (Int32.ofNat iloop))])) _
      obtain ⟨cq127, kq127, q127a, q127b, q127c⟩ := isOf hZ e126 J0_126
      obtain ⟨v127, _, ⟨T127, L127, k127, n127⟩, -, X127, ⟨Lc127, hQ127, l127, y127, z127⟩, st127⟩ := X126.virtualBack hx (y := (⟨"java/lang/String", "length", "()I"⟩ : MethodName)) (z := (⟨"java/lang/String", "length", "()I"⟩ : MethodName)) hown (mvT hZ (hw _ (List.mem_of_getElem? (i := 35) rfl))) (mvT hZ (hw _ (List.mem_of_getElem? (i := 36) rfl))) (notFace_of_selects (args := #[]) (mvT hZ (hw _ (List.mem_of_getElem? (i := 38) rfl)))) (mvT hZ (hw _ (List.mem_of_getElem? (i := 38) rfl))) (mvT hZ (hw _ (List.mem_of_getElem? (i := 37) rfl))) (by decide) (StrChars.Road.lenW (W := 1) hZ (own_wLen hw) (kI := 4) (hw _ (List.mem_of_getElem? (i := 11) rfl)) J0_126 J1_126 J2_126 J3_126 hC_x (hok.1) (O2.ext O126.2) P5 hok.2 (by decide) (by decide)) q127a q127c (g := (mkF m 4 #[.val (.ref x), .val (.ref y), .val (.int (Int32.ofNat iloop)), s3, s4] [(.ref x), (.int (Int32.ofNat iloop))])) rfl (by rw [hml]; rfl) (Steps.refl _) (argsL := []) (rest := [(.int (Int32.ofNat iloop))]) (lenOf pd_15 rfl) rfl (by show 2 * 0 + _ ≤ _; exact Nat.le_of_eq rfl) (hb hby d_prog_12_m2_4) (fun _ _ => ⟨rfl, e126, (by decide : 0 + 0 ≤ _), (by decide : 0 + 0 ≤ _)⟩)
      dsimp only [Pt.U, Pt.locs, Pt.cells, Pt.slots] at X127 l127 y127 z127 st127 hQ127
      subst l127 y127 z127
      refine own_gos st127 ?_
      obtain ⟨rfl, rfl, e127⟩ := hQ127
      have Nq127 : Fr n0 ([] : List Loc) := Fr.nil n0
      have N127 := Fr.app N126 Nq127
      show own_Go p e below (T127.setTop (mkF m 7 #[.val (.ref x), .val (.ref y), .val (.int (Int32.ofNat iloop)), s3, s4] [(.int (Int32.ofNat cs.length)), (.int (Int32.ofNat iloop))])) _
      by_cases hc128 : (Int32.ofNat iloop) < (Int32.ofNat cs.length)
      · skip
        refine own_go (fun _ k => XS.icmpNo X127.here hx rfl (hb hby d_prog_12_m2_7) rfl (tlt hc128).2.1 k) ?_
        show own_Go p e below (T127.setTop (mkF m 10 #[.val (.ref x), .val (.ref y), .val (.int (Int32.ofNat iloop)), s3, s4] [])) _
        refine own_go (fun _ k => XS.iloadN X127.here hx rfl (hb hby d_prog_12_m2_10) rfl k) ?_
        show own_Go p e below (T127.setTop (mkF m 11 #[.val (.ref x), .val (.ref y), .val (.int (Int32.ofNat iloop)), s3, s4] [(.int (Int32.ofNat iloop))])) _
        refine own_go (fun _ k => XS.aloadN X127.here hx rfl (hb hby d_prog_12_m2_11) rfl rfl k) ?_
        show own_Go p e below (T127.setTop (mkF m 12 #[.val (.ref x), .val (.ref y), .val (.int (Int32.ofNat iloop)), s3, s4] [(.ref y), (.int (Int32.ofNat iloop))])) _
        obtain ⟨cq129, kq129, q129a, q129b, q129c⟩ := isOf hZ e127 J4_126
        obtain ⟨v129, _, ⟨T129, L129, k129, n129⟩, -, X129, ⟨Lc129, hQ129, l129, y129, z129⟩, st129⟩ := X127.virtualBack hx (y := (⟨"java/lang/String", "length", "()I"⟩ : MethodName)) (z := (⟨"java/lang/String", "length", "()I"⟩ : MethodName)) hown (mvT hZ (hw _ (List.mem_of_getElem? (i := 35) rfl))) (mvT hZ (hw _ (List.mem_of_getElem? (i := 36) rfl))) (notFace_of_selects (args := #[]) (mvT hZ (hw _ (List.mem_of_getElem? (i := 38) rfl)))) (mvT hZ (hw _ (List.mem_of_getElem? (i := 38) rfl))) (mvT hZ (hw _ (List.mem_of_getElem? (i := 37) rfl))) (by decide) (StrChars.Road.lenW (W := 1) hZ (own_wLen hw) (kI := 4) (hw _ (List.mem_of_getElem? (i := 11) rfl)) J4_126 J5_126 J6_126 J7_126 hC_y (hok2.1) (O2.ext O126.2) P5 hok2.2 (by decide) (by decide)) q129a q129c (g := (mkF m 12 #[.val (.ref x), .val (.ref y), .val (.int (Int32.ofNat iloop)), s3, s4] [(.ref y), (.int (Int32.ofNat iloop))])) rfl (by rw [hml]; rfl) (Steps.refl _) (argsL := []) (rest := [(.int (Int32.ofNat iloop))]) (lenOf pd_15 rfl) rfl (by show 2 * 0 + _ ≤ _; exact Nat.le_of_eq rfl) (hb hby d_prog_12_m2_12) (fun _ _ => ⟨rfl, e127, (by decide : 0 + 0 ≤ _), (by decide : 0 + 0 ≤ _)⟩)
        dsimp only [Pt.U, Pt.locs, Pt.cells, Pt.slots] at X129 l129 y129 z129 st129 hQ129
        subst l129 y129 z129
        refine own_gos st129 ?_
        obtain ⟨rfl, rfl, e129⟩ := hQ129
        have Nq129 : Fr n0 ([] : List Loc) := Fr.nil n0
        have N129 := Fr.app N127 Nq129
        show own_Go p e below (T129.setTop (mkF m 15 #[.val (.ref x), .val (.ref y), .val (.int (Int32.ofNat iloop)), s3, s4] [(.int (Int32.ofNat ds.length)), (.int (Int32.ofNat iloop))])) _
        by_cases hc130 : (Int32.ofNat iloop) < (Int32.ofNat ds.length)
        · skip
          refine own_go (fun _ k => XS.icmpNo X129.here hx rfl (hb hby d_prog_12_m2_15) rfl (tlt hc130).2.1 k) ?_
          show own_Go p e below (T129.setTop (mkF m 18 #[.val (.ref x), .val (.ref y), .val (.int (Int32.ofNat iloop)), s3, s4] [])) _
          have hi : iloop < cs.length := (own_lti (by omega) (by omega)).mp hc128
          have hj : iloop < ds.length := (own_lti (by omega) (by omega)).mp hc130
          refine own_go (fun _ k => XS.aloadN X129.here hx rfl (hb hby d_prog_12_m2_18) rfl rfl k) ?_
          show own_Go p e below (T129.setTop (mkF m 19 #[.val (.ref x), .val (.ref y), .val (.int (Int32.ofNat iloop)), s3, s4] [(.ref x)])) _
          refine own_go (fun _ k => XS.iloadN X129.here hx rfl (hb hby d_prog_12_m2_19) rfl k) ?_
          show own_Go p e below (T129.setTop (mkF m 20 #[.val (.ref x), .val (.ref y), .val (.int (Int32.ofNat iloop)), s3, s4] [(.int (Int32.ofNat iloop)), (.ref x)])) _
          obtain ⟨cq131, kq131, q131a, q131b, q131c⟩ := isOf hZ e129 J0_126
          obtain ⟨v131, _, ⟨T131, L131, k131, n131⟩, -, X131, ⟨Lc131, hQ131, l131, y131, z131⟩, st131⟩ := X129.virtualBack hx (y := (⟨"java/lang/String", "codePointAt", "(I)I"⟩ : MethodName)) (z := (⟨"java/lang/String", "codePointAt", "(I)I"⟩ : MethodName)) hown (mvT hZ (hw _ (List.mem_of_getElem? (i := 108) rfl))) (mvT hZ (hw _ (List.mem_of_getElem? (i := 109) rfl))) (notFace_of_selects (args := #[]) (mvT hZ (hw _ (List.mem_of_getElem? (i := 111) rfl)))) (mvT hZ (hw _ (List.mem_of_getElem? (i := 111) rfl))) (mvT hZ (hw _ (List.mem_of_getElem? (i := 110) rfl))) (by decide) (backOf (W := 0) (rm_cpa l Z a0 hw [] x t k cs cd N2 vs iloop G1 G3 h126 n0 O126 O2 P5 O4 rG3 OA OH OL J0_126 J1_126 J2_126 J3_126 hC_x hok hi) hZ (hw _ (List.mem_of_getElem? (i := 112) rfl)) (hw _ (List.mem_of_getElem? (i := 12) rfl)) (by decide) (by decide)) q131a q131c (g := (mkF m 20 #[.val (.ref x), .val (.ref y), .val (.int (Int32.ofNat iloop)), s3, s4] [(.int (Int32.ofNat iloop)), (.ref x)])) rfl (by rw [hml]; rfl) (Steps.refl _) (argsL := [(.int (Int32.ofNat iloop))]) (rest := []) (lenOf pd_1 rfl) rfl (by show 2 * 0 + _ ≤ _; exact Nat.le_of_eq rfl) (hb hby d_prog_12_m2_20) (fun _ _ => ⟨rfl, e129, (by decide : 0 + 0 ≤ _), (by decide : 0 + 0 ≤ _)⟩)
          dsimp only [Pt.U, Pt.locs, Pt.cells, Pt.slots] at X131 l131 y131 z131 st131 hQ131
          subst l131 y131 z131
          refine own_gos st131 ?_
          obtain ⟨rfl, Nq131, e131⟩ := hQ131
          have N131 := Fr.app N129 Nq131
          show own_Go p e below (T131.setTop (mkF m 23 #[.val (.ref x), .val (.ref y), .val (.int (Int32.ofNat iloop)), s3, s4] [(.int (own_cpt cs iloop))])) _
          refine own_go (fun _ k => XS.istoreNS X131.here hx rfl (hb hby d_prog_12_m2_23) rfl rfl hs3 k) ?_
          show own_Go p e below (T131.setTop (mkF m 24 #[.val (.ref x), .val (.ref y), .val (.int (Int32.ofNat iloop)), .val (.int (own_cpt cs iloop)), s4] [])) _
          refine own_go (fun _ k => XS.aloadN X131.here hx rfl (hb hby d_prog_12_m2_24) rfl rfl k) ?_
          show own_Go p e below (T131.setTop (mkF m 25 #[.val (.ref x), .val (.ref y), .val (.int (Int32.ofNat iloop)), .val (.int (own_cpt cs iloop)), s4] [(.ref y)])) _
          refine own_go (fun _ k => XS.iloadN X131.here hx rfl (hb hby d_prog_12_m2_25) rfl k) ?_
          show own_Go p e below (T131.setTop (mkF m 26 #[.val (.ref x), .val (.ref y), .val (.int (Int32.ofNat iloop)), .val (.int (own_cpt cs iloop)), s4] [(.int (Int32.ofNat iloop)), (.ref y)])) _
          obtain ⟨cq132, kq132, q132a, q132b, q132c⟩ := isOf hZ e131 J4_126
          obtain ⟨v132, _, ⟨T132, L132, k132, n132⟩, -, X132, ⟨Lc132, hQ132, l132, y132, z132⟩, st132⟩ := X131.virtualBack hx (y := (⟨"java/lang/String", "codePointAt", "(I)I"⟩ : MethodName)) (z := (⟨"java/lang/String", "codePointAt", "(I)I"⟩ : MethodName)) hown (mvT hZ (hw _ (List.mem_of_getElem? (i := 108) rfl))) (mvT hZ (hw _ (List.mem_of_getElem? (i := 109) rfl))) (notFace_of_selects (args := #[]) (mvT hZ (hw _ (List.mem_of_getElem? (i := 111) rfl)))) (mvT hZ (hw _ (List.mem_of_getElem? (i := 111) rfl))) (mvT hZ (hw _ (List.mem_of_getElem? (i := 110) rfl))) (by decide) (backOf (W := 0) (rm_cpa l Z a0 hw [] y u ky ds cy Ny us iloop G1 G3 h126 n0 O126 O2 P5 O4 rG3 OA OH OL J4_126 J5_126 J6_126 J7_126 hC_y hok2 hj) hZ (hw _ (List.mem_of_getElem? (i := 112) rfl)) (hw _ (List.mem_of_getElem? (i := 12) rfl)) (by decide) (by decide)) q132a q132c (g := (mkF m 26 #[.val (.ref x), .val (.ref y), .val (.int (Int32.ofNat iloop)), .val (.int (own_cpt cs iloop)), s4] [(.int (Int32.ofNat iloop)), (.ref y)])) rfl (by rw [hml]; rfl) (Steps.refl _) (argsL := [(.int (Int32.ofNat iloop))]) (rest := []) (lenOf pd_1 rfl) rfl (by show 2 * 0 + _ ≤ _; exact Nat.le_of_eq rfl) (hb hby d_prog_12_m2_26) (fun _ _ => ⟨rfl, e131, (by decide : 0 + 0 ≤ _), (by decide : 0 + 0 ≤ _)⟩)
          dsimp only [Pt.U, Pt.locs, Pt.cells, Pt.slots] at X132 l132 y132 z132 st132 hQ132
          subst l132 y132 z132
          refine own_gos st132 ?_
          obtain ⟨rfl, Nq132, e132⟩ := hQ132
          have N132 := Fr.app N131 Nq132
          show own_Go p e below (T132.setTop (mkF m 29 #[.val (.ref x), .val (.ref y), .val (.int (Int32.ofNat iloop)), .val (.int (own_cpt cs iloop)), s4] [(.int (own_cpt ds iloop))])) _
          refine own_go (fun _ k => XS.istoreS X132.here hx rfl (hb hby d_prog_12_m2_29) rfl rfl hs4 k) ?_
          show own_Go p e below (T132.setTop (mkF m 31 #[.val (.ref x), .val (.ref y), .val (.int (Int32.ofNat iloop)), .val (.int (own_cpt cs iloop)), .val (.int (own_cpt ds iloop))] [])) _
          refine own_go (fun _ k => XS.iloadN X132.here hx rfl (hb hby d_prog_12_m2_31) rfl k) ?_
          show own_Go p e below (T132.setTop (mkF m 32 #[.val (.ref x), .val (.ref y), .val (.int (Int32.ofNat iloop)), .val (.int (own_cpt cs iloop)), .val (.int (own_cpt ds iloop))] [(.int (own_cpt cs iloop))])) _
          refine own_go (fun _ k => XS.iload X132.here hx rfl (hb hby d_prog_12_m2_32) rfl k) ?_
          show own_Go p e below (T132.setTop (mkF m 34 #[.val (.ref x), .val (.ref y), .val (.int (Int32.ofNat iloop)), .val (.int (own_cpt cs iloop)), .val (.int (own_cpt ds iloop))] [(.int (own_cpt ds iloop)), (.int (own_cpt cs iloop))])) _
          by_cases hc133 : (own_cpt cs iloop) = (own_cpt ds iloop)
          · skip
            refine own_go (fun _ k => XS.icmpYes X132.here hx rfl (pc0 := 34) (pc' := 44) rfl (hb hby d_prog_12_m2_34) rfl (teq hc133).1 (by decide) (by decide) k) ?_
            show own_Go p e below (T132.setTop (mkF m 44 #[.val (.ref x), .val (.ref y), .val (.int (Int32.ofNat iloop)), .val (.int (own_cpt cs iloop)), .val (.int (own_cpt ds iloop))] [])) _
            refine own_go (fun _ k => XS.iloadN X132.here hx rfl (hb hby d_prog_12_m2_44) rfl k) ?_
            show own_Go p e below (T132.setTop (mkF m 45 #[.val (.ref x), .val (.ref y), .val (.int (Int32.ofNat iloop)), .val (.int (own_cpt cs iloop)), .val (.int (own_cpt ds iloop))] [(.int (Int32.ofNat iloop))])) _
            refine own_go (fun _ k => XS.iloadN X132.here hx rfl (hb hby d_prog_12_m2_45) rfl k) ?_
            show own_Go p e below (T132.setTop (mkF m 46 #[.val (.ref x), .val (.ref y), .val (.int (Int32.ofNat iloop)), .val (.int (own_cpt cs iloop)), .val (.int (own_cpt ds iloop))] [(.int (own_cpt cs iloop)), (.int (Int32.ofNat iloop))])) _
            obtain ⟨v134, _, ⟨T134, L134, k134, n134⟩, -, X134, ⟨Lc134, hQ134, l134, y134, z134⟩, st134⟩ := Jvm.LawKit.callS X132 hx (y := (⟨"java/lang/Character", "charCount", "(I)I"⟩ : MethodName)) hown (mvT hZ (hw _ (List.mem_of_getElem? (i := 142) rfl))) (mvT hZ (hw _ (List.mem_of_getElem? (i := 143) rfl))) (mvT hZ (hw _ (List.mem_of_getElem? (i := 134) rfl))) (mvT hZ (hw _ (List.mem_of_getElem? (i := 144) rfl))) (by decide) (backOf (W := 1) (rm_cc l Z a0 hw [] (own_cpt cs iloop) h126 n0 O126 ) hZ (hw _ (List.mem_of_getElem? (i := 144) rfl)) (hw _ (List.mem_of_getElem? (i := 134) rfl)) (by decide) (by decide)) (g := (mkF m 46 #[.val (.ref x), .val (.ref y), .val (.int (Int32.ofNat iloop)), .val (.int (own_cpt cs iloop)), .val (.int (own_cpt ds iloop))] [(.int (own_cpt cs iloop)), (.int (Int32.ofNat iloop))])) rfl (by rw [hml]; rfl) (argsL := [(.int (own_cpt cs iloop))]) (rest := [(.int (Int32.ofNat iloop))]) (lenOf pd_1 rfl) rfl (by show 2 * 0 + _ ≤ _; exact Nat.le_of_eq rfl) (hb hby d_prog_12_m2_46) (fun _ _ => ⟨rfl, e132, (by decide : 0 + 0 ≤ _), (by decide : 0 + 0 ≤ _)⟩)
            dsimp only [Pt.U, Pt.locs, Pt.cells, Pt.slots] at X134 l134 y134 z134 st134 hQ134
            subst l134 y134 z134
            refine own_go st134 ?_
            obtain ⟨rfl, Nq134, e134⟩ := hQ134
            have N134 := Fr.app N132 Nq134
            show own_Go p e below (T134.setTop (mkF m 49 #[.val (.ref x), .val (.ref y), .val (.int (Int32.ofNat iloop)), .val (.int (own_cpt cs iloop)), .val (.int (own_cpt ds iloop))] [(.int (own_cc (own_cpt cs iloop))), (.int (Int32.ofNat iloop))])) _
            refine own_go (fun _ k => XS.iadd X134.here hx rfl (hb hby d_prog_12_m2_49) rfl k) ?_
            show own_Go p e below (T134.setTop (mkF m 50 #[.val (.ref x), .val (.ref y), .val (.int (Int32.ofNat iloop)), .val (.int (own_cpt cs iloop)), .val (.int (own_cpt ds iloop))] [(.int ((Int32.ofNat iloop) + (own_cc (own_cpt cs iloop))))])) _
            refine own_go (fun _ k => XS.istoreN X134.here hx rfl (hb hby d_prog_12_m2_50) rfl (l' := #[.val (.ref x), .val (.ref y), .val (.int ((Int32.ofNat iloop) + (own_cc (own_cpt cs iloop)))), .val (.int (own_cpt cs iloop)), .val (.int (own_cpt ds iloop))]) rfl k) ?_
            show own_Go p e below (T134.setTop (mkF m 51 #[.val (.ref x), .val (.ref y), .val (.int ((Int32.ofNat iloop) + (own_cc (own_cpt cs iloop)))), .val (.int (own_cpt cs iloop)), .val (.int (own_cpt ds iloop))] [])) _
            refine own_go (fun _ k => XS.goto X134.here hx rfl (pc0 := 51) (pc' := 2) rfl (hb hby d_prog_12_m2_51) (by decide) (by decide) k) ?_
            show own_Go p e below (T134.setTop (mkF m 2 #[.val (.ref x), .val (.ref y), .val (.int ((Int32.ofNat iloop) + (own_cc (own_cpt cs iloop)))), .val (.int (own_cpt cs iloop)), .val (.int (own_cpt ds iloop))] [])) _
            rw [own_ccw hok hi, own_ofadd]
            have hw1 := own_w1 cs iloop
            exact ih (iloop + own_w cs iloop) (.val (.int (own_cpt cs iloop))) (.val (.int (own_cpt ds iloop))) T134 _ h126 (by omega) X134 e134 N134 O126 K126 J0_126 J1_126 J2_126 J3_126 J4_126 J5_126 J6_126 J7_126 hhe (hinv.trans (own_stepL hok hok2 hi hj hc133)) (own_wle hi) (own_wsame hok hok2 hi hj hc133 ▸ own_wle hj) (Or.inr ⟨_, rfl, rfl⟩) (Or.inr ⟨_, rfl, rfl⟩)
          · skip
            refine own_go (fun _ k => XS.icmpNo X132.here hx rfl (hb hby d_prog_12_m2_34) rfl (feq hc133).1 k) ?_
            show own_Go p e below (T132.setTop (mkF m 37 #[.val (.ref x), .val (.ref y), .val (.int (Int32.ofNat iloop)), .val (.int (own_cpt cs iloop)), .val (.int (own_cpt ds iloop))] [])) _
            refine own_go (fun _ k => XS.iloadN X132.here hx rfl (hb hby d_prog_12_m2_37) rfl k) ?_
            show own_Go p e below (T132.setTop (mkF m 38 #[.val (.ref x), .val (.ref y), .val (.int (Int32.ofNat iloop)), .val (.int (own_cpt cs iloop)), .val (.int (own_cpt ds iloop))] [(.int (own_cpt cs iloop))])) _
            refine own_go (fun _ k => XS.iload X132.here hx rfl (hb hby d_prog_12_m2_38) rfl k) ?_
            show own_Go p e below (T132.setTop (mkF m 40 #[.val (.ref x), .val (.ref y), .val (.int (Int32.ofNat iloop)), .val (.int (own_cpt cs iloop)), .val (.int (own_cpt ds iloop))] [(.int (own_cpt ds iloop)), (.int (own_cpt cs iloop))])) _
            obtain ⟨v135, _, ⟨T135, L135, k135, n135⟩, -, X135, ⟨Lc135, hQ135, l135, y135, z135⟩, st135⟩ := Jvm.LawKit.callS X132 hx (y := (⟨"java/lang/Integer", "compare", "(II)I"⟩ : MethodName)) hown (mvT hZ (hw _ (List.mem_of_getElem? (i := 46) rfl))) (mvT hZ (hw _ (List.mem_of_getElem? (i := 47) rfl))) (mvT hZ (hw _ (List.mem_of_getElem? (i := 48) rfl))) (mvT hZ (hw _ (List.mem_of_getElem? (i := 49) rfl))) (by decide) (backOf (W := 0) (rm_ic l Z a0 hw [] (own_cpt cs iloop) (own_cpt ds iloop) h126 n0 O126 ) hZ (hw _ (List.mem_of_getElem? (i := 49) rfl)) (hw _ (List.mem_of_getElem? (i := 48) rfl)) (by decide) (by decide)) (g := (mkF m 40 #[.val (.ref x), .val (.ref y), .val (.int (Int32.ofNat iloop)), .val (.int (own_cpt cs iloop)), .val (.int (own_cpt ds iloop))] [(.int (own_cpt ds iloop)), (.int (own_cpt cs iloop))])) rfl (by rw [hml]; rfl) (argsL := [(.int (own_cpt cs iloop)), (.int (own_cpt ds iloop))]) (rest := []) (lenOf pd_16 rfl) rfl (by show 2 * 0 + _ ≤ _; exact Nat.le_of_eq rfl) (hb hby d_prog_12_m2_40) (fun _ _ => ⟨rfl, e132, (by decide : 0 + 0 ≤ _), (by decide : 0 + 0 ≤ _)⟩)
            dsimp only [Pt.U, Pt.locs, Pt.cells, Pt.slots] at X135 l135 y135 z135 st135 hQ135
            subst l135 y135 z135
            refine own_go st135 ?_
            obtain ⟨rfl, Nq135, e135⟩ := hQ135
            have N135 := Fr.app N132 Nq135
            show own_Go p e below (T135.setTop (mkF m 43 #[.val (.ref x), .val (.ref y), .val (.int (Int32.ofNat iloop)), .val (.int (own_cpt cs iloop)), .val (.int (own_cpt ds iloop))] [(.int (own_ic (own_cpt cs iloop) (own_cpt ds iloop)))])) _
            refine own_fin (v := (some (.int (own_ic (own_cpt cs iloop) (own_cpt ds iloop))))) X135 (fun h => by rw [hrt] at h; cases h) hlk (fun fs hr => retI X135 hx hrt (hb hby d_prog_12_m2_43) hr) (QQ := QCp cs ds h0 n0) ?_ (by decide) (by decide)
            rw [e135]
            exact ⟨_, rfl, N135, hhe, (own_diffL hi hj hc133).trans hinv.symm⟩
        · skip
          refine own_go (fun _ k => XS.icmpYes X129.here hx rfl (pc0 := 15) (pc' := 54) rfl (hb hby d_prog_12_m2_15) rfl (flt hc130).2.1 (by decide) (by decide) k) ?_
          show own_Go p e below (T129.setTop (mkF m 54 #[.val (.ref x), .val (.ref y), .val (.int (Int32.ofNat iloop)), s3, s4] [])) _
          refine own_go (fun _ k => XS.aloadN X129.here hx rfl (hb hby d_prog_12_m2_54) rfl rfl k) ?_
          show own_Go p e below (T129.setTop (mkF m 55 #[.val (.ref x), .val (.ref y), .val (.int (Int32.ofNat iloop)), s3, s4] [(.ref x)])) _
          obtain ⟨cq136, kq136, q136a, q136b, q136c⟩ := isOf hZ e129 J0_126
          obtain ⟨v136, _, ⟨T136, L136, k136, n136⟩, -, X136, ⟨Lc136, hQ136, l136, y136, z136⟩, st136⟩ := X129.virtualBack hx (y := (⟨"java/lang/String", "length", "()I"⟩ : MethodName)) (z := (⟨"java/lang/String", "length", "()I"⟩ : MethodName)) hown (mvT hZ (hw _ (List.mem_of_getElem? (i := 35) rfl))) (mvT hZ (hw _ (List.mem_of_getElem? (i := 36) rfl))) (notFace_of_selects (args := #[]) (mvT hZ (hw _ (List.mem_of_getElem? (i := 38) rfl)))) (mvT hZ (hw _ (List.mem_of_getElem? (i := 38) rfl))) (mvT hZ (hw _ (List.mem_of_getElem? (i := 37) rfl))) (by decide) (StrChars.Road.lenW (W := 0) hZ (own_wLen hw) (kI := 4) (hw _ (List.mem_of_getElem? (i := 11) rfl)) J0_126 J1_126 J2_126 J3_126 hC_x (hok.1) (O2.ext O126.2) P5 hok.2 (by decide) (by decide)) q136a q136c (g := (mkF m 55 #[.val (.ref x), .val (.ref y), .val (.int (Int32.ofNat iloop)), s3, s4] [(.ref x)])) rfl (by rw [hml]; rfl) (Steps.refl _) (argsL := []) (rest := []) (lenOf pd_15 rfl) rfl (by show 2 * 0 + _ ≤ _; exact Nat.le_of_eq rfl) (hb hby d_prog_12_m2_55) (fun _ _ => ⟨rfl, e129, (by decide : 0 + 0 ≤ _), (by decide : 0 + 0 ≤ _)⟩)
          dsimp only [Pt.U, Pt.locs, Pt.cells, Pt.slots] at X136 l136 y136 z136 st136 hQ136
          subst l136 y136 z136
          refine own_gos st136 ?_
          obtain ⟨rfl, rfl, e136⟩ := hQ136
          have Nq136 : Fr n0 ([] : List Loc) := Fr.nil n0
          have N136 := Fr.app N129 Nq136
          show own_Go p e below (T136.setTop (mkF m 58 #[.val (.ref x), .val (.ref y), .val (.int (Int32.ofNat iloop)), s3, s4] [(.int (Int32.ofNat cs.length))])) _
          refine own_go (fun _ k => XS.iloadN X136.here hx rfl (hb hby d_prog_12_m2_58) rfl k) ?_
          show own_Go p e below (T136.setTop (mkF m 59 #[.val (.ref x), .val (.ref y), .val (.int (Int32.ofNat iloop)), s3, s4] [(.int (Int32.ofNat iloop)), (.int (Int32.ofNat cs.length))])) _
          refine own_go (fun _ k => XS.isub X136.here hx rfl (hb hby d_prog_12_m2_59) rfl k) ?_
          show own_Go p e below (T136.setTop (mkF m 60 #[.val (.ref x), .val (.ref y), .val (.int (Int32.ofNat iloop)), s3, s4] [(.int ((Int32.ofNat cs.length) - (Int32.ofNat iloop)))])) _
          refine own_go (fun _ k => XS.aloadN X136.here hx rfl (hb hby d_prog_12_m2_60) rfl rfl k) ?_
          show own_Go p e below (T136.setTop (mkF m 61 #[.val (.ref x), .val (.ref y), .val (.int (Int32.ofNat iloop)), s3, s4] [(.ref y), (.int ((Int32.ofNat cs.length) - (Int32.ofNat iloop)))])) _
          obtain ⟨cq137, kq137, q137a, q137b, q137c⟩ := isOf hZ e136 J4_126
          obtain ⟨v137, _, ⟨T137, L137, k137, n137⟩, -, X137, ⟨Lc137, hQ137, l137, y137, z137⟩, st137⟩ := X136.virtualBack hx (y := (⟨"java/lang/String", "length", "()I"⟩ : MethodName)) (z := (⟨"java/lang/String", "length", "()I"⟩ : MethodName)) hown (mvT hZ (hw _ (List.mem_of_getElem? (i := 35) rfl))) (mvT hZ (hw _ (List.mem_of_getElem? (i := 36) rfl))) (notFace_of_selects (args := #[]) (mvT hZ (hw _ (List.mem_of_getElem? (i := 38) rfl)))) (mvT hZ (hw _ (List.mem_of_getElem? (i := 38) rfl))) (mvT hZ (hw _ (List.mem_of_getElem? (i := 37) rfl))) (by decide) (StrChars.Road.lenW (W := 1) hZ (own_wLen hw) (kI := 4) (hw _ (List.mem_of_getElem? (i := 11) rfl)) J4_126 J5_126 J6_126 J7_126 hC_y (hok2.1) (O2.ext O126.2) P5 hok2.2 (by decide) (by decide)) q137a q137c (g := (mkF m 61 #[.val (.ref x), .val (.ref y), .val (.int (Int32.ofNat iloop)), s3, s4] [(.ref y), (.int ((Int32.ofNat cs.length) - (Int32.ofNat iloop)))])) rfl (by rw [hml]; rfl) (Steps.refl _) (argsL := []) (rest := [(.int ((Int32.ofNat cs.length) - (Int32.ofNat iloop)))]) (lenOf pd_15 rfl) rfl (by show 2 * 0 + _ ≤ _; exact Nat.le_of_eq rfl) (hb hby d_prog_12_m2_61) (fun _ _ => ⟨rfl, e136, (by decide : 0 + 0 ≤ _), (by decide : 0 + 0 ≤ _)⟩)
          dsimp only [Pt.U, Pt.locs, Pt.cells, Pt.slots] at X137 l137 y137 z137 st137 hQ137
          subst l137 y137 z137
          refine own_gos st137 ?_
          obtain ⟨rfl, rfl, e137⟩ := hQ137
          have Nq137 : Fr n0 ([] : List Loc) := Fr.nil n0
          have N137 := Fr.app N136 Nq137
          show own_Go p e below (T137.setTop (mkF m 64 #[.val (.ref x), .val (.ref y), .val (.int (Int32.ofNat iloop)), s3, s4] [(.int (Int32.ofNat ds.length)), (.int ((Int32.ofNat cs.length) - (Int32.ofNat iloop)))])) _
          refine own_go (fun _ k => XS.iloadN X137.here hx rfl (hb hby d_prog_12_m2_64) rfl k) ?_
          show own_Go p e below (T137.setTop (mkF m 65 #[.val (.ref x), .val (.ref y), .val (.int (Int32.ofNat iloop)), s3, s4] [(.int (Int32.ofNat iloop)), (.int (Int32.ofNat ds.length)), (.int ((Int32.ofNat cs.length) - (Int32.ofNat iloop)))])) _
          refine own_go (fun _ k => XS.isub X137.here hx rfl (hb hby d_prog_12_m2_65) rfl k) ?_
          show own_Go p e below (T137.setTop (mkF m 66 #[.val (.ref x), .val (.ref y), .val (.int (Int32.ofNat iloop)), s3, s4] [(.int ((Int32.ofNat ds.length) - (Int32.ofNat iloop))), (.int ((Int32.ofNat cs.length) - (Int32.ofNat iloop)))])) _
          obtain ⟨v138, _, ⟨T138, L138, k138, n138⟩, -, X138, ⟨Lc138, hQ138, l138, y138, z138⟩, st138⟩ := Jvm.LawKit.callS X137 hx (y := (⟨"java/lang/Integer", "compare", "(II)I"⟩ : MethodName)) hown (mvT hZ (hw _ (List.mem_of_getElem? (i := 46) rfl))) (mvT hZ (hw _ (List.mem_of_getElem? (i := 47) rfl))) (mvT hZ (hw _ (List.mem_of_getElem? (i := 48) rfl))) (mvT hZ (hw _ (List.mem_of_getElem? (i := 49) rfl))) (by decide) (backOf (W := 0) (rm_ic l Z a0 hw [] ((Int32.ofNat cs.length) - (Int32.ofNat iloop)) ((Int32.ofNat ds.length) - (Int32.ofNat iloop)) h126 n0 O126 ) hZ (hw _ (List.mem_of_getElem? (i := 49) rfl)) (hw _ (List.mem_of_getElem? (i := 48) rfl)) (by decide) (by decide)) (g := (mkF m 66 #[.val (.ref x), .val (.ref y), .val (.int (Int32.ofNat iloop)), s3, s4] [(.int ((Int32.ofNat ds.length) - (Int32.ofNat iloop))), (.int ((Int32.ofNat cs.length) - (Int32.ofNat iloop)))])) rfl (by rw [hml]; rfl) (argsL := [(.int ((Int32.ofNat cs.length) - (Int32.ofNat iloop))), (.int ((Int32.ofNat ds.length) - (Int32.ofNat iloop)))]) (rest := []) (lenOf pd_16 rfl) rfl (by show 2 * 0 + _ ≤ _; exact Nat.le_of_eq rfl) (hb hby d_prog_12_m2_66) (fun _ _ => ⟨rfl, e137, (by decide : 0 + 0 ≤ _), (by decide : 0 + 0 ≤ _)⟩)
          dsimp only [Pt.U, Pt.locs, Pt.cells, Pt.slots] at X138 l138 y138 z138 st138 hQ138
          subst l138 y138 z138
          refine own_go st138 ?_
          obtain ⟨rfl, Nq138, e138⟩ := hQ138
          have N138 := Fr.app N137 Nq138
          show own_Go p e below (T138.setTop (mkF m 69 #[.val (.ref x), .val (.ref y), .val (.int (Int32.ofNat iloop)), s3, s4] [(.int (own_ic ((Int32.ofNat cs.length) - (Int32.ofNat iloop)) ((Int32.ofNat ds.length) - (Int32.ofNat iloop))))])) _
          refine own_fin (v := (some (.int (own_ic ((Int32.ofNat cs.length) - (Int32.ofNat iloop)) ((Int32.ofNat ds.length) - (Int32.ofNat iloop)))))) X138 (fun h => by rw [hrt] at h; cases h) hlk (fun fs hr => retI X138 hx hrt (hb hby d_prog_12_m2_69) hr) (QQ := QCp cs ds h0 n0) ?_ (by decide) (by decide)
          rw [e138]
          exact ⟨_, rfl, N138, hhe, (own_exitL hlen hlen2 hile hjle (Or.inr (fun q => hc130 ((own_lti (by omega) (by omega)).mpr q)))).trans hinv.symm⟩
      · skip
        refine own_go (fun _ k => XS.icmpYes X127.here hx rfl (pc0 := 7) (pc' := 54) rfl (hb hby d_prog_12_m2_7) rfl (flt hc128).2.1 (by decide) (by decide) k) ?_
        show own_Go p e below (T127.setTop (mkF m 54 #[.val (.ref x), .val (.ref y), .val (.int (Int32.ofNat iloop)), s3, s4] [])) _
        refine own_go (fun _ k => XS.aloadN X127.here hx rfl (hb hby d_prog_12_m2_54) rfl rfl k) ?_
        show own_Go p e below (T127.setTop (mkF m 55 #[.val (.ref x), .val (.ref y), .val (.int (Int32.ofNat iloop)), s3, s4] [(.ref x)])) _
        obtain ⟨cq139, kq139, q139a, q139b, q139c⟩ := isOf hZ e127 J0_126
        obtain ⟨v139, _, ⟨T139, L139, k139, n139⟩, -, X139, ⟨Lc139, hQ139, l139, y139, z139⟩, st139⟩ := X127.virtualBack hx (y := (⟨"java/lang/String", "length", "()I"⟩ : MethodName)) (z := (⟨"java/lang/String", "length", "()I"⟩ : MethodName)) hown (mvT hZ (hw _ (List.mem_of_getElem? (i := 35) rfl))) (mvT hZ (hw _ (List.mem_of_getElem? (i := 36) rfl))) (notFace_of_selects (args := #[]) (mvT hZ (hw _ (List.mem_of_getElem? (i := 38) rfl)))) (mvT hZ (hw _ (List.mem_of_getElem? (i := 38) rfl))) (mvT hZ (hw _ (List.mem_of_getElem? (i := 37) rfl))) (by decide) (StrChars.Road.lenW (W := 0) hZ (own_wLen hw) (kI := 4) (hw _ (List.mem_of_getElem? (i := 11) rfl)) J0_126 J1_126 J2_126 J3_126 hC_x (hok.1) (O2.ext O126.2) P5 hok.2 (by decide) (by decide)) q139a q139c (g := (mkF m 55 #[.val (.ref x), .val (.ref y), .val (.int (Int32.ofNat iloop)), s3, s4] [(.ref x)])) rfl (by rw [hml]; rfl) (Steps.refl _) (argsL := []) (rest := []) (lenOf pd_15 rfl) rfl (by show 2 * 0 + _ ≤ _; exact Nat.le_of_eq rfl) (hb hby d_prog_12_m2_55) (fun _ _ => ⟨rfl, e127, (by decide : 0 + 0 ≤ _), (by decide : 0 + 0 ≤ _)⟩)
        dsimp only [Pt.U, Pt.locs, Pt.cells, Pt.slots] at X139 l139 y139 z139 st139 hQ139
        subst l139 y139 z139
        refine own_gos st139 ?_
        obtain ⟨rfl, rfl, e139⟩ := hQ139
        have Nq139 : Fr n0 ([] : List Loc) := Fr.nil n0
        have N139 := Fr.app N127 Nq139
        show own_Go p e below (T139.setTop (mkF m 58 #[.val (.ref x), .val (.ref y), .val (.int (Int32.ofNat iloop)), s3, s4] [(.int (Int32.ofNat cs.length))])) _
        refine own_go (fun _ k => XS.iloadN X139.here hx rfl (hb hby d_prog_12_m2_58) rfl k) ?_
        show own_Go p e below (T139.setTop (mkF m 59 #[.val (.ref x), .val (.ref y), .val (.int (Int32.ofNat iloop)), s3, s4] [(.int (Int32.ofNat iloop)), (.int (Int32.ofNat cs.length))])) _
        refine own_go (fun _ k => XS.isub X139.here hx rfl (hb hby d_prog_12_m2_59) rfl k) ?_
        show own_Go p e below (T139.setTop (mkF m 60 #[.val (.ref x), .val (.ref y), .val (.int (Int32.ofNat iloop)), s3, s4] [(.int ((Int32.ofNat cs.length) - (Int32.ofNat iloop)))])) _
        refine own_go (fun _ k => XS.aloadN X139.here hx rfl (hb hby d_prog_12_m2_60) rfl rfl k) ?_
        show own_Go p e below (T139.setTop (mkF m 61 #[.val (.ref x), .val (.ref y), .val (.int (Int32.ofNat iloop)), s3, s4] [(.ref y), (.int ((Int32.ofNat cs.length) - (Int32.ofNat iloop)))])) _
        obtain ⟨cq140, kq140, q140a, q140b, q140c⟩ := isOf hZ e139 J4_126
        obtain ⟨v140, _, ⟨T140, L140, k140, n140⟩, -, X140, ⟨Lc140, hQ140, l140, y140, z140⟩, st140⟩ := X139.virtualBack hx (y := (⟨"java/lang/String", "length", "()I"⟩ : MethodName)) (z := (⟨"java/lang/String", "length", "()I"⟩ : MethodName)) hown (mvT hZ (hw _ (List.mem_of_getElem? (i := 35) rfl))) (mvT hZ (hw _ (List.mem_of_getElem? (i := 36) rfl))) (notFace_of_selects (args := #[]) (mvT hZ (hw _ (List.mem_of_getElem? (i := 38) rfl)))) (mvT hZ (hw _ (List.mem_of_getElem? (i := 38) rfl))) (mvT hZ (hw _ (List.mem_of_getElem? (i := 37) rfl))) (by decide) (StrChars.Road.lenW (W := 1) hZ (own_wLen hw) (kI := 4) (hw _ (List.mem_of_getElem? (i := 11) rfl)) J4_126 J5_126 J6_126 J7_126 hC_y (hok2.1) (O2.ext O126.2) P5 hok2.2 (by decide) (by decide)) q140a q140c (g := (mkF m 61 #[.val (.ref x), .val (.ref y), .val (.int (Int32.ofNat iloop)), s3, s4] [(.ref y), (.int ((Int32.ofNat cs.length) - (Int32.ofNat iloop)))])) rfl (by rw [hml]; rfl) (Steps.refl _) (argsL := []) (rest := [(.int ((Int32.ofNat cs.length) - (Int32.ofNat iloop)))]) (lenOf pd_15 rfl) rfl (by show 2 * 0 + _ ≤ _; exact Nat.le_of_eq rfl) (hb hby d_prog_12_m2_61) (fun _ _ => ⟨rfl, e139, (by decide : 0 + 0 ≤ _), (by decide : 0 + 0 ≤ _)⟩)
        dsimp only [Pt.U, Pt.locs, Pt.cells, Pt.slots] at X140 l140 y140 z140 st140 hQ140
        subst l140 y140 z140
        refine own_gos st140 ?_
        obtain ⟨rfl, rfl, e140⟩ := hQ140
        have Nq140 : Fr n0 ([] : List Loc) := Fr.nil n0
        have N140 := Fr.app N139 Nq140
        show own_Go p e below (T140.setTop (mkF m 64 #[.val (.ref x), .val (.ref y), .val (.int (Int32.ofNat iloop)), s3, s4] [(.int (Int32.ofNat ds.length)), (.int ((Int32.ofNat cs.length) - (Int32.ofNat iloop)))])) _
        refine own_go (fun _ k => XS.iloadN X140.here hx rfl (hb hby d_prog_12_m2_64) rfl k) ?_
        show own_Go p e below (T140.setTop (mkF m 65 #[.val (.ref x), .val (.ref y), .val (.int (Int32.ofNat iloop)), s3, s4] [(.int (Int32.ofNat iloop)), (.int (Int32.ofNat ds.length)), (.int ((Int32.ofNat cs.length) - (Int32.ofNat iloop)))])) _
        refine own_go (fun _ k => XS.isub X140.here hx rfl (hb hby d_prog_12_m2_65) rfl k) ?_
        show own_Go p e below (T140.setTop (mkF m 66 #[.val (.ref x), .val (.ref y), .val (.int (Int32.ofNat iloop)), s3, s4] [(.int ((Int32.ofNat ds.length) - (Int32.ofNat iloop))), (.int ((Int32.ofNat cs.length) - (Int32.ofNat iloop)))])) _
        obtain ⟨v141, _, ⟨T141, L141, k141, n141⟩, -, X141, ⟨Lc141, hQ141, l141, y141, z141⟩, st141⟩ := Jvm.LawKit.callS X140 hx (y := (⟨"java/lang/Integer", "compare", "(II)I"⟩ : MethodName)) hown (mvT hZ (hw _ (List.mem_of_getElem? (i := 46) rfl))) (mvT hZ (hw _ (List.mem_of_getElem? (i := 47) rfl))) (mvT hZ (hw _ (List.mem_of_getElem? (i := 48) rfl))) (mvT hZ (hw _ (List.mem_of_getElem? (i := 49) rfl))) (by decide) (backOf (W := 0) (rm_ic l Z a0 hw [] ((Int32.ofNat cs.length) - (Int32.ofNat iloop)) ((Int32.ofNat ds.length) - (Int32.ofNat iloop)) h126 n0 O126 ) hZ (hw _ (List.mem_of_getElem? (i := 49) rfl)) (hw _ (List.mem_of_getElem? (i := 48) rfl)) (by decide) (by decide)) (g := (mkF m 66 #[.val (.ref x), .val (.ref y), .val (.int (Int32.ofNat iloop)), s3, s4] [(.int ((Int32.ofNat ds.length) - (Int32.ofNat iloop))), (.int ((Int32.ofNat cs.length) - (Int32.ofNat iloop)))])) rfl (by rw [hml]; rfl) (argsL := [(.int ((Int32.ofNat cs.length) - (Int32.ofNat iloop))), (.int ((Int32.ofNat ds.length) - (Int32.ofNat iloop)))]) (rest := []) (lenOf pd_16 rfl) rfl (by show 2 * 0 + _ ≤ _; exact Nat.le_of_eq rfl) (hb hby d_prog_12_m2_66) (fun _ _ => ⟨rfl, e140, (by decide : 0 + 0 ≤ _), (by decide : 0 + 0 ≤ _)⟩)
        dsimp only [Pt.U, Pt.locs, Pt.cells, Pt.slots] at X141 l141 y141 z141 st141 hQ141
        subst l141 y141 z141
        refine own_go st141 ?_
        obtain ⟨rfl, Nq141, e141⟩ := hQ141
        have N141 := Fr.app N140 Nq141
        show own_Go p e below (T141.setTop (mkF m 69 #[.val (.ref x), .val (.ref y), .val (.int (Int32.ofNat iloop)), s3, s4] [(.int (own_ic ((Int32.ofNat cs.length) - (Int32.ofNat iloop)) ((Int32.ofNat ds.length) - (Int32.ofNat iloop))))])) _
        refine own_fin (v := (some (.int (own_ic ((Int32.ofNat cs.length) - (Int32.ofNat iloop)) ((Int32.ofNat ds.length) - (Int32.ofNat iloop)))))) X141 (fun h => by rw [hrt] at h; cases h) hlk (fun fs hr => retI X141 hx hrt (hb hby d_prog_12_m2_69) hr) (QQ := QCp cs ds h0 n0) ?_ (by decide) (by decide)
        rw [e141]
        exact ⟨_, rfl, N141, hhe, (own_exitL hlen hlen2 hile hjle (Or.inl (fun q => hc128 ((own_lti (by omega) (by omega)).mpr q)))).trans hinv.symm⟩
  exact loop (cs.length) 0 .unset .unset s₁ _ h0 (by omega) X0 e0 N0 O0 (Keep.refl h0 []) E_x Fv_x Fc_x V_t E_y Fv_y Fc_y V_u rfl rfl (Nat.zero_le _) (Nat.zero_le _) (Or.inl rfl) (Or.inl rfl)

theorem d_m3_0 : decode method_3_code 0 = .ok (.lload_n 0, 1) := by decide +kernel
theorem d_m3_1 : decode method_3_code 1 = .ok (.bipush 16, 2) := by decide +kernel
theorem d_m3_3 : decode method_3_code 3 = .ok (.lushr, 1) := by decide +kernel
theorem d_m3_4 : decode method_3_code 4 = .ok (.ldc2_w 13, 3) := by decide +kernel
theorem d_m3_7 : decode method_3_code 7 = .ok (.land, 1) := by decide +kernel
theorem d_m3_8 : decode method_3_code 8 = .ok (.l2i, 1) := by decide +kernel
theorem d_m3_9 : decode method_3_code 9 = .ok (.istore_n 2, 1) := by decide +kernel
theorem d_m3_10 : decode method_3_code 10 = .ok (.lload_n 0, 1) := by decide +kernel
theorem d_m3_11 : decode method_3_code 11 = .ok (.ldc2_w 37, 3) := by decide +kernel
theorem d_m3_14 : decode method_3_code 14 = .ok (.land, 1) := by decide +kernel
theorem d_m3_15 : decode method_3_code 15 = .ok (.l2i, 1) := by decide +kernel
theorem d_m3_16 : decode method_3_code 16 = .ok (.istore_n 3, 1) := by decide +kernel
theorem d_m3_17 : decode method_3_code 17 = .ok (.iload_n 2, 1) := by decide +kernel
theorem d_m3_18 : decode method_3_code 18 = .ok (.ifCond .ne 6, 3) := by decide +kernel
theorem d_m3_21 : decode method_3_code 21 = .ok (.iload_n 3, 1) := by decide +kernel
theorem d_m3_22 : decode method_3_code 22 = .ok (.i2c, 1) := by decide +kernel
theorem d_m3_23 : decode method_3_code 23 = .ok (.ireturn, 1) := by decide +kernel
theorem d_m3_24 : decode method_3_code 24 = .ok (.iload_n 2, 1) := by decide +kernel
theorem d_m3_25 : decode method_3_code 25 = .ok (.iconst 1, 1) := by decide +kernel
theorem d_m3_26 : decode method_3_code 26 = .ok (.if_icmp .ne 13, 3) := by decide +kernel
theorem d_m3_29 : decode method_3_code 29 = .ok (.ldc 39, 2) := by decide +kernel
theorem d_m3_31 : decode method_3_code 31 = .ok (.iload_n 3, 1) := by decide +kernel
theorem d_m3_32 : decode method_3_code 32 = .ok (.sipush 1023, 3) := by decide +kernel
theorem d_m3_35 : decode method_3_code 35 = .ok (.iand, 1) := by decide +kernel
theorem d_m3_36 : decode method_3_code 36 = .ok (.ior, 1) := by decide +kernel
theorem d_m3_37 : decode method_3_code 37 = .ok (.i2c, 1) := by decide +kernel
theorem d_m3_38 : decode method_3_code 38 = .ok (.ireturn, 1) := by decide +kernel
theorem d_m3_39 : decode method_3_code 39 = .ok (.iload_n 2, 1) := by decide +kernel
theorem d_m3_40 : decode method_3_code 40 = .ok (.iconst 2, 1) := by decide +kernel
theorem d_m3_41 : decode method_3_code 41 = .ok (.if_icmp .ne 13, 3) := by decide +kernel
theorem d_m3_44 : decode method_3_code 44 = .ok (.ldc 40, 2) := by decide +kernel
theorem d_m3_46 : decode method_3_code 46 = .ok (.iload_n 3, 1) := by decide +kernel
theorem d_m3_47 : decode method_3_code 47 = .ok (.sipush 1023, 3) := by decide +kernel
theorem d_m3_50 : decode method_3_code 50 = .ok (.iand, 1) := by decide +kernel
theorem d_m3_51 : decode method_3_code 51 = .ok (.ior, 1) := by decide +kernel
theorem d_m3_52 : decode method_3_code 52 = .ok (.i2c, 1) := by decide +kernel
theorem d_m3_53 : decode method_3_code 53 = .ok (.ireturn, 1) := by decide +kernel
theorem d_m3_54 : decode method_3_code 54 = .ok (.ldc 41, 2) := by decide +kernel
theorem d_m3_56 : decode method_3_code 56 = .ok (.iload_n 3, 1) := by decide +kernel
theorem d_m3_57 : decode method_3_code 57 = .ok (.sipush 8191, 3) := by decide +kernel
theorem d_m3_60 : decode method_3_code 60 = .ok (.iand, 1) := by decide +kernel
theorem d_m3_61 : decode method_3_code 61 = .ok (.ior, 1) := by decide +kernel
theorem d_m3_62 : decode method_3_code 62 = .ok (.i2c, 1) := by decide +kernel
theorem d_m3_63 : decode method_3_code 63 = .ok (.ireturn, 1) := by decide +kernel
theorem ef_rm_ch (m : MethodId) (x0 : Int64) : entryFrame m #[(.long x0)] 4 = mkF m 0 #[.val (.long x0), .second, .unset, .unset] [] := by
   first | (simp [entryFrame, mkF, argsToLocals, Value.category]; done) | rfl
set_option maxRecDepth 65536 in
set_option maxHeartbeats 40000000 in
theorem rm_ch (l : Launch) (Z : State) (a0 : Array Value) (hw : ∀ d ∈ tables_1, d.before a0 Z = true) (ws : List Jvm.Cond) (b : Int64) (h0 : Heap) (n0 : Nat) (O0 : Old Z n0 h0) :
    MetFree l (⟨"com/example/rolelattice/rolelattice/decision/CodePointsComparePinLaw", "ch", "(J)C"⟩ : MethodName) (head1 (Jvm.Cond.code (⟨"com/example/rolelattice/rolelattice/decision/CodePointsComparePinLaw", "ch", "(J)C"⟩ : MethodName) method_3_code 4 (some .char) :: ws) ({ frames := 0, cells := 0, slots := 0, locals := 0 } : Room)) (fun aA U => aA = #[(.long b)] ∧ Z.Warmed39 U.vm ∧ U.heap = h0) (fun _ _ _ _ _ => True) (fun _ U oO U' => ∃ rV rL, oO = .returned rV ∧ QPure (some (.int (own_chv b))) h0 n0 rV U'.heap rL ∧ FrameEnd U oO U' rL 0 0) := by
  refine MetFree.of_bodySF (plainFor_of_name pn_3) hisR ?_
  intro p e s m args below meth cC s₁ Bd hml0 hP hK
  obtain ⟨rfl, hZ, hh⟩ := hP
  have hx := Bd.exec
  have hby := Bd.bytes
  have hml : cC.maxLocals = 4 := hml0
  have hown : s.vm.findClass "com/example/rolelattice/rolelattice/decision/CodePointsComparePinLaw" = some m.cls := findClass_of_methodNamed Bd.named
  have hnm := (name_of_methodNamed Bd.named Bd.method).1
  have hrt := Bd.returns
  have hlk : meth.locks = false := Bd.notSynchronized
  have X0 : Stand p l e ({ frames := 0, cells := 0, slots := 0, locals := 0 } : Room) s m #[(.long b)] below meth cC s₁ [] 0 0 := Stand.of_body Bd
  have e0 : s₁.heap = h0 := by rw [← hh, Bd.state]; rfl
  have N0 := Fr.nil n0
  have Z0 : n0 ≤ h0.size := O0.1 ▸ O0.2.1
  show own_Go p e below (s₁.setTop (entryFrame m #[(.long b)] 4)) (fun oO U' => ∃ rV rL, oO = .returned rV ∧ QPure (some (.int (own_chv b))) h0 n0 rV U'.heap rL ∧ FrameEnd s oO U' rL 0 0)
  refine own_go (fun _ k => castTop (ef_rm_ch m b) k) ?_
  show own_Go p e below (s₁.setTop (mkF m 0 #[.val (.long b), .second, .unset, .unset] [])) _
  refine own_go (fun _ k => XS.lloadN X0.here hx rfl (hb hby d_m3_0) rfl k) ?_
  show own_Go p e below (s₁.setTop (mkF m 1 #[.val (.long b), .second, .unset, .unset] [(.long b)])) _
  refine own_go (fun _ k => XS.bipush X0.here hx rfl (hb hby d_m3_1) k) ?_
  show own_Go p e below (s₁.setTop (mkF m 3 #[.val (.long b), .second, .unset, .unset] [(.int (16 : Int32)), (.long b)])) _
  refine own_go (fun _ k => XS.lushr X0.here hx rfl (hb hby d_m3_3) rfl k) ?_
  show own_Go p e below (s₁.setTop (mkF m 4 #[.val (.long b), .second, .unset, .unset] [(.long ((b.toUInt64 >>> ((16 : Int32) &&& 0x3f).toInt64.toUInt64).toInt64))])) _
  refine own_go (fun _ k => X0.ldc2Long hx hown (mvT hZ (hw _ (List.mem_of_getElem? (i := 4) rfl))) (g := (mkF m 4 #[.val (.long b), .second, .unset, .unset] [(.long ((b.toUInt64 >>> ((16 : Int32) &&& 0x3f).toInt64.toUInt64).toInt64))])) rfl (hb hby d_m3_4) _ k) ?_
  show own_Go p e below (s₁.setTop (mkF m 7 #[.val (.long b), .second, .unset, .unset] [(.long (3 : Int64)), (.long ((b.toUInt64 >>> ((16 : Int32) &&& 0x3f).toInt64.toUInt64).toInt64))])) _
  refine own_go (fun _ k => XS.land X0.here hx rfl (hb hby d_m3_7) rfl k) ?_
  show own_Go p e below (s₁.setTop (mkF m 8 #[.val (.long b), .second, .unset, .unset] [(.long (((b.toUInt64 >>> ((16 : Int32) &&& 0x3f).toInt64.toUInt64).toInt64) &&& (3 : Int64)))])) _
  refine own_go (fun _ k => XS.l2i X0.here hx rfl (hb hby d_m3_8) rfl k) ?_
  show own_Go p e below (s₁.setTop (mkF m 9 #[.val (.long b), .second, .unset, .unset] [(.int ((((b.toUInt64 >>> ((16 : Int32) &&& 0x3f).toInt64.toUInt64).toInt64) &&& (3 : Int64)).toInt32))])) _
  refine own_go (fun _ k => XS.istoreN X0.here hx rfl (hb hby d_m3_9) rfl (l' := #[.val (.long b), .second, .val (.int ((((b.toUInt64 >>> ((16 : Int32) &&& 0x3f).toInt64.toUInt64).toInt64) &&& (3 : Int64)).toInt32)), .unset]) rfl k) ?_
  show own_Go p e below (s₁.setTop (mkF m 10 #[.val (.long b), .second, .val (.int ((((b.toUInt64 >>> ((16 : Int32) &&& 0x3f).toInt64.toUInt64).toInt64) &&& (3 : Int64)).toInt32)), .unset] [])) _
  refine own_go (fun _ k => XS.lloadN X0.here hx rfl (hb hby d_m3_10) rfl k) ?_
  show own_Go p e below (s₁.setTop (mkF m 11 #[.val (.long b), .second, .val (.int ((((b.toUInt64 >>> ((16 : Int32) &&& 0x3f).toInt64.toUInt64).toInt64) &&& (3 : Int64)).toInt32)), .unset] [(.long b)])) _
  refine own_go (fun _ k => X0.ldc2Long hx hown (mvT hZ (hw _ (List.mem_of_getElem? (i := 5) rfl))) (g := (mkF m 11 #[.val (.long b), .second, .val (.int ((((b.toUInt64 >>> ((16 : Int32) &&& 0x3f).toInt64.toUInt64).toInt64) &&& (3 : Int64)).toInt32)), .unset] [(.long b)])) rfl (hb hby d_m3_11) _ k) ?_
  show own_Go p e below (s₁.setTop (mkF m 14 #[.val (.long b), .second, .val (.int ((((b.toUInt64 >>> ((16 : Int32) &&& 0x3f).toInt64.toUInt64).toInt64) &&& (3 : Int64)).toInt32)), .unset] [(.long (65535 : Int64)), (.long b)])) _
  refine own_go (fun _ k => XS.land X0.here hx rfl (hb hby d_m3_14) rfl k) ?_
  show own_Go p e below (s₁.setTop (mkF m 15 #[.val (.long b), .second, .val (.int ((((b.toUInt64 >>> ((16 : Int32) &&& 0x3f).toInt64.toUInt64).toInt64) &&& (3 : Int64)).toInt32)), .unset] [(.long (b &&& (65535 : Int64)))])) _
  refine own_go (fun _ k => XS.l2i X0.here hx rfl (hb hby d_m3_15) rfl k) ?_
  show own_Go p e below (s₁.setTop (mkF m 16 #[.val (.long b), .second, .val (.int ((((b.toUInt64 >>> ((16 : Int32) &&& 0x3f).toInt64.toUInt64).toInt64) &&& (3 : Int64)).toInt32)), .unset] [(.int ((b &&& (65535 : Int64)).toInt32))])) _
  refine own_go (fun _ k => XS.istoreN X0.here hx rfl (hb hby d_m3_16) rfl (l' := #[.val (.long b), .second, .val (.int ((((b.toUInt64 >>> ((16 : Int32) &&& 0x3f).toInt64.toUInt64).toInt64) &&& (3 : Int64)).toInt32)), .val (.int ((b &&& (65535 : Int64)).toInt32))]) rfl k) ?_
  show own_Go p e below (s₁.setTop (mkF m 17 #[.val (.long b), .second, .val (.int ((((b.toUInt64 >>> ((16 : Int32) &&& 0x3f).toInt64.toUInt64).toInt64) &&& (3 : Int64)).toInt32)), .val (.int ((b &&& (65535 : Int64)).toInt32))] [])) _
  refine own_go (fun _ k => XS.iloadN X0.here hx rfl (hb hby d_m3_17) rfl k) ?_
  show own_Go p e below (s₁.setTop (mkF m 18 #[.val (.long b), .second, .val (.int ((((b.toUInt64 >>> ((16 : Int32) &&& 0x3f).toInt64.toUInt64).toInt64) &&& (3 : Int64)).toInt32)), .val (.int ((b &&& (65535 : Int64)).toInt32))] [(.int ((((b.toUInt64 >>> ((16 : Int32) &&& 0x3f).toInt64.toUInt64).toInt64) &&& (3 : Int64)).toInt32))])) _
  by_cases hc142 : ((((b.toUInt64 >>> ((16 : Int32) &&& 0x3f).toInt64.toUInt64).toInt64) &&& (3 : Int64)).toInt32) = (0 : Int32)
  · skip
    refine own_go (fun _ k => XS.ifNo X0.here hx rfl (hb hby d_m3_18) rfl ((if0 _ _).trans (teq hc142).2) k) ?_
    show own_Go p e below (s₁.setTop (mkF m 21 #[.val (.long b), .second, .val (.int ((((b.toUInt64 >>> ((16 : Int32) &&& 0x3f).toInt64.toUInt64).toInt64) &&& (3 : Int64)).toInt32)), .val (.int ((b &&& (65535 : Int64)).toInt32))] [])) _
    refine own_go (fun _ k => XS.iloadN X0.here hx rfl (hb hby d_m3_21) rfl k) ?_
    show own_Go p e below (s₁.setTop (mkF m 22 #[.val (.long b), .second, .val (.int ((((b.toUInt64 >>> ((16 : Int32) &&& 0x3f).toInt64.toUInt64).toInt64) &&& (3 : Int64)).toInt32)), .val (.int ((b &&& (65535 : Int64)).toInt32))] [(.int ((b &&& (65535 : Int64)).toInt32))])) _
    refine own_go (fun _ k => XS.i2c X0.here hx rfl (hb hby d_m3_22) rfl k) ?_
    show own_Go p e below (s₁.setTop (mkF m 23 #[.val (.long b), .second, .val (.int ((((b.toUInt64 >>> ((16 : Int32) &&& 0x3f).toInt64.toUInt64).toInt64) &&& (3 : Int64)).toInt32)), .val (.int ((b &&& (65535 : Int64)).toInt32))] [(.int (((b &&& (65535 : Int64)).toInt32).toUInt32.toUInt16.toUInt32.toInt32))])) _
    refine own_fin (v := (some (.int (nar .char (((b &&& (65535 : Int64)).toInt32).toUInt32.toUInt16.toUInt32.toInt32))))) X0 (fun h => by rw [hrt] at h; cases h) hlk (fun fs hr => retN X0 hx (t := .char) hrt (by simp) (hb hby d_m3_23) hr) (QQ := QPure (some (.int (own_chv b))) h0 n0) ?_ (by decide) (by decide)
    rw [e0]
    exact ⟨by unfold own_chv; unfold own_kd; rw [if_pos hc142]; rfl, N0, rfl⟩
  · skip
    refine own_go (fun _ k => XS.ifYes X0.here hx rfl (pc0 := 18) (pc' := 24) rfl (hb hby d_m3_18) rfl ((if0 _ _).trans (feq hc142).2) (by decide) (by decide) k) ?_
    show own_Go p e below (s₁.setTop (mkF m 24 #[.val (.long b), .second, .val (.int ((((b.toUInt64 >>> ((16 : Int32) &&& 0x3f).toInt64.toUInt64).toInt64) &&& (3 : Int64)).toInt32)), .val (.int ((b &&& (65535 : Int64)).toInt32))] [])) _
    refine own_go (fun _ k => XS.iloadN X0.here hx rfl (hb hby d_m3_24) rfl k) ?_
    show own_Go p e below (s₁.setTop (mkF m 25 #[.val (.long b), .second, .val (.int ((((b.toUInt64 >>> ((16 : Int32) &&& 0x3f).toInt64.toUInt64).toInt64) &&& (3 : Int64)).toInt32)), .val (.int ((b &&& (65535 : Int64)).toInt32))] [(.int ((((b.toUInt64 >>> ((16 : Int32) &&& 0x3f).toInt64.toUInt64).toInt64) &&& (3 : Int64)).toInt32))])) _
    refine own_go (fun _ k => XS.iconst X0.here hx rfl (hb hby d_m3_25) k) ?_
    show own_Go p e below (s₁.setTop (mkF m 26 #[.val (.long b), .second, .val (.int ((((b.toUInt64 >>> ((16 : Int32) &&& 0x3f).toInt64.toUInt64).toInt64) &&& (3 : Int64)).toInt32)), .val (.int ((b &&& (65535 : Int64)).toInt32))] [(.int (1 : Int32)), (.int ((((b.toUInt64 >>> ((16 : Int32) &&& 0x3f).toInt64.toUInt64).toInt64) &&& (3 : Int64)).toInt32))])) _
    by_cases hc143 : ((((b.toUInt64 >>> ((16 : Int32) &&& 0x3f).toInt64.toUInt64).toInt64) &&& (3 : Int64)).toInt32) = (1 : Int32)
    · skip
      refine own_go (fun _ k => XS.icmpNo X0.here hx rfl (hb hby d_m3_26) rfl (teq hc143).2 k) ?_
      show own_Go p e below (s₁.setTop (mkF m 29 #[.val (.long b), .second, .val (.int ((((b.toUInt64 >>> ((16 : Int32) &&& 0x3f).toInt64.toUInt64).toInt64) &&& (3 : Int64)).toInt32)), .val (.int ((b &&& (65535 : Int64)).toInt32))] [])) _
      refine own_go (fun _ k => X0.ldcInt hx hown (mvT hZ (hw _ (List.mem_of_getElem? (i := 61) rfl))) (g := (mkF m 29 #[.val (.long b), .second, .val (.int ((((b.toUInt64 >>> ((16 : Int32) &&& 0x3f).toInt64.toUInt64).toInt64) &&& (3 : Int64)).toInt32)), .val (.int ((b &&& (65535 : Int64)).toInt32))] [])) rfl (hb hby d_m3_29) _ k) ?_
      show own_Go p e below (s₁.setTop (mkF m 31 #[.val (.long b), .second, .val (.int ((((b.toUInt64 >>> ((16 : Int32) &&& 0x3f).toInt64.toUInt64).toInt64) &&& (3 : Int64)).toInt32)), .val (.int ((b &&& (65535 : Int64)).toInt32))] [(.int (55296 : Int32))])) _
      refine own_go (fun _ k => XS.iloadN X0.here hx rfl (hb hby d_m3_31) rfl k) ?_
      show own_Go p e below (s₁.setTop (mkF m 32 #[.val (.long b), .second, .val (.int ((((b.toUInt64 >>> ((16 : Int32) &&& 0x3f).toInt64.toUInt64).toInt64) &&& (3 : Int64)).toInt32)), .val (.int ((b &&& (65535 : Int64)).toInt32))] [(.int ((b &&& (65535 : Int64)).toInt32)), (.int (55296 : Int32))])) _
      refine own_go (fun _ k => XS.sipush X0.here hx rfl (hb hby d_m3_32) k) ?_
      show own_Go p e below (s₁.setTop (mkF m 35 #[.val (.long b), .second, .val (.int ((((b.toUInt64 >>> ((16 : Int32) &&& 0x3f).toInt64.toUInt64).toInt64) &&& (3 : Int64)).toInt32)), .val (.int ((b &&& (65535 : Int64)).toInt32))] [(.int (1023 : Int32)), (.int ((b &&& (65535 : Int64)).toInt32)), (.int (55296 : Int32))])) _
      refine own_go (fun _ k => XS.iand X0.here hx rfl (hb hby d_m3_35) rfl k) ?_
      show own_Go p e below (s₁.setTop (mkF m 36 #[.val (.long b), .second, .val (.int ((((b.toUInt64 >>> ((16 : Int32) &&& 0x3f).toInt64.toUInt64).toInt64) &&& (3 : Int64)).toInt32)), .val (.int ((b &&& (65535 : Int64)).toInt32))] [(.int (((b &&& (65535 : Int64)).toInt32) &&& (1023 : Int32))), (.int (55296 : Int32))])) _
      refine own_go (fun _ k => XS.ior X0.here hx rfl (hb hby d_m3_36) rfl k) ?_
      show own_Go p e below (s₁.setTop (mkF m 37 #[.val (.long b), .second, .val (.int ((((b.toUInt64 >>> ((16 : Int32) &&& 0x3f).toInt64.toUInt64).toInt64) &&& (3 : Int64)).toInt32)), .val (.int ((b &&& (65535 : Int64)).toInt32))] [(.int ((55296 : Int32) ||| (((b &&& (65535 : Int64)).toInt32) &&& (1023 : Int32))))])) _
      refine own_go (fun _ k => XS.i2c X0.here hx rfl (hb hby d_m3_37) rfl k) ?_
      show own_Go p e below (s₁.setTop (mkF m 38 #[.val (.long b), .second, .val (.int ((((b.toUInt64 >>> ((16 : Int32) &&& 0x3f).toInt64.toUInt64).toInt64) &&& (3 : Int64)).toInt32)), .val (.int ((b &&& (65535 : Int64)).toInt32))] [(.int (((55296 : Int32) ||| (((b &&& (65535 : Int64)).toInt32) &&& (1023 : Int32))).toUInt32.toUInt16.toUInt32.toInt32))])) _
      refine own_fin (v := (some (.int (nar .char (((55296 : Int32) ||| (((b &&& (65535 : Int64)).toInt32) &&& (1023 : Int32))).toUInt32.toUInt16.toUInt32.toInt32))))) X0 (fun h => by rw [hrt] at h; cases h) hlk (fun fs hr => retN X0 hx (t := .char) hrt (by simp) (hb hby d_m3_38) hr) (QQ := QPure (some (.int (own_chv b))) h0 n0) ?_ (by decide) (by decide)
      rw [e0]
      exact ⟨by unfold own_chv; unfold own_kd; rw [if_neg hc142, if_pos hc143]; rfl, N0, rfl⟩
    · skip
      refine own_go (fun _ k => XS.icmpYes X0.here hx rfl (pc0 := 26) (pc' := 39) rfl (hb hby d_m3_26) rfl (feq hc143).2 (by decide) (by decide) k) ?_
      show own_Go p e below (s₁.setTop (mkF m 39 #[.val (.long b), .second, .val (.int ((((b.toUInt64 >>> ((16 : Int32) &&& 0x3f).toInt64.toUInt64).toInt64) &&& (3 : Int64)).toInt32)), .val (.int ((b &&& (65535 : Int64)).toInt32))] [])) _
      refine own_go (fun _ k => XS.iloadN X0.here hx rfl (hb hby d_m3_39) rfl k) ?_
      show own_Go p e below (s₁.setTop (mkF m 40 #[.val (.long b), .second, .val (.int ((((b.toUInt64 >>> ((16 : Int32) &&& 0x3f).toInt64.toUInt64).toInt64) &&& (3 : Int64)).toInt32)), .val (.int ((b &&& (65535 : Int64)).toInt32))] [(.int ((((b.toUInt64 >>> ((16 : Int32) &&& 0x3f).toInt64.toUInt64).toInt64) &&& (3 : Int64)).toInt32))])) _
      refine own_go (fun _ k => XS.iconst X0.here hx rfl (hb hby d_m3_40) k) ?_
      show own_Go p e below (s₁.setTop (mkF m 41 #[.val (.long b), .second, .val (.int ((((b.toUInt64 >>> ((16 : Int32) &&& 0x3f).toInt64.toUInt64).toInt64) &&& (3 : Int64)).toInt32)), .val (.int ((b &&& (65535 : Int64)).toInt32))] [(.int (2 : Int32)), (.int ((((b.toUInt64 >>> ((16 : Int32) &&& 0x3f).toInt64.toUInt64).toInt64) &&& (3 : Int64)).toInt32))])) _
      by_cases hc144 : ((((b.toUInt64 >>> ((16 : Int32) &&& 0x3f).toInt64.toUInt64).toInt64) &&& (3 : Int64)).toInt32) = (2 : Int32)
      · skip
        refine own_go (fun _ k => XS.icmpNo X0.here hx rfl (hb hby d_m3_41) rfl (teq hc144).2 k) ?_
        show own_Go p e below (s₁.setTop (mkF m 44 #[.val (.long b), .second, .val (.int ((((b.toUInt64 >>> ((16 : Int32) &&& 0x3f).toInt64.toUInt64).toInt64) &&& (3 : Int64)).toInt32)), .val (.int ((b &&& (65535 : Int64)).toInt32))] [])) _
        refine own_go (fun _ k => X0.ldcInt hx hown (mvT hZ (hw _ (List.mem_of_getElem? (i := 107) rfl))) (g := (mkF m 44 #[.val (.long b), .second, .val (.int ((((b.toUInt64 >>> ((16 : Int32) &&& 0x3f).toInt64.toUInt64).toInt64) &&& (3 : Int64)).toInt32)), .val (.int ((b &&& (65535 : Int64)).toInt32))] [])) rfl (hb hby d_m3_44) _ k) ?_
        show own_Go p e below (s₁.setTop (mkF m 46 #[.val (.long b), .second, .val (.int ((((b.toUInt64 >>> ((16 : Int32) &&& 0x3f).toInt64.toUInt64).toInt64) &&& (3 : Int64)).toInt32)), .val (.int ((b &&& (65535 : Int64)).toInt32))] [(.int (56320 : Int32))])) _
        refine own_go (fun _ k => XS.iloadN X0.here hx rfl (hb hby d_m3_46) rfl k) ?_
        show own_Go p e below (s₁.setTop (mkF m 47 #[.val (.long b), .second, .val (.int ((((b.toUInt64 >>> ((16 : Int32) &&& 0x3f).toInt64.toUInt64).toInt64) &&& (3 : Int64)).toInt32)), .val (.int ((b &&& (65535 : Int64)).toInt32))] [(.int ((b &&& (65535 : Int64)).toInt32)), (.int (56320 : Int32))])) _
        refine own_go (fun _ k => XS.sipush X0.here hx rfl (hb hby d_m3_47) k) ?_
        show own_Go p e below (s₁.setTop (mkF m 50 #[.val (.long b), .second, .val (.int ((((b.toUInt64 >>> ((16 : Int32) &&& 0x3f).toInt64.toUInt64).toInt64) &&& (3 : Int64)).toInt32)), .val (.int ((b &&& (65535 : Int64)).toInt32))] [(.int (1023 : Int32)), (.int ((b &&& (65535 : Int64)).toInt32)), (.int (56320 : Int32))])) _
        refine own_go (fun _ k => XS.iand X0.here hx rfl (hb hby d_m3_50) rfl k) ?_
        show own_Go p e below (s₁.setTop (mkF m 51 #[.val (.long b), .second, .val (.int ((((b.toUInt64 >>> ((16 : Int32) &&& 0x3f).toInt64.toUInt64).toInt64) &&& (3 : Int64)).toInt32)), .val (.int ((b &&& (65535 : Int64)).toInt32))] [(.int (((b &&& (65535 : Int64)).toInt32) &&& (1023 : Int32))), (.int (56320 : Int32))])) _
        refine own_go (fun _ k => XS.ior X0.here hx rfl (hb hby d_m3_51) rfl k) ?_
        show own_Go p e below (s₁.setTop (mkF m 52 #[.val (.long b), .second, .val (.int ((((b.toUInt64 >>> ((16 : Int32) &&& 0x3f).toInt64.toUInt64).toInt64) &&& (3 : Int64)).toInt32)), .val (.int ((b &&& (65535 : Int64)).toInt32))] [(.int ((56320 : Int32) ||| (((b &&& (65535 : Int64)).toInt32) &&& (1023 : Int32))))])) _
        refine own_go (fun _ k => XS.i2c X0.here hx rfl (hb hby d_m3_52) rfl k) ?_
        show own_Go p e below (s₁.setTop (mkF m 53 #[.val (.long b), .second, .val (.int ((((b.toUInt64 >>> ((16 : Int32) &&& 0x3f).toInt64.toUInt64).toInt64) &&& (3 : Int64)).toInt32)), .val (.int ((b &&& (65535 : Int64)).toInt32))] [(.int (((56320 : Int32) ||| (((b &&& (65535 : Int64)).toInt32) &&& (1023 : Int32))).toUInt32.toUInt16.toUInt32.toInt32))])) _
        refine own_fin (v := (some (.int (nar .char (((56320 : Int32) ||| (((b &&& (65535 : Int64)).toInt32) &&& (1023 : Int32))).toUInt32.toUInt16.toUInt32.toInt32))))) X0 (fun h => by rw [hrt] at h; cases h) hlk (fun fs hr => retN X0 hx (t := .char) hrt (by simp) (hb hby d_m3_53) hr) (QQ := QPure (some (.int (own_chv b))) h0 n0) ?_ (by decide) (by decide)
        rw [e0]
        exact ⟨by unfold own_chv; unfold own_kd; rw [if_neg hc142, if_neg hc143, if_pos hc144]; rfl, N0, rfl⟩
      · skip
        refine own_go (fun _ k => XS.icmpYes X0.here hx rfl (pc0 := 41) (pc' := 54) rfl (hb hby d_m3_41) rfl (feq hc144).2 (by decide) (by decide) k) ?_
        show own_Go p e below (s₁.setTop (mkF m 54 #[.val (.long b), .second, .val (.int ((((b.toUInt64 >>> ((16 : Int32) &&& 0x3f).toInt64.toUInt64).toInt64) &&& (3 : Int64)).toInt32)), .val (.int ((b &&& (65535 : Int64)).toInt32))] [])) _
        refine own_go (fun _ k => X0.ldcInt hx hown (mvT hZ (hw _ (List.mem_of_getElem? (i := 60) rfl))) (g := (mkF m 54 #[.val (.long b), .second, .val (.int ((((b.toUInt64 >>> ((16 : Int32) &&& 0x3f).toInt64.toUInt64).toInt64) &&& (3 : Int64)).toInt32)), .val (.int ((b &&& (65535 : Int64)).toInt32))] [])) rfl (hb hby d_m3_54) _ k) ?_
        show own_Go p e below (s₁.setTop (mkF m 56 #[.val (.long b), .second, .val (.int ((((b.toUInt64 >>> ((16 : Int32) &&& 0x3f).toInt64.toUInt64).toInt64) &&& (3 : Int64)).toInt32)), .val (.int ((b &&& (65535 : Int64)).toInt32))] [(.int (57344 : Int32))])) _
        refine own_go (fun _ k => XS.iloadN X0.here hx rfl (hb hby d_m3_56) rfl k) ?_
        show own_Go p e below (s₁.setTop (mkF m 57 #[.val (.long b), .second, .val (.int ((((b.toUInt64 >>> ((16 : Int32) &&& 0x3f).toInt64.toUInt64).toInt64) &&& (3 : Int64)).toInt32)), .val (.int ((b &&& (65535 : Int64)).toInt32))] [(.int ((b &&& (65535 : Int64)).toInt32)), (.int (57344 : Int32))])) _
        refine own_go (fun _ k => XS.sipush X0.here hx rfl (hb hby d_m3_57) k) ?_
        show own_Go p e below (s₁.setTop (mkF m 60 #[.val (.long b), .second, .val (.int ((((b.toUInt64 >>> ((16 : Int32) &&& 0x3f).toInt64.toUInt64).toInt64) &&& (3 : Int64)).toInt32)), .val (.int ((b &&& (65535 : Int64)).toInt32))] [(.int (8191 : Int32)), (.int ((b &&& (65535 : Int64)).toInt32)), (.int (57344 : Int32))])) _
        refine own_go (fun _ k => XS.iand X0.here hx rfl (hb hby d_m3_60) rfl k) ?_
        show own_Go p e below (s₁.setTop (mkF m 61 #[.val (.long b), .second, .val (.int ((((b.toUInt64 >>> ((16 : Int32) &&& 0x3f).toInt64.toUInt64).toInt64) &&& (3 : Int64)).toInt32)), .val (.int ((b &&& (65535 : Int64)).toInt32))] [(.int (((b &&& (65535 : Int64)).toInt32) &&& (8191 : Int32))), (.int (57344 : Int32))])) _
        refine own_go (fun _ k => XS.ior X0.here hx rfl (hb hby d_m3_61) rfl k) ?_
        show own_Go p e below (s₁.setTop (mkF m 62 #[.val (.long b), .second, .val (.int ((((b.toUInt64 >>> ((16 : Int32) &&& 0x3f).toInt64.toUInt64).toInt64) &&& (3 : Int64)).toInt32)), .val (.int ((b &&& (65535 : Int64)).toInt32))] [(.int ((57344 : Int32) ||| (((b &&& (65535 : Int64)).toInt32) &&& (8191 : Int32))))])) _
        refine own_go (fun _ k => XS.i2c X0.here hx rfl (hb hby d_m3_62) rfl k) ?_
        show own_Go p e below (s₁.setTop (mkF m 63 #[.val (.long b), .second, .val (.int ((((b.toUInt64 >>> ((16 : Int32) &&& 0x3f).toInt64.toUInt64).toInt64) &&& (3 : Int64)).toInt32)), .val (.int ((b &&& (65535 : Int64)).toInt32))] [(.int (((57344 : Int32) ||| (((b &&& (65535 : Int64)).toInt32) &&& (8191 : Int32))).toUInt32.toUInt16.toUInt32.toInt32))])) _
        refine own_fin (v := (some (.int (nar .char (((57344 : Int32) ||| (((b &&& (65535 : Int64)).toInt32) &&& (8191 : Int32))).toUInt32.toUInt16.toUInt32.toInt32))))) X0 (fun h => by rw [hrt] at h; cases h) hlk (fun fs hr => retN X0 hx (t := .char) hrt (by simp) (hb hby d_m3_63) hr) (QQ := QPure (some (.int (own_chv b))) h0 n0) ?_ (by decide) (by decide)
        rw [e0]
        exact ⟨by unfold own_chv; unfold own_kd; rw [if_neg hc142, if_neg hc143, if_neg hc144]; rfl, N0, rfl⟩

theorem d_m4_0 : decode method_4_code 0 = .ok (.iload_n 3, 1) := by decide +kernel
theorem d_m4_1 : decode method_4_code 1 = .ok (.ifCond .ne 14, 3) := by decide +kernel
theorem d_m4_4 : decode method_4_code 4 = .ok (.new 42, 3) := by decide +kernel
theorem d_m4_7 : decode method_4_code 7 = .ok (.dup, 1) := by decide +kernel
theorem d_m4_8 : decode method_4_code 8 = .ok (.iconst 0, 1) := by decide +kernel
theorem d_m4_9 : decode method_4_code 9 = .ok (.newarray .char, 2) := by decide +kernel
theorem d_m4_11 : decode method_4_code 11 = .ok (.invokespecial 44, 3) := by decide +kernel
theorem pd_17 : parseMethodDescriptor "([C)V" = some ⟨[(.array .char)], none⟩ := by decide +kernel
theorem d_m4_14 : decode method_4_code 14 = .ok (.areturn, 1) := by decide +kernel
theorem d_m4_15 : decode method_4_code 15 = .ok (.iload_n 3, 1) := by decide +kernel
theorem d_m4_16 : decode method_4_code 16 = .ok (.iconst 1, 1) := by decide +kernel
theorem d_m4_17 : decode method_4_code 17 = .ok (.if_icmp .ne 18, 3) := by decide +kernel
theorem d_m4_20 : decode method_4_code 20 = .ok (.new 42, 3) := by decide +kernel
theorem d_m4_23 : decode method_4_code 23 = .ok (.dup, 1) := by decide +kernel
theorem d_m4_24 : decode method_4_code 24 = .ok (.iconst 1, 1) := by decide +kernel
theorem d_m4_25 : decode method_4_code 25 = .ok (.newarray .char, 2) := by decide +kernel
theorem d_m4_27 : decode method_4_code 27 = .ok (.dup, 1) := by decide +kernel
theorem d_m4_28 : decode method_4_code 28 = .ok (.iconst 0, 1) := by decide +kernel
theorem d_m4_29 : decode method_4_code 29 = .ok (.iload_n 0, 1) := by decide +kernel
theorem d_m4_30 : decode method_4_code 30 = .ok (.castore, 1) := by decide +kernel
theorem d_m4_31 : decode method_4_code 31 = .ok (.invokespecial 44, 3) := by decide +kernel
theorem d_m4_34 : decode method_4_code 34 = .ok (.areturn, 1) := by decide +kernel
theorem d_m4_35 : decode method_4_code 35 = .ok (.iload_n 3, 1) := by decide +kernel
theorem d_m4_36 : decode method_4_code 36 = .ok (.iconst 2, 1) := by decide +kernel
theorem d_m4_37 : decode method_4_code 37 = .ok (.if_icmp .ne 22, 3) := by decide +kernel
theorem d_m4_40 : decode method_4_code 40 = .ok (.new 42, 3) := by decide +kernel
theorem d_m4_43 : decode method_4_code 43 = .ok (.dup, 1) := by decide +kernel
theorem d_m4_44 : decode method_4_code 44 = .ok (.iconst 2, 1) := by decide +kernel
theorem d_m4_45 : decode method_4_code 45 = .ok (.newarray .char, 2) := by decide +kernel
theorem d_m4_47 : decode method_4_code 47 = .ok (.dup, 1) := by decide +kernel
theorem d_m4_48 : decode method_4_code 48 = .ok (.iconst 0, 1) := by decide +kernel
theorem d_m4_49 : decode method_4_code 49 = .ok (.iload_n 0, 1) := by decide +kernel
theorem d_m4_50 : decode method_4_code 50 = .ok (.castore, 1) := by decide +kernel
theorem d_m4_51 : decode method_4_code 51 = .ok (.dup, 1) := by decide +kernel
theorem d_m4_52 : decode method_4_code 52 = .ok (.iconst 1, 1) := by decide +kernel
theorem d_m4_53 : decode method_4_code 53 = .ok (.iload_n 1, 1) := by decide +kernel
theorem d_m4_54 : decode method_4_code 54 = .ok (.castore, 1) := by decide +kernel
theorem d_m4_55 : decode method_4_code 55 = .ok (.invokespecial 44, 3) := by decide +kernel
theorem d_m4_58 : decode method_4_code 58 = .ok (.areturn, 1) := by decide +kernel
theorem d_m4_59 : decode method_4_code 59 = .ok (.new 42, 3) := by decide +kernel
theorem d_m4_62 : decode method_4_code 62 = .ok (.dup, 1) := by decide +kernel
theorem d_m4_63 : decode method_4_code 63 = .ok (.iconst 3, 1) := by decide +kernel
theorem d_m4_64 : decode method_4_code 64 = .ok (.newarray .char, 2) := by decide +kernel
theorem d_m4_66 : decode method_4_code 66 = .ok (.dup, 1) := by decide +kernel
theorem d_m4_67 : decode method_4_code 67 = .ok (.iconst 0, 1) := by decide +kernel
theorem d_m4_68 : decode method_4_code 68 = .ok (.iload_n 0, 1) := by decide +kernel
theorem d_m4_69 : decode method_4_code 69 = .ok (.castore, 1) := by decide +kernel
theorem d_m4_70 : decode method_4_code 70 = .ok (.dup, 1) := by decide +kernel
theorem d_m4_71 : decode method_4_code 71 = .ok (.iconst 1, 1) := by decide +kernel
theorem d_m4_72 : decode method_4_code 72 = .ok (.iload_n 1, 1) := by decide +kernel
theorem d_m4_73 : decode method_4_code 73 = .ok (.castore, 1) := by decide +kernel
theorem d_m4_74 : decode method_4_code 74 = .ok (.dup, 1) := by decide +kernel
theorem d_m4_75 : decode method_4_code 75 = .ok (.iconst 2, 1) := by decide +kernel
theorem d_m4_76 : decode method_4_code 76 = .ok (.iload_n 2, 1) := by decide +kernel
theorem d_m4_77 : decode method_4_code 77 = .ok (.castore, 1) := by decide +kernel
theorem d_m4_78 : decode method_4_code 78 = .ok (.invokespecial 44, 3) := by decide +kernel
theorem d_m4_81 : decode method_4_code 81 = .ok (.areturn, 1) := by decide +kernel
theorem ef_rm_mk (m : MethodId) (x0 : Int32) (x1 : Int32) (x2 : Int32) (x3 : Int32) : entryFrame m #[(.int x0), (.int x1), (.int x2), (.int x3)] 4 = mkF m 0 #[.val (.int x0), .val (.int x1), .val (.int x2), .val (.int x3)] [] := by
   first | (simp [entryFrame, mkF, argsToLocals, Value.category]; done) | rfl
set_option maxRecDepth 65536 in
set_option maxHeartbeats 40000000 in
theorem rm_mk (l : Launch) (Z : State) (a0 : Array Value) (hw : ∀ d ∈ tables_1, d.before a0 Z = true) (ws : List Jvm.Cond) (c0 : Int32) (c1 : Int32) (c2 : Int32) (n : Nat) (G1 : Int32) (G3 : Value) (h0 : Heap) (n0 : Nat) (O0 : Old Z n0 h0) (O2 : Sta Z Z.heap "java/lang/String" "COMPACT_STRINGS" "Z" (.int G1)) (P5 : ¬ (G1 = (0 : Int32))) (O4 : Sta Z Z.heap "jdk/internal/util/Preconditions" "SIOOBE_FORMATTER" "Ljava/util/function/BiFunction;" G3) (rG3 : G3.isRef = true) (OA : Sta Z Z.heap "java/lang/StringUTF16" "$assertionsDisabled" "Z" (.int (1 : Int32))) (OH : Sta Z Z.heap "java/lang/StringUTF16" "HI_BYTE_SHIFT" "I" (.int (0 : Int32))) (OL : Sta Z Z.heap "java/lang/StringUTF16" "LO_BYTE_SHIFT" "I" (.int (8 : Int32))) (b_c0 : ¬ c0 < 0 ∧ ¬ (65535 : Int32) < c0) (b_c1 : ¬ c1 < 0 ∧ ¬ (65535 : Int32) < c1) (b_c2 : ¬ c2 < 0 ∧ ¬ (65535 : Int32) < c2) (hn : n ≤ 3) :
    MetFree l (⟨"com/example/rolelattice/rolelattice/decision/CodePointsComparePinLaw", "mk", "(CCCI)Ljava/lang/String;"⟩ : MethodName) (head1 (Jvm.Cond.code (⟨"com/example/rolelattice/rolelattice/decision/CodePointsComparePinLaw", "mk", "(CCCI)Ljava/lang/String;"⟩ : MethodName) method_4_code 4 (some (.object "java/lang/String")) :: ws) ({ frames := 6, cells := 6, slots := 16, locals := 88 } : Room)) (fun aA U => aA = #[(.int c0), (.int c1), (.int c2), (.int (Int32.ofNat n))] ∧ Z.Warmed39 U.vm ∧ U.heap = h0 ∧ CHv Z own_EL U.vm h0) (fun _ _ _ _ _ => True) (fun _ U oO U' => ∃ rV rL, oO = .returned rV ∧ QMk Z (([c0, c1, c2] : List Int32).take n) h0 n0 rV U'.heap rL ∧ CHr Z own_EL U.vm U.heap U'.vm U'.heap ∧ ReturnedEndW U oO U' rL 6 16) := by
  refine MetFree.of_bodySF (plainFor_of_name pn_3) hisR ?_
  intro p e s m args below meth cC s₁ Bd hml0 hP hK
  obtain ⟨rfl, hZ, hh, hC0⟩ := hP
  have hx := Bd.exec
  have hby := Bd.bytes
  have hml : cC.maxLocals = 4 := hml0
  have hown : s.vm.findClass "com/example/rolelattice/rolelattice/decision/CodePointsComparePinLaw" = some m.cls := findClass_of_methodNamed Bd.named
  have hnm := (name_of_methodNamed Bd.named Bd.method).1
  have hrt := Bd.returns
  have hlk : meth.locks = false := Bd.notSynchronized
  have X0 : Stand p l e ({ frames := 6, cells := 6, slots := 16, locals := 88 } : Room) (s.setVm s.vm) m #[(.int c0), (.int c1), (.int c2), (.int (Int32.ofNat n))] below meth cC s₁ [] 0 0 := Stand.of_body Bd
  have e0 : s₁.heap = h0 := by rw [← hh, Bd.state]; rfl
  have N0 := Fr.nil n0
  have Z0 : n0 ≤ h0.size := O0.1 ▸ O0.2.1
  have hS0 : s.Since s.vm 0 := (State.WarmedH.refl s).since 0
  have C0 : CHr Z own_EL s.vm h0 s.vm h0 := CHr.refl hC0
  have own_wS := own_wSt hw
  have own_hEL := own_hELt hw
  show own_Go p e below (s₁.setTop (entryFrame m #[(.int c0), (.int c1), (.int c2), (.int (Int32.ofNat n))] 4)) (fun oO U' => ∃ rV rL, oO = .returned rV ∧ QMk Z (([c0, c1, c2] : List Int32).take n) h0 n0 rV U'.heap rL ∧ CHr Z own_EL s.vm s.heap U'.vm U'.heap ∧ ReturnedEndW s oO U' rL 6 16)
  refine own_go (fun _ k => castTop (ef_rm_mk m c0 c1 c2 _) k) ?_
  show own_Go p e below (s₁.setTop (mkF m 0 #[.val (.int c0), .val (.int c1), .val (.int c2), .val (.int (Int32.ofNat n))] [])) _
  rcases (by omega : n = 0 ∨ n = 1 ∨ n = 2 ∨ n = 3) with q | q | q | q
  · subst q
    show own_Go p e below (s₁.setTop (mkF m 0 #[.val (.int c0), .val (.int c1), .val (.int c2), .val (.int (0 : Int32))] [])) _
    show own_Go p e below (s₁.setTop (mkF m 0 #[.val (.int c0), .val (.int c1), .val (.int c2), .val (.int (0 : Int32))] [])) _
    refine own_go (fun _ k => XS.iloadN X0.here hx rfl (hb hby d_m4_0) rfl k) ?_
    show own_Go p e below (s₁.setTop (mkF m 1 #[.val (.int c0), .val (.int c1), .val (.int c2), .val (.int (0 : Int32))] [(.int (0 : Int32))])) _
    refine own_go (fun _ k => XS.ifNo X0.here hx rfl (hb hby d_m4_1) rfl ((if0 _ _).trans (teq (by decide : (0 : Int32) = (0 : Int32))).2) k) ?_
    show own_Go p e below (s₁.setTop (mkF m 4 #[.val (.int c0), .val (.int c1), .val (.int c2), .val (.int (0 : Int32))] [])) _
    obtain ⟨T145, h145, X145, e145, E145, A145, D145, U145, st145⟩ := newO X0 hx hZ hown (hw _ (List.mem_of_getElem? (i := 10) rfl)) (hw _ (List.mem_of_getElem? (i := 11) rfl)) (hw _ (List.mem_of_getElem? (i := 12) rfl)) e0 (g := (mkF m 4 #[.val (.int c0), .val (.int c1), .val (.int c2), .val (.int (0 : Int32))] [])) rfl (hb hby d_m4_4) (by decide) (by decide)
    obtain ⟨b145, g145⟩ : ∃ z, z = h0.size := ⟨_, rfl⟩
    rw [← g145] at A145 D145 U145 st145
    refine own_go st145 ?_
    have C146 := C0.trans (CHr.ext E145 C0.1)
    have F145_value : Fld Z h145 b145 "java/lang/String" "value" "[B" .null := D145 (Or.inr (hw _ (List.mem_of_getElem? (i := 25) rfl))) (ty := (.array .byte)) (by decide)
    have F145_coder : Fld Z h145 b145 "java/lang/String" "coder" "B" (.int (0 : Int32)) := D145 (Or.inr (hw _ (List.mem_of_getElem? (i := 26) rfl))) (ty := .byte) (by decide)
    show own_Go p e below (T145.setTop (mkF m 7 #[.val (.int c0), .val (.int c1), .val (.int c2), .val (.int (0 : Int32))] [(.ref b145)])) _
    refine own_go (fun _ k => XS.dup X145.here hx rfl (hb hby d_m4_7) rfl rfl k) ?_
    show own_Go p e below (T145.setTop (mkF m 8 #[.val (.int c0), .val (.int c1), .val (.int c2), .val (.int (0 : Int32))] [(.ref b145), (.ref b145)])) _
    refine own_go (fun _ k => XS.iconst X145.here hx rfl (hb hby d_m4_8) k) ?_
    show own_Go p e below (T145.setTop (mkF m 9 #[.val (.int c0), .val (.int c1), .val (.int c2), .val (.int (0 : Int32))] [(.int (0 : Int32)), (.ref b145), (.ref b145)])) _
    obtain ⟨T147, h147, k147, X147, e147, E147, A147, st147⟩ := newP X145 hx hZ (hw _ (List.mem_of_getElem? (i := 6) rfl)) e145 (g := (mkF m 9 #[.val (.int c0), .val (.int c1), .val (.int c2), .val (.int (0 : Int32))] [(.int (0 : Int32)), (.ref b145), (.ref b145)])) rfl (hb hby d_m4_9) rfl (by decide) (cap := 0) (by decide) (by decide) (by decide) (by decide)
    obtain ⟨b147, g147⟩ : ∃ z, z = h145.size := ⟨_, rfl⟩
    rw [← g147] at A147 st147
    refine own_go st147 ?_
    have C148 := C146.trans (CHr.ext E147 C146.1)
    have V147 : Arv Z h147 b147 k147 .char (0 : Int32) [] (.int (0 : Int32)) := (Arv.new A147 (by decide)).pad (pad_rep [] (.int (0 : Int32)) 0)
    show own_Go p e below (T147.setTop (mkF m 11 #[.val (.int c0), .val (.int c1), .val (.int c2), .val (.int (0 : Int32))] [(.ref b147), (.ref b145), (.ref b145)])) _
    obtain ⟨v149, _, ⟨T149, L149, k149, n149⟩, -, X149, hS149, hg149, ⟨Lc149, hQ149, l149, y149, z149, A149⟩, st149⟩ := X147.specialBackS hx (y := (⟨"java/lang/String", "<init>", "([C)V"⟩ : MethodName)) rfl hown (mvT hZ (hw _ (List.mem_of_getElem? (i := 13) rfl))) (mvT hZ (hw _ (List.mem_of_getElem? (i := 14) rfl))) (mvT hZ (hw _ (List.mem_of_getElem? (i := 15) rfl))) (by decide) (backOfSH (W := 1) (rm_i1e l Z a0 hw [] b145 b147 k147 h147 n0 ((O0.ext E145).ext E147) (A145.ext E147) (F145_value.ext E147) (F145_coder.ext E147) (Nat.le_trans Z0 (Nat.le_of_eq g145.symm)) V147) hZ (hw _ (List.mem_of_getElem? (i := 15) rfl)) (hw _ (List.mem_of_getElem? (i := 12) rfl)) (by decide) (by decide) own_hEL C148.1) (g := (mkF m 11 #[.val (.int c0), .val (.int c1), .val (.int c2), .val (.int (0 : Int32))] [(.ref b147), (.ref b145), (.ref b145)])) rfl (by rw [hml]; rfl) (Steps.refl _) (a := b145) (argsL := [(.ref b147)]) (rest := [(.ref b145)]) (lenOf pd_17 rfl) rfl (by show 2 * 0 + _ ≤ _; exact Nat.le_of_eq rfl) (hb hby d_m4_11) (fun _ _ => ⟨rfl, e147, (by decide : 2 + 4 ≤ _), (by decide : 4 + 8 ≤ _)⟩)
    dsimp only [Pt.U, Pt.locs, Pt.cells, Pt.slots] at X149 l149 y149 z149 st149 hQ149 hS149 hg149 A149
    subst l149 y149 z149
    refine own_gos st149 ?_
    obtain ⟨X149, hS149, hZ149, hown149⟩ := rebS hS0 (k0 := _) (n1 := T147.heap.size) (by rw [e147]; exact (Nat.zero_le _)) X149 hS149 hg149 hZ hown
    obtain ⟨t149, kt149, rfl, Nq149, K149, Fv149, Fc149, Vt149⟩ := hQ149
    have C150 := C148.trans A149
    have N149 := Fr.app N0 Nq149
    show own_Go p e below (T149.setTop (mkF m 14 #[.val (.int c0), .val (.int c1), .val (.int c2), .val (.int (0 : Int32))] [(.ref b145)])) _
    have f151 := ((((Keep.refl h0 []).ext E145).ext E147).trans K149 (allS (Or.inr (Nat.le_of_eq g145.symm)) all0))
    have f152 := ((A145.ext E147).keep K149)
    refine own_finW (v := (some (.ref b145))) X149 hh hZ149 hS149 (by rw [(rfl : T149.heap = T149.heap)]; exact (Nat.le_refl _)) (fun h => by rw [hrt] at h; cases h) hlk (fun fs hr => retR X149 hx hrt (by rfl) rfl rfl (hb hby d_m4_14) hr) (QQ := QMk Z (([c0, c1, c2] : List Int32).take 0) h0 n0) ?_ own_hEL (rfl : T149.heap = T149.heap) (C150) (by decide) (by decide)
    exact ⟨b145, t149, _, _, _, _, rfl, N149, f151, (Nat.le_of_eq g145.symm), f152, Fv149, Fc149, Vt149, own_cod0⟩
  · subst q
    show own_Go p e below (s₁.setTop (mkF m 0 #[.val (.int c0), .val (.int c1), .val (.int c2), .val (.int (1 : Int32))] [])) _
    show own_Go p e below (s₁.setTop (mkF m 0 #[.val (.int c0), .val (.int c1), .val (.int c2), .val (.int (1 : Int32))] [])) _
    refine own_go (fun _ k => XS.iloadN X0.here hx rfl (hb hby d_m4_0) rfl k) ?_
    show own_Go p e below (s₁.setTop (mkF m 1 #[.val (.int c0), .val (.int c1), .val (.int c2), .val (.int (1 : Int32))] [(.int (1 : Int32))])) _
    refine own_go (fun _ k => XS.ifYes X0.here hx rfl (pc0 := 1) (pc' := 15) rfl (hb hby d_m4_1) rfl ((if0 _ _).trans (feq (by decide : ¬ ((1 : Int32) = (0 : Int32)))).2) (by decide) (by decide) k) ?_
    show own_Go p e below (s₁.setTop (mkF m 15 #[.val (.int c0), .val (.int c1), .val (.int c2), .val (.int (1 : Int32))] [])) _
    refine own_go (fun _ k => XS.iloadN X0.here hx rfl (hb hby d_m4_15) rfl k) ?_
    show own_Go p e below (s₁.setTop (mkF m 16 #[.val (.int c0), .val (.int c1), .val (.int c2), .val (.int (1 : Int32))] [(.int (1 : Int32))])) _
    refine own_go (fun _ k => XS.iconst X0.here hx rfl (hb hby d_m4_16) k) ?_
    show own_Go p e below (s₁.setTop (mkF m 17 #[.val (.int c0), .val (.int c1), .val (.int c2), .val (.int (1 : Int32))] [(.int (1 : Int32)), (.int (1 : Int32))])) _
    refine own_go (fun _ k => XS.icmpNo X0.here hx rfl (hb hby d_m4_17) rfl (teq (by decide : (1 : Int32) = (1 : Int32))).2 k) ?_
    show own_Go p e below (s₁.setTop (mkF m 20 #[.val (.int c0), .val (.int c1), .val (.int c2), .val (.int (1 : Int32))] [])) _
    obtain ⟨T153, h153, X153, e153, E153, A153, D153, U153, st153⟩ := newO X0 hx hZ hown (hw _ (List.mem_of_getElem? (i := 10) rfl)) (hw _ (List.mem_of_getElem? (i := 11) rfl)) (hw _ (List.mem_of_getElem? (i := 12) rfl)) e0 (g := (mkF m 20 #[.val (.int c0), .val (.int c1), .val (.int c2), .val (.int (1 : Int32))] [])) rfl (hb hby d_m4_20) (by decide) (by decide)
    obtain ⟨b153, g153⟩ : ∃ z, z = h0.size := ⟨_, rfl⟩
    rw [← g153] at A153 D153 U153 st153
    refine own_go st153 ?_
    have C154 := C0.trans (CHr.ext E153 C0.1)
    have F153_value : Fld Z h153 b153 "java/lang/String" "value" "[B" .null := D153 (Or.inr (hw _ (List.mem_of_getElem? (i := 25) rfl))) (ty := (.array .byte)) (by decide)
    have F153_coder : Fld Z h153 b153 "java/lang/String" "coder" "B" (.int (0 : Int32)) := D153 (Or.inr (hw _ (List.mem_of_getElem? (i := 26) rfl))) (ty := .byte) (by decide)
    show own_Go p e below (T153.setTop (mkF m 23 #[.val (.int c0), .val (.int c1), .val (.int c2), .val (.int (1 : Int32))] [(.ref b153)])) _
    refine own_go (fun _ k => XS.dup X153.here hx rfl (hb hby d_m4_23) rfl rfl k) ?_
    show own_Go p e below (T153.setTop (mkF m 24 #[.val (.int c0), .val (.int c1), .val (.int c2), .val (.int (1 : Int32))] [(.ref b153), (.ref b153)])) _
    refine own_go (fun _ k => XS.iconst X153.here hx rfl (hb hby d_m4_24) k) ?_
    show own_Go p e below (T153.setTop (mkF m 25 #[.val (.int c0), .val (.int c1), .val (.int c2), .val (.int (1 : Int32))] [(.int (1 : Int32)), (.ref b153), (.ref b153)])) _
    obtain ⟨T155, h155, k155, X155, e155, E155, A155, st155⟩ := newP X153 hx hZ (hw _ (List.mem_of_getElem? (i := 6) rfl)) e153 (g := (mkF m 25 #[.val (.int c0), .val (.int c1), .val (.int c2), .val (.int (1 : Int32))] [(.int (1 : Int32)), (.ref b153), (.ref b153)])) rfl (hb hby d_m4_25) rfl (by decide) (cap := 1) (by decide) (by decide) (by decide) (by decide)
    obtain ⟨b155, g155⟩ : ∃ z, z = h153.size := ⟨_, rfl⟩
    rw [← g155] at A155 st155
    refine own_go st155 ?_
    have C156 := C154.trans (CHr.ext E155 C154.1)
    have V155 : Arv Z h155 b155 k155 .char (1 : Int32) [(.int (0 : Int32))] (.int (0 : Int32)) := (Arv.new A155 (by decide)).pad (pad_rep [] (.int (0 : Int32)) 1)
    show own_Go p e below (T155.setTop (mkF m 27 #[.val (.int c0), .val (.int c1), .val (.int c2), .val (.int (1 : Int32))] [(.ref b155), (.ref b153), (.ref b153)])) _
    refine own_go (fun _ k => XS.dup X155.here hx rfl (hb hby d_m4_27) rfl rfl k) ?_
    show own_Go p e below (T155.setTop (mkF m 28 #[.val (.int c0), .val (.int c1), .val (.int c2), .val (.int (1 : Int32))] [(.ref b155), (.ref b155), (.ref b153), (.ref b153)])) _
    refine own_go (fun _ k => XS.iconst X155.here hx rfl (hb hby d_m4_28) k) ?_
    show own_Go p e below (T155.setTop (mkF m 29 #[.val (.int c0), .val (.int c1), .val (.int c2), .val (.int (1 : Int32))] [(.int (0 : Int32)), (.ref b155), (.ref b155), (.ref b153), (.ref b153)])) _
    refine own_go (fun _ k => XS.iloadN X155.here hx rfl (hb hby d_m4_29) rfl k) ?_
    show own_Go p e below (T155.setTop (mkF m 30 #[.val (.int c0), .val (.int c1), .val (.int c2), .val (.int (1 : Int32))] [(.int c0), (.int (0 : Int32)), (.ref b155), (.ref b155), (.ref b153), (.ref b153)])) _
    obtain ⟨c157, A157, q157, S157, M157, Hs157, Gs157⟩ := id V155
    obtain ⟨T158, h158, X158, e158, W158, st158⟩ := stC X155 hx hZ e155 A157 (j := (0 : Int32)) (inb_of S157 ⟨by decide, by decide⟩) (g := (mkF m 30 #[.val (.int c0), .val (.int c1), .val (.int c2), .val (.int (1 : Int32))] [(.int c0), (.int (0 : Int32)), (.ref b155), (.ref b155), (.ref b153), (.ref b153)])) rfl rfl (hb hby d_m4_30)
    refine own_go st158 ?_
    have N158 := Fr.snoc X158 N0 (Nat.le_trans Z0 (Nat.le_trans E153.1 (Nat.le_of_eq g155.symm)))
    have f159 := (Safe.ext E155 C154.1 (Safe.new (Nat.le_of_eq g155.symm)))
    have C160 := C156.trans (CHr.wr W158 f159 C156.1)
    have V158 : Arv Z h158 b155 k155 .char (1 : Int32) [(.int (nar .char c0))] (.int (0 : Int32)) := Arv.set A157 q157 S157 M157 Hs157 Gs157 (fits_nar_char _) W158 0 rfl (Nat.le_of_ble_eq_true rfl)
    have V158q : Arv Z h158 b155 k155 .char (1 : Int32) [(.int c0)] (.int (0 : Int32)) := by rw [show nar .char c0 = c0 from (own_nc b_c0.1 b_c0.2)] at V158; exact V158
    show own_Go p e below (T158.setTop (mkF m 31 #[.val (.int c0), .val (.int c1), .val (.int c2), .val (.int (1 : Int32))] [(.ref b155), (.ref b153), (.ref b153)])) _
    have f161 := ((A153.ext E155).wr W158)
    have ne162 : b153 ≠ b155 := Nat.ne_of_lt (Nat.lt_of_lt_of_le A153.lt (Nat.le_of_eq g155.symm))
    have f163 := ((F153_value.ext E155).other W158 (Or.inl ne162))
    have f164 := ((F153_coder.ext E155).other W158 (Or.inl ne162))
    have f165 := (((O0.ext E153).ext E155).wr W158 (Nat.le_trans Z0 (Nat.le_trans E153.1 (Nat.le_of_eq g155.symm))))
    obtain ⟨v166, _, ⟨T166, L166, k166, n166⟩, -, X166, ⟨Lc166, hQ166, l166, y166, z166⟩, st166⟩ := X158.specialBack hx (y := (⟨"java/lang/String", "<init>", "([C)V"⟩ : MethodName)) rfl hown (mvT hZ (hw _ (List.mem_of_getElem? (i := 13) rfl))) (mvT hZ (hw _ (List.mem_of_getElem? (i := 14) rfl))) (mvT hZ (hw _ (List.mem_of_getElem? (i := 15) rfl))) (by decide) (backOf (W := 1) (rm_i1 l Z a0 hw [] b153 b155 k155 (.int (0 : Int32)) ([c0] : List Int32) G1 h158 n0 f165 f161 f163 f164 (Nat.le_trans Z0 (Nat.le_of_eq g153.symm)) OA OH OL O2 P5 (own_okL1 b_c0) V158q (Nat.le_of_ble_eq_true rfl) (Nat.le_of_ble_eq_true rfl)) hZ (hw _ (List.mem_of_getElem? (i := 15) rfl)) (hw _ (List.mem_of_getElem? (i := 12) rfl)) (by decide) (by decide)) (g := (mkF m 31 #[.val (.int c0), .val (.int c1), .val (.int c2), .val (.int (1 : Int32))] [(.ref b155), (.ref b153), (.ref b153)])) rfl (by rw [hml]; rfl) (Steps.refl _) (a := b153) (argsL := [(.ref b155)]) (rest := [(.ref b153)]) (lenOf pd_17 rfl) rfl (by show 2 * 0 + _ ≤ _; exact Nat.le_of_eq rfl) (hb hby d_m4_31) (fun _ _ => ⟨rfl, e158, (by decide : 2 + 2 ≤ _), (by decide : 5 + 9 ≤ _)⟩)
    dsimp only [Pt.U, Pt.locs, Pt.cells, Pt.slots] at X166 l166 y166 z166 st166 hQ166
    subst l166 y166 z166
    refine own_gos st166 ?_
    obtain ⟨t166, kt166, cd166, N2166, vs166, rfl, Nq166, K166, Fv166, Fc166, Vt166, hC166⟩ := hQ166
    have f167 := (Safe.wr W158 f159 C156.1 (Safe.ext E155 C154.1 (Safe.ext E153 C0.1 (Safe.new (Nat.le_of_eq g153.symm)))))
    have C168 := C160.trans (CHr.keep K166 (sfS f167 sf0) C160.1)
    have N166 := Fr.app N158 Nq166
    show own_Go p e below (T166.setTop (mkF m 34 #[.val (.int c0), .val (.int c1), .val (.int c2), .val (.int (1 : Int32))] [(.ref b153)])) _
    have f169 := (((((Keep.refl h0 []).ext E153).ext E155).wr W158 (Or.inr (Nat.le_trans E153.1 (Nat.le_of_eq g155.symm)))).trans K166 (allS (Or.inr (Nat.le_of_eq g153.symm)) all0))
    refine own_finW (v := (some (.ref b153))) X166 hh hZ hS0 (by rw [(rfl : T166.heap = T166.heap)]; exact (Nat.zero_le _)) (fun h => by rw [hrt] at h; cases h) hlk (fun fs hr => retR X166 hx hrt (by rfl) rfl rfl (hb hby d_m4_34) hr) (QQ := QMk Z (([c0, c1, c2] : List Int32).take 1) h0 n0) ?_ own_hEL (rfl : T166.heap = T166.heap) (C168) (by decide) (by decide)
    exact ⟨b153, t166, _, _, _, _, rfl, N166, f169, (Nat.le_of_eq g153.symm), (f161.keep K166), Fv166, Fc166, Vt166, hC166⟩
  · subst q
    show own_Go p e below (s₁.setTop (mkF m 0 #[.val (.int c0), .val (.int c1), .val (.int c2), .val (.int (2 : Int32))] [])) _
    show own_Go p e below (s₁.setTop (mkF m 0 #[.val (.int c0), .val (.int c1), .val (.int c2), .val (.int (2 : Int32))] [])) _
    refine own_go (fun _ k => XS.iloadN X0.here hx rfl (hb hby d_m4_0) rfl k) ?_
    show own_Go p e below (s₁.setTop (mkF m 1 #[.val (.int c0), .val (.int c1), .val (.int c2), .val (.int (2 : Int32))] [(.int (2 : Int32))])) _
    refine own_go (fun _ k => XS.ifYes X0.here hx rfl (pc0 := 1) (pc' := 15) rfl (hb hby d_m4_1) rfl ((if0 _ _).trans (feq (by decide : ¬ ((2 : Int32) = (0 : Int32)))).2) (by decide) (by decide) k) ?_
    show own_Go p e below (s₁.setTop (mkF m 15 #[.val (.int c0), .val (.int c1), .val (.int c2), .val (.int (2 : Int32))] [])) _
    refine own_go (fun _ k => XS.iloadN X0.here hx rfl (hb hby d_m4_15) rfl k) ?_
    show own_Go p e below (s₁.setTop (mkF m 16 #[.val (.int c0), .val (.int c1), .val (.int c2), .val (.int (2 : Int32))] [(.int (2 : Int32))])) _
    refine own_go (fun _ k => XS.iconst X0.here hx rfl (hb hby d_m4_16) k) ?_
    show own_Go p e below (s₁.setTop (mkF m 17 #[.val (.int c0), .val (.int c1), .val (.int c2), .val (.int (2 : Int32))] [(.int (1 : Int32)), (.int (2 : Int32))])) _
    refine own_go (fun _ k => XS.icmpYes X0.here hx rfl (pc0 := 17) (pc' := 35) rfl (hb hby d_m4_17) rfl (feq (by decide : ¬ ((2 : Int32) = (1 : Int32)))).2 (by decide) (by decide) k) ?_
    show own_Go p e below (s₁.setTop (mkF m 35 #[.val (.int c0), .val (.int c1), .val (.int c2), .val (.int (2 : Int32))] [])) _
    refine own_go (fun _ k => XS.iloadN X0.here hx rfl (hb hby d_m4_35) rfl k) ?_
    show own_Go p e below (s₁.setTop (mkF m 36 #[.val (.int c0), .val (.int c1), .val (.int c2), .val (.int (2 : Int32))] [(.int (2 : Int32))])) _
    refine own_go (fun _ k => XS.iconst X0.here hx rfl (hb hby d_m4_36) k) ?_
    show own_Go p e below (s₁.setTop (mkF m 37 #[.val (.int c0), .val (.int c1), .val (.int c2), .val (.int (2 : Int32))] [(.int (2 : Int32)), (.int (2 : Int32))])) _
    refine own_go (fun _ k => XS.icmpNo X0.here hx rfl (hb hby d_m4_37) rfl (teq (by decide : (2 : Int32) = (2 : Int32))).2 k) ?_
    show own_Go p e below (s₁.setTop (mkF m 40 #[.val (.int c0), .val (.int c1), .val (.int c2), .val (.int (2 : Int32))] [])) _
    obtain ⟨T170, h170, X170, e170, E170, A170, D170, U170, st170⟩ := newO X0 hx hZ hown (hw _ (List.mem_of_getElem? (i := 10) rfl)) (hw _ (List.mem_of_getElem? (i := 11) rfl)) (hw _ (List.mem_of_getElem? (i := 12) rfl)) e0 (g := (mkF m 40 #[.val (.int c0), .val (.int c1), .val (.int c2), .val (.int (2 : Int32))] [])) rfl (hb hby d_m4_40) (by decide) (by decide)
    obtain ⟨b170, g170⟩ : ∃ z, z = h0.size := ⟨_, rfl⟩
    rw [← g170] at A170 D170 U170 st170
    refine own_go st170 ?_
    have C171 := C0.trans (CHr.ext E170 C0.1)
    have F170_value : Fld Z h170 b170 "java/lang/String" "value" "[B" .null := D170 (Or.inr (hw _ (List.mem_of_getElem? (i := 25) rfl))) (ty := (.array .byte)) (by decide)
    have F170_coder : Fld Z h170 b170 "java/lang/String" "coder" "B" (.int (0 : Int32)) := D170 (Or.inr (hw _ (List.mem_of_getElem? (i := 26) rfl))) (ty := .byte) (by decide)
    show own_Go p e below (T170.setTop (mkF m 43 #[.val (.int c0), .val (.int c1), .val (.int c2), .val (.int (2 : Int32))] [(.ref b170)])) _
    refine own_go (fun _ k => XS.dup X170.here hx rfl (hb hby d_m4_43) rfl rfl k) ?_
    show own_Go p e below (T170.setTop (mkF m 44 #[.val (.int c0), .val (.int c1), .val (.int c2), .val (.int (2 : Int32))] [(.ref b170), (.ref b170)])) _
    refine own_go (fun _ k => XS.iconst X170.here hx rfl (hb hby d_m4_44) k) ?_
    show own_Go p e below (T170.setTop (mkF m 45 #[.val (.int c0), .val (.int c1), .val (.int c2), .val (.int (2 : Int32))] [(.int (2 : Int32)), (.ref b170), (.ref b170)])) _
    obtain ⟨T172, h172, k172, X172, e172, E172, A172, st172⟩ := newP X170 hx hZ (hw _ (List.mem_of_getElem? (i := 6) rfl)) e170 (g := (mkF m 45 #[.val (.int c0), .val (.int c1), .val (.int c2), .val (.int (2 : Int32))] [(.int (2 : Int32)), (.ref b170), (.ref b170)])) rfl (hb hby d_m4_45) rfl (by decide) (cap := 2) (by decide) (by decide) (by decide) (by decide)
    obtain ⟨b172, g172⟩ : ∃ z, z = h170.size := ⟨_, rfl⟩
    rw [← g172] at A172 st172
    refine own_go st172 ?_
    have C173 := C171.trans (CHr.ext E172 C171.1)
    have V172 : Arv Z h172 b172 k172 .char (2 : Int32) [(.int (0 : Int32)), (.int (0 : Int32))] (.int (0 : Int32)) := (Arv.new A172 (by decide)).pad (pad_rep [] (.int (0 : Int32)) 2)
    show own_Go p e below (T172.setTop (mkF m 47 #[.val (.int c0), .val (.int c1), .val (.int c2), .val (.int (2 : Int32))] [(.ref b172), (.ref b170), (.ref b170)])) _
    refine own_go (fun _ k => XS.dup X172.here hx rfl (hb hby d_m4_47) rfl rfl k) ?_
    show own_Go p e below (T172.setTop (mkF m 48 #[.val (.int c0), .val (.int c1), .val (.int c2), .val (.int (2 : Int32))] [(.ref b172), (.ref b172), (.ref b170), (.ref b170)])) _
    refine own_go (fun _ k => XS.iconst X172.here hx rfl (hb hby d_m4_48) k) ?_
    show own_Go p e below (T172.setTop (mkF m 49 #[.val (.int c0), .val (.int c1), .val (.int c2), .val (.int (2 : Int32))] [(.int (0 : Int32)), (.ref b172), (.ref b172), (.ref b170), (.ref b170)])) _
    refine own_go (fun _ k => XS.iloadN X172.here hx rfl (hb hby d_m4_49) rfl k) ?_
    show own_Go p e below (T172.setTop (mkF m 50 #[.val (.int c0), .val (.int c1), .val (.int c2), .val (.int (2 : Int32))] [(.int c0), (.int (0 : Int32)), (.ref b172), (.ref b172), (.ref b170), (.ref b170)])) _
    obtain ⟨c174, A174, q174, S174, M174, Hs174, Gs174⟩ := id V172
    obtain ⟨T175, h175, X175, e175, W175, st175⟩ := stC X172 hx hZ e172 A174 (j := (0 : Int32)) (inb_of S174 ⟨by decide, by decide⟩) (g := (mkF m 50 #[.val (.int c0), .val (.int c1), .val (.int c2), .val (.int (2 : Int32))] [(.int c0), (.int (0 : Int32)), (.ref b172), (.ref b172), (.ref b170), (.ref b170)])) rfl rfl (hb hby d_m4_50)
    refine own_go st175 ?_
    have N175 := Fr.snoc X175 N0 (Nat.le_trans Z0 (Nat.le_trans E170.1 (Nat.le_of_eq g172.symm)))
    have f176 := (Safe.ext E172 C171.1 (Safe.new (Nat.le_of_eq g172.symm)))
    have C177 := C173.trans (CHr.wr W175 f176 C173.1)
    have V175 : Arv Z h175 b172 k172 .char (2 : Int32) [(.int (nar .char c0)), (.int (0 : Int32))] (.int (0 : Int32)) := Arv.set A174 q174 S174 M174 Hs174 Gs174 (fits_nar_char _) W175 0 rfl (Nat.le_of_ble_eq_true rfl)
    have V175q : Arv Z h175 b172 k172 .char (2 : Int32) [(.int c0), (.int (0 : Int32))] (.int (0 : Int32)) := by rw [show nar .char c0 = c0 from (own_nc b_c0.1 b_c0.2)] at V175; exact V175
    show own_Go p e below (T175.setTop (mkF m 51 #[.val (.int c0), .val (.int c1), .val (.int c2), .val (.int (2 : Int32))] [(.ref b172), (.ref b170), (.ref b170)])) _
    refine own_go (fun _ k => XS.dup X175.here hx rfl (hb hby d_m4_51) rfl rfl k) ?_
    show own_Go p e below (T175.setTop (mkF m 52 #[.val (.int c0), .val (.int c1), .val (.int c2), .val (.int (2 : Int32))] [(.ref b172), (.ref b172), (.ref b170), (.ref b170)])) _
    refine own_go (fun _ k => XS.iconst X175.here hx rfl (hb hby d_m4_52) k) ?_
    show own_Go p e below (T175.setTop (mkF m 53 #[.val (.int c0), .val (.int c1), .val (.int c2), .val (.int (2 : Int32))] [(.int (1 : Int32)), (.ref b172), (.ref b172), (.ref b170), (.ref b170)])) _
    refine own_go (fun _ k => XS.iloadN X175.here hx rfl (hb hby d_m4_53) rfl k) ?_
    show own_Go p e below (T175.setTop (mkF m 54 #[.val (.int c0), .val (.int c1), .val (.int c2), .val (.int (2 : Int32))] [(.int c1), (.int (1 : Int32)), (.ref b172), (.ref b172), (.ref b170), (.ref b170)])) _
    obtain ⟨c178, A178, q178, S178, M178, Hs178, Gs178⟩ := id V175q
    obtain ⟨T179, h179, X179, e179, W179, st179⟩ := stC X175 hx hZ e175 A178 (j := (1 : Int32)) (inb_of S178 ⟨by decide, by decide⟩) (g := (mkF m 54 #[.val (.int c0), .val (.int c1), .val (.int c2), .val (.int (2 : Int32))] [(.int c1), (.int (1 : Int32)), (.ref b172), (.ref b172), (.ref b170), (.ref b170)])) rfl rfl (hb hby d_m4_54)
    refine own_go st179 ?_
    have N179 := Fr.snoc X179 N175 (Nat.le_trans Z0 (Nat.le_trans E170.1 (Nat.le_of_eq g172.symm)))
    have f180 := (Safe.wr W175 f176 C173.1 f176)
    have C181 := C177.trans (CHr.wr W179 f180 C177.1)
    have V179 : Arv Z h179 b172 k172 .char (2 : Int32) [(.int c0), (.int (nar .char c1))] (.int (0 : Int32)) := Arv.set A178 q178 S178 M178 Hs178 Gs178 (fits_nar_char _) W179 1 rfl (Nat.le_of_ble_eq_true rfl)
    have V179q : Arv Z h179 b172 k172 .char (2 : Int32) [(.int c0), (.int c1)] (.int (0 : Int32)) := by rw [show nar .char c1 = c1 from (own_nc b_c1.1 b_c1.2)] at V179; exact V179
    show own_Go p e below (T179.setTop (mkF m 55 #[.val (.int c0), .val (.int c1), .val (.int c2), .val (.int (2 : Int32))] [(.ref b172), (.ref b170), (.ref b170)])) _
    have f182 := (((A170.ext E172).wr W175).wr W179)
    have ne183 : b170 ≠ b172 := Nat.ne_of_lt (Nat.lt_of_lt_of_le A170.lt (Nat.le_of_eq g172.symm))
    have f184 := (((F170_value.ext E172).other W175 (Or.inl ne183)).other W179 (Or.inl ne183))
    have f185 := (((F170_coder.ext E172).other W175 (Or.inl ne183)).other W179 (Or.inl ne183))
    have f186 := ((((O0.ext E170).ext E172).wr W175 (Nat.le_trans Z0 (Nat.le_trans E170.1 (Nat.le_of_eq g172.symm)))).wr W179 (Nat.le_trans Z0 (Nat.le_trans E170.1 (Nat.le_of_eq g172.symm))))
    obtain ⟨v187, _, ⟨T187, L187, k187, n187⟩, -, X187, ⟨Lc187, hQ187, l187, y187, z187⟩, st187⟩ := X179.specialBack hx (y := (⟨"java/lang/String", "<init>", "([C)V"⟩ : MethodName)) rfl hown (mvT hZ (hw _ (List.mem_of_getElem? (i := 13) rfl))) (mvT hZ (hw _ (List.mem_of_getElem? (i := 14) rfl))) (mvT hZ (hw _ (List.mem_of_getElem? (i := 15) rfl))) (by decide) (backOf (W := 1) (rm_i1 l Z a0 hw [] b170 b172 k172 (.int (0 : Int32)) ([c0, c1] : List Int32) G1 h179 n0 f186 f182 f184 f185 (Nat.le_trans Z0 (Nat.le_of_eq g170.symm)) OA OH OL O2 P5 (own_okL2 b_c0 b_c1) V179q (Nat.le_of_ble_eq_true rfl) (Nat.le_of_ble_eq_true rfl)) hZ (hw _ (List.mem_of_getElem? (i := 15) rfl)) (hw _ (List.mem_of_getElem? (i := 12) rfl)) (by decide) (by decide)) (g := (mkF m 55 #[.val (.int c0), .val (.int c1), .val (.int c2), .val (.int (2 : Int32))] [(.ref b172), (.ref b170), (.ref b170)])) rfl (by rw [hml]; rfl) (Steps.refl _) (a := b170) (argsL := [(.ref b172)]) (rest := [(.ref b170)]) (lenOf pd_17 rfl) rfl (by show 2 * 0 + _ ≤ _; exact Nat.le_of_eq rfl) (hb hby d_m4_55) (fun _ _ => ⟨rfl, e179, (by decide : 2 + 2 ≤ _), (by decide : 6 + 9 ≤ _)⟩)
    dsimp only [Pt.U, Pt.locs, Pt.cells, Pt.slots] at X187 l187 y187 z187 st187 hQ187
    subst l187 y187 z187
    refine own_gos st187 ?_
    obtain ⟨t187, kt187, cd187, N2187, vs187, rfl, Nq187, K187, Fv187, Fc187, Vt187, hC187⟩ := hQ187
    have f188 := (Safe.wr W179 f180 C177.1 (Safe.wr W175 f176 C173.1 (Safe.ext E172 C171.1 (Safe.ext E170 C0.1 (Safe.new (Nat.le_of_eq g170.symm))))))
    have C189 := C181.trans (CHr.keep K187 (sfS f188 sf0) C181.1)
    have N187 := Fr.app N179 Nq187
    show own_Go p e below (T187.setTop (mkF m 58 #[.val (.int c0), .val (.int c1), .val (.int c2), .val (.int (2 : Int32))] [(.ref b170)])) _
    have f190 := ((((((Keep.refl h0 []).ext E170).ext E172).wr W175 (Or.inr (Nat.le_trans E170.1 (Nat.le_of_eq g172.symm)))).wr W179 (Or.inr (Nat.le_trans E170.1 (Nat.le_of_eq g172.symm)))).trans K187 (allS (Or.inr (Nat.le_of_eq g170.symm)) all0))
    refine own_finW (v := (some (.ref b170))) X187 hh hZ hS0 (by rw [(rfl : T187.heap = T187.heap)]; exact (Nat.zero_le _)) (fun h => by rw [hrt] at h; cases h) hlk (fun fs hr => retR X187 hx hrt (by rfl) rfl rfl (hb hby d_m4_58) hr) (QQ := QMk Z (([c0, c1, c2] : List Int32).take 2) h0 n0) ?_ own_hEL (rfl : T187.heap = T187.heap) (C189) (by decide) (by decide)
    exact ⟨b170, t187, _, _, _, _, rfl, N187, f190, (Nat.le_of_eq g170.symm), (f182.keep K187), Fv187, Fc187, Vt187, hC187⟩
  · subst q
    show own_Go p e below (s₁.setTop (mkF m 0 #[.val (.int c0), .val (.int c1), .val (.int c2), .val (.int (3 : Int32))] [])) _
    show own_Go p e below (s₁.setTop (mkF m 0 #[.val (.int c0), .val (.int c1), .val (.int c2), .val (.int (3 : Int32))] [])) _
    refine own_go (fun _ k => XS.iloadN X0.here hx rfl (hb hby d_m4_0) rfl k) ?_
    show own_Go p e below (s₁.setTop (mkF m 1 #[.val (.int c0), .val (.int c1), .val (.int c2), .val (.int (3 : Int32))] [(.int (3 : Int32))])) _
    refine own_go (fun _ k => XS.ifYes X0.here hx rfl (pc0 := 1) (pc' := 15) rfl (hb hby d_m4_1) rfl ((if0 _ _).trans (feq (by decide : ¬ ((3 : Int32) = (0 : Int32)))).2) (by decide) (by decide) k) ?_
    show own_Go p e below (s₁.setTop (mkF m 15 #[.val (.int c0), .val (.int c1), .val (.int c2), .val (.int (3 : Int32))] [])) _
    refine own_go (fun _ k => XS.iloadN X0.here hx rfl (hb hby d_m4_15) rfl k) ?_
    show own_Go p e below (s₁.setTop (mkF m 16 #[.val (.int c0), .val (.int c1), .val (.int c2), .val (.int (3 : Int32))] [(.int (3 : Int32))])) _
    refine own_go (fun _ k => XS.iconst X0.here hx rfl (hb hby d_m4_16) k) ?_
    show own_Go p e below (s₁.setTop (mkF m 17 #[.val (.int c0), .val (.int c1), .val (.int c2), .val (.int (3 : Int32))] [(.int (1 : Int32)), (.int (3 : Int32))])) _
    refine own_go (fun _ k => XS.icmpYes X0.here hx rfl (pc0 := 17) (pc' := 35) rfl (hb hby d_m4_17) rfl (feq (by decide : ¬ ((3 : Int32) = (1 : Int32)))).2 (by decide) (by decide) k) ?_
    show own_Go p e below (s₁.setTop (mkF m 35 #[.val (.int c0), .val (.int c1), .val (.int c2), .val (.int (3 : Int32))] [])) _
    refine own_go (fun _ k => XS.iloadN X0.here hx rfl (hb hby d_m4_35) rfl k) ?_
    show own_Go p e below (s₁.setTop (mkF m 36 #[.val (.int c0), .val (.int c1), .val (.int c2), .val (.int (3 : Int32))] [(.int (3 : Int32))])) _
    refine own_go (fun _ k => XS.iconst X0.here hx rfl (hb hby d_m4_36) k) ?_
    show own_Go p e below (s₁.setTop (mkF m 37 #[.val (.int c0), .val (.int c1), .val (.int c2), .val (.int (3 : Int32))] [(.int (2 : Int32)), (.int (3 : Int32))])) _
    refine own_go (fun _ k => XS.icmpYes X0.here hx rfl (pc0 := 37) (pc' := 59) rfl (hb hby d_m4_37) rfl (feq (by decide : ¬ ((3 : Int32) = (2 : Int32)))).2 (by decide) (by decide) k) ?_
    show own_Go p e below (s₁.setTop (mkF m 59 #[.val (.int c0), .val (.int c1), .val (.int c2), .val (.int (3 : Int32))] [])) _
    obtain ⟨T191, h191, X191, e191, E191, A191, D191, U191, st191⟩ := newO X0 hx hZ hown (hw _ (List.mem_of_getElem? (i := 10) rfl)) (hw _ (List.mem_of_getElem? (i := 11) rfl)) (hw _ (List.mem_of_getElem? (i := 12) rfl)) e0 (g := (mkF m 59 #[.val (.int c0), .val (.int c1), .val (.int c2), .val (.int (3 : Int32))] [])) rfl (hb hby d_m4_59) (by decide) (by decide)
    obtain ⟨b191, g191⟩ : ∃ z, z = h0.size := ⟨_, rfl⟩
    rw [← g191] at A191 D191 U191 st191
    refine own_go st191 ?_
    have C192 := C0.trans (CHr.ext E191 C0.1)
    have F191_value : Fld Z h191 b191 "java/lang/String" "value" "[B" .null := D191 (Or.inr (hw _ (List.mem_of_getElem? (i := 25) rfl))) (ty := (.array .byte)) (by decide)
    have F191_coder : Fld Z h191 b191 "java/lang/String" "coder" "B" (.int (0 : Int32)) := D191 (Or.inr (hw _ (List.mem_of_getElem? (i := 26) rfl))) (ty := .byte) (by decide)
    show own_Go p e below (T191.setTop (mkF m 62 #[.val (.int c0), .val (.int c1), .val (.int c2), .val (.int (3 : Int32))] [(.ref b191)])) _
    refine own_go (fun _ k => XS.dup X191.here hx rfl (hb hby d_m4_62) rfl rfl k) ?_
    show own_Go p e below (T191.setTop (mkF m 63 #[.val (.int c0), .val (.int c1), .val (.int c2), .val (.int (3 : Int32))] [(.ref b191), (.ref b191)])) _
    refine own_go (fun _ k => XS.iconst X191.here hx rfl (hb hby d_m4_63) k) ?_
    show own_Go p e below (T191.setTop (mkF m 64 #[.val (.int c0), .val (.int c1), .val (.int c2), .val (.int (3 : Int32))] [(.int (3 : Int32)), (.ref b191), (.ref b191)])) _
    obtain ⟨T193, h193, k193, X193, e193, E193, A193, st193⟩ := newP X191 hx hZ (hw _ (List.mem_of_getElem? (i := 6) rfl)) e191 (g := (mkF m 64 #[.val (.int c0), .val (.int c1), .val (.int c2), .val (.int (3 : Int32))] [(.int (3 : Int32)), (.ref b191), (.ref b191)])) rfl (hb hby d_m4_64) rfl (by decide) (cap := 3) (by decide) (by decide) (by decide) (by decide)
    obtain ⟨b193, g193⟩ : ∃ z, z = h191.size := ⟨_, rfl⟩
    rw [← g193] at A193 st193
    refine own_go st193 ?_
    have C194 := C192.trans (CHr.ext E193 C192.1)
    have V193 : Arv Z h193 b193 k193 .char (3 : Int32) [(.int (0 : Int32)), (.int (0 : Int32)), (.int (0 : Int32))] (.int (0 : Int32)) := (Arv.new A193 (by decide)).pad (pad_rep [] (.int (0 : Int32)) 3)
    show own_Go p e below (T193.setTop (mkF m 66 #[.val (.int c0), .val (.int c1), .val (.int c2), .val (.int (3 : Int32))] [(.ref b193), (.ref b191), (.ref b191)])) _
    refine own_go (fun _ k => XS.dup X193.here hx rfl (hb hby d_m4_66) rfl rfl k) ?_
    show own_Go p e below (T193.setTop (mkF m 67 #[.val (.int c0), .val (.int c1), .val (.int c2), .val (.int (3 : Int32))] [(.ref b193), (.ref b193), (.ref b191), (.ref b191)])) _
    refine own_go (fun _ k => XS.iconst X193.here hx rfl (hb hby d_m4_67) k) ?_
    show own_Go p e below (T193.setTop (mkF m 68 #[.val (.int c0), .val (.int c1), .val (.int c2), .val (.int (3 : Int32))] [(.int (0 : Int32)), (.ref b193), (.ref b193), (.ref b191), (.ref b191)])) _
    refine own_go (fun _ k => XS.iloadN X193.here hx rfl (hb hby d_m4_68) rfl k) ?_
    show own_Go p e below (T193.setTop (mkF m 69 #[.val (.int c0), .val (.int c1), .val (.int c2), .val (.int (3 : Int32))] [(.int c0), (.int (0 : Int32)), (.ref b193), (.ref b193), (.ref b191), (.ref b191)])) _
    obtain ⟨c195, A195, q195, S195, M195, Hs195, Gs195⟩ := id V193
    obtain ⟨T196, h196, X196, e196, W196, st196⟩ := stC X193 hx hZ e193 A195 (j := (0 : Int32)) (inb_of S195 ⟨by decide, by decide⟩) (g := (mkF m 69 #[.val (.int c0), .val (.int c1), .val (.int c2), .val (.int (3 : Int32))] [(.int c0), (.int (0 : Int32)), (.ref b193), (.ref b193), (.ref b191), (.ref b191)])) rfl rfl (hb hby d_m4_69)
    refine own_go st196 ?_
    have N196 := Fr.snoc X196 N0 (Nat.le_trans Z0 (Nat.le_trans E191.1 (Nat.le_of_eq g193.symm)))
    have f197 := (Safe.ext E193 C192.1 (Safe.new (Nat.le_of_eq g193.symm)))
    have C198 := C194.trans (CHr.wr W196 f197 C194.1)
    have V196 : Arv Z h196 b193 k193 .char (3 : Int32) [(.int (nar .char c0)), (.int (0 : Int32)), (.int (0 : Int32))] (.int (0 : Int32)) := Arv.set A195 q195 S195 M195 Hs195 Gs195 (fits_nar_char _) W196 0 rfl (Nat.le_of_ble_eq_true rfl)
    have V196q : Arv Z h196 b193 k193 .char (3 : Int32) [(.int c0), (.int (0 : Int32)), (.int (0 : Int32))] (.int (0 : Int32)) := by rw [show nar .char c0 = c0 from (own_nc b_c0.1 b_c0.2)] at V196; exact V196
    show own_Go p e below (T196.setTop (mkF m 70 #[.val (.int c0), .val (.int c1), .val (.int c2), .val (.int (3 : Int32))] [(.ref b193), (.ref b191), (.ref b191)])) _
    refine own_go (fun _ k => XS.dup X196.here hx rfl (hb hby d_m4_70) rfl rfl k) ?_
    show own_Go p e below (T196.setTop (mkF m 71 #[.val (.int c0), .val (.int c1), .val (.int c2), .val (.int (3 : Int32))] [(.ref b193), (.ref b193), (.ref b191), (.ref b191)])) _
    refine own_go (fun _ k => XS.iconst X196.here hx rfl (hb hby d_m4_71) k) ?_
    show own_Go p e below (T196.setTop (mkF m 72 #[.val (.int c0), .val (.int c1), .val (.int c2), .val (.int (3 : Int32))] [(.int (1 : Int32)), (.ref b193), (.ref b193), (.ref b191), (.ref b191)])) _
    refine own_go (fun _ k => XS.iloadN X196.here hx rfl (hb hby d_m4_72) rfl k) ?_
    show own_Go p e below (T196.setTop (mkF m 73 #[.val (.int c0), .val (.int c1), .val (.int c2), .val (.int (3 : Int32))] [(.int c1), (.int (1 : Int32)), (.ref b193), (.ref b193), (.ref b191), (.ref b191)])) _
    obtain ⟨c199, A199, q199, S199, M199, Hs199, Gs199⟩ := id V196q
    obtain ⟨T200, h200, X200, e200, W200, st200⟩ := stC X196 hx hZ e196 A199 (j := (1 : Int32)) (inb_of S199 ⟨by decide, by decide⟩) (g := (mkF m 73 #[.val (.int c0), .val (.int c1), .val (.int c2), .val (.int (3 : Int32))] [(.int c1), (.int (1 : Int32)), (.ref b193), (.ref b193), (.ref b191), (.ref b191)])) rfl rfl (hb hby d_m4_73)
    refine own_go st200 ?_
    have N200 := Fr.snoc X200 N196 (Nat.le_trans Z0 (Nat.le_trans E191.1 (Nat.le_of_eq g193.symm)))
    have f201 := (Safe.wr W196 f197 C194.1 f197)
    have C202 := C198.trans (CHr.wr W200 f201 C198.1)
    have V200 : Arv Z h200 b193 k193 .char (3 : Int32) [(.int c0), (.int (nar .char c1)), (.int (0 : Int32))] (.int (0 : Int32)) := Arv.set A199 q199 S199 M199 Hs199 Gs199 (fits_nar_char _) W200 1 rfl (Nat.le_of_ble_eq_true rfl)
    have V200q : Arv Z h200 b193 k193 .char (3 : Int32) [(.int c0), (.int c1), (.int (0 : Int32))] (.int (0 : Int32)) := by rw [show nar .char c1 = c1 from (own_nc b_c1.1 b_c1.2)] at V200; exact V200
    show own_Go p e below (T200.setTop (mkF m 74 #[.val (.int c0), .val (.int c1), .val (.int c2), .val (.int (3 : Int32))] [(.ref b193), (.ref b191), (.ref b191)])) _
    refine own_go (fun _ k => XS.dup X200.here hx rfl (hb hby d_m4_74) rfl rfl k) ?_
    show own_Go p e below (T200.setTop (mkF m 75 #[.val (.int c0), .val (.int c1), .val (.int c2), .val (.int (3 : Int32))] [(.ref b193), (.ref b193), (.ref b191), (.ref b191)])) _
    refine own_go (fun _ k => XS.iconst X200.here hx rfl (hb hby d_m4_75) k) ?_
    show own_Go p e below (T200.setTop (mkF m 76 #[.val (.int c0), .val (.int c1), .val (.int c2), .val (.int (3 : Int32))] [(.int (2 : Int32)), (.ref b193), (.ref b193), (.ref b191), (.ref b191)])) _
    refine own_go (fun _ k => XS.iloadN X200.here hx rfl (hb hby d_m4_76) rfl k) ?_
    show own_Go p e below (T200.setTop (mkF m 77 #[.val (.int c0), .val (.int c1), .val (.int c2), .val (.int (3 : Int32))] [(.int c2), (.int (2 : Int32)), (.ref b193), (.ref b193), (.ref b191), (.ref b191)])) _
    obtain ⟨c203, A203, q203, S203, M203, Hs203, Gs203⟩ := id V200q
    obtain ⟨T204, h204, X204, e204, W204, st204⟩ := stC X200 hx hZ e200 A203 (j := (2 : Int32)) (inb_of S203 ⟨by decide, by decide⟩) (g := (mkF m 77 #[.val (.int c0), .val (.int c1), .val (.int c2), .val (.int (3 : Int32))] [(.int c2), (.int (2 : Int32)), (.ref b193), (.ref b193), (.ref b191), (.ref b191)])) rfl rfl (hb hby d_m4_77)
    refine own_go st204 ?_
    have N204 := Fr.snoc X204 N200 (Nat.le_trans Z0 (Nat.le_trans E191.1 (Nat.le_of_eq g193.symm)))
    have f205 := (Safe.wr W200 f201 C198.1 f201)
    have C206 := C202.trans (CHr.wr W204 f205 C202.1)
    have V204 : Arv Z h204 b193 k193 .char (3 : Int32) [(.int c0), (.int c1), (.int (nar .char c2))] (.int (0 : Int32)) := Arv.set A203 q203 S203 M203 Hs203 Gs203 (fits_nar_char _) W204 2 rfl (Nat.le_of_ble_eq_true rfl)
    have V204q : Arv Z h204 b193 k193 .char (3 : Int32) [(.int c0), (.int c1), (.int c2)] (.int (0 : Int32)) := by rw [show nar .char c2 = c2 from (own_nc b_c2.1 b_c2.2)] at V204; exact V204
    show own_Go p e below (T204.setTop (mkF m 78 #[.val (.int c0), .val (.int c1), .val (.int c2), .val (.int (3 : Int32))] [(.ref b193), (.ref b191), (.ref b191)])) _
    have f207 := ((((A191.ext E193).wr W196).wr W200).wr W204)
    have ne208 : b191 ≠ b193 := Nat.ne_of_lt (Nat.lt_of_lt_of_le A191.lt (Nat.le_of_eq g193.symm))
    have f209 := ((((F191_value.ext E193).other W196 (Or.inl ne208)).other W200 (Or.inl ne208)).other W204 (Or.inl ne208))
    have f210 := ((((F191_coder.ext E193).other W196 (Or.inl ne208)).other W200 (Or.inl ne208)).other W204 (Or.inl ne208))
    have f211 := (((((O0.ext E191).ext E193).wr W196 (Nat.le_trans Z0 (Nat.le_trans E191.1 (Nat.le_of_eq g193.symm)))).wr W200 (Nat.le_trans Z0 (Nat.le_trans E191.1 (Nat.le_of_eq g193.symm)))).wr W204 (Nat.le_trans Z0 (Nat.le_trans E191.1 (Nat.le_of_eq g193.symm))))
    obtain ⟨v212, _, ⟨T212, L212, k212, n212⟩, -, X212, ⟨Lc212, hQ212, l212, y212, z212⟩, st212⟩ := X204.specialBack hx (y := (⟨"java/lang/String", "<init>", "([C)V"⟩ : MethodName)) rfl hown (mvT hZ (hw _ (List.mem_of_getElem? (i := 13) rfl))) (mvT hZ (hw _ (List.mem_of_getElem? (i := 14) rfl))) (mvT hZ (hw _ (List.mem_of_getElem? (i := 15) rfl))) (by decide) (backOf (W := 1) (rm_i1 l Z a0 hw [] b191 b193 k193 (.int (0 : Int32)) ([c0, c1, c2] : List Int32) G1 h204 n0 f211 f207 f209 f210 (Nat.le_trans Z0 (Nat.le_of_eq g191.symm)) OA OH OL O2 P5 (own_okL3 b_c0 b_c1 b_c2) V204q (Nat.le_of_ble_eq_true rfl) (Nat.le_of_ble_eq_true rfl)) hZ (hw _ (List.mem_of_getElem? (i := 15) rfl)) (hw _ (List.mem_of_getElem? (i := 12) rfl)) (by decide) (by decide)) (g := (mkF m 78 #[.val (.int c0), .val (.int c1), .val (.int c2), .val (.int (3 : Int32))] [(.ref b193), (.ref b191), (.ref b191)])) rfl (by rw [hml]; rfl) (Steps.refl _) (a := b191) (argsL := [(.ref b193)]) (rest := [(.ref b191)]) (lenOf pd_17 rfl) rfl (by show 2 * 0 + _ ≤ _; exact Nat.le_of_eq rfl) (hb hby d_m4_78) (fun _ _ => ⟨rfl, e204, (by decide : 2 + 2 ≤ _), (by decide : 7 + 9 ≤ _)⟩)
    dsimp only [Pt.U, Pt.locs, Pt.cells, Pt.slots] at X212 l212 y212 z212 st212 hQ212
    subst l212 y212 z212
    refine own_gos st212 ?_
    obtain ⟨t212, kt212, cd212, N2212, vs212, rfl, Nq212, K212, Fv212, Fc212, Vt212, hC212⟩ := hQ212
    have f213 := (Safe.wr W204 f205 C202.1 (Safe.wr W200 f201 C198.1 (Safe.wr W196 f197 C194.1 (Safe.ext E193 C192.1 (Safe.ext E191 C0.1 (Safe.new (Nat.le_of_eq g191.symm)))))))
    have C214 := C206.trans (CHr.keep K212 (sfS f213 sf0) C206.1)
    have N212 := Fr.app N204 Nq212
    show own_Go p e below (T212.setTop (mkF m 81 #[.val (.int c0), .val (.int c1), .val (.int c2), .val (.int (3 : Int32))] [(.ref b191)])) _
    have f215 := (((((((Keep.refl h0 []).ext E191).ext E193).wr W196 (Or.inr (Nat.le_trans E191.1 (Nat.le_of_eq g193.symm)))).wr W200 (Or.inr (Nat.le_trans E191.1 (Nat.le_of_eq g193.symm)))).wr W204 (Or.inr (Nat.le_trans E191.1 (Nat.le_of_eq g193.symm)))).trans K212 (allS (Or.inr (Nat.le_of_eq g191.symm)) all0))
    refine own_finW (v := (some (.ref b191))) X212 hh hZ hS0 (by rw [(rfl : T212.heap = T212.heap)]; exact (Nat.zero_le _)) (fun h => by rw [hrt] at h; cases h) hlk (fun fs hr => retR X212 hx hrt (by rfl) rfl rfl (hb hby d_m4_81) hr) (QQ := QMk Z (([c0, c1, c2] : List Int32).take 3) h0 n0) ?_ own_hEL (rfl : T212.heap = T212.heap) (C214) (by decide) (by decide)
    exact ⟨b191, t212, _, _, _, _, rfl, N212, f215, (Nat.le_of_eq g191.symm), (f207.keep K212), Fv212, Fc212, Vt212, hC212⟩

theorem d_m7_0 : decode method_7_code 0 = .ok (.aload_n 0, 1) := by decide +kernel
theorem d_m7_1 : decode method_7_code 1 = .ok (.iload_n 2, 1) := by decide +kernel
theorem d_m7_2 : decode method_7_code 2 = .ok (.caload, 1) := by decide +kernel
theorem d_m7_3 : decode method_7_code 3 = .ok (.invokestatic 49, 3) := by decide +kernel
theorem d_m7_6 : decode method_7_code 6 = .ok (.ifCond .eq 25, 3) := by decide +kernel
theorem d_m7_31 : decode method_7_code 31 = .ok (.iconst 0, 1) := by decide +kernel
theorem d_m7_32 : decode method_7_code 32 = .ok (.ireturn, 1) := by decide +kernel
theorem d_m7_9 : decode method_7_code 9 = .ok (.iload_n 2, 1) := by decide +kernel
theorem d_m7_10 : decode method_7_code 10 = .ok (.iconst 1, 1) := by decide +kernel
theorem d_m7_11 : decode method_7_code 11 = .ok (.iadd, 1) := by decide +kernel
theorem d_m7_12 : decode method_7_code 12 = .ok (.iload_n 1, 1) := by decide +kernel
theorem d_m7_13 : decode method_7_code 13 = .ok (.if_icmp .ge 18, 3) := by decide +kernel
theorem d_m7_16 : decode method_7_code 16 = .ok (.aload_n 0, 1) := by decide +kernel
theorem d_m7_17 : decode method_7_code 17 = .ok (.iload_n 2, 1) := by decide +kernel
theorem d_m7_18 : decode method_7_code 18 = .ok (.iconst 1, 1) := by decide +kernel
theorem d_m7_19 : decode method_7_code 19 = .ok (.iadd, 1) := by decide +kernel
theorem d_m7_20 : decode method_7_code 20 = .ok (.caload, 1) := by decide +kernel
theorem d_m7_21 : decode method_7_code 21 = .ok (.invokestatic 53, 3) := by decide +kernel
theorem d_m7_24 : decode method_7_code 24 = .ok (.ifCond .eq 7, 3) := by decide +kernel
theorem d_m7_27 : decode method_7_code 27 = .ok (.iconst 1, 1) := by decide +kernel
theorem d_m7_28 : decode method_7_code 28 = .ok (.goto 4, 3) := by decide +kernel
theorem ef_rm_pair (m : MethodId) (x0 : Addr) (x1 : Int32) (x2 : Int32) : entryFrame m #[(.ref x0), (.int x1), (.int x2)] 3 = mkF m 0 #[.val (.ref x0), .val (.int x1), .val (.int x2)] [] := by
   first | (simp [entryFrame, mkF, argsToLocals, Value.category]; done) | rfl
set_option maxRecDepth 65536 in
set_option maxHeartbeats 40000000 in
theorem rm_pair (l : Launch) (Z : State) (a0 : Array Value) (hw : ∀ d ∈ tables_1, d.before a0 Z = true) (ws : List Jvm.Cond) (a : Addr) (ka : ClassId) (c0 : Int32) (c1 : Int32) (c2 : Int32) (n : Nat) (i : Nat) (h0 : Heap) (n0 : Nat) (O0 : Old Z n0 h0) (V_a : Arv Z h0 a ka .char (3 : Int32) [(.int c0), (.int c1), (.int c2)] (.int (0 : Int32))) (hi : i < n) (hn : n ≤ 3) :
    MetFree l (⟨"com/example/rolelattice/rolelattice/decision/CodePointsComparePinLaw", "paired", "([CII)Z"⟩ : MethodName) (head1 (Jvm.Cond.code (⟨"com/example/rolelattice/rolelattice/decision/CodePointsComparePinLaw", "paired", "([CII)Z"⟩ : MethodName) method_7_code 3 (some .boolean) :: ws) ({ frames := 1, cells := 0, slots := 0, locals := 12 } : Room)) (fun aA U => aA = #[(.ref a), (.int (Int32.ofNat n)), (.int (Int32.ofNat i))] ∧ Z.Warmed39 U.vm ∧ U.heap = h0) (fun _ _ _ _ _ => True) (fun _ U oO U' => ∃ rV rL, oO = .returned rV ∧ QPure (some (.int (own_prI (([c0, c1, c2] : List Int32).take n) i))) h0 n0 rV U'.heap rL ∧ FrameEnd U oO U' rL 0 0) := by
  refine MetFree.of_bodySF (plainFor_of_name pn_3) hisR ?_
  intro p e s m args below meth cC s₁ Bd hml0 hP hK
  obtain ⟨rfl, hZ, hh⟩ := hP
  have hx := Bd.exec
  have hby := Bd.bytes
  have hml : cC.maxLocals = 3 := hml0
  have hown : s.vm.findClass "com/example/rolelattice/rolelattice/decision/CodePointsComparePinLaw" = some m.cls := findClass_of_methodNamed Bd.named
  have hnm := (name_of_methodNamed Bd.named Bd.method).1
  have hrt := Bd.returns
  have hlk : meth.locks = false := Bd.notSynchronized
  have X0 : Stand p l e ({ frames := 1, cells := 0, slots := 0, locals := 12 } : Room) s m #[(.ref a), (.int (Int32.ofNat n)), (.int (Int32.ofNat i))] below meth cC s₁ [] 0 0 := Stand.of_body Bd
  have e0 : s₁.heap = h0 := by rw [← hh, Bd.state]; rfl
  have N0 := Fr.nil n0
  have Z0 : n0 ≤ h0.size := O0.1 ▸ O0.2.1
  show own_Go p e below (s₁.setTop (entryFrame m #[(.ref a), (.int (Int32.ofNat n)), (.int (Int32.ofNat i))] 3)) (fun oO U' => ∃ rV rL, oO = .returned rV ∧ QPure (some (.int (own_prI (([c0, c1, c2] : List Int32).take n) i))) h0 n0 rV U'.heap rL ∧ FrameEnd s oO U' rL 0 0)
  refine own_go (fun _ k => castTop (ef_rm_pair m a _ _) k) ?_
  show own_Go p e below (s₁.setTop (mkF m 0 #[.val (.ref a), .val (.int (Int32.ofNat n)), .val (.int (Int32.ofNat i))] [])) _
  refine own_go (fun _ k => XS.aloadN X0.here hx rfl (hb hby d_m7_0) rfl rfl k) ?_
  show own_Go p e below (s₁.setTop (mkF m 1 #[.val (.ref a), .val (.int (Int32.ofNat n)), .val (.int (Int32.ofNat i))] [(.ref a)])) _
  refine own_go (fun _ k => XS.iloadN X0.here hx rfl (hb hby d_m7_1) rfl k) ?_
  show own_Go p e below (s₁.setTop (mkF m 2 #[.val (.ref a), .val (.int (Int32.ofNat n)), .val (.int (Int32.ofNat i))] [(.int (Int32.ofNat i)), (.ref a)])) _
  obtain ⟨c216, A216, q216, S216, M216, Hs216, Gs216⟩ := id V_a
  have hi216 := inb_of (j := (Int32.ofNat i)) S216 (own_inb (j := 3) (by omega) (by decide))
  refine own_go (fun _ k => X0.caload hx (j := (Int32.ofNat i)) (v := (.int ((([c0, c1, c2] : List Int32).take n).getD i 0))) (by rw [e0]; exact A216.1) (State.isArrayOf_alike hZ.alike A216.2.1) A216.2.2 hi216 (Has.at Hs216 hi216 ((own_gd (cs := [c0, c1, c2]) (n := 3) rfl (by omega) (by decide)).trans (congrArg Value.int (own_tkg hi).symm))) (g := (mkF m 2 #[.val (.ref a), .val (.int (Int32.ofNat n)), .val (.int (Int32.ofNat i))] [(.int (Int32.ofNat i)), (.ref a)])) rfl rfl (hb hby d_m7_2) _ k) ?_
  show own_Go p e below (s₁.setTop (mkF m 3 #[.val (.ref a), .val (.int (Int32.ofNat n)), .val (.int (Int32.ofNat i))] [(.int ((([c0, c1, c2] : List Int32).take n).getD i 0))])) _
  obtain ⟨v217, _, ⟨T217, L217, k217, n217⟩, -, X217, ⟨Lc217, hQ217, l217, y217, z217⟩, st217⟩ := Jvm.LawKit.callS X0 hx (y := (⟨"com/example/rolelattice/rolelattice/decision/CodePointsComparePinLaw", "isHi", "(C)Z"⟩ : MethodName)) hown (mvT hZ (hw _ (List.mem_of_getElem? (i := 97) rfl))) (mvT hZ (hw _ (List.mem_of_getElem? (i := 98) rfl))) (mvT hZ (hw _ (List.mem_of_getElem? (i := 2) rfl))) (mvT hZ (hw _ (List.mem_of_getElem? (i := 99) rfl))) (by decide) (backOf (W := 0) (rm_hi l Z a0 hw [] ((([c0, c1, c2] : List Int32).take n).getD i 0) h0 n0 O0 ) hZ (hw _ (List.mem_of_getElem? (i := 99) rfl)) (hw _ (List.mem_of_getElem? (i := 2) rfl)) (by decide) (by decide)) (g := (mkF m 3 #[.val (.ref a), .val (.int (Int32.ofNat n)), .val (.int (Int32.ofNat i))] [(.int ((([c0, c1, c2] : List Int32).take n).getD i 0))])) rfl (by rw [hml]; rfl) (argsL := [(.int ((([c0, c1, c2] : List Int32).take n).getD i 0))]) (rest := []) (lenOf pd_9 rfl) rfl (by show 2 * 0 + _ ≤ _; exact Nat.le_of_eq rfl) (hb hby d_m7_3) (fun _ _ => ⟨rfl, e0, (by decide : 0 + 0 ≤ _), (by decide : 0 + 0 ≤ _)⟩)
  dsimp only [Pt.U, Pt.locs, Pt.cells, Pt.slots] at X217 l217 y217 z217 st217 hQ217
  subst l217 y217 z217
  refine own_go st217 ?_
  obtain ⟨rfl, Nq217, e217⟩ := hQ217
  have N217 := Fr.app N0 Nq217
  show own_Go p e below (T217.setTop (mkF m 6 #[.val (.ref a), .val (.int (Int32.ofNat n)), .val (.int (Int32.ofNat i))] [(.int (own_h1 ((([c0, c1, c2] : List Int32).take n).getD i 0)))])) _
  by_cases hc218 : (own_h1 ((([c0, c1, c2] : List Int32).take n).getD i 0)) = (0 : Int32)
  · skip
    refine own_go (fun _ k => XS.ifYes X217.here hx rfl (pc0 := 6) (pc' := 31) rfl (hb hby d_m7_6) rfl ((if0 _ _).trans (teq hc218).1) (by decide) (by decide) k) ?_
    show own_Go p e below (T217.setTop (mkF m 31 #[.val (.ref a), .val (.int (Int32.ofNat n)), .val (.int (Int32.ofNat i))] [])) _
    refine own_go (fun _ k => XS.iconst X217.here hx rfl (hb hby d_m7_31) k) ?_
    show own_Go p e below (T217.setTop (mkF m 32 #[.val (.ref a), .val (.int (Int32.ofNat n)), .val (.int (Int32.ofNat i))] [(.int (0 : Int32))])) _
    refine own_fin (v := (some (.int (nar .boolean (0 : Int32))))) X217 (fun h => by rw [hrt] at h; cases h) hlk (fun fs hr => retN X217 hx (t := .boolean) hrt (by simp) (hb hby d_m7_32) hr) (QQ := QPure (some (.int (own_prI (([c0, c1, c2] : List Int32).take n) i))) h0 n0) ?_ (by decide) (by decide)
    rw [e217]
    exact ⟨congrArg (fun z => some (Value.int z)) (own_prI0 (own_pr_n1 hc218)), N217, rfl⟩
  · skip
    refine own_go (fun _ k => XS.ifNo X217.here hx rfl (hb hby d_m7_6) rfl ((if0 _ _).trans (feq hc218).1) k) ?_
    show own_Go p e below (T217.setTop (mkF m 9 #[.val (.ref a), .val (.int (Int32.ofNat n)), .val (.int (Int32.ofNat i))] [])) _
    refine own_go (fun _ k => XS.iloadN X217.here hx rfl (hb hby d_m7_9) rfl k) ?_
    show own_Go p e below (T217.setTop (mkF m 10 #[.val (.ref a), .val (.int (Int32.ofNat n)), .val (.int (Int32.ofNat i))] [(.int (Int32.ofNat i))])) _
    refine own_go (fun _ k => XS.iconst X217.here hx rfl (hb hby d_m7_10) k) ?_
    show own_Go p e below (T217.setTop (mkF m 11 #[.val (.ref a), .val (.int (Int32.ofNat n)), .val (.int (Int32.ofNat i))] [(.int (1 : Int32)), (.int (Int32.ofNat i))])) _
    refine own_go (fun _ k => XS.iadd X217.here hx rfl (hb hby d_m7_11) rfl k) ?_
    show own_Go p e below (T217.setTop (mkF m 12 #[.val (.ref a), .val (.int (Int32.ofNat n)), .val (.int (Int32.ofNat i))] [(.int ((Int32.ofNat i) + (1 : Int32)))])) _
    rw [own_inc]
    show own_Go p e below (T217.setTop (mkF m 12 #[.val (.ref a), .val (.int (Int32.ofNat n)), .val (.int (Int32.ofNat i))] [(.int (Int32.ofNat (i + 1)))])) _
    refine own_go (fun _ k => XS.iloadN X217.here hx rfl (hb hby d_m7_12) rfl k) ?_
    show own_Go p e below (T217.setTop (mkF m 13 #[.val (.ref a), .val (.int (Int32.ofNat n)), .val (.int (Int32.ofNat i))] [(.int (Int32.ofNat n)), (.int (Int32.ofNat (i + 1)))])) _
    by_cases hc219 : (Int32.ofNat (i + 1)) < (Int32.ofNat n)
    · skip
      refine own_go (fun _ k => XS.icmpNo X217.here hx rfl (hb hby d_m7_13) rfl (tlt hc219).2.1 k) ?_
      show own_Go p e below (T217.setTop (mkF m 16 #[.val (.ref a), .val (.int (Int32.ofNat n)), .val (.int (Int32.ofNat i))] [])) _
      have hi1 : i + 1 < n := (own_lti (by omega) (by omega)).mp hc219
      refine own_go (fun _ k => XS.aloadN X217.here hx rfl (hb hby d_m7_16) rfl rfl k) ?_
      show own_Go p e below (T217.setTop (mkF m 17 #[.val (.ref a), .val (.int (Int32.ofNat n)), .val (.int (Int32.ofNat i))] [(.ref a)])) _
      refine own_go (fun _ k => XS.iloadN X217.here hx rfl (hb hby d_m7_17) rfl k) ?_
      show own_Go p e below (T217.setTop (mkF m 18 #[.val (.ref a), .val (.int (Int32.ofNat n)), .val (.int (Int32.ofNat i))] [(.int (Int32.ofNat i)), (.ref a)])) _
      refine own_go (fun _ k => XS.iconst X217.here hx rfl (hb hby d_m7_18) k) ?_
      show own_Go p e below (T217.setTop (mkF m 19 #[.val (.ref a), .val (.int (Int32.ofNat n)), .val (.int (Int32.ofNat i))] [(.int (1 : Int32)), (.int (Int32.ofNat i)), (.ref a)])) _
      refine own_go (fun _ k => XS.iadd X217.here hx rfl (hb hby d_m7_19) rfl k) ?_
      show own_Go p e below (T217.setTop (mkF m 20 #[.val (.ref a), .val (.int (Int32.ofNat n)), .val (.int (Int32.ofNat i))] [(.int ((Int32.ofNat i) + (1 : Int32))), (.ref a)])) _
      rw [own_inc]
      show own_Go p e below (T217.setTop (mkF m 20 #[.val (.ref a), .val (.int (Int32.ofNat n)), .val (.int (Int32.ofNat i))] [(.int (Int32.ofNat (i + 1))), (.ref a)])) _
      obtain ⟨c220, A220, q220, S220, M220, Hs220, Gs220⟩ := id V_a
      have hi220 := inb_of (j := (Int32.ofNat (i + 1))) S220 (own_inb (j := 3) (by omega) (by decide))
      refine own_go (fun _ k => X217.caload hx (j := (Int32.ofNat (i + 1))) (v := (.int ((([c0, c1, c2] : List Int32).take n).getD (i + 1) 0))) (by rw [e217]; exact A220.1) (State.isArrayOf_alike hZ.alike A220.2.1) A220.2.2 hi220 (Has.at Hs220 hi220 ((own_gd (cs := [c0, c1, c2]) (n := 3) rfl (by omega) (by decide)).trans (congrArg Value.int (own_tkg hi1).symm))) (g := (mkF m 20 #[.val (.ref a), .val (.int (Int32.ofNat n)), .val (.int (Int32.ofNat i))] [(.int (Int32.ofNat (i + 1))), (.ref a)])) rfl rfl (hb hby d_m7_20) _ k) ?_
      show own_Go p e below (T217.setTop (mkF m 21 #[.val (.ref a), .val (.int (Int32.ofNat n)), .val (.int (Int32.ofNat i))] [(.int ((([c0, c1, c2] : List Int32).take n).getD (i + 1) 0))])) _
      obtain ⟨v221, _, ⟨T221, L221, k221, n221⟩, -, X221, ⟨Lc221, hQ221, l221, y221, z221⟩, st221⟩ := Jvm.LawKit.callS X217 hx (y := (⟨"com/example/rolelattice/rolelattice/decision/CodePointsComparePinLaw", "isLo", "(C)Z"⟩ : MethodName)) hown (mvT hZ (hw _ (List.mem_of_getElem? (i := 104) rfl))) (mvT hZ (hw _ (List.mem_of_getElem? (i := 105) rfl))) (mvT hZ (hw _ (List.mem_of_getElem? (i := 2) rfl))) (mvT hZ (hw _ (List.mem_of_getElem? (i := 106) rfl))) (by decide) (backOf (W := 0) (rm_lo l Z a0 hw [] ((([c0, c1, c2] : List Int32).take n).getD (i + 1) 0) h0 n0 O0 ) hZ (hw _ (List.mem_of_getElem? (i := 106) rfl)) (hw _ (List.mem_of_getElem? (i := 2) rfl)) (by decide) (by decide)) (g := (mkF m 21 #[.val (.ref a), .val (.int (Int32.ofNat n)), .val (.int (Int32.ofNat i))] [(.int ((([c0, c1, c2] : List Int32).take n).getD (i + 1) 0))])) rfl (by rw [hml]; rfl) (argsL := [(.int ((([c0, c1, c2] : List Int32).take n).getD (i + 1) 0))]) (rest := []) (lenOf pd_9 rfl) rfl (by show 2 * 0 + _ ≤ _; exact Nat.le_of_eq rfl) (hb hby d_m7_21) (fun _ _ => ⟨rfl, e217, (by decide : 0 + 0 ≤ _), (by decide : 0 + 0 ≤ _)⟩)
      dsimp only [Pt.U, Pt.locs, Pt.cells, Pt.slots] at X221 l221 y221 z221 st221 hQ221
      subst l221 y221 z221
      refine own_go st221 ?_
      obtain ⟨rfl, Nq221, e221⟩ := hQ221
      have N221 := Fr.app N217 Nq221
      show own_Go p e below (T221.setTop (mkF m 24 #[.val (.ref a), .val (.int (Int32.ofNat n)), .val (.int (Int32.ofNat i))] [(.int (own_l1 ((([c0, c1, c2] : List Int32).take n).getD (i + 1) 0)))])) _
      by_cases hc222 : (own_l1 ((([c0, c1, c2] : List Int32).take n).getD (i + 1) 0)) = (0 : Int32)
      · skip
        refine own_go (fun _ k => XS.ifYes X221.here hx rfl (pc0 := 24) (pc' := 31) rfl (hb hby d_m7_24) rfl ((if0 _ _).trans (teq hc222).1) (by decide) (by decide) k) ?_
        show own_Go p e below (T221.setTop (mkF m 31 #[.val (.ref a), .val (.int (Int32.ofNat n)), .val (.int (Int32.ofNat i))] [])) _
        refine own_go (fun _ k => XS.iconst X221.here hx rfl (hb hby d_m7_31) k) ?_
        show own_Go p e below (T221.setTop (mkF m 32 #[.val (.ref a), .val (.int (Int32.ofNat n)), .val (.int (Int32.ofNat i))] [(.int (0 : Int32))])) _
        refine own_fin (v := (some (.int (nar .boolean (0 : Int32))))) X221 (fun h => by rw [hrt] at h; cases h) hlk (fun fs hr => retN X221 hx (t := .boolean) hrt (by simp) (hb hby d_m7_32) hr) (QQ := QPure (some (.int (own_prI (([c0, c1, c2] : List Int32).take n) i))) h0 n0) ?_ (by decide) (by decide)
        rw [e221]
        exact ⟨congrArg (fun z => some (Value.int z)) (own_prI0 (own_pr_n3 hc222)), N221, rfl⟩
      · skip
        refine own_go (fun _ k => XS.ifNo X221.here hx rfl (hb hby d_m7_24) rfl ((if0 _ _).trans (feq hc222).1) k) ?_
        show own_Go p e below (T221.setTop (mkF m 27 #[.val (.ref a), .val (.int (Int32.ofNat n)), .val (.int (Int32.ofNat i))] [])) _
        refine own_go (fun _ k => XS.iconst X221.here hx rfl (hb hby d_m7_27) k) ?_
        show own_Go p e below (T221.setTop (mkF m 28 #[.val (.ref a), .val (.int (Int32.ofNat n)), .val (.int (Int32.ofNat i))] [(.int (1 : Int32))])) _
        refine own_go (fun _ k => XS.goto X221.here hx rfl (pc0 := 28) (pc' := 32) rfl (hb hby d_m7_28) (by decide) (by decide) k) ?_
        show own_Go p e below (T221.setTop (mkF m 32 #[.val (.ref a), .val (.int (Int32.ofNat n)), .val (.int (Int32.ofNat i))] [(.int (1 : Int32))])) _
        refine own_fin (v := (some (.int (nar .boolean (1 : Int32))))) X221 (fun h => by rw [hrt] at h; cases h) hlk (fun fs hr => retN X221 hx (t := .boolean) hrt (by simp) (hb hby d_m7_32) hr) (QQ := QPure (some (.int (own_prI (([c0, c1, c2] : List Int32).take n) i))) h0 n0) ?_ (by decide) (by decide)
        rw [e221]
        exact ⟨congrArg (fun z => some (Value.int z)) (own_prI1 (own_pr_y (own_h1n hc218) ((own_tkl hn).symm ▸ hi1) (own_l1n hc222))), N221, rfl⟩
    · skip
      refine own_go (fun _ k => XS.icmpYes X217.here hx rfl (pc0 := 13) (pc' := 31) rfl (hb hby d_m7_13) rfl (flt hc219).2.1 (by decide) (by decide) k) ?_
      show own_Go p e below (T217.setTop (mkF m 31 #[.val (.ref a), .val (.int (Int32.ofNat n)), .val (.int (Int32.ofNat i))] [])) _
      refine own_go (fun _ k => XS.iconst X217.here hx rfl (hb hby d_m7_31) k) ?_
      show own_Go p e below (T217.setTop (mkF m 32 #[.val (.ref a), .val (.int (Int32.ofNat n)), .val (.int (Int32.ofNat i))] [(.int (0 : Int32))])) _
      refine own_fin (v := (some (.int (nar .boolean (0 : Int32))))) X217 (fun h => by rw [hrt] at h; cases h) hlk (fun fs hr => retN X217 hx (t := .boolean) hrt (by simp) (hb hby d_m7_32) hr) (QQ := QPure (some (.int (own_prI (([c0, c1, c2] : List Int32).take n) i))) h0 n0) ?_ (by decide) (by decide)
      rw [e217]
      exact ⟨congrArg (fun z => some (Value.int z)) (own_prI0 (own_pr_n2 (fun q => hc219 ((own_lti (by omega) (by omega)).mpr (own_tkl hn ▸ q))))), N217, rfl⟩

theorem d_m8_0 : decode method_8_code 0 = .ok (.aload_n 0, 1) := by decide +kernel
theorem d_m8_1 : decode method_8_code 1 = .ok (.iload_n 1, 1) := by decide +kernel
theorem d_m8_2 : decode method_8_code 2 = .ok (.iload_n 2, 1) := by decide +kernel
theorem d_m8_3 : decode method_8_code 3 = .ok (.invokestatic 56, 3) := by decide +kernel
theorem pd_18 : parseMethodDescriptor "([CII)Z" = some ⟨[(.array .char), .int, .int], some .boolean⟩ := by decide +kernel
theorem d_m8_6 : decode method_8_code 6 = .ok (.ifCond .eq 25, 3) := by decide +kernel
theorem d_m8_31 : decode method_8_code 31 = .ok (.aload_n 0, 1) := by decide +kernel
theorem d_m8_32 : decode method_8_code 32 = .ok (.iload_n 2, 1) := by decide +kernel
theorem d_m8_33 : decode method_8_code 33 = .ok (.caload, 1) := by decide +kernel
theorem d_m8_34 : decode method_8_code 34 = .ok (.ireturn, 1) := by decide +kernel
theorem d_m8_9 : decode method_8_code 9 = .ok (.aload_n 0, 1) := by decide +kernel
theorem d_m8_10 : decode method_8_code 10 = .ok (.iload_n 2, 1) := by decide +kernel
theorem d_m8_11 : decode method_8_code 11 = .ok (.caload, 1) := by decide +kernel
theorem d_m8_12 : decode method_8_code 12 = .ok (.ldc 39, 2) := by decide +kernel
theorem d_m8_14 : decode method_8_code 14 = .ok (.isub, 1) := by decide +kernel
theorem d_m8_15 : decode method_8_code 15 = .ok (.bipush 10, 2) := by decide +kernel
theorem d_m8_17 : decode method_8_code 17 = .ok (.ishl, 1) := by decide +kernel
theorem d_m8_18 : decode method_8_code 18 = .ok (.aload_n 0, 1) := by decide +kernel
theorem d_m8_19 : decode method_8_code 19 = .ok (.iload_n 2, 1) := by decide +kernel
theorem d_m8_20 : decode method_8_code 20 = .ok (.iconst 1, 1) := by decide +kernel
theorem d_m8_21 : decode method_8_code 21 = .ok (.iadd, 1) := by decide +kernel
theorem d_m8_22 : decode method_8_code 22 = .ok (.caload, 1) := by decide +kernel
theorem d_m8_23 : decode method_8_code 23 = .ok (.ldc 40, 2) := by decide +kernel
theorem d_m8_25 : decode method_8_code 25 = .ok (.isub, 1) := by decide +kernel
theorem d_m8_26 : decode method_8_code 26 = .ok (.iadd, 1) := by decide +kernel
theorem d_m8_27 : decode method_8_code 27 = .ok (.ldc 60, 2) := by decide +kernel
theorem d_m8_29 : decode method_8_code 29 = .ok (.iadd, 1) := by decide +kernel
theorem d_m8_30 : decode method_8_code 30 = .ok (.ireturn, 1) := by decide +kernel
theorem ef_rm_cpat (m : MethodId) (x0 : Addr) (x1 : Int32) (x2 : Int32) : entryFrame m #[(.ref x0), (.int x1), (.int x2)] 3 = mkF m 0 #[.val (.ref x0), .val (.int x1), .val (.int x2)] [] := by
   first | (simp [entryFrame, mkF, argsToLocals, Value.category]; done) | rfl
set_option maxRecDepth 65536 in
set_option maxHeartbeats 40000000 in
theorem rm_cpat (l : Launch) (Z : State) (a0 : Array Value) (hw : ∀ d ∈ tables_1, d.before a0 Z = true) (ws : List Jvm.Cond) (a : Addr) (ka : ClassId) (c0 : Int32) (c1 : Int32) (c2 : Int32) (n : Nat) (i : Nat) (h0 : Heap) (n0 : Nat) (O0 : Old Z n0 h0) (V_a : Arv Z h0 a ka .char (3 : Int32) [(.int c0), (.int c1), (.int c2)] (.int (0 : Int32))) (hi : i < n) (hn : n ≤ 3) :
    MetFree l (⟨"com/example/rolelattice/rolelattice/decision/CodePointsComparePinLaw", "cpAt", "([CII)I"⟩ : MethodName) (head1 (Jvm.Cond.code (⟨"com/example/rolelattice/rolelattice/decision/CodePointsComparePinLaw", "cpAt", "([CII)I"⟩ : MethodName) method_8_code 3 (some .int) :: ws) ({ frames := 2, cells := 0, slots := 0, locals := 26 } : Room)) (fun aA U => aA = #[(.ref a), (.int (Int32.ofNat n)), (.int (Int32.ofNat i))] ∧ Z.Warmed39 U.vm ∧ U.heap = h0) (fun _ _ _ _ _ => True) (fun _ U oO U' => ∃ rV rL, oO = .returned rV ∧ QPure (some (.int (own_cpt (([c0, c1, c2] : List Int32).take n) i))) h0 n0 rV U'.heap rL ∧ FrameEnd U oO U' rL 0 0) := by
  refine MetFree.of_bodySF (plainFor_of_name pn_3) hisR ?_
  intro p e s m args below meth cC s₁ Bd hml0 hP hK
  obtain ⟨rfl, hZ, hh⟩ := hP
  have hx := Bd.exec
  have hby := Bd.bytes
  have hml : cC.maxLocals = 3 := hml0
  have hown : s.vm.findClass "com/example/rolelattice/rolelattice/decision/CodePointsComparePinLaw" = some m.cls := findClass_of_methodNamed Bd.named
  have hnm := (name_of_methodNamed Bd.named Bd.method).1
  have hrt := Bd.returns
  have hlk : meth.locks = false := Bd.notSynchronized
  have X0 : Stand p l e ({ frames := 2, cells := 0, slots := 0, locals := 26 } : Room) s m #[(.ref a), (.int (Int32.ofNat n)), (.int (Int32.ofNat i))] below meth cC s₁ [] 0 0 := Stand.of_body Bd
  have e0 : s₁.heap = h0 := by rw [← hh, Bd.state]; rfl
  have N0 := Fr.nil n0
  have Z0 : n0 ≤ h0.size := O0.1 ▸ O0.2.1
  show own_Go p e below (s₁.setTop (entryFrame m #[(.ref a), (.int (Int32.ofNat n)), (.int (Int32.ofNat i))] 3)) (fun oO U' => ∃ rV rL, oO = .returned rV ∧ QPure (some (.int (own_cpt (([c0, c1, c2] : List Int32).take n) i))) h0 n0 rV U'.heap rL ∧ FrameEnd s oO U' rL 0 0)
  refine own_go (fun _ k => castTop (ef_rm_cpat m a _ _) k) ?_
  show own_Go p e below (s₁.setTop (mkF m 0 #[.val (.ref a), .val (.int (Int32.ofNat n)), .val (.int (Int32.ofNat i))] [])) _
  refine own_go (fun _ k => XS.aloadN X0.here hx rfl (hb hby d_m8_0) rfl rfl k) ?_
  show own_Go p e below (s₁.setTop (mkF m 1 #[.val (.ref a), .val (.int (Int32.ofNat n)), .val (.int (Int32.ofNat i))] [(.ref a)])) _
  refine own_go (fun _ k => XS.iloadN X0.here hx rfl (hb hby d_m8_1) rfl k) ?_
  show own_Go p e below (s₁.setTop (mkF m 2 #[.val (.ref a), .val (.int (Int32.ofNat n)), .val (.int (Int32.ofNat i))] [(.int (Int32.ofNat n)), (.ref a)])) _
  refine own_go (fun _ k => XS.iloadN X0.here hx rfl (hb hby d_m8_2) rfl k) ?_
  show own_Go p e below (s₁.setTop (mkF m 3 #[.val (.ref a), .val (.int (Int32.ofNat n)), .val (.int (Int32.ofNat i))] [(.int (Int32.ofNat i)), (.int (Int32.ofNat n)), (.ref a)])) _
  obtain ⟨v223, _, ⟨T223, L223, k223, n223⟩, -, X223, ⟨Lc223, hQ223, l223, y223, z223⟩, st223⟩ := Jvm.LawKit.callS X0 hx (y := (⟨"com/example/rolelattice/rolelattice/decision/CodePointsComparePinLaw", "paired", "([CII)Z"⟩ : MethodName)) hown (mvT hZ (hw _ (List.mem_of_getElem? (i := 94) rfl))) (mvT hZ (hw _ (List.mem_of_getElem? (i := 95) rfl))) (mvT hZ (hw _ (List.mem_of_getElem? (i := 2) rfl))) (mvT hZ (hw _ (List.mem_of_getElem? (i := 96) rfl))) (by decide) (backOf (W := 0) (rm_pair l Z a0 hw [] a ka c0 c1 c2 n i h0 n0 O0 V_a hi hn) hZ (hw _ (List.mem_of_getElem? (i := 96) rfl)) (hw _ (List.mem_of_getElem? (i := 2) rfl)) (by decide) (by decide)) (g := (mkF m 3 #[.val (.ref a), .val (.int (Int32.ofNat n)), .val (.int (Int32.ofNat i))] [(.int (Int32.ofNat i)), (.int (Int32.ofNat n)), (.ref a)])) rfl (by rw [hml]; rfl) (argsL := [(.ref a), (.int (Int32.ofNat n)), (.int (Int32.ofNat i))]) (rest := []) (lenOf pd_18 rfl) rfl (by show 2 * 0 + _ ≤ _; exact Nat.le_of_eq rfl) (hb hby d_m8_3) (fun _ _ => ⟨rfl, e0, (by decide : 0 + 0 ≤ _), (by decide : 0 + 0 ≤ _)⟩)
  dsimp only [Pt.U, Pt.locs, Pt.cells, Pt.slots] at X223 l223 y223 z223 st223 hQ223
  subst l223 y223 z223
  refine own_go st223 ?_
  obtain ⟨rfl, Nq223, e223⟩ := hQ223
  have N223 := Fr.app N0 Nq223
  show own_Go p e below (T223.setTop (mkF m 6 #[.val (.ref a), .val (.int (Int32.ofNat n)), .val (.int (Int32.ofNat i))] [(.int (own_prI (([c0, c1, c2] : List Int32).take n) i))])) _
  by_cases hc224 : (own_prI (([c0, c1, c2] : List Int32).take n) i) = (0 : Int32)
  · skip
    refine own_go (fun _ k => XS.ifYes X223.here hx rfl (pc0 := 6) (pc' := 31) rfl (hb hby d_m8_6) rfl ((if0 _ _).trans (teq hc224).1) (by decide) (by decide) k) ?_
    show own_Go p e below (T223.setTop (mkF m 31 #[.val (.ref a), .val (.int (Int32.ofNat n)), .val (.int (Int32.ofNat i))] [])) _
    refine own_go (fun _ k => XS.aloadN X223.here hx rfl (hb hby d_m8_31) rfl rfl k) ?_
    show own_Go p e below (T223.setTop (mkF m 32 #[.val (.ref a), .val (.int (Int32.ofNat n)), .val (.int (Int32.ofNat i))] [(.ref a)])) _
    refine own_go (fun _ k => XS.iloadN X223.here hx rfl (hb hby d_m8_32) rfl k) ?_
    show own_Go p e below (T223.setTop (mkF m 33 #[.val (.ref a), .val (.int (Int32.ofNat n)), .val (.int (Int32.ofNat i))] [(.int (Int32.ofNat i)), (.ref a)])) _
    obtain ⟨c225, A225, q225, S225, M225, Hs225, Gs225⟩ := id V_a
    have hi225 := inb_of (j := (Int32.ofNat i)) S225 (own_inb (j := 3) (by omega) (by decide))
    refine own_go (fun _ k => X223.caload hx (j := (Int32.ofNat i)) (v := (.int ((([c0, c1, c2] : List Int32).take n).getD i 0))) (by rw [e223]; exact A225.1) (State.isArrayOf_alike hZ.alike A225.2.1) A225.2.2 hi225 (Has.at Hs225 hi225 ((own_gd (cs := [c0, c1, c2]) (n := 3) rfl (by omega) (by decide)).trans (congrArg Value.int (own_tkg hi).symm))) (g := (mkF m 33 #[.val (.ref a), .val (.int (Int32.ofNat n)), .val (.int (Int32.ofNat i))] [(.int (Int32.ofNat i)), (.ref a)])) rfl rfl (hb hby d_m8_33) _ k) ?_
    show own_Go p e below (T223.setTop (mkF m 34 #[.val (.ref a), .val (.int (Int32.ofNat n)), .val (.int (Int32.ofNat i))] [(.int ((([c0, c1, c2] : List Int32).take n).getD i 0))])) _
    refine own_fin (v := (some (.int ((([c0, c1, c2] : List Int32).take n).getD i 0)))) X223 (fun h => by rw [hrt] at h; cases h) hlk (fun fs hr => retI X223 hx hrt (hb hby d_m8_34) hr) (QQ := QPure (some (.int (own_cpt (([c0, c1, c2] : List Int32).take n) i))) h0 n0) ?_ (by decide) (by decide)
    rw [e223]
    exact ⟨congrArg (fun z => some (Value.int z)) (own_cpn (own_prIn hc224)), N223, rfl⟩
  · skip
    refine own_go (fun _ k => XS.ifNo X223.here hx rfl (hb hby d_m8_6) rfl ((if0 _ _).trans (feq hc224).1) k) ?_
    show own_Go p e below (T223.setTop (mkF m 9 #[.val (.ref a), .val (.int (Int32.ofNat n)), .val (.int (Int32.ofNat i))] [])) _
    have hi1 : i + 1 < n := own_tkl (c0 := c0) (c1 := c1) (c2 := c2) hn ▸ (own_pr_of (own_prIy hc224)).2.1
    refine own_go (fun _ k => XS.aloadN X223.here hx rfl (hb hby d_m8_9) rfl rfl k) ?_
    show own_Go p e below (T223.setTop (mkF m 10 #[.val (.ref a), .val (.int (Int32.ofNat n)), .val (.int (Int32.ofNat i))] [(.ref a)])) _
    refine own_go (fun _ k => XS.iloadN X223.here hx rfl (hb hby d_m8_10) rfl k) ?_
    show own_Go p e below (T223.setTop (mkF m 11 #[.val (.ref a), .val (.int (Int32.ofNat n)), .val (.int (Int32.ofNat i))] [(.int (Int32.ofNat i)), (.ref a)])) _
    obtain ⟨c226, A226, q226, S226, M226, Hs226, Gs226⟩ := id V_a
    have hi226 := inb_of (j := (Int32.ofNat i)) S226 (own_inb (j := 3) (by omega) (by decide))
    refine own_go (fun _ k => X223.caload hx (j := (Int32.ofNat i)) (v := (.int ((([c0, c1, c2] : List Int32).take n).getD i 0))) (by rw [e223]; exact A226.1) (State.isArrayOf_alike hZ.alike A226.2.1) A226.2.2 hi226 (Has.at Hs226 hi226 ((own_gd (cs := [c0, c1, c2]) (n := 3) rfl (by omega) (by decide)).trans (congrArg Value.int (own_tkg hi).symm))) (g := (mkF m 11 #[.val (.ref a), .val (.int (Int32.ofNat n)), .val (.int (Int32.ofNat i))] [(.int (Int32.ofNat i)), (.ref a)])) rfl rfl (hb hby d_m8_11) _ k) ?_
    show own_Go p e below (T223.setTop (mkF m 12 #[.val (.ref a), .val (.int (Int32.ofNat n)), .val (.int (Int32.ofNat i))] [(.int ((([c0, c1, c2] : List Int32).take n).getD i 0))])) _
    refine own_go (fun _ k => X223.ldcInt hx hown (mvT hZ (hw _ (List.mem_of_getElem? (i := 61) rfl))) (g := (mkF m 12 #[.val (.ref a), .val (.int (Int32.ofNat n)), .val (.int (Int32.ofNat i))] [(.int ((([c0, c1, c2] : List Int32).take n).getD i 0))])) rfl (hb hby d_m8_12) _ k) ?_
    show own_Go p e below (T223.setTop (mkF m 14 #[.val (.ref a), .val (.int (Int32.ofNat n)), .val (.int (Int32.ofNat i))] [(.int (55296 : Int32)), (.int ((([c0, c1, c2] : List Int32).take n).getD i 0))])) _
    refine own_go (fun _ k => XS.isub X223.here hx rfl (hb hby d_m8_14) rfl k) ?_
    show own_Go p e below (T223.setTop (mkF m 15 #[.val (.ref a), .val (.int (Int32.ofNat n)), .val (.int (Int32.ofNat i))] [(.int (((([c0, c1, c2] : List Int32).take n).getD i 0) - (55296 : Int32)))])) _
    refine own_go (fun _ k => XS.bipush X223.here hx rfl (hb hby d_m8_15) k) ?_
    show own_Go p e below (T223.setTop (mkF m 17 #[.val (.ref a), .val (.int (Int32.ofNat n)), .val (.int (Int32.ofNat i))] [(.int (10 : Int32)), (.int (((([c0, c1, c2] : List Int32).take n).getD i 0) - (55296 : Int32)))])) _
    refine own_go (fun _ k => XS.ishl X223.here hx rfl (hb hby d_m8_17) rfl k) ?_
    show own_Go p e below (T223.setTop (mkF m 18 #[.val (.ref a), .val (.int (Int32.ofNat n)), .val (.int (Int32.ofNat i))] [(.int ((((([c0, c1, c2] : List Int32).take n).getD i 0) - (55296 : Int32)) <<< ((10 : Int32) &&& 31)))])) _
    refine own_go (fun _ k => XS.aloadN X223.here hx rfl (hb hby d_m8_18) rfl rfl k) ?_
    show own_Go p e below (T223.setTop (mkF m 19 #[.val (.ref a), .val (.int (Int32.ofNat n)), .val (.int (Int32.ofNat i))] [(.ref a), (.int ((((([c0, c1, c2] : List Int32).take n).getD i 0) - (55296 : Int32)) <<< ((10 : Int32) &&& 31)))])) _
    refine own_go (fun _ k => XS.iloadN X223.here hx rfl (hb hby d_m8_19) rfl k) ?_
    show own_Go p e below (T223.setTop (mkF m 20 #[.val (.ref a), .val (.int (Int32.ofNat n)), .val (.int (Int32.ofNat i))] [(.int (Int32.ofNat i)), (.ref a), (.int ((((([c0, c1, c2] : List Int32).take n).getD i 0) - (55296 : Int32)) <<< ((10 : Int32) &&& 31)))])) _
    refine own_go (fun _ k => XS.iconst X223.here hx rfl (hb hby d_m8_20) k) ?_
    show own_Go p e below (T223.setTop (mkF m 21 #[.val (.ref a), .val (.int (Int32.ofNat n)), .val (.int (Int32.ofNat i))] [(.int (1 : Int32)), (.int (Int32.ofNat i)), (.ref a), (.int ((((([c0, c1, c2] : List Int32).take n).getD i 0) - (55296 : Int32)) <<< ((10 : Int32) &&& 31)))])) _
    refine own_go (fun _ k => XS.iadd X223.here hx rfl (hb hby d_m8_21) rfl k) ?_
    show own_Go p e below (T223.setTop (mkF m 22 #[.val (.ref a), .val (.int (Int32.ofNat n)), .val (.int (Int32.ofNat i))] [(.int ((Int32.ofNat i) + (1 : Int32))), (.ref a), (.int ((((([c0, c1, c2] : List Int32).take n).getD i 0) - (55296 : Int32)) <<< ((10 : Int32) &&& 31)))])) _
    rw [own_inc]
    show own_Go p e below (T223.setTop (mkF m 22 #[.val (.ref a), .val (.int (Int32.ofNat n)), .val (.int (Int32.ofNat i))] [(.int (Int32.ofNat (i + 1))), (.ref a), (.int ((((([c0, c1, c2] : List Int32).take n).getD i 0) - (55296 : Int32)) <<< ((10 : Int32) &&& 31)))])) _
    obtain ⟨c227, A227, q227, S227, M227, Hs227, Gs227⟩ := id V_a
    have hi227 := inb_of (j := (Int32.ofNat (i + 1))) S227 (own_inb (j := 3) (by omega) (by decide))
    refine own_go (fun _ k => X223.caload hx (j := (Int32.ofNat (i + 1))) (v := (.int ((([c0, c1, c2] : List Int32).take n).getD (i + 1) 0))) (by rw [e223]; exact A227.1) (State.isArrayOf_alike hZ.alike A227.2.1) A227.2.2 hi227 (Has.at Hs227 hi227 ((own_gd (cs := [c0, c1, c2]) (n := 3) rfl (by omega) (by decide)).trans (congrArg Value.int (own_tkg hi1).symm))) (g := (mkF m 22 #[.val (.ref a), .val (.int (Int32.ofNat n)), .val (.int (Int32.ofNat i))] [(.int (Int32.ofNat (i + 1))), (.ref a), (.int ((((([c0, c1, c2] : List Int32).take n).getD i 0) - (55296 : Int32)) <<< ((10 : Int32) &&& 31)))])) rfl rfl (hb hby d_m8_22) _ k) ?_
    show own_Go p e below (T223.setTop (mkF m 23 #[.val (.ref a), .val (.int (Int32.ofNat n)), .val (.int (Int32.ofNat i))] [(.int ((([c0, c1, c2] : List Int32).take n).getD (i + 1) 0)), (.int ((((([c0, c1, c2] : List Int32).take n).getD i 0) - (55296 : Int32)) <<< ((10 : Int32) &&& 31)))])) _
    refine own_go (fun _ k => X223.ldcInt hx hown (mvT hZ (hw _ (List.mem_of_getElem? (i := 107) rfl))) (g := (mkF m 23 #[.val (.ref a), .val (.int (Int32.ofNat n)), .val (.int (Int32.ofNat i))] [(.int ((([c0, c1, c2] : List Int32).take n).getD (i + 1) 0)), (.int ((((([c0, c1, c2] : List Int32).take n).getD i 0) - (55296 : Int32)) <<< ((10 : Int32) &&& 31)))])) rfl (hb hby d_m8_23) _ k) ?_
    show own_Go p e below (T223.setTop (mkF m 25 #[.val (.ref a), .val (.int (Int32.ofNat n)), .val (.int (Int32.ofNat i))] [(.int (56320 : Int32)), (.int ((([c0, c1, c2] : List Int32).take n).getD (i + 1) 0)), (.int ((((([c0, c1, c2] : List Int32).take n).getD i 0) - (55296 : Int32)) <<< ((10 : Int32) &&& 31)))])) _
    refine own_go (fun _ k => XS.isub X223.here hx rfl (hb hby d_m8_25) rfl k) ?_
    show own_Go p e below (T223.setTop (mkF m 26 #[.val (.ref a), .val (.int (Int32.ofNat n)), .val (.int (Int32.ofNat i))] [(.int (((([c0, c1, c2] : List Int32).take n).getD (i + 1) 0) - (56320 : Int32))), (.int ((((([c0, c1, c2] : List Int32).take n).getD i 0) - (55296 : Int32)) <<< ((10 : Int32) &&& 31)))])) _
    refine own_go (fun _ k => XS.iadd X223.here hx rfl (hb hby d_m8_26) rfl k) ?_
    show own_Go p e below (T223.setTop (mkF m 27 #[.val (.ref a), .val (.int (Int32.ofNat n)), .val (.int (Int32.ofNat i))] [(.int (((((([c0, c1, c2] : List Int32).take n).getD i 0) - (55296 : Int32)) <<< ((10 : Int32) &&& 31)) + (((([c0, c1, c2] : List Int32).take n).getD (i + 1) 0) - (56320 : Int32))))])) _
    refine own_go (fun _ k => X223.ldcInt hx hown (mvT hZ (hw _ (List.mem_of_getElem? (i := 151) rfl))) (g := (mkF m 27 #[.val (.ref a), .val (.int (Int32.ofNat n)), .val (.int (Int32.ofNat i))] [(.int (((((([c0, c1, c2] : List Int32).take n).getD i 0) - (55296 : Int32)) <<< ((10 : Int32) &&& 31)) + (((([c0, c1, c2] : List Int32).take n).getD (i + 1) 0) - (56320 : Int32))))])) rfl (hb hby d_m8_27) _ k) ?_
    show own_Go p e below (T223.setTop (mkF m 29 #[.val (.ref a), .val (.int (Int32.ofNat n)), .val (.int (Int32.ofNat i))] [(.int (65536 : Int32)), (.int (((((([c0, c1, c2] : List Int32).take n).getD i 0) - (55296 : Int32)) <<< ((10 : Int32) &&& 31)) + (((([c0, c1, c2] : List Int32).take n).getD (i + 1) 0) - (56320 : Int32))))])) _
    refine own_go (fun _ k => XS.iadd X223.here hx rfl (hb hby d_m8_29) rfl k) ?_
    show own_Go p e below (T223.setTop (mkF m 30 #[.val (.ref a), .val (.int (Int32.ofNat n)), .val (.int (Int32.ofNat i))] [(.int ((((((([c0, c1, c2] : List Int32).take n).getD i 0) - (55296 : Int32)) <<< ((10 : Int32) &&& 31)) + (((([c0, c1, c2] : List Int32).take n).getD (i + 1) 0) - (56320 : Int32))) + (65536 : Int32)))])) _
    refine own_fin (v := (some (.int ((((((([c0, c1, c2] : List Int32).take n).getD i 0) - (55296 : Int32)) <<< ((10 : Int32) &&& 31)) + (((([c0, c1, c2] : List Int32).take n).getD (i + 1) 0) - (56320 : Int32))) + (65536 : Int32))))) X223 (fun h => by rw [hrt] at h; cases h) hlk (fun fs hr => retI X223 hx hrt (hb hby d_m8_30) hr) (QQ := QPure (some (.int (own_cpt (([c0, c1, c2] : List Int32).take n) i))) h0 n0) ?_ (by decide) (by decide)
    rw [e223]
    exact ⟨congrArg (fun z => some (Value.int z)) (own_cpy hc224), N223, rfl⟩

theorem d_m9_0 : decode method_9_code 0 = .ok (.aload_n 0, 1) := by decide +kernel
theorem d_m9_1 : decode method_9_code 1 = .ok (.iload_n 1, 1) := by decide +kernel
theorem d_m9_2 : decode method_9_code 2 = .ok (.iload_n 2, 1) := by decide +kernel
theorem d_m9_3 : decode method_9_code 3 = .ok (.invokestatic 56, 3) := by decide +kernel
theorem d_m9_6 : decode method_9_code 6 = .ok (.ifCond .eq 7, 3) := by decide +kernel
theorem d_m9_13 : decode method_9_code 13 = .ok (.iconst 1, 1) := by decide +kernel
theorem d_m9_14 : decode method_9_code 14 = .ok (.ireturn, 1) := by decide +kernel
theorem d_m9_9 : decode method_9_code 9 = .ok (.iconst 2, 1) := by decide +kernel
theorem d_m9_10 : decode method_9_code 10 = .ok (.goto 4, 3) := by decide +kernel
theorem ef_rm_wid (m : MethodId) (x0 : Addr) (x1 : Int32) (x2 : Int32) : entryFrame m #[(.ref x0), (.int x1), (.int x2)] 3 = mkF m 0 #[.val (.ref x0), .val (.int x1), .val (.int x2)] [] := by
   first | (simp [entryFrame, mkF, argsToLocals, Value.category]; done) | rfl
set_option maxRecDepth 65536 in
set_option maxHeartbeats 40000000 in
theorem rm_wid (l : Launch) (Z : State) (a0 : Array Value) (hw : ∀ d ∈ tables_1, d.before a0 Z = true) (ws : List Jvm.Cond) (a : Addr) (ka : ClassId) (c0 : Int32) (c1 : Int32) (c2 : Int32) (n : Nat) (i : Nat) (h0 : Heap) (n0 : Nat) (O0 : Old Z n0 h0) (V_a : Arv Z h0 a ka .char (3 : Int32) [(.int c0), (.int c1), (.int c2)] (.int (0 : Int32))) (hi : i < n) (hn : n ≤ 3) :
    MetFree l (⟨"com/example/rolelattice/rolelattice/decision/CodePointsComparePinLaw", "width", "([CII)I"⟩ : MethodName) (head1 (Jvm.Cond.code (⟨"com/example/rolelattice/rolelattice/decision/CodePointsComparePinLaw", "width", "([CII)I"⟩ : MethodName) method_9_code 3 (some .int) :: ws) ({ frames := 2, cells := 0, slots := 0, locals := 26 } : Room)) (fun aA U => aA = #[(.ref a), (.int (Int32.ofNat n)), (.int (Int32.ofNat i))] ∧ Z.Warmed39 U.vm ∧ U.heap = h0) (fun _ _ _ _ _ => True) (fun _ U oO U' => ∃ rV rL, oO = .returned rV ∧ QPure (some (.int (Int32.ofNat (own_w (([c0, c1, c2] : List Int32).take n) i)))) h0 n0 rV U'.heap rL ∧ FrameEnd U oO U' rL 0 0) := by
  refine MetFree.of_bodySF (plainFor_of_name pn_3) hisR ?_
  intro p e s m args below meth cC s₁ Bd hml0 hP hK
  obtain ⟨rfl, hZ, hh⟩ := hP
  have hx := Bd.exec
  have hby := Bd.bytes
  have hml : cC.maxLocals = 3 := hml0
  have hown : s.vm.findClass "com/example/rolelattice/rolelattice/decision/CodePointsComparePinLaw" = some m.cls := findClass_of_methodNamed Bd.named
  have hnm := (name_of_methodNamed Bd.named Bd.method).1
  have hrt := Bd.returns
  have hlk : meth.locks = false := Bd.notSynchronized
  have X0 : Stand p l e ({ frames := 2, cells := 0, slots := 0, locals := 26 } : Room) s m #[(.ref a), (.int (Int32.ofNat n)), (.int (Int32.ofNat i))] below meth cC s₁ [] 0 0 := Stand.of_body Bd
  have e0 : s₁.heap = h0 := by rw [← hh, Bd.state]; rfl
  have N0 := Fr.nil n0
  have Z0 : n0 ≤ h0.size := O0.1 ▸ O0.2.1
  show own_Go p e below (s₁.setTop (entryFrame m #[(.ref a), (.int (Int32.ofNat n)), (.int (Int32.ofNat i))] 3)) (fun oO U' => ∃ rV rL, oO = .returned rV ∧ QPure (some (.int (Int32.ofNat (own_w (([c0, c1, c2] : List Int32).take n) i)))) h0 n0 rV U'.heap rL ∧ FrameEnd s oO U' rL 0 0)
  refine own_go (fun _ k => castTop (ef_rm_wid m a _ _) k) ?_
  show own_Go p e below (s₁.setTop (mkF m 0 #[.val (.ref a), .val (.int (Int32.ofNat n)), .val (.int (Int32.ofNat i))] [])) _
  refine own_go (fun _ k => XS.aloadN X0.here hx rfl (hb hby d_m9_0) rfl rfl k) ?_
  show own_Go p e below (s₁.setTop (mkF m 1 #[.val (.ref a), .val (.int (Int32.ofNat n)), .val (.int (Int32.ofNat i))] [(.ref a)])) _
  refine own_go (fun _ k => XS.iloadN X0.here hx rfl (hb hby d_m9_1) rfl k) ?_
  show own_Go p e below (s₁.setTop (mkF m 2 #[.val (.ref a), .val (.int (Int32.ofNat n)), .val (.int (Int32.ofNat i))] [(.int (Int32.ofNat n)), (.ref a)])) _
  refine own_go (fun _ k => XS.iloadN X0.here hx rfl (hb hby d_m9_2) rfl k) ?_
  show own_Go p e below (s₁.setTop (mkF m 3 #[.val (.ref a), .val (.int (Int32.ofNat n)), .val (.int (Int32.ofNat i))] [(.int (Int32.ofNat i)), (.int (Int32.ofNat n)), (.ref a)])) _
  obtain ⟨v228, _, ⟨T228, L228, k228, n228⟩, -, X228, ⟨Lc228, hQ228, l228, y228, z228⟩, st228⟩ := Jvm.LawKit.callS X0 hx (y := (⟨"com/example/rolelattice/rolelattice/decision/CodePointsComparePinLaw", "paired", "([CII)Z"⟩ : MethodName)) hown (mvT hZ (hw _ (List.mem_of_getElem? (i := 94) rfl))) (mvT hZ (hw _ (List.mem_of_getElem? (i := 95) rfl))) (mvT hZ (hw _ (List.mem_of_getElem? (i := 2) rfl))) (mvT hZ (hw _ (List.mem_of_getElem? (i := 96) rfl))) (by decide) (backOf (W := 0) (rm_pair l Z a0 hw [] a ka c0 c1 c2 n i h0 n0 O0 V_a hi hn) hZ (hw _ (List.mem_of_getElem? (i := 96) rfl)) (hw _ (List.mem_of_getElem? (i := 2) rfl)) (by decide) (by decide)) (g := (mkF m 3 #[.val (.ref a), .val (.int (Int32.ofNat n)), .val (.int (Int32.ofNat i))] [(.int (Int32.ofNat i)), (.int (Int32.ofNat n)), (.ref a)])) rfl (by rw [hml]; rfl) (argsL := [(.ref a), (.int (Int32.ofNat n)), (.int (Int32.ofNat i))]) (rest := []) (lenOf pd_18 rfl) rfl (by show 2 * 0 + _ ≤ _; exact Nat.le_of_eq rfl) (hb hby d_m9_3) (fun _ _ => ⟨rfl, e0, (by decide : 0 + 0 ≤ _), (by decide : 0 + 0 ≤ _)⟩)
  dsimp only [Pt.U, Pt.locs, Pt.cells, Pt.slots] at X228 l228 y228 z228 st228 hQ228
  subst l228 y228 z228
  refine own_go st228 ?_
  obtain ⟨rfl, Nq228, e228⟩ := hQ228
  have N228 := Fr.app N0 Nq228
  show own_Go p e below (T228.setTop (mkF m 6 #[.val (.ref a), .val (.int (Int32.ofNat n)), .val (.int (Int32.ofNat i))] [(.int (own_prI (([c0, c1, c2] : List Int32).take n) i))])) _
  by_cases hc229 : (own_prI (([c0, c1, c2] : List Int32).take n) i) = (0 : Int32)
  · skip
    refine own_go (fun _ k => XS.ifYes X228.here hx rfl (pc0 := 6) (pc' := 13) rfl (hb hby d_m9_6) rfl ((if0 _ _).trans (teq hc229).1) (by decide) (by decide) k) ?_
    show own_Go p e below (T228.setTop (mkF m 13 #[.val (.ref a), .val (.int (Int32.ofNat n)), .val (.int (Int32.ofNat i))] [])) _
    refine own_go (fun _ k => XS.iconst X228.here hx rfl (hb hby d_m9_13) k) ?_
    show own_Go p e below (T228.setTop (mkF m 14 #[.val (.ref a), .val (.int (Int32.ofNat n)), .val (.int (Int32.ofNat i))] [(.int (1 : Int32))])) _
    refine own_fin (v := (some (.int (1 : Int32)))) X228 (fun h => by rw [hrt] at h; cases h) hlk (fun fs hr => retI X228 hx hrt (hb hby d_m9_14) hr) (QQ := QPure (some (.int (Int32.ofNat (own_w (([c0, c1, c2] : List Int32).take n) i)))) h0 n0) ?_ (by decide) (by decide)
    rw [e228]
    exact ⟨congrArg (fun z => some (Value.int z)) (own_wdn hc229), N228, rfl⟩
  · skip
    refine own_go (fun _ k => XS.ifNo X228.here hx rfl (hb hby d_m9_6) rfl ((if0 _ _).trans (feq hc229).1) k) ?_
    show own_Go p e below (T228.setTop (mkF m 9 #[.val (.ref a), .val (.int (Int32.ofNat n)), .val (.int (Int32.ofNat i))] [])) _
    refine own_go (fun _ k => XS.iconst X228.here hx rfl (hb hby d_m9_9) k) ?_
    show own_Go p e below (T228.setTop (mkF m 10 #[.val (.ref a), .val (.int (Int32.ofNat n)), .val (.int (Int32.ofNat i))] [(.int (2 : Int32))])) _
    refine own_go (fun _ k => XS.goto X228.here hx rfl (pc0 := 10) (pc' := 14) rfl (hb hby d_m9_10) (by decide) (by decide) k) ?_
    show own_Go p e below (T228.setTop (mkF m 14 #[.val (.ref a), .val (.int (Int32.ofNat n)), .val (.int (Int32.ofNat i))] [(.int (2 : Int32))])) _
    refine own_fin (v := (some (.int (2 : Int32)))) X228 (fun h => by rw [hrt] at h; cases h) hlk (fun fs hr => retI X228 hx hrt (hb hby d_m9_14) hr) (QQ := QPure (some (.int (Int32.ofNat (own_w (([c0, c1, c2] : List Int32).take n) i)))) h0 n0) ?_ (by decide) (by decide)
    rw [e228]
    exact ⟨congrArg (fun z => some (Value.int z)) (own_wdy hc229), N228, rfl⟩

theorem d_m10_0 : decode method_10_code 0 = .ok (.iconst 0, 1) := by decide +kernel
theorem d_m10_1 : decode method_10_code 1 = .ok (.istore_n 3, 1) := by decide +kernel
theorem d_m10_2 : decode method_10_code 2 = .ok (.iconst 0, 1) := by decide +kernel
theorem d_m10_3 : decode method_10_code 3 = .ok (.istore 4, 2) := by decide +kernel
theorem d_m10_5 : decode method_10_code 5 = .ok (.iload 4, 2) := by decide +kernel
theorem d_m10_7 : decode method_10_code 7 = .ok (.iload_n 1, 1) := by decide +kernel
theorem d_m10_8 : decode method_10_code 8 = .ok (.if_icmp .ge 28, 3) := by decide +kernel
theorem d_m10_36 : decode method_10_code 36 = .ok (.iload 4, 2) := by decide +kernel
theorem d_m10_38 : decode method_10_code 38 = .ok (.iload_n 1, 1) := by decide +kernel
theorem d_m10_39 : decode method_10_code 39 = .ok (.if_icmp .ge 28, 3) := by decide +kernel
theorem d_m10_67 : decode method_10_code 67 = .ok (.iload 4, 2) := by decide +kernel
theorem d_m10_69 : decode method_10_code 69 = .ok (.iload_n 1, 1) := by decide +kernel
theorem d_m10_70 : decode method_10_code 70 = .ok (.if_icmp .ge 28, 3) := by decide +kernel
theorem d_m10_98 : decode method_10_code 98 = .ok (.iload_n 3, 1) := by decide +kernel
theorem d_m10_99 : decode method_10_code 99 = .ok (.ireturn, 1) := by decide +kernel
theorem d_m10_11 : decode method_10_code 11 = .ok (.aload_n 2, 1) := by decide +kernel
theorem d_m10_12 : decode method_10_code 12 = .ok (.iload_n 3, 1) := by decide +kernel
theorem d_m10_13 : decode method_10_code 13 = .ok (.aload_n 0, 1) := by decide +kernel
theorem d_m10_14 : decode method_10_code 14 = .ok (.iload_n 1, 1) := by decide +kernel
theorem d_m10_15 : decode method_10_code 15 = .ok (.iload 4, 2) := by decide +kernel
theorem d_m10_17 : decode method_10_code 17 = .ok (.invokestatic 61, 3) := by decide +kernel
theorem pd_19 : parseMethodDescriptor "([CII)I" = some ⟨[(.array .char), .int, .int], some .int⟩ := by decide +kernel
theorem d_m10_20 : decode method_10_code 20 = .ok (.iastore, 1) := by decide +kernel
theorem d_m10_21 : decode method_10_code 21 = .ok (.iload 4, 2) := by decide +kernel
theorem d_m10_23 : decode method_10_code 23 = .ok (.aload_n 0, 1) := by decide +kernel
theorem d_m10_24 : decode method_10_code 24 = .ok (.iload_n 1, 1) := by decide +kernel
theorem d_m10_25 : decode method_10_code 25 = .ok (.iload 4, 2) := by decide +kernel
theorem d_m10_27 : decode method_10_code 27 = .ok (.invokestatic 65, 3) := by decide +kernel
theorem d_m10_30 : decode method_10_code 30 = .ok (.iadd, 1) := by decide +kernel
theorem d_m10_31 : decode method_10_code 31 = .ok (.istore 4, 2) := by decide +kernel
theorem d_m10_33 : decode method_10_code 33 = .ok (.iinc 3 1, 3) := by decide +kernel
theorem d_m10_42 : decode method_10_code 42 = .ok (.aload_n 2, 1) := by decide +kernel
theorem d_m10_43 : decode method_10_code 43 = .ok (.iload_n 3, 1) := by decide +kernel
theorem d_m10_44 : decode method_10_code 44 = .ok (.aload_n 0, 1) := by decide +kernel
theorem d_m10_45 : decode method_10_code 45 = .ok (.iload_n 1, 1) := by decide +kernel
theorem d_m10_46 : decode method_10_code 46 = .ok (.iload 4, 2) := by decide +kernel
theorem d_m10_48 : decode method_10_code 48 = .ok (.invokestatic 61, 3) := by decide +kernel
theorem d_m10_51 : decode method_10_code 51 = .ok (.iastore, 1) := by decide +kernel
theorem d_m10_52 : decode method_10_code 52 = .ok (.iload 4, 2) := by decide +kernel
theorem d_m10_54 : decode method_10_code 54 = .ok (.aload_n 0, 1) := by decide +kernel
theorem d_m10_55 : decode method_10_code 55 = .ok (.iload_n 1, 1) := by decide +kernel
theorem d_m10_56 : decode method_10_code 56 = .ok (.iload 4, 2) := by decide +kernel
theorem d_m10_58 : decode method_10_code 58 = .ok (.invokestatic 65, 3) := by decide +kernel
theorem d_m10_61 : decode method_10_code 61 = .ok (.iadd, 1) := by decide +kernel
theorem d_m10_62 : decode method_10_code 62 = .ok (.istore 4, 2) := by decide +kernel
theorem d_m10_64 : decode method_10_code 64 = .ok (.iinc 3 1, 3) := by decide +kernel
theorem d_m10_73 : decode method_10_code 73 = .ok (.aload_n 2, 1) := by decide +kernel
theorem d_m10_74 : decode method_10_code 74 = .ok (.iload_n 3, 1) := by decide +kernel
theorem d_m10_75 : decode method_10_code 75 = .ok (.aload_n 0, 1) := by decide +kernel
theorem d_m10_76 : decode method_10_code 76 = .ok (.iload_n 1, 1) := by decide +kernel
theorem d_m10_77 : decode method_10_code 77 = .ok (.iload 4, 2) := by decide +kernel
theorem d_m10_79 : decode method_10_code 79 = .ok (.invokestatic 61, 3) := by decide +kernel
theorem d_m10_82 : decode method_10_code 82 = .ok (.iastore, 1) := by decide +kernel
theorem d_m10_83 : decode method_10_code 83 = .ok (.iload 4, 2) := by decide +kernel
theorem d_m10_85 : decode method_10_code 85 = .ok (.aload_n 0, 1) := by decide +kernel
theorem d_m10_86 : decode method_10_code 86 = .ok (.iload_n 1, 1) := by decide +kernel
theorem d_m10_87 : decode method_10_code 87 = .ok (.iload 4, 2) := by decide +kernel
theorem d_m10_89 : decode method_10_code 89 = .ok (.invokestatic 65, 3) := by decide +kernel
theorem d_m10_92 : decode method_10_code 92 = .ok (.iadd, 1) := by decide +kernel
theorem d_m10_93 : decode method_10_code 93 = .ok (.istore 4, 2) := by decide +kernel
theorem d_m10_95 : decode method_10_code 95 = .ok (.iinc 3 1, 3) := by decide +kernel
theorem ef_rm_dec (m : MethodId) (x0 : Addr) (x1 : Int32) (x2 : Addr) : entryFrame m #[(.ref x0), (.int x1), (.ref x2)] 5 = mkF m 0 #[.val (.ref x0), .val (.int x1), .val (.ref x2), .unset, .unset] [] := by
   first | (simp [entryFrame, mkF, argsToLocals, Value.category]; done) | rfl
set_option maxRecDepth 65536 in
set_option maxHeartbeats 40000000 in
theorem rm_dec (l : Launch) (Z : State) (a0 : Array Value) (hw : ∀ d ∈ tables_1, d.before a0 Z = true) (ws : List Jvm.Cond) (a : Addr) (ka : ClassId) (c0 : Int32) (c1 : Int32) (c2 : Int32) (n : Nat) (o : Addr) (ko : ClassId) (h0 : Heap) (n0 : Nat) (O0 : Old Z n0 h0) (V_a : Arv Z h0 a ka .char (3 : Int32) [(.int c0), (.int c1), (.int c2)] (.int (0 : Int32))) (V_o : Arv Z h0 o ko .int (3 : Int32) [(.int (0 : Int32)), (.int (0 : Int32)), (.int (0 : Int32))] (.int (0 : Int32))) (g_o : n0 ≤ o) (hao : a ≠ o) (hn : n ≤ 3) :
    MetFree l (⟨"com/example/rolelattice/rolelattice/decision/CodePointsComparePinLaw", "decode", "([CI[I)I"⟩ : MethodName) (head1 (Jvm.Cond.code (⟨"com/example/rolelattice/rolelattice/decision/CodePointsComparePinLaw", "decode", "([CI[I)I"⟩ : MethodName) method_10_code 5 (some .int) :: ws) ({ frames := 3, cells := 0, slots := 0, locals := 42 } : Room)) (fun aA U => aA = #[(.ref a), (.int (Int32.ofNat n)), (.ref o)] ∧ Z.Warmed39 U.vm ∧ U.heap = h0) (fun _ _ _ _ _ => True) (fun _ U oO U' => ∃ rV rL, oO = .returned rV ∧ QDec Z o ko (([c0, c1, c2] : List Int32).take n) h0 n0 rV U'.heap rL ∧ FrameEnd U oO U' rL 0 0) := by
  refine MetFree.of_bodySF (plainFor_of_name pn_3) hisR ?_
  intro p e s m args below meth cC s₁ Bd hml0 hP hK
  obtain ⟨rfl, hZ, hh⟩ := hP
  have hx := Bd.exec
  have hby := Bd.bytes
  have hml : cC.maxLocals = 5 := hml0
  have hown : s.vm.findClass "com/example/rolelattice/rolelattice/decision/CodePointsComparePinLaw" = some m.cls := findClass_of_methodNamed Bd.named
  have hnm := (name_of_methodNamed Bd.named Bd.method).1
  have hrt := Bd.returns
  have hlk : meth.locks = false := Bd.notSynchronized
  have X0 : Stand p l e ({ frames := 3, cells := 0, slots := 0, locals := 42 } : Room) s m #[(.ref a), (.int (Int32.ofNat n)), (.ref o)] below meth cC s₁ [] 0 0 := Stand.of_body Bd
  have e0 : s₁.heap = h0 := by rw [← hh, Bd.state]; rfl
  have N0 := Fr.nil n0
  have Z0 : n0 ≤ h0.size := O0.1 ▸ O0.2.1
  show own_Go p e below (s₁.setTop (entryFrame m #[(.ref a), (.int (Int32.ofNat n)), (.ref o)] 5)) (fun oO U' => ∃ rV rL, oO = .returned rV ∧ QDec Z o ko (([c0, c1, c2] : List Int32).take n) h0 n0 rV U'.heap rL ∧ FrameEnd s oO U' rL 0 0)
  refine own_go (fun _ k => castTop (ef_rm_dec m a _ o) k) ?_
  show own_Go p e below (s₁.setTop (mkF m 0 #[.val (.ref a), .val (.int (Int32.ofNat n)), .val (.ref o), .unset, .unset] [])) _
  rcases (by omega : n = 0 ∨ n = 1 ∨ n = 2 ∨ n = 3) with q | q | q | q
  · subst q
    show own_Go p e below (s₁.setTop (mkF m 0 #[.val (.ref a), .val (.int (0 : Int32)), .val (.ref o), .unset, .unset] [])) _
    show own_Go p e below (s₁.setTop (mkF m 0 #[.val (.ref a), .val (.int (0 : Int32)), .val (.ref o), .unset, .unset] [])) _
    refine own_go (fun _ k => XS.iconst X0.here hx rfl (hb hby d_m10_0) k) ?_
    show own_Go p e below (s₁.setTop (mkF m 1 #[.val (.ref a), .val (.int (0 : Int32)), .val (.ref o), .unset, .unset] [(.int (0 : Int32))])) _
    refine own_go (fun _ k => XS.istoreN X0.here hx rfl (hb hby d_m10_1) rfl (l' := #[.val (.ref a), .val (.int (0 : Int32)), .val (.ref o), .val (.int (0 : Int32)), .unset]) rfl k) ?_
    show own_Go p e below (s₁.setTop (mkF m 2 #[.val (.ref a), .val (.int (0 : Int32)), .val (.ref o), .val (.int (0 : Int32)), .unset] [])) _
    refine own_go (fun _ k => XS.iconst X0.here hx rfl (hb hby d_m10_2) k) ?_
    show own_Go p e below (s₁.setTop (mkF m 3 #[.val (.ref a), .val (.int (0 : Int32)), .val (.ref o), .val (.int (0 : Int32)), .unset] [(.int (0 : Int32))])) _
    refine own_go (fun _ k => XS.istore X0.here hx rfl (hb hby d_m10_3) rfl (l' := #[.val (.ref a), .val (.int (0 : Int32)), .val (.ref o), .val (.int (0 : Int32)), .val (.int (0 : Int32))]) rfl k) ?_
    show own_Go p e below (s₁.setTop (mkF m 5 #[.val (.ref a), .val (.int (0 : Int32)), .val (.ref o), .val (.int (0 : Int32)), .val (.int (0 : Int32))] [])) _
    refine own_go (fun _ k => XS.iload X0.here hx rfl (hb hby d_m10_5) rfl k) ?_
    show own_Go p e below (s₁.setTop (mkF m 7 #[.val (.ref a), .val (.int (0 : Int32)), .val (.ref o), .val (.int (0 : Int32)), .val (.int (0 : Int32))] [(.int (0 : Int32))])) _
    refine own_go (fun _ k => XS.iloadN X0.here hx rfl (hb hby d_m10_7) rfl k) ?_
    show own_Go p e below (s₁.setTop (mkF m 8 #[.val (.ref a), .val (.int (0 : Int32)), .val (.ref o), .val (.int (0 : Int32)), .val (.int (0 : Int32))] [(.int (0 : Int32)), (.int (0 : Int32))])) _
    refine own_go (fun _ k => XS.icmpYes X0.here hx rfl (pc0 := 8) (pc' := 36) rfl (hb hby d_m10_8) rfl (flt (by decide : ¬ ((0 : Int32) < (0 : Int32)))).2.1 (by decide) (by decide) k) ?_
    show own_Go p e below (s₁.setTop (mkF m 36 #[.val (.ref a), .val (.int (0 : Int32)), .val (.ref o), .val (.int (0 : Int32)), .val (.int (0 : Int32))] [])) _
    show own_Go p e below (s₁.setTop (mkF m 36 #[.val (.ref a), .val (.int (0 : Int32)), .val (.ref o), .val (.int (0 : Int32)), .val (.int (0 : Int32))] [])) _
    refine own_go (fun _ k => XS.iload X0.here hx rfl (hb hby d_m10_36) rfl k) ?_
    show own_Go p e below (s₁.setTop (mkF m 38 #[.val (.ref a), .val (.int (0 : Int32)), .val (.ref o), .val (.int (0 : Int32)), .val (.int (0 : Int32))] [(.int (0 : Int32))])) _
    refine own_go (fun _ k => XS.iloadN X0.here hx rfl (hb hby d_m10_38) rfl k) ?_
    show own_Go p e below (s₁.setTop (mkF m 39 #[.val (.ref a), .val (.int (0 : Int32)), .val (.ref o), .val (.int (0 : Int32)), .val (.int (0 : Int32))] [(.int (0 : Int32)), (.int (0 : Int32))])) _
    refine own_go (fun _ k => XS.icmpYes X0.here hx rfl (pc0 := 39) (pc' := 67) rfl (hb hby d_m10_39) rfl (flt (by decide : ¬ ((0 : Int32) < (0 : Int32)))).2.1 (by decide) (by decide) k) ?_
    show own_Go p e below (s₁.setTop (mkF m 67 #[.val (.ref a), .val (.int (0 : Int32)), .val (.ref o), .val (.int (0 : Int32)), .val (.int (0 : Int32))] [])) _
    show own_Go p e below (s₁.setTop (mkF m 67 #[.val (.ref a), .val (.int (0 : Int32)), .val (.ref o), .val (.int (0 : Int32)), .val (.int (0 : Int32))] [])) _
    refine own_go (fun _ k => XS.iload X0.here hx rfl (hb hby d_m10_67) rfl k) ?_
    show own_Go p e below (s₁.setTop (mkF m 69 #[.val (.ref a), .val (.int (0 : Int32)), .val (.ref o), .val (.int (0 : Int32)), .val (.int (0 : Int32))] [(.int (0 : Int32))])) _
    refine own_go (fun _ k => XS.iloadN X0.here hx rfl (hb hby d_m10_69) rfl k) ?_
    show own_Go p e below (s₁.setTop (mkF m 70 #[.val (.ref a), .val (.int (0 : Int32)), .val (.ref o), .val (.int (0 : Int32)), .val (.int (0 : Int32))] [(.int (0 : Int32)), (.int (0 : Int32))])) _
    refine own_go (fun _ k => XS.icmpYes X0.here hx rfl (pc0 := 70) (pc' := 98) rfl (hb hby d_m10_70) rfl (flt (by decide : ¬ ((0 : Int32) < (0 : Int32)))).2.1 (by decide) (by decide) k) ?_
    show own_Go p e below (s₁.setTop (mkF m 98 #[.val (.ref a), .val (.int (0 : Int32)), .val (.ref o), .val (.int (0 : Int32)), .val (.int (0 : Int32))] [])) _
    show own_Go p e below (s₁.setTop (mkF m 98 #[.val (.ref a), .val (.int (0 : Int32)), .val (.ref o), .val (.int (0 : Int32)), .val (.int (0 : Int32))] [])) _
    refine own_go (fun _ k => XS.iloadN X0.here hx rfl (hb hby d_m10_98) rfl k) ?_
    show own_Go p e below (s₁.setTop (mkF m 99 #[.val (.ref a), .val (.int (0 : Int32)), .val (.ref o), .val (.int (0 : Int32)), .val (.int (0 : Int32))] [(.int (0 : Int32))])) _
    refine own_fin (v := (some (.int (0 : Int32)))) X0 (fun h => by rw [hrt] at h; cases h) hlk (fun fs hr => retI X0 hx hrt (hb hby d_m10_99) hr) (QQ := QDec Z o ko (([c0, c1, c2] : List Int32).take 0) h0 n0) ?_ (by decide) (by decide)
    rw [e0]
    exact ⟨([] : List Int32), Eq.symm (own_T_ge (Nat.not_lt.mpr (Nat.le_of_ble_eq_true rfl))), rfl, N0, (Keep.refl h0 [o]), Nat.le_of_ble_eq_true rfl, V_o⟩
  · subst q
    show own_Go p e below (s₁.setTop (mkF m 0 #[.val (.ref a), .val (.int (1 : Int32)), .val (.ref o), .unset, .unset] [])) _
    show own_Go p e below (s₁.setTop (mkF m 0 #[.val (.ref a), .val (.int (1 : Int32)), .val (.ref o), .unset, .unset] [])) _
    refine own_go (fun _ k => XS.iconst X0.here hx rfl (hb hby d_m10_0) k) ?_
    show own_Go p e below (s₁.setTop (mkF m 1 #[.val (.ref a), .val (.int (1 : Int32)), .val (.ref o), .unset, .unset] [(.int (0 : Int32))])) _
    refine own_go (fun _ k => XS.istoreN X0.here hx rfl (hb hby d_m10_1) rfl (l' := #[.val (.ref a), .val (.int (1 : Int32)), .val (.ref o), .val (.int (0 : Int32)), .unset]) rfl k) ?_
    show own_Go p e below (s₁.setTop (mkF m 2 #[.val (.ref a), .val (.int (1 : Int32)), .val (.ref o), .val (.int (0 : Int32)), .unset] [])) _
    refine own_go (fun _ k => XS.iconst X0.here hx rfl (hb hby d_m10_2) k) ?_
    show own_Go p e below (s₁.setTop (mkF m 3 #[.val (.ref a), .val (.int (1 : Int32)), .val (.ref o), .val (.int (0 : Int32)), .unset] [(.int (0 : Int32))])) _
    refine own_go (fun _ k => XS.istore X0.here hx rfl (hb hby d_m10_3) rfl (l' := #[.val (.ref a), .val (.int (1 : Int32)), .val (.ref o), .val (.int (0 : Int32)), .val (.int (0 : Int32))]) rfl k) ?_
    show own_Go p e below (s₁.setTop (mkF m 5 #[.val (.ref a), .val (.int (1 : Int32)), .val (.ref o), .val (.int (0 : Int32)), .val (.int (0 : Int32))] [])) _
    refine own_go (fun _ k => XS.iload X0.here hx rfl (hb hby d_m10_5) rfl k) ?_
    show own_Go p e below (s₁.setTop (mkF m 7 #[.val (.ref a), .val (.int (1 : Int32)), .val (.ref o), .val (.int (0 : Int32)), .val (.int (0 : Int32))] [(.int (0 : Int32))])) _
    refine own_go (fun _ k => XS.iloadN X0.here hx rfl (hb hby d_m10_7) rfl k) ?_
    show own_Go p e below (s₁.setTop (mkF m 8 #[.val (.ref a), .val (.int (1 : Int32)), .val (.ref o), .val (.int (0 : Int32)), .val (.int (0 : Int32))] [(.int (1 : Int32)), (.int (0 : Int32))])) _
    refine own_go (fun _ k => XS.icmpNo X0.here hx rfl (hb hby d_m10_8) rfl (tlt (by decide : (0 : Int32) < (1 : Int32))).2.1 k) ?_
    show own_Go p e below (s₁.setTop (mkF m 11 #[.val (.ref a), .val (.int (1 : Int32)), .val (.ref o), .val (.int (0 : Int32)), .val (.int (0 : Int32))] [])) _
    refine own_go (fun _ k => XS.aloadN X0.here hx rfl (hb hby d_m10_11) rfl rfl k) ?_
    show own_Go p e below (s₁.setTop (mkF m 12 #[.val (.ref a), .val (.int (1 : Int32)), .val (.ref o), .val (.int (0 : Int32)), .val (.int (0 : Int32))] [(.ref o)])) _
    refine own_go (fun _ k => XS.iloadN X0.here hx rfl (hb hby d_m10_12) rfl k) ?_
    show own_Go p e below (s₁.setTop (mkF m 13 #[.val (.ref a), .val (.int (1 : Int32)), .val (.ref o), .val (.int (0 : Int32)), .val (.int (0 : Int32))] [(.int (0 : Int32)), (.ref o)])) _
    refine own_go (fun _ k => XS.aloadN X0.here hx rfl (hb hby d_m10_13) rfl rfl k) ?_
    show own_Go p e below (s₁.setTop (mkF m 14 #[.val (.ref a), .val (.int (1 : Int32)), .val (.ref o), .val (.int (0 : Int32)), .val (.int (0 : Int32))] [(.ref a), (.int (0 : Int32)), (.ref o)])) _
    refine own_go (fun _ k => XS.iloadN X0.here hx rfl (hb hby d_m10_14) rfl k) ?_
    show own_Go p e below (s₁.setTop (mkF m 15 #[.val (.ref a), .val (.int (1 : Int32)), .val (.ref o), .val (.int (0 : Int32)), .val (.int (0 : Int32))] [(.int (1 : Int32)), (.ref a), (.int (0 : Int32)), (.ref o)])) _
    refine own_go (fun _ k => XS.iload X0.here hx rfl (hb hby d_m10_15) rfl k) ?_
    show own_Go p e below (s₁.setTop (mkF m 17 #[.val (.ref a), .val (.int (1 : Int32)), .val (.ref o), .val (.int (0 : Int32)), .val (.int (0 : Int32))] [(.int (0 : Int32)), (.int (1 : Int32)), (.ref a), (.int (0 : Int32)), (.ref o)])) _
    obtain ⟨v230, _, ⟨T230, L230, k230, n230⟩, -, X230, ⟨Lc230, hQ230, l230, y230, z230⟩, st230⟩ := Jvm.LawKit.callS X0 hx (y := (⟨"com/example/rolelattice/rolelattice/decision/CodePointsComparePinLaw", "cpAt", "([CII)I"⟩ : MethodName)) hown (mvT hZ (hw _ (List.mem_of_getElem? (i := 91) rfl))) (mvT hZ (hw _ (List.mem_of_getElem? (i := 92) rfl))) (mvT hZ (hw _ (List.mem_of_getElem? (i := 2) rfl))) (mvT hZ (hw _ (List.mem_of_getElem? (i := 93) rfl))) (by decide) (backOf (W := 2) (rm_cpat l Z a0 hw [] a ka c0 c1 c2 1 0 h0 n0 O0 V_a (by decide) (by decide)) hZ (hw _ (List.mem_of_getElem? (i := 93) rfl)) (hw _ (List.mem_of_getElem? (i := 2) rfl)) (by decide) (by decide)) (g := (mkF m 17 #[.val (.ref a), .val (.int (1 : Int32)), .val (.ref o), .val (.int (0 : Int32)), .val (.int (0 : Int32))] [(.int (0 : Int32)), (.int (1 : Int32)), (.ref a), (.int (0 : Int32)), (.ref o)])) rfl (by rw [hml]; rfl) (argsL := [(.ref a), (.int (1 : Int32)), (.int (0 : Int32))]) (rest := [(.int (0 : Int32)), (.ref o)]) (lenOf pd_19 rfl) rfl (by show 2 * 0 + _ ≤ _; exact Nat.le_of_eq rfl) (hb hby d_m10_17) (fun _ _ => ⟨rfl, e0, (by decide : 0 + 0 ≤ _), (by decide : 0 + 0 ≤ _)⟩)
    dsimp only [Pt.U, Pt.locs, Pt.cells, Pt.slots] at X230 l230 y230 z230 st230 hQ230
    subst l230 y230 z230
    refine own_go st230 ?_
    obtain ⟨rfl, Nq230, e230⟩ := hQ230
    have N230 := Fr.app N0 Nq230
    show own_Go p e below (T230.setTop (mkF m 20 #[.val (.ref a), .val (.int (1 : Int32)), .val (.ref o), .val (.int (0 : Int32)), .val (.int (0 : Int32))] [(.int (own_cpt (([c0, c1, c2] : List Int32).take 1) 0)), (.int (0 : Int32)), (.ref o)])) _
    obtain ⟨c231, A231, q231, S231, M231, Hs231, Gs231⟩ := id V_o
    obtain ⟨T232, h232, X232, e232, W232, st232⟩ := stI X230 hx hZ e230 A231 (j := (0 : Int32)) (inb_of S231 ⟨by decide, by decide⟩) (g := (mkF m 20 #[.val (.ref a), .val (.int (1 : Int32)), .val (.ref o), .val (.int (0 : Int32)), .val (.int (0 : Int32))] [(.int (own_cpt (([c0, c1, c2] : List Int32).take 1) 0)), (.int (0 : Int32)), (.ref o)])) rfl rfl (hb hby d_m10_20)
    refine own_go st232 ?_
    have N232 := Fr.snoc X232 N230 g_o
    have V232 : Arv Z h232 o ko .int (3 : Int32) [(.int (own_cpt (([c0, c1, c2] : List Int32).take 1) 0)), (.int (0 : Int32)), (.int (0 : Int32))] (.int (0 : Int32)) := Arv.set A231 q231 S231 M231 Hs231 Gs231 rfl W232 0 rfl (Nat.le_of_ble_eq_true rfl)
    show own_Go p e below (T232.setTop (mkF m 21 #[.val (.ref a), .val (.int (1 : Int32)), .val (.ref o), .val (.int (0 : Int32)), .val (.int (0 : Int32))] [])) _
    refine own_go (fun _ k => XS.iload X232.here hx rfl (hb hby d_m10_21) rfl k) ?_
    show own_Go p e below (T232.setTop (mkF m 23 #[.val (.ref a), .val (.int (1 : Int32)), .val (.ref o), .val (.int (0 : Int32)), .val (.int (0 : Int32))] [(.int (0 : Int32))])) _
    refine own_go (fun _ k => XS.aloadN X232.here hx rfl (hb hby d_m10_23) rfl rfl k) ?_
    show own_Go p e below (T232.setTop (mkF m 24 #[.val (.ref a), .val (.int (1 : Int32)), .val (.ref o), .val (.int (0 : Int32)), .val (.int (0 : Int32))] [(.ref a), (.int (0 : Int32))])) _
    refine own_go (fun _ k => XS.iloadN X232.here hx rfl (hb hby d_m10_24) rfl k) ?_
    show own_Go p e below (T232.setTop (mkF m 25 #[.val (.ref a), .val (.int (1 : Int32)), .val (.ref o), .val (.int (0 : Int32)), .val (.int (0 : Int32))] [(.int (1 : Int32)), (.ref a), (.int (0 : Int32))])) _
    refine own_go (fun _ k => XS.iload X232.here hx rfl (hb hby d_m10_25) rfl k) ?_
    show own_Go p e below (T232.setTop (mkF m 27 #[.val (.ref a), .val (.int (1 : Int32)), .val (.ref o), .val (.int (0 : Int32)), .val (.int (0 : Int32))] [(.int (0 : Int32)), (.int (1 : Int32)), (.ref a), (.int (0 : Int32))])) _
    obtain ⟨v233, _, ⟨T233, L233, k233, n233⟩, -, X233, ⟨Lc233, hQ233, l233, y233, z233⟩, st233⟩ := Jvm.LawKit.callS X232 hx (y := (⟨"com/example/rolelattice/rolelattice/decision/CodePointsComparePinLaw", "width", "([CII)I"⟩ : MethodName)) hown (mvT hZ (hw _ (List.mem_of_getElem? (i := 101) rfl))) (mvT hZ (hw _ (List.mem_of_getElem? (i := 102) rfl))) (mvT hZ (hw _ (List.mem_of_getElem? (i := 2) rfl))) (mvT hZ (hw _ (List.mem_of_getElem? (i := 103) rfl))) (by decide) (backOf (W := 1) (rm_wid l Z a0 hw [] a ka c0 c1 c2 1 0 h232 n0 (O0.wr W232 g_o) (V_a.other W232 hao) (by decide) (by decide)) hZ (hw _ (List.mem_of_getElem? (i := 103) rfl)) (hw _ (List.mem_of_getElem? (i := 2) rfl)) (by decide) (by decide)) (g := (mkF m 27 #[.val (.ref a), .val (.int (1 : Int32)), .val (.ref o), .val (.int (0 : Int32)), .val (.int (0 : Int32))] [(.int (0 : Int32)), (.int (1 : Int32)), (.ref a), (.int (0 : Int32))])) rfl (by rw [hml]; rfl) (argsL := [(.ref a), (.int (1 : Int32)), (.int (0 : Int32))]) (rest := [(.int (0 : Int32))]) (lenOf pd_19 rfl) rfl (by show 2 * 0 + _ ≤ _; exact Nat.le_of_eq rfl) (hb hby d_m10_27) (fun _ _ => ⟨rfl, e232, (by decide : 0 + 0 ≤ _), (by decide : 0 + 0 ≤ _)⟩)
    dsimp only [Pt.U, Pt.locs, Pt.cells, Pt.slots] at X233 l233 y233 z233 st233 hQ233
    subst l233 y233 z233
    refine own_go st233 ?_
    obtain ⟨rfl, Nq233, e233⟩ := hQ233
    have N233 := Fr.app N232 Nq233
    show own_Go p e below (T233.setTop (mkF m 30 #[.val (.ref a), .val (.int (1 : Int32)), .val (.ref o), .val (.int (0 : Int32)), .val (.int (0 : Int32))] [(.int (Int32.ofNat (own_w (([c0, c1, c2] : List Int32).take 1) 0))), (.int (0 : Int32))])) _
    have qw0 : own_w (([c0, c1, c2] : List Int32).take 1) 0 = 1 := own_wl1 (Nat.not_lt.mpr (Nat.le_of_ble_eq_true rfl))
    rw [qw0]
    show own_Go p e below (T233.setTop (mkF m 30 #[.val (.ref a), .val (.int (1 : Int32)), .val (.ref o), .val (.int (0 : Int32)), .val (.int (0 : Int32))] [(.int (1 : Int32)), (.int (0 : Int32))])) _
    refine own_go (fun _ k => XS.iadd X233.here hx rfl (hb hby d_m10_30) rfl k) ?_
    show own_Go p e below (T233.setTop (mkF m 31 #[.val (.ref a), .val (.int (1 : Int32)), .val (.ref o), .val (.int (0 : Int32)), .val (.int (0 : Int32))] [(.int (1 : Int32))])) _
    refine own_go (fun _ k => XS.istore X233.here hx rfl (hb hby d_m10_31) rfl (l' := #[.val (.ref a), .val (.int (1 : Int32)), .val (.ref o), .val (.int (0 : Int32)), .val (.int (1 : Int32))]) rfl k) ?_
    show own_Go p e below (T233.setTop (mkF m 33 #[.val (.ref a), .val (.int (1 : Int32)), .val (.ref o), .val (.int (0 : Int32)), .val (.int (1 : Int32))] [])) _
    show own_Go p e below (T233.setTop (mkF m 33 #[.val (.ref a), .val (.int (1 : Int32)), .val (.ref o), .val (.int (0 : Int32)), .val (.int (1 : Int32))] [])) _
    refine own_go (fun _ k => XS.iinc X233.here hx rfl (hb hby d_m10_33) rfl (l' := #[.val (.ref a), .val (.int (1 : Int32)), .val (.ref o), .val (.int (1 : Int32)), .val (.int (1 : Int32))]) rfl k) ?_
    show own_Go p e below (T233.setTop (mkF m 36 #[.val (.ref a), .val (.int (1 : Int32)), .val (.ref o), .val (.int (1 : Int32)), .val (.int (1 : Int32))] [])) _
    show own_Go p e below (T233.setTop (mkF m 36 #[.val (.ref a), .val (.int (1 : Int32)), .val (.ref o), .val (.int (1 : Int32)), .val (.int (1 : Int32))] [])) _
    refine own_go (fun _ k => XS.iload X233.here hx rfl (hb hby d_m10_36) rfl k) ?_
    show own_Go p e below (T233.setTop (mkF m 38 #[.val (.ref a), .val (.int (1 : Int32)), .val (.ref o), .val (.int (1 : Int32)), .val (.int (1 : Int32))] [(.int (1 : Int32))])) _
    refine own_go (fun _ k => XS.iloadN X233.here hx rfl (hb hby d_m10_38) rfl k) ?_
    show own_Go p e below (T233.setTop (mkF m 39 #[.val (.ref a), .val (.int (1 : Int32)), .val (.ref o), .val (.int (1 : Int32)), .val (.int (1 : Int32))] [(.int (1 : Int32)), (.int (1 : Int32))])) _
    refine own_go (fun _ k => XS.icmpYes X233.here hx rfl (pc0 := 39) (pc' := 67) rfl (hb hby d_m10_39) rfl (flt (by decide : ¬ ((1 : Int32) < (1 : Int32)))).2.1 (by decide) (by decide) k) ?_
    show own_Go p e below (T233.setTop (mkF m 67 #[.val (.ref a), .val (.int (1 : Int32)), .val (.ref o), .val (.int (1 : Int32)), .val (.int (1 : Int32))] [])) _
    show own_Go p e below (T233.setTop (mkF m 67 #[.val (.ref a), .val (.int (1 : Int32)), .val (.ref o), .val (.int (1 : Int32)), .val (.int (1 : Int32))] [])) _
    refine own_go (fun _ k => XS.iload X233.here hx rfl (hb hby d_m10_67) rfl k) ?_
    show own_Go p e below (T233.setTop (mkF m 69 #[.val (.ref a), .val (.int (1 : Int32)), .val (.ref o), .val (.int (1 : Int32)), .val (.int (1 : Int32))] [(.int (1 : Int32))])) _
    refine own_go (fun _ k => XS.iloadN X233.here hx rfl (hb hby d_m10_69) rfl k) ?_
    show own_Go p e below (T233.setTop (mkF m 70 #[.val (.ref a), .val (.int (1 : Int32)), .val (.ref o), .val (.int (1 : Int32)), .val (.int (1 : Int32))] [(.int (1 : Int32)), (.int (1 : Int32))])) _
    refine own_go (fun _ k => XS.icmpYes X233.here hx rfl (pc0 := 70) (pc' := 98) rfl (hb hby d_m10_70) rfl (flt (by decide : ¬ ((1 : Int32) < (1 : Int32)))).2.1 (by decide) (by decide) k) ?_
    show own_Go p e below (T233.setTop (mkF m 98 #[.val (.ref a), .val (.int (1 : Int32)), .val (.ref o), .val (.int (1 : Int32)), .val (.int (1 : Int32))] [])) _
    show own_Go p e below (T233.setTop (mkF m 98 #[.val (.ref a), .val (.int (1 : Int32)), .val (.ref o), .val (.int (1 : Int32)), .val (.int (1 : Int32))] [])) _
    refine own_go (fun _ k => XS.iloadN X233.here hx rfl (hb hby d_m10_98) rfl k) ?_
    show own_Go p e below (T233.setTop (mkF m 99 #[.val (.ref a), .val (.int (1 : Int32)), .val (.ref o), .val (.int (1 : Int32)), .val (.int (1 : Int32))] [(.int (1 : Int32))])) _
    have f234 := ((Keep.refl h0 [o]).wr W232 (Or.inl (List.mem_of_getElem? (i := 0) rfl)))
    refine own_fin (v := (some (.int (1 : Int32)))) X233 (fun h => by rw [hrt] at h; cases h) hlk (fun fs hr => retI X233 hx hrt (hb hby d_m10_99) hr) (QQ := QDec Z o ko (([c0, c1, c2] : List Int32).take 1) h0 n0) ?_ (by decide) (by decide)
    rw [e233]
    exact ⟨([(own_cpt (([c0, c1, c2] : List Int32).take 1) 0)] : List Int32), Eq.symm (own_T_step (j := 1) (Nat.le_of_ble_eq_true rfl) qw0 rfl (own_T_ge (Nat.not_lt.mpr (Nat.le_of_ble_eq_true rfl)))), rfl, N233, f234, Nat.le_of_ble_eq_true rfl, V232⟩
  · subst q
    show own_Go p e below (s₁.setTop (mkF m 0 #[.val (.ref a), .val (.int (2 : Int32)), .val (.ref o), .unset, .unset] [])) _
    show own_Go p e below (s₁.setTop (mkF m 0 #[.val (.ref a), .val (.int (2 : Int32)), .val (.ref o), .unset, .unset] [])) _
    refine own_go (fun _ k => XS.iconst X0.here hx rfl (hb hby d_m10_0) k) ?_
    show own_Go p e below (s₁.setTop (mkF m 1 #[.val (.ref a), .val (.int (2 : Int32)), .val (.ref o), .unset, .unset] [(.int (0 : Int32))])) _
    refine own_go (fun _ k => XS.istoreN X0.here hx rfl (hb hby d_m10_1) rfl (l' := #[.val (.ref a), .val (.int (2 : Int32)), .val (.ref o), .val (.int (0 : Int32)), .unset]) rfl k) ?_
    show own_Go p e below (s₁.setTop (mkF m 2 #[.val (.ref a), .val (.int (2 : Int32)), .val (.ref o), .val (.int (0 : Int32)), .unset] [])) _
    refine own_go (fun _ k => XS.iconst X0.here hx rfl (hb hby d_m10_2) k) ?_
    show own_Go p e below (s₁.setTop (mkF m 3 #[.val (.ref a), .val (.int (2 : Int32)), .val (.ref o), .val (.int (0 : Int32)), .unset] [(.int (0 : Int32))])) _
    refine own_go (fun _ k => XS.istore X0.here hx rfl (hb hby d_m10_3) rfl (l' := #[.val (.ref a), .val (.int (2 : Int32)), .val (.ref o), .val (.int (0 : Int32)), .val (.int (0 : Int32))]) rfl k) ?_
    show own_Go p e below (s₁.setTop (mkF m 5 #[.val (.ref a), .val (.int (2 : Int32)), .val (.ref o), .val (.int (0 : Int32)), .val (.int (0 : Int32))] [])) _
    refine own_go (fun _ k => XS.iload X0.here hx rfl (hb hby d_m10_5) rfl k) ?_
    show own_Go p e below (s₁.setTop (mkF m 7 #[.val (.ref a), .val (.int (2 : Int32)), .val (.ref o), .val (.int (0 : Int32)), .val (.int (0 : Int32))] [(.int (0 : Int32))])) _
    refine own_go (fun _ k => XS.iloadN X0.here hx rfl (hb hby d_m10_7) rfl k) ?_
    show own_Go p e below (s₁.setTop (mkF m 8 #[.val (.ref a), .val (.int (2 : Int32)), .val (.ref o), .val (.int (0 : Int32)), .val (.int (0 : Int32))] [(.int (2 : Int32)), (.int (0 : Int32))])) _
    refine own_go (fun _ k => XS.icmpNo X0.here hx rfl (hb hby d_m10_8) rfl (tlt (by decide : (0 : Int32) < (2 : Int32))).2.1 k) ?_
    show own_Go p e below (s₁.setTop (mkF m 11 #[.val (.ref a), .val (.int (2 : Int32)), .val (.ref o), .val (.int (0 : Int32)), .val (.int (0 : Int32))] [])) _
    refine own_go (fun _ k => XS.aloadN X0.here hx rfl (hb hby d_m10_11) rfl rfl k) ?_
    show own_Go p e below (s₁.setTop (mkF m 12 #[.val (.ref a), .val (.int (2 : Int32)), .val (.ref o), .val (.int (0 : Int32)), .val (.int (0 : Int32))] [(.ref o)])) _
    refine own_go (fun _ k => XS.iloadN X0.here hx rfl (hb hby d_m10_12) rfl k) ?_
    show own_Go p e below (s₁.setTop (mkF m 13 #[.val (.ref a), .val (.int (2 : Int32)), .val (.ref o), .val (.int (0 : Int32)), .val (.int (0 : Int32))] [(.int (0 : Int32)), (.ref o)])) _
    refine own_go (fun _ k => XS.aloadN X0.here hx rfl (hb hby d_m10_13) rfl rfl k) ?_
    show own_Go p e below (s₁.setTop (mkF m 14 #[.val (.ref a), .val (.int (2 : Int32)), .val (.ref o), .val (.int (0 : Int32)), .val (.int (0 : Int32))] [(.ref a), (.int (0 : Int32)), (.ref o)])) _
    refine own_go (fun _ k => XS.iloadN X0.here hx rfl (hb hby d_m10_14) rfl k) ?_
    show own_Go p e below (s₁.setTop (mkF m 15 #[.val (.ref a), .val (.int (2 : Int32)), .val (.ref o), .val (.int (0 : Int32)), .val (.int (0 : Int32))] [(.int (2 : Int32)), (.ref a), (.int (0 : Int32)), (.ref o)])) _
    refine own_go (fun _ k => XS.iload X0.here hx rfl (hb hby d_m10_15) rfl k) ?_
    show own_Go p e below (s₁.setTop (mkF m 17 #[.val (.ref a), .val (.int (2 : Int32)), .val (.ref o), .val (.int (0 : Int32)), .val (.int (0 : Int32))] [(.int (0 : Int32)), (.int (2 : Int32)), (.ref a), (.int (0 : Int32)), (.ref o)])) _
    obtain ⟨v235, _, ⟨T235, L235, k235, n235⟩, -, X235, ⟨Lc235, hQ235, l235, y235, z235⟩, st235⟩ := Jvm.LawKit.callS X0 hx (y := (⟨"com/example/rolelattice/rolelattice/decision/CodePointsComparePinLaw", "cpAt", "([CII)I"⟩ : MethodName)) hown (mvT hZ (hw _ (List.mem_of_getElem? (i := 91) rfl))) (mvT hZ (hw _ (List.mem_of_getElem? (i := 92) rfl))) (mvT hZ (hw _ (List.mem_of_getElem? (i := 2) rfl))) (mvT hZ (hw _ (List.mem_of_getElem? (i := 93) rfl))) (by decide) (backOf (W := 2) (rm_cpat l Z a0 hw [] a ka c0 c1 c2 2 0 h0 n0 O0 V_a (by decide) (by decide)) hZ (hw _ (List.mem_of_getElem? (i := 93) rfl)) (hw _ (List.mem_of_getElem? (i := 2) rfl)) (by decide) (by decide)) (g := (mkF m 17 #[.val (.ref a), .val (.int (2 : Int32)), .val (.ref o), .val (.int (0 : Int32)), .val (.int (0 : Int32))] [(.int (0 : Int32)), (.int (2 : Int32)), (.ref a), (.int (0 : Int32)), (.ref o)])) rfl (by rw [hml]; rfl) (argsL := [(.ref a), (.int (2 : Int32)), (.int (0 : Int32))]) (rest := [(.int (0 : Int32)), (.ref o)]) (lenOf pd_19 rfl) rfl (by show 2 * 0 + _ ≤ _; exact Nat.le_of_eq rfl) (hb hby d_m10_17) (fun _ _ => ⟨rfl, e0, (by decide : 0 + 0 ≤ _), (by decide : 0 + 0 ≤ _)⟩)
    dsimp only [Pt.U, Pt.locs, Pt.cells, Pt.slots] at X235 l235 y235 z235 st235 hQ235
    subst l235 y235 z235
    refine own_go st235 ?_
    obtain ⟨rfl, Nq235, e235⟩ := hQ235
    have N235 := Fr.app N0 Nq235
    show own_Go p e below (T235.setTop (mkF m 20 #[.val (.ref a), .val (.int (2 : Int32)), .val (.ref o), .val (.int (0 : Int32)), .val (.int (0 : Int32))] [(.int (own_cpt (([c0, c1, c2] : List Int32).take 2) 0)), (.int (0 : Int32)), (.ref o)])) _
    obtain ⟨c236, A236, q236, S236, M236, Hs236, Gs236⟩ := id V_o
    obtain ⟨T237, h237, X237, e237, W237, st237⟩ := stI X235 hx hZ e235 A236 (j := (0 : Int32)) (inb_of S236 ⟨by decide, by decide⟩) (g := (mkF m 20 #[.val (.ref a), .val (.int (2 : Int32)), .val (.ref o), .val (.int (0 : Int32)), .val (.int (0 : Int32))] [(.int (own_cpt (([c0, c1, c2] : List Int32).take 2) 0)), (.int (0 : Int32)), (.ref o)])) rfl rfl (hb hby d_m10_20)
    refine own_go st237 ?_
    have N237 := Fr.snoc X237 N235 g_o
    have V237 : Arv Z h237 o ko .int (3 : Int32) [(.int (own_cpt (([c0, c1, c2] : List Int32).take 2) 0)), (.int (0 : Int32)), (.int (0 : Int32))] (.int (0 : Int32)) := Arv.set A236 q236 S236 M236 Hs236 Gs236 rfl W237 0 rfl (Nat.le_of_ble_eq_true rfl)
    show own_Go p e below (T237.setTop (mkF m 21 #[.val (.ref a), .val (.int (2 : Int32)), .val (.ref o), .val (.int (0 : Int32)), .val (.int (0 : Int32))] [])) _
    refine own_go (fun _ k => XS.iload X237.here hx rfl (hb hby d_m10_21) rfl k) ?_
    show own_Go p e below (T237.setTop (mkF m 23 #[.val (.ref a), .val (.int (2 : Int32)), .val (.ref o), .val (.int (0 : Int32)), .val (.int (0 : Int32))] [(.int (0 : Int32))])) _
    refine own_go (fun _ k => XS.aloadN X237.here hx rfl (hb hby d_m10_23) rfl rfl k) ?_
    show own_Go p e below (T237.setTop (mkF m 24 #[.val (.ref a), .val (.int (2 : Int32)), .val (.ref o), .val (.int (0 : Int32)), .val (.int (0 : Int32))] [(.ref a), (.int (0 : Int32))])) _
    refine own_go (fun _ k => XS.iloadN X237.here hx rfl (hb hby d_m10_24) rfl k) ?_
    show own_Go p e below (T237.setTop (mkF m 25 #[.val (.ref a), .val (.int (2 : Int32)), .val (.ref o), .val (.int (0 : Int32)), .val (.int (0 : Int32))] [(.int (2 : Int32)), (.ref a), (.int (0 : Int32))])) _
    refine own_go (fun _ k => XS.iload X237.here hx rfl (hb hby d_m10_25) rfl k) ?_
    show own_Go p e below (T237.setTop (mkF m 27 #[.val (.ref a), .val (.int (2 : Int32)), .val (.ref o), .val (.int (0 : Int32)), .val (.int (0 : Int32))] [(.int (0 : Int32)), (.int (2 : Int32)), (.ref a), (.int (0 : Int32))])) _
    obtain ⟨v238, _, ⟨T238, L238, k238, n238⟩, -, X238, ⟨Lc238, hQ238, l238, y238, z238⟩, st238⟩ := Jvm.LawKit.callS X237 hx (y := (⟨"com/example/rolelattice/rolelattice/decision/CodePointsComparePinLaw", "width", "([CII)I"⟩ : MethodName)) hown (mvT hZ (hw _ (List.mem_of_getElem? (i := 101) rfl))) (mvT hZ (hw _ (List.mem_of_getElem? (i := 102) rfl))) (mvT hZ (hw _ (List.mem_of_getElem? (i := 2) rfl))) (mvT hZ (hw _ (List.mem_of_getElem? (i := 103) rfl))) (by decide) (backOf (W := 1) (rm_wid l Z a0 hw [] a ka c0 c1 c2 2 0 h237 n0 (O0.wr W237 g_o) (V_a.other W237 hao) (by decide) (by decide)) hZ (hw _ (List.mem_of_getElem? (i := 103) rfl)) (hw _ (List.mem_of_getElem? (i := 2) rfl)) (by decide) (by decide)) (g := (mkF m 27 #[.val (.ref a), .val (.int (2 : Int32)), .val (.ref o), .val (.int (0 : Int32)), .val (.int (0 : Int32))] [(.int (0 : Int32)), (.int (2 : Int32)), (.ref a), (.int (0 : Int32))])) rfl (by rw [hml]; rfl) (argsL := [(.ref a), (.int (2 : Int32)), (.int (0 : Int32))]) (rest := [(.int (0 : Int32))]) (lenOf pd_19 rfl) rfl (by show 2 * 0 + _ ≤ _; exact Nat.le_of_eq rfl) (hb hby d_m10_27) (fun _ _ => ⟨rfl, e237, (by decide : 0 + 0 ≤ _), (by decide : 0 + 0 ≤ _)⟩)
    dsimp only [Pt.U, Pt.locs, Pt.cells, Pt.slots] at X238 l238 y238 z238 st238 hQ238
    subst l238 y238 z238
    refine own_go st238 ?_
    obtain ⟨rfl, Nq238, e238⟩ := hQ238
    have N238 := Fr.app N237 Nq238
    show own_Go p e below (T238.setTop (mkF m 30 #[.val (.ref a), .val (.int (2 : Int32)), .val (.ref o), .val (.int (0 : Int32)), .val (.int (0 : Int32))] [(.int (Int32.ofNat (own_w (([c0, c1, c2] : List Int32).take 2) 0))), (.int (0 : Int32))])) _
    rcases own_w12 (([c0, c1, c2] : List Int32).take 2) 0 with qw0 | qw0
    · rw [qw0]
      show own_Go p e below (T238.setTop (mkF m 30 #[.val (.ref a), .val (.int (2 : Int32)), .val (.ref o), .val (.int (0 : Int32)), .val (.int (0 : Int32))] [(.int (1 : Int32)), (.int (0 : Int32))])) _
      show own_Go p e below (T238.setTop (mkF m 30 #[.val (.ref a), .val (.int (2 : Int32)), .val (.ref o), .val (.int (0 : Int32)), .val (.int (0 : Int32))] [(.int (1 : Int32)), (.int (0 : Int32))])) _
      refine own_go (fun _ k => XS.iadd X238.here hx rfl (hb hby d_m10_30) rfl k) ?_
      show own_Go p e below (T238.setTop (mkF m 31 #[.val (.ref a), .val (.int (2 : Int32)), .val (.ref o), .val (.int (0 : Int32)), .val (.int (0 : Int32))] [(.int (1 : Int32))])) _
      refine own_go (fun _ k => XS.istore X238.here hx rfl (hb hby d_m10_31) rfl (l' := #[.val (.ref a), .val (.int (2 : Int32)), .val (.ref o), .val (.int (0 : Int32)), .val (.int (1 : Int32))]) rfl k) ?_
      show own_Go p e below (T238.setTop (mkF m 33 #[.val (.ref a), .val (.int (2 : Int32)), .val (.ref o), .val (.int (0 : Int32)), .val (.int (1 : Int32))] [])) _
      show own_Go p e below (T238.setTop (mkF m 33 #[.val (.ref a), .val (.int (2 : Int32)), .val (.ref o), .val (.int (0 : Int32)), .val (.int (1 : Int32))] [])) _
      refine own_go (fun _ k => XS.iinc X238.here hx rfl (hb hby d_m10_33) rfl (l' := #[.val (.ref a), .val (.int (2 : Int32)), .val (.ref o), .val (.int (1 : Int32)), .val (.int (1 : Int32))]) rfl k) ?_
      show own_Go p e below (T238.setTop (mkF m 36 #[.val (.ref a), .val (.int (2 : Int32)), .val (.ref o), .val (.int (1 : Int32)), .val (.int (1 : Int32))] [])) _
      show own_Go p e below (T238.setTop (mkF m 36 #[.val (.ref a), .val (.int (2 : Int32)), .val (.ref o), .val (.int (1 : Int32)), .val (.int (1 : Int32))] [])) _
      refine own_go (fun _ k => XS.iload X238.here hx rfl (hb hby d_m10_36) rfl k) ?_
      show own_Go p e below (T238.setTop (mkF m 38 #[.val (.ref a), .val (.int (2 : Int32)), .val (.ref o), .val (.int (1 : Int32)), .val (.int (1 : Int32))] [(.int (1 : Int32))])) _
      refine own_go (fun _ k => XS.iloadN X238.here hx rfl (hb hby d_m10_38) rfl k) ?_
      show own_Go p e below (T238.setTop (mkF m 39 #[.val (.ref a), .val (.int (2 : Int32)), .val (.ref o), .val (.int (1 : Int32)), .val (.int (1 : Int32))] [(.int (2 : Int32)), (.int (1 : Int32))])) _
      refine own_go (fun _ k => XS.icmpNo X238.here hx rfl (hb hby d_m10_39) rfl (tlt (by decide : (1 : Int32) < (2 : Int32))).2.1 k) ?_
      show own_Go p e below (T238.setTop (mkF m 42 #[.val (.ref a), .val (.int (2 : Int32)), .val (.ref o), .val (.int (1 : Int32)), .val (.int (1 : Int32))] [])) _
      refine own_go (fun _ k => XS.aloadN X238.here hx rfl (hb hby d_m10_42) rfl rfl k) ?_
      show own_Go p e below (T238.setTop (mkF m 43 #[.val (.ref a), .val (.int (2 : Int32)), .val (.ref o), .val (.int (1 : Int32)), .val (.int (1 : Int32))] [(.ref o)])) _
      refine own_go (fun _ k => XS.iloadN X238.here hx rfl (hb hby d_m10_43) rfl k) ?_
      show own_Go p e below (T238.setTop (mkF m 44 #[.val (.ref a), .val (.int (2 : Int32)), .val (.ref o), .val (.int (1 : Int32)), .val (.int (1 : Int32))] [(.int (1 : Int32)), (.ref o)])) _
      refine own_go (fun _ k => XS.aloadN X238.here hx rfl (hb hby d_m10_44) rfl rfl k) ?_
      show own_Go p e below (T238.setTop (mkF m 45 #[.val (.ref a), .val (.int (2 : Int32)), .val (.ref o), .val (.int (1 : Int32)), .val (.int (1 : Int32))] [(.ref a), (.int (1 : Int32)), (.ref o)])) _
      refine own_go (fun _ k => XS.iloadN X238.here hx rfl (hb hby d_m10_45) rfl k) ?_
      show own_Go p e below (T238.setTop (mkF m 46 #[.val (.ref a), .val (.int (2 : Int32)), .val (.ref o), .val (.int (1 : Int32)), .val (.int (1 : Int32))] [(.int (2 : Int32)), (.ref a), (.int (1 : Int32)), (.ref o)])) _
      refine own_go (fun _ k => XS.iload X238.here hx rfl (hb hby d_m10_46) rfl k) ?_
      show own_Go p e below (T238.setTop (mkF m 48 #[.val (.ref a), .val (.int (2 : Int32)), .val (.ref o), .val (.int (1 : Int32)), .val (.int (1 : Int32))] [(.int (1 : Int32)), (.int (2 : Int32)), (.ref a), (.int (1 : Int32)), (.ref o)])) _
      obtain ⟨v239, _, ⟨T239, L239, k239, n239⟩, -, X239, ⟨Lc239, hQ239, l239, y239, z239⟩, st239⟩ := Jvm.LawKit.callS X238 hx (y := (⟨"com/example/rolelattice/rolelattice/decision/CodePointsComparePinLaw", "cpAt", "([CII)I"⟩ : MethodName)) hown (mvT hZ (hw _ (List.mem_of_getElem? (i := 91) rfl))) (mvT hZ (hw _ (List.mem_of_getElem? (i := 92) rfl))) (mvT hZ (hw _ (List.mem_of_getElem? (i := 2) rfl))) (mvT hZ (hw _ (List.mem_of_getElem? (i := 93) rfl))) (by decide) (backOf (W := 2) (rm_cpat l Z a0 hw [] a ka c0 c1 c2 2 1 h237 n0 (O0.wr W237 g_o) (V_a.other W237 hao) (by decide) (by decide)) hZ (hw _ (List.mem_of_getElem? (i := 93) rfl)) (hw _ (List.mem_of_getElem? (i := 2) rfl)) (by decide) (by decide)) (g := (mkF m 48 #[.val (.ref a), .val (.int (2 : Int32)), .val (.ref o), .val (.int (1 : Int32)), .val (.int (1 : Int32))] [(.int (1 : Int32)), (.int (2 : Int32)), (.ref a), (.int (1 : Int32)), (.ref o)])) rfl (by rw [hml]; rfl) (argsL := [(.ref a), (.int (2 : Int32)), (.int (1 : Int32))]) (rest := [(.int (1 : Int32)), (.ref o)]) (lenOf pd_19 rfl) rfl (by show 2 * 0 + _ ≤ _; exact Nat.le_of_eq rfl) (hb hby d_m10_48) (fun _ _ => ⟨rfl, e238, (by decide : 0 + 0 ≤ _), (by decide : 0 + 0 ≤ _)⟩)
      dsimp only [Pt.U, Pt.locs, Pt.cells, Pt.slots] at X239 l239 y239 z239 st239 hQ239
      subst l239 y239 z239
      refine own_go st239 ?_
      obtain ⟨rfl, Nq239, e239⟩ := hQ239
      have N239 := Fr.app N238 Nq239
      show own_Go p e below (T239.setTop (mkF m 51 #[.val (.ref a), .val (.int (2 : Int32)), .val (.ref o), .val (.int (1 : Int32)), .val (.int (1 : Int32))] [(.int (own_cpt (([c0, c1, c2] : List Int32).take 2) 1)), (.int (1 : Int32)), (.ref o)])) _
      obtain ⟨c240, A240, q240, S240, M240, Hs240, Gs240⟩ := id V237
      obtain ⟨T241, h241, X241, e241, W241, st241⟩ := stI X239 hx hZ e239 A240 (j := (1 : Int32)) (inb_of S240 ⟨by decide, by decide⟩) (g := (mkF m 51 #[.val (.ref a), .val (.int (2 : Int32)), .val (.ref o), .val (.int (1 : Int32)), .val (.int (1 : Int32))] [(.int (own_cpt (([c0, c1, c2] : List Int32).take 2) 1)), (.int (1 : Int32)), (.ref o)])) rfl rfl (hb hby d_m10_51)
      refine own_go st241 ?_
      have N241 := Fr.snoc X241 N239 g_o
      have V241 : Arv Z h241 o ko .int (3 : Int32) [(.int (own_cpt (([c0, c1, c2] : List Int32).take 2) 0)), (.int (own_cpt (([c0, c1, c2] : List Int32).take 2) 1)), (.int (0 : Int32))] (.int (0 : Int32)) := Arv.set A240 q240 S240 M240 Hs240 Gs240 rfl W241 1 rfl (Nat.le_of_ble_eq_true rfl)
      show own_Go p e below (T241.setTop (mkF m 52 #[.val (.ref a), .val (.int (2 : Int32)), .val (.ref o), .val (.int (1 : Int32)), .val (.int (1 : Int32))] [])) _
      refine own_go (fun _ k => XS.iload X241.here hx rfl (hb hby d_m10_52) rfl k) ?_
      show own_Go p e below (T241.setTop (mkF m 54 #[.val (.ref a), .val (.int (2 : Int32)), .val (.ref o), .val (.int (1 : Int32)), .val (.int (1 : Int32))] [(.int (1 : Int32))])) _
      refine own_go (fun _ k => XS.aloadN X241.here hx rfl (hb hby d_m10_54) rfl rfl k) ?_
      show own_Go p e below (T241.setTop (mkF m 55 #[.val (.ref a), .val (.int (2 : Int32)), .val (.ref o), .val (.int (1 : Int32)), .val (.int (1 : Int32))] [(.ref a), (.int (1 : Int32))])) _
      refine own_go (fun _ k => XS.iloadN X241.here hx rfl (hb hby d_m10_55) rfl k) ?_
      show own_Go p e below (T241.setTop (mkF m 56 #[.val (.ref a), .val (.int (2 : Int32)), .val (.ref o), .val (.int (1 : Int32)), .val (.int (1 : Int32))] [(.int (2 : Int32)), (.ref a), (.int (1 : Int32))])) _
      refine own_go (fun _ k => XS.iload X241.here hx rfl (hb hby d_m10_56) rfl k) ?_
      show own_Go p e below (T241.setTop (mkF m 58 #[.val (.ref a), .val (.int (2 : Int32)), .val (.ref o), .val (.int (1 : Int32)), .val (.int (1 : Int32))] [(.int (1 : Int32)), (.int (2 : Int32)), (.ref a), (.int (1 : Int32))])) _
      have f242 := ((V_a.other W237 hao).other W241 hao)
      have f243 := ((O0.wr W237 g_o).wr W241 g_o)
      obtain ⟨v244, _, ⟨T244, L244, k244, n244⟩, -, X244, ⟨Lc244, hQ244, l244, y244, z244⟩, st244⟩ := Jvm.LawKit.callS X241 hx (y := (⟨"com/example/rolelattice/rolelattice/decision/CodePointsComparePinLaw", "width", "([CII)I"⟩ : MethodName)) hown (mvT hZ (hw _ (List.mem_of_getElem? (i := 101) rfl))) (mvT hZ (hw _ (List.mem_of_getElem? (i := 102) rfl))) (mvT hZ (hw _ (List.mem_of_getElem? (i := 2) rfl))) (mvT hZ (hw _ (List.mem_of_getElem? (i := 103) rfl))) (by decide) (backOf (W := 1) (rm_wid l Z a0 hw [] a ka c0 c1 c2 2 1 h241 n0 f243 f242 (by decide) (by decide)) hZ (hw _ (List.mem_of_getElem? (i := 103) rfl)) (hw _ (List.mem_of_getElem? (i := 2) rfl)) (by decide) (by decide)) (g := (mkF m 58 #[.val (.ref a), .val (.int (2 : Int32)), .val (.ref o), .val (.int (1 : Int32)), .val (.int (1 : Int32))] [(.int (1 : Int32)), (.int (2 : Int32)), (.ref a), (.int (1 : Int32))])) rfl (by rw [hml]; rfl) (argsL := [(.ref a), (.int (2 : Int32)), (.int (1 : Int32))]) (rest := [(.int (1 : Int32))]) (lenOf pd_19 rfl) rfl (by show 2 * 0 + _ ≤ _; exact Nat.le_of_eq rfl) (hb hby d_m10_58) (fun _ _ => ⟨rfl, e241, (by decide : 0 + 0 ≤ _), (by decide : 0 + 0 ≤ _)⟩)
      dsimp only [Pt.U, Pt.locs, Pt.cells, Pt.slots] at X244 l244 y244 z244 st244 hQ244
      subst l244 y244 z244
      refine own_go st244 ?_
      obtain ⟨rfl, Nq244, e244⟩ := hQ244
      have N244 := Fr.app N241 Nq244
      show own_Go p e below (T244.setTop (mkF m 61 #[.val (.ref a), .val (.int (2 : Int32)), .val (.ref o), .val (.int (1 : Int32)), .val (.int (1 : Int32))] [(.int (Int32.ofNat (own_w (([c0, c1, c2] : List Int32).take 2) 1))), (.int (1 : Int32))])) _
      have qw1 : own_w (([c0, c1, c2] : List Int32).take 2) 1 = 1 := own_wl1 (Nat.not_lt.mpr (Nat.le_of_ble_eq_true rfl))
      rw [qw1]
      show own_Go p e below (T244.setTop (mkF m 61 #[.val (.ref a), .val (.int (2 : Int32)), .val (.ref o), .val (.int (1 : Int32)), .val (.int (1 : Int32))] [(.int (1 : Int32)), (.int (1 : Int32))])) _
      refine own_go (fun _ k => XS.iadd X244.here hx rfl (hb hby d_m10_61) rfl k) ?_
      show own_Go p e below (T244.setTop (mkF m 62 #[.val (.ref a), .val (.int (2 : Int32)), .val (.ref o), .val (.int (1 : Int32)), .val (.int (1 : Int32))] [(.int (2 : Int32))])) _
      refine own_go (fun _ k => XS.istore X244.here hx rfl (hb hby d_m10_62) rfl (l' := #[.val (.ref a), .val (.int (2 : Int32)), .val (.ref o), .val (.int (1 : Int32)), .val (.int (2 : Int32))]) rfl k) ?_
      show own_Go p e below (T244.setTop (mkF m 64 #[.val (.ref a), .val (.int (2 : Int32)), .val (.ref o), .val (.int (1 : Int32)), .val (.int (2 : Int32))] [])) _
      show own_Go p e below (T244.setTop (mkF m 64 #[.val (.ref a), .val (.int (2 : Int32)), .val (.ref o), .val (.int (1 : Int32)), .val (.int (2 : Int32))] [])) _
      refine own_go (fun _ k => XS.iinc X244.here hx rfl (hb hby d_m10_64) rfl (l' := #[.val (.ref a), .val (.int (2 : Int32)), .val (.ref o), .val (.int (2 : Int32)), .val (.int (2 : Int32))]) rfl k) ?_
      show own_Go p e below (T244.setTop (mkF m 67 #[.val (.ref a), .val (.int (2 : Int32)), .val (.ref o), .val (.int (2 : Int32)), .val (.int (2 : Int32))] [])) _
      show own_Go p e below (T244.setTop (mkF m 67 #[.val (.ref a), .val (.int (2 : Int32)), .val (.ref o), .val (.int (2 : Int32)), .val (.int (2 : Int32))] [])) _
      refine own_go (fun _ k => XS.iload X244.here hx rfl (hb hby d_m10_67) rfl k) ?_
      show own_Go p e below (T244.setTop (mkF m 69 #[.val (.ref a), .val (.int (2 : Int32)), .val (.ref o), .val (.int (2 : Int32)), .val (.int (2 : Int32))] [(.int (2 : Int32))])) _
      refine own_go (fun _ k => XS.iloadN X244.here hx rfl (hb hby d_m10_69) rfl k) ?_
      show own_Go p e below (T244.setTop (mkF m 70 #[.val (.ref a), .val (.int (2 : Int32)), .val (.ref o), .val (.int (2 : Int32)), .val (.int (2 : Int32))] [(.int (2 : Int32)), (.int (2 : Int32))])) _
      refine own_go (fun _ k => XS.icmpYes X244.here hx rfl (pc0 := 70) (pc' := 98) rfl (hb hby d_m10_70) rfl (flt (by decide : ¬ ((2 : Int32) < (2 : Int32)))).2.1 (by decide) (by decide) k) ?_
      show own_Go p e below (T244.setTop (mkF m 98 #[.val (.ref a), .val (.int (2 : Int32)), .val (.ref o), .val (.int (2 : Int32)), .val (.int (2 : Int32))] [])) _
      show own_Go p e below (T244.setTop (mkF m 98 #[.val (.ref a), .val (.int (2 : Int32)), .val (.ref o), .val (.int (2 : Int32)), .val (.int (2 : Int32))] [])) _
      refine own_go (fun _ k => XS.iloadN X244.here hx rfl (hb hby d_m10_98) rfl k) ?_
      show own_Go p e below (T244.setTop (mkF m 99 #[.val (.ref a), .val (.int (2 : Int32)), .val (.ref o), .val (.int (2 : Int32)), .val (.int (2 : Int32))] [(.int (2 : Int32))])) _
      have f245 := (((Keep.refl h0 [o]).wr W237 (Or.inl (List.mem_of_getElem? (i := 0) rfl))).wr W241 (Or.inl (List.mem_of_getElem? (i := 0) rfl)))
      refine own_fin (v := (some (.int (2 : Int32)))) X244 (fun h => by rw [hrt] at h; cases h) hlk (fun fs hr => retI X244 hx hrt (hb hby d_m10_99) hr) (QQ := QDec Z o ko (([c0, c1, c2] : List Int32).take 2) h0 n0) ?_ (by decide) (by decide)
      rw [e244]
      exact ⟨([(own_cpt (([c0, c1, c2] : List Int32).take 2) 0), (own_cpt (([c0, c1, c2] : List Int32).take 2) 1)] : List Int32), Eq.symm (own_T_step (j := 1) (Nat.le_of_ble_eq_true rfl) qw0 rfl (own_T_step (j := 2) (Nat.le_of_ble_eq_true rfl) qw1 rfl (own_T_ge (Nat.not_lt.mpr (Nat.le_of_ble_eq_true rfl))))), rfl, N244, f245, Nat.le_of_ble_eq_true rfl, V241⟩
    · rw [qw0]
      show own_Go p e below (T238.setTop (mkF m 30 #[.val (.ref a), .val (.int (2 : Int32)), .val (.ref o), .val (.int (0 : Int32)), .val (.int (0 : Int32))] [(.int (2 : Int32)), (.int (0 : Int32))])) _
      show own_Go p e below (T238.setTop (mkF m 30 #[.val (.ref a), .val (.int (2 : Int32)), .val (.ref o), .val (.int (0 : Int32)), .val (.int (0 : Int32))] [(.int (2 : Int32)), (.int (0 : Int32))])) _
      refine own_go (fun _ k => XS.iadd X238.here hx rfl (hb hby d_m10_30) rfl k) ?_
      show own_Go p e below (T238.setTop (mkF m 31 #[.val (.ref a), .val (.int (2 : Int32)), .val (.ref o), .val (.int (0 : Int32)), .val (.int (0 : Int32))] [(.int (2 : Int32))])) _
      refine own_go (fun _ k => XS.istore X238.here hx rfl (hb hby d_m10_31) rfl (l' := #[.val (.ref a), .val (.int (2 : Int32)), .val (.ref o), .val (.int (0 : Int32)), .val (.int (2 : Int32))]) rfl k) ?_
      show own_Go p e below (T238.setTop (mkF m 33 #[.val (.ref a), .val (.int (2 : Int32)), .val (.ref o), .val (.int (0 : Int32)), .val (.int (2 : Int32))] [])) _
      show own_Go p e below (T238.setTop (mkF m 33 #[.val (.ref a), .val (.int (2 : Int32)), .val (.ref o), .val (.int (0 : Int32)), .val (.int (2 : Int32))] [])) _
      refine own_go (fun _ k => XS.iinc X238.here hx rfl (hb hby d_m10_33) rfl (l' := #[.val (.ref a), .val (.int (2 : Int32)), .val (.ref o), .val (.int (1 : Int32)), .val (.int (2 : Int32))]) rfl k) ?_
      show own_Go p e below (T238.setTop (mkF m 36 #[.val (.ref a), .val (.int (2 : Int32)), .val (.ref o), .val (.int (1 : Int32)), .val (.int (2 : Int32))] [])) _
      show own_Go p e below (T238.setTop (mkF m 36 #[.val (.ref a), .val (.int (2 : Int32)), .val (.ref o), .val (.int (1 : Int32)), .val (.int (2 : Int32))] [])) _
      refine own_go (fun _ k => XS.iload X238.here hx rfl (hb hby d_m10_36) rfl k) ?_
      show own_Go p e below (T238.setTop (mkF m 38 #[.val (.ref a), .val (.int (2 : Int32)), .val (.ref o), .val (.int (1 : Int32)), .val (.int (2 : Int32))] [(.int (2 : Int32))])) _
      refine own_go (fun _ k => XS.iloadN X238.here hx rfl (hb hby d_m10_38) rfl k) ?_
      show own_Go p e below (T238.setTop (mkF m 39 #[.val (.ref a), .val (.int (2 : Int32)), .val (.ref o), .val (.int (1 : Int32)), .val (.int (2 : Int32))] [(.int (2 : Int32)), (.int (2 : Int32))])) _
      refine own_go (fun _ k => XS.icmpYes X238.here hx rfl (pc0 := 39) (pc' := 67) rfl (hb hby d_m10_39) rfl (flt (by decide : ¬ ((2 : Int32) < (2 : Int32)))).2.1 (by decide) (by decide) k) ?_
      show own_Go p e below (T238.setTop (mkF m 67 #[.val (.ref a), .val (.int (2 : Int32)), .val (.ref o), .val (.int (1 : Int32)), .val (.int (2 : Int32))] [])) _
      show own_Go p e below (T238.setTop (mkF m 67 #[.val (.ref a), .val (.int (2 : Int32)), .val (.ref o), .val (.int (1 : Int32)), .val (.int (2 : Int32))] [])) _
      refine own_go (fun _ k => XS.iload X238.here hx rfl (hb hby d_m10_67) rfl k) ?_
      show own_Go p e below (T238.setTop (mkF m 69 #[.val (.ref a), .val (.int (2 : Int32)), .val (.ref o), .val (.int (1 : Int32)), .val (.int (2 : Int32))] [(.int (2 : Int32))])) _
      refine own_go (fun _ k => XS.iloadN X238.here hx rfl (hb hby d_m10_69) rfl k) ?_
      show own_Go p e below (T238.setTop (mkF m 70 #[.val (.ref a), .val (.int (2 : Int32)), .val (.ref o), .val (.int (1 : Int32)), .val (.int (2 : Int32))] [(.int (2 : Int32)), (.int (2 : Int32))])) _
      refine own_go (fun _ k => XS.icmpYes X238.here hx rfl (pc0 := 70) (pc' := 98) rfl (hb hby d_m10_70) rfl (flt (by decide : ¬ ((2 : Int32) < (2 : Int32)))).2.1 (by decide) (by decide) k) ?_
      show own_Go p e below (T238.setTop (mkF m 98 #[.val (.ref a), .val (.int (2 : Int32)), .val (.ref o), .val (.int (1 : Int32)), .val (.int (2 : Int32))] [])) _
      show own_Go p e below (T238.setTop (mkF m 98 #[.val (.ref a), .val (.int (2 : Int32)), .val (.ref o), .val (.int (1 : Int32)), .val (.int (2 : Int32))] [])) _
      refine own_go (fun _ k => XS.iloadN X238.here hx rfl (hb hby d_m10_98) rfl k) ?_
      show own_Go p e below (T238.setTop (mkF m 99 #[.val (.ref a), .val (.int (2 : Int32)), .val (.ref o), .val (.int (1 : Int32)), .val (.int (2 : Int32))] [(.int (1 : Int32))])) _
      have f246 := ((Keep.refl h0 [o]).wr W237 (Or.inl (List.mem_of_getElem? (i := 0) rfl)))
      refine own_fin (v := (some (.int (1 : Int32)))) X238 (fun h => by rw [hrt] at h; cases h) hlk (fun fs hr => retI X238 hx hrt (hb hby d_m10_99) hr) (QQ := QDec Z o ko (([c0, c1, c2] : List Int32).take 2) h0 n0) ?_ (by decide) (by decide)
      rw [e238]
      exact ⟨([(own_cpt (([c0, c1, c2] : List Int32).take 2) 0)] : List Int32), Eq.symm (own_T_step (j := 2) (Nat.le_of_ble_eq_true rfl) qw0 rfl (own_T_ge (Nat.not_lt.mpr (Nat.le_of_ble_eq_true rfl)))), rfl, N238, f246, Nat.le_of_ble_eq_true rfl, V237⟩
  · subst q
    show own_Go p e below (s₁.setTop (mkF m 0 #[.val (.ref a), .val (.int (3 : Int32)), .val (.ref o), .unset, .unset] [])) _
    show own_Go p e below (s₁.setTop (mkF m 0 #[.val (.ref a), .val (.int (3 : Int32)), .val (.ref o), .unset, .unset] [])) _
    refine own_go (fun _ k => XS.iconst X0.here hx rfl (hb hby d_m10_0) k) ?_
    show own_Go p e below (s₁.setTop (mkF m 1 #[.val (.ref a), .val (.int (3 : Int32)), .val (.ref o), .unset, .unset] [(.int (0 : Int32))])) _
    refine own_go (fun _ k => XS.istoreN X0.here hx rfl (hb hby d_m10_1) rfl (l' := #[.val (.ref a), .val (.int (3 : Int32)), .val (.ref o), .val (.int (0 : Int32)), .unset]) rfl k) ?_
    show own_Go p e below (s₁.setTop (mkF m 2 #[.val (.ref a), .val (.int (3 : Int32)), .val (.ref o), .val (.int (0 : Int32)), .unset] [])) _
    refine own_go (fun _ k => XS.iconst X0.here hx rfl (hb hby d_m10_2) k) ?_
    show own_Go p e below (s₁.setTop (mkF m 3 #[.val (.ref a), .val (.int (3 : Int32)), .val (.ref o), .val (.int (0 : Int32)), .unset] [(.int (0 : Int32))])) _
    refine own_go (fun _ k => XS.istore X0.here hx rfl (hb hby d_m10_3) rfl (l' := #[.val (.ref a), .val (.int (3 : Int32)), .val (.ref o), .val (.int (0 : Int32)), .val (.int (0 : Int32))]) rfl k) ?_
    show own_Go p e below (s₁.setTop (mkF m 5 #[.val (.ref a), .val (.int (3 : Int32)), .val (.ref o), .val (.int (0 : Int32)), .val (.int (0 : Int32))] [])) _
    refine own_go (fun _ k => XS.iload X0.here hx rfl (hb hby d_m10_5) rfl k) ?_
    show own_Go p e below (s₁.setTop (mkF m 7 #[.val (.ref a), .val (.int (3 : Int32)), .val (.ref o), .val (.int (0 : Int32)), .val (.int (0 : Int32))] [(.int (0 : Int32))])) _
    refine own_go (fun _ k => XS.iloadN X0.here hx rfl (hb hby d_m10_7) rfl k) ?_
    show own_Go p e below (s₁.setTop (mkF m 8 #[.val (.ref a), .val (.int (3 : Int32)), .val (.ref o), .val (.int (0 : Int32)), .val (.int (0 : Int32))] [(.int (3 : Int32)), (.int (0 : Int32))])) _
    refine own_go (fun _ k => XS.icmpNo X0.here hx rfl (hb hby d_m10_8) rfl (tlt (by decide : (0 : Int32) < (3 : Int32))).2.1 k) ?_
    show own_Go p e below (s₁.setTop (mkF m 11 #[.val (.ref a), .val (.int (3 : Int32)), .val (.ref o), .val (.int (0 : Int32)), .val (.int (0 : Int32))] [])) _
    refine own_go (fun _ k => XS.aloadN X0.here hx rfl (hb hby d_m10_11) rfl rfl k) ?_
    show own_Go p e below (s₁.setTop (mkF m 12 #[.val (.ref a), .val (.int (3 : Int32)), .val (.ref o), .val (.int (0 : Int32)), .val (.int (0 : Int32))] [(.ref o)])) _
    refine own_go (fun _ k => XS.iloadN X0.here hx rfl (hb hby d_m10_12) rfl k) ?_
    show own_Go p e below (s₁.setTop (mkF m 13 #[.val (.ref a), .val (.int (3 : Int32)), .val (.ref o), .val (.int (0 : Int32)), .val (.int (0 : Int32))] [(.int (0 : Int32)), (.ref o)])) _
    refine own_go (fun _ k => XS.aloadN X0.here hx rfl (hb hby d_m10_13) rfl rfl k) ?_
    show own_Go p e below (s₁.setTop (mkF m 14 #[.val (.ref a), .val (.int (3 : Int32)), .val (.ref o), .val (.int (0 : Int32)), .val (.int (0 : Int32))] [(.ref a), (.int (0 : Int32)), (.ref o)])) _
    refine own_go (fun _ k => XS.iloadN X0.here hx rfl (hb hby d_m10_14) rfl k) ?_
    show own_Go p e below (s₁.setTop (mkF m 15 #[.val (.ref a), .val (.int (3 : Int32)), .val (.ref o), .val (.int (0 : Int32)), .val (.int (0 : Int32))] [(.int (3 : Int32)), (.ref a), (.int (0 : Int32)), (.ref o)])) _
    refine own_go (fun _ k => XS.iload X0.here hx rfl (hb hby d_m10_15) rfl k) ?_
    show own_Go p e below (s₁.setTop (mkF m 17 #[.val (.ref a), .val (.int (3 : Int32)), .val (.ref o), .val (.int (0 : Int32)), .val (.int (0 : Int32))] [(.int (0 : Int32)), (.int (3 : Int32)), (.ref a), (.int (0 : Int32)), (.ref o)])) _
    obtain ⟨v247, _, ⟨T247, L247, k247, n247⟩, -, X247, ⟨Lc247, hQ247, l247, y247, z247⟩, st247⟩ := Jvm.LawKit.callS X0 hx (y := (⟨"com/example/rolelattice/rolelattice/decision/CodePointsComparePinLaw", "cpAt", "([CII)I"⟩ : MethodName)) hown (mvT hZ (hw _ (List.mem_of_getElem? (i := 91) rfl))) (mvT hZ (hw _ (List.mem_of_getElem? (i := 92) rfl))) (mvT hZ (hw _ (List.mem_of_getElem? (i := 2) rfl))) (mvT hZ (hw _ (List.mem_of_getElem? (i := 93) rfl))) (by decide) (backOf (W := 2) (rm_cpat l Z a0 hw [] a ka c0 c1 c2 3 0 h0 n0 O0 V_a (by decide) (by decide)) hZ (hw _ (List.mem_of_getElem? (i := 93) rfl)) (hw _ (List.mem_of_getElem? (i := 2) rfl)) (by decide) (by decide)) (g := (mkF m 17 #[.val (.ref a), .val (.int (3 : Int32)), .val (.ref o), .val (.int (0 : Int32)), .val (.int (0 : Int32))] [(.int (0 : Int32)), (.int (3 : Int32)), (.ref a), (.int (0 : Int32)), (.ref o)])) rfl (by rw [hml]; rfl) (argsL := [(.ref a), (.int (3 : Int32)), (.int (0 : Int32))]) (rest := [(.int (0 : Int32)), (.ref o)]) (lenOf pd_19 rfl) rfl (by show 2 * 0 + _ ≤ _; exact Nat.le_of_eq rfl) (hb hby d_m10_17) (fun _ _ => ⟨rfl, e0, (by decide : 0 + 0 ≤ _), (by decide : 0 + 0 ≤ _)⟩)
    dsimp only [Pt.U, Pt.locs, Pt.cells, Pt.slots] at X247 l247 y247 z247 st247 hQ247
    subst l247 y247 z247
    refine own_go st247 ?_
    obtain ⟨rfl, Nq247, e247⟩ := hQ247
    have N247 := Fr.app N0 Nq247
    show own_Go p e below (T247.setTop (mkF m 20 #[.val (.ref a), .val (.int (3 : Int32)), .val (.ref o), .val (.int (0 : Int32)), .val (.int (0 : Int32))] [(.int (own_cpt (([c0, c1, c2] : List Int32).take 3) 0)), (.int (0 : Int32)), (.ref o)])) _
    obtain ⟨c248, A248, q248, S248, M248, Hs248, Gs248⟩ := id V_o
    obtain ⟨T249, h249, X249, e249, W249, st249⟩ := stI X247 hx hZ e247 A248 (j := (0 : Int32)) (inb_of S248 ⟨by decide, by decide⟩) (g := (mkF m 20 #[.val (.ref a), .val (.int (3 : Int32)), .val (.ref o), .val (.int (0 : Int32)), .val (.int (0 : Int32))] [(.int (own_cpt (([c0, c1, c2] : List Int32).take 3) 0)), (.int (0 : Int32)), (.ref o)])) rfl rfl (hb hby d_m10_20)
    refine own_go st249 ?_
    have N249 := Fr.snoc X249 N247 g_o
    have V249 : Arv Z h249 o ko .int (3 : Int32) [(.int (own_cpt (([c0, c1, c2] : List Int32).take 3) 0)), (.int (0 : Int32)), (.int (0 : Int32))] (.int (0 : Int32)) := Arv.set A248 q248 S248 M248 Hs248 Gs248 rfl W249 0 rfl (Nat.le_of_ble_eq_true rfl)
    show own_Go p e below (T249.setTop (mkF m 21 #[.val (.ref a), .val (.int (3 : Int32)), .val (.ref o), .val (.int (0 : Int32)), .val (.int (0 : Int32))] [])) _
    refine own_go (fun _ k => XS.iload X249.here hx rfl (hb hby d_m10_21) rfl k) ?_
    show own_Go p e below (T249.setTop (mkF m 23 #[.val (.ref a), .val (.int (3 : Int32)), .val (.ref o), .val (.int (0 : Int32)), .val (.int (0 : Int32))] [(.int (0 : Int32))])) _
    refine own_go (fun _ k => XS.aloadN X249.here hx rfl (hb hby d_m10_23) rfl rfl k) ?_
    show own_Go p e below (T249.setTop (mkF m 24 #[.val (.ref a), .val (.int (3 : Int32)), .val (.ref o), .val (.int (0 : Int32)), .val (.int (0 : Int32))] [(.ref a), (.int (0 : Int32))])) _
    refine own_go (fun _ k => XS.iloadN X249.here hx rfl (hb hby d_m10_24) rfl k) ?_
    show own_Go p e below (T249.setTop (mkF m 25 #[.val (.ref a), .val (.int (3 : Int32)), .val (.ref o), .val (.int (0 : Int32)), .val (.int (0 : Int32))] [(.int (3 : Int32)), (.ref a), (.int (0 : Int32))])) _
    refine own_go (fun _ k => XS.iload X249.here hx rfl (hb hby d_m10_25) rfl k) ?_
    show own_Go p e below (T249.setTop (mkF m 27 #[.val (.ref a), .val (.int (3 : Int32)), .val (.ref o), .val (.int (0 : Int32)), .val (.int (0 : Int32))] [(.int (0 : Int32)), (.int (3 : Int32)), (.ref a), (.int (0 : Int32))])) _
    obtain ⟨v250, _, ⟨T250, L250, k250, n250⟩, -, X250, ⟨Lc250, hQ250, l250, y250, z250⟩, st250⟩ := Jvm.LawKit.callS X249 hx (y := (⟨"com/example/rolelattice/rolelattice/decision/CodePointsComparePinLaw", "width", "([CII)I"⟩ : MethodName)) hown (mvT hZ (hw _ (List.mem_of_getElem? (i := 101) rfl))) (mvT hZ (hw _ (List.mem_of_getElem? (i := 102) rfl))) (mvT hZ (hw _ (List.mem_of_getElem? (i := 2) rfl))) (mvT hZ (hw _ (List.mem_of_getElem? (i := 103) rfl))) (by decide) (backOf (W := 1) (rm_wid l Z a0 hw [] a ka c0 c1 c2 3 0 h249 n0 (O0.wr W249 g_o) (V_a.other W249 hao) (by decide) (by decide)) hZ (hw _ (List.mem_of_getElem? (i := 103) rfl)) (hw _ (List.mem_of_getElem? (i := 2) rfl)) (by decide) (by decide)) (g := (mkF m 27 #[.val (.ref a), .val (.int (3 : Int32)), .val (.ref o), .val (.int (0 : Int32)), .val (.int (0 : Int32))] [(.int (0 : Int32)), (.int (3 : Int32)), (.ref a), (.int (0 : Int32))])) rfl (by rw [hml]; rfl) (argsL := [(.ref a), (.int (3 : Int32)), (.int (0 : Int32))]) (rest := [(.int (0 : Int32))]) (lenOf pd_19 rfl) rfl (by show 2 * 0 + _ ≤ _; exact Nat.le_of_eq rfl) (hb hby d_m10_27) (fun _ _ => ⟨rfl, e249, (by decide : 0 + 0 ≤ _), (by decide : 0 + 0 ≤ _)⟩)
    dsimp only [Pt.U, Pt.locs, Pt.cells, Pt.slots] at X250 l250 y250 z250 st250 hQ250
    subst l250 y250 z250
    refine own_go st250 ?_
    obtain ⟨rfl, Nq250, e250⟩ := hQ250
    have N250 := Fr.app N249 Nq250
    show own_Go p e below (T250.setTop (mkF m 30 #[.val (.ref a), .val (.int (3 : Int32)), .val (.ref o), .val (.int (0 : Int32)), .val (.int (0 : Int32))] [(.int (Int32.ofNat (own_w (([c0, c1, c2] : List Int32).take 3) 0))), (.int (0 : Int32))])) _
    rcases own_w12 (([c0, c1, c2] : List Int32).take 3) 0 with qw0 | qw0
    · rw [qw0]
      show own_Go p e below (T250.setTop (mkF m 30 #[.val (.ref a), .val (.int (3 : Int32)), .val (.ref o), .val (.int (0 : Int32)), .val (.int (0 : Int32))] [(.int (1 : Int32)), (.int (0 : Int32))])) _
      show own_Go p e below (T250.setTop (mkF m 30 #[.val (.ref a), .val (.int (3 : Int32)), .val (.ref o), .val (.int (0 : Int32)), .val (.int (0 : Int32))] [(.int (1 : Int32)), (.int (0 : Int32))])) _
      refine own_go (fun _ k => XS.iadd X250.here hx rfl (hb hby d_m10_30) rfl k) ?_
      show own_Go p e below (T250.setTop (mkF m 31 #[.val (.ref a), .val (.int (3 : Int32)), .val (.ref o), .val (.int (0 : Int32)), .val (.int (0 : Int32))] [(.int (1 : Int32))])) _
      refine own_go (fun _ k => XS.istore X250.here hx rfl (hb hby d_m10_31) rfl (l' := #[.val (.ref a), .val (.int (3 : Int32)), .val (.ref o), .val (.int (0 : Int32)), .val (.int (1 : Int32))]) rfl k) ?_
      show own_Go p e below (T250.setTop (mkF m 33 #[.val (.ref a), .val (.int (3 : Int32)), .val (.ref o), .val (.int (0 : Int32)), .val (.int (1 : Int32))] [])) _
      show own_Go p e below (T250.setTop (mkF m 33 #[.val (.ref a), .val (.int (3 : Int32)), .val (.ref o), .val (.int (0 : Int32)), .val (.int (1 : Int32))] [])) _
      refine own_go (fun _ k => XS.iinc X250.here hx rfl (hb hby d_m10_33) rfl (l' := #[.val (.ref a), .val (.int (3 : Int32)), .val (.ref o), .val (.int (1 : Int32)), .val (.int (1 : Int32))]) rfl k) ?_
      show own_Go p e below (T250.setTop (mkF m 36 #[.val (.ref a), .val (.int (3 : Int32)), .val (.ref o), .val (.int (1 : Int32)), .val (.int (1 : Int32))] [])) _
      show own_Go p e below (T250.setTop (mkF m 36 #[.val (.ref a), .val (.int (3 : Int32)), .val (.ref o), .val (.int (1 : Int32)), .val (.int (1 : Int32))] [])) _
      refine own_go (fun _ k => XS.iload X250.here hx rfl (hb hby d_m10_36) rfl k) ?_
      show own_Go p e below (T250.setTop (mkF m 38 #[.val (.ref a), .val (.int (3 : Int32)), .val (.ref o), .val (.int (1 : Int32)), .val (.int (1 : Int32))] [(.int (1 : Int32))])) _
      refine own_go (fun _ k => XS.iloadN X250.here hx rfl (hb hby d_m10_38) rfl k) ?_
      show own_Go p e below (T250.setTop (mkF m 39 #[.val (.ref a), .val (.int (3 : Int32)), .val (.ref o), .val (.int (1 : Int32)), .val (.int (1 : Int32))] [(.int (3 : Int32)), (.int (1 : Int32))])) _
      refine own_go (fun _ k => XS.icmpNo X250.here hx rfl (hb hby d_m10_39) rfl (tlt (by decide : (1 : Int32) < (3 : Int32))).2.1 k) ?_
      show own_Go p e below (T250.setTop (mkF m 42 #[.val (.ref a), .val (.int (3 : Int32)), .val (.ref o), .val (.int (1 : Int32)), .val (.int (1 : Int32))] [])) _
      refine own_go (fun _ k => XS.aloadN X250.here hx rfl (hb hby d_m10_42) rfl rfl k) ?_
      show own_Go p e below (T250.setTop (mkF m 43 #[.val (.ref a), .val (.int (3 : Int32)), .val (.ref o), .val (.int (1 : Int32)), .val (.int (1 : Int32))] [(.ref o)])) _
      refine own_go (fun _ k => XS.iloadN X250.here hx rfl (hb hby d_m10_43) rfl k) ?_
      show own_Go p e below (T250.setTop (mkF m 44 #[.val (.ref a), .val (.int (3 : Int32)), .val (.ref o), .val (.int (1 : Int32)), .val (.int (1 : Int32))] [(.int (1 : Int32)), (.ref o)])) _
      refine own_go (fun _ k => XS.aloadN X250.here hx rfl (hb hby d_m10_44) rfl rfl k) ?_
      show own_Go p e below (T250.setTop (mkF m 45 #[.val (.ref a), .val (.int (3 : Int32)), .val (.ref o), .val (.int (1 : Int32)), .val (.int (1 : Int32))] [(.ref a), (.int (1 : Int32)), (.ref o)])) _
      refine own_go (fun _ k => XS.iloadN X250.here hx rfl (hb hby d_m10_45) rfl k) ?_
      show own_Go p e below (T250.setTop (mkF m 46 #[.val (.ref a), .val (.int (3 : Int32)), .val (.ref o), .val (.int (1 : Int32)), .val (.int (1 : Int32))] [(.int (3 : Int32)), (.ref a), (.int (1 : Int32)), (.ref o)])) _
      refine own_go (fun _ k => XS.iload X250.here hx rfl (hb hby d_m10_46) rfl k) ?_
      show own_Go p e below (T250.setTop (mkF m 48 #[.val (.ref a), .val (.int (3 : Int32)), .val (.ref o), .val (.int (1 : Int32)), .val (.int (1 : Int32))] [(.int (1 : Int32)), (.int (3 : Int32)), (.ref a), (.int (1 : Int32)), (.ref o)])) _
      obtain ⟨v251, _, ⟨T251, L251, k251, n251⟩, -, X251, ⟨Lc251, hQ251, l251, y251, z251⟩, st251⟩ := Jvm.LawKit.callS X250 hx (y := (⟨"com/example/rolelattice/rolelattice/decision/CodePointsComparePinLaw", "cpAt", "([CII)I"⟩ : MethodName)) hown (mvT hZ (hw _ (List.mem_of_getElem? (i := 91) rfl))) (mvT hZ (hw _ (List.mem_of_getElem? (i := 92) rfl))) (mvT hZ (hw _ (List.mem_of_getElem? (i := 2) rfl))) (mvT hZ (hw _ (List.mem_of_getElem? (i := 93) rfl))) (by decide) (backOf (W := 2) (rm_cpat l Z a0 hw [] a ka c0 c1 c2 3 1 h249 n0 (O0.wr W249 g_o) (V_a.other W249 hao) (by decide) (by decide)) hZ (hw _ (List.mem_of_getElem? (i := 93) rfl)) (hw _ (List.mem_of_getElem? (i := 2) rfl)) (by decide) (by decide)) (g := (mkF m 48 #[.val (.ref a), .val (.int (3 : Int32)), .val (.ref o), .val (.int (1 : Int32)), .val (.int (1 : Int32))] [(.int (1 : Int32)), (.int (3 : Int32)), (.ref a), (.int (1 : Int32)), (.ref o)])) rfl (by rw [hml]; rfl) (argsL := [(.ref a), (.int (3 : Int32)), (.int (1 : Int32))]) (rest := [(.int (1 : Int32)), (.ref o)]) (lenOf pd_19 rfl) rfl (by show 2 * 0 + _ ≤ _; exact Nat.le_of_eq rfl) (hb hby d_m10_48) (fun _ _ => ⟨rfl, e250, (by decide : 0 + 0 ≤ _), (by decide : 0 + 0 ≤ _)⟩)
      dsimp only [Pt.U, Pt.locs, Pt.cells, Pt.slots] at X251 l251 y251 z251 st251 hQ251
      subst l251 y251 z251
      refine own_go st251 ?_
      obtain ⟨rfl, Nq251, e251⟩ := hQ251
      have N251 := Fr.app N250 Nq251
      show own_Go p e below (T251.setTop (mkF m 51 #[.val (.ref a), .val (.int (3 : Int32)), .val (.ref o), .val (.int (1 : Int32)), .val (.int (1 : Int32))] [(.int (own_cpt (([c0, c1, c2] : List Int32).take 3) 1)), (.int (1 : Int32)), (.ref o)])) _
      obtain ⟨c252, A252, q252, S252, M252, Hs252, Gs252⟩ := id V249
      obtain ⟨T253, h253, X253, e253, W253, st253⟩ := stI X251 hx hZ e251 A252 (j := (1 : Int32)) (inb_of S252 ⟨by decide, by decide⟩) (g := (mkF m 51 #[.val (.ref a), .val (.int (3 : Int32)), .val (.ref o), .val (.int (1 : Int32)), .val (.int (1 : Int32))] [(.int (own_cpt (([c0, c1, c2] : List Int32).take 3) 1)), (.int (1 : Int32)), (.ref o)])) rfl rfl (hb hby d_m10_51)
      refine own_go st253 ?_
      have N253 := Fr.snoc X253 N251 g_o
      have V253 : Arv Z h253 o ko .int (3 : Int32) [(.int (own_cpt (([c0, c1, c2] : List Int32).take 3) 0)), (.int (own_cpt (([c0, c1, c2] : List Int32).take 3) 1)), (.int (0 : Int32))] (.int (0 : Int32)) := Arv.set A252 q252 S252 M252 Hs252 Gs252 rfl W253 1 rfl (Nat.le_of_ble_eq_true rfl)
      show own_Go p e below (T253.setTop (mkF m 52 #[.val (.ref a), .val (.int (3 : Int32)), .val (.ref o), .val (.int (1 : Int32)), .val (.int (1 : Int32))] [])) _
      refine own_go (fun _ k => XS.iload X253.here hx rfl (hb hby d_m10_52) rfl k) ?_
      show own_Go p e below (T253.setTop (mkF m 54 #[.val (.ref a), .val (.int (3 : Int32)), .val (.ref o), .val (.int (1 : Int32)), .val (.int (1 : Int32))] [(.int (1 : Int32))])) _
      refine own_go (fun _ k => XS.aloadN X253.here hx rfl (hb hby d_m10_54) rfl rfl k) ?_
      show own_Go p e below (T253.setTop (mkF m 55 #[.val (.ref a), .val (.int (3 : Int32)), .val (.ref o), .val (.int (1 : Int32)), .val (.int (1 : Int32))] [(.ref a), (.int (1 : Int32))])) _
      refine own_go (fun _ k => XS.iloadN X253.here hx rfl (hb hby d_m10_55) rfl k) ?_
      show own_Go p e below (T253.setTop (mkF m 56 #[.val (.ref a), .val (.int (3 : Int32)), .val (.ref o), .val (.int (1 : Int32)), .val (.int (1 : Int32))] [(.int (3 : Int32)), (.ref a), (.int (1 : Int32))])) _
      refine own_go (fun _ k => XS.iload X253.here hx rfl (hb hby d_m10_56) rfl k) ?_
      show own_Go p e below (T253.setTop (mkF m 58 #[.val (.ref a), .val (.int (3 : Int32)), .val (.ref o), .val (.int (1 : Int32)), .val (.int (1 : Int32))] [(.int (1 : Int32)), (.int (3 : Int32)), (.ref a), (.int (1 : Int32))])) _
      have f254 := ((V_a.other W249 hao).other W253 hao)
      have f255 := ((O0.wr W249 g_o).wr W253 g_o)
      obtain ⟨v256, _, ⟨T256, L256, k256, n256⟩, -, X256, ⟨Lc256, hQ256, l256, y256, z256⟩, st256⟩ := Jvm.LawKit.callS X253 hx (y := (⟨"com/example/rolelattice/rolelattice/decision/CodePointsComparePinLaw", "width", "([CII)I"⟩ : MethodName)) hown (mvT hZ (hw _ (List.mem_of_getElem? (i := 101) rfl))) (mvT hZ (hw _ (List.mem_of_getElem? (i := 102) rfl))) (mvT hZ (hw _ (List.mem_of_getElem? (i := 2) rfl))) (mvT hZ (hw _ (List.mem_of_getElem? (i := 103) rfl))) (by decide) (backOf (W := 1) (rm_wid l Z a0 hw [] a ka c0 c1 c2 3 1 h253 n0 f255 f254 (by decide) (by decide)) hZ (hw _ (List.mem_of_getElem? (i := 103) rfl)) (hw _ (List.mem_of_getElem? (i := 2) rfl)) (by decide) (by decide)) (g := (mkF m 58 #[.val (.ref a), .val (.int (3 : Int32)), .val (.ref o), .val (.int (1 : Int32)), .val (.int (1 : Int32))] [(.int (1 : Int32)), (.int (3 : Int32)), (.ref a), (.int (1 : Int32))])) rfl (by rw [hml]; rfl) (argsL := [(.ref a), (.int (3 : Int32)), (.int (1 : Int32))]) (rest := [(.int (1 : Int32))]) (lenOf pd_19 rfl) rfl (by show 2 * 0 + _ ≤ _; exact Nat.le_of_eq rfl) (hb hby d_m10_58) (fun _ _ => ⟨rfl, e253, (by decide : 0 + 0 ≤ _), (by decide : 0 + 0 ≤ _)⟩)
      dsimp only [Pt.U, Pt.locs, Pt.cells, Pt.slots] at X256 l256 y256 z256 st256 hQ256
      subst l256 y256 z256
      refine own_go st256 ?_
      obtain ⟨rfl, Nq256, e256⟩ := hQ256
      have N256 := Fr.app N253 Nq256
      show own_Go p e below (T256.setTop (mkF m 61 #[.val (.ref a), .val (.int (3 : Int32)), .val (.ref o), .val (.int (1 : Int32)), .val (.int (1 : Int32))] [(.int (Int32.ofNat (own_w (([c0, c1, c2] : List Int32).take 3) 1))), (.int (1 : Int32))])) _
      rcases own_w12 (([c0, c1, c2] : List Int32).take 3) 1 with qw1 | qw1
      · rw [qw1]
        show own_Go p e below (T256.setTop (mkF m 61 #[.val (.ref a), .val (.int (3 : Int32)), .val (.ref o), .val (.int (1 : Int32)), .val (.int (1 : Int32))] [(.int (1 : Int32)), (.int (1 : Int32))])) _
        show own_Go p e below (T256.setTop (mkF m 61 #[.val (.ref a), .val (.int (3 : Int32)), .val (.ref o), .val (.int (1 : Int32)), .val (.int (1 : Int32))] [(.int (1 : Int32)), (.int (1 : Int32))])) _
        refine own_go (fun _ k => XS.iadd X256.here hx rfl (hb hby d_m10_61) rfl k) ?_
        show own_Go p e below (T256.setTop (mkF m 62 #[.val (.ref a), .val (.int (3 : Int32)), .val (.ref o), .val (.int (1 : Int32)), .val (.int (1 : Int32))] [(.int (2 : Int32))])) _
        refine own_go (fun _ k => XS.istore X256.here hx rfl (hb hby d_m10_62) rfl (l' := #[.val (.ref a), .val (.int (3 : Int32)), .val (.ref o), .val (.int (1 : Int32)), .val (.int (2 : Int32))]) rfl k) ?_
        show own_Go p e below (T256.setTop (mkF m 64 #[.val (.ref a), .val (.int (3 : Int32)), .val (.ref o), .val (.int (1 : Int32)), .val (.int (2 : Int32))] [])) _
        show own_Go p e below (T256.setTop (mkF m 64 #[.val (.ref a), .val (.int (3 : Int32)), .val (.ref o), .val (.int (1 : Int32)), .val (.int (2 : Int32))] [])) _
        refine own_go (fun _ k => XS.iinc X256.here hx rfl (hb hby d_m10_64) rfl (l' := #[.val (.ref a), .val (.int (3 : Int32)), .val (.ref o), .val (.int (2 : Int32)), .val (.int (2 : Int32))]) rfl k) ?_
        show own_Go p e below (T256.setTop (mkF m 67 #[.val (.ref a), .val (.int (3 : Int32)), .val (.ref o), .val (.int (2 : Int32)), .val (.int (2 : Int32))] [])) _
        show own_Go p e below (T256.setTop (mkF m 67 #[.val (.ref a), .val (.int (3 : Int32)), .val (.ref o), .val (.int (2 : Int32)), .val (.int (2 : Int32))] [])) _
        refine own_go (fun _ k => XS.iload X256.here hx rfl (hb hby d_m10_67) rfl k) ?_
        show own_Go p e below (T256.setTop (mkF m 69 #[.val (.ref a), .val (.int (3 : Int32)), .val (.ref o), .val (.int (2 : Int32)), .val (.int (2 : Int32))] [(.int (2 : Int32))])) _
        refine own_go (fun _ k => XS.iloadN X256.here hx rfl (hb hby d_m10_69) rfl k) ?_
        show own_Go p e below (T256.setTop (mkF m 70 #[.val (.ref a), .val (.int (3 : Int32)), .val (.ref o), .val (.int (2 : Int32)), .val (.int (2 : Int32))] [(.int (3 : Int32)), (.int (2 : Int32))])) _
        refine own_go (fun _ k => XS.icmpNo X256.here hx rfl (hb hby d_m10_70) rfl (tlt (by decide : (2 : Int32) < (3 : Int32))).2.1 k) ?_
        show own_Go p e below (T256.setTop (mkF m 73 #[.val (.ref a), .val (.int (3 : Int32)), .val (.ref o), .val (.int (2 : Int32)), .val (.int (2 : Int32))] [])) _
        refine own_go (fun _ k => XS.aloadN X256.here hx rfl (hb hby d_m10_73) rfl rfl k) ?_
        show own_Go p e below (T256.setTop (mkF m 74 #[.val (.ref a), .val (.int (3 : Int32)), .val (.ref o), .val (.int (2 : Int32)), .val (.int (2 : Int32))] [(.ref o)])) _
        refine own_go (fun _ k => XS.iloadN X256.here hx rfl (hb hby d_m10_74) rfl k) ?_
        show own_Go p e below (T256.setTop (mkF m 75 #[.val (.ref a), .val (.int (3 : Int32)), .val (.ref o), .val (.int (2 : Int32)), .val (.int (2 : Int32))] [(.int (2 : Int32)), (.ref o)])) _
        refine own_go (fun _ k => XS.aloadN X256.here hx rfl (hb hby d_m10_75) rfl rfl k) ?_
        show own_Go p e below (T256.setTop (mkF m 76 #[.val (.ref a), .val (.int (3 : Int32)), .val (.ref o), .val (.int (2 : Int32)), .val (.int (2 : Int32))] [(.ref a), (.int (2 : Int32)), (.ref o)])) _
        refine own_go (fun _ k => XS.iloadN X256.here hx rfl (hb hby d_m10_76) rfl k) ?_
        show own_Go p e below (T256.setTop (mkF m 77 #[.val (.ref a), .val (.int (3 : Int32)), .val (.ref o), .val (.int (2 : Int32)), .val (.int (2 : Int32))] [(.int (3 : Int32)), (.ref a), (.int (2 : Int32)), (.ref o)])) _
        refine own_go (fun _ k => XS.iload X256.here hx rfl (hb hby d_m10_77) rfl k) ?_
        show own_Go p e below (T256.setTop (mkF m 79 #[.val (.ref a), .val (.int (3 : Int32)), .val (.ref o), .val (.int (2 : Int32)), .val (.int (2 : Int32))] [(.int (2 : Int32)), (.int (3 : Int32)), (.ref a), (.int (2 : Int32)), (.ref o)])) _
        obtain ⟨v257, _, ⟨T257, L257, k257, n257⟩, -, X257, ⟨Lc257, hQ257, l257, y257, z257⟩, st257⟩ := Jvm.LawKit.callS X256 hx (y := (⟨"com/example/rolelattice/rolelattice/decision/CodePointsComparePinLaw", "cpAt", "([CII)I"⟩ : MethodName)) hown (mvT hZ (hw _ (List.mem_of_getElem? (i := 91) rfl))) (mvT hZ (hw _ (List.mem_of_getElem? (i := 92) rfl))) (mvT hZ (hw _ (List.mem_of_getElem? (i := 2) rfl))) (mvT hZ (hw _ (List.mem_of_getElem? (i := 93) rfl))) (by decide) (backOf (W := 2) (rm_cpat l Z a0 hw [] a ka c0 c1 c2 3 2 h253 n0 f255 f254 (by decide) (by decide)) hZ (hw _ (List.mem_of_getElem? (i := 93) rfl)) (hw _ (List.mem_of_getElem? (i := 2) rfl)) (by decide) (by decide)) (g := (mkF m 79 #[.val (.ref a), .val (.int (3 : Int32)), .val (.ref o), .val (.int (2 : Int32)), .val (.int (2 : Int32))] [(.int (2 : Int32)), (.int (3 : Int32)), (.ref a), (.int (2 : Int32)), (.ref o)])) rfl (by rw [hml]; rfl) (argsL := [(.ref a), (.int (3 : Int32)), (.int (2 : Int32))]) (rest := [(.int (2 : Int32)), (.ref o)]) (lenOf pd_19 rfl) rfl (by show 2 * 0 + _ ≤ _; exact Nat.le_of_eq rfl) (hb hby d_m10_79) (fun _ _ => ⟨rfl, e256, (by decide : 0 + 0 ≤ _), (by decide : 0 + 0 ≤ _)⟩)
        dsimp only [Pt.U, Pt.locs, Pt.cells, Pt.slots] at X257 l257 y257 z257 st257 hQ257
        subst l257 y257 z257
        refine own_go st257 ?_
        obtain ⟨rfl, Nq257, e257⟩ := hQ257
        have N257 := Fr.app N256 Nq257
        show own_Go p e below (T257.setTop (mkF m 82 #[.val (.ref a), .val (.int (3 : Int32)), .val (.ref o), .val (.int (2 : Int32)), .val (.int (2 : Int32))] [(.int (own_cpt (([c0, c1, c2] : List Int32).take 3) 2)), (.int (2 : Int32)), (.ref o)])) _
        obtain ⟨c258, A258, q258, S258, M258, Hs258, Gs258⟩ := id V253
        obtain ⟨T259, h259, X259, e259, W259, st259⟩ := stI X257 hx hZ e257 A258 (j := (2 : Int32)) (inb_of S258 ⟨by decide, by decide⟩) (g := (mkF m 82 #[.val (.ref a), .val (.int (3 : Int32)), .val (.ref o), .val (.int (2 : Int32)), .val (.int (2 : Int32))] [(.int (own_cpt (([c0, c1, c2] : List Int32).take 3) 2)), (.int (2 : Int32)), (.ref o)])) rfl rfl (hb hby d_m10_82)
        refine own_go st259 ?_
        have N259 := Fr.snoc X259 N257 g_o
        have V259 : Arv Z h259 o ko .int (3 : Int32) [(.int (own_cpt (([c0, c1, c2] : List Int32).take 3) 0)), (.int (own_cpt (([c0, c1, c2] : List Int32).take 3) 1)), (.int (own_cpt (([c0, c1, c2] : List Int32).take 3) 2))] (.int (0 : Int32)) := Arv.set A258 q258 S258 M258 Hs258 Gs258 rfl W259 2 rfl (Nat.le_of_ble_eq_true rfl)
        show own_Go p e below (T259.setTop (mkF m 83 #[.val (.ref a), .val (.int (3 : Int32)), .val (.ref o), .val (.int (2 : Int32)), .val (.int (2 : Int32))] [])) _
        refine own_go (fun _ k => XS.iload X259.here hx rfl (hb hby d_m10_83) rfl k) ?_
        show own_Go p e below (T259.setTop (mkF m 85 #[.val (.ref a), .val (.int (3 : Int32)), .val (.ref o), .val (.int (2 : Int32)), .val (.int (2 : Int32))] [(.int (2 : Int32))])) _
        refine own_go (fun _ k => XS.aloadN X259.here hx rfl (hb hby d_m10_85) rfl rfl k) ?_
        show own_Go p e below (T259.setTop (mkF m 86 #[.val (.ref a), .val (.int (3 : Int32)), .val (.ref o), .val (.int (2 : Int32)), .val (.int (2 : Int32))] [(.ref a), (.int (2 : Int32))])) _
        refine own_go (fun _ k => XS.iloadN X259.here hx rfl (hb hby d_m10_86) rfl k) ?_
        show own_Go p e below (T259.setTop (mkF m 87 #[.val (.ref a), .val (.int (3 : Int32)), .val (.ref o), .val (.int (2 : Int32)), .val (.int (2 : Int32))] [(.int (3 : Int32)), (.ref a), (.int (2 : Int32))])) _
        refine own_go (fun _ k => XS.iload X259.here hx rfl (hb hby d_m10_87) rfl k) ?_
        show own_Go p e below (T259.setTop (mkF m 89 #[.val (.ref a), .val (.int (3 : Int32)), .val (.ref o), .val (.int (2 : Int32)), .val (.int (2 : Int32))] [(.int (2 : Int32)), (.int (3 : Int32)), (.ref a), (.int (2 : Int32))])) _
        obtain ⟨v260, _, ⟨T260, L260, k260, n260⟩, -, X260, ⟨Lc260, hQ260, l260, y260, z260⟩, st260⟩ := Jvm.LawKit.callS X259 hx (y := (⟨"com/example/rolelattice/rolelattice/decision/CodePointsComparePinLaw", "width", "([CII)I"⟩ : MethodName)) hown (mvT hZ (hw _ (List.mem_of_getElem? (i := 101) rfl))) (mvT hZ (hw _ (List.mem_of_getElem? (i := 102) rfl))) (mvT hZ (hw _ (List.mem_of_getElem? (i := 2) rfl))) (mvT hZ (hw _ (List.mem_of_getElem? (i := 103) rfl))) (by decide) (backOf (W := 1) (rm_wid l Z a0 hw [] a ka c0 c1 c2 3 2 h259 n0 (f255.wr W259 g_o) (f254.other W259 hao) (by decide) (by decide)) hZ (hw _ (List.mem_of_getElem? (i := 103) rfl)) (hw _ (List.mem_of_getElem? (i := 2) rfl)) (by decide) (by decide)) (g := (mkF m 89 #[.val (.ref a), .val (.int (3 : Int32)), .val (.ref o), .val (.int (2 : Int32)), .val (.int (2 : Int32))] [(.int (2 : Int32)), (.int (3 : Int32)), (.ref a), (.int (2 : Int32))])) rfl (by rw [hml]; rfl) (argsL := [(.ref a), (.int (3 : Int32)), (.int (2 : Int32))]) (rest := [(.int (2 : Int32))]) (lenOf pd_19 rfl) rfl (by show 2 * 0 + _ ≤ _; exact Nat.le_of_eq rfl) (hb hby d_m10_89) (fun _ _ => ⟨rfl, e259, (by decide : 0 + 0 ≤ _), (by decide : 0 + 0 ≤ _)⟩)
        dsimp only [Pt.U, Pt.locs, Pt.cells, Pt.slots] at X260 l260 y260 z260 st260 hQ260
        subst l260 y260 z260
        refine own_go st260 ?_
        obtain ⟨rfl, Nq260, e260⟩ := hQ260
        have N260 := Fr.app N259 Nq260
        show own_Go p e below (T260.setTop (mkF m 92 #[.val (.ref a), .val (.int (3 : Int32)), .val (.ref o), .val (.int (2 : Int32)), .val (.int (2 : Int32))] [(.int (Int32.ofNat (own_w (([c0, c1, c2] : List Int32).take 3) 2))), (.int (2 : Int32))])) _
        have qw2 : own_w (([c0, c1, c2] : List Int32).take 3) 2 = 1 := own_wl1 (Nat.not_lt.mpr (Nat.le_of_ble_eq_true rfl))
        rw [qw2]
        show own_Go p e below (T260.setTop (mkF m 92 #[.val (.ref a), .val (.int (3 : Int32)), .val (.ref o), .val (.int (2 : Int32)), .val (.int (2 : Int32))] [(.int (1 : Int32)), (.int (2 : Int32))])) _
        refine own_go (fun _ k => XS.iadd X260.here hx rfl (hb hby d_m10_92) rfl k) ?_
        show own_Go p e below (T260.setTop (mkF m 93 #[.val (.ref a), .val (.int (3 : Int32)), .val (.ref o), .val (.int (2 : Int32)), .val (.int (2 : Int32))] [(.int (3 : Int32))])) _
        refine own_go (fun _ k => XS.istore X260.here hx rfl (hb hby d_m10_93) rfl (l' := #[.val (.ref a), .val (.int (3 : Int32)), .val (.ref o), .val (.int (2 : Int32)), .val (.int (3 : Int32))]) rfl k) ?_
        show own_Go p e below (T260.setTop (mkF m 95 #[.val (.ref a), .val (.int (3 : Int32)), .val (.ref o), .val (.int (2 : Int32)), .val (.int (3 : Int32))] [])) _
        show own_Go p e below (T260.setTop (mkF m 95 #[.val (.ref a), .val (.int (3 : Int32)), .val (.ref o), .val (.int (2 : Int32)), .val (.int (3 : Int32))] [])) _
        refine own_go (fun _ k => XS.iinc X260.here hx rfl (hb hby d_m10_95) rfl (l' := #[.val (.ref a), .val (.int (3 : Int32)), .val (.ref o), .val (.int (3 : Int32)), .val (.int (3 : Int32))]) rfl k) ?_
        show own_Go p e below (T260.setTop (mkF m 98 #[.val (.ref a), .val (.int (3 : Int32)), .val (.ref o), .val (.int (3 : Int32)), .val (.int (3 : Int32))] [])) _
        show own_Go p e below (T260.setTop (mkF m 98 #[.val (.ref a), .val (.int (3 : Int32)), .val (.ref o), .val (.int (3 : Int32)), .val (.int (3 : Int32))] [])) _
        refine own_go (fun _ k => XS.iloadN X260.here hx rfl (hb hby d_m10_98) rfl k) ?_
        show own_Go p e below (T260.setTop (mkF m 99 #[.val (.ref a), .val (.int (3 : Int32)), .val (.ref o), .val (.int (3 : Int32)), .val (.int (3 : Int32))] [(.int (3 : Int32))])) _
        have f261 := ((((Keep.refl h0 [o]).wr W249 (Or.inl (List.mem_of_getElem? (i := 0) rfl))).wr W253 (Or.inl (List.mem_of_getElem? (i := 0) rfl))).wr W259 (Or.inl (List.mem_of_getElem? (i := 0) rfl)))
        refine own_fin (v := (some (.int (3 : Int32)))) X260 (fun h => by rw [hrt] at h; cases h) hlk (fun fs hr => retI X260 hx hrt (hb hby d_m10_99) hr) (QQ := QDec Z o ko (([c0, c1, c2] : List Int32).take 3) h0 n0) ?_ (by decide) (by decide)
        rw [e260]
        exact ⟨([(own_cpt (([c0, c1, c2] : List Int32).take 3) 0), (own_cpt (([c0, c1, c2] : List Int32).take 3) 1), (own_cpt (([c0, c1, c2] : List Int32).take 3) 2)] : List Int32), Eq.symm (own_T_step (j := 1) (Nat.le_of_ble_eq_true rfl) qw0 rfl (own_T_step (j := 2) (Nat.le_of_ble_eq_true rfl) qw1 rfl (own_T_step (j := 3) (Nat.le_of_ble_eq_true rfl) qw2 rfl (own_T_ge (Nat.not_lt.mpr (Nat.le_of_ble_eq_true rfl)))))), rfl, N260, f261, Nat.le_of_ble_eq_true rfl, V259⟩
      · rw [qw1]
        show own_Go p e below (T256.setTop (mkF m 61 #[.val (.ref a), .val (.int (3 : Int32)), .val (.ref o), .val (.int (1 : Int32)), .val (.int (1 : Int32))] [(.int (2 : Int32)), (.int (1 : Int32))])) _
        show own_Go p e below (T256.setTop (mkF m 61 #[.val (.ref a), .val (.int (3 : Int32)), .val (.ref o), .val (.int (1 : Int32)), .val (.int (1 : Int32))] [(.int (2 : Int32)), (.int (1 : Int32))])) _
        refine own_go (fun _ k => XS.iadd X256.here hx rfl (hb hby d_m10_61) rfl k) ?_
        show own_Go p e below (T256.setTop (mkF m 62 #[.val (.ref a), .val (.int (3 : Int32)), .val (.ref o), .val (.int (1 : Int32)), .val (.int (1 : Int32))] [(.int (3 : Int32))])) _
        refine own_go (fun _ k => XS.istore X256.here hx rfl (hb hby d_m10_62) rfl (l' := #[.val (.ref a), .val (.int (3 : Int32)), .val (.ref o), .val (.int (1 : Int32)), .val (.int (3 : Int32))]) rfl k) ?_
        show own_Go p e below (T256.setTop (mkF m 64 #[.val (.ref a), .val (.int (3 : Int32)), .val (.ref o), .val (.int (1 : Int32)), .val (.int (3 : Int32))] [])) _
        show own_Go p e below (T256.setTop (mkF m 64 #[.val (.ref a), .val (.int (3 : Int32)), .val (.ref o), .val (.int (1 : Int32)), .val (.int (3 : Int32))] [])) _
        refine own_go (fun _ k => XS.iinc X256.here hx rfl (hb hby d_m10_64) rfl (l' := #[.val (.ref a), .val (.int (3 : Int32)), .val (.ref o), .val (.int (2 : Int32)), .val (.int (3 : Int32))]) rfl k) ?_
        show own_Go p e below (T256.setTop (mkF m 67 #[.val (.ref a), .val (.int (3 : Int32)), .val (.ref o), .val (.int (2 : Int32)), .val (.int (3 : Int32))] [])) _
        show own_Go p e below (T256.setTop (mkF m 67 #[.val (.ref a), .val (.int (3 : Int32)), .val (.ref o), .val (.int (2 : Int32)), .val (.int (3 : Int32))] [])) _
        refine own_go (fun _ k => XS.iload X256.here hx rfl (hb hby d_m10_67) rfl k) ?_
        show own_Go p e below (T256.setTop (mkF m 69 #[.val (.ref a), .val (.int (3 : Int32)), .val (.ref o), .val (.int (2 : Int32)), .val (.int (3 : Int32))] [(.int (3 : Int32))])) _
        refine own_go (fun _ k => XS.iloadN X256.here hx rfl (hb hby d_m10_69) rfl k) ?_
        show own_Go p e below (T256.setTop (mkF m 70 #[.val (.ref a), .val (.int (3 : Int32)), .val (.ref o), .val (.int (2 : Int32)), .val (.int (3 : Int32))] [(.int (3 : Int32)), (.int (3 : Int32))])) _
        refine own_go (fun _ k => XS.icmpYes X256.here hx rfl (pc0 := 70) (pc' := 98) rfl (hb hby d_m10_70) rfl (flt (by decide : ¬ ((3 : Int32) < (3 : Int32)))).2.1 (by decide) (by decide) k) ?_
        show own_Go p e below (T256.setTop (mkF m 98 #[.val (.ref a), .val (.int (3 : Int32)), .val (.ref o), .val (.int (2 : Int32)), .val (.int (3 : Int32))] [])) _
        show own_Go p e below (T256.setTop (mkF m 98 #[.val (.ref a), .val (.int (3 : Int32)), .val (.ref o), .val (.int (2 : Int32)), .val (.int (3 : Int32))] [])) _
        refine own_go (fun _ k => XS.iloadN X256.here hx rfl (hb hby d_m10_98) rfl k) ?_
        show own_Go p e below (T256.setTop (mkF m 99 #[.val (.ref a), .val (.int (3 : Int32)), .val (.ref o), .val (.int (2 : Int32)), .val (.int (3 : Int32))] [(.int (2 : Int32))])) _
        have f262 := (((Keep.refl h0 [o]).wr W249 (Or.inl (List.mem_of_getElem? (i := 0) rfl))).wr W253 (Or.inl (List.mem_of_getElem? (i := 0) rfl)))
        refine own_fin (v := (some (.int (2 : Int32)))) X256 (fun h => by rw [hrt] at h; cases h) hlk (fun fs hr => retI X256 hx hrt (hb hby d_m10_99) hr) (QQ := QDec Z o ko (([c0, c1, c2] : List Int32).take 3) h0 n0) ?_ (by decide) (by decide)
        rw [e256]
        exact ⟨([(own_cpt (([c0, c1, c2] : List Int32).take 3) 0), (own_cpt (([c0, c1, c2] : List Int32).take 3) 1)] : List Int32), Eq.symm (own_T_step (j := 1) (Nat.le_of_ble_eq_true rfl) qw0 rfl (own_T_step (j := 3) (Nat.le_of_ble_eq_true rfl) qw1 rfl (own_T_ge (Nat.not_lt.mpr (Nat.le_of_ble_eq_true rfl))))), rfl, N256, f262, Nat.le_of_ble_eq_true rfl, V253⟩
    · rw [qw0]
      show own_Go p e below (T250.setTop (mkF m 30 #[.val (.ref a), .val (.int (3 : Int32)), .val (.ref o), .val (.int (0 : Int32)), .val (.int (0 : Int32))] [(.int (2 : Int32)), (.int (0 : Int32))])) _
      show own_Go p e below (T250.setTop (mkF m 30 #[.val (.ref a), .val (.int (3 : Int32)), .val (.ref o), .val (.int (0 : Int32)), .val (.int (0 : Int32))] [(.int (2 : Int32)), (.int (0 : Int32))])) _
      refine own_go (fun _ k => XS.iadd X250.here hx rfl (hb hby d_m10_30) rfl k) ?_
      show own_Go p e below (T250.setTop (mkF m 31 #[.val (.ref a), .val (.int (3 : Int32)), .val (.ref o), .val (.int (0 : Int32)), .val (.int (0 : Int32))] [(.int (2 : Int32))])) _
      refine own_go (fun _ k => XS.istore X250.here hx rfl (hb hby d_m10_31) rfl (l' := #[.val (.ref a), .val (.int (3 : Int32)), .val (.ref o), .val (.int (0 : Int32)), .val (.int (2 : Int32))]) rfl k) ?_
      show own_Go p e below (T250.setTop (mkF m 33 #[.val (.ref a), .val (.int (3 : Int32)), .val (.ref o), .val (.int (0 : Int32)), .val (.int (2 : Int32))] [])) _
      show own_Go p e below (T250.setTop (mkF m 33 #[.val (.ref a), .val (.int (3 : Int32)), .val (.ref o), .val (.int (0 : Int32)), .val (.int (2 : Int32))] [])) _
      refine own_go (fun _ k => XS.iinc X250.here hx rfl (hb hby d_m10_33) rfl (l' := #[.val (.ref a), .val (.int (3 : Int32)), .val (.ref o), .val (.int (1 : Int32)), .val (.int (2 : Int32))]) rfl k) ?_
      show own_Go p e below (T250.setTop (mkF m 36 #[.val (.ref a), .val (.int (3 : Int32)), .val (.ref o), .val (.int (1 : Int32)), .val (.int (2 : Int32))] [])) _
      show own_Go p e below (T250.setTop (mkF m 36 #[.val (.ref a), .val (.int (3 : Int32)), .val (.ref o), .val (.int (1 : Int32)), .val (.int (2 : Int32))] [])) _
      refine own_go (fun _ k => XS.iload X250.here hx rfl (hb hby d_m10_36) rfl k) ?_
      show own_Go p e below (T250.setTop (mkF m 38 #[.val (.ref a), .val (.int (3 : Int32)), .val (.ref o), .val (.int (1 : Int32)), .val (.int (2 : Int32))] [(.int (2 : Int32))])) _
      refine own_go (fun _ k => XS.iloadN X250.here hx rfl (hb hby d_m10_38) rfl k) ?_
      show own_Go p e below (T250.setTop (mkF m 39 #[.val (.ref a), .val (.int (3 : Int32)), .val (.ref o), .val (.int (1 : Int32)), .val (.int (2 : Int32))] [(.int (3 : Int32)), (.int (2 : Int32))])) _
      refine own_go (fun _ k => XS.icmpNo X250.here hx rfl (hb hby d_m10_39) rfl (tlt (by decide : (2 : Int32) < (3 : Int32))).2.1 k) ?_
      show own_Go p e below (T250.setTop (mkF m 42 #[.val (.ref a), .val (.int (3 : Int32)), .val (.ref o), .val (.int (1 : Int32)), .val (.int (2 : Int32))] [])) _
      refine own_go (fun _ k => XS.aloadN X250.here hx rfl (hb hby d_m10_42) rfl rfl k) ?_
      show own_Go p e below (T250.setTop (mkF m 43 #[.val (.ref a), .val (.int (3 : Int32)), .val (.ref o), .val (.int (1 : Int32)), .val (.int (2 : Int32))] [(.ref o)])) _
      refine own_go (fun _ k => XS.iloadN X250.here hx rfl (hb hby d_m10_43) rfl k) ?_
      show own_Go p e below (T250.setTop (mkF m 44 #[.val (.ref a), .val (.int (3 : Int32)), .val (.ref o), .val (.int (1 : Int32)), .val (.int (2 : Int32))] [(.int (1 : Int32)), (.ref o)])) _
      refine own_go (fun _ k => XS.aloadN X250.here hx rfl (hb hby d_m10_44) rfl rfl k) ?_
      show own_Go p e below (T250.setTop (mkF m 45 #[.val (.ref a), .val (.int (3 : Int32)), .val (.ref o), .val (.int (1 : Int32)), .val (.int (2 : Int32))] [(.ref a), (.int (1 : Int32)), (.ref o)])) _
      refine own_go (fun _ k => XS.iloadN X250.here hx rfl (hb hby d_m10_45) rfl k) ?_
      show own_Go p e below (T250.setTop (mkF m 46 #[.val (.ref a), .val (.int (3 : Int32)), .val (.ref o), .val (.int (1 : Int32)), .val (.int (2 : Int32))] [(.int (3 : Int32)), (.ref a), (.int (1 : Int32)), (.ref o)])) _
      refine own_go (fun _ k => XS.iload X250.here hx rfl (hb hby d_m10_46) rfl k) ?_
      show own_Go p e below (T250.setTop (mkF m 48 #[.val (.ref a), .val (.int (3 : Int32)), .val (.ref o), .val (.int (1 : Int32)), .val (.int (2 : Int32))] [(.int (2 : Int32)), (.int (3 : Int32)), (.ref a), (.int (1 : Int32)), (.ref o)])) _
      obtain ⟨v263, _, ⟨T263, L263, k263, n263⟩, -, X263, ⟨Lc263, hQ263, l263, y263, z263⟩, st263⟩ := Jvm.LawKit.callS X250 hx (y := (⟨"com/example/rolelattice/rolelattice/decision/CodePointsComparePinLaw", "cpAt", "([CII)I"⟩ : MethodName)) hown (mvT hZ (hw _ (List.mem_of_getElem? (i := 91) rfl))) (mvT hZ (hw _ (List.mem_of_getElem? (i := 92) rfl))) (mvT hZ (hw _ (List.mem_of_getElem? (i := 2) rfl))) (mvT hZ (hw _ (List.mem_of_getElem? (i := 93) rfl))) (by decide) (backOf (W := 2) (rm_cpat l Z a0 hw [] a ka c0 c1 c2 3 2 h249 n0 (O0.wr W249 g_o) (V_a.other W249 hao) (by decide) (by decide)) hZ (hw _ (List.mem_of_getElem? (i := 93) rfl)) (hw _ (List.mem_of_getElem? (i := 2) rfl)) (by decide) (by decide)) (g := (mkF m 48 #[.val (.ref a), .val (.int (3 : Int32)), .val (.ref o), .val (.int (1 : Int32)), .val (.int (2 : Int32))] [(.int (2 : Int32)), (.int (3 : Int32)), (.ref a), (.int (1 : Int32)), (.ref o)])) rfl (by rw [hml]; rfl) (argsL := [(.ref a), (.int (3 : Int32)), (.int (2 : Int32))]) (rest := [(.int (1 : Int32)), (.ref o)]) (lenOf pd_19 rfl) rfl (by show 2 * 0 + _ ≤ _; exact Nat.le_of_eq rfl) (hb hby d_m10_48) (fun _ _ => ⟨rfl, e250, (by decide : 0 + 0 ≤ _), (by decide : 0 + 0 ≤ _)⟩)
      dsimp only [Pt.U, Pt.locs, Pt.cells, Pt.slots] at X263 l263 y263 z263 st263 hQ263
      subst l263 y263 z263
      refine own_go st263 ?_
      obtain ⟨rfl, Nq263, e263⟩ := hQ263
      have N263 := Fr.app N250 Nq263
      show own_Go p e below (T263.setTop (mkF m 51 #[.val (.ref a), .val (.int (3 : Int32)), .val (.ref o), .val (.int (1 : Int32)), .val (.int (2 : Int32))] [(.int (own_cpt (([c0, c1, c2] : List Int32).take 3) 2)), (.int (1 : Int32)), (.ref o)])) _
      obtain ⟨c264, A264, q264, S264, M264, Hs264, Gs264⟩ := id V249
      obtain ⟨T265, h265, X265, e265, W265, st265⟩ := stI X263 hx hZ e263 A264 (j := (1 : Int32)) (inb_of S264 ⟨by decide, by decide⟩) (g := (mkF m 51 #[.val (.ref a), .val (.int (3 : Int32)), .val (.ref o), .val (.int (1 : Int32)), .val (.int (2 : Int32))] [(.int (own_cpt (([c0, c1, c2] : List Int32).take 3) 2)), (.int (1 : Int32)), (.ref o)])) rfl rfl (hb hby d_m10_51)
      refine own_go st265 ?_
      have N265 := Fr.snoc X265 N263 g_o
      have V265 : Arv Z h265 o ko .int (3 : Int32) [(.int (own_cpt (([c0, c1, c2] : List Int32).take 3) 0)), (.int (own_cpt (([c0, c1, c2] : List Int32).take 3) 2)), (.int (0 : Int32))] (.int (0 : Int32)) := Arv.set A264 q264 S264 M264 Hs264 Gs264 rfl W265 1 rfl (Nat.le_of_ble_eq_true rfl)
      show own_Go p e below (T265.setTop (mkF m 52 #[.val (.ref a), .val (.int (3 : Int32)), .val (.ref o), .val (.int (1 : Int32)), .val (.int (2 : Int32))] [])) _
      refine own_go (fun _ k => XS.iload X265.here hx rfl (hb hby d_m10_52) rfl k) ?_
      show own_Go p e below (T265.setTop (mkF m 54 #[.val (.ref a), .val (.int (3 : Int32)), .val (.ref o), .val (.int (1 : Int32)), .val (.int (2 : Int32))] [(.int (2 : Int32))])) _
      refine own_go (fun _ k => XS.aloadN X265.here hx rfl (hb hby d_m10_54) rfl rfl k) ?_
      show own_Go p e below (T265.setTop (mkF m 55 #[.val (.ref a), .val (.int (3 : Int32)), .val (.ref o), .val (.int (1 : Int32)), .val (.int (2 : Int32))] [(.ref a), (.int (2 : Int32))])) _
      refine own_go (fun _ k => XS.iloadN X265.here hx rfl (hb hby d_m10_55) rfl k) ?_
      show own_Go p e below (T265.setTop (mkF m 56 #[.val (.ref a), .val (.int (3 : Int32)), .val (.ref o), .val (.int (1 : Int32)), .val (.int (2 : Int32))] [(.int (3 : Int32)), (.ref a), (.int (2 : Int32))])) _
      refine own_go (fun _ k => XS.iload X265.here hx rfl (hb hby d_m10_56) rfl k) ?_
      show own_Go p e below (T265.setTop (mkF m 58 #[.val (.ref a), .val (.int (3 : Int32)), .val (.ref o), .val (.int (1 : Int32)), .val (.int (2 : Int32))] [(.int (2 : Int32)), (.int (3 : Int32)), (.ref a), (.int (2 : Int32))])) _
      have f266 := ((V_a.other W249 hao).other W265 hao)
      have f267 := ((O0.wr W249 g_o).wr W265 g_o)
      obtain ⟨v268, _, ⟨T268, L268, k268, n268⟩, -, X268, ⟨Lc268, hQ268, l268, y268, z268⟩, st268⟩ := Jvm.LawKit.callS X265 hx (y := (⟨"com/example/rolelattice/rolelattice/decision/CodePointsComparePinLaw", "width", "([CII)I"⟩ : MethodName)) hown (mvT hZ (hw _ (List.mem_of_getElem? (i := 101) rfl))) (mvT hZ (hw _ (List.mem_of_getElem? (i := 102) rfl))) (mvT hZ (hw _ (List.mem_of_getElem? (i := 2) rfl))) (mvT hZ (hw _ (List.mem_of_getElem? (i := 103) rfl))) (by decide) (backOf (W := 1) (rm_wid l Z a0 hw [] a ka c0 c1 c2 3 2 h265 n0 f267 f266 (by decide) (by decide)) hZ (hw _ (List.mem_of_getElem? (i := 103) rfl)) (hw _ (List.mem_of_getElem? (i := 2) rfl)) (by decide) (by decide)) (g := (mkF m 58 #[.val (.ref a), .val (.int (3 : Int32)), .val (.ref o), .val (.int (1 : Int32)), .val (.int (2 : Int32))] [(.int (2 : Int32)), (.int (3 : Int32)), (.ref a), (.int (2 : Int32))])) rfl (by rw [hml]; rfl) (argsL := [(.ref a), (.int (3 : Int32)), (.int (2 : Int32))]) (rest := [(.int (2 : Int32))]) (lenOf pd_19 rfl) rfl (by show 2 * 0 + _ ≤ _; exact Nat.le_of_eq rfl) (hb hby d_m10_58) (fun _ _ => ⟨rfl, e265, (by decide : 0 + 0 ≤ _), (by decide : 0 + 0 ≤ _)⟩)
      dsimp only [Pt.U, Pt.locs, Pt.cells, Pt.slots] at X268 l268 y268 z268 st268 hQ268
      subst l268 y268 z268
      refine own_go st268 ?_
      obtain ⟨rfl, Nq268, e268⟩ := hQ268
      have N268 := Fr.app N265 Nq268
      show own_Go p e below (T268.setTop (mkF m 61 #[.val (.ref a), .val (.int (3 : Int32)), .val (.ref o), .val (.int (1 : Int32)), .val (.int (2 : Int32))] [(.int (Int32.ofNat (own_w (([c0, c1, c2] : List Int32).take 3) 2))), (.int (2 : Int32))])) _
      have qw2 : own_w (([c0, c1, c2] : List Int32).take 3) 2 = 1 := own_wl1 (Nat.not_lt.mpr (Nat.le_of_ble_eq_true rfl))
      rw [qw2]
      show own_Go p e below (T268.setTop (mkF m 61 #[.val (.ref a), .val (.int (3 : Int32)), .val (.ref o), .val (.int (1 : Int32)), .val (.int (2 : Int32))] [(.int (1 : Int32)), (.int (2 : Int32))])) _
      refine own_go (fun _ k => XS.iadd X268.here hx rfl (hb hby d_m10_61) rfl k) ?_
      show own_Go p e below (T268.setTop (mkF m 62 #[.val (.ref a), .val (.int (3 : Int32)), .val (.ref o), .val (.int (1 : Int32)), .val (.int (2 : Int32))] [(.int (3 : Int32))])) _
      refine own_go (fun _ k => XS.istore X268.here hx rfl (hb hby d_m10_62) rfl (l' := #[.val (.ref a), .val (.int (3 : Int32)), .val (.ref o), .val (.int (1 : Int32)), .val (.int (3 : Int32))]) rfl k) ?_
      show own_Go p e below (T268.setTop (mkF m 64 #[.val (.ref a), .val (.int (3 : Int32)), .val (.ref o), .val (.int (1 : Int32)), .val (.int (3 : Int32))] [])) _
      show own_Go p e below (T268.setTop (mkF m 64 #[.val (.ref a), .val (.int (3 : Int32)), .val (.ref o), .val (.int (1 : Int32)), .val (.int (3 : Int32))] [])) _
      refine own_go (fun _ k => XS.iinc X268.here hx rfl (hb hby d_m10_64) rfl (l' := #[.val (.ref a), .val (.int (3 : Int32)), .val (.ref o), .val (.int (2 : Int32)), .val (.int (3 : Int32))]) rfl k) ?_
      show own_Go p e below (T268.setTop (mkF m 67 #[.val (.ref a), .val (.int (3 : Int32)), .val (.ref o), .val (.int (2 : Int32)), .val (.int (3 : Int32))] [])) _
      show own_Go p e below (T268.setTop (mkF m 67 #[.val (.ref a), .val (.int (3 : Int32)), .val (.ref o), .val (.int (2 : Int32)), .val (.int (3 : Int32))] [])) _
      refine own_go (fun _ k => XS.iload X268.here hx rfl (hb hby d_m10_67) rfl k) ?_
      show own_Go p e below (T268.setTop (mkF m 69 #[.val (.ref a), .val (.int (3 : Int32)), .val (.ref o), .val (.int (2 : Int32)), .val (.int (3 : Int32))] [(.int (3 : Int32))])) _
      refine own_go (fun _ k => XS.iloadN X268.here hx rfl (hb hby d_m10_69) rfl k) ?_
      show own_Go p e below (T268.setTop (mkF m 70 #[.val (.ref a), .val (.int (3 : Int32)), .val (.ref o), .val (.int (2 : Int32)), .val (.int (3 : Int32))] [(.int (3 : Int32)), (.int (3 : Int32))])) _
      refine own_go (fun _ k => XS.icmpYes X268.here hx rfl (pc0 := 70) (pc' := 98) rfl (hb hby d_m10_70) rfl (flt (by decide : ¬ ((3 : Int32) < (3 : Int32)))).2.1 (by decide) (by decide) k) ?_
      show own_Go p e below (T268.setTop (mkF m 98 #[.val (.ref a), .val (.int (3 : Int32)), .val (.ref o), .val (.int (2 : Int32)), .val (.int (3 : Int32))] [])) _
      show own_Go p e below (T268.setTop (mkF m 98 #[.val (.ref a), .val (.int (3 : Int32)), .val (.ref o), .val (.int (2 : Int32)), .val (.int (3 : Int32))] [])) _
      refine own_go (fun _ k => XS.iloadN X268.here hx rfl (hb hby d_m10_98) rfl k) ?_
      show own_Go p e below (T268.setTop (mkF m 99 #[.val (.ref a), .val (.int (3 : Int32)), .val (.ref o), .val (.int (2 : Int32)), .val (.int (3 : Int32))] [(.int (2 : Int32))])) _
      have f269 := (((Keep.refl h0 [o]).wr W249 (Or.inl (List.mem_of_getElem? (i := 0) rfl))).wr W265 (Or.inl (List.mem_of_getElem? (i := 0) rfl)))
      refine own_fin (v := (some (.int (2 : Int32)))) X268 (fun h => by rw [hrt] at h; cases h) hlk (fun fs hr => retI X268 hx hrt (hb hby d_m10_99) hr) (QQ := QDec Z o ko (([c0, c1, c2] : List Int32).take 3) h0 n0) ?_ (by decide) (by decide)
      rw [e268]
      exact ⟨([(own_cpt (([c0, c1, c2] : List Int32).take 3) 0), (own_cpt (([c0, c1, c2] : List Int32).take 3) 2)] : List Int32), Eq.symm (own_T_step (j := 2) (Nat.le_of_ble_eq_true rfl) qw0 rfl (own_T_step (j := 3) (Nat.le_of_ble_eq_true rfl) qw2 rfl (own_T_ge (Nat.not_lt.mpr (Nat.le_of_ble_eq_true rfl))))), rfl, N268, f269, Nat.le_of_ble_eq_true rfl, V265⟩

theorem own_padl {rs : List Int32} (h : rs.length ≤ 3) : (own_pad rs).length = 3 := by unfold own_pad; rw [List.length_append, List.length_replicate]; omega
theorem own_padg {rs : List Int32} (h : rs.length ≤ 3) (j : Nat) (hj : j < 3) : ((own_pad rs).map Value.int).getD j (.int (0 : Int32)) = Value.int ((own_pad rs).getD j 0) := by simp [List.getD_eq_getElem?_getD, own_padl h, hj]
theorem d_m12_0 : decode method_12_code 0 = .ok (.iload_n 1, 1) := by decide +kernel
theorem d_m12_1 : decode method_12_code 1 = .ok (.ifCond .eq 7, 3) := by decide +kernel
theorem d_m12_8 : decode method_12_code 8 = .ok (.iload_n 1, 1) := by decide +kernel
theorem d_m12_9 : decode method_12_code 9 = .ok (.iload_n 3, 1) := by decide +kernel
theorem d_m12_10 : decode method_12_code 10 = .ok (.isub, 1) := by decide +kernel
theorem d_m12_11 : decode method_12_code 11 = .ok (.invokestatic 33, 3) := by decide +kernel
theorem d_m12_14 : decode method_12_code 14 = .ok (.ireturn, 1) := by decide +kernel
theorem d_m12_4 : decode method_12_code 4 = .ok (.iload_n 3, 1) := by decide +kernel
theorem d_m12_5 : decode method_12_code 5 = .ok (.ifCond .ne 10, 3) := by decide +kernel
theorem d_m12_15 : decode method_12_code 15 = .ok (.aload_n 0, 1) := by decide +kernel
theorem d_m12_16 : decode method_12_code 16 = .ok (.iconst 0, 1) := by decide +kernel
theorem d_m12_17 : decode method_12_code 17 = .ok (.iaload, 1) := by decide +kernel
theorem d_m12_18 : decode method_12_code 18 = .ok (.aload_n 2, 1) := by decide +kernel
theorem d_m12_19 : decode method_12_code 19 = .ok (.iconst 0, 1) := by decide +kernel
theorem d_m12_20 : decode method_12_code 20 = .ok (.iaload, 1) := by decide +kernel
theorem d_m12_21 : decode method_12_code 21 = .ok (.if_icmp .eq 18, 3) := by decide +kernel
theorem d_m12_39 : decode method_12_code 39 = .ok (.iload_n 1, 1) := by decide +kernel
theorem d_m12_40 : decode method_12_code 40 = .ok (.iconst 1, 1) := by decide +kernel
theorem d_m12_41 : decode method_12_code 41 = .ok (.if_icmp .eq 8, 3) := by decide +kernel
theorem d_m12_49 : decode method_12_code 49 = .ok (.iload_n 1, 1) := by decide +kernel
theorem d_m12_50 : decode method_12_code 50 = .ok (.iload_n 3, 1) := by decide +kernel
theorem d_m12_51 : decode method_12_code 51 = .ok (.isub, 1) := by decide +kernel
theorem d_m12_52 : decode method_12_code 52 = .ok (.invokestatic 33, 3) := by decide +kernel
theorem d_m12_55 : decode method_12_code 55 = .ok (.ireturn, 1) := by decide +kernel
theorem d_m12_44 : decode method_12_code 44 = .ok (.iload_n 3, 1) := by decide +kernel
theorem d_m12_45 : decode method_12_code 45 = .ok (.iconst 1, 1) := by decide +kernel
theorem d_m12_46 : decode method_12_code 46 = .ok (.if_icmp .ne 10, 3) := by decide +kernel
theorem d_m12_56 : decode method_12_code 56 = .ok (.aload_n 0, 1) := by decide +kernel
theorem d_m12_57 : decode method_12_code 57 = .ok (.iconst 1, 1) := by decide +kernel
theorem d_m12_58 : decode method_12_code 58 = .ok (.iaload, 1) := by decide +kernel
theorem d_m12_59 : decode method_12_code 59 = .ok (.aload_n 2, 1) := by decide +kernel
theorem d_m12_60 : decode method_12_code 60 = .ok (.iconst 1, 1) := by decide +kernel
theorem d_m12_61 : decode method_12_code 61 = .ok (.iaload, 1) := by decide +kernel
theorem d_m12_62 : decode method_12_code 62 = .ok (.if_icmp .eq 18, 3) := by decide +kernel
theorem d_m12_80 : decode method_12_code 80 = .ok (.iload_n 1, 1) := by decide +kernel
theorem d_m12_81 : decode method_12_code 81 = .ok (.iconst 2, 1) := by decide +kernel
theorem d_m12_82 : decode method_12_code 82 = .ok (.if_icmp .eq 8, 3) := by decide +kernel
theorem d_m12_90 : decode method_12_code 90 = .ok (.iload_n 1, 1) := by decide +kernel
theorem d_m12_91 : decode method_12_code 91 = .ok (.iload_n 3, 1) := by decide +kernel
theorem d_m12_92 : decode method_12_code 92 = .ok (.isub, 1) := by decide +kernel
theorem d_m12_93 : decode method_12_code 93 = .ok (.invokestatic 33, 3) := by decide +kernel
theorem d_m12_96 : decode method_12_code 96 = .ok (.ireturn, 1) := by decide +kernel
theorem d_m12_85 : decode method_12_code 85 = .ok (.iload_n 3, 1) := by decide +kernel
theorem d_m12_86 : decode method_12_code 86 = .ok (.iconst 2, 1) := by decide +kernel
theorem d_m12_87 : decode method_12_code 87 = .ok (.if_icmp .ne 10, 3) := by decide +kernel
theorem d_m12_97 : decode method_12_code 97 = .ok (.aload_n 0, 1) := by decide +kernel
theorem d_m12_98 : decode method_12_code 98 = .ok (.iconst 2, 1) := by decide +kernel
theorem d_m12_99 : decode method_12_code 99 = .ok (.iaload, 1) := by decide +kernel
theorem d_m12_100 : decode method_12_code 100 = .ok (.aload_n 2, 1) := by decide +kernel
theorem d_m12_101 : decode method_12_code 101 = .ok (.iconst 2, 1) := by decide +kernel
theorem d_m12_102 : decode method_12_code 102 = .ok (.iaload, 1) := by decide +kernel
theorem d_m12_103 : decode method_12_code 103 = .ok (.if_icmp .eq 18, 3) := by decide +kernel
theorem d_m12_121 : decode method_12_code 121 = .ok (.iconst 0, 1) := by decide +kernel
theorem d_m12_122 : decode method_12_code 122 = .ok (.ireturn, 1) := by decide +kernel
theorem d_m12_106 : decode method_12_code 106 = .ok (.aload_n 0, 1) := by decide +kernel
theorem d_m12_107 : decode method_12_code 107 = .ok (.iconst 2, 1) := by decide +kernel
theorem d_m12_108 : decode method_12_code 108 = .ok (.iaload, 1) := by decide +kernel
theorem d_m12_109 : decode method_12_code 109 = .ok (.aload_n 2, 1) := by decide +kernel
theorem d_m12_110 : decode method_12_code 110 = .ok (.iconst 2, 1) := by decide +kernel
theorem d_m12_111 : decode method_12_code 111 = .ok (.iaload, 1) := by decide +kernel
theorem d_m12_112 : decode method_12_code 112 = .ok (.if_icmp .ge 7, 3) := by decide +kernel
theorem d_m12_115 : decode method_12_code 115 = .ok (.iconst (-1), 1) := by decide +kernel
theorem d_m12_116 : decode method_12_code 116 = .ok (.goto 4, 3) := by decide +kernel
theorem d_m12_120 : decode method_12_code 120 = .ok (.ireturn, 1) := by decide +kernel
theorem d_m12_119 : decode method_12_code 119 = .ok (.iconst 1, 1) := by decide +kernel
theorem d_m12_65 : decode method_12_code 65 = .ok (.aload_n 0, 1) := by decide +kernel
theorem d_m12_66 : decode method_12_code 66 = .ok (.iconst 1, 1) := by decide +kernel
theorem d_m12_67 : decode method_12_code 67 = .ok (.iaload, 1) := by decide +kernel
theorem d_m12_68 : decode method_12_code 68 = .ok (.aload_n 2, 1) := by decide +kernel
theorem d_m12_69 : decode method_12_code 69 = .ok (.iconst 1, 1) := by decide +kernel
theorem d_m12_70 : decode method_12_code 70 = .ok (.iaload, 1) := by decide +kernel
theorem d_m12_71 : decode method_12_code 71 = .ok (.if_icmp .ge 7, 3) := by decide +kernel
theorem d_m12_74 : decode method_12_code 74 = .ok (.iconst (-1), 1) := by decide +kernel
theorem d_m12_75 : decode method_12_code 75 = .ok (.goto 4, 3) := by decide +kernel
theorem d_m12_79 : decode method_12_code 79 = .ok (.ireturn, 1) := by decide +kernel
theorem d_m12_78 : decode method_12_code 78 = .ok (.iconst 1, 1) := by decide +kernel
theorem d_m12_24 : decode method_12_code 24 = .ok (.aload_n 0, 1) := by decide +kernel
theorem d_m12_25 : decode method_12_code 25 = .ok (.iconst 0, 1) := by decide +kernel
theorem d_m12_26 : decode method_12_code 26 = .ok (.iaload, 1) := by decide +kernel
theorem d_m12_27 : decode method_12_code 27 = .ok (.aload_n 2, 1) := by decide +kernel
theorem d_m12_28 : decode method_12_code 28 = .ok (.iconst 0, 1) := by decide +kernel
theorem d_m12_29 : decode method_12_code 29 = .ok (.iaload, 1) := by decide +kernel
theorem d_m12_30 : decode method_12_code 30 = .ok (.if_icmp .ge 7, 3) := by decide +kernel
theorem d_m12_33 : decode method_12_code 33 = .ok (.iconst (-1), 1) := by decide +kernel
theorem d_m12_34 : decode method_12_code 34 = .ok (.goto 4, 3) := by decide +kernel
theorem d_m12_38 : decode method_12_code 38 = .ok (.ireturn, 1) := by decide +kernel
theorem d_m12_37 : decode method_12_code 37 = .ok (.iconst 1, 1) := by decide +kernel
theorem ef_rm_cs (m : MethodId) (x0 : Addr) (x1 : Int32) (x2 : Addr) (x3 : Int32) : entryFrame m #[(.ref x0), (.int x1), (.ref x2), (.int x3)] 4 = mkF m 0 #[.val (.ref x0), .val (.int x1), .val (.ref x2), .val (.int x3)] [] := by
   first | (simp [entryFrame, mkF, argsToLocals, Value.category]; done) | rfl
set_option maxRecDepth 65536 in
set_option maxHeartbeats 40000000 in
theorem rm_cs (l : Launch) (Z : State) (a0 : Array Value) (hw : ∀ d ∈ tables_1, d.before a0 Z = true) (ws : List Jvm.Cond) (x : Addr) (kx : ClassId) (y : Addr) (ky : ClassId) (rs : List Int32) (ss : List Int32) (h0 : Heap) (n0 : Nat) (O0 : Old Z n0 h0) (V_x : Arv Z h0 x kx .int (3 : Int32) ((own_pad rs).map Value.int) (.int (0 : Int32))) (V_y : Arv Z h0 y ky .int (3 : Int32) ((own_pad ss).map Value.int) (.int (0 : Int32))) (hr : rs.length ≤ 3) (hs : ss.length ≤ 3) :
    MetFree l (⟨"com/example/rolelattice/rolelattice/decision/CodePointsComparePinLaw", "cmpSeq", "([II[II)I"⟩ : MethodName) (head1 (Jvm.Cond.code (⟨"com/example/rolelattice/rolelattice/decision/CodePointsComparePinLaw", "cmpSeq", "([II[II)I"⟩ : MethodName) method_12_code 4 (some .int) :: ws) ({ frames := 1, cells := 0, slots := 0, locals := 12 } : Room)) (fun aA U => aA = #[(.ref x), (.int (Int32.ofNat rs.length)), (.ref y), (.int (Int32.ofNat ss.length))] ∧ Z.Warmed39 U.vm ∧ U.heap = h0) (fun _ _ _ _ _ => True) (fun _ U oO U' => ∃ rV rL, oO = .returned rV ∧ QPure (some (.int (own_lex rs ss))) h0 n0 rV U'.heap rL ∧ FrameEnd U oO U' rL 0 0) := by
  refine MetFree.of_bodySF (plainFor_of_name pn_3) hisR ?_
  intro p e s m args below meth cC s₁ Bd hml0 hP hK
  obtain ⟨rfl, hZ, hh⟩ := hP
  have hx := Bd.exec
  have hby := Bd.bytes
  have hml : cC.maxLocals = 4 := hml0
  have hown : s.vm.findClass "com/example/rolelattice/rolelattice/decision/CodePointsComparePinLaw" = some m.cls := findClass_of_methodNamed Bd.named
  have hnm := (name_of_methodNamed Bd.named Bd.method).1
  have hrt := Bd.returns
  have hlk : meth.locks = false := Bd.notSynchronized
  have X0 : Stand p l e ({ frames := 1, cells := 0, slots := 0, locals := 12 } : Room) s m #[(.ref x), (.int (Int32.ofNat rs.length)), (.ref y), (.int (Int32.ofNat ss.length))] below meth cC s₁ [] 0 0 := Stand.of_body Bd
  have e0 : s₁.heap = h0 := by rw [← hh, Bd.state]; rfl
  have N0 := Fr.nil n0
  have Z0 : n0 ≤ h0.size := O0.1 ▸ O0.2.1
  show own_Go p e below (s₁.setTop (entryFrame m #[(.ref x), (.int (Int32.ofNat rs.length)), (.ref y), (.int (Int32.ofNat ss.length))] 4)) (fun oO U' => ∃ rV rL, oO = .returned rV ∧ QPure (some (.int (own_lex rs ss))) h0 n0 rV U'.heap rL ∧ FrameEnd s oO U' rL 0 0)
  refine own_go (fun _ k => castTop (ef_rm_cs m x _ y _) k) ?_
  show own_Go p e below (s₁.setTop (mkF m 0 #[.val (.ref x), .val (.int (Int32.ofNat rs.length)), .val (.ref y), .val (.int (Int32.ofNat ss.length))] [])) _
  refine own_go (fun _ k => XS.iloadN X0.here hx rfl (hb hby d_m12_0) rfl k) ?_
  show own_Go p e below (s₁.setTop (mkF m 1 #[.val (.ref x), .val (.int (Int32.ofNat rs.length)), .val (.ref y), .val (.int (Int32.ofNat ss.length))] [(.int (Int32.ofNat rs.length))])) _
  by_cases hc270 : (Int32.ofNat rs.length) = (0 : Int32)
  · skip
    refine own_go (fun _ k => XS.ifYes X0.here hx rfl (pc0 := 1) (pc' := 8) rfl (hb hby d_m12_1) rfl ((if0 _ _).trans (teq hc270).1) (by decide) (by decide) k) ?_
    show own_Go p e below (s₁.setTop (mkF m 8 #[.val (.ref x), .val (.int (Int32.ofNat rs.length)), .val (.ref y), .val (.int (Int32.ofNat ss.length))] [])) _
    refine own_go (fun _ k => XS.iloadN X0.here hx rfl (hb hby d_m12_8) rfl k) ?_
    show own_Go p e below (s₁.setTop (mkF m 9 #[.val (.ref x), .val (.int (Int32.ofNat rs.length)), .val (.ref y), .val (.int (Int32.ofNat ss.length))] [(.int (Int32.ofNat rs.length))])) _
    refine own_go (fun _ k => XS.iloadN X0.here hx rfl (hb hby d_m12_9) rfl k) ?_
    show own_Go p e below (s₁.setTop (mkF m 10 #[.val (.ref x), .val (.int (Int32.ofNat rs.length)), .val (.ref y), .val (.int (Int32.ofNat ss.length))] [(.int (Int32.ofNat ss.length)), (.int (Int32.ofNat rs.length))])) _
    refine own_go (fun _ k => XS.isub X0.here hx rfl (hb hby d_m12_10) rfl k) ?_
    show own_Go p e below (s₁.setTop (mkF m 11 #[.val (.ref x), .val (.int (Int32.ofNat rs.length)), .val (.ref y), .val (.int (Int32.ofNat ss.length))] [(.int ((Int32.ofNat rs.length) - (Int32.ofNat ss.length)))])) _
    obtain ⟨v271, _, ⟨T271, L271, k271, n271⟩, -, X271, ⟨Lc271, hQ271, l271, y271, z271⟩, st271⟩ := Jvm.LawKit.callS X0 hx (y := (⟨"com/example/rolelattice/rolelattice/decision/CodePointsComparePinLaw", "sign", "(I)I"⟩ : MethodName)) hown (mvT hZ (hw _ (List.mem_of_getElem? (i := 57) rfl))) (mvT hZ (hw _ (List.mem_of_getElem? (i := 58) rfl))) (mvT hZ (hw _ (List.mem_of_getElem? (i := 2) rfl))) (mvT hZ (hw _ (List.mem_of_getElem? (i := 59) rfl))) (by decide) (backOf (W := 0) (rm_sg l Z a0 hw [] ((Int32.ofNat rs.length) - (Int32.ofNat ss.length)) h0 n0 O0 ) hZ (hw _ (List.mem_of_getElem? (i := 59) rfl)) (hw _ (List.mem_of_getElem? (i := 2) rfl)) (by decide) (by decide)) (g := (mkF m 11 #[.val (.ref x), .val (.int (Int32.ofNat rs.length)), .val (.ref y), .val (.int (Int32.ofNat ss.length))] [(.int ((Int32.ofNat rs.length) - (Int32.ofNat ss.length)))])) rfl (by rw [hml]; rfl) (argsL := [(.int ((Int32.ofNat rs.length) - (Int32.ofNat ss.length)))]) (rest := []) (lenOf pd_1 rfl) rfl (by show 2 * 0 + _ ≤ _; exact Nat.le_of_eq rfl) (hb hby d_m12_11) (fun _ _ => ⟨rfl, e0, (by decide : 0 + 0 ≤ _), (by decide : 0 + 0 ≤ _)⟩)
    dsimp only [Pt.U, Pt.locs, Pt.cells, Pt.slots] at X271 l271 y271 z271 st271 hQ271
    subst l271 y271 z271
    refine own_go st271 ?_
    obtain ⟨rfl, Nq271, e271⟩ := hQ271
    have N271 := Fr.app N0 Nq271
    show own_Go p e below (T271.setTop (mkF m 14 #[.val (.ref x), .val (.int (Int32.ofNat rs.length)), .val (.ref y), .val (.int (Int32.ofNat ss.length))] [(.int (own_sg ((Int32.ofNat rs.length) - (Int32.ofNat ss.length))))])) _
    refine own_fin (v := (some (.int (own_sg ((Int32.ofNat rs.length) - (Int32.ofNat ss.length)))))) X271 (fun h => by rw [hrt] at h; cases h) hlk (fun fs hr => retI X271 hx hrt (hb hby d_m12_14) hr) (QQ := QPure (some (.int (own_lex rs ss))) h0 n0) ?_ (by decide) (by decide)
    rw [e271]
    exact ⟨congrArg (fun z => some (Value.int z)) ((by unfold own_cq; rw [if_pos hc270] : (own_sg ((Int32.ofNat rs.length) - (Int32.ofNat ss.length))) = own_cq rs ss).trans (own_cq_lex hr hs)), N271, rfl⟩
  · skip
    refine own_go (fun _ k => XS.ifNo X0.here hx rfl (hb hby d_m12_1) rfl ((if0 _ _).trans (feq hc270).1) k) ?_
    show own_Go p e below (s₁.setTop (mkF m 4 #[.val (.ref x), .val (.int (Int32.ofNat rs.length)), .val (.ref y), .val (.int (Int32.ofNat ss.length))] [])) _
    refine own_go (fun _ k => XS.iloadN X0.here hx rfl (hb hby d_m12_4) rfl k) ?_
    show own_Go p e below (s₁.setTop (mkF m 5 #[.val (.ref x), .val (.int (Int32.ofNat rs.length)), .val (.ref y), .val (.int (Int32.ofNat ss.length))] [(.int (Int32.ofNat ss.length))])) _
    by_cases hc272 : (Int32.ofNat ss.length) = (0 : Int32)
    · skip
      refine own_go (fun _ k => XS.ifNo X0.here hx rfl (hb hby d_m12_5) rfl ((if0 _ _).trans (teq hc272).2) k) ?_
      show own_Go p e below (s₁.setTop (mkF m 8 #[.val (.ref x), .val (.int (Int32.ofNat rs.length)), .val (.ref y), .val (.int (Int32.ofNat ss.length))] [])) _
      refine own_go (fun _ k => XS.iloadN X0.here hx rfl (hb hby d_m12_8) rfl k) ?_
      show own_Go p e below (s₁.setTop (mkF m 9 #[.val (.ref x), .val (.int (Int32.ofNat rs.length)), .val (.ref y), .val (.int (Int32.ofNat ss.length))] [(.int (Int32.ofNat rs.length))])) _
      refine own_go (fun _ k => XS.iloadN X0.here hx rfl (hb hby d_m12_9) rfl k) ?_
      show own_Go p e below (s₁.setTop (mkF m 10 #[.val (.ref x), .val (.int (Int32.ofNat rs.length)), .val (.ref y), .val (.int (Int32.ofNat ss.length))] [(.int (Int32.ofNat ss.length)), (.int (Int32.ofNat rs.length))])) _
      refine own_go (fun _ k => XS.isub X0.here hx rfl (hb hby d_m12_10) rfl k) ?_
      show own_Go p e below (s₁.setTop (mkF m 11 #[.val (.ref x), .val (.int (Int32.ofNat rs.length)), .val (.ref y), .val (.int (Int32.ofNat ss.length))] [(.int ((Int32.ofNat rs.length) - (Int32.ofNat ss.length)))])) _
      obtain ⟨v273, _, ⟨T273, L273, k273, n273⟩, -, X273, ⟨Lc273, hQ273, l273, y273, z273⟩, st273⟩ := Jvm.LawKit.callS X0 hx (y := (⟨"com/example/rolelattice/rolelattice/decision/CodePointsComparePinLaw", "sign", "(I)I"⟩ : MethodName)) hown (mvT hZ (hw _ (List.mem_of_getElem? (i := 57) rfl))) (mvT hZ (hw _ (List.mem_of_getElem? (i := 58) rfl))) (mvT hZ (hw _ (List.mem_of_getElem? (i := 2) rfl))) (mvT hZ (hw _ (List.mem_of_getElem? (i := 59) rfl))) (by decide) (backOf (W := 0) (rm_sg l Z a0 hw [] ((Int32.ofNat rs.length) - (Int32.ofNat ss.length)) h0 n0 O0 ) hZ (hw _ (List.mem_of_getElem? (i := 59) rfl)) (hw _ (List.mem_of_getElem? (i := 2) rfl)) (by decide) (by decide)) (g := (mkF m 11 #[.val (.ref x), .val (.int (Int32.ofNat rs.length)), .val (.ref y), .val (.int (Int32.ofNat ss.length))] [(.int ((Int32.ofNat rs.length) - (Int32.ofNat ss.length)))])) rfl (by rw [hml]; rfl) (argsL := [(.int ((Int32.ofNat rs.length) - (Int32.ofNat ss.length)))]) (rest := []) (lenOf pd_1 rfl) rfl (by show 2 * 0 + _ ≤ _; exact Nat.le_of_eq rfl) (hb hby d_m12_11) (fun _ _ => ⟨rfl, e0, (by decide : 0 + 0 ≤ _), (by decide : 0 + 0 ≤ _)⟩)
      dsimp only [Pt.U, Pt.locs, Pt.cells, Pt.slots] at X273 l273 y273 z273 st273 hQ273
      subst l273 y273 z273
      refine own_go st273 ?_
      obtain ⟨rfl, Nq273, e273⟩ := hQ273
      have N273 := Fr.app N0 Nq273
      show own_Go p e below (T273.setTop (mkF m 14 #[.val (.ref x), .val (.int (Int32.ofNat rs.length)), .val (.ref y), .val (.int (Int32.ofNat ss.length))] [(.int (own_sg ((Int32.ofNat rs.length) - (Int32.ofNat ss.length))))])) _
      refine own_fin (v := (some (.int (own_sg ((Int32.ofNat rs.length) - (Int32.ofNat ss.length)))))) X273 (fun h => by rw [hrt] at h; cases h) hlk (fun fs hr => retI X273 hx hrt (hb hby d_m12_14) hr) (QQ := QPure (some (.int (own_lex rs ss))) h0 n0) ?_ (by decide) (by decide)
      rw [e273]
      exact ⟨congrArg (fun z => some (Value.int z)) ((by unfold own_cq; rw [if_neg hc270, if_pos hc272] : (own_sg ((Int32.ofNat rs.length) - (Int32.ofNat ss.length))) = own_cq rs ss).trans (own_cq_lex hr hs)), N273, rfl⟩
    · skip
      refine own_go (fun _ k => XS.ifYes X0.here hx rfl (pc0 := 5) (pc' := 15) rfl (hb hby d_m12_5) rfl ((if0 _ _).trans (feq hc272).2) (by decide) (by decide) k) ?_
      show own_Go p e below (s₁.setTop (mkF m 15 #[.val (.ref x), .val (.int (Int32.ofNat rs.length)), .val (.ref y), .val (.int (Int32.ofNat ss.length))] [])) _
      refine own_go (fun _ k => XS.aloadN X0.here hx rfl (hb hby d_m12_15) rfl rfl k) ?_
      show own_Go p e below (s₁.setTop (mkF m 16 #[.val (.ref x), .val (.int (Int32.ofNat rs.length)), .val (.ref y), .val (.int (Int32.ofNat ss.length))] [(.ref x)])) _
      refine own_go (fun _ k => XS.iconst X0.here hx rfl (hb hby d_m12_16) k) ?_
      show own_Go p e below (s₁.setTop (mkF m 17 #[.val (.ref x), .val (.int (Int32.ofNat rs.length)), .val (.ref y), .val (.int (Int32.ofNat ss.length))] [(.int (0 : Int32)), (.ref x)])) _
      obtain ⟨c274, A274, q274, S274, M274, Hs274, Gs274⟩ := id V_x
      have hi274 := inb_of (j := (0 : Int32)) S274 ⟨by decide, by decide⟩
      refine own_go (fun _ k => X0.iaload hx (j := (0 : Int32)) (v := (.int ((own_pad rs).getD 0 0))) (by rw [e0]; exact A274.1) (State.isArrayOf_alike hZ.alike A274.2.1) A274.2.2 hi274 (Has.at Hs274 hi274 (own_padg hr 0 (by decide))) (g := (mkF m 17 #[.val (.ref x), .val (.int (Int32.ofNat rs.length)), .val (.ref y), .val (.int (Int32.ofNat ss.length))] [(.int (0 : Int32)), (.ref x)])) rfl rfl (hb hby d_m12_17) _ k) ?_
      show own_Go p e below (s₁.setTop (mkF m 18 #[.val (.ref x), .val (.int (Int32.ofNat rs.length)), .val (.ref y), .val (.int (Int32.ofNat ss.length))] [(.int ((own_pad rs).getD 0 0))])) _
      refine own_go (fun _ k => XS.aloadN X0.here hx rfl (hb hby d_m12_18) rfl rfl k) ?_
      show own_Go p e below (s₁.setTop (mkF m 19 #[.val (.ref x), .val (.int (Int32.ofNat rs.length)), .val (.ref y), .val (.int (Int32.ofNat ss.length))] [(.ref y), (.int ((own_pad rs).getD 0 0))])) _
      refine own_go (fun _ k => XS.iconst X0.here hx rfl (hb hby d_m12_19) k) ?_
      show own_Go p e below (s₁.setTop (mkF m 20 #[.val (.ref x), .val (.int (Int32.ofNat rs.length)), .val (.ref y), .val (.int (Int32.ofNat ss.length))] [(.int (0 : Int32)), (.ref y), (.int ((own_pad rs).getD 0 0))])) _
      obtain ⟨c275, A275, q275, S275, M275, Hs275, Gs275⟩ := id V_y
      have hi275 := inb_of (j := (0 : Int32)) S275 ⟨by decide, by decide⟩
      refine own_go (fun _ k => X0.iaload hx (j := (0 : Int32)) (v := (.int ((own_pad ss).getD 0 0))) (by rw [e0]; exact A275.1) (State.isArrayOf_alike hZ.alike A275.2.1) A275.2.2 hi275 (Has.at Hs275 hi275 (own_padg hs 0 (by decide))) (g := (mkF m 20 #[.val (.ref x), .val (.int (Int32.ofNat rs.length)), .val (.ref y), .val (.int (Int32.ofNat ss.length))] [(.int (0 : Int32)), (.ref y), (.int ((own_pad rs).getD 0 0))])) rfl rfl (hb hby d_m12_20) _ k) ?_
      show own_Go p e below (s₁.setTop (mkF m 21 #[.val (.ref x), .val (.int (Int32.ofNat rs.length)), .val (.ref y), .val (.int (Int32.ofNat ss.length))] [(.int ((own_pad ss).getD 0 0)), (.int ((own_pad rs).getD 0 0))])) _
      by_cases hc276 : ((own_pad rs).getD 0 0) = ((own_pad ss).getD 0 0)
      · skip
        refine own_go (fun _ k => XS.icmpYes X0.here hx rfl (pc0 := 21) (pc' := 39) rfl (hb hby d_m12_21) rfl (teq hc276).1 (by decide) (by decide) k) ?_
        show own_Go p e below (s₁.setTop (mkF m 39 #[.val (.ref x), .val (.int (Int32.ofNat rs.length)), .val (.ref y), .val (.int (Int32.ofNat ss.length))] [])) _
        refine own_go (fun _ k => XS.iloadN X0.here hx rfl (hb hby d_m12_39) rfl k) ?_
        show own_Go p e below (s₁.setTop (mkF m 40 #[.val (.ref x), .val (.int (Int32.ofNat rs.length)), .val (.ref y), .val (.int (Int32.ofNat ss.length))] [(.int (Int32.ofNat rs.length))])) _
        refine own_go (fun _ k => XS.iconst X0.here hx rfl (hb hby d_m12_40) k) ?_
        show own_Go p e below (s₁.setTop (mkF m 41 #[.val (.ref x), .val (.int (Int32.ofNat rs.length)), .val (.ref y), .val (.int (Int32.ofNat ss.length))] [(.int (1 : Int32)), (.int (Int32.ofNat rs.length))])) _
        by_cases hc277 : (Int32.ofNat rs.length) = (1 : Int32)
        · skip
          refine own_go (fun _ k => XS.icmpYes X0.here hx rfl (pc0 := 41) (pc' := 49) rfl (hb hby d_m12_41) rfl (teq hc277).1 (by decide) (by decide) k) ?_
          show own_Go p e below (s₁.setTop (mkF m 49 #[.val (.ref x), .val (.int (Int32.ofNat rs.length)), .val (.ref y), .val (.int (Int32.ofNat ss.length))] [])) _
          refine own_go (fun _ k => XS.iloadN X0.here hx rfl (hb hby d_m12_49) rfl k) ?_
          show own_Go p e below (s₁.setTop (mkF m 50 #[.val (.ref x), .val (.int (Int32.ofNat rs.length)), .val (.ref y), .val (.int (Int32.ofNat ss.length))] [(.int (Int32.ofNat rs.length))])) _
          refine own_go (fun _ k => XS.iloadN X0.here hx rfl (hb hby d_m12_50) rfl k) ?_
          show own_Go p e below (s₁.setTop (mkF m 51 #[.val (.ref x), .val (.int (Int32.ofNat rs.length)), .val (.ref y), .val (.int (Int32.ofNat ss.length))] [(.int (Int32.ofNat ss.length)), (.int (Int32.ofNat rs.length))])) _
          refine own_go (fun _ k => XS.isub X0.here hx rfl (hb hby d_m12_51) rfl k) ?_
          show own_Go p e below (s₁.setTop (mkF m 52 #[.val (.ref x), .val (.int (Int32.ofNat rs.length)), .val (.ref y), .val (.int (Int32.ofNat ss.length))] [(.int ((Int32.ofNat rs.length) - (Int32.ofNat ss.length)))])) _
          obtain ⟨v278, _, ⟨T278, L278, k278, n278⟩, -, X278, ⟨Lc278, hQ278, l278, y278, z278⟩, st278⟩ := Jvm.LawKit.callS X0 hx (y := (⟨"com/example/rolelattice/rolelattice/decision/CodePointsComparePinLaw", "sign", "(I)I"⟩ : MethodName)) hown (mvT hZ (hw _ (List.mem_of_getElem? (i := 57) rfl))) (mvT hZ (hw _ (List.mem_of_getElem? (i := 58) rfl))) (mvT hZ (hw _ (List.mem_of_getElem? (i := 2) rfl))) (mvT hZ (hw _ (List.mem_of_getElem? (i := 59) rfl))) (by decide) (backOf (W := 0) (rm_sg l Z a0 hw [] ((Int32.ofNat rs.length) - (Int32.ofNat ss.length)) h0 n0 O0 ) hZ (hw _ (List.mem_of_getElem? (i := 59) rfl)) (hw _ (List.mem_of_getElem? (i := 2) rfl)) (by decide) (by decide)) (g := (mkF m 52 #[.val (.ref x), .val (.int (Int32.ofNat rs.length)), .val (.ref y), .val (.int (Int32.ofNat ss.length))] [(.int ((Int32.ofNat rs.length) - (Int32.ofNat ss.length)))])) rfl (by rw [hml]; rfl) (argsL := [(.int ((Int32.ofNat rs.length) - (Int32.ofNat ss.length)))]) (rest := []) (lenOf pd_1 rfl) rfl (by show 2 * 0 + _ ≤ _; exact Nat.le_of_eq rfl) (hb hby d_m12_52) (fun _ _ => ⟨rfl, e0, (by decide : 0 + 0 ≤ _), (by decide : 0 + 0 ≤ _)⟩)
          dsimp only [Pt.U, Pt.locs, Pt.cells, Pt.slots] at X278 l278 y278 z278 st278 hQ278
          subst l278 y278 z278
          refine own_go st278 ?_
          obtain ⟨rfl, Nq278, e278⟩ := hQ278
          have N278 := Fr.app N0 Nq278
          show own_Go p e below (T278.setTop (mkF m 55 #[.val (.ref x), .val (.int (Int32.ofNat rs.length)), .val (.ref y), .val (.int (Int32.ofNat ss.length))] [(.int (own_sg ((Int32.ofNat rs.length) - (Int32.ofNat ss.length))))])) _
          refine own_fin (v := (some (.int (own_sg ((Int32.ofNat rs.length) - (Int32.ofNat ss.length)))))) X278 (fun h => by rw [hrt] at h; cases h) hlk (fun fs hr => retI X278 hx hrt (hb hby d_m12_55) hr) (QQ := QPure (some (.int (own_lex rs ss))) h0 n0) ?_ (by decide) (by decide)
          rw [e278]
          exact ⟨congrArg (fun z => some (Value.int z)) ((by unfold own_cq; rw [if_neg hc270, if_neg hc272, if_pos hc276, if_pos hc277] : (own_sg ((Int32.ofNat rs.length) - (Int32.ofNat ss.length))) = own_cq rs ss).trans (own_cq_lex hr hs)), N278, rfl⟩
        · skip
          refine own_go (fun _ k => XS.icmpNo X0.here hx rfl (hb hby d_m12_41) rfl (feq hc277).1 k) ?_
          show own_Go p e below (s₁.setTop (mkF m 44 #[.val (.ref x), .val (.int (Int32.ofNat rs.length)), .val (.ref y), .val (.int (Int32.ofNat ss.length))] [])) _
          refine own_go (fun _ k => XS.iloadN X0.here hx rfl (hb hby d_m12_44) rfl k) ?_
          show own_Go p e below (s₁.setTop (mkF m 45 #[.val (.ref x), .val (.int (Int32.ofNat rs.length)), .val (.ref y), .val (.int (Int32.ofNat ss.length))] [(.int (Int32.ofNat ss.length))])) _
          refine own_go (fun _ k => XS.iconst X0.here hx rfl (hb hby d_m12_45) k) ?_
          show own_Go p e below (s₁.setTop (mkF m 46 #[.val (.ref x), .val (.int (Int32.ofNat rs.length)), .val (.ref y), .val (.int (Int32.ofNat ss.length))] [(.int (1 : Int32)), (.int (Int32.ofNat ss.length))])) _
          by_cases hc279 : (Int32.ofNat ss.length) = (1 : Int32)
          · skip
            refine own_go (fun _ k => XS.icmpNo X0.here hx rfl (hb hby d_m12_46) rfl (teq hc279).2 k) ?_
            show own_Go p e below (s₁.setTop (mkF m 49 #[.val (.ref x), .val (.int (Int32.ofNat rs.length)), .val (.ref y), .val (.int (Int32.ofNat ss.length))] [])) _
            refine own_go (fun _ k => XS.iloadN X0.here hx rfl (hb hby d_m12_49) rfl k) ?_
            show own_Go p e below (s₁.setTop (mkF m 50 #[.val (.ref x), .val (.int (Int32.ofNat rs.length)), .val (.ref y), .val (.int (Int32.ofNat ss.length))] [(.int (Int32.ofNat rs.length))])) _
            refine own_go (fun _ k => XS.iloadN X0.here hx rfl (hb hby d_m12_50) rfl k) ?_
            show own_Go p e below (s₁.setTop (mkF m 51 #[.val (.ref x), .val (.int (Int32.ofNat rs.length)), .val (.ref y), .val (.int (Int32.ofNat ss.length))] [(.int (Int32.ofNat ss.length)), (.int (Int32.ofNat rs.length))])) _
            refine own_go (fun _ k => XS.isub X0.here hx rfl (hb hby d_m12_51) rfl k) ?_
            show own_Go p e below (s₁.setTop (mkF m 52 #[.val (.ref x), .val (.int (Int32.ofNat rs.length)), .val (.ref y), .val (.int (Int32.ofNat ss.length))] [(.int ((Int32.ofNat rs.length) - (Int32.ofNat ss.length)))])) _
            obtain ⟨v280, _, ⟨T280, L280, k280, n280⟩, -, X280, ⟨Lc280, hQ280, l280, y280, z280⟩, st280⟩ := Jvm.LawKit.callS X0 hx (y := (⟨"com/example/rolelattice/rolelattice/decision/CodePointsComparePinLaw", "sign", "(I)I"⟩ : MethodName)) hown (mvT hZ (hw _ (List.mem_of_getElem? (i := 57) rfl))) (mvT hZ (hw _ (List.mem_of_getElem? (i := 58) rfl))) (mvT hZ (hw _ (List.mem_of_getElem? (i := 2) rfl))) (mvT hZ (hw _ (List.mem_of_getElem? (i := 59) rfl))) (by decide) (backOf (W := 0) (rm_sg l Z a0 hw [] ((Int32.ofNat rs.length) - (Int32.ofNat ss.length)) h0 n0 O0 ) hZ (hw _ (List.mem_of_getElem? (i := 59) rfl)) (hw _ (List.mem_of_getElem? (i := 2) rfl)) (by decide) (by decide)) (g := (mkF m 52 #[.val (.ref x), .val (.int (Int32.ofNat rs.length)), .val (.ref y), .val (.int (Int32.ofNat ss.length))] [(.int ((Int32.ofNat rs.length) - (Int32.ofNat ss.length)))])) rfl (by rw [hml]; rfl) (argsL := [(.int ((Int32.ofNat rs.length) - (Int32.ofNat ss.length)))]) (rest := []) (lenOf pd_1 rfl) rfl (by show 2 * 0 + _ ≤ _; exact Nat.le_of_eq rfl) (hb hby d_m12_52) (fun _ _ => ⟨rfl, e0, (by decide : 0 + 0 ≤ _), (by decide : 0 + 0 ≤ _)⟩)
            dsimp only [Pt.U, Pt.locs, Pt.cells, Pt.slots] at X280 l280 y280 z280 st280 hQ280
            subst l280 y280 z280
            refine own_go st280 ?_
            obtain ⟨rfl, Nq280, e280⟩ := hQ280
            have N280 := Fr.app N0 Nq280
            show own_Go p e below (T280.setTop (mkF m 55 #[.val (.ref x), .val (.int (Int32.ofNat rs.length)), .val (.ref y), .val (.int (Int32.ofNat ss.length))] [(.int (own_sg ((Int32.ofNat rs.length) - (Int32.ofNat ss.length))))])) _
            refine own_fin (v := (some (.int (own_sg ((Int32.ofNat rs.length) - (Int32.ofNat ss.length)))))) X280 (fun h => by rw [hrt] at h; cases h) hlk (fun fs hr => retI X280 hx hrt (hb hby d_m12_55) hr) (QQ := QPure (some (.int (own_lex rs ss))) h0 n0) ?_ (by decide) (by decide)
            rw [e280]
            exact ⟨congrArg (fun z => some (Value.int z)) ((by unfold own_cq; rw [if_neg hc270, if_neg hc272, if_pos hc276, if_neg hc277, if_pos hc279] : (own_sg ((Int32.ofNat rs.length) - (Int32.ofNat ss.length))) = own_cq rs ss).trans (own_cq_lex hr hs)), N280, rfl⟩
          · skip
            refine own_go (fun _ k => XS.icmpYes X0.here hx rfl (pc0 := 46) (pc' := 56) rfl (hb hby d_m12_46) rfl (feq hc279).2 (by decide) (by decide) k) ?_
            show own_Go p e below (s₁.setTop (mkF m 56 #[.val (.ref x), .val (.int (Int32.ofNat rs.length)), .val (.ref y), .val (.int (Int32.ofNat ss.length))] [])) _
            refine own_go (fun _ k => XS.aloadN X0.here hx rfl (hb hby d_m12_56) rfl rfl k) ?_
            show own_Go p e below (s₁.setTop (mkF m 57 #[.val (.ref x), .val (.int (Int32.ofNat rs.length)), .val (.ref y), .val (.int (Int32.ofNat ss.length))] [(.ref x)])) _
            refine own_go (fun _ k => XS.iconst X0.here hx rfl (hb hby d_m12_57) k) ?_
            show own_Go p e below (s₁.setTop (mkF m 58 #[.val (.ref x), .val (.int (Int32.ofNat rs.length)), .val (.ref y), .val (.int (Int32.ofNat ss.length))] [(.int (1 : Int32)), (.ref x)])) _
            obtain ⟨c281, A281, q281, S281, M281, Hs281, Gs281⟩ := id V_x
            have hi281 := inb_of (j := (1 : Int32)) S281 ⟨by decide, by decide⟩
            refine own_go (fun _ k => X0.iaload hx (j := (1 : Int32)) (v := (.int ((own_pad rs).getD 1 0))) (by rw [e0]; exact A281.1) (State.isArrayOf_alike hZ.alike A281.2.1) A281.2.2 hi281 (Has.at Hs281 hi281 (own_padg hr 1 (by decide))) (g := (mkF m 58 #[.val (.ref x), .val (.int (Int32.ofNat rs.length)), .val (.ref y), .val (.int (Int32.ofNat ss.length))] [(.int (1 : Int32)), (.ref x)])) rfl rfl (hb hby d_m12_58) _ k) ?_
            show own_Go p e below (s₁.setTop (mkF m 59 #[.val (.ref x), .val (.int (Int32.ofNat rs.length)), .val (.ref y), .val (.int (Int32.ofNat ss.length))] [(.int ((own_pad rs).getD 1 0))])) _
            refine own_go (fun _ k => XS.aloadN X0.here hx rfl (hb hby d_m12_59) rfl rfl k) ?_
            show own_Go p e below (s₁.setTop (mkF m 60 #[.val (.ref x), .val (.int (Int32.ofNat rs.length)), .val (.ref y), .val (.int (Int32.ofNat ss.length))] [(.ref y), (.int ((own_pad rs).getD 1 0))])) _
            refine own_go (fun _ k => XS.iconst X0.here hx rfl (hb hby d_m12_60) k) ?_
            show own_Go p e below (s₁.setTop (mkF m 61 #[.val (.ref x), .val (.int (Int32.ofNat rs.length)), .val (.ref y), .val (.int (Int32.ofNat ss.length))] [(.int (1 : Int32)), (.ref y), (.int ((own_pad rs).getD 1 0))])) _
            obtain ⟨c282, A282, q282, S282, M282, Hs282, Gs282⟩ := id V_y
            have hi282 := inb_of (j := (1 : Int32)) S282 ⟨by decide, by decide⟩
            refine own_go (fun _ k => X0.iaload hx (j := (1 : Int32)) (v := (.int ((own_pad ss).getD 1 0))) (by rw [e0]; exact A282.1) (State.isArrayOf_alike hZ.alike A282.2.1) A282.2.2 hi282 (Has.at Hs282 hi282 (own_padg hs 1 (by decide))) (g := (mkF m 61 #[.val (.ref x), .val (.int (Int32.ofNat rs.length)), .val (.ref y), .val (.int (Int32.ofNat ss.length))] [(.int (1 : Int32)), (.ref y), (.int ((own_pad rs).getD 1 0))])) rfl rfl (hb hby d_m12_61) _ k) ?_
            show own_Go p e below (s₁.setTop (mkF m 62 #[.val (.ref x), .val (.int (Int32.ofNat rs.length)), .val (.ref y), .val (.int (Int32.ofNat ss.length))] [(.int ((own_pad ss).getD 1 0)), (.int ((own_pad rs).getD 1 0))])) _
            by_cases hc283 : ((own_pad rs).getD 1 0) = ((own_pad ss).getD 1 0)
            · skip
              refine own_go (fun _ k => XS.icmpYes X0.here hx rfl (pc0 := 62) (pc' := 80) rfl (hb hby d_m12_62) rfl (teq hc283).1 (by decide) (by decide) k) ?_
              show own_Go p e below (s₁.setTop (mkF m 80 #[.val (.ref x), .val (.int (Int32.ofNat rs.length)), .val (.ref y), .val (.int (Int32.ofNat ss.length))] [])) _
              refine own_go (fun _ k => XS.iloadN X0.here hx rfl (hb hby d_m12_80) rfl k) ?_
              show own_Go p e below (s₁.setTop (mkF m 81 #[.val (.ref x), .val (.int (Int32.ofNat rs.length)), .val (.ref y), .val (.int (Int32.ofNat ss.length))] [(.int (Int32.ofNat rs.length))])) _
              refine own_go (fun _ k => XS.iconst X0.here hx rfl (hb hby d_m12_81) k) ?_
              show own_Go p e below (s₁.setTop (mkF m 82 #[.val (.ref x), .val (.int (Int32.ofNat rs.length)), .val (.ref y), .val (.int (Int32.ofNat ss.length))] [(.int (2 : Int32)), (.int (Int32.ofNat rs.length))])) _
              by_cases hc284 : (Int32.ofNat rs.length) = (2 : Int32)
              · skip
                refine own_go (fun _ k => XS.icmpYes X0.here hx rfl (pc0 := 82) (pc' := 90) rfl (hb hby d_m12_82) rfl (teq hc284).1 (by decide) (by decide) k) ?_
                show own_Go p e below (s₁.setTop (mkF m 90 #[.val (.ref x), .val (.int (Int32.ofNat rs.length)), .val (.ref y), .val (.int (Int32.ofNat ss.length))] [])) _
                refine own_go (fun _ k => XS.iloadN X0.here hx rfl (hb hby d_m12_90) rfl k) ?_
                show own_Go p e below (s₁.setTop (mkF m 91 #[.val (.ref x), .val (.int (Int32.ofNat rs.length)), .val (.ref y), .val (.int (Int32.ofNat ss.length))] [(.int (Int32.ofNat rs.length))])) _
                refine own_go (fun _ k => XS.iloadN X0.here hx rfl (hb hby d_m12_91) rfl k) ?_
                show own_Go p e below (s₁.setTop (mkF m 92 #[.val (.ref x), .val (.int (Int32.ofNat rs.length)), .val (.ref y), .val (.int (Int32.ofNat ss.length))] [(.int (Int32.ofNat ss.length)), (.int (Int32.ofNat rs.length))])) _
                refine own_go (fun _ k => XS.isub X0.here hx rfl (hb hby d_m12_92) rfl k) ?_
                show own_Go p e below (s₁.setTop (mkF m 93 #[.val (.ref x), .val (.int (Int32.ofNat rs.length)), .val (.ref y), .val (.int (Int32.ofNat ss.length))] [(.int ((Int32.ofNat rs.length) - (Int32.ofNat ss.length)))])) _
                obtain ⟨v285, _, ⟨T285, L285, k285, n285⟩, -, X285, ⟨Lc285, hQ285, l285, y285, z285⟩, st285⟩ := Jvm.LawKit.callS X0 hx (y := (⟨"com/example/rolelattice/rolelattice/decision/CodePointsComparePinLaw", "sign", "(I)I"⟩ : MethodName)) hown (mvT hZ (hw _ (List.mem_of_getElem? (i := 57) rfl))) (mvT hZ (hw _ (List.mem_of_getElem? (i := 58) rfl))) (mvT hZ (hw _ (List.mem_of_getElem? (i := 2) rfl))) (mvT hZ (hw _ (List.mem_of_getElem? (i := 59) rfl))) (by decide) (backOf (W := 0) (rm_sg l Z a0 hw [] ((Int32.ofNat rs.length) - (Int32.ofNat ss.length)) h0 n0 O0 ) hZ (hw _ (List.mem_of_getElem? (i := 59) rfl)) (hw _ (List.mem_of_getElem? (i := 2) rfl)) (by decide) (by decide)) (g := (mkF m 93 #[.val (.ref x), .val (.int (Int32.ofNat rs.length)), .val (.ref y), .val (.int (Int32.ofNat ss.length))] [(.int ((Int32.ofNat rs.length) - (Int32.ofNat ss.length)))])) rfl (by rw [hml]; rfl) (argsL := [(.int ((Int32.ofNat rs.length) - (Int32.ofNat ss.length)))]) (rest := []) (lenOf pd_1 rfl) rfl (by show 2 * 0 + _ ≤ _; exact Nat.le_of_eq rfl) (hb hby d_m12_93) (fun _ _ => ⟨rfl, e0, (by decide : 0 + 0 ≤ _), (by decide : 0 + 0 ≤ _)⟩)
                dsimp only [Pt.U, Pt.locs, Pt.cells, Pt.slots] at X285 l285 y285 z285 st285 hQ285
                subst l285 y285 z285
                refine own_go st285 ?_
                obtain ⟨rfl, Nq285, e285⟩ := hQ285
                have N285 := Fr.app N0 Nq285
                show own_Go p e below (T285.setTop (mkF m 96 #[.val (.ref x), .val (.int (Int32.ofNat rs.length)), .val (.ref y), .val (.int (Int32.ofNat ss.length))] [(.int (own_sg ((Int32.ofNat rs.length) - (Int32.ofNat ss.length))))])) _
                refine own_fin (v := (some (.int (own_sg ((Int32.ofNat rs.length) - (Int32.ofNat ss.length)))))) X285 (fun h => by rw [hrt] at h; cases h) hlk (fun fs hr => retI X285 hx hrt (hb hby d_m12_96) hr) (QQ := QPure (some (.int (own_lex rs ss))) h0 n0) ?_ (by decide) (by decide)
                rw [e285]
                exact ⟨congrArg (fun z => some (Value.int z)) ((by unfold own_cq; rw [if_neg hc270, if_neg hc272, if_pos hc276, if_neg hc277, if_neg hc279, if_pos hc283, if_pos hc284] : (own_sg ((Int32.ofNat rs.length) - (Int32.ofNat ss.length))) = own_cq rs ss).trans (own_cq_lex hr hs)), N285, rfl⟩
              · skip
                refine own_go (fun _ k => XS.icmpNo X0.here hx rfl (hb hby d_m12_82) rfl (feq hc284).1 k) ?_
                show own_Go p e below (s₁.setTop (mkF m 85 #[.val (.ref x), .val (.int (Int32.ofNat rs.length)), .val (.ref y), .val (.int (Int32.ofNat ss.length))] [])) _
                refine own_go (fun _ k => XS.iloadN X0.here hx rfl (hb hby d_m12_85) rfl k) ?_
                show own_Go p e below (s₁.setTop (mkF m 86 #[.val (.ref x), .val (.int (Int32.ofNat rs.length)), .val (.ref y), .val (.int (Int32.ofNat ss.length))] [(.int (Int32.ofNat ss.length))])) _
                refine own_go (fun _ k => XS.iconst X0.here hx rfl (hb hby d_m12_86) k) ?_
                show own_Go p e below (s₁.setTop (mkF m 87 #[.val (.ref x), .val (.int (Int32.ofNat rs.length)), .val (.ref y), .val (.int (Int32.ofNat ss.length))] [(.int (2 : Int32)), (.int (Int32.ofNat ss.length))])) _
                by_cases hc286 : (Int32.ofNat ss.length) = (2 : Int32)
                · skip
                  refine own_go (fun _ k => XS.icmpNo X0.here hx rfl (hb hby d_m12_87) rfl (teq hc286).2 k) ?_
                  show own_Go p e below (s₁.setTop (mkF m 90 #[.val (.ref x), .val (.int (Int32.ofNat rs.length)), .val (.ref y), .val (.int (Int32.ofNat ss.length))] [])) _
                  refine own_go (fun _ k => XS.iloadN X0.here hx rfl (hb hby d_m12_90) rfl k) ?_
                  show own_Go p e below (s₁.setTop (mkF m 91 #[.val (.ref x), .val (.int (Int32.ofNat rs.length)), .val (.ref y), .val (.int (Int32.ofNat ss.length))] [(.int (Int32.ofNat rs.length))])) _
                  refine own_go (fun _ k => XS.iloadN X0.here hx rfl (hb hby d_m12_91) rfl k) ?_
                  show own_Go p e below (s₁.setTop (mkF m 92 #[.val (.ref x), .val (.int (Int32.ofNat rs.length)), .val (.ref y), .val (.int (Int32.ofNat ss.length))] [(.int (Int32.ofNat ss.length)), (.int (Int32.ofNat rs.length))])) _
                  refine own_go (fun _ k => XS.isub X0.here hx rfl (hb hby d_m12_92) rfl k) ?_
                  show own_Go p e below (s₁.setTop (mkF m 93 #[.val (.ref x), .val (.int (Int32.ofNat rs.length)), .val (.ref y), .val (.int (Int32.ofNat ss.length))] [(.int ((Int32.ofNat rs.length) - (Int32.ofNat ss.length)))])) _
                  obtain ⟨v287, _, ⟨T287, L287, k287, n287⟩, -, X287, ⟨Lc287, hQ287, l287, y287, z287⟩, st287⟩ := Jvm.LawKit.callS X0 hx (y := (⟨"com/example/rolelattice/rolelattice/decision/CodePointsComparePinLaw", "sign", "(I)I"⟩ : MethodName)) hown (mvT hZ (hw _ (List.mem_of_getElem? (i := 57) rfl))) (mvT hZ (hw _ (List.mem_of_getElem? (i := 58) rfl))) (mvT hZ (hw _ (List.mem_of_getElem? (i := 2) rfl))) (mvT hZ (hw _ (List.mem_of_getElem? (i := 59) rfl))) (by decide) (backOf (W := 0) (rm_sg l Z a0 hw [] ((Int32.ofNat rs.length) - (Int32.ofNat ss.length)) h0 n0 O0 ) hZ (hw _ (List.mem_of_getElem? (i := 59) rfl)) (hw _ (List.mem_of_getElem? (i := 2) rfl)) (by decide) (by decide)) (g := (mkF m 93 #[.val (.ref x), .val (.int (Int32.ofNat rs.length)), .val (.ref y), .val (.int (Int32.ofNat ss.length))] [(.int ((Int32.ofNat rs.length) - (Int32.ofNat ss.length)))])) rfl (by rw [hml]; rfl) (argsL := [(.int ((Int32.ofNat rs.length) - (Int32.ofNat ss.length)))]) (rest := []) (lenOf pd_1 rfl) rfl (by show 2 * 0 + _ ≤ _; exact Nat.le_of_eq rfl) (hb hby d_m12_93) (fun _ _ => ⟨rfl, e0, (by decide : 0 + 0 ≤ _), (by decide : 0 + 0 ≤ _)⟩)
                  dsimp only [Pt.U, Pt.locs, Pt.cells, Pt.slots] at X287 l287 y287 z287 st287 hQ287
                  subst l287 y287 z287
                  refine own_go st287 ?_
                  obtain ⟨rfl, Nq287, e287⟩ := hQ287
                  have N287 := Fr.app N0 Nq287
                  show own_Go p e below (T287.setTop (mkF m 96 #[.val (.ref x), .val (.int (Int32.ofNat rs.length)), .val (.ref y), .val (.int (Int32.ofNat ss.length))] [(.int (own_sg ((Int32.ofNat rs.length) - (Int32.ofNat ss.length))))])) _
                  refine own_fin (v := (some (.int (own_sg ((Int32.ofNat rs.length) - (Int32.ofNat ss.length)))))) X287 (fun h => by rw [hrt] at h; cases h) hlk (fun fs hr => retI X287 hx hrt (hb hby d_m12_96) hr) (QQ := QPure (some (.int (own_lex rs ss))) h0 n0) ?_ (by decide) (by decide)
                  rw [e287]
                  exact ⟨congrArg (fun z => some (Value.int z)) ((by unfold own_cq; rw [if_neg hc270, if_neg hc272, if_pos hc276, if_neg hc277, if_neg hc279, if_pos hc283, if_neg hc284, if_pos hc286] : (own_sg ((Int32.ofNat rs.length) - (Int32.ofNat ss.length))) = own_cq rs ss).trans (own_cq_lex hr hs)), N287, rfl⟩
                · skip
                  refine own_go (fun _ k => XS.icmpYes X0.here hx rfl (pc0 := 87) (pc' := 97) rfl (hb hby d_m12_87) rfl (feq hc286).2 (by decide) (by decide) k) ?_
                  show own_Go p e below (s₁.setTop (mkF m 97 #[.val (.ref x), .val (.int (Int32.ofNat rs.length)), .val (.ref y), .val (.int (Int32.ofNat ss.length))] [])) _
                  refine own_go (fun _ k => XS.aloadN X0.here hx rfl (hb hby d_m12_97) rfl rfl k) ?_
                  show own_Go p e below (s₁.setTop (mkF m 98 #[.val (.ref x), .val (.int (Int32.ofNat rs.length)), .val (.ref y), .val (.int (Int32.ofNat ss.length))] [(.ref x)])) _
                  refine own_go (fun _ k => XS.iconst X0.here hx rfl (hb hby d_m12_98) k) ?_
                  show own_Go p e below (s₁.setTop (mkF m 99 #[.val (.ref x), .val (.int (Int32.ofNat rs.length)), .val (.ref y), .val (.int (Int32.ofNat ss.length))] [(.int (2 : Int32)), (.ref x)])) _
                  obtain ⟨c288, A288, q288, S288, M288, Hs288, Gs288⟩ := id V_x
                  have hi288 := inb_of (j := (2 : Int32)) S288 ⟨by decide, by decide⟩
                  refine own_go (fun _ k => X0.iaload hx (j := (2 : Int32)) (v := (.int ((own_pad rs).getD 2 0))) (by rw [e0]; exact A288.1) (State.isArrayOf_alike hZ.alike A288.2.1) A288.2.2 hi288 (Has.at Hs288 hi288 (own_padg hr 2 (by decide))) (g := (mkF m 99 #[.val (.ref x), .val (.int (Int32.ofNat rs.length)), .val (.ref y), .val (.int (Int32.ofNat ss.length))] [(.int (2 : Int32)), (.ref x)])) rfl rfl (hb hby d_m12_99) _ k) ?_
                  show own_Go p e below (s₁.setTop (mkF m 100 #[.val (.ref x), .val (.int (Int32.ofNat rs.length)), .val (.ref y), .val (.int (Int32.ofNat ss.length))] [(.int ((own_pad rs).getD 2 0))])) _
                  refine own_go (fun _ k => XS.aloadN X0.here hx rfl (hb hby d_m12_100) rfl rfl k) ?_
                  show own_Go p e below (s₁.setTop (mkF m 101 #[.val (.ref x), .val (.int (Int32.ofNat rs.length)), .val (.ref y), .val (.int (Int32.ofNat ss.length))] [(.ref y), (.int ((own_pad rs).getD 2 0))])) _
                  refine own_go (fun _ k => XS.iconst X0.here hx rfl (hb hby d_m12_101) k) ?_
                  show own_Go p e below (s₁.setTop (mkF m 102 #[.val (.ref x), .val (.int (Int32.ofNat rs.length)), .val (.ref y), .val (.int (Int32.ofNat ss.length))] [(.int (2 : Int32)), (.ref y), (.int ((own_pad rs).getD 2 0))])) _
                  obtain ⟨c289, A289, q289, S289, M289, Hs289, Gs289⟩ := id V_y
                  have hi289 := inb_of (j := (2 : Int32)) S289 ⟨by decide, by decide⟩
                  refine own_go (fun _ k => X0.iaload hx (j := (2 : Int32)) (v := (.int ((own_pad ss).getD 2 0))) (by rw [e0]; exact A289.1) (State.isArrayOf_alike hZ.alike A289.2.1) A289.2.2 hi289 (Has.at Hs289 hi289 (own_padg hs 2 (by decide))) (g := (mkF m 102 #[.val (.ref x), .val (.int (Int32.ofNat rs.length)), .val (.ref y), .val (.int (Int32.ofNat ss.length))] [(.int (2 : Int32)), (.ref y), (.int ((own_pad rs).getD 2 0))])) rfl rfl (hb hby d_m12_102) _ k) ?_
                  show own_Go p e below (s₁.setTop (mkF m 103 #[.val (.ref x), .val (.int (Int32.ofNat rs.length)), .val (.ref y), .val (.int (Int32.ofNat ss.length))] [(.int ((own_pad ss).getD 2 0)), (.int ((own_pad rs).getD 2 0))])) _
                  by_cases hc290 : ((own_pad rs).getD 2 0) = ((own_pad ss).getD 2 0)
                  · skip
                    refine own_go (fun _ k => XS.icmpYes X0.here hx rfl (pc0 := 103) (pc' := 121) rfl (hb hby d_m12_103) rfl (teq hc290).1 (by decide) (by decide) k) ?_
                    show own_Go p e below (s₁.setTop (mkF m 121 #[.val (.ref x), .val (.int (Int32.ofNat rs.length)), .val (.ref y), .val (.int (Int32.ofNat ss.length))] [])) _
                    refine own_go (fun _ k => XS.iconst X0.here hx rfl (hb hby d_m12_121) k) ?_
                    show own_Go p e below (s₁.setTop (mkF m 122 #[.val (.ref x), .val (.int (Int32.ofNat rs.length)), .val (.ref y), .val (.int (Int32.ofNat ss.length))] [(.int (0 : Int32))])) _
                    refine own_fin (v := (some (.int (0 : Int32)))) X0 (fun h => by rw [hrt] at h; cases h) hlk (fun fs hr => retI X0 hx hrt (hb hby d_m12_122) hr) (QQ := QPure (some (.int (own_lex rs ss))) h0 n0) ?_ (by decide) (by decide)
                    rw [e0]
                    exact ⟨congrArg (fun z => some (Value.int z)) ((by unfold own_cq; rw [if_neg hc270, if_neg hc272, if_pos hc276, if_neg hc277, if_neg hc279, if_pos hc283, if_neg hc284, if_neg hc286, if_pos hc290] : (0 : Int32) = own_cq rs ss).trans (own_cq_lex hr hs)), N0, rfl⟩
                  · skip
                    refine own_go (fun _ k => XS.icmpNo X0.here hx rfl (hb hby d_m12_103) rfl (feq hc290).1 k) ?_
                    show own_Go p e below (s₁.setTop (mkF m 106 #[.val (.ref x), .val (.int (Int32.ofNat rs.length)), .val (.ref y), .val (.int (Int32.ofNat ss.length))] [])) _
                    refine own_go (fun _ k => XS.aloadN X0.here hx rfl (hb hby d_m12_106) rfl rfl k) ?_
                    show own_Go p e below (s₁.setTop (mkF m 107 #[.val (.ref x), .val (.int (Int32.ofNat rs.length)), .val (.ref y), .val (.int (Int32.ofNat ss.length))] [(.ref x)])) _
                    refine own_go (fun _ k => XS.iconst X0.here hx rfl (hb hby d_m12_107) k) ?_
                    show own_Go p e below (s₁.setTop (mkF m 108 #[.val (.ref x), .val (.int (Int32.ofNat rs.length)), .val (.ref y), .val (.int (Int32.ofNat ss.length))] [(.int (2 : Int32)), (.ref x)])) _
                    obtain ⟨c291, A291, q291, S291, M291, Hs291, Gs291⟩ := id V_x
                    have hi291 := inb_of (j := (2 : Int32)) S291 ⟨by decide, by decide⟩
                    refine own_go (fun _ k => X0.iaload hx (j := (2 : Int32)) (v := (.int ((own_pad rs).getD 2 0))) (by rw [e0]; exact A291.1) (State.isArrayOf_alike hZ.alike A291.2.1) A291.2.2 hi291 (Has.at Hs291 hi291 (own_padg hr 2 (by decide))) (g := (mkF m 108 #[.val (.ref x), .val (.int (Int32.ofNat rs.length)), .val (.ref y), .val (.int (Int32.ofNat ss.length))] [(.int (2 : Int32)), (.ref x)])) rfl rfl (hb hby d_m12_108) _ k) ?_
                    show own_Go p e below (s₁.setTop (mkF m 109 #[.val (.ref x), .val (.int (Int32.ofNat rs.length)), .val (.ref y), .val (.int (Int32.ofNat ss.length))] [(.int ((own_pad rs).getD 2 0))])) _
                    refine own_go (fun _ k => XS.aloadN X0.here hx rfl (hb hby d_m12_109) rfl rfl k) ?_
                    show own_Go p e below (s₁.setTop (mkF m 110 #[.val (.ref x), .val (.int (Int32.ofNat rs.length)), .val (.ref y), .val (.int (Int32.ofNat ss.length))] [(.ref y), (.int ((own_pad rs).getD 2 0))])) _
                    refine own_go (fun _ k => XS.iconst X0.here hx rfl (hb hby d_m12_110) k) ?_
                    show own_Go p e below (s₁.setTop (mkF m 111 #[.val (.ref x), .val (.int (Int32.ofNat rs.length)), .val (.ref y), .val (.int (Int32.ofNat ss.length))] [(.int (2 : Int32)), (.ref y), (.int ((own_pad rs).getD 2 0))])) _
                    obtain ⟨c292, A292, q292, S292, M292, Hs292, Gs292⟩ := id V_y
                    have hi292 := inb_of (j := (2 : Int32)) S292 ⟨by decide, by decide⟩
                    refine own_go (fun _ k => X0.iaload hx (j := (2 : Int32)) (v := (.int ((own_pad ss).getD 2 0))) (by rw [e0]; exact A292.1) (State.isArrayOf_alike hZ.alike A292.2.1) A292.2.2 hi292 (Has.at Hs292 hi292 (own_padg hs 2 (by decide))) (g := (mkF m 111 #[.val (.ref x), .val (.int (Int32.ofNat rs.length)), .val (.ref y), .val (.int (Int32.ofNat ss.length))] [(.int (2 : Int32)), (.ref y), (.int ((own_pad rs).getD 2 0))])) rfl rfl (hb hby d_m12_111) _ k) ?_
                    show own_Go p e below (s₁.setTop (mkF m 112 #[.val (.ref x), .val (.int (Int32.ofNat rs.length)), .val (.ref y), .val (.int (Int32.ofNat ss.length))] [(.int ((own_pad ss).getD 2 0)), (.int ((own_pad rs).getD 2 0))])) _
                    by_cases hc293 : ((own_pad rs).getD 2 0) < ((own_pad ss).getD 2 0)
                    · skip
                      refine own_go (fun _ k => XS.icmpNo X0.here hx rfl (hb hby d_m12_112) rfl (tlt hc293).2.1 k) ?_
                      show own_Go p e below (s₁.setTop (mkF m 115 #[.val (.ref x), .val (.int (Int32.ofNat rs.length)), .val (.ref y), .val (.int (Int32.ofNat ss.length))] [])) _
                      refine own_go (fun _ k => XS.iconst X0.here hx rfl (hb hby d_m12_115) k) ?_
                      show own_Go p e below (s₁.setTop (mkF m 116 #[.val (.ref x), .val (.int (Int32.ofNat rs.length)), .val (.ref y), .val (.int (Int32.ofNat ss.length))] [(.int (-1 : Int32))])) _
                      refine own_go (fun _ k => XS.goto X0.here hx rfl (pc0 := 116) (pc' := 120) rfl (hb hby d_m12_116) (by decide) (by decide) k) ?_
                      show own_Go p e below (s₁.setTop (mkF m 120 #[.val (.ref x), .val (.int (Int32.ofNat rs.length)), .val (.ref y), .val (.int (Int32.ofNat ss.length))] [(.int (-1 : Int32))])) _
                      refine own_fin (v := (some (.int (-1 : Int32)))) X0 (fun h => by rw [hrt] at h; cases h) hlk (fun fs hr => retI X0 hx hrt (hb hby d_m12_120) hr) (QQ := QPure (some (.int (own_lex rs ss))) h0 n0) ?_ (by decide) (by decide)
                      rw [e0]
                      exact ⟨congrArg (fun z => some (Value.int z)) ((by unfold own_cq; rw [if_neg hc270, if_neg hc272, if_pos hc276, if_neg hc277, if_neg hc279, if_pos hc283, if_neg hc284, if_neg hc286, if_neg hc290, if_pos hc293] : (-1 : Int32) = own_cq rs ss).trans (own_cq_lex hr hs)), N0, rfl⟩
                    · skip
                      refine own_go (fun _ k => XS.icmpYes X0.here hx rfl (pc0 := 112) (pc' := 119) rfl (hb hby d_m12_112) rfl (flt hc293).2.1 (by decide) (by decide) k) ?_
                      show own_Go p e below (s₁.setTop (mkF m 119 #[.val (.ref x), .val (.int (Int32.ofNat rs.length)), .val (.ref y), .val (.int (Int32.ofNat ss.length))] [])) _
                      refine own_go (fun _ k => XS.iconst X0.here hx rfl (hb hby d_m12_119) k) ?_
                      show own_Go p e below (s₁.setTop (mkF m 120 #[.val (.ref x), .val (.int (Int32.ofNat rs.length)), .val (.ref y), .val (.int (Int32.ofNat ss.length))] [(.int (1 : Int32))])) _
                      refine own_fin (v := (some (.int (1 : Int32)))) X0 (fun h => by rw [hrt] at h; cases h) hlk (fun fs hr => retI X0 hx hrt (hb hby d_m12_120) hr) (QQ := QPure (some (.int (own_lex rs ss))) h0 n0) ?_ (by decide) (by decide)
                      rw [e0]
                      exact ⟨congrArg (fun z => some (Value.int z)) ((by unfold own_cq; rw [if_neg hc270, if_neg hc272, if_pos hc276, if_neg hc277, if_neg hc279, if_pos hc283, if_neg hc284, if_neg hc286, if_neg hc290, if_neg hc293] : (1 : Int32) = own_cq rs ss).trans (own_cq_lex hr hs)), N0, rfl⟩
            · skip
              refine own_go (fun _ k => XS.icmpNo X0.here hx rfl (hb hby d_m12_62) rfl (feq hc283).1 k) ?_
              show own_Go p e below (s₁.setTop (mkF m 65 #[.val (.ref x), .val (.int (Int32.ofNat rs.length)), .val (.ref y), .val (.int (Int32.ofNat ss.length))] [])) _
              refine own_go (fun _ k => XS.aloadN X0.here hx rfl (hb hby d_m12_65) rfl rfl k) ?_
              show own_Go p e below (s₁.setTop (mkF m 66 #[.val (.ref x), .val (.int (Int32.ofNat rs.length)), .val (.ref y), .val (.int (Int32.ofNat ss.length))] [(.ref x)])) _
              refine own_go (fun _ k => XS.iconst X0.here hx rfl (hb hby d_m12_66) k) ?_
              show own_Go p e below (s₁.setTop (mkF m 67 #[.val (.ref x), .val (.int (Int32.ofNat rs.length)), .val (.ref y), .val (.int (Int32.ofNat ss.length))] [(.int (1 : Int32)), (.ref x)])) _
              obtain ⟨c294, A294, q294, S294, M294, Hs294, Gs294⟩ := id V_x
              have hi294 := inb_of (j := (1 : Int32)) S294 ⟨by decide, by decide⟩
              refine own_go (fun _ k => X0.iaload hx (j := (1 : Int32)) (v := (.int ((own_pad rs).getD 1 0))) (by rw [e0]; exact A294.1) (State.isArrayOf_alike hZ.alike A294.2.1) A294.2.2 hi294 (Has.at Hs294 hi294 (own_padg hr 1 (by decide))) (g := (mkF m 67 #[.val (.ref x), .val (.int (Int32.ofNat rs.length)), .val (.ref y), .val (.int (Int32.ofNat ss.length))] [(.int (1 : Int32)), (.ref x)])) rfl rfl (hb hby d_m12_67) _ k) ?_
              show own_Go p e below (s₁.setTop (mkF m 68 #[.val (.ref x), .val (.int (Int32.ofNat rs.length)), .val (.ref y), .val (.int (Int32.ofNat ss.length))] [(.int ((own_pad rs).getD 1 0))])) _
              refine own_go (fun _ k => XS.aloadN X0.here hx rfl (hb hby d_m12_68) rfl rfl k) ?_
              show own_Go p e below (s₁.setTop (mkF m 69 #[.val (.ref x), .val (.int (Int32.ofNat rs.length)), .val (.ref y), .val (.int (Int32.ofNat ss.length))] [(.ref y), (.int ((own_pad rs).getD 1 0))])) _
              refine own_go (fun _ k => XS.iconst X0.here hx rfl (hb hby d_m12_69) k) ?_
              show own_Go p e below (s₁.setTop (mkF m 70 #[.val (.ref x), .val (.int (Int32.ofNat rs.length)), .val (.ref y), .val (.int (Int32.ofNat ss.length))] [(.int (1 : Int32)), (.ref y), (.int ((own_pad rs).getD 1 0))])) _
              obtain ⟨c295, A295, q295, S295, M295, Hs295, Gs295⟩ := id V_y
              have hi295 := inb_of (j := (1 : Int32)) S295 ⟨by decide, by decide⟩
              refine own_go (fun _ k => X0.iaload hx (j := (1 : Int32)) (v := (.int ((own_pad ss).getD 1 0))) (by rw [e0]; exact A295.1) (State.isArrayOf_alike hZ.alike A295.2.1) A295.2.2 hi295 (Has.at Hs295 hi295 (own_padg hs 1 (by decide))) (g := (mkF m 70 #[.val (.ref x), .val (.int (Int32.ofNat rs.length)), .val (.ref y), .val (.int (Int32.ofNat ss.length))] [(.int (1 : Int32)), (.ref y), (.int ((own_pad rs).getD 1 0))])) rfl rfl (hb hby d_m12_70) _ k) ?_
              show own_Go p e below (s₁.setTop (mkF m 71 #[.val (.ref x), .val (.int (Int32.ofNat rs.length)), .val (.ref y), .val (.int (Int32.ofNat ss.length))] [(.int ((own_pad ss).getD 1 0)), (.int ((own_pad rs).getD 1 0))])) _
              by_cases hc296 : ((own_pad rs).getD 1 0) < ((own_pad ss).getD 1 0)
              · skip
                refine own_go (fun _ k => XS.icmpNo X0.here hx rfl (hb hby d_m12_71) rfl (tlt hc296).2.1 k) ?_
                show own_Go p e below (s₁.setTop (mkF m 74 #[.val (.ref x), .val (.int (Int32.ofNat rs.length)), .val (.ref y), .val (.int (Int32.ofNat ss.length))] [])) _
                refine own_go (fun _ k => XS.iconst X0.here hx rfl (hb hby d_m12_74) k) ?_
                show own_Go p e below (s₁.setTop (mkF m 75 #[.val (.ref x), .val (.int (Int32.ofNat rs.length)), .val (.ref y), .val (.int (Int32.ofNat ss.length))] [(.int (-1 : Int32))])) _
                refine own_go (fun _ k => XS.goto X0.here hx rfl (pc0 := 75) (pc' := 79) rfl (hb hby d_m12_75) (by decide) (by decide) k) ?_
                show own_Go p e below (s₁.setTop (mkF m 79 #[.val (.ref x), .val (.int (Int32.ofNat rs.length)), .val (.ref y), .val (.int (Int32.ofNat ss.length))] [(.int (-1 : Int32))])) _
                refine own_fin (v := (some (.int (-1 : Int32)))) X0 (fun h => by rw [hrt] at h; cases h) hlk (fun fs hr => retI X0 hx hrt (hb hby d_m12_79) hr) (QQ := QPure (some (.int (own_lex rs ss))) h0 n0) ?_ (by decide) (by decide)
                rw [e0]
                exact ⟨congrArg (fun z => some (Value.int z)) ((by unfold own_cq; rw [if_neg hc270, if_neg hc272, if_pos hc276, if_neg hc277, if_neg hc279, if_neg hc283, if_pos hc296] : (-1 : Int32) = own_cq rs ss).trans (own_cq_lex hr hs)), N0, rfl⟩
              · skip
                refine own_go (fun _ k => XS.icmpYes X0.here hx rfl (pc0 := 71) (pc' := 78) rfl (hb hby d_m12_71) rfl (flt hc296).2.1 (by decide) (by decide) k) ?_
                show own_Go p e below (s₁.setTop (mkF m 78 #[.val (.ref x), .val (.int (Int32.ofNat rs.length)), .val (.ref y), .val (.int (Int32.ofNat ss.length))] [])) _
                refine own_go (fun _ k => XS.iconst X0.here hx rfl (hb hby d_m12_78) k) ?_
                show own_Go p e below (s₁.setTop (mkF m 79 #[.val (.ref x), .val (.int (Int32.ofNat rs.length)), .val (.ref y), .val (.int (Int32.ofNat ss.length))] [(.int (1 : Int32))])) _
                refine own_fin (v := (some (.int (1 : Int32)))) X0 (fun h => by rw [hrt] at h; cases h) hlk (fun fs hr => retI X0 hx hrt (hb hby d_m12_79) hr) (QQ := QPure (some (.int (own_lex rs ss))) h0 n0) ?_ (by decide) (by decide)
                rw [e0]
                exact ⟨congrArg (fun z => some (Value.int z)) ((by unfold own_cq; rw [if_neg hc270, if_neg hc272, if_pos hc276, if_neg hc277, if_neg hc279, if_neg hc283, if_neg hc296] : (1 : Int32) = own_cq rs ss).trans (own_cq_lex hr hs)), N0, rfl⟩
      · skip
        refine own_go (fun _ k => XS.icmpNo X0.here hx rfl (hb hby d_m12_21) rfl (feq hc276).1 k) ?_
        show own_Go p e below (s₁.setTop (mkF m 24 #[.val (.ref x), .val (.int (Int32.ofNat rs.length)), .val (.ref y), .val (.int (Int32.ofNat ss.length))] [])) _
        refine own_go (fun _ k => XS.aloadN X0.here hx rfl (hb hby d_m12_24) rfl rfl k) ?_
        show own_Go p e below (s₁.setTop (mkF m 25 #[.val (.ref x), .val (.int (Int32.ofNat rs.length)), .val (.ref y), .val (.int (Int32.ofNat ss.length))] [(.ref x)])) _
        refine own_go (fun _ k => XS.iconst X0.here hx rfl (hb hby d_m12_25) k) ?_
        show own_Go p e below (s₁.setTop (mkF m 26 #[.val (.ref x), .val (.int (Int32.ofNat rs.length)), .val (.ref y), .val (.int (Int32.ofNat ss.length))] [(.int (0 : Int32)), (.ref x)])) _
        obtain ⟨c297, A297, q297, S297, M297, Hs297, Gs297⟩ := id V_x
        have hi297 := inb_of (j := (0 : Int32)) S297 ⟨by decide, by decide⟩
        refine own_go (fun _ k => X0.iaload hx (j := (0 : Int32)) (v := (.int ((own_pad rs).getD 0 0))) (by rw [e0]; exact A297.1) (State.isArrayOf_alike hZ.alike A297.2.1) A297.2.2 hi297 (Has.at Hs297 hi297 (own_padg hr 0 (by decide))) (g := (mkF m 26 #[.val (.ref x), .val (.int (Int32.ofNat rs.length)), .val (.ref y), .val (.int (Int32.ofNat ss.length))] [(.int (0 : Int32)), (.ref x)])) rfl rfl (hb hby d_m12_26) _ k) ?_
        show own_Go p e below (s₁.setTop (mkF m 27 #[.val (.ref x), .val (.int (Int32.ofNat rs.length)), .val (.ref y), .val (.int (Int32.ofNat ss.length))] [(.int ((own_pad rs).getD 0 0))])) _
        refine own_go (fun _ k => XS.aloadN X0.here hx rfl (hb hby d_m12_27) rfl rfl k) ?_
        show own_Go p e below (s₁.setTop (mkF m 28 #[.val (.ref x), .val (.int (Int32.ofNat rs.length)), .val (.ref y), .val (.int (Int32.ofNat ss.length))] [(.ref y), (.int ((own_pad rs).getD 0 0))])) _
        refine own_go (fun _ k => XS.iconst X0.here hx rfl (hb hby d_m12_28) k) ?_
        show own_Go p e below (s₁.setTop (mkF m 29 #[.val (.ref x), .val (.int (Int32.ofNat rs.length)), .val (.ref y), .val (.int (Int32.ofNat ss.length))] [(.int (0 : Int32)), (.ref y), (.int ((own_pad rs).getD 0 0))])) _
        obtain ⟨c298, A298, q298, S298, M298, Hs298, Gs298⟩ := id V_y
        have hi298 := inb_of (j := (0 : Int32)) S298 ⟨by decide, by decide⟩
        refine own_go (fun _ k => X0.iaload hx (j := (0 : Int32)) (v := (.int ((own_pad ss).getD 0 0))) (by rw [e0]; exact A298.1) (State.isArrayOf_alike hZ.alike A298.2.1) A298.2.2 hi298 (Has.at Hs298 hi298 (own_padg hs 0 (by decide))) (g := (mkF m 29 #[.val (.ref x), .val (.int (Int32.ofNat rs.length)), .val (.ref y), .val (.int (Int32.ofNat ss.length))] [(.int (0 : Int32)), (.ref y), (.int ((own_pad rs).getD 0 0))])) rfl rfl (hb hby d_m12_29) _ k) ?_
        show own_Go p e below (s₁.setTop (mkF m 30 #[.val (.ref x), .val (.int (Int32.ofNat rs.length)), .val (.ref y), .val (.int (Int32.ofNat ss.length))] [(.int ((own_pad ss).getD 0 0)), (.int ((own_pad rs).getD 0 0))])) _
        by_cases hc299 : ((own_pad rs).getD 0 0) < ((own_pad ss).getD 0 0)
        · skip
          refine own_go (fun _ k => XS.icmpNo X0.here hx rfl (hb hby d_m12_30) rfl (tlt hc299).2.1 k) ?_
          show own_Go p e below (s₁.setTop (mkF m 33 #[.val (.ref x), .val (.int (Int32.ofNat rs.length)), .val (.ref y), .val (.int (Int32.ofNat ss.length))] [])) _
          refine own_go (fun _ k => XS.iconst X0.here hx rfl (hb hby d_m12_33) k) ?_
          show own_Go p e below (s₁.setTop (mkF m 34 #[.val (.ref x), .val (.int (Int32.ofNat rs.length)), .val (.ref y), .val (.int (Int32.ofNat ss.length))] [(.int (-1 : Int32))])) _
          refine own_go (fun _ k => XS.goto X0.here hx rfl (pc0 := 34) (pc' := 38) rfl (hb hby d_m12_34) (by decide) (by decide) k) ?_
          show own_Go p e below (s₁.setTop (mkF m 38 #[.val (.ref x), .val (.int (Int32.ofNat rs.length)), .val (.ref y), .val (.int (Int32.ofNat ss.length))] [(.int (-1 : Int32))])) _
          refine own_fin (v := (some (.int (-1 : Int32)))) X0 (fun h => by rw [hrt] at h; cases h) hlk (fun fs hr => retI X0 hx hrt (hb hby d_m12_38) hr) (QQ := QPure (some (.int (own_lex rs ss))) h0 n0) ?_ (by decide) (by decide)
          rw [e0]
          exact ⟨congrArg (fun z => some (Value.int z)) ((by unfold own_cq; rw [if_neg hc270, if_neg hc272, if_neg hc276, if_pos hc299] : (-1 : Int32) = own_cq rs ss).trans (own_cq_lex hr hs)), N0, rfl⟩
        · skip
          refine own_go (fun _ k => XS.icmpYes X0.here hx rfl (pc0 := 30) (pc' := 37) rfl (hb hby d_m12_30) rfl (flt hc299).2.1 (by decide) (by decide) k) ?_
          show own_Go p e below (s₁.setTop (mkF m 37 #[.val (.ref x), .val (.int (Int32.ofNat rs.length)), .val (.ref y), .val (.int (Int32.ofNat ss.length))] [])) _
          refine own_go (fun _ k => XS.iconst X0.here hx rfl (hb hby d_m12_37) k) ?_
          show own_Go p e below (s₁.setTop (mkF m 38 #[.val (.ref x), .val (.int (Int32.ofNat rs.length)), .val (.ref y), .val (.int (Int32.ofNat ss.length))] [(.int (1 : Int32))])) _
          refine own_fin (v := (some (.int (1 : Int32)))) X0 (fun h => by rw [hrt] at h; cases h) hlk (fun fs hr => retI X0 hx hrt (hb hby d_m12_38) hr) (QQ := QPure (some (.int (own_lex rs ss))) h0 n0) ?_ (by decide) (by decide)
          rw [e0]
          exact ⟨congrArg (fun z => some (Value.int z)) ((by unfold own_cq; rw [if_neg hc270, if_neg hc272, if_neg hc276, if_neg hc299] : (1 : Int32) = own_cq rs ss).trans (own_cq_lex hr hs)), N0, rfl⟩

theorem pd_20 : parseMethodDescriptor "(CCCI)Ljava/lang/String;" = some ⟨[.char, .char, .char, .int], some (.object "java/lang/String")⟩ := by decide +kernel
theorem pd_21 : parseMethodDescriptor "(Ljava/lang/String;Ljava/lang/String;)I" = some ⟨[(.object "java/lang/String"), (.object "java/lang/String")], some .int⟩ := by decide +kernel
theorem pd_22 : parseMethodDescriptor "([CI[I)I" = some ⟨[(.array .char), .int, (.array .int)], some .int⟩ := by decide +kernel
theorem pd_23 : parseMethodDescriptor "([II[II)I" = some ⟨[(.array .int), .int, (.array .int), .int], some .int⟩ := by decide +kernel
set_option maxRecDepth 65536 in
set_option maxHeartbeats 40000000 in
theorem tail (l : Launch) (Z : State) (a0 : Array Value) (hw : ∀ d ∈ tables_1, d.before a0 Z = true) (p1 : Int64) (p2 : Int64) (p3 : Int32) (u0 : Int32) (u1 : Int32) (u2 : Int32) (v0 : Int32) (v1 : Int32) (v2 : Int32) (na : Nat) (nb : Nat) (G1 : Int32) (G3 : Value) (h0 : Heap) (n0 : Nat) {p : Program} {e : Env} {s : State} {vm0 : Vm} {m : MethodId} {below : List Frame} {meth : Method} {cC : Code} {T0 : State} {locs : List Loc} (X0 : Stand p l e room_1 (s.setVm vm0) m #[(.long p1), (.long p2), (.int p3)] below meth cC T0 locs 0 0) (hx : p.tables.exec = Jvm.exec) (hby : cC.code = code) (hml : cC.maxLocals = maxLocals) (hown : (s.setVm vm0).vm.findClass "com/example/rolelattice/rolelattice/decision/CodePointsComparePinLaw" = some m.cls) (hZ : Z.Warmed39 (s.setVm vm0).vm) (hrt : meth.sig.returnType = ret) (hlk : meth.locks = false) (h1 : Heap) (e0 : T0.heap = h1) (N0 : Fr n0 locs) (Z0 : n0 ≤ h1.size) (O1 : Old Z n0 h1) (hh : s.heap = h0) {k0 : Nat} (hS0 : s.Since vm0 k0) (hk0 : k0 ≤ h1.size) (C0 : CHr Z own_EL s.vm h0 vm0 h1) (O2 : Sta Z Z.heap "java/lang/String" "COMPACT_STRINGS" "Z" (.int G1)) (P5 : ¬ (G1 = (0 : Int32))) (O4 : Sta Z Z.heap "jdk/internal/util/Preconditions" "SIOOBE_FORMATTER" "Ljava/util/function/BiFunction;" G3) (rG3 : G3.isRef = true) (OA : Sta Z Z.heap "java/lang/StringUTF16" "$assertionsDisabled" "Z" (.int (1 : Int32))) (OH : Sta Z Z.heap "java/lang/StringUTF16" "HI_BYTE_SHIFT" "I" (.int (0 : Int32))) (OL : Sta Z Z.heap "java/lang/StringUTF16" "LO_BYTE_SHIFT" "I" (.int (8 : Int32))) (b_u0 : ¬ u0 < 0 ∧ ¬ (65535 : Int32) < u0) (b_u1 : ¬ u1 < 0 ∧ ¬ (65535 : Int32) < u1) (b_u2 : ¬ u2 < 0 ∧ ¬ (65535 : Int32) < u2) (b_v0 : ¬ v0 < 0 ∧ ¬ (65535 : Int32) < v0) (b_v1 : ¬ v1 < 0 ∧ ¬ (65535 : Int32) < v1) (b_v2 : ¬ v2 < 0 ∧ ¬ (65535 : Int32) < v2) (hna : na ≤ 3) (hnb : nb ≤ 3) :
    own_Go p e below (T0.setTop (mkF m 119 #[.val (.long p1), .second, .val (.long p2), .second, .val (.int p3), .val (.int u0), .val (.int u1), .val (.int u2), .val (.int (Int32.ofNat na)), .val (.int v0), .val (.int v1), .val (.int v2), .val (.int (Int32.ofNat nb)), .unset, .unset, .unset, .unset, .unset, .unset, .unset, .unset, .unset, .unset] [])) (fun oO U' => ∃ rV rL, oO = .returned rV ∧ QQ0 n0 rV U'.heap rL ∧ CHr Z own_EL s.vm s.heap U'.vm U'.heap ∧ ReturnedEndW s oO U' rL 40 1216) := by
  have own_wS := own_wSt hw
  have own_hEL := own_hELt hw
  show own_Go p e below (T0.setTop (mkF m 119 #[.val (.long p1), .second, .val (.long p2), .second, .val (.int p3), .val (.int u0), .val (.int u1), .val (.int u2), .val (.int (Int32.ofNat na)), .val (.int v0), .val (.int v1), .val (.int v2), .val (.int (Int32.ofNat nb)), .unset, .unset, .unset, .unset, .unset, .unset, .unset, .unset, .unset, .unset] [])) _
  refine own_go (fun _ k => XS.iconst X0.here hx rfl (hb hby at_119) k) ?_
  show own_Go p e below (T0.setTop (mkF m 120 #[.val (.long p1), .second, .val (.long p2), .second, .val (.int p3), .val (.int u0), .val (.int u1), .val (.int u2), .val (.int (Int32.ofNat na)), .val (.int v0), .val (.int v1), .val (.int v2), .val (.int (Int32.ofNat nb)), .unset, .unset, .unset, .unset, .unset, .unset, .unset, .unset, .unset, .unset] [(.int (3 : Int32))])) _
  obtain ⟨T300, h300, k300, X300, e300, E300, A300, st300⟩ := newP X0 hx hZ (hw _ (List.mem_of_getElem? (i := 6) rfl)) e0 (g := (mkF m 120 #[.val (.long p1), .second, .val (.long p2), .second, .val (.int p3), .val (.int u0), .val (.int u1), .val (.int u2), .val (.int (Int32.ofNat na)), .val (.int v0), .val (.int v1), .val (.int v2), .val (.int (Int32.ofNat nb)), .unset, .unset, .unset, .unset, .unset, .unset, .unset, .unset, .unset, .unset] [(.int (3 : Int32))])) rfl (hb hby at_120) rfl (by decide) (cap := 3) (by decide) (by decide) (by decide) (by decide)
  obtain ⟨b300, g300⟩ : ∃ z, z = h1.size := ⟨_, rfl⟩
  rw [← g300] at A300 st300
  refine own_go st300 ?_
  have C301 := C0.trans (CHr.ext E300 C0.1)
  have V300 : Arv Z h300 b300 k300 .char (3 : Int32) [(.int (0 : Int32)), (.int (0 : Int32)), (.int (0 : Int32))] (.int (0 : Int32)) := (Arv.new A300 (by decide)).pad (pad_rep [] (.int (0 : Int32)) 3)
  show own_Go p e below (T300.setTop (mkF m 122 #[.val (.long p1), .second, .val (.long p2), .second, .val (.int p3), .val (.int u0), .val (.int u1), .val (.int u2), .val (.int (Int32.ofNat na)), .val (.int v0), .val (.int v1), .val (.int v2), .val (.int (Int32.ofNat nb)), .unset, .unset, .unset, .unset, .unset, .unset, .unset, .unset, .unset, .unset] [(.ref b300)])) _
  refine own_go (fun _ k => XS.dup X300.here hx rfl (hb hby at_122) rfl rfl k) ?_
  show own_Go p e below (T300.setTop (mkF m 123 #[.val (.long p1), .second, .val (.long p2), .second, .val (.int p3), .val (.int u0), .val (.int u1), .val (.int u2), .val (.int (Int32.ofNat na)), .val (.int v0), .val (.int v1), .val (.int v2), .val (.int (Int32.ofNat nb)), .unset, .unset, .unset, .unset, .unset, .unset, .unset, .unset, .unset, .unset] [(.ref b300), (.ref b300)])) _
  refine own_go (fun _ k => XS.iconst X300.here hx rfl (hb hby at_123) k) ?_
  show own_Go p e below (T300.setTop (mkF m 124 #[.val (.long p1), .second, .val (.long p2), .second, .val (.int p3), .val (.int u0), .val (.int u1), .val (.int u2), .val (.int (Int32.ofNat na)), .val (.int v0), .val (.int v1), .val (.int v2), .val (.int (Int32.ofNat nb)), .unset, .unset, .unset, .unset, .unset, .unset, .unset, .unset, .unset, .unset] [(.int (0 : Int32)), (.ref b300), (.ref b300)])) _
  refine own_go (fun _ k => XS.iload X300.here hx rfl (hb hby at_124) rfl k) ?_
  show own_Go p e below (T300.setTop (mkF m 126 #[.val (.long p1), .second, .val (.long p2), .second, .val (.int p3), .val (.int u0), .val (.int u1), .val (.int u2), .val (.int (Int32.ofNat na)), .val (.int v0), .val (.int v1), .val (.int v2), .val (.int (Int32.ofNat nb)), .unset, .unset, .unset, .unset, .unset, .unset, .unset, .unset, .unset, .unset] [(.int u0), (.int (0 : Int32)), (.ref b300), (.ref b300)])) _
  obtain ⟨c302, A302, q302, S302, M302, Hs302, Gs302⟩ := id V300
  obtain ⟨T303, h303, X303, e303, W303, st303⟩ := stC X300 hx hZ e300 A302 (j := (0 : Int32)) (inb_of S302 ⟨by decide, by decide⟩) (g := (mkF m 126 #[.val (.long p1), .second, .val (.long p2), .second, .val (.int p3), .val (.int u0), .val (.int u1), .val (.int u2), .val (.int (Int32.ofNat na)), .val (.int v0), .val (.int v1), .val (.int v2), .val (.int (Int32.ofNat nb)), .unset, .unset, .unset, .unset, .unset, .unset, .unset, .unset, .unset, .unset] [(.int u0), (.int (0 : Int32)), (.ref b300), (.ref b300)])) rfl rfl (hb hby at_126)
  refine own_go st303 ?_
  have N303 := Fr.snoc X303 N0 (Nat.le_trans Z0 (Nat.le_of_eq g300.symm))
  have f304 := (Safe.ext E300 C0.1 (Safe.new (Nat.le_of_eq g300.symm)))
  have C305 := C301.trans (CHr.wr W303 f304 C301.1)
  have V303 : Arv Z h303 b300 k300 .char (3 : Int32) [(.int (nar .char u0)), (.int (0 : Int32)), (.int (0 : Int32))] (.int (0 : Int32)) := Arv.set A302 q302 S302 M302 Hs302 Gs302 (fits_nar_char _) W303 0 rfl (Nat.le_of_ble_eq_true rfl)
  have V303q : Arv Z h303 b300 k300 .char (3 : Int32) [(.int u0), (.int (0 : Int32)), (.int (0 : Int32))] (.int (0 : Int32)) := by rw [show nar .char u0 = u0 from (own_nc b_u0.1 b_u0.2)] at V303; exact V303
  show own_Go p e below (T303.setTop (mkF m 127 #[.val (.long p1), .second, .val (.long p2), .second, .val (.int p3), .val (.int u0), .val (.int u1), .val (.int u2), .val (.int (Int32.ofNat na)), .val (.int v0), .val (.int v1), .val (.int v2), .val (.int (Int32.ofNat nb)), .unset, .unset, .unset, .unset, .unset, .unset, .unset, .unset, .unset, .unset] [(.ref b300)])) _
  refine own_go (fun _ k => XS.dup X303.here hx rfl (hb hby at_127) rfl rfl k) ?_
  show own_Go p e below (T303.setTop (mkF m 128 #[.val (.long p1), .second, .val (.long p2), .second, .val (.int p3), .val (.int u0), .val (.int u1), .val (.int u2), .val (.int (Int32.ofNat na)), .val (.int v0), .val (.int v1), .val (.int v2), .val (.int (Int32.ofNat nb)), .unset, .unset, .unset, .unset, .unset, .unset, .unset, .unset, .unset, .unset] [(.ref b300), (.ref b300)])) _
  refine own_go (fun _ k => XS.iconst X303.here hx rfl (hb hby at_128) k) ?_
  show own_Go p e below (T303.setTop (mkF m 129 #[.val (.long p1), .second, .val (.long p2), .second, .val (.int p3), .val (.int u0), .val (.int u1), .val (.int u2), .val (.int (Int32.ofNat na)), .val (.int v0), .val (.int v1), .val (.int v2), .val (.int (Int32.ofNat nb)), .unset, .unset, .unset, .unset, .unset, .unset, .unset, .unset, .unset, .unset] [(.int (1 : Int32)), (.ref b300), (.ref b300)])) _
  refine own_go (fun _ k => XS.iload X303.here hx rfl (hb hby at_129) rfl k) ?_
  show own_Go p e below (T303.setTop (mkF m 131 #[.val (.long p1), .second, .val (.long p2), .second, .val (.int p3), .val (.int u0), .val (.int u1), .val (.int u2), .val (.int (Int32.ofNat na)), .val (.int v0), .val (.int v1), .val (.int v2), .val (.int (Int32.ofNat nb)), .unset, .unset, .unset, .unset, .unset, .unset, .unset, .unset, .unset, .unset] [(.int u1), (.int (1 : Int32)), (.ref b300), (.ref b300)])) _
  obtain ⟨c306, A306, q306, S306, M306, Hs306, Gs306⟩ := id V303q
  obtain ⟨T307, h307, X307, e307, W307, st307⟩ := stC X303 hx hZ e303 A306 (j := (1 : Int32)) (inb_of S306 ⟨by decide, by decide⟩) (g := (mkF m 131 #[.val (.long p1), .second, .val (.long p2), .second, .val (.int p3), .val (.int u0), .val (.int u1), .val (.int u2), .val (.int (Int32.ofNat na)), .val (.int v0), .val (.int v1), .val (.int v2), .val (.int (Int32.ofNat nb)), .unset, .unset, .unset, .unset, .unset, .unset, .unset, .unset, .unset, .unset] [(.int u1), (.int (1 : Int32)), (.ref b300), (.ref b300)])) rfl rfl (hb hby at_131)
  refine own_go st307 ?_
  have N307 := Fr.snoc X307 N303 (Nat.le_trans Z0 (Nat.le_of_eq g300.symm))
  have f308 := (Safe.wr W303 f304 C301.1 f304)
  have C309 := C305.trans (CHr.wr W307 f308 C305.1)
  have V307 : Arv Z h307 b300 k300 .char (3 : Int32) [(.int u0), (.int (nar .char u1)), (.int (0 : Int32))] (.int (0 : Int32)) := Arv.set A306 q306 S306 M306 Hs306 Gs306 (fits_nar_char _) W307 1 rfl (Nat.le_of_ble_eq_true rfl)
  have V307q : Arv Z h307 b300 k300 .char (3 : Int32) [(.int u0), (.int u1), (.int (0 : Int32))] (.int (0 : Int32)) := by rw [show nar .char u1 = u1 from (own_nc b_u1.1 b_u1.2)] at V307; exact V307
  show own_Go p e below (T307.setTop (mkF m 132 #[.val (.long p1), .second, .val (.long p2), .second, .val (.int p3), .val (.int u0), .val (.int u1), .val (.int u2), .val (.int (Int32.ofNat na)), .val (.int v0), .val (.int v1), .val (.int v2), .val (.int (Int32.ofNat nb)), .unset, .unset, .unset, .unset, .unset, .unset, .unset, .unset, .unset, .unset] [(.ref b300)])) _
  refine own_go (fun _ k => XS.dup X307.here hx rfl (hb hby at_132) rfl rfl k) ?_
  show own_Go p e below (T307.setTop (mkF m 133 #[.val (.long p1), .second, .val (.long p2), .second, .val (.int p3), .val (.int u0), .val (.int u1), .val (.int u2), .val (.int (Int32.ofNat na)), .val (.int v0), .val (.int v1), .val (.int v2), .val (.int (Int32.ofNat nb)), .unset, .unset, .unset, .unset, .unset, .unset, .unset, .unset, .unset, .unset] [(.ref b300), (.ref b300)])) _
  refine own_go (fun _ k => XS.iconst X307.here hx rfl (hb hby at_133) k) ?_
  show own_Go p e below (T307.setTop (mkF m 134 #[.val (.long p1), .second, .val (.long p2), .second, .val (.int p3), .val (.int u0), .val (.int u1), .val (.int u2), .val (.int (Int32.ofNat na)), .val (.int v0), .val (.int v1), .val (.int v2), .val (.int (Int32.ofNat nb)), .unset, .unset, .unset, .unset, .unset, .unset, .unset, .unset, .unset, .unset] [(.int (2 : Int32)), (.ref b300), (.ref b300)])) _
  refine own_go (fun _ k => XS.iload X307.here hx rfl (hb hby at_134) rfl k) ?_
  show own_Go p e below (T307.setTop (mkF m 136 #[.val (.long p1), .second, .val (.long p2), .second, .val (.int p3), .val (.int u0), .val (.int u1), .val (.int u2), .val (.int (Int32.ofNat na)), .val (.int v0), .val (.int v1), .val (.int v2), .val (.int (Int32.ofNat nb)), .unset, .unset, .unset, .unset, .unset, .unset, .unset, .unset, .unset, .unset] [(.int u2), (.int (2 : Int32)), (.ref b300), (.ref b300)])) _
  obtain ⟨c310, A310, q310, S310, M310, Hs310, Gs310⟩ := id V307q
  obtain ⟨T311, h311, X311, e311, W311, st311⟩ := stC X307 hx hZ e307 A310 (j := (2 : Int32)) (inb_of S310 ⟨by decide, by decide⟩) (g := (mkF m 136 #[.val (.long p1), .second, .val (.long p2), .second, .val (.int p3), .val (.int u0), .val (.int u1), .val (.int u2), .val (.int (Int32.ofNat na)), .val (.int v0), .val (.int v1), .val (.int v2), .val (.int (Int32.ofNat nb)), .unset, .unset, .unset, .unset, .unset, .unset, .unset, .unset, .unset, .unset] [(.int u2), (.int (2 : Int32)), (.ref b300), (.ref b300)])) rfl rfl (hb hby at_136)
  refine own_go st311 ?_
  have N311 := Fr.snoc X311 N307 (Nat.le_trans Z0 (Nat.le_of_eq g300.symm))
  have f312 := (Safe.wr W307 f308 C305.1 f308)
  have C313 := C309.trans (CHr.wr W311 f312 C309.1)
  have V311 : Arv Z h311 b300 k300 .char (3 : Int32) [(.int u0), (.int u1), (.int (nar .char u2))] (.int (0 : Int32)) := Arv.set A310 q310 S310 M310 Hs310 Gs310 (fits_nar_char _) W311 2 rfl (Nat.le_of_ble_eq_true rfl)
  have V311q : Arv Z h311 b300 k300 .char (3 : Int32) [(.int u0), (.int u1), (.int u2)] (.int (0 : Int32)) := by rw [show nar .char u2 = u2 from (own_nc b_u2.1 b_u2.2)] at V311; exact V311
  show own_Go p e below (T311.setTop (mkF m 137 #[.val (.long p1), .second, .val (.long p2), .second, .val (.int p3), .val (.int u0), .val (.int u1), .val (.int u2), .val (.int (Int32.ofNat na)), .val (.int v0), .val (.int v1), .val (.int v2), .val (.int (Int32.ofNat nb)), .unset, .unset, .unset, .unset, .unset, .unset, .unset, .unset, .unset, .unset] [(.ref b300)])) _
  refine own_go (fun _ k => XS.astore X311.here hx rfl (hb hby at_137) rfl rfl (l' := #[.val (.long p1), .second, .val (.long p2), .second, .val (.int p3), .val (.int u0), .val (.int u1), .val (.int u2), .val (.int (Int32.ofNat na)), .val (.int v0), .val (.int v1), .val (.int v2), .val (.int (Int32.ofNat nb)), .val (.ref b300), .unset, .unset, .unset, .unset, .unset, .unset, .unset, .unset, .unset]) rfl k) ?_
  show own_Go p e below (T311.setTop (mkF m 139 #[.val (.long p1), .second, .val (.long p2), .second, .val (.int p3), .val (.int u0), .val (.int u1), .val (.int u2), .val (.int (Int32.ofNat na)), .val (.int v0), .val (.int v1), .val (.int v2), .val (.int (Int32.ofNat nb)), .val (.ref b300), .unset, .unset, .unset, .unset, .unset, .unset, .unset, .unset, .unset] [])) _
  refine own_go (fun _ k => XS.iconst X311.here hx rfl (hb hby at_139) k) ?_
  show own_Go p e below (T311.setTop (mkF m 140 #[.val (.long p1), .second, .val (.long p2), .second, .val (.int p3), .val (.int u0), .val (.int u1), .val (.int u2), .val (.int (Int32.ofNat na)), .val (.int v0), .val (.int v1), .val (.int v2), .val (.int (Int32.ofNat nb)), .val (.ref b300), .unset, .unset, .unset, .unset, .unset, .unset, .unset, .unset, .unset] [(.int (3 : Int32))])) _
  obtain ⟨T314, h314, k314, X314, e314, E314, A314, st314⟩ := newP X311 hx hZ (hw _ (List.mem_of_getElem? (i := 6) rfl)) e311 (g := (mkF m 140 #[.val (.long p1), .second, .val (.long p2), .second, .val (.int p3), .val (.int u0), .val (.int u1), .val (.int u2), .val (.int (Int32.ofNat na)), .val (.int v0), .val (.int v1), .val (.int v2), .val (.int (Int32.ofNat nb)), .val (.ref b300), .unset, .unset, .unset, .unset, .unset, .unset, .unset, .unset, .unset] [(.int (3 : Int32))])) rfl (hb hby at_140) rfl (by decide) (cap := 3) (by decide) (by decide) (by decide) (by decide)
  obtain ⟨b314, g314⟩ : ∃ z, z = h311.size := ⟨_, rfl⟩
  rw [← g314] at A314 st314
  refine own_go st314 ?_
  have C315 := C313.trans (CHr.ext E314 C313.1)
  have V314 : Arv Z h314 b314 k314 .char (3 : Int32) [(.int (0 : Int32)), (.int (0 : Int32)), (.int (0 : Int32))] (.int (0 : Int32)) := (Arv.new A314 (by decide)).pad (pad_rep [] (.int (0 : Int32)) 3)
  show own_Go p e below (T314.setTop (mkF m 142 #[.val (.long p1), .second, .val (.long p2), .second, .val (.int p3), .val (.int u0), .val (.int u1), .val (.int u2), .val (.int (Int32.ofNat na)), .val (.int v0), .val (.int v1), .val (.int v2), .val (.int (Int32.ofNat nb)), .val (.ref b300), .unset, .unset, .unset, .unset, .unset, .unset, .unset, .unset, .unset] [(.ref b314)])) _
  refine own_go (fun _ k => XS.dup X314.here hx rfl (hb hby at_142) rfl rfl k) ?_
  show own_Go p e below (T314.setTop (mkF m 143 #[.val (.long p1), .second, .val (.long p2), .second, .val (.int p3), .val (.int u0), .val (.int u1), .val (.int u2), .val (.int (Int32.ofNat na)), .val (.int v0), .val (.int v1), .val (.int v2), .val (.int (Int32.ofNat nb)), .val (.ref b300), .unset, .unset, .unset, .unset, .unset, .unset, .unset, .unset, .unset] [(.ref b314), (.ref b314)])) _
  refine own_go (fun _ k => XS.iconst X314.here hx rfl (hb hby at_143) k) ?_
  show own_Go p e below (T314.setTop (mkF m 144 #[.val (.long p1), .second, .val (.long p2), .second, .val (.int p3), .val (.int u0), .val (.int u1), .val (.int u2), .val (.int (Int32.ofNat na)), .val (.int v0), .val (.int v1), .val (.int v2), .val (.int (Int32.ofNat nb)), .val (.ref b300), .unset, .unset, .unset, .unset, .unset, .unset, .unset, .unset, .unset] [(.int (0 : Int32)), (.ref b314), (.ref b314)])) _
  refine own_go (fun _ k => XS.iload X314.here hx rfl (hb hby at_144) rfl k) ?_
  show own_Go p e below (T314.setTop (mkF m 146 #[.val (.long p1), .second, .val (.long p2), .second, .val (.int p3), .val (.int u0), .val (.int u1), .val (.int u2), .val (.int (Int32.ofNat na)), .val (.int v0), .val (.int v1), .val (.int v2), .val (.int (Int32.ofNat nb)), .val (.ref b300), .unset, .unset, .unset, .unset, .unset, .unset, .unset, .unset, .unset] [(.int v0), (.int (0 : Int32)), (.ref b314), (.ref b314)])) _
  obtain ⟨c316, A316, q316, S316, M316, Hs316, Gs316⟩ := id V314
  obtain ⟨T317, h317, X317, e317, W317, st317⟩ := stC X314 hx hZ e314 A316 (j := (0 : Int32)) (inb_of S316 ⟨by decide, by decide⟩) (g := (mkF m 146 #[.val (.long p1), .second, .val (.long p2), .second, .val (.int p3), .val (.int u0), .val (.int u1), .val (.int u2), .val (.int (Int32.ofNat na)), .val (.int v0), .val (.int v1), .val (.int v2), .val (.int (Int32.ofNat nb)), .val (.ref b300), .unset, .unset, .unset, .unset, .unset, .unset, .unset, .unset, .unset] [(.int v0), (.int (0 : Int32)), (.ref b314), (.ref b314)])) rfl rfl (hb hby at_146)
  have z318 := (Nat.le_trans (Nat.le_trans (Nat.le_trans E300.1 (Keep.of_wr W303).1) (Keep.of_wr W307).1) (Keep.of_wr W311).1)
  refine own_go st317 ?_
  have N317 := Fr.snoc X317 N311 (Nat.le_trans Z0 (Nat.le_trans z318 (Nat.le_of_eq g314.symm)))
  have f319 := (Safe.ext E314 C313.1 (Safe.new (Nat.le_of_eq g314.symm)))
  have C320 := C315.trans (CHr.wr W317 f319 C315.1)
  have V317 : Arv Z h317 b314 k314 .char (3 : Int32) [(.int (nar .char v0)), (.int (0 : Int32)), (.int (0 : Int32))] (.int (0 : Int32)) := Arv.set A316 q316 S316 M316 Hs316 Gs316 (fits_nar_char _) W317 0 rfl (Nat.le_of_ble_eq_true rfl)
  have V317q : Arv Z h317 b314 k314 .char (3 : Int32) [(.int v0), (.int (0 : Int32)), (.int (0 : Int32))] (.int (0 : Int32)) := by rw [show nar .char v0 = v0 from (own_nc b_v0.1 b_v0.2)] at V317; exact V317
  show own_Go p e below (T317.setTop (mkF m 147 #[.val (.long p1), .second, .val (.long p2), .second, .val (.int p3), .val (.int u0), .val (.int u1), .val (.int u2), .val (.int (Int32.ofNat na)), .val (.int v0), .val (.int v1), .val (.int v2), .val (.int (Int32.ofNat nb)), .val (.ref b300), .unset, .unset, .unset, .unset, .unset, .unset, .unset, .unset, .unset] [(.ref b314)])) _
  refine own_go (fun _ k => XS.dup X317.here hx rfl (hb hby at_147) rfl rfl k) ?_
  show own_Go p e below (T317.setTop (mkF m 148 #[.val (.long p1), .second, .val (.long p2), .second, .val (.int p3), .val (.int u0), .val (.int u1), .val (.int u2), .val (.int (Int32.ofNat na)), .val (.int v0), .val (.int v1), .val (.int v2), .val (.int (Int32.ofNat nb)), .val (.ref b300), .unset, .unset, .unset, .unset, .unset, .unset, .unset, .unset, .unset] [(.ref b314), (.ref b314)])) _
  refine own_go (fun _ k => XS.iconst X317.here hx rfl (hb hby at_148) k) ?_
  show own_Go p e below (T317.setTop (mkF m 149 #[.val (.long p1), .second, .val (.long p2), .second, .val (.int p3), .val (.int u0), .val (.int u1), .val (.int u2), .val (.int (Int32.ofNat na)), .val (.int v0), .val (.int v1), .val (.int v2), .val (.int (Int32.ofNat nb)), .val (.ref b300), .unset, .unset, .unset, .unset, .unset, .unset, .unset, .unset, .unset] [(.int (1 : Int32)), (.ref b314), (.ref b314)])) _
  refine own_go (fun _ k => XS.iload X317.here hx rfl (hb hby at_149) rfl k) ?_
  show own_Go p e below (T317.setTop (mkF m 151 #[.val (.long p1), .second, .val (.long p2), .second, .val (.int p3), .val (.int u0), .val (.int u1), .val (.int u2), .val (.int (Int32.ofNat na)), .val (.int v0), .val (.int v1), .val (.int v2), .val (.int (Int32.ofNat nb)), .val (.ref b300), .unset, .unset, .unset, .unset, .unset, .unset, .unset, .unset, .unset] [(.int v1), (.int (1 : Int32)), (.ref b314), (.ref b314)])) _
  obtain ⟨c321, A321, q321, S321, M321, Hs321, Gs321⟩ := id V317q
  obtain ⟨T322, h322, X322, e322, W322, st322⟩ := stC X317 hx hZ e317 A321 (j := (1 : Int32)) (inb_of S321 ⟨by decide, by decide⟩) (g := (mkF m 151 #[.val (.long p1), .second, .val (.long p2), .second, .val (.int p3), .val (.int u0), .val (.int u1), .val (.int u2), .val (.int (Int32.ofNat na)), .val (.int v0), .val (.int v1), .val (.int v2), .val (.int (Int32.ofNat nb)), .val (.ref b300), .unset, .unset, .unset, .unset, .unset, .unset, .unset, .unset, .unset] [(.int v1), (.int (1 : Int32)), (.ref b314), (.ref b314)])) rfl rfl (hb hby at_151)
  refine own_go st322 ?_
  have N322 := Fr.snoc X322 N317 (Nat.le_trans Z0 (Nat.le_trans z318 (Nat.le_of_eq g314.symm)))
  have f323 := (Safe.wr W317 f319 C315.1 f319)
  have C324 := C320.trans (CHr.wr W322 f323 C320.1)
  have V322 : Arv Z h322 b314 k314 .char (3 : Int32) [(.int v0), (.int (nar .char v1)), (.int (0 : Int32))] (.int (0 : Int32)) := Arv.set A321 q321 S321 M321 Hs321 Gs321 (fits_nar_char _) W322 1 rfl (Nat.le_of_ble_eq_true rfl)
  have V322q : Arv Z h322 b314 k314 .char (3 : Int32) [(.int v0), (.int v1), (.int (0 : Int32))] (.int (0 : Int32)) := by rw [show nar .char v1 = v1 from (own_nc b_v1.1 b_v1.2)] at V322; exact V322
  show own_Go p e below (T322.setTop (mkF m 152 #[.val (.long p1), .second, .val (.long p2), .second, .val (.int p3), .val (.int u0), .val (.int u1), .val (.int u2), .val (.int (Int32.ofNat na)), .val (.int v0), .val (.int v1), .val (.int v2), .val (.int (Int32.ofNat nb)), .val (.ref b300), .unset, .unset, .unset, .unset, .unset, .unset, .unset, .unset, .unset] [(.ref b314)])) _
  refine own_go (fun _ k => XS.dup X322.here hx rfl (hb hby at_152) rfl rfl k) ?_
  show own_Go p e below (T322.setTop (mkF m 153 #[.val (.long p1), .second, .val (.long p2), .second, .val (.int p3), .val (.int u0), .val (.int u1), .val (.int u2), .val (.int (Int32.ofNat na)), .val (.int v0), .val (.int v1), .val (.int v2), .val (.int (Int32.ofNat nb)), .val (.ref b300), .unset, .unset, .unset, .unset, .unset, .unset, .unset, .unset, .unset] [(.ref b314), (.ref b314)])) _
  refine own_go (fun _ k => XS.iconst X322.here hx rfl (hb hby at_153) k) ?_
  show own_Go p e below (T322.setTop (mkF m 154 #[.val (.long p1), .second, .val (.long p2), .second, .val (.int p3), .val (.int u0), .val (.int u1), .val (.int u2), .val (.int (Int32.ofNat na)), .val (.int v0), .val (.int v1), .val (.int v2), .val (.int (Int32.ofNat nb)), .val (.ref b300), .unset, .unset, .unset, .unset, .unset, .unset, .unset, .unset, .unset] [(.int (2 : Int32)), (.ref b314), (.ref b314)])) _
  refine own_go (fun _ k => XS.iload X322.here hx rfl (hb hby at_154) rfl k) ?_
  show own_Go p e below (T322.setTop (mkF m 156 #[.val (.long p1), .second, .val (.long p2), .second, .val (.int p3), .val (.int u0), .val (.int u1), .val (.int u2), .val (.int (Int32.ofNat na)), .val (.int v0), .val (.int v1), .val (.int v2), .val (.int (Int32.ofNat nb)), .val (.ref b300), .unset, .unset, .unset, .unset, .unset, .unset, .unset, .unset, .unset] [(.int v2), (.int (2 : Int32)), (.ref b314), (.ref b314)])) _
  obtain ⟨c325, A325, q325, S325, M325, Hs325, Gs325⟩ := id V322q
  obtain ⟨T326, h326, X326, e326, W326, st326⟩ := stC X322 hx hZ e322 A325 (j := (2 : Int32)) (inb_of S325 ⟨by decide, by decide⟩) (g := (mkF m 156 #[.val (.long p1), .second, .val (.long p2), .second, .val (.int p3), .val (.int u0), .val (.int u1), .val (.int u2), .val (.int (Int32.ofNat na)), .val (.int v0), .val (.int v1), .val (.int v2), .val (.int (Int32.ofNat nb)), .val (.ref b300), .unset, .unset, .unset, .unset, .unset, .unset, .unset, .unset, .unset] [(.int v2), (.int (2 : Int32)), (.ref b314), (.ref b314)])) rfl rfl (hb hby at_156)
  refine own_go st326 ?_
  have N326 := Fr.snoc X326 N322 (Nat.le_trans Z0 (Nat.le_trans z318 (Nat.le_of_eq g314.symm)))
  have f327 := (Safe.wr W322 f323 C320.1 f323)
  have C328 := C324.trans (CHr.wr W326 f327 C324.1)
  have V326 : Arv Z h326 b314 k314 .char (3 : Int32) [(.int v0), (.int v1), (.int (nar .char v2))] (.int (0 : Int32)) := Arv.set A325 q325 S325 M325 Hs325 Gs325 (fits_nar_char _) W326 2 rfl (Nat.le_of_ble_eq_true rfl)
  have V326q : Arv Z h326 b314 k314 .char (3 : Int32) [(.int v0), (.int v1), (.int v2)] (.int (0 : Int32)) := by rw [show nar .char v2 = v2 from (own_nc b_v2.1 b_v2.2)] at V326; exact V326
  show own_Go p e below (T326.setTop (mkF m 157 #[.val (.long p1), .second, .val (.long p2), .second, .val (.int p3), .val (.int u0), .val (.int u1), .val (.int u2), .val (.int (Int32.ofNat na)), .val (.int v0), .val (.int v1), .val (.int v2), .val (.int (Int32.ofNat nb)), .val (.ref b300), .unset, .unset, .unset, .unset, .unset, .unset, .unset, .unset, .unset] [(.ref b314)])) _
  refine own_go (fun _ k => XS.astore X326.here hx rfl (hb hby at_157) rfl rfl (l' := #[.val (.long p1), .second, .val (.long p2), .second, .val (.int p3), .val (.int u0), .val (.int u1), .val (.int u2), .val (.int (Int32.ofNat na)), .val (.int v0), .val (.int v1), .val (.int v2), .val (.int (Int32.ofNat nb)), .val (.ref b300), .val (.ref b314), .unset, .unset, .unset, .unset, .unset, .unset, .unset, .unset]) rfl k) ?_
  show own_Go p e below (T326.setTop (mkF m 159 #[.val (.long p1), .second, .val (.long p2), .second, .val (.int p3), .val (.int u0), .val (.int u1), .val (.int u2), .val (.int (Int32.ofNat na)), .val (.int v0), .val (.int v1), .val (.int v2), .val (.int (Int32.ofNat nb)), .val (.ref b300), .val (.ref b314), .unset, .unset, .unset, .unset, .unset, .unset, .unset, .unset] [])) _
  refine own_go (fun _ k => XS.iload X326.here hx rfl (hb hby at_159) rfl k) ?_
  show own_Go p e below (T326.setTop (mkF m 161 #[.val (.long p1), .second, .val (.long p2), .second, .val (.int p3), .val (.int u0), .val (.int u1), .val (.int u2), .val (.int (Int32.ofNat na)), .val (.int v0), .val (.int v1), .val (.int v2), .val (.int (Int32.ofNat nb)), .val (.ref b300), .val (.ref b314), .unset, .unset, .unset, .unset, .unset, .unset, .unset, .unset] [(.int u0)])) _
  refine own_go (fun _ k => XS.iload X326.here hx rfl (hb hby at_161) rfl k) ?_
  show own_Go p e below (T326.setTop (mkF m 163 #[.val (.long p1), .second, .val (.long p2), .second, .val (.int p3), .val (.int u0), .val (.int u1), .val (.int u2), .val (.int (Int32.ofNat na)), .val (.int v0), .val (.int v1), .val (.int v2), .val (.int (Int32.ofNat nb)), .val (.ref b300), .val (.ref b314), .unset, .unset, .unset, .unset, .unset, .unset, .unset, .unset] [(.int u1), (.int u0)])) _
  refine own_go (fun _ k => XS.iload X326.here hx rfl (hb hby at_163) rfl k) ?_
  show own_Go p e below (T326.setTop (mkF m 165 #[.val (.long p1), .second, .val (.long p2), .second, .val (.int p3), .val (.int u0), .val (.int u1), .val (.int u2), .val (.int (Int32.ofNat na)), .val (.int v0), .val (.int v1), .val (.int v2), .val (.int (Int32.ofNat nb)), .val (.ref b300), .val (.ref b314), .unset, .unset, .unset, .unset, .unset, .unset, .unset, .unset] [(.int u2), (.int u1), (.int u0)])) _
  refine own_go (fun _ k => XS.iload X326.here hx rfl (hb hby at_165) rfl k) ?_
  show own_Go p e below (T326.setTop (mkF m 167 #[.val (.long p1), .second, .val (.long p2), .second, .val (.int p3), .val (.int u0), .val (.int u1), .val (.int u2), .val (.int (Int32.ofNat na)), .val (.int v0), .val (.int v1), .val (.int v2), .val (.int (Int32.ofNat nb)), .val (.ref b300), .val (.ref b314), .unset, .unset, .unset, .unset, .unset, .unset, .unset, .unset] [(.int (Int32.ofNat na)), (.int u2), (.int u1), (.int u0)])) _
  have f329 := ((((((((O1.ext E300).wr W303 (Nat.le_trans Z0 (Nat.le_of_eq g300.symm))).wr W307 (Nat.le_trans Z0 (Nat.le_of_eq g300.symm))).wr W311 (Nat.le_trans Z0 (Nat.le_of_eq g300.symm))).ext E314).wr W317 (Nat.le_trans Z0 (Nat.le_trans z318 (Nat.le_of_eq g314.symm)))).wr W322 (Nat.le_trans Z0 (Nat.le_trans z318 (Nat.le_of_eq g314.symm)))).wr W326 (Nat.le_trans Z0 (Nat.le_trans z318 (Nat.le_of_eq g314.symm))))
  obtain ⟨v330, _, ⟨T330, L330, k330, n330⟩, -, X330, hS330, hg330, ⟨Lc330, hQ330, l330, y330, z330, A330⟩, st330⟩ := callSS X326 hx (y := (⟨"com/example/rolelattice/rolelattice/decision/CodePointsComparePinLaw", "mk", "(CCCI)Ljava/lang/String;"⟩ : MethodName)) hown (mvT hZ (hw _ (List.mem_of_getElem? (i := 7) rfl))) (mvT hZ (hw _ (List.mem_of_getElem? (i := 8) rfl))) (mvT hZ (hw _ (List.mem_of_getElem? (i := 2) rfl))) (mvT hZ (hw _ (List.mem_of_getElem? (i := 9) rfl))) (by decide) (backOfSH (W := 0) (rm_mk l Z a0 hw [] u0 u1 u2 na G1 G3 h326 n0 f329 O2 P5 O4 rG3 OA OH OL b_u0 b_u1 b_u2 hna) hZ (hw _ (List.mem_of_getElem? (i := 9) rfl)) (hw _ (List.mem_of_getElem? (i := 2) rfl)) (by decide) (by decide) own_hEL C328.1) (g := (mkF m 167 #[.val (.long p1), .second, .val (.long p2), .second, .val (.int p3), .val (.int u0), .val (.int u1), .val (.int u2), .val (.int (Int32.ofNat na)), .val (.int v0), .val (.int v1), .val (.int v2), .val (.int (Int32.ofNat nb)), .val (.ref b300), .val (.ref b314), .unset, .unset, .unset, .unset, .unset, .unset, .unset, .unset] [(.int (Int32.ofNat na)), (.int u2), (.int u1), (.int u0)])) rfl (by rw [hml]; rfl) (argsL := [(.int u0), (.int u1), (.int u2), (.int (Int32.ofNat na))]) (rest := []) (lenOf pd_20 rfl) rfl (by show 2 * 0 + _ ≤ _; exact Nat.le_of_eq rfl) (hb hby at_167) (fun _ _ => ⟨rfl, e326, (by decide : 2 + 6 ≤ _), (by decide : 6 + 16 ≤ _)⟩)
  dsimp only [Pt.U, Pt.locs, Pt.cells, Pt.slots] at X330 l330 y330 z330 st330 hQ330 hS330 hg330 A330
  subst l330 y330 z330
  refine own_gos st330 ?_
  have z331 := (Nat.le_trans (Nat.le_trans (Nat.le_trans (Nat.le_trans z318 E314.1) (Keep.of_wr W317).1) (Keep.of_wr W322).1) (Keep.of_wr W326).1)
  obtain ⟨X330, hS330, hZ330, hown330⟩ := rebS hS0 (k0 := _) (n1 := T326.heap.size) (by rw [e326]; exact (Nat.le_trans hk0 z331)) X330 hS330 hg330 hZ hown
  obtain ⟨x330, t330, kt330, cd330, N2330, vs330, rfl, Nq330, K330, xg330, Ex330, Fv330, Fc330, Vt330, hC330⟩ := hQ330
  have C332 := C328.trans A330
  have N330 := Fr.app N326 Nq330
  show own_Go p e below (T330.setTop (mkF m 170 #[.val (.long p1), .second, .val (.long p2), .second, .val (.int p3), .val (.int u0), .val (.int u1), .val (.int u2), .val (.int (Int32.ofNat na)), .val (.int v0), .val (.int v1), .val (.int v2), .val (.int (Int32.ofNat nb)), .val (.ref b300), .val (.ref b314), .unset, .unset, .unset, .unset, .unset, .unset, .unset, .unset] [(.ref x330)])) _
  refine own_go (fun _ k => XS.astore X330.here hx rfl (hb hby at_170) rfl rfl (l' := #[.val (.long p1), .second, .val (.long p2), .second, .val (.int p3), .val (.int u0), .val (.int u1), .val (.int u2), .val (.int (Int32.ofNat na)), .val (.int v0), .val (.int v1), .val (.int v2), .val (.int (Int32.ofNat nb)), .val (.ref b300), .val (.ref b314), .val (.ref x330), .unset, .unset, .unset, .unset, .unset, .unset, .unset]) rfl k) ?_
  show own_Go p e below (T330.setTop (mkF m 172 #[.val (.long p1), .second, .val (.long p2), .second, .val (.int p3), .val (.int u0), .val (.int u1), .val (.int u2), .val (.int (Int32.ofNat na)), .val (.int v0), .val (.int v1), .val (.int v2), .val (.int (Int32.ofNat nb)), .val (.ref b300), .val (.ref b314), .val (.ref x330), .unset, .unset, .unset, .unset, .unset, .unset, .unset] [])) _
  refine own_go (fun _ k => XS.iload X330.here hx rfl (hb hby at_172) rfl k) ?_
  show own_Go p e below (T330.setTop (mkF m 174 #[.val (.long p1), .second, .val (.long p2), .second, .val (.int p3), .val (.int u0), .val (.int u1), .val (.int u2), .val (.int (Int32.ofNat na)), .val (.int v0), .val (.int v1), .val (.int v2), .val (.int (Int32.ofNat nb)), .val (.ref b300), .val (.ref b314), .val (.ref x330), .unset, .unset, .unset, .unset, .unset, .unset, .unset] [(.int v0)])) _
  refine own_go (fun _ k => XS.iload X330.here hx rfl (hb hby at_174) rfl k) ?_
  show own_Go p e below (T330.setTop (mkF m 176 #[.val (.long p1), .second, .val (.long p2), .second, .val (.int p3), .val (.int u0), .val (.int u1), .val (.int u2), .val (.int (Int32.ofNat na)), .val (.int v0), .val (.int v1), .val (.int v2), .val (.int (Int32.ofNat nb)), .val (.ref b300), .val (.ref b314), .val (.ref x330), .unset, .unset, .unset, .unset, .unset, .unset, .unset] [(.int v1), (.int v0)])) _
  refine own_go (fun _ k => XS.iload X330.here hx rfl (hb hby at_176) rfl k) ?_
  show own_Go p e below (T330.setTop (mkF m 178 #[.val (.long p1), .second, .val (.long p2), .second, .val (.int p3), .val (.int u0), .val (.int u1), .val (.int u2), .val (.int (Int32.ofNat na)), .val (.int v0), .val (.int v1), .val (.int v2), .val (.int (Int32.ofNat nb)), .val (.ref b300), .val (.ref b314), .val (.ref x330), .unset, .unset, .unset, .unset, .unset, .unset, .unset] [(.int v2), (.int v1), (.int v0)])) _
  refine own_go (fun _ k => XS.iload X330.here hx rfl (hb hby at_178) rfl k) ?_
  show own_Go p e below (T330.setTop (mkF m 180 #[.val (.long p1), .second, .val (.long p2), .second, .val (.int p3), .val (.int u0), .val (.int u1), .val (.int u2), .val (.int (Int32.ofNat na)), .val (.int v0), .val (.int v1), .val (.int v2), .val (.int (Int32.ofNat nb)), .val (.ref b300), .val (.ref b314), .val (.ref x330), .unset, .unset, .unset, .unset, .unset, .unset, .unset] [(.int (Int32.ofNat nb)), (.int v2), (.int v1), (.int v0)])) _
  obtain ⟨v333, _, ⟨T333, L333, k333, n333⟩, -, X333, hS333, hg333, ⟨Lc333, hQ333, l333, y333, z333, A333⟩, st333⟩ := callSS X330 hx (y := (⟨"com/example/rolelattice/rolelattice/decision/CodePointsComparePinLaw", "mk", "(CCCI)Ljava/lang/String;"⟩ : MethodName)) hown330 (mvT hZ330 (hw _ (List.mem_of_getElem? (i := 7) rfl))) (mvT hZ330 (hw _ (List.mem_of_getElem? (i := 8) rfl))) (mvT hZ330 (hw _ (List.mem_of_getElem? (i := 2) rfl))) (mvT hZ330 (hw _ (List.mem_of_getElem? (i := 9) rfl))) (by decide) (backOfSH (W := 0) (rm_mk l Z a0 hw [] v0 v1 v2 nb G1 G3 T330.heap n0 (f329.keep K330 all0) O2 P5 O4 rG3 OA OH OL b_v0 b_v1 b_v2 hnb) hZ330 (hw _ (List.mem_of_getElem? (i := 9) rfl)) (hw _ (List.mem_of_getElem? (i := 2) rfl)) (by decide) (by decide) own_hEL C332.1) (g := (mkF m 180 #[.val (.long p1), .second, .val (.long p2), .second, .val (.int p3), .val (.int u0), .val (.int u1), .val (.int u2), .val (.int (Int32.ofNat na)), .val (.int v0), .val (.int v1), .val (.int v2), .val (.int (Int32.ofNat nb)), .val (.ref b300), .val (.ref b314), .val (.ref x330), .unset, .unset, .unset, .unset, .unset, .unset, .unset] [(.int (Int32.ofNat nb)), (.int v2), (.int v1), (.int v0)])) rfl (by rw [hml]; rfl) (argsL := [(.int v0), (.int v1), (.int v2), (.int (Int32.ofNat nb))]) (rest := []) (lenOf pd_20 rfl) rfl (by show 2 * 0 + _ ≤ _; exact Nat.le_of_eq rfl) (hb hby at_180) (fun _ _ => ⟨rfl, (rfl : T330.heap = T330.heap), (by decide : 8 + 6 ≤ _), (by decide : 22 + 16 ≤ _)⟩)
  dsimp only [Pt.U, Pt.locs, Pt.cells, Pt.slots] at X333 l333 y333 z333 st333 hQ333 hS333 hg333 A333
  subst l333 y333 z333
  refine own_gos st333 ?_
  obtain ⟨X333, hS333, hZ333, hown333⟩ := rebS hS330 (k0 := _) (n1 := T330.heap.size) (by rw [(rfl : T330.heap = T330.heap)]; exact (Nat.le_refl _)) X333 hS333 hg333 hZ330 hown330
  obtain ⟨x333, t333, kt333, cd333, N2333, vs333, rfl, Nq333, K333, xg333, Ex333, Fv333, Fc333, Vt333, hC333⟩ := hQ333
  have C334 := C332.trans A333
  have N333 := Fr.app N330 Nq333
  show own_Go p e below (T333.setTop (mkF m 183 #[.val (.long p1), .second, .val (.long p2), .second, .val (.int p3), .val (.int u0), .val (.int u1), .val (.int u2), .val (.int (Int32.ofNat na)), .val (.int v0), .val (.int v1), .val (.int v2), .val (.int (Int32.ofNat nb)), .val (.ref b300), .val (.ref b314), .val (.ref x330), .unset, .unset, .unset, .unset, .unset, .unset, .unset] [(.ref x333)])) _
  refine own_go (fun _ k => XS.astore X333.here hx rfl (hb hby at_183) rfl rfl (l' := #[.val (.long p1), .second, .val (.long p2), .second, .val (.int p3), .val (.int u0), .val (.int u1), .val (.int u2), .val (.int (Int32.ofNat na)), .val (.int v0), .val (.int v1), .val (.int v2), .val (.int (Int32.ofNat nb)), .val (.ref b300), .val (.ref b314), .val (.ref x330), .val (.ref x333), .unset, .unset, .unset, .unset, .unset, .unset]) rfl k) ?_
  show own_Go p e below (T333.setTop (mkF m 185 #[.val (.long p1), .second, .val (.long p2), .second, .val (.int p3), .val (.int u0), .val (.int u1), .val (.int u2), .val (.int (Int32.ofNat na)), .val (.int v0), .val (.int v1), .val (.int v2), .val (.int (Int32.ofNat nb)), .val (.ref b300), .val (.ref b314), .val (.ref x330), .val (.ref x333), .unset, .unset, .unset, .unset, .unset, .unset] [])) _
  refine own_go (fun _ k => XS.aload X333.here hx rfl (hb hby at_185) rfl rfl k) ?_
  show own_Go p e below (T333.setTop (mkF m 187 #[.val (.long p1), .second, .val (.long p2), .second, .val (.int p3), .val (.int u0), .val (.int u1), .val (.int u2), .val (.int (Int32.ofNat na)), .val (.int v0), .val (.int v1), .val (.int v2), .val (.int (Int32.ofNat nb)), .val (.ref b300), .val (.ref b314), .val (.ref x330), .val (.ref x333), .unset, .unset, .unset, .unset, .unset, .unset] [(.ref x330)])) _
  refine own_go (fun _ k => XS.aload X333.here hx rfl (hb hby at_187) rfl rfl k) ?_
  show own_Go p e below (T333.setTop (mkF m 189 #[.val (.long p1), .second, .val (.long p2), .second, .val (.int p3), .val (.int u0), .val (.int u1), .val (.int u2), .val (.int (Int32.ofNat na)), .val (.int v0), .val (.int v1), .val (.int v2), .val (.int (Int32.ofNat nb)), .val (.ref b300), .val (.ref b314), .val (.ref x330), .val (.ref x333), .unset, .unset, .unset, .unset, .unset, .unset] [(.ref x333), (.ref x330)])) _
  have f335 := ((f329.keep K330 all0).keep K333 all0)
  obtain ⟨v336, _, ⟨T336, L336, k336, n336⟩, -, X336, ⟨Lc336, hQ336, l336, y336, z336⟩, st336⟩ := Jvm.LawKit.callS X333 hx (y := (⟨"com/example/rolelattice/rolelattice/decision/CodePoints", "compare", "(Ljava/lang/String;Ljava/lang/String;)I"⟩ : MethodName)) hown333 (mvT hZ333 (hw _ (List.mem_of_getElem? (i := 31) rfl))) (mvT hZ333 (hw _ (List.mem_of_getElem? (i := 32) rfl))) (mvT hZ333 (hw _ (List.mem_of_getElem? (i := 33) rfl))) (mvT hZ333 (hw _ (List.mem_of_getElem? (i := 34) rfl))) (by decide) (backOf (W := 0) (rm_cmp l Z a0 hw [] x330 t330 kt330 (([u0, u1, u2] : List Int32).take na) cd330 N2330 vs330 x333 t333 kt333 (([v0, v1, v2] : List Int32).take nb) cd333 N2333 vs333 G1 G3 T333.heap n0 f335 O2 P5 O4 rG3 OA OH OL (Ex330.keep K333) (Fv330.keep K333 nin0) (Fc330.keep K333 nin0) (Vt330.keep K333 nin0) hC330 (own_okT b_u0 b_u1 b_u2) Ex333 Fv333 Fc333 Vt333 hC333 (own_okT b_v0 b_v1 b_v2)) hZ333 (hw _ (List.mem_of_getElem? (i := 34) rfl)) (hw _ (List.mem_of_getElem? (i := 33) rfl)) (by decide) (by decide)) (g := (mkF m 189 #[.val (.long p1), .second, .val (.long p2), .second, .val (.int p3), .val (.int u0), .val (.int u1), .val (.int u2), .val (.int (Int32.ofNat na)), .val (.int v0), .val (.int v1), .val (.int v2), .val (.int (Int32.ofNat nb)), .val (.ref b300), .val (.ref b314), .val (.ref x330), .val (.ref x333), .unset, .unset, .unset, .unset, .unset, .unset] [(.ref x333), (.ref x330)])) rfl (by rw [hml]; rfl) (argsL := [(.ref x330), (.ref x333)]) (rest := []) (lenOf pd_21 rfl) rfl (by show 2 * 0 + _ ≤ _; exact Nat.le_of_eq rfl) (hb hby at_189) (fun _ _ => ⟨rfl, (rfl : T333.heap = T333.heap), (by decide : 14 + 0 ≤ _), (by decide : 38 + 0 ≤ _)⟩)
  dsimp only [Pt.U, Pt.locs, Pt.cells, Pt.slots] at X336 l336 y336 z336 st336 hQ336
  subst l336 y336 z336
  refine own_go st336 ?_
  obtain ⟨r336, rfl, Nq336, e336, hr336⟩ := hQ336
  have N336 := Fr.app N333 Nq336
  show own_Go p e below (T336.setTop (mkF m 192 #[.val (.long p1), .second, .val (.long p2), .second, .val (.int p3), .val (.int u0), .val (.int u1), .val (.int u2), .val (.int (Int32.ofNat na)), .val (.int v0), .val (.int v1), .val (.int v2), .val (.int (Int32.ofNat nb)), .val (.ref b300), .val (.ref b314), .val (.ref x330), .val (.ref x333), .unset, .unset, .unset, .unset, .unset, .unset] [(.int r336)])) _
  refine own_go (fun _ k => XS.istore X336.here hx rfl (hb hby at_192) rfl (l' := #[.val (.long p1), .second, .val (.long p2), .second, .val (.int p3), .val (.int u0), .val (.int u1), .val (.int u2), .val (.int (Int32.ofNat na)), .val (.int v0), .val (.int v1), .val (.int v2), .val (.int (Int32.ofNat nb)), .val (.ref b300), .val (.ref b314), .val (.ref x330), .val (.ref x333), .val (.int r336), .unset, .unset, .unset, .unset, .unset]) rfl k) ?_
  show own_Go p e below (T336.setTop (mkF m 194 #[.val (.long p1), .second, .val (.long p2), .second, .val (.int p3), .val (.int u0), .val (.int u1), .val (.int u2), .val (.int (Int32.ofNat na)), .val (.int v0), .val (.int v1), .val (.int v2), .val (.int (Int32.ofNat nb)), .val (.ref b300), .val (.ref b314), .val (.ref x330), .val (.ref x333), .val (.int r336), .unset, .unset, .unset, .unset, .unset] [])) _
  refine own_go (fun _ k => XS.iconst X336.here hx rfl (hb hby at_194) k) ?_
  show own_Go p e below (T336.setTop (mkF m 195 #[.val (.long p1), .second, .val (.long p2), .second, .val (.int p3), .val (.int u0), .val (.int u1), .val (.int u2), .val (.int (Int32.ofNat na)), .val (.int v0), .val (.int v1), .val (.int v2), .val (.int (Int32.ofNat nb)), .val (.ref b300), .val (.ref b314), .val (.ref x330), .val (.ref x333), .val (.int r336), .unset, .unset, .unset, .unset, .unset] [(.int (3 : Int32))])) _
  obtain ⟨T337, h337, k337, X337, e337, E337, A337, st337⟩ := newP X336 hx hZ333 (hw _ (List.mem_of_getElem? (i := 50) rfl)) e336 (g := (mkF m 195 #[.val (.long p1), .second, .val (.long p2), .second, .val (.int p3), .val (.int u0), .val (.int u1), .val (.int u2), .val (.int (Int32.ofNat na)), .val (.int v0), .val (.int v1), .val (.int v2), .val (.int (Int32.ofNat nb)), .val (.ref b300), .val (.ref b314), .val (.ref x330), .val (.ref x333), .val (.int r336), .unset, .unset, .unset, .unset, .unset] [(.int (3 : Int32))])) rfl (hb hby at_195) rfl (by decide) (cap := 3) (by decide) (by decide) (by decide) (by decide)
  obtain ⟨b337, g337⟩ : ∃ z, z = T333.heap.size := ⟨_, rfl⟩
  rw [← g337] at A337 st337
  refine own_go st337 ?_
  have C338 := C334.trans (CHr.ext E337 C334.1)
  have V337 : Arv Z h337 b337 k337 .int (3 : Int32) [(.int (0 : Int32)), (.int (0 : Int32)), (.int (0 : Int32))] (.int (0 : Int32)) := (Arv.new A337 (by decide)).pad (pad_rep [] (.int (0 : Int32)) 3)
  show own_Go p e below (T337.setTop (mkF m 197 #[.val (.long p1), .second, .val (.long p2), .second, .val (.int p3), .val (.int u0), .val (.int u1), .val (.int u2), .val (.int (Int32.ofNat na)), .val (.int v0), .val (.int v1), .val (.int v2), .val (.int (Int32.ofNat nb)), .val (.ref b300), .val (.ref b314), .val (.ref x330), .val (.ref x333), .val (.int r336), .unset, .unset, .unset, .unset, .unset] [(.ref b337)])) _
  refine own_go (fun _ k => XS.astore X337.here hx rfl (hb hby at_197) rfl rfl (l' := #[.val (.long p1), .second, .val (.long p2), .second, .val (.int p3), .val (.int u0), .val (.int u1), .val (.int u2), .val (.int (Int32.ofNat na)), .val (.int v0), .val (.int v1), .val (.int v2), .val (.int (Int32.ofNat nb)), .val (.ref b300), .val (.ref b314), .val (.ref x330), .val (.ref x333), .val (.int r336), .val (.ref b337), .unset, .unset, .unset, .unset]) rfl k) ?_
  show own_Go p e below (T337.setTop (mkF m 199 #[.val (.long p1), .second, .val (.long p2), .second, .val (.int p3), .val (.int u0), .val (.int u1), .val (.int u2), .val (.int (Int32.ofNat na)), .val (.int v0), .val (.int v1), .val (.int v2), .val (.int (Int32.ofNat nb)), .val (.ref b300), .val (.ref b314), .val (.ref x330), .val (.ref x333), .val (.int r336), .val (.ref b337), .unset, .unset, .unset, .unset] [])) _
  refine own_go (fun _ k => XS.iconst X337.here hx rfl (hb hby at_199) k) ?_
  show own_Go p e below (T337.setTop (mkF m 200 #[.val (.long p1), .second, .val (.long p2), .second, .val (.int p3), .val (.int u0), .val (.int u1), .val (.int u2), .val (.int (Int32.ofNat na)), .val (.int v0), .val (.int v1), .val (.int v2), .val (.int (Int32.ofNat nb)), .val (.ref b300), .val (.ref b314), .val (.ref x330), .val (.ref x333), .val (.int r336), .val (.ref b337), .unset, .unset, .unset, .unset] [(.int (3 : Int32))])) _
  obtain ⟨T339, h339, k339, X339, e339, E339, A339, st339⟩ := newP X337 hx hZ333 (hw _ (List.mem_of_getElem? (i := 50) rfl)) e337 (g := (mkF m 200 #[.val (.long p1), .second, .val (.long p2), .second, .val (.int p3), .val (.int u0), .val (.int u1), .val (.int u2), .val (.int (Int32.ofNat na)), .val (.int v0), .val (.int v1), .val (.int v2), .val (.int (Int32.ofNat nb)), .val (.ref b300), .val (.ref b314), .val (.ref x330), .val (.ref x333), .val (.int r336), .val (.ref b337), .unset, .unset, .unset, .unset] [(.int (3 : Int32))])) rfl (hb hby at_200) rfl (by decide) (cap := 3) (by decide) (by decide) (by decide) (by decide)
  obtain ⟨b339, g339⟩ : ∃ z, z = h337.size := ⟨_, rfl⟩
  rw [← g339] at A339 st339
  refine own_go st339 ?_
  have C340 := C338.trans (CHr.ext E339 C338.1)
  have V339 : Arv Z h339 b339 k339 .int (3 : Int32) [(.int (0 : Int32)), (.int (0 : Int32)), (.int (0 : Int32))] (.int (0 : Int32)) := (Arv.new A339 (by decide)).pad (pad_rep [] (.int (0 : Int32)) 3)
  show own_Go p e below (T339.setTop (mkF m 202 #[.val (.long p1), .second, .val (.long p2), .second, .val (.int p3), .val (.int u0), .val (.int u1), .val (.int u2), .val (.int (Int32.ofNat na)), .val (.int v0), .val (.int v1), .val (.int v2), .val (.int (Int32.ofNat nb)), .val (.ref b300), .val (.ref b314), .val (.ref x330), .val (.ref x333), .val (.int r336), .val (.ref b337), .unset, .unset, .unset, .unset] [(.ref b339)])) _
  refine own_go (fun _ k => XS.astore X339.here hx rfl (hb hby at_202) rfl rfl (l' := #[.val (.long p1), .second, .val (.long p2), .second, .val (.int p3), .val (.int u0), .val (.int u1), .val (.int u2), .val (.int (Int32.ofNat na)), .val (.int v0), .val (.int v1), .val (.int v2), .val (.int (Int32.ofNat nb)), .val (.ref b300), .val (.ref b314), .val (.ref x330), .val (.ref x333), .val (.int r336), .val (.ref b337), .val (.ref b339), .unset, .unset, .unset]) rfl k) ?_
  show own_Go p e below (T339.setTop (mkF m 204 #[.val (.long p1), .second, .val (.long p2), .second, .val (.int p3), .val (.int u0), .val (.int u1), .val (.int u2), .val (.int (Int32.ofNat na)), .val (.int v0), .val (.int v1), .val (.int v2), .val (.int (Int32.ofNat nb)), .val (.ref b300), .val (.ref b314), .val (.ref x330), .val (.ref x333), .val (.int r336), .val (.ref b337), .val (.ref b339), .unset, .unset, .unset] [])) _
  refine own_go (fun _ k => XS.aload X339.here hx rfl (hb hby at_204) rfl rfl k) ?_
  show own_Go p e below (T339.setTop (mkF m 206 #[.val (.long p1), .second, .val (.long p2), .second, .val (.int p3), .val (.int u0), .val (.int u1), .val (.int u2), .val (.int (Int32.ofNat na)), .val (.int v0), .val (.int v1), .val (.int v2), .val (.int (Int32.ofNat nb)), .val (.ref b300), .val (.ref b314), .val (.ref x330), .val (.ref x333), .val (.int r336), .val (.ref b337), .val (.ref b339), .unset, .unset, .unset] [(.ref b300)])) _
  refine own_go (fun _ k => XS.iload X339.here hx rfl (hb hby at_206) rfl k) ?_
  show own_Go p e below (T339.setTop (mkF m 208 #[.val (.long p1), .second, .val (.long p2), .second, .val (.int p3), .val (.int u0), .val (.int u1), .val (.int u2), .val (.int (Int32.ofNat na)), .val (.int v0), .val (.int v1), .val (.int v2), .val (.int (Int32.ofNat nb)), .val (.ref b300), .val (.ref b314), .val (.ref x330), .val (.ref x333), .val (.int r336), .val (.ref b337), .val (.ref b339), .unset, .unset, .unset] [(.int (Int32.ofNat na)), (.ref b300)])) _
  refine own_go (fun _ k => XS.aload X339.here hx rfl (hb hby at_208) rfl rfl k) ?_
  show own_Go p e below (T339.setTop (mkF m 210 #[.val (.long p1), .second, .val (.long p2), .second, .val (.int p3), .val (.int u0), .val (.int u1), .val (.int u2), .val (.int (Int32.ofNat na)), .val (.int v0), .val (.int v1), .val (.int v2), .val (.int (Int32.ofNat nb)), .val (.ref b300), .val (.ref b314), .val (.ref x330), .val (.ref x333), .val (.int r336), .val (.ref b337), .val (.ref b339), .unset, .unset, .unset] [(.ref b337), (.int (Int32.ofNat na)), (.ref b300)])) _
  have z342 := (Nat.le_trans (Nat.le_trans (Keep.of_wr W303).1 (Keep.of_wr W307).1) (Keep.of_wr W311).1)
  have ne341 : b300 ≠ b314 := Nat.ne_of_lt (Nat.lt_of_lt_of_le (Nat.lt_of_lt_of_le V300.lt z342) (Nat.le_of_eq g314.symm))
  have f343 := ((((((((V311q.ext E314).other W317 ne341).other W322 ne341).other W326 ne341).keep K330 nin0).keep K333 nin0).ext E337).ext E339)
  have z344 := (Nat.le_trans (Nat.le_trans z331 K330.1) K333.1)
  have z346 := (Nat.le_trans (Nat.le_trans (Nat.le_trans (Nat.le_trans (Nat.le_trans (Nat.le_trans z342 E314.1) (Keep.of_wr W317).1) (Keep.of_wr W322).1) (Keep.of_wr W326).1) K330.1) K333.1)
  have ne345 : b300 ≠ b337 := Nat.ne_of_lt (Nat.lt_of_lt_of_le (Nat.lt_of_lt_of_le V300.lt z346) (Nat.le_of_eq g337.symm))
  have f347 := ((f335.ext E337).ext E339)
  obtain ⟨v348, _, ⟨T348, L348, k348, n348⟩, -, X348, ⟨Lc348, hQ348, l348, y348, z348⟩, st348⟩ := Jvm.LawKit.callS X339 hx (y := (⟨"com/example/rolelattice/rolelattice/decision/CodePointsComparePinLaw", "decode", "([CI[I)I"⟩ : MethodName)) hown333 (mvT hZ333 (hw _ (List.mem_of_getElem? (i := 51) rfl))) (mvT hZ333 (hw _ (List.mem_of_getElem? (i := 52) rfl))) (mvT hZ333 (hw _ (List.mem_of_getElem? (i := 2) rfl))) (mvT hZ333 (hw _ (List.mem_of_getElem? (i := 53) rfl))) (by decide) (backOf (W := 0) (rm_dec l Z a0 hw [] b300 k300 u0 u1 u2 na b337 k337 h339 n0 f347 f343 (V337.ext E339) (Nat.le_trans Z0 (Nat.le_trans z344 (Nat.le_of_eq g337.symm))) ne345 hna) hZ333 (hw _ (List.mem_of_getElem? (i := 53) rfl)) (hw _ (List.mem_of_getElem? (i := 2) rfl)) (by decide) (by decide)) (g := (mkF m 210 #[.val (.long p1), .second, .val (.long p2), .second, .val (.int p3), .val (.int u0), .val (.int u1), .val (.int u2), .val (.int (Int32.ofNat na)), .val (.int v0), .val (.int v1), .val (.int v2), .val (.int (Int32.ofNat nb)), .val (.ref b300), .val (.ref b314), .val (.ref x330), .val (.ref x333), .val (.int r336), .val (.ref b337), .val (.ref b339), .unset, .unset, .unset] [(.ref b337), (.int (Int32.ofNat na)), (.ref b300)])) rfl (by rw [hml]; rfl) (argsL := [(.ref b300), (.int (Int32.ofNat na)), (.ref b337)]) (rest := []) (lenOf pd_22 rfl) rfl (by show 2 * 0 + _ ≤ _; exact Nat.le_of_eq rfl) (hb hby at_210) (fun _ _ => ⟨rfl, e339, (by decide : 16 + 0 ≤ _), (by decide : 44 + 0 ≤ _)⟩)
  dsimp only [Pt.U, Pt.locs, Pt.cells, Pt.slots] at X348 l348 y348 z348 st348 hQ348
  subst l348 y348 z348
  refine own_go st348 ?_
  obtain ⟨rs348, hrs348, rfl, Nq348, K348, hl348, Vo348⟩ := hQ348
  have f349 := (Safe.ext E339 C338.1 (Safe.ext E337 C334.1 (Safe.new (Nat.le_of_eq g337.symm))))
  have C350 := C340.trans (CHr.keep K348 (sfS f349 sf0) C340.1)
  have N348 := Fr.app N336 Nq348
  show own_Go p e below (T348.setTop (mkF m 213 #[.val (.long p1), .second, .val (.long p2), .second, .val (.int p3), .val (.int u0), .val (.int u1), .val (.int u2), .val (.int (Int32.ofNat na)), .val (.int v0), .val (.int v1), .val (.int v2), .val (.int (Int32.ofNat nb)), .val (.ref b300), .val (.ref b314), .val (.ref x330), .val (.ref x333), .val (.int r336), .val (.ref b337), .val (.ref b339), .unset, .unset, .unset] [(.int (Int32.ofNat rs348.length))])) _
  refine own_go (fun _ k => XS.istore X348.here hx rfl (hb hby at_213) rfl (l' := #[.val (.long p1), .second, .val (.long p2), .second, .val (.int p3), .val (.int u0), .val (.int u1), .val (.int u2), .val (.int (Int32.ofNat na)), .val (.int v0), .val (.int v1), .val (.int v2), .val (.int (Int32.ofNat nb)), .val (.ref b300), .val (.ref b314), .val (.ref x330), .val (.ref x333), .val (.int r336), .val (.ref b337), .val (.ref b339), .val (.int (Int32.ofNat rs348.length)), .unset, .unset]) rfl k) ?_
  show own_Go p e below (T348.setTop (mkF m 215 #[.val (.long p1), .second, .val (.long p2), .second, .val (.int p3), .val (.int u0), .val (.int u1), .val (.int u2), .val (.int (Int32.ofNat na)), .val (.int v0), .val (.int v1), .val (.int v2), .val (.int (Int32.ofNat nb)), .val (.ref b300), .val (.ref b314), .val (.ref x330), .val (.ref x333), .val (.int r336), .val (.ref b337), .val (.ref b339), .val (.int (Int32.ofNat rs348.length)), .unset, .unset] [])) _
  refine own_go (fun _ k => XS.aload X348.here hx rfl (hb hby at_215) rfl rfl k) ?_
  show own_Go p e below (T348.setTop (mkF m 217 #[.val (.long p1), .second, .val (.long p2), .second, .val (.int p3), .val (.int u0), .val (.int u1), .val (.int u2), .val (.int (Int32.ofNat na)), .val (.int v0), .val (.int v1), .val (.int v2), .val (.int (Int32.ofNat nb)), .val (.ref b300), .val (.ref b314), .val (.ref x330), .val (.ref x333), .val (.int r336), .val (.ref b337), .val (.ref b339), .val (.int (Int32.ofNat rs348.length)), .unset, .unset] [(.ref b314)])) _
  refine own_go (fun _ k => XS.iload X348.here hx rfl (hb hby at_217) rfl k) ?_
  show own_Go p e below (T348.setTop (mkF m 219 #[.val (.long p1), .second, .val (.long p2), .second, .val (.int p3), .val (.int u0), .val (.int u1), .val (.int u2), .val (.int (Int32.ofNat na)), .val (.int v0), .val (.int v1), .val (.int v2), .val (.int (Int32.ofNat nb)), .val (.ref b300), .val (.ref b314), .val (.ref x330), .val (.ref x333), .val (.int r336), .val (.ref b337), .val (.ref b339), .val (.int (Int32.ofNat rs348.length)), .unset, .unset] [(.int (Int32.ofNat nb)), (.ref b314)])) _
  refine own_go (fun _ k => XS.aload X348.here hx rfl (hb hby at_219) rfl rfl k) ?_
  show own_Go p e below (T348.setTop (mkF m 221 #[.val (.long p1), .second, .val (.long p2), .second, .val (.int p3), .val (.int u0), .val (.int u1), .val (.int u2), .val (.int (Int32.ofNat na)), .val (.int v0), .val (.int v1), .val (.int v2), .val (.int (Int32.ofNat nb)), .val (.ref b300), .val (.ref b314), .val (.ref x330), .val (.ref x333), .val (.int r336), .val (.ref b337), .val (.ref b339), .val (.int (Int32.ofNat rs348.length)), .unset, .unset] [(.ref b339), (.int (Int32.ofNat nb)), (.ref b314)])) _
  have z352 := (Nat.le_trans (Nat.le_trans (Nat.le_trans (Nat.le_trans (Keep.of_wr W317).1 (Keep.of_wr W322).1) (Keep.of_wr W326).1) K330.1) K333.1)
  have ne351 : b314 ≠ b337 := Nat.ne_of_lt (Nat.lt_of_lt_of_le (Nat.lt_of_lt_of_le V314.lt z352) (Nat.le_of_eq g337.symm))
  have f353 := (((((V326q.keep K330 nin0).keep K333 nin0).ext E337).ext E339).keep K348 (ninS ne351 nin0))
  have ne354 : b337 ≠ b339 := Nat.ne_of_lt (Nat.lt_of_lt_of_le V337.lt (Nat.le_of_eq g339.symm))
  have f355 := (V339.keep K348 (ninS (Ne.symm ne354) nin0))
  have ne356 : b314 ≠ b339 := Nat.ne_of_lt (Nat.lt_of_lt_of_le (Nat.lt_of_lt_of_le V314.lt (Nat.le_trans z352 E337.1)) (Nat.le_of_eq g339.symm))
  have f357 := (f347.keep K348 (allS (Nat.le_trans Z0 (Nat.le_trans z344 (Nat.le_of_eq g337.symm))) all0))
  obtain ⟨v358, _, ⟨T358, L358, k358, n358⟩, -, X358, ⟨Lc358, hQ358, l358, y358, z358⟩, st358⟩ := Jvm.LawKit.callS X348 hx (y := (⟨"com/example/rolelattice/rolelattice/decision/CodePointsComparePinLaw", "decode", "([CI[I)I"⟩ : MethodName)) hown333 (mvT hZ333 (hw _ (List.mem_of_getElem? (i := 51) rfl))) (mvT hZ333 (hw _ (List.mem_of_getElem? (i := 52) rfl))) (mvT hZ333 (hw _ (List.mem_of_getElem? (i := 2) rfl))) (mvT hZ333 (hw _ (List.mem_of_getElem? (i := 53) rfl))) (by decide) (backOf (W := 0) (rm_dec l Z a0 hw [] b314 k314 v0 v1 v2 nb b339 k339 T348.heap n0 f357 f353 f355 (Nat.le_trans Z0 (Nat.le_trans (Nat.le_trans z344 E337.1) (Nat.le_of_eq g339.symm))) ne356 hnb) hZ333 (hw _ (List.mem_of_getElem? (i := 53) rfl)) (hw _ (List.mem_of_getElem? (i := 2) rfl)) (by decide) (by decide)) (g := (mkF m 221 #[.val (.long p1), .second, .val (.long p2), .second, .val (.int p3), .val (.int u0), .val (.int u1), .val (.int u2), .val (.int (Int32.ofNat na)), .val (.int v0), .val (.int v1), .val (.int v2), .val (.int (Int32.ofNat nb)), .val (.ref b300), .val (.ref b314), .val (.ref x330), .val (.ref x333), .val (.int r336), .val (.ref b337), .val (.ref b339), .val (.int (Int32.ofNat rs348.length)), .unset, .unset] [(.ref b339), (.int (Int32.ofNat nb)), (.ref b314)])) rfl (by rw [hml]; rfl) (argsL := [(.ref b314), (.int (Int32.ofNat nb)), (.ref b339)]) (rest := []) (lenOf pd_22 rfl) rfl (by show 2 * 0 + _ ≤ _; exact Nat.le_of_eq rfl) (hb hby at_221) (fun _ _ => ⟨rfl, (rfl : T348.heap = T348.heap), (by decide : 16 + 0 ≤ _), (by decide : 44 + 0 ≤ _)⟩)
  dsimp only [Pt.U, Pt.locs, Pt.cells, Pt.slots] at X358 l358 y358 z358 st358 hQ358
  subst l358 y358 z358
  refine own_go st358 ?_
  obtain ⟨rs358, hrs358, rfl, Nq358, K358, hl358, Vo358⟩ := hQ358
  have f359 := (Safe.keep K348 (sfS f349 sf0) C340.1 (Safe.ext E339 C338.1 (Safe.new (Nat.le_of_eq g339.symm))))
  have C360 := C350.trans (CHr.keep K358 (sfS f359 sf0) C350.1)
  have N358 := Fr.app N348 Nq358
  show own_Go p e below (T358.setTop (mkF m 224 #[.val (.long p1), .second, .val (.long p2), .second, .val (.int p3), .val (.int u0), .val (.int u1), .val (.int u2), .val (.int (Int32.ofNat na)), .val (.int v0), .val (.int v1), .val (.int v2), .val (.int (Int32.ofNat nb)), .val (.ref b300), .val (.ref b314), .val (.ref x330), .val (.ref x333), .val (.int r336), .val (.ref b337), .val (.ref b339), .val (.int (Int32.ofNat rs348.length)), .unset, .unset] [(.int (Int32.ofNat rs358.length))])) _
  refine own_go (fun _ k => XS.istore X358.here hx rfl (hb hby at_224) rfl (l' := #[.val (.long p1), .second, .val (.long p2), .second, .val (.int p3), .val (.int u0), .val (.int u1), .val (.int u2), .val (.int (Int32.ofNat na)), .val (.int v0), .val (.int v1), .val (.int v2), .val (.int (Int32.ofNat nb)), .val (.ref b300), .val (.ref b314), .val (.ref x330), .val (.ref x333), .val (.int r336), .val (.ref b337), .val (.ref b339), .val (.int (Int32.ofNat rs348.length)), .val (.int (Int32.ofNat rs358.length)), .unset]) rfl k) ?_
  show own_Go p e below (T358.setTop (mkF m 226 #[.val (.long p1), .second, .val (.long p2), .second, .val (.int p3), .val (.int u0), .val (.int u1), .val (.int u2), .val (.int (Int32.ofNat na)), .val (.int v0), .val (.int v1), .val (.int v2), .val (.int (Int32.ofNat nb)), .val (.ref b300), .val (.ref b314), .val (.ref x330), .val (.ref x333), .val (.int r336), .val (.ref b337), .val (.ref b339), .val (.int (Int32.ofNat rs348.length)), .val (.int (Int32.ofNat rs358.length)), .unset] [])) _
  refine own_go (fun _ k => XS.aload X358.here hx rfl (hb hby at_226) rfl rfl k) ?_
  show own_Go p e below (T358.setTop (mkF m 228 #[.val (.long p1), .second, .val (.long p2), .second, .val (.int p3), .val (.int u0), .val (.int u1), .val (.int u2), .val (.int (Int32.ofNat na)), .val (.int v0), .val (.int v1), .val (.int v2), .val (.int (Int32.ofNat nb)), .val (.ref b300), .val (.ref b314), .val (.ref x330), .val (.ref x333), .val (.int r336), .val (.ref b337), .val (.ref b339), .val (.int (Int32.ofNat rs348.length)), .val (.int (Int32.ofNat rs358.length)), .unset] [(.ref b337)])) _
  refine own_go (fun _ k => XS.iload X358.here hx rfl (hb hby at_228) rfl k) ?_
  show own_Go p e below (T358.setTop (mkF m 230 #[.val (.long p1), .second, .val (.long p2), .second, .val (.int p3), .val (.int u0), .val (.int u1), .val (.int u2), .val (.int (Int32.ofNat na)), .val (.int v0), .val (.int v1), .val (.int v2), .val (.int (Int32.ofNat nb)), .val (.ref b300), .val (.ref b314), .val (.ref x330), .val (.ref x333), .val (.int r336), .val (.ref b337), .val (.ref b339), .val (.int (Int32.ofNat rs348.length)), .val (.int (Int32.ofNat rs358.length)), .unset] [(.int (Int32.ofNat rs348.length)), (.ref b337)])) _
  refine own_go (fun _ k => XS.aload X358.here hx rfl (hb hby at_230) rfl rfl k) ?_
  show own_Go p e below (T358.setTop (mkF m 232 #[.val (.long p1), .second, .val (.long p2), .second, .val (.int p3), .val (.int u0), .val (.int u1), .val (.int u2), .val (.int (Int32.ofNat na)), .val (.int v0), .val (.int v1), .val (.int v2), .val (.int (Int32.ofNat nb)), .val (.ref b300), .val (.ref b314), .val (.ref x330), .val (.ref x333), .val (.int r336), .val (.ref b337), .val (.ref b339), .val (.int (Int32.ofNat rs348.length)), .val (.int (Int32.ofNat rs358.length)), .unset] [(.ref b339), (.int (Int32.ofNat rs348.length)), (.ref b337)])) _
  refine own_go (fun _ k => XS.iload X358.here hx rfl (hb hby at_232) rfl k) ?_
  show own_Go p e below (T358.setTop (mkF m 234 #[.val (.long p1), .second, .val (.long p2), .second, .val (.int p3), .val (.int u0), .val (.int u1), .val (.int u2), .val (.int (Int32.ofNat na)), .val (.int v0), .val (.int v1), .val (.int v2), .val (.int (Int32.ofNat nb)), .val (.ref b300), .val (.ref b314), .val (.ref x330), .val (.ref x333), .val (.int r336), .val (.ref b337), .val (.ref b339), .val (.int (Int32.ofNat rs348.length)), .val (.int (Int32.ofNat rs358.length)), .unset] [(.int (Int32.ofNat rs358.length)), (.ref b339), (.int (Int32.ofNat rs348.length)), (.ref b337)])) _
  have f361 := (Vo348.keep K358 (ninS ne354 nin0))
  have f362 := (f357.keep K358 (allS (Nat.le_trans Z0 (Nat.le_trans (Nat.le_trans z344 E337.1) (Nat.le_of_eq g339.symm))) all0))
  obtain ⟨v363, _, ⟨T363, L363, k363, n363⟩, -, X363, ⟨Lc363, hQ363, l363, y363, z363⟩, st363⟩ := Jvm.LawKit.callS X358 hx (y := (⟨"com/example/rolelattice/rolelattice/decision/CodePointsComparePinLaw", "cmpSeq", "([II[II)I"⟩ : MethodName)) hown333 (mvT hZ333 (hw _ (List.mem_of_getElem? (i := 54) rfl))) (mvT hZ333 (hw _ (List.mem_of_getElem? (i := 55) rfl))) (mvT hZ333 (hw _ (List.mem_of_getElem? (i := 2) rfl))) (mvT hZ333 (hw _ (List.mem_of_getElem? (i := 56) rfl))) (by decide) (backOf (W := 0) (rm_cs l Z a0 hw [] b337 k337 b339 k339 rs348 rs358 T358.heap n0 f362 f361 Vo358 hl348 hl358) hZ333 (hw _ (List.mem_of_getElem? (i := 56) rfl)) (hw _ (List.mem_of_getElem? (i := 2) rfl)) (by decide) (by decide)) (g := (mkF m 234 #[.val (.long p1), .second, .val (.long p2), .second, .val (.int p3), .val (.int u0), .val (.int u1), .val (.int u2), .val (.int (Int32.ofNat na)), .val (.int v0), .val (.int v1), .val (.int v2), .val (.int (Int32.ofNat nb)), .val (.ref b300), .val (.ref b314), .val (.ref x330), .val (.ref x333), .val (.int r336), .val (.ref b337), .val (.ref b339), .val (.int (Int32.ofNat rs348.length)), .val (.int (Int32.ofNat rs358.length)), .unset] [(.int (Int32.ofNat rs358.length)), (.ref b339), (.int (Int32.ofNat rs348.length)), (.ref b337)])) rfl (by rw [hml]; rfl) (argsL := [(.ref b337), (.int (Int32.ofNat rs348.length)), (.ref b339), (.int (Int32.ofNat rs358.length))]) (rest := []) (lenOf pd_23 rfl) rfl (by show 2 * 0 + _ ≤ _; exact Nat.le_of_eq rfl) (hb hby at_234) (fun _ _ => ⟨rfl, (rfl : T358.heap = T358.heap), (by decide : 16 + 0 ≤ _), (by decide : 44 + 0 ≤ _)⟩)
  dsimp only [Pt.U, Pt.locs, Pt.cells, Pt.slots] at X363 l363 y363 z363 st363 hQ363
  subst l363 y363 z363
  refine own_go st363 ?_
  obtain ⟨rfl, Nq363, e363⟩ := hQ363
  have N363 := Fr.app N358 Nq363
  show own_Go p e below (T363.setTop (mkF m 237 #[.val (.long p1), .second, .val (.long p2), .second, .val (.int p3), .val (.int u0), .val (.int u1), .val (.int u2), .val (.int (Int32.ofNat na)), .val (.int v0), .val (.int v1), .val (.int v2), .val (.int (Int32.ofNat nb)), .val (.ref b300), .val (.ref b314), .val (.ref x330), .val (.ref x333), .val (.int r336), .val (.ref b337), .val (.ref b339), .val (.int (Int32.ofNat rs348.length)), .val (.int (Int32.ofNat rs358.length)), .unset] [(.int (own_lex rs348 rs358))])) _
  refine own_go (fun _ k => XS.istore X363.here hx rfl (hb hby at_237) rfl (l' := #[.val (.long p1), .second, .val (.long p2), .second, .val (.int p3), .val (.int u0), .val (.int u1), .val (.int u2), .val (.int (Int32.ofNat na)), .val (.int v0), .val (.int v1), .val (.int v2), .val (.int (Int32.ofNat nb)), .val (.ref b300), .val (.ref b314), .val (.ref x330), .val (.ref x333), .val (.int r336), .val (.ref b337), .val (.ref b339), .val (.int (Int32.ofNat rs348.length)), .val (.int (Int32.ofNat rs358.length)), .val (.int (own_lex rs348 rs358))]) rfl k) ?_
  show own_Go p e below (T363.setTop (mkF m 239 #[.val (.long p1), .second, .val (.long p2), .second, .val (.int p3), .val (.int u0), .val (.int u1), .val (.int u2), .val (.int (Int32.ofNat na)), .val (.int v0), .val (.int v1), .val (.int v2), .val (.int (Int32.ofNat nb)), .val (.ref b300), .val (.ref b314), .val (.ref x330), .val (.ref x333), .val (.int r336), .val (.ref b337), .val (.ref b339), .val (.int (Int32.ofNat rs348.length)), .val (.int (Int32.ofNat rs358.length)), .val (.int (own_lex rs348 rs358))] [])) _
  refine own_go (fun _ k => XS.iload X363.here hx rfl (hb hby at_239) rfl k) ?_
  show own_Go p e below (T363.setTop (mkF m 241 #[.val (.long p1), .second, .val (.long p2), .second, .val (.int p3), .val (.int u0), .val (.int u1), .val (.int u2), .val (.int (Int32.ofNat na)), .val (.int v0), .val (.int v1), .val (.int v2), .val (.int (Int32.ofNat nb)), .val (.ref b300), .val (.ref b314), .val (.ref x330), .val (.ref x333), .val (.int r336), .val (.ref b337), .val (.ref b339), .val (.int (Int32.ofNat rs348.length)), .val (.int (Int32.ofNat rs358.length)), .val (.int (own_lex rs348 rs358))] [(.int r336)])) _
  obtain ⟨v364, _, ⟨T364, L364, k364, n364⟩, -, X364, ⟨Lc364, hQ364, l364, y364, z364⟩, st364⟩ := Jvm.LawKit.callS X363 hx (y := (⟨"com/example/rolelattice/rolelattice/decision/CodePointsComparePinLaw", "sign", "(I)I"⟩ : MethodName)) hown333 (mvT hZ333 (hw _ (List.mem_of_getElem? (i := 57) rfl))) (mvT hZ333 (hw _ (List.mem_of_getElem? (i := 58) rfl))) (mvT hZ333 (hw _ (List.mem_of_getElem? (i := 2) rfl))) (mvT hZ333 (hw _ (List.mem_of_getElem? (i := 59) rfl))) (by decide) (backOf (W := 0) (rm_sg l Z a0 hw [] r336 T358.heap n0 f362 ) hZ333 (hw _ (List.mem_of_getElem? (i := 59) rfl)) (hw _ (List.mem_of_getElem? (i := 2) rfl)) (by decide) (by decide)) (g := (mkF m 241 #[.val (.long p1), .second, .val (.long p2), .second, .val (.int p3), .val (.int u0), .val (.int u1), .val (.int u2), .val (.int (Int32.ofNat na)), .val (.int v0), .val (.int v1), .val (.int v2), .val (.int (Int32.ofNat nb)), .val (.ref b300), .val (.ref b314), .val (.ref x330), .val (.ref x333), .val (.int r336), .val (.ref b337), .val (.ref b339), .val (.int (Int32.ofNat rs348.length)), .val (.int (Int32.ofNat rs358.length)), .val (.int (own_lex rs348 rs358))] [(.int r336)])) rfl (by rw [hml]; rfl) (argsL := [(.int r336)]) (rest := []) (lenOf pd_1 rfl) rfl (by show 2 * 0 + _ ≤ _; exact Nat.le_of_eq rfl) (hb hby at_241) (fun _ _ => ⟨rfl, e363, (by decide : 16 + 0 ≤ _), (by decide : 44 + 0 ≤ _)⟩)
  dsimp only [Pt.U, Pt.locs, Pt.cells, Pt.slots] at X364 l364 y364 z364 st364 hQ364
  subst l364 y364 z364
  refine own_go st364 ?_
  obtain ⟨rfl, Nq364, e364⟩ := hQ364
  have N364 := Fr.app N363 Nq364
  show own_Go p e below (T364.setTop (mkF m 244 #[.val (.long p1), .second, .val (.long p2), .second, .val (.int p3), .val (.int u0), .val (.int u1), .val (.int u2), .val (.int (Int32.ofNat na)), .val (.int v0), .val (.int v1), .val (.int v2), .val (.int (Int32.ofNat nb)), .val (.ref b300), .val (.ref b314), .val (.ref x330), .val (.ref x333), .val (.int r336), .val (.ref b337), .val (.ref b339), .val (.int (Int32.ofNat rs348.length)), .val (.int (Int32.ofNat rs358.length)), .val (.int (own_lex rs348 rs358))] [(.int (own_sg r336))])) _
  refine own_go (fun _ k => XS.iload X364.here hx rfl (hb hby at_244) rfl k) ?_
  show own_Go p e below (T364.setTop (mkF m 246 #[.val (.long p1), .second, .val (.long p2), .second, .val (.int p3), .val (.int u0), .val (.int u1), .val (.int u2), .val (.int (Int32.ofNat na)), .val (.int v0), .val (.int v1), .val (.int v2), .val (.int (Int32.ofNat nb)), .val (.ref b300), .val (.ref b314), .val (.ref x330), .val (.ref x333), .val (.int r336), .val (.ref b337), .val (.ref b339), .val (.int (Int32.ofNat rs348.length)), .val (.int (Int32.ofNat rs358.length)), .val (.int (own_lex rs348 rs358))] [(.int (own_lex rs348 rs358)), (.int (own_sg r336))])) _
  refine own_go (fun _ k => XS.icmpNo X364.here hx rfl (hb hby at_246) rfl (teq (hr336.trans (by rw [hrs348, hrs358]))).2 k) ?_
  show own_Go p e below (T364.setTop (mkF m 249 #[.val (.long p1), .second, .val (.long p2), .second, .val (.int p3), .val (.int u0), .val (.int u1), .val (.int u2), .val (.int (Int32.ofNat na)), .val (.int v0), .val (.int v1), .val (.int v2), .val (.int (Int32.ofNat nb)), .val (.ref b300), .val (.ref b314), .val (.ref x330), .val (.ref x333), .val (.int r336), .val (.ref b337), .val (.ref b339), .val (.int (Int32.ofNat rs348.length)), .val (.int (Int32.ofNat rs358.length)), .val (.int (own_lex rs348 rs358))] [])) _
  refine own_go (fun _ k => XS.iconst X364.here hx rfl (hb hby at_249) k) ?_
  show own_Go p e below (T364.setTop (mkF m 250 #[.val (.long p1), .second, .val (.long p2), .second, .val (.int p3), .val (.int u0), .val (.int u1), .val (.int u2), .val (.int (Int32.ofNat na)), .val (.int v0), .val (.int v1), .val (.int v2), .val (.int (Int32.ofNat nb)), .val (.ref b300), .val (.ref b314), .val (.ref x330), .val (.ref x333), .val (.int r336), .val (.ref b337), .val (.ref b339), .val (.int (Int32.ofNat rs348.length)), .val (.int (Int32.ofNat rs358.length)), .val (.int (own_lex rs348 rs358))] [(.int (1 : Int32))])) _
  refine own_go (fun _ k => XS.goto X364.here hx rfl (pc0 := 250) (pc' := 254) rfl (hb hby at_250) (by decide) (by decide) k) ?_
  show own_Go p e below (T364.setTop (mkF m 254 #[.val (.long p1), .second, .val (.long p2), .second, .val (.int p3), .val (.int u0), .val (.int u1), .val (.int u2), .val (.int (Int32.ofNat na)), .val (.int v0), .val (.int v1), .val (.int v2), .val (.int (Int32.ofNat nb)), .val (.ref b300), .val (.ref b314), .val (.ref x330), .val (.ref x333), .val (.int r336), .val (.ref b337), .val (.ref b339), .val (.int (Int32.ofNat rs348.length)), .val (.int (Int32.ofNat rs358.length)), .val (.int (own_lex rs348 rs358))] [(.int (1 : Int32))])) _
  have z365 := (Nat.le_trans (Nat.le_trans (Nat.le_trans E337.1 E339.1) K348.1) K358.1)
  refine own_finW (v := (some (.int (nar .boolean (1 : Int32))))) X364 hh hZ333 hS333 (by rw [e364]; exact (Nat.le_trans (Nat.le_refl _) z365)) (fun h => by rw [hrt] at h; cases h) hlk (fun fs hr => retN X364 hx (t := .boolean) hrt (by simp) (hb hby at_254) hr) (QQ := QQ0 n0) ?_ own_hEL e364 (C360) (by decide) (by decide)
  rw [e364]
  exact ⟨rfl, N364⟩

set_option maxRecDepth 65536 in
set_option maxHeartbeats 40000000 in
theorem piece95 (l : Launch) (Z : State) (a0 : Array Value) (hw : ∀ d ∈ tables_1, d.before a0 Z = true) (p1 : Int64) (p2 : Int64) (p3 : Int32) (u0 : Int32) (u1 : Int32) (u2 : Int32) (v0 : Int32) (v1 : Int32) (v2 : Int32) (na : Nat) (G1 : Int32) (G3 : Value) (h0 : Heap) (n0 : Nat) {p : Program} {e : Env} {s : State} {vm0 : Vm} {m : MethodId} {below : List Frame} {meth : Method} {cC : Code} {T0 : State} {locs : List Loc} (X0 : Stand p l e room_1 (s.setVm vm0) m #[(.long p1), (.long p2), (.int p3)] below meth cC T0 locs 0 0) (hx : p.tables.exec = Jvm.exec) (hby : cC.code = code) (hml : cC.maxLocals = maxLocals) (hown : (s.setVm vm0).vm.findClass "com/example/rolelattice/rolelattice/decision/CodePointsComparePinLaw" = some m.cls) (hZ : Z.Warmed39 (s.setVm vm0).vm) (hrt : meth.sig.returnType = ret) (hlk : meth.locks = false) (h1 : Heap) (e0 : T0.heap = h1) (N0 : Fr n0 locs) (Z0 : n0 ≤ h1.size) (O1 : Old Z n0 h1) (hh : s.heap = h0) {k0 : Nat} (hS0 : s.Since vm0 k0) (hk0 : k0 ≤ h1.size) (C0 : CHr Z own_EL s.vm h0 vm0 h1) (O2 : Sta Z Z.heap "java/lang/String" "COMPACT_STRINGS" "Z" (.int G1)) (P5 : ¬ (G1 = (0 : Int32))) (O4 : Sta Z Z.heap "jdk/internal/util/Preconditions" "SIOOBE_FORMATTER" "Ljava/util/function/BiFunction;" G3) (rG3 : G3.isRef = true) (OA : Sta Z Z.heap "java/lang/StringUTF16" "$assertionsDisabled" "Z" (.int (1 : Int32))) (OH : Sta Z Z.heap "java/lang/StringUTF16" "HI_BYTE_SHIFT" "I" (.int (0 : Int32))) (OL : Sta Z Z.heap "java/lang/StringUTF16" "LO_BYTE_SHIFT" "I" (.int (8 : Int32))) (b_u0 : ¬ u0 < 0 ∧ ¬ (65535 : Int32) < u0) (b_u1 : ¬ u1 < 0 ∧ ¬ (65535 : Int32) < u1) (b_u2 : ¬ u2 < 0 ∧ ¬ (65535 : Int32) < u2) (b_v0 : ¬ v0 < 0 ∧ ¬ (65535 : Int32) < v0) (b_v1 : ¬ v1 < 0 ∧ ¬ (65535 : Int32) < v1) (b_v2 : ¬ v2 < 0 ∧ ¬ (65535 : Int32) < v2) (hna : na ≤ 3) :
    own_Go p e below (T0.setTop (mkF m 95 #[.val (.long p1), .second, .val (.long p2), .second, .val (.int p3), .val (.int u0), .val (.int u1), .val (.int u2), .val (.int (Int32.ofNat na)), .val (.int v0), .val (.int v1), .val (.int v2), .unset, .unset, .unset, .unset, .unset, .unset, .unset, .unset, .unset, .unset, .unset] [])) (fun oO U' => ∃ rV rL, oO = .returned rV ∧ QQ0 n0 rV U'.heap rL ∧ CHr Z own_EL s.vm s.heap U'.vm U'.heap ∧ ReturnedEndW s oO U' rL 40 1216) := by
  have own_wS := own_wSt hw
  have own_hEL := own_hELt hw
  show own_Go p e below (T0.setTop (mkF m 95 #[.val (.long p1), .second, .val (.long p2), .second, .val (.int p3), .val (.int u0), .val (.int u1), .val (.int u2), .val (.int (Int32.ofNat na)), .val (.int v0), .val (.int v1), .val (.int v2), .unset, .unset, .unset, .unset, .unset, .unset, .unset, .unset, .unset, .unset, .unset] [])) _
  refine own_go (fun _ k => XS.iload X0.here hx rfl (hb hby at_95) rfl k) ?_
  show own_Go p e below (T0.setTop (mkF m 97 #[.val (.long p1), .second, .val (.long p2), .second, .val (.int p3), .val (.int u0), .val (.int u1), .val (.int u2), .val (.int (Int32.ofNat na)), .val (.int v0), .val (.int v1), .val (.int v2), .unset, .unset, .unset, .unset, .unset, .unset, .unset, .unset, .unset, .unset, .unset] [(.int p3)])) _
  refine own_go (fun _ k => XS.bipush X0.here hx rfl (hb hby at_97) k) ?_
  show own_Go p e below (T0.setTop (mkF m 99 #[.val (.long p1), .second, .val (.long p2), .second, .val (.int p3), .val (.int u0), .val (.int u1), .val (.int u2), .val (.int (Int32.ofNat na)), .val (.int v0), .val (.int v1), .val (.int v2), .unset, .unset, .unset, .unset, .unset, .unset, .unset, .unset, .unset, .unset, .unset] [(.int (8 : Int32)), (.int p3)])) _
  refine own_go (fun _ k => XS.iand X0.here hx rfl (hb hby at_99) rfl k) ?_
  show own_Go p e below (T0.setTop (mkF m 100 #[.val (.long p1), .second, .val (.long p2), .second, .val (.int p3), .val (.int u0), .val (.int u1), .val (.int u2), .val (.int (Int32.ofNat na)), .val (.int v0), .val (.int v1), .val (.int v2), .unset, .unset, .unset, .unset, .unset, .unset, .unset, .unset, .unset, .unset, .unset] [(.int (p3 &&& (8 : Int32)))])) _
  by_cases hc366 : (p3 &&& (8 : Int32)) = (0 : Int32)
  · skip
    refine own_go (fun _ k => XS.ifYes X0.here hx rfl (pc0 := 100) (pc' := 108) rfl (hb hby at_100) rfl ((if0 _ _).trans (teq hc366).1) (by decide) (by decide) k) ?_
    show own_Go p e below (T0.setTop (mkF m 108 #[.val (.long p1), .second, .val (.long p2), .second, .val (.int p3), .val (.int u0), .val (.int u1), .val (.int u2), .val (.int (Int32.ofNat na)), .val (.int v0), .val (.int v1), .val (.int v2), .unset, .unset, .unset, .unset, .unset, .unset, .unset, .unset, .unset, .unset, .unset] [])) _
    refine own_go (fun _ k => XS.lloadN X0.here hx rfl (hb hby at_108) rfl k) ?_
    show own_Go p e below (T0.setTop (mkF m 109 #[.val (.long p1), .second, .val (.long p2), .second, .val (.int p3), .val (.int u0), .val (.int u1), .val (.int u2), .val (.int (Int32.ofNat na)), .val (.int v0), .val (.int v1), .val (.int v2), .unset, .unset, .unset, .unset, .unset, .unset, .unset, .unset, .unset, .unset, .unset] [(.long p2)])) _
    refine own_go (fun _ k => XS.bipush X0.here hx rfl (hb hby at_109) k) ?_
    show own_Go p e below (T0.setTop (mkF m 111 #[.val (.long p1), .second, .val (.long p2), .second, .val (.int p3), .val (.int u0), .val (.int u1), .val (.int u2), .val (.int (Int32.ofNat na)), .val (.int v0), .val (.int v1), .val (.int v2), .unset, .unset, .unset, .unset, .unset, .unset, .unset, .unset, .unset, .unset, .unset] [(.int (54 : Int32)), (.long p2)])) _
    refine own_go (fun _ k => XS.lushr X0.here hx rfl (hb hby at_111) rfl k) ?_
    show own_Go p e below (T0.setTop (mkF m 112 #[.val (.long p1), .second, .val (.long p2), .second, .val (.int p3), .val (.int u0), .val (.int u1), .val (.int u2), .val (.int (Int32.ofNat na)), .val (.int v0), .val (.int v1), .val (.int v2), .unset, .unset, .unset, .unset, .unset, .unset, .unset, .unset, .unset, .unset, .unset] [(.long ((p2.toUInt64 >>> ((54 : Int32) &&& 0x3f).toInt64.toUInt64).toInt64))])) _
    refine own_go (fun _ k => X0.ldc2Long hx hown (mvT hZ (hw _ (List.mem_of_getElem? (i := 4) rfl))) (g := (mkF m 112 #[.val (.long p1), .second, .val (.long p2), .second, .val (.int p3), .val (.int u0), .val (.int u1), .val (.int u2), .val (.int (Int32.ofNat na)), .val (.int v0), .val (.int v1), .val (.int v2), .unset, .unset, .unset, .unset, .unset, .unset, .unset, .unset, .unset, .unset, .unset] [(.long ((p2.toUInt64 >>> ((54 : Int32) &&& 0x3f).toInt64.toUInt64).toInt64))])) rfl (hb hby at_112) _ k) ?_
    show own_Go p e below (T0.setTop (mkF m 115 #[.val (.long p1), .second, .val (.long p2), .second, .val (.int p3), .val (.int u0), .val (.int u1), .val (.int u2), .val (.int (Int32.ofNat na)), .val (.int v0), .val (.int v1), .val (.int v2), .unset, .unset, .unset, .unset, .unset, .unset, .unset, .unset, .unset, .unset, .unset] [(.long (3 : Int64)), (.long ((p2.toUInt64 >>> ((54 : Int32) &&& 0x3f).toInt64.toUInt64).toInt64))])) _
    refine own_go (fun _ k => XS.land X0.here hx rfl (hb hby at_115) rfl k) ?_
    show own_Go p e below (T0.setTop (mkF m 116 #[.val (.long p1), .second, .val (.long p2), .second, .val (.int p3), .val (.int u0), .val (.int u1), .val (.int u2), .val (.int (Int32.ofNat na)), .val (.int v0), .val (.int v1), .val (.int v2), .unset, .unset, .unset, .unset, .unset, .unset, .unset, .unset, .unset, .unset, .unset] [(.long (((p2.toUInt64 >>> ((54 : Int32) &&& 0x3f).toInt64.toUInt64).toInt64) &&& (3 : Int64)))])) _
    refine own_go (fun _ k => XS.l2i X0.here hx rfl (hb hby at_116) rfl k) ?_
    show own_Go p e below (T0.setTop (mkF m 117 #[.val (.long p1), .second, .val (.long p2), .second, .val (.int p3), .val (.int u0), .val (.int u1), .val (.int u2), .val (.int (Int32.ofNat na)), .val (.int v0), .val (.int v1), .val (.int v2), .unset, .unset, .unset, .unset, .unset, .unset, .unset, .unset, .unset, .unset, .unset] [(.int ((((p2.toUInt64 >>> ((54 : Int32) &&& 0x3f).toInt64.toUInt64).toInt64) &&& (3 : Int64)).toInt32))])) _
    refine own_go (fun _ k => XS.istore X0.here hx rfl (hb hby at_117) rfl (l' := #[.val (.long p1), .second, .val (.long p2), .second, .val (.int p3), .val (.int u0), .val (.int u1), .val (.int u2), .val (.int (Int32.ofNat na)), .val (.int v0), .val (.int v1), .val (.int v2), .val (.int ((((p2.toUInt64 >>> ((54 : Int32) &&& 0x3f).toInt64.toUInt64).toInt64) &&& (3 : Int64)).toInt32)), .unset, .unset, .unset, .unset, .unset, .unset, .unset, .unset, .unset, .unset]) rfl k) ?_
    show own_Go p e below (T0.setTop (mkF m 119 #[.val (.long p1), .second, .val (.long p2), .second, .val (.int p3), .val (.int u0), .val (.int u1), .val (.int u2), .val (.int (Int32.ofNat na)), .val (.int v0), .val (.int v1), .val (.int v2), .val (.int ((((p2.toUInt64 >>> ((54 : Int32) &&& 0x3f).toInt64.toUInt64).toInt64) &&& (3 : Int64)).toInt32)), .unset, .unset, .unset, .unset, .unset, .unset, .unset, .unset, .unset, .unset] [])) _
    obtain ⟨nb, hnb, elb⟩ := own_and3 ((p2.toUInt64 >>> ((54 : Int32) &&& 0x3f).toInt64.toUInt64).toInt64)
    rw [elb]
    show own_Go p e below (T0.setTop (mkF m 119 #[.val (.long p1), .second, .val (.long p2), .second, .val (.int p3), .val (.int u0), .val (.int u1), .val (.int u2), .val (.int (Int32.ofNat na)), .val (.int v0), .val (.int v1), .val (.int v2), .val (.int (Int32.ofNat nb)), .unset, .unset, .unset, .unset, .unset, .unset, .unset, .unset, .unset, .unset] [])) _
    exact tail l Z a0 hw p1 p2 p3 u0 u1 u2 v0 v1 v2 na nb G1 G3 h0 n0 X0 hx hby hml hown hZ hrt hlk h1 e0 N0 (Nat.le_trans Z0 (Nat.le_refl _)) O1 hh hS0 hk0 C0  O2 P5 O4 rG3 OA OH OL b_u0 b_u1 b_u2 b_v0 b_v1 b_v2 hna hnb
  · skip
    refine own_go (fun _ k => XS.ifNo X0.here hx rfl (hb hby at_100) rfl ((if0 _ _).trans (feq hc366).1) k) ?_
    show own_Go p e below (T0.setTop (mkF m 103 #[.val (.long p1), .second, .val (.long p2), .second, .val (.int p3), .val (.int u0), .val (.int u1), .val (.int u2), .val (.int (Int32.ofNat na)), .val (.int v0), .val (.int v1), .val (.int v2), .unset, .unset, .unset, .unset, .unset, .unset, .unset, .unset, .unset, .unset, .unset] [])) _
    refine own_go (fun _ k => XS.iload X0.here hx rfl (hb hby at_103) rfl k) ?_
    show own_Go p e below (T0.setTop (mkF m 105 #[.val (.long p1), .second, .val (.long p2), .second, .val (.int p3), .val (.int u0), .val (.int u1), .val (.int u2), .val (.int (Int32.ofNat na)), .val (.int v0), .val (.int v1), .val (.int v2), .unset, .unset, .unset, .unset, .unset, .unset, .unset, .unset, .unset, .unset, .unset] [(.int (Int32.ofNat na))])) _
    refine own_go (fun _ k => XS.goto X0.here hx rfl (pc0 := 105) (pc' := 117) rfl (hb hby at_105) (by decide) (by decide) k) ?_
    show own_Go p e below (T0.setTop (mkF m 117 #[.val (.long p1), .second, .val (.long p2), .second, .val (.int p3), .val (.int u0), .val (.int u1), .val (.int u2), .val (.int (Int32.ofNat na)), .val (.int v0), .val (.int v1), .val (.int v2), .unset, .unset, .unset, .unset, .unset, .unset, .unset, .unset, .unset, .unset, .unset] [(.int (Int32.ofNat na))])) _
    refine own_go (fun _ k => XS.istore X0.here hx rfl (hb hby at_117) rfl (l' := #[.val (.long p1), .second, .val (.long p2), .second, .val (.int p3), .val (.int u0), .val (.int u1), .val (.int u2), .val (.int (Int32.ofNat na)), .val (.int v0), .val (.int v1), .val (.int v2), .val (.int (Int32.ofNat na)), .unset, .unset, .unset, .unset, .unset, .unset, .unset, .unset, .unset, .unset]) rfl k) ?_
    show own_Go p e below (T0.setTop (mkF m 119 #[.val (.long p1), .second, .val (.long p2), .second, .val (.int p3), .val (.int u0), .val (.int u1), .val (.int u2), .val (.int (Int32.ofNat na)), .val (.int v0), .val (.int v1), .val (.int v2), .val (.int (Int32.ofNat na)), .unset, .unset, .unset, .unset, .unset, .unset, .unset, .unset, .unset, .unset] [])) _
    exact tail l Z a0 hw p1 p2 p3 u0 u1 u2 v0 v1 v2 na na G1 G3 h0 n0 X0 hx hby hml hown hZ hrt hlk h1 e0 N0 (Nat.le_trans Z0 (Nat.le_refl _)) O1 hh hS0 hk0 C0  O2 P5 O4 rG3 OA OH OL b_u0 b_u1 b_u2 b_v0 b_v1 b_v2 hna hna

theorem pd_24 : parseMethodDescriptor "(J)C" = some ⟨[.long], some .char⟩ := by decide +kernel
set_option maxRecDepth 65536 in
set_option maxHeartbeats 40000000 in
theorem piece74 (l : Launch) (Z : State) (a0 : Array Value) (hw : ∀ d ∈ tables_1, d.before a0 Z = true) (p1 : Int64) (p2 : Int64) (p3 : Int32) (u0 : Int32) (u1 : Int32) (u2 : Int32) (v0 : Int32) (v1 : Int32) (na : Nat) (G1 : Int32) (G3 : Value) (h0 : Heap) (n0 : Nat) {p : Program} {e : Env} {s : State} {vm0 : Vm} {m : MethodId} {below : List Frame} {meth : Method} {cC : Code} {T0 : State} {locs : List Loc} (X0 : Stand p l e room_1 (s.setVm vm0) m #[(.long p1), (.long p2), (.int p3)] below meth cC T0 locs 0 0) (hx : p.tables.exec = Jvm.exec) (hby : cC.code = code) (hml : cC.maxLocals = maxLocals) (hown : (s.setVm vm0).vm.findClass "com/example/rolelattice/rolelattice/decision/CodePointsComparePinLaw" = some m.cls) (hZ : Z.Warmed39 (s.setVm vm0).vm) (hrt : meth.sig.returnType = ret) (hlk : meth.locks = false) (h1 : Heap) (e0 : T0.heap = h1) (N0 : Fr n0 locs) (Z0 : n0 ≤ h1.size) (O1 : Old Z n0 h1) (hh : s.heap = h0) {k0 : Nat} (hS0 : s.Since vm0 k0) (hk0 : k0 ≤ h1.size) (C0 : CHr Z own_EL s.vm h0 vm0 h1) (O2 : Sta Z Z.heap "java/lang/String" "COMPACT_STRINGS" "Z" (.int G1)) (P5 : ¬ (G1 = (0 : Int32))) (O4 : Sta Z Z.heap "jdk/internal/util/Preconditions" "SIOOBE_FORMATTER" "Ljava/util/function/BiFunction;" G3) (rG3 : G3.isRef = true) (OA : Sta Z Z.heap "java/lang/StringUTF16" "$assertionsDisabled" "Z" (.int (1 : Int32))) (OH : Sta Z Z.heap "java/lang/StringUTF16" "HI_BYTE_SHIFT" "I" (.int (0 : Int32))) (OL : Sta Z Z.heap "java/lang/StringUTF16" "LO_BYTE_SHIFT" "I" (.int (8 : Int32))) (b_u0 : ¬ u0 < 0 ∧ ¬ (65535 : Int32) < u0) (b_u1 : ¬ u1 < 0 ∧ ¬ (65535 : Int32) < u1) (b_u2 : ¬ u2 < 0 ∧ ¬ (65535 : Int32) < u2) (b_v0 : ¬ v0 < 0 ∧ ¬ (65535 : Int32) < v0) (b_v1 : ¬ v1 < 0 ∧ ¬ (65535 : Int32) < v1) (hna : na ≤ 3) :
    own_Go p e below (T0.setTop (mkF m 74 #[.val (.long p1), .second, .val (.long p2), .second, .val (.int p3), .val (.int u0), .val (.int u1), .val (.int u2), .val (.int (Int32.ofNat na)), .val (.int v0), .val (.int v1), .unset, .unset, .unset, .unset, .unset, .unset, .unset, .unset, .unset, .unset, .unset, .unset] [])) (fun oO U' => ∃ rV rL, oO = .returned rV ∧ QQ0 n0 rV U'.heap rL ∧ CHr Z own_EL s.vm s.heap U'.vm U'.heap ∧ ReturnedEndW s oO U' rL 40 1216) := by
  have own_wS := own_wSt hw
  have own_hEL := own_hELt hw
  show own_Go p e below (T0.setTop (mkF m 74 #[.val (.long p1), .second, .val (.long p2), .second, .val (.int p3), .val (.int u0), .val (.int u1), .val (.int u2), .val (.int (Int32.ofNat na)), .val (.int v0), .val (.int v1), .unset, .unset, .unset, .unset, .unset, .unset, .unset, .unset, .unset, .unset, .unset, .unset] [])) _
  refine own_go (fun _ k => XS.iload X0.here hx rfl (hb hby at_74) rfl k) ?_
  show own_Go p e below (T0.setTop (mkF m 76 #[.val (.long p1), .second, .val (.long p2), .second, .val (.int p3), .val (.int u0), .val (.int u1), .val (.int u2), .val (.int (Int32.ofNat na)), .val (.int v0), .val (.int v1), .unset, .unset, .unset, .unset, .unset, .unset, .unset, .unset, .unset, .unset, .unset, .unset] [(.int p3)])) _
  refine own_go (fun _ k => XS.iconst X0.here hx rfl (hb hby at_76) k) ?_
  show own_Go p e below (T0.setTop (mkF m 77 #[.val (.long p1), .second, .val (.long p2), .second, .val (.int p3), .val (.int u0), .val (.int u1), .val (.int u2), .val (.int (Int32.ofNat na)), .val (.int v0), .val (.int v1), .unset, .unset, .unset, .unset, .unset, .unset, .unset, .unset, .unset, .unset, .unset, .unset] [(.int (4 : Int32)), (.int p3)])) _
  refine own_go (fun _ k => XS.iand X0.here hx rfl (hb hby at_77) rfl k) ?_
  show own_Go p e below (T0.setTop (mkF m 78 #[.val (.long p1), .second, .val (.long p2), .second, .val (.int p3), .val (.int u0), .val (.int u1), .val (.int u2), .val (.int (Int32.ofNat na)), .val (.int v0), .val (.int v1), .unset, .unset, .unset, .unset, .unset, .unset, .unset, .unset, .unset, .unset, .unset, .unset] [(.int (p3 &&& (4 : Int32)))])) _
  by_cases hc367 : (p3 &&& (4 : Int32)) = (0 : Int32)
  · skip
    refine own_go (fun _ k => XS.ifYes X0.here hx rfl (pc0 := 78) (pc' := 86) rfl (hb hby at_78) rfl ((if0 _ _).trans (teq hc367).1) (by decide) (by decide) k) ?_
    show own_Go p e below (T0.setTop (mkF m 86 #[.val (.long p1), .second, .val (.long p2), .second, .val (.int p3), .val (.int u0), .val (.int u1), .val (.int u2), .val (.int (Int32.ofNat na)), .val (.int v0), .val (.int v1), .unset, .unset, .unset, .unset, .unset, .unset, .unset, .unset, .unset, .unset, .unset, .unset] [])) _
    refine own_go (fun _ k => XS.lloadN X0.here hx rfl (hb hby at_86) rfl k) ?_
    show own_Go p e below (T0.setTop (mkF m 87 #[.val (.long p1), .second, .val (.long p2), .second, .val (.int p3), .val (.int u0), .val (.int u1), .val (.int u2), .val (.int (Int32.ofNat na)), .val (.int v0), .val (.int v1), .unset, .unset, .unset, .unset, .unset, .unset, .unset, .unset, .unset, .unset, .unset, .unset] [(.long p2)])) _
    refine own_go (fun _ k => XS.bipush X0.here hx rfl (hb hby at_87) k) ?_
    show own_Go p e below (T0.setTop (mkF m 89 #[.val (.long p1), .second, .val (.long p2), .second, .val (.int p3), .val (.int u0), .val (.int u1), .val (.int u2), .val (.int (Int32.ofNat na)), .val (.int v0), .val (.int v1), .unset, .unset, .unset, .unset, .unset, .unset, .unset, .unset, .unset, .unset, .unset, .unset] [(.int (36 : Int32)), (.long p2)])) _
    refine own_go (fun _ k => XS.lushr X0.here hx rfl (hb hby at_89) rfl k) ?_
    show own_Go p e below (T0.setTop (mkF m 90 #[.val (.long p1), .second, .val (.long p2), .second, .val (.int p3), .val (.int u0), .val (.int u1), .val (.int u2), .val (.int (Int32.ofNat na)), .val (.int v0), .val (.int v1), .unset, .unset, .unset, .unset, .unset, .unset, .unset, .unset, .unset, .unset, .unset, .unset] [(.long ((p2.toUInt64 >>> ((36 : Int32) &&& 0x3f).toInt64.toUInt64).toInt64))])) _
    obtain ⟨v368, _, ⟨T368, L368, k368, n368⟩, -, X368, ⟨Lc368, hQ368, l368, y368, z368⟩, st368⟩ := Jvm.LawKit.callS X0 hx (y := (⟨"com/example/rolelattice/rolelattice/decision/CodePointsComparePinLaw", "ch", "(J)C"⟩ : MethodName)) hown (mvT hZ (hw _ (List.mem_of_getElem? (i := 0) rfl))) (mvT hZ (hw _ (List.mem_of_getElem? (i := 1) rfl))) (mvT hZ (hw _ (List.mem_of_getElem? (i := 2) rfl))) (mvT hZ (hw _ (List.mem_of_getElem? (i := 3) rfl))) (by decide) (backOf (W := 0) (rm_ch l Z a0 hw [] ((p2.toUInt64 >>> ((36 : Int32) &&& 0x3f).toInt64.toUInt64).toInt64) h1 n0 O1 ) hZ (hw _ (List.mem_of_getElem? (i := 3) rfl)) (hw _ (List.mem_of_getElem? (i := 2) rfl)) (by decide) (by decide)) (g := (mkF m 90 #[.val (.long p1), .second, .val (.long p2), .second, .val (.int p3), .val (.int u0), .val (.int u1), .val (.int u2), .val (.int (Int32.ofNat na)), .val (.int v0), .val (.int v1), .unset, .unset, .unset, .unset, .unset, .unset, .unset, .unset, .unset, .unset, .unset, .unset] [(.long ((p2.toUInt64 >>> ((36 : Int32) &&& 0x3f).toInt64.toUInt64).toInt64))])) rfl (by rw [hml]; rfl) (argsL := [(.long ((p2.toUInt64 >>> ((36 : Int32) &&& 0x3f).toInt64.toUInt64).toInt64))]) (rest := []) (lenOf pd_24 rfl) rfl (by show 2 * 0 + _ ≤ _; exact Nat.le_of_eq rfl) (hb hby at_90) (fun _ _ => ⟨rfl, e0, (by decide : 0 + 0 ≤ _), (by decide : 0 + 0 ≤ _)⟩)
    dsimp only [Pt.U, Pt.locs, Pt.cells, Pt.slots] at X368 l368 y368 z368 st368 hQ368
    subst l368 y368 z368
    refine own_go st368 ?_
    obtain ⟨rfl, Nq368, e368⟩ := hQ368
    have N368 := Fr.app N0 Nq368
    show own_Go p e below (T368.setTop (mkF m 93 #[.val (.long p1), .second, .val (.long p2), .second, .val (.int p3), .val (.int u0), .val (.int u1), .val (.int u2), .val (.int (Int32.ofNat na)), .val (.int v0), .val (.int v1), .unset, .unset, .unset, .unset, .unset, .unset, .unset, .unset, .unset, .unset, .unset, .unset] [(.int (own_chv ((p2.toUInt64 >>> ((36 : Int32) &&& 0x3f).toInt64.toUInt64).toInt64)))])) _
    refine own_go (fun _ k => XS.istore X368.here hx rfl (hb hby at_93) rfl (l' := #[.val (.long p1), .second, .val (.long p2), .second, .val (.int p3), .val (.int u0), .val (.int u1), .val (.int u2), .val (.int (Int32.ofNat na)), .val (.int v0), .val (.int v1), .val (.int (own_chv ((p2.toUInt64 >>> ((36 : Int32) &&& 0x3f).toInt64.toUInt64).toInt64))), .unset, .unset, .unset, .unset, .unset, .unset, .unset, .unset, .unset, .unset, .unset]) rfl k) ?_
    show own_Go p e below (T368.setTop (mkF m 95 #[.val (.long p1), .second, .val (.long p2), .second, .val (.int p3), .val (.int u0), .val (.int u1), .val (.int u2), .val (.int (Int32.ofNat na)), .val (.int v0), .val (.int v1), .val (.int (own_chv ((p2.toUInt64 >>> ((36 : Int32) &&& 0x3f).toInt64.toUInt64).toInt64))), .unset, .unset, .unset, .unset, .unset, .unset, .unset, .unset, .unset, .unset, .unset] [])) _
    exact piece95 l Z a0 hw p1 p2 p3 u0 u1 u2 v0 v1 (own_chv ((p2.toUInt64 >>> ((36 : Int32) &&& 0x3f).toInt64.toUInt64).toInt64)) na G1 G3 h0 n0 X368 hx hby hml hown hZ hrt hlk h1 e368 N368 (Nat.le_trans Z0 (Nat.le_refl _)) O1 hh hS0 hk0 C0  O2 P5 O4 rG3 OA OH OL b_u0 b_u1 b_u2 b_v0 b_v1 (own_chvB _) hna
  · skip
    refine own_go (fun _ k => XS.ifNo X0.here hx rfl (hb hby at_78) rfl ((if0 _ _).trans (feq hc367).1) k) ?_
    show own_Go p e below (T0.setTop (mkF m 81 #[.val (.long p1), .second, .val (.long p2), .second, .val (.int p3), .val (.int u0), .val (.int u1), .val (.int u2), .val (.int (Int32.ofNat na)), .val (.int v0), .val (.int v1), .unset, .unset, .unset, .unset, .unset, .unset, .unset, .unset, .unset, .unset, .unset, .unset] [])) _
    refine own_go (fun _ k => XS.iload X0.here hx rfl (hb hby at_81) rfl k) ?_
    show own_Go p e below (T0.setTop (mkF m 83 #[.val (.long p1), .second, .val (.long p2), .second, .val (.int p3), .val (.int u0), .val (.int u1), .val (.int u2), .val (.int (Int32.ofNat na)), .val (.int v0), .val (.int v1), .unset, .unset, .unset, .unset, .unset, .unset, .unset, .unset, .unset, .unset, .unset, .unset] [(.int u2)])) _
    refine own_go (fun _ k => XS.goto X0.here hx rfl (pc0 := 83) (pc' := 93) rfl (hb hby at_83) (by decide) (by decide) k) ?_
    show own_Go p e below (T0.setTop (mkF m 93 #[.val (.long p1), .second, .val (.long p2), .second, .val (.int p3), .val (.int u0), .val (.int u1), .val (.int u2), .val (.int (Int32.ofNat na)), .val (.int v0), .val (.int v1), .unset, .unset, .unset, .unset, .unset, .unset, .unset, .unset, .unset, .unset, .unset, .unset] [(.int u2)])) _
    refine own_go (fun _ k => XS.istore X0.here hx rfl (hb hby at_93) rfl (l' := #[.val (.long p1), .second, .val (.long p2), .second, .val (.int p3), .val (.int u0), .val (.int u1), .val (.int u2), .val (.int (Int32.ofNat na)), .val (.int v0), .val (.int v1), .val (.int u2), .unset, .unset, .unset, .unset, .unset, .unset, .unset, .unset, .unset, .unset, .unset]) rfl k) ?_
    show own_Go p e below (T0.setTop (mkF m 95 #[.val (.long p1), .second, .val (.long p2), .second, .val (.int p3), .val (.int u0), .val (.int u1), .val (.int u2), .val (.int (Int32.ofNat na)), .val (.int v0), .val (.int v1), .val (.int u2), .unset, .unset, .unset, .unset, .unset, .unset, .unset, .unset, .unset, .unset, .unset] [])) _
    exact piece95 l Z a0 hw p1 p2 p3 u0 u1 u2 v0 v1 u2 na G1 G3 h0 n0 X0 hx hby hml hown hZ hrt hlk h1 e0 N0 (Nat.le_trans Z0 (Nat.le_refl _)) O1 hh hS0 hk0 C0  O2 P5 O4 rG3 OA OH OL b_u0 b_u1 b_u2 b_v0 b_v1 b_u2 hna

set_option maxRecDepth 65536 in
set_option maxHeartbeats 40000000 in
theorem piece53 (l : Launch) (Z : State) (a0 : Array Value) (hw : ∀ d ∈ tables_1, d.before a0 Z = true) (p1 : Int64) (p2 : Int64) (p3 : Int32) (u0 : Int32) (u1 : Int32) (u2 : Int32) (v0 : Int32) (na : Nat) (G1 : Int32) (G3 : Value) (h0 : Heap) (n0 : Nat) {p : Program} {e : Env} {s : State} {vm0 : Vm} {m : MethodId} {below : List Frame} {meth : Method} {cC : Code} {T0 : State} {locs : List Loc} (X0 : Stand p l e room_1 (s.setVm vm0) m #[(.long p1), (.long p2), (.int p3)] below meth cC T0 locs 0 0) (hx : p.tables.exec = Jvm.exec) (hby : cC.code = code) (hml : cC.maxLocals = maxLocals) (hown : (s.setVm vm0).vm.findClass "com/example/rolelattice/rolelattice/decision/CodePointsComparePinLaw" = some m.cls) (hZ : Z.Warmed39 (s.setVm vm0).vm) (hrt : meth.sig.returnType = ret) (hlk : meth.locks = false) (h1 : Heap) (e0 : T0.heap = h1) (N0 : Fr n0 locs) (Z0 : n0 ≤ h1.size) (O1 : Old Z n0 h1) (hh : s.heap = h0) {k0 : Nat} (hS0 : s.Since vm0 k0) (hk0 : k0 ≤ h1.size) (C0 : CHr Z own_EL s.vm h0 vm0 h1) (O2 : Sta Z Z.heap "java/lang/String" "COMPACT_STRINGS" "Z" (.int G1)) (P5 : ¬ (G1 = (0 : Int32))) (O4 : Sta Z Z.heap "jdk/internal/util/Preconditions" "SIOOBE_FORMATTER" "Ljava/util/function/BiFunction;" G3) (rG3 : G3.isRef = true) (OA : Sta Z Z.heap "java/lang/StringUTF16" "$assertionsDisabled" "Z" (.int (1 : Int32))) (OH : Sta Z Z.heap "java/lang/StringUTF16" "HI_BYTE_SHIFT" "I" (.int (0 : Int32))) (OL : Sta Z Z.heap "java/lang/StringUTF16" "LO_BYTE_SHIFT" "I" (.int (8 : Int32))) (b_u0 : ¬ u0 < 0 ∧ ¬ (65535 : Int32) < u0) (b_u1 : ¬ u1 < 0 ∧ ¬ (65535 : Int32) < u1) (b_u2 : ¬ u2 < 0 ∧ ¬ (65535 : Int32) < u2) (b_v0 : ¬ v0 < 0 ∧ ¬ (65535 : Int32) < v0) (hna : na ≤ 3) :
    own_Go p e below (T0.setTop (mkF m 53 #[.val (.long p1), .second, .val (.long p2), .second, .val (.int p3), .val (.int u0), .val (.int u1), .val (.int u2), .val (.int (Int32.ofNat na)), .val (.int v0), .unset, .unset, .unset, .unset, .unset, .unset, .unset, .unset, .unset, .unset, .unset, .unset, .unset] [])) (fun oO U' => ∃ rV rL, oO = .returned rV ∧ QQ0 n0 rV U'.heap rL ∧ CHr Z own_EL s.vm s.heap U'.vm U'.heap ∧ ReturnedEndW s oO U' rL 40 1216) := by
  have own_wS := own_wSt hw
  have own_hEL := own_hELt hw
  show own_Go p e below (T0.setTop (mkF m 53 #[.val (.long p1), .second, .val (.long p2), .second, .val (.int p3), .val (.int u0), .val (.int u1), .val (.int u2), .val (.int (Int32.ofNat na)), .val (.int v0), .unset, .unset, .unset, .unset, .unset, .unset, .unset, .unset, .unset, .unset, .unset, .unset, .unset] [])) _
  refine own_go (fun _ k => XS.iload X0.here hx rfl (hb hby at_53) rfl k) ?_
  show own_Go p e below (T0.setTop (mkF m 55 #[.val (.long p1), .second, .val (.long p2), .second, .val (.int p3), .val (.int u0), .val (.int u1), .val (.int u2), .val (.int (Int32.ofNat na)), .val (.int v0), .unset, .unset, .unset, .unset, .unset, .unset, .unset, .unset, .unset, .unset, .unset, .unset, .unset] [(.int p3)])) _
  refine own_go (fun _ k => XS.iconst X0.here hx rfl (hb hby at_55) k) ?_
  show own_Go p e below (T0.setTop (mkF m 56 #[.val (.long p1), .second, .val (.long p2), .second, .val (.int p3), .val (.int u0), .val (.int u1), .val (.int u2), .val (.int (Int32.ofNat na)), .val (.int v0), .unset, .unset, .unset, .unset, .unset, .unset, .unset, .unset, .unset, .unset, .unset, .unset, .unset] [(.int (2 : Int32)), (.int p3)])) _
  refine own_go (fun _ k => XS.iand X0.here hx rfl (hb hby at_56) rfl k) ?_
  show own_Go p e below (T0.setTop (mkF m 57 #[.val (.long p1), .second, .val (.long p2), .second, .val (.int p3), .val (.int u0), .val (.int u1), .val (.int u2), .val (.int (Int32.ofNat na)), .val (.int v0), .unset, .unset, .unset, .unset, .unset, .unset, .unset, .unset, .unset, .unset, .unset, .unset, .unset] [(.int (p3 &&& (2 : Int32)))])) _
  by_cases hc369 : (p3 &&& (2 : Int32)) = (0 : Int32)
  · skip
    refine own_go (fun _ k => XS.ifYes X0.here hx rfl (pc0 := 57) (pc' := 65) rfl (hb hby at_57) rfl ((if0 _ _).trans (teq hc369).1) (by decide) (by decide) k) ?_
    show own_Go p e below (T0.setTop (mkF m 65 #[.val (.long p1), .second, .val (.long p2), .second, .val (.int p3), .val (.int u0), .val (.int u1), .val (.int u2), .val (.int (Int32.ofNat na)), .val (.int v0), .unset, .unset, .unset, .unset, .unset, .unset, .unset, .unset, .unset, .unset, .unset, .unset, .unset] [])) _
    refine own_go (fun _ k => XS.lloadN X0.here hx rfl (hb hby at_65) rfl k) ?_
    show own_Go p e below (T0.setTop (mkF m 66 #[.val (.long p1), .second, .val (.long p2), .second, .val (.int p3), .val (.int u0), .val (.int u1), .val (.int u2), .val (.int (Int32.ofNat na)), .val (.int v0), .unset, .unset, .unset, .unset, .unset, .unset, .unset, .unset, .unset, .unset, .unset, .unset, .unset] [(.long p2)])) _
    refine own_go (fun _ k => XS.bipush X0.here hx rfl (hb hby at_66) k) ?_
    show own_Go p e below (T0.setTop (mkF m 68 #[.val (.long p1), .second, .val (.long p2), .second, .val (.int p3), .val (.int u0), .val (.int u1), .val (.int u2), .val (.int (Int32.ofNat na)), .val (.int v0), .unset, .unset, .unset, .unset, .unset, .unset, .unset, .unset, .unset, .unset, .unset, .unset, .unset] [(.int (18 : Int32)), (.long p2)])) _
    refine own_go (fun _ k => XS.lushr X0.here hx rfl (hb hby at_68) rfl k) ?_
    show own_Go p e below (T0.setTop (mkF m 69 #[.val (.long p1), .second, .val (.long p2), .second, .val (.int p3), .val (.int u0), .val (.int u1), .val (.int u2), .val (.int (Int32.ofNat na)), .val (.int v0), .unset, .unset, .unset, .unset, .unset, .unset, .unset, .unset, .unset, .unset, .unset, .unset, .unset] [(.long ((p2.toUInt64 >>> ((18 : Int32) &&& 0x3f).toInt64.toUInt64).toInt64))])) _
    obtain ⟨v370, _, ⟨T370, L370, k370, n370⟩, -, X370, ⟨Lc370, hQ370, l370, y370, z370⟩, st370⟩ := Jvm.LawKit.callS X0 hx (y := (⟨"com/example/rolelattice/rolelattice/decision/CodePointsComparePinLaw", "ch", "(J)C"⟩ : MethodName)) hown (mvT hZ (hw _ (List.mem_of_getElem? (i := 0) rfl))) (mvT hZ (hw _ (List.mem_of_getElem? (i := 1) rfl))) (mvT hZ (hw _ (List.mem_of_getElem? (i := 2) rfl))) (mvT hZ (hw _ (List.mem_of_getElem? (i := 3) rfl))) (by decide) (backOf (W := 0) (rm_ch l Z a0 hw [] ((p2.toUInt64 >>> ((18 : Int32) &&& 0x3f).toInt64.toUInt64).toInt64) h1 n0 O1 ) hZ (hw _ (List.mem_of_getElem? (i := 3) rfl)) (hw _ (List.mem_of_getElem? (i := 2) rfl)) (by decide) (by decide)) (g := (mkF m 69 #[.val (.long p1), .second, .val (.long p2), .second, .val (.int p3), .val (.int u0), .val (.int u1), .val (.int u2), .val (.int (Int32.ofNat na)), .val (.int v0), .unset, .unset, .unset, .unset, .unset, .unset, .unset, .unset, .unset, .unset, .unset, .unset, .unset] [(.long ((p2.toUInt64 >>> ((18 : Int32) &&& 0x3f).toInt64.toUInt64).toInt64))])) rfl (by rw [hml]; rfl) (argsL := [(.long ((p2.toUInt64 >>> ((18 : Int32) &&& 0x3f).toInt64.toUInt64).toInt64))]) (rest := []) (lenOf pd_24 rfl) rfl (by show 2 * 0 + _ ≤ _; exact Nat.le_of_eq rfl) (hb hby at_69) (fun _ _ => ⟨rfl, e0, (by decide : 0 + 0 ≤ _), (by decide : 0 + 0 ≤ _)⟩)
    dsimp only [Pt.U, Pt.locs, Pt.cells, Pt.slots] at X370 l370 y370 z370 st370 hQ370
    subst l370 y370 z370
    refine own_go st370 ?_
    obtain ⟨rfl, Nq370, e370⟩ := hQ370
    have N370 := Fr.app N0 Nq370
    show own_Go p e below (T370.setTop (mkF m 72 #[.val (.long p1), .second, .val (.long p2), .second, .val (.int p3), .val (.int u0), .val (.int u1), .val (.int u2), .val (.int (Int32.ofNat na)), .val (.int v0), .unset, .unset, .unset, .unset, .unset, .unset, .unset, .unset, .unset, .unset, .unset, .unset, .unset] [(.int (own_chv ((p2.toUInt64 >>> ((18 : Int32) &&& 0x3f).toInt64.toUInt64).toInt64)))])) _
    refine own_go (fun _ k => XS.istore X370.here hx rfl (hb hby at_72) rfl (l' := #[.val (.long p1), .second, .val (.long p2), .second, .val (.int p3), .val (.int u0), .val (.int u1), .val (.int u2), .val (.int (Int32.ofNat na)), .val (.int v0), .val (.int (own_chv ((p2.toUInt64 >>> ((18 : Int32) &&& 0x3f).toInt64.toUInt64).toInt64))), .unset, .unset, .unset, .unset, .unset, .unset, .unset, .unset, .unset, .unset, .unset, .unset]) rfl k) ?_
    show own_Go p e below (T370.setTop (mkF m 74 #[.val (.long p1), .second, .val (.long p2), .second, .val (.int p3), .val (.int u0), .val (.int u1), .val (.int u2), .val (.int (Int32.ofNat na)), .val (.int v0), .val (.int (own_chv ((p2.toUInt64 >>> ((18 : Int32) &&& 0x3f).toInt64.toUInt64).toInt64))), .unset, .unset, .unset, .unset, .unset, .unset, .unset, .unset, .unset, .unset, .unset, .unset] [])) _
    exact piece74 l Z a0 hw p1 p2 p3 u0 u1 u2 v0 (own_chv ((p2.toUInt64 >>> ((18 : Int32) &&& 0x3f).toInt64.toUInt64).toInt64)) na G1 G3 h0 n0 X370 hx hby hml hown hZ hrt hlk h1 e370 N370 (Nat.le_trans Z0 (Nat.le_refl _)) O1 hh hS0 hk0 C0  O2 P5 O4 rG3 OA OH OL b_u0 b_u1 b_u2 b_v0 (own_chvB _) hna
  · skip
    refine own_go (fun _ k => XS.ifNo X0.here hx rfl (hb hby at_57) rfl ((if0 _ _).trans (feq hc369).1) k) ?_
    show own_Go p e below (T0.setTop (mkF m 60 #[.val (.long p1), .second, .val (.long p2), .second, .val (.int p3), .val (.int u0), .val (.int u1), .val (.int u2), .val (.int (Int32.ofNat na)), .val (.int v0), .unset, .unset, .unset, .unset, .unset, .unset, .unset, .unset, .unset, .unset, .unset, .unset, .unset] [])) _
    refine own_go (fun _ k => XS.iload X0.here hx rfl (hb hby at_60) rfl k) ?_
    show own_Go p e below (T0.setTop (mkF m 62 #[.val (.long p1), .second, .val (.long p2), .second, .val (.int p3), .val (.int u0), .val (.int u1), .val (.int u2), .val (.int (Int32.ofNat na)), .val (.int v0), .unset, .unset, .unset, .unset, .unset, .unset, .unset, .unset, .unset, .unset, .unset, .unset, .unset] [(.int u1)])) _
    refine own_go (fun _ k => XS.goto X0.here hx rfl (pc0 := 62) (pc' := 72) rfl (hb hby at_62) (by decide) (by decide) k) ?_
    show own_Go p e below (T0.setTop (mkF m 72 #[.val (.long p1), .second, .val (.long p2), .second, .val (.int p3), .val (.int u0), .val (.int u1), .val (.int u2), .val (.int (Int32.ofNat na)), .val (.int v0), .unset, .unset, .unset, .unset, .unset, .unset, .unset, .unset, .unset, .unset, .unset, .unset, .unset] [(.int u1)])) _
    refine own_go (fun _ k => XS.istore X0.here hx rfl (hb hby at_72) rfl (l' := #[.val (.long p1), .second, .val (.long p2), .second, .val (.int p3), .val (.int u0), .val (.int u1), .val (.int u2), .val (.int (Int32.ofNat na)), .val (.int v0), .val (.int u1), .unset, .unset, .unset, .unset, .unset, .unset, .unset, .unset, .unset, .unset, .unset, .unset]) rfl k) ?_
    show own_Go p e below (T0.setTop (mkF m 74 #[.val (.long p1), .second, .val (.long p2), .second, .val (.int p3), .val (.int u0), .val (.int u1), .val (.int u2), .val (.int (Int32.ofNat na)), .val (.int v0), .val (.int u1), .unset, .unset, .unset, .unset, .unset, .unset, .unset, .unset, .unset, .unset, .unset, .unset] [])) _
    exact piece74 l Z a0 hw p1 p2 p3 u0 u1 u2 v0 u1 na G1 G3 h0 n0 X0 hx hby hml hown hZ hrt hlk h1 e0 N0 (Nat.le_trans Z0 (Nat.le_refl _)) O1 hh hS0 hk0 C0  O2 P5 O4 rG3 OA OH OL b_u0 b_u1 b_u2 b_v0 b_u1 hna

theorem ef_rm_law (m : MethodId) (x0 : Int64) (x1 : Int64) (x2 : Int32) : entryFrame m #[(.long x0), (.long x1), (.int x2)] maxLocals = mkF m 0 #[.val (.long x0), .second, .val (.long x1), .second, .val (.int x2), .unset, .unset, .unset, .unset, .unset, .unset, .unset, .unset, .unset, .unset, .unset, .unset, .unset, .unset, .unset, .unset, .unset, .unset] [] := by
   first | (simp [entryFrame, mkF, argsToLocals, Value.category, maxLocals]; done) | rfl
set_option maxRecDepth 65536 in
set_option maxHeartbeats 40000000 in
theorem rm_law (l : Launch) (Z : State) (a0 : Array Value) (hw : ∀ d ∈ tables_1, d.before a0 Z = true) (ws : List Jvm.Cond) (p1 : Int64) (p2 : Int64) (p3 : Int32) (G1 : Int32) (G3 : Value) (h0 : Heap) (n0 : Nat) (O0 : Old Z n0 h0) (O2 : Sta Z Z.heap "java/lang/String" "COMPACT_STRINGS" "Z" (.int G1)) (P5 : ¬ (G1 = (0 : Int32))) (O4 : Sta Z Z.heap "jdk/internal/util/Preconditions" "SIOOBE_FORMATTER" "Ljava/util/function/BiFunction;" G3) (rG3 : G3.isRef = true) (OA : Sta Z Z.heap "java/lang/StringUTF16" "$assertionsDisabled" "Z" (.int (1 : Int32))) (OH : Sta Z Z.heap "java/lang/StringUTF16" "HI_BYTE_SHIFT" "I" (.int (0 : Int32))) (OL : Sta Z Z.heap "java/lang/StringUTF16" "LO_BYTE_SHIFT" "I" (.int (8 : Int32))) :
    MetFree l x (head1 (Jvm.Cond.code x code maxLocals ret :: ws) room_1) (fun aA U => aA = #[(.long p1), (.long p2), (.int p3)] ∧ Z.Warmed39 U.vm ∧ U.heap = h0 ∧ CHv Z own_EL U.vm h0) (fun _ _ _ _ _ => True) (fun _ U oO U' => ∃ rV rL, oO = .returned rV ∧ QQ0 n0 rV U'.heap rL ∧ CHr Z own_EL U.vm U.heap U'.vm U'.heap ∧ ReturnedEndW U oO U' rL 40 1216) := by
  refine MetFree.of_bodySF (plainFor_of_name pn_3) hisR ?_
  intro p e s m args below meth cC s₁ Bd hml0 hP hK
  obtain ⟨rfl, hZ, hh, hC0⟩ := hP
  have hx := Bd.exec
  have hby := Bd.bytes
  have hml : cC.maxLocals = maxLocals := hml0
  have hown : s.vm.findClass "com/example/rolelattice/rolelattice/decision/CodePointsComparePinLaw" = some m.cls := findClass_of_methodNamed Bd.named
  have hnm := (name_of_methodNamed Bd.named Bd.method).1
  have hrt := Bd.returns
  have hlk : meth.locks = false := Bd.notSynchronized
  have X0 : Stand p l e room_1 (s.setVm s.vm) m #[(.long p1), (.long p2), (.int p3)] below meth cC s₁ [] 0 0 := Stand.of_body Bd
  have e0 : s₁.heap = h0 := by rw [← hh, Bd.state]; rfl
  have N0 := Fr.nil n0
  have Z0 : n0 ≤ h0.size := O0.1 ▸ O0.2.1
  have hS0 : s.Since s.vm 0 := (State.WarmedH.refl s).since 0
  have C0 : CHr Z own_EL s.vm h0 s.vm h0 := CHr.refl hC0
  have own_wS := own_wSt hw
  have own_hEL := own_hELt hw
  show own_Go p e below (s₁.setTop (entryFrame m #[(.long p1), (.long p2), (.int p3)] maxLocals)) (fun oO U' => ∃ rV rL, oO = .returned rV ∧ QQ0 n0 rV U'.heap rL ∧ CHr Z own_EL s.vm s.heap U'.vm U'.heap ∧ ReturnedEndW s oO U' rL 40 1216)
  refine own_go (fun _ k => castTop (ef_rm_law m p1 p2 p3) k) ?_
  show own_Go p e below (s₁.setTop (mkF m 0 #[.val (.long p1), .second, .val (.long p2), .second, .val (.int p3), .unset, .unset, .unset, .unset, .unset, .unset, .unset, .unset, .unset, .unset, .unset, .unset, .unset, .unset, .unset, .unset, .unset, .unset] [])) _
  refine own_go (fun _ k => XS.lloadN X0.here hx rfl (hb hby at_0) rfl k) ?_
  show own_Go p e below (s₁.setTop (mkF m 1 #[.val (.long p1), .second, .val (.long p2), .second, .val (.int p3), .unset, .unset, .unset, .unset, .unset, .unset, .unset, .unset, .unset, .unset, .unset, .unset, .unset, .unset, .unset, .unset, .unset, .unset] [(.long p1)])) _
  obtain ⟨v371, _, ⟨T371, L371, k371, n371⟩, -, X371, ⟨Lc371, hQ371, l371, y371, z371⟩, st371⟩ := Jvm.LawKit.callS X0 hx (y := (⟨"com/example/rolelattice/rolelattice/decision/CodePointsComparePinLaw", "ch", "(J)C"⟩ : MethodName)) hown (mvT hZ (hw _ (List.mem_of_getElem? (i := 0) rfl))) (mvT hZ (hw _ (List.mem_of_getElem? (i := 1) rfl))) (mvT hZ (hw _ (List.mem_of_getElem? (i := 2) rfl))) (mvT hZ (hw _ (List.mem_of_getElem? (i := 3) rfl))) (by decide) (backOf (W := 0) (rm_ch l Z a0 hw [] p1 h0 n0 O0 ) hZ (hw _ (List.mem_of_getElem? (i := 3) rfl)) (hw _ (List.mem_of_getElem? (i := 2) rfl)) (by decide) (by decide)) (g := (mkF m 1 #[.val (.long p1), .second, .val (.long p2), .second, .val (.int p3), .unset, .unset, .unset, .unset, .unset, .unset, .unset, .unset, .unset, .unset, .unset, .unset, .unset, .unset, .unset, .unset, .unset, .unset] [(.long p1)])) rfl (by rw [hml]; rfl) (argsL := [(.long p1)]) (rest := []) (lenOf pd_24 rfl) rfl (by show 2 * 0 + _ ≤ _; exact Nat.le_of_eq rfl) (hb hby at_1) (fun _ _ => ⟨rfl, e0, (by decide : 0 + 0 ≤ _), (by decide : 0 + 0 ≤ _)⟩)
  dsimp only [Pt.U, Pt.locs, Pt.cells, Pt.slots] at X371 l371 y371 z371 st371 hQ371
  subst l371 y371 z371
  refine own_go st371 ?_
  obtain ⟨rfl, Nq371, e371⟩ := hQ371
  have N371 := Fr.app N0 Nq371
  show own_Go p e below (T371.setTop (mkF m 4 #[.val (.long p1), .second, .val (.long p2), .second, .val (.int p3), .unset, .unset, .unset, .unset, .unset, .unset, .unset, .unset, .unset, .unset, .unset, .unset, .unset, .unset, .unset, .unset, .unset, .unset] [(.int (own_chv p1))])) _
  refine own_go (fun _ k => XS.istore X371.here hx rfl (hb hby at_4) rfl (l' := #[.val (.long p1), .second, .val (.long p2), .second, .val (.int p3), .val (.int (own_chv p1)), .unset, .unset, .unset, .unset, .unset, .unset, .unset, .unset, .unset, .unset, .unset, .unset, .unset, .unset, .unset, .unset, .unset]) rfl k) ?_
  show own_Go p e below (T371.setTop (mkF m 6 #[.val (.long p1), .second, .val (.long p2), .second, .val (.int p3), .val (.int (own_chv p1)), .unset, .unset, .unset, .unset, .unset, .unset, .unset, .unset, .unset, .unset, .unset, .unset, .unset, .unset, .unset, .unset, .unset] [])) _
  refine own_go (fun _ k => XS.lloadN X371.here hx rfl (hb hby at_6) rfl k) ?_
  show own_Go p e below (T371.setTop (mkF m 7 #[.val (.long p1), .second, .val (.long p2), .second, .val (.int p3), .val (.int (own_chv p1)), .unset, .unset, .unset, .unset, .unset, .unset, .unset, .unset, .unset, .unset, .unset, .unset, .unset, .unset, .unset, .unset, .unset] [(.long p1)])) _
  refine own_go (fun _ k => XS.bipush X371.here hx rfl (hb hby at_7) k) ?_
  show own_Go p e below (T371.setTop (mkF m 9 #[.val (.long p1), .second, .val (.long p2), .second, .val (.int p3), .val (.int (own_chv p1)), .unset, .unset, .unset, .unset, .unset, .unset, .unset, .unset, .unset, .unset, .unset, .unset, .unset, .unset, .unset, .unset, .unset] [(.int (18 : Int32)), (.long p1)])) _
  refine own_go (fun _ k => XS.lushr X371.here hx rfl (hb hby at_9) rfl k) ?_
  show own_Go p e below (T371.setTop (mkF m 10 #[.val (.long p1), .second, .val (.long p2), .second, .val (.int p3), .val (.int (own_chv p1)), .unset, .unset, .unset, .unset, .unset, .unset, .unset, .unset, .unset, .unset, .unset, .unset, .unset, .unset, .unset, .unset, .unset] [(.long ((p1.toUInt64 >>> ((18 : Int32) &&& 0x3f).toInt64.toUInt64).toInt64))])) _
  obtain ⟨v372, _, ⟨T372, L372, k372, n372⟩, -, X372, ⟨Lc372, hQ372, l372, y372, z372⟩, st372⟩ := Jvm.LawKit.callS X371 hx (y := (⟨"com/example/rolelattice/rolelattice/decision/CodePointsComparePinLaw", "ch", "(J)C"⟩ : MethodName)) hown (mvT hZ (hw _ (List.mem_of_getElem? (i := 0) rfl))) (mvT hZ (hw _ (List.mem_of_getElem? (i := 1) rfl))) (mvT hZ (hw _ (List.mem_of_getElem? (i := 2) rfl))) (mvT hZ (hw _ (List.mem_of_getElem? (i := 3) rfl))) (by decide) (backOf (W := 0) (rm_ch l Z a0 hw [] ((p1.toUInt64 >>> ((18 : Int32) &&& 0x3f).toInt64.toUInt64).toInt64) h0 n0 O0 ) hZ (hw _ (List.mem_of_getElem? (i := 3) rfl)) (hw _ (List.mem_of_getElem? (i := 2) rfl)) (by decide) (by decide)) (g := (mkF m 10 #[.val (.long p1), .second, .val (.long p2), .second, .val (.int p3), .val (.int (own_chv p1)), .unset, .unset, .unset, .unset, .unset, .unset, .unset, .unset, .unset, .unset, .unset, .unset, .unset, .unset, .unset, .unset, .unset] [(.long ((p1.toUInt64 >>> ((18 : Int32) &&& 0x3f).toInt64.toUInt64).toInt64))])) rfl (by rw [hml]; rfl) (argsL := [(.long ((p1.toUInt64 >>> ((18 : Int32) &&& 0x3f).toInt64.toUInt64).toInt64))]) (rest := []) (lenOf pd_24 rfl) rfl (by show 2 * 0 + _ ≤ _; exact Nat.le_of_eq rfl) (hb hby at_10) (fun _ _ => ⟨rfl, e371, (by decide : 0 + 0 ≤ _), (by decide : 0 + 0 ≤ _)⟩)
  dsimp only [Pt.U, Pt.locs, Pt.cells, Pt.slots] at X372 l372 y372 z372 st372 hQ372
  subst l372 y372 z372
  refine own_go st372 ?_
  obtain ⟨rfl, Nq372, e372⟩ := hQ372
  have N372 := Fr.app N371 Nq372
  show own_Go p e below (T372.setTop (mkF m 13 #[.val (.long p1), .second, .val (.long p2), .second, .val (.int p3), .val (.int (own_chv p1)), .unset, .unset, .unset, .unset, .unset, .unset, .unset, .unset, .unset, .unset, .unset, .unset, .unset, .unset, .unset, .unset, .unset] [(.int (own_chv ((p1.toUInt64 >>> ((18 : Int32) &&& 0x3f).toInt64.toUInt64).toInt64)))])) _
  refine own_go (fun _ k => XS.istore X372.here hx rfl (hb hby at_13) rfl (l' := #[.val (.long p1), .second, .val (.long p2), .second, .val (.int p3), .val (.int (own_chv p1)), .val (.int (own_chv ((p1.toUInt64 >>> ((18 : Int32) &&& 0x3f).toInt64.toUInt64).toInt64))), .unset, .unset, .unset, .unset, .unset, .unset, .unset, .unset, .unset, .unset, .unset, .unset, .unset, .unset, .unset, .unset]) rfl k) ?_
  show own_Go p e below (T372.setTop (mkF m 15 #[.val (.long p1), .second, .val (.long p2), .second, .val (.int p3), .val (.int (own_chv p1)), .val (.int (own_chv ((p1.toUInt64 >>> ((18 : Int32) &&& 0x3f).toInt64.toUInt64).toInt64))), .unset, .unset, .unset, .unset, .unset, .unset, .unset, .unset, .unset, .unset, .unset, .unset, .unset, .unset, .unset, .unset] [])) _
  refine own_go (fun _ k => XS.lloadN X372.here hx rfl (hb hby at_15) rfl k) ?_
  show own_Go p e below (T372.setTop (mkF m 16 #[.val (.long p1), .second, .val (.long p2), .second, .val (.int p3), .val (.int (own_chv p1)), .val (.int (own_chv ((p1.toUInt64 >>> ((18 : Int32) &&& 0x3f).toInt64.toUInt64).toInt64))), .unset, .unset, .unset, .unset, .unset, .unset, .unset, .unset, .unset, .unset, .unset, .unset, .unset, .unset, .unset, .unset] [(.long p1)])) _
  refine own_go (fun _ k => XS.bipush X372.here hx rfl (hb hby at_16) k) ?_
  show own_Go p e below (T372.setTop (mkF m 18 #[.val (.long p1), .second, .val (.long p2), .second, .val (.int p3), .val (.int (own_chv p1)), .val (.int (own_chv ((p1.toUInt64 >>> ((18 : Int32) &&& 0x3f).toInt64.toUInt64).toInt64))), .unset, .unset, .unset, .unset, .unset, .unset, .unset, .unset, .unset, .unset, .unset, .unset, .unset, .unset, .unset, .unset] [(.int (36 : Int32)), (.long p1)])) _
  refine own_go (fun _ k => XS.lushr X372.here hx rfl (hb hby at_18) rfl k) ?_
  show own_Go p e below (T372.setTop (mkF m 19 #[.val (.long p1), .second, .val (.long p2), .second, .val (.int p3), .val (.int (own_chv p1)), .val (.int (own_chv ((p1.toUInt64 >>> ((18 : Int32) &&& 0x3f).toInt64.toUInt64).toInt64))), .unset, .unset, .unset, .unset, .unset, .unset, .unset, .unset, .unset, .unset, .unset, .unset, .unset, .unset, .unset, .unset] [(.long ((p1.toUInt64 >>> ((36 : Int32) &&& 0x3f).toInt64.toUInt64).toInt64))])) _
  obtain ⟨v373, _, ⟨T373, L373, k373, n373⟩, -, X373, ⟨Lc373, hQ373, l373, y373, z373⟩, st373⟩ := Jvm.LawKit.callS X372 hx (y := (⟨"com/example/rolelattice/rolelattice/decision/CodePointsComparePinLaw", "ch", "(J)C"⟩ : MethodName)) hown (mvT hZ (hw _ (List.mem_of_getElem? (i := 0) rfl))) (mvT hZ (hw _ (List.mem_of_getElem? (i := 1) rfl))) (mvT hZ (hw _ (List.mem_of_getElem? (i := 2) rfl))) (mvT hZ (hw _ (List.mem_of_getElem? (i := 3) rfl))) (by decide) (backOf (W := 0) (rm_ch l Z a0 hw [] ((p1.toUInt64 >>> ((36 : Int32) &&& 0x3f).toInt64.toUInt64).toInt64) h0 n0 O0 ) hZ (hw _ (List.mem_of_getElem? (i := 3) rfl)) (hw _ (List.mem_of_getElem? (i := 2) rfl)) (by decide) (by decide)) (g := (mkF m 19 #[.val (.long p1), .second, .val (.long p2), .second, .val (.int p3), .val (.int (own_chv p1)), .val (.int (own_chv ((p1.toUInt64 >>> ((18 : Int32) &&& 0x3f).toInt64.toUInt64).toInt64))), .unset, .unset, .unset, .unset, .unset, .unset, .unset, .unset, .unset, .unset, .unset, .unset, .unset, .unset, .unset, .unset] [(.long ((p1.toUInt64 >>> ((36 : Int32) &&& 0x3f).toInt64.toUInt64).toInt64))])) rfl (by rw [hml]; rfl) (argsL := [(.long ((p1.toUInt64 >>> ((36 : Int32) &&& 0x3f).toInt64.toUInt64).toInt64))]) (rest := []) (lenOf pd_24 rfl) rfl (by show 2 * 0 + _ ≤ _; exact Nat.le_of_eq rfl) (hb hby at_19) (fun _ _ => ⟨rfl, e372, (by decide : 0 + 0 ≤ _), (by decide : 0 + 0 ≤ _)⟩)
  dsimp only [Pt.U, Pt.locs, Pt.cells, Pt.slots] at X373 l373 y373 z373 st373 hQ373
  subst l373 y373 z373
  refine own_go st373 ?_
  obtain ⟨rfl, Nq373, e373⟩ := hQ373
  have N373 := Fr.app N372 Nq373
  show own_Go p e below (T373.setTop (mkF m 22 #[.val (.long p1), .second, .val (.long p2), .second, .val (.int p3), .val (.int (own_chv p1)), .val (.int (own_chv ((p1.toUInt64 >>> ((18 : Int32) &&& 0x3f).toInt64.toUInt64).toInt64))), .unset, .unset, .unset, .unset, .unset, .unset, .unset, .unset, .unset, .unset, .unset, .unset, .unset, .unset, .unset, .unset] [(.int (own_chv ((p1.toUInt64 >>> ((36 : Int32) &&& 0x3f).toInt64.toUInt64).toInt64)))])) _
  refine own_go (fun _ k => XS.istore X373.here hx rfl (hb hby at_22) rfl (l' := #[.val (.long p1), .second, .val (.long p2), .second, .val (.int p3), .val (.int (own_chv p1)), .val (.int (own_chv ((p1.toUInt64 >>> ((18 : Int32) &&& 0x3f).toInt64.toUInt64).toInt64))), .val (.int (own_chv ((p1.toUInt64 >>> ((36 : Int32) &&& 0x3f).toInt64.toUInt64).toInt64))), .unset, .unset, .unset, .unset, .unset, .unset, .unset, .unset, .unset, .unset, .unset, .unset, .unset, .unset, .unset]) rfl k) ?_
  show own_Go p e below (T373.setTop (mkF m 24 #[.val (.long p1), .second, .val (.long p2), .second, .val (.int p3), .val (.int (own_chv p1)), .val (.int (own_chv ((p1.toUInt64 >>> ((18 : Int32) &&& 0x3f).toInt64.toUInt64).toInt64))), .val (.int (own_chv ((p1.toUInt64 >>> ((36 : Int32) &&& 0x3f).toInt64.toUInt64).toInt64))), .unset, .unset, .unset, .unset, .unset, .unset, .unset, .unset, .unset, .unset, .unset, .unset, .unset, .unset, .unset] [])) _
  refine own_go (fun _ k => XS.lloadN X373.here hx rfl (hb hby at_24) rfl k) ?_
  show own_Go p e below (T373.setTop (mkF m 25 #[.val (.long p1), .second, .val (.long p2), .second, .val (.int p3), .val (.int (own_chv p1)), .val (.int (own_chv ((p1.toUInt64 >>> ((18 : Int32) &&& 0x3f).toInt64.toUInt64).toInt64))), .val (.int (own_chv ((p1.toUInt64 >>> ((36 : Int32) &&& 0x3f).toInt64.toUInt64).toInt64))), .unset, .unset, .unset, .unset, .unset, .unset, .unset, .unset, .unset, .unset, .unset, .unset, .unset, .unset, .unset] [(.long p1)])) _
  refine own_go (fun _ k => XS.bipush X373.here hx rfl (hb hby at_25) k) ?_
  show own_Go p e below (T373.setTop (mkF m 27 #[.val (.long p1), .second, .val (.long p2), .second, .val (.int p3), .val (.int (own_chv p1)), .val (.int (own_chv ((p1.toUInt64 >>> ((18 : Int32) &&& 0x3f).toInt64.toUInt64).toInt64))), .val (.int (own_chv ((p1.toUInt64 >>> ((36 : Int32) &&& 0x3f).toInt64.toUInt64).toInt64))), .unset, .unset, .unset, .unset, .unset, .unset, .unset, .unset, .unset, .unset, .unset, .unset, .unset, .unset, .unset] [(.int (54 : Int32)), (.long p1)])) _
  refine own_go (fun _ k => XS.lushr X373.here hx rfl (hb hby at_27) rfl k) ?_
  show own_Go p e below (T373.setTop (mkF m 28 #[.val (.long p1), .second, .val (.long p2), .second, .val (.int p3), .val (.int (own_chv p1)), .val (.int (own_chv ((p1.toUInt64 >>> ((18 : Int32) &&& 0x3f).toInt64.toUInt64).toInt64))), .val (.int (own_chv ((p1.toUInt64 >>> ((36 : Int32) &&& 0x3f).toInt64.toUInt64).toInt64))), .unset, .unset, .unset, .unset, .unset, .unset, .unset, .unset, .unset, .unset, .unset, .unset, .unset, .unset, .unset] [(.long ((p1.toUInt64 >>> ((54 : Int32) &&& 0x3f).toInt64.toUInt64).toInt64))])) _
  refine own_go (fun _ k => X373.ldc2Long hx hown (mvT hZ (hw _ (List.mem_of_getElem? (i := 4) rfl))) (g := (mkF m 28 #[.val (.long p1), .second, .val (.long p2), .second, .val (.int p3), .val (.int (own_chv p1)), .val (.int (own_chv ((p1.toUInt64 >>> ((18 : Int32) &&& 0x3f).toInt64.toUInt64).toInt64))), .val (.int (own_chv ((p1.toUInt64 >>> ((36 : Int32) &&& 0x3f).toInt64.toUInt64).toInt64))), .unset, .unset, .unset, .unset, .unset, .unset, .unset, .unset, .unset, .unset, .unset, .unset, .unset, .unset, .unset] [(.long ((p1.toUInt64 >>> ((54 : Int32) &&& 0x3f).toInt64.toUInt64).toInt64))])) rfl (hb hby at_28) _ k) ?_
  show own_Go p e below (T373.setTop (mkF m 31 #[.val (.long p1), .second, .val (.long p2), .second, .val (.int p3), .val (.int (own_chv p1)), .val (.int (own_chv ((p1.toUInt64 >>> ((18 : Int32) &&& 0x3f).toInt64.toUInt64).toInt64))), .val (.int (own_chv ((p1.toUInt64 >>> ((36 : Int32) &&& 0x3f).toInt64.toUInt64).toInt64))), .unset, .unset, .unset, .unset, .unset, .unset, .unset, .unset, .unset, .unset, .unset, .unset, .unset, .unset, .unset] [(.long (3 : Int64)), (.long ((p1.toUInt64 >>> ((54 : Int32) &&& 0x3f).toInt64.toUInt64).toInt64))])) _
  refine own_go (fun _ k => XS.land X373.here hx rfl (hb hby at_31) rfl k) ?_
  show own_Go p e below (T373.setTop (mkF m 32 #[.val (.long p1), .second, .val (.long p2), .second, .val (.int p3), .val (.int (own_chv p1)), .val (.int (own_chv ((p1.toUInt64 >>> ((18 : Int32) &&& 0x3f).toInt64.toUInt64).toInt64))), .val (.int (own_chv ((p1.toUInt64 >>> ((36 : Int32) &&& 0x3f).toInt64.toUInt64).toInt64))), .unset, .unset, .unset, .unset, .unset, .unset, .unset, .unset, .unset, .unset, .unset, .unset, .unset, .unset, .unset] [(.long (((p1.toUInt64 >>> ((54 : Int32) &&& 0x3f).toInt64.toUInt64).toInt64) &&& (3 : Int64)))])) _
  refine own_go (fun _ k => XS.l2i X373.here hx rfl (hb hby at_32) rfl k) ?_
  show own_Go p e below (T373.setTop (mkF m 33 #[.val (.long p1), .second, .val (.long p2), .second, .val (.int p3), .val (.int (own_chv p1)), .val (.int (own_chv ((p1.toUInt64 >>> ((18 : Int32) &&& 0x3f).toInt64.toUInt64).toInt64))), .val (.int (own_chv ((p1.toUInt64 >>> ((36 : Int32) &&& 0x3f).toInt64.toUInt64).toInt64))), .unset, .unset, .unset, .unset, .unset, .unset, .unset, .unset, .unset, .unset, .unset, .unset, .unset, .unset, .unset] [(.int ((((p1.toUInt64 >>> ((54 : Int32) &&& 0x3f).toInt64.toUInt64).toInt64) &&& (3 : Int64)).toInt32))])) _
  refine own_go (fun _ k => XS.istore X373.here hx rfl (hb hby at_33) rfl (l' := #[.val (.long p1), .second, .val (.long p2), .second, .val (.int p3), .val (.int (own_chv p1)), .val (.int (own_chv ((p1.toUInt64 >>> ((18 : Int32) &&& 0x3f).toInt64.toUInt64).toInt64))), .val (.int (own_chv ((p1.toUInt64 >>> ((36 : Int32) &&& 0x3f).toInt64.toUInt64).toInt64))), .val (.int ((((p1.toUInt64 >>> ((54 : Int32) &&& 0x3f).toInt64.toUInt64).toInt64) &&& (3 : Int64)).toInt32)), .unset, .unset, .unset, .unset, .unset, .unset, .unset, .unset, .unset, .unset, .unset, .unset, .unset, .unset]) rfl k) ?_
  show own_Go p e below (T373.setTop (mkF m 35 #[.val (.long p1), .second, .val (.long p2), .second, .val (.int p3), .val (.int (own_chv p1)), .val (.int (own_chv ((p1.toUInt64 >>> ((18 : Int32) &&& 0x3f).toInt64.toUInt64).toInt64))), .val (.int (own_chv ((p1.toUInt64 >>> ((36 : Int32) &&& 0x3f).toInt64.toUInt64).toInt64))), .val (.int ((((p1.toUInt64 >>> ((54 : Int32) &&& 0x3f).toInt64.toUInt64).toInt64) &&& (3 : Int64)).toInt32)), .unset, .unset, .unset, .unset, .unset, .unset, .unset, .unset, .unset, .unset, .unset, .unset, .unset, .unset] [])) _
  obtain ⟨na, hna, ela⟩ := own_and3 ((p1.toUInt64 >>> ((54 : Int32) &&& 0x3f).toInt64.toUInt64).toInt64)
  rw [ela]
  show own_Go p e below (T373.setTop (mkF m 35 #[.val (.long p1), .second, .val (.long p2), .second, .val (.int p3), .val (.int (own_chv p1)), .val (.int (own_chv ((p1.toUInt64 >>> ((18 : Int32) &&& 0x3f).toInt64.toUInt64).toInt64))), .val (.int (own_chv ((p1.toUInt64 >>> ((36 : Int32) &&& 0x3f).toInt64.toUInt64).toInt64))), .val (.int (Int32.ofNat na)), .unset, .unset, .unset, .unset, .unset, .unset, .unset, .unset, .unset, .unset, .unset, .unset, .unset, .unset] [])) _
  refine own_go (fun _ k => XS.iload X373.here hx rfl (hb hby at_35) rfl k) ?_
  show own_Go p e below (T373.setTop (mkF m 37 #[.val (.long p1), .second, .val (.long p2), .second, .val (.int p3), .val (.int (own_chv p1)), .val (.int (own_chv ((p1.toUInt64 >>> ((18 : Int32) &&& 0x3f).toInt64.toUInt64).toInt64))), .val (.int (own_chv ((p1.toUInt64 >>> ((36 : Int32) &&& 0x3f).toInt64.toUInt64).toInt64))), .val (.int (Int32.ofNat na)), .unset, .unset, .unset, .unset, .unset, .unset, .unset, .unset, .unset, .unset, .unset, .unset, .unset, .unset] [(.int p3)])) _
  refine own_go (fun _ k => XS.iconst X373.here hx rfl (hb hby at_37) k) ?_
  show own_Go p e below (T373.setTop (mkF m 38 #[.val (.long p1), .second, .val (.long p2), .second, .val (.int p3), .val (.int (own_chv p1)), .val (.int (own_chv ((p1.toUInt64 >>> ((18 : Int32) &&& 0x3f).toInt64.toUInt64).toInt64))), .val (.int (own_chv ((p1.toUInt64 >>> ((36 : Int32) &&& 0x3f).toInt64.toUInt64).toInt64))), .val (.int (Int32.ofNat na)), .unset, .unset, .unset, .unset, .unset, .unset, .unset, .unset, .unset, .unset, .unset, .unset, .unset, .unset] [(.int (1 : Int32)), (.int p3)])) _
  refine own_go (fun _ k => XS.iand X373.here hx rfl (hb hby at_38) rfl k) ?_
  show own_Go p e below (T373.setTop (mkF m 39 #[.val (.long p1), .second, .val (.long p2), .second, .val (.int p3), .val (.int (own_chv p1)), .val (.int (own_chv ((p1.toUInt64 >>> ((18 : Int32) &&& 0x3f).toInt64.toUInt64).toInt64))), .val (.int (own_chv ((p1.toUInt64 >>> ((36 : Int32) &&& 0x3f).toInt64.toUInt64).toInt64))), .val (.int (Int32.ofNat na)), .unset, .unset, .unset, .unset, .unset, .unset, .unset, .unset, .unset, .unset, .unset, .unset, .unset, .unset] [(.int (p3 &&& (1 : Int32)))])) _
  by_cases hc374 : (p3 &&& (1 : Int32)) = (0 : Int32)
  · skip
    refine own_go (fun _ k => XS.ifYes X373.here hx rfl (pc0 := 39) (pc' := 47) rfl (hb hby at_39) rfl ((if0 _ _).trans (teq hc374).1) (by decide) (by decide) k) ?_
    show own_Go p e below (T373.setTop (mkF m 47 #[.val (.long p1), .second, .val (.long p2), .second, .val (.int p3), .val (.int (own_chv p1)), .val (.int (own_chv ((p1.toUInt64 >>> ((18 : Int32) &&& 0x3f).toInt64.toUInt64).toInt64))), .val (.int (own_chv ((p1.toUInt64 >>> ((36 : Int32) &&& 0x3f).toInt64.toUInt64).toInt64))), .val (.int (Int32.ofNat na)), .unset, .unset, .unset, .unset, .unset, .unset, .unset, .unset, .unset, .unset, .unset, .unset, .unset, .unset] [])) _
    refine own_go (fun _ k => XS.lloadN X373.here hx rfl (hb hby at_47) rfl k) ?_
    show own_Go p e below (T373.setTop (mkF m 48 #[.val (.long p1), .second, .val (.long p2), .second, .val (.int p3), .val (.int (own_chv p1)), .val (.int (own_chv ((p1.toUInt64 >>> ((18 : Int32) &&& 0x3f).toInt64.toUInt64).toInt64))), .val (.int (own_chv ((p1.toUInt64 >>> ((36 : Int32) &&& 0x3f).toInt64.toUInt64).toInt64))), .val (.int (Int32.ofNat na)), .unset, .unset, .unset, .unset, .unset, .unset, .unset, .unset, .unset, .unset, .unset, .unset, .unset, .unset] [(.long p2)])) _
    obtain ⟨v375, _, ⟨T375, L375, k375, n375⟩, -, X375, ⟨Lc375, hQ375, l375, y375, z375⟩, st375⟩ := Jvm.LawKit.callS X373 hx (y := (⟨"com/example/rolelattice/rolelattice/decision/CodePointsComparePinLaw", "ch", "(J)C"⟩ : MethodName)) hown (mvT hZ (hw _ (List.mem_of_getElem? (i := 0) rfl))) (mvT hZ (hw _ (List.mem_of_getElem? (i := 1) rfl))) (mvT hZ (hw _ (List.mem_of_getElem? (i := 2) rfl))) (mvT hZ (hw _ (List.mem_of_getElem? (i := 3) rfl))) (by decide) (backOf (W := 0) (rm_ch l Z a0 hw [] p2 h0 n0 O0 ) hZ (hw _ (List.mem_of_getElem? (i := 3) rfl)) (hw _ (List.mem_of_getElem? (i := 2) rfl)) (by decide) (by decide)) (g := (mkF m 48 #[.val (.long p1), .second, .val (.long p2), .second, .val (.int p3), .val (.int (own_chv p1)), .val (.int (own_chv ((p1.toUInt64 >>> ((18 : Int32) &&& 0x3f).toInt64.toUInt64).toInt64))), .val (.int (own_chv ((p1.toUInt64 >>> ((36 : Int32) &&& 0x3f).toInt64.toUInt64).toInt64))), .val (.int (Int32.ofNat na)), .unset, .unset, .unset, .unset, .unset, .unset, .unset, .unset, .unset, .unset, .unset, .unset, .unset, .unset] [(.long p2)])) rfl (by rw [hml]; rfl) (argsL := [(.long p2)]) (rest := []) (lenOf pd_24 rfl) rfl (by show 2 * 0 + _ ≤ _; exact Nat.le_of_eq rfl) (hb hby at_48) (fun _ _ => ⟨rfl, e373, (by decide : 0 + 0 ≤ _), (by decide : 0 + 0 ≤ _)⟩)
    dsimp only [Pt.U, Pt.locs, Pt.cells, Pt.slots] at X375 l375 y375 z375 st375 hQ375
    subst l375 y375 z375
    refine own_go st375 ?_
    obtain ⟨rfl, Nq375, e375⟩ := hQ375
    have N375 := Fr.app N373 Nq375
    show own_Go p e below (T375.setTop (mkF m 51 #[.val (.long p1), .second, .val (.long p2), .second, .val (.int p3), .val (.int (own_chv p1)), .val (.int (own_chv ((p1.toUInt64 >>> ((18 : Int32) &&& 0x3f).toInt64.toUInt64).toInt64))), .val (.int (own_chv ((p1.toUInt64 >>> ((36 : Int32) &&& 0x3f).toInt64.toUInt64).toInt64))), .val (.int (Int32.ofNat na)), .unset, .unset, .unset, .unset, .unset, .unset, .unset, .unset, .unset, .unset, .unset, .unset, .unset, .unset] [(.int (own_chv p2))])) _
    refine own_go (fun _ k => XS.istore X375.here hx rfl (hb hby at_51) rfl (l' := #[.val (.long p1), .second, .val (.long p2), .second, .val (.int p3), .val (.int (own_chv p1)), .val (.int (own_chv ((p1.toUInt64 >>> ((18 : Int32) &&& 0x3f).toInt64.toUInt64).toInt64))), .val (.int (own_chv ((p1.toUInt64 >>> ((36 : Int32) &&& 0x3f).toInt64.toUInt64).toInt64))), .val (.int (Int32.ofNat na)), .val (.int (own_chv p2)), .unset, .unset, .unset, .unset, .unset, .unset, .unset, .unset, .unset, .unset, .unset, .unset, .unset]) rfl k) ?_
    show own_Go p e below (T375.setTop (mkF m 53 #[.val (.long p1), .second, .val (.long p2), .second, .val (.int p3), .val (.int (own_chv p1)), .val (.int (own_chv ((p1.toUInt64 >>> ((18 : Int32) &&& 0x3f).toInt64.toUInt64).toInt64))), .val (.int (own_chv ((p1.toUInt64 >>> ((36 : Int32) &&& 0x3f).toInt64.toUInt64).toInt64))), .val (.int (Int32.ofNat na)), .val (.int (own_chv p2)), .unset, .unset, .unset, .unset, .unset, .unset, .unset, .unset, .unset, .unset, .unset, .unset, .unset] [])) _
    exact piece53 l Z a0 hw p1 p2 p3 (own_chv p1) (own_chv ((p1.toUInt64 >>> ((18 : Int32) &&& 0x3f).toInt64.toUInt64).toInt64)) (own_chv ((p1.toUInt64 >>> ((36 : Int32) &&& 0x3f).toInt64.toUInt64).toInt64)) (own_chv p2) na G1 G3 h0 n0 X375 hx hby hml hown hZ hrt hlk h0 e375 N375 (Nat.le_trans Z0 (Nat.le_refl _)) O0 hh hS0 (Nat.zero_le _) C0  O2 P5 O4 rG3 OA OH OL (own_chvB _) (own_chvB _) (own_chvB _) (own_chvB _) hna
  · skip
    refine own_go (fun _ k => XS.ifNo X373.here hx rfl (hb hby at_39) rfl ((if0 _ _).trans (feq hc374).1) k) ?_
    show own_Go p e below (T373.setTop (mkF m 42 #[.val (.long p1), .second, .val (.long p2), .second, .val (.int p3), .val (.int (own_chv p1)), .val (.int (own_chv ((p1.toUInt64 >>> ((18 : Int32) &&& 0x3f).toInt64.toUInt64).toInt64))), .val (.int (own_chv ((p1.toUInt64 >>> ((36 : Int32) &&& 0x3f).toInt64.toUInt64).toInt64))), .val (.int (Int32.ofNat na)), .unset, .unset, .unset, .unset, .unset, .unset, .unset, .unset, .unset, .unset, .unset, .unset, .unset, .unset] [])) _
    refine own_go (fun _ k => XS.iload X373.here hx rfl (hb hby at_42) rfl k) ?_
    show own_Go p e below (T373.setTop (mkF m 44 #[.val (.long p1), .second, .val (.long p2), .second, .val (.int p3), .val (.int (own_chv p1)), .val (.int (own_chv ((p1.toUInt64 >>> ((18 : Int32) &&& 0x3f).toInt64.toUInt64).toInt64))), .val (.int (own_chv ((p1.toUInt64 >>> ((36 : Int32) &&& 0x3f).toInt64.toUInt64).toInt64))), .val (.int (Int32.ofNat na)), .unset, .unset, .unset, .unset, .unset, .unset, .unset, .unset, .unset, .unset, .unset, .unset, .unset, .unset] [(.int (own_chv p1))])) _
    refine own_go (fun _ k => XS.goto X373.here hx rfl (pc0 := 44) (pc' := 51) rfl (hb hby at_44) (by decide) (by decide) k) ?_
    show own_Go p e below (T373.setTop (mkF m 51 #[.val (.long p1), .second, .val (.long p2), .second, .val (.int p3), .val (.int (own_chv p1)), .val (.int (own_chv ((p1.toUInt64 >>> ((18 : Int32) &&& 0x3f).toInt64.toUInt64).toInt64))), .val (.int (own_chv ((p1.toUInt64 >>> ((36 : Int32) &&& 0x3f).toInt64.toUInt64).toInt64))), .val (.int (Int32.ofNat na)), .unset, .unset, .unset, .unset, .unset, .unset, .unset, .unset, .unset, .unset, .unset, .unset, .unset, .unset] [(.int (own_chv p1))])) _
    refine own_go (fun _ k => XS.istore X373.here hx rfl (hb hby at_51) rfl (l' := #[.val (.long p1), .second, .val (.long p2), .second, .val (.int p3), .val (.int (own_chv p1)), .val (.int (own_chv ((p1.toUInt64 >>> ((18 : Int32) &&& 0x3f).toInt64.toUInt64).toInt64))), .val (.int (own_chv ((p1.toUInt64 >>> ((36 : Int32) &&& 0x3f).toInt64.toUInt64).toInt64))), .val (.int (Int32.ofNat na)), .val (.int (own_chv p1)), .unset, .unset, .unset, .unset, .unset, .unset, .unset, .unset, .unset, .unset, .unset, .unset, .unset]) rfl k) ?_
    show own_Go p e below (T373.setTop (mkF m 53 #[.val (.long p1), .second, .val (.long p2), .second, .val (.int p3), .val (.int (own_chv p1)), .val (.int (own_chv ((p1.toUInt64 >>> ((18 : Int32) &&& 0x3f).toInt64.toUInt64).toInt64))), .val (.int (own_chv ((p1.toUInt64 >>> ((36 : Int32) &&& 0x3f).toInt64.toUInt64).toInt64))), .val (.int (Int32.ofNat na)), .val (.int (own_chv p1)), .unset, .unset, .unset, .unset, .unset, .unset, .unset, .unset, .unset, .unset, .unset, .unset, .unset] [])) _
    exact piece53 l Z a0 hw p1 p2 p3 (own_chv p1) (own_chv ((p1.toUInt64 >>> ((18 : Int32) &&& 0x3f).toInt64.toUInt64).toInt64)) (own_chv ((p1.toUInt64 >>> ((36 : Int32) &&& 0x3f).toInt64.toUInt64).toInt64)) (own_chv p1) na G1 G3 h0 n0 X373 hx hby hml hown hZ hrt hlk h0 e373 N373 (Nat.le_trans Z0 (Nat.le_refl _)) O0 hh hS0 (Nat.zero_le _) C0  O2 P5 O4 rG3 OA OH OL (own_chvB _) (own_chvB _) (own_chvB _) (own_chvB _) hna

set_option maxRecDepth 65536 in
set_option maxHeartbeats 40000000 in
theorem comes_1 {Post : Tables → Env → Array Value → State → Outcome → State → Prop} (hpost : ∀ tb e args s v u, (limb_1_1.after args s (.returned v) u = true ∧ limb_1_2.after args s (.returned v) u = true ∧ True) → FramedW s (.returned v) u (Jvm.fieldLocs frame_1_writes args s ++ Jvm.arrayLocs frame_1_arrays args s ++ Jvm.staticLocs frame_1_statics s) 40 1216 → Post tb e args s (.returned v) u) :
    ArmFor flags0 classFile x code maxLocals ret World_1 tables_1 room_1 Calls_1 rest_1 Pre_1 Post := by
  intro l hfl _ _ p e ha hc hk s m args below hf hA hF happ hP
  obtain ⟨hcalls, hrest, hpre⟩ := hP
  obtain ⟨-, -, -, hnamed, -, -, -, hat⟩ := (Spec.applies_iff hf).mp happ
  obtain ⟨hg, hn⟩ := and_e (Cond.before_iff.mp (show (Jvm.Cond.and given_1 narrow_1).before args s = true from hpre))
  obtain ⟨hcount, hg0⟩ := and_e hg
  obtain ⟨ha0, hg1⟩ := and_e hg0
  obtain ⟨ha1, hg2⟩ := and_e hg1
  obtain ⟨w0, w1, w2, rfl⟩ : ∃ w0 w1 w2 : Value, args = #[w0, w1, w2] := by
    have hs : args.size = 3 := by simpa [Cond.value, given_1] using hcount
    obtain ⟨L⟩ := args
    match L, hs with
    | [w0, w1, w2], _ => exact ⟨w0, w1, w2, rfl⟩
  have hw := fun d (hd : d ∈ tables_1) => atoms_spec (ws := Jvm.Cond.code x code maxLocals ret :: tables_1) hat d (List.mem_cons_of_mem _ hd)
  obtain ⟨hsets, hown0⟩ := atoms_of _ (rest_1_c_eq ▸ (show rest_1_c.before _ s = true from hrest))
  obtain ⟨i0, e0⟩ := isL_v ha0
  obtain rfl : w0 = (.long i0) := Option.some.inj e0
  obtain ⟨i1, e1⟩ := isL_v ha1
  obtain rfl : w1 = (.long i1) := Option.some.inj e1
  obtain ⟨i2, e2⟩ := is_v hg2
  obtain rfl : w2 = (.int i2) := Option.some.inj e2
  obtain ⟨i_G1, e_G1⟩ := is_v (Cond.before_iff.mp (hsets _ (List.mem_of_getElem? (i := 1) rfl)))
  have S_G1 : Sta s s.heap "java/lang/String" "COMPACT_STRINGS" "Z" (.int i_G1) := Sta.start e_G1 (Or.inl (hsets _ (List.mem_of_getElem? (i := 0) rfl)))
  have c_G1 : ¬ (i_G1 = (0 : Int32)) := gotF (Cond.eq_ints e_G1 (Term.int_eval (0))) (not_v (Cond.before_iff.mp (hsets _ (List.mem_of_getElem? (i := 2) rfl))))
  obtain ⟨v_G3, e_G3, r_G3⟩ := isR_v (Cond.before_iff.mp (hsets _ (List.mem_of_getElem? (i := 8) rfl)))
  have S_G3 : Sta s s.heap "jdk/internal/util/Preconditions" "SIOOBE_FORMATTER" "Ljava/util/function/BiFunction;" v_G3 := Sta.start e_G3 (Or.inl (hsets _ (List.mem_of_getElem? (i := 7) rfl)))
  have S_OA : Sta s s.heap "java/lang/StringUTF16" "$assertionsDisabled" "Z" (.int (1 : Int32)) := Sta.start (Jvm.RoadKit.eqv_i (Term.int_eval (1)) (Cond.before_iff.mp (hsets _ (List.mem_of_getElem? (i := 12) rfl)))) (Or.inl (hsets _ (List.mem_of_getElem? (i := 11) rfl)))
  have S_OH : Sta s s.heap "java/lang/StringUTF16" "HI_BYTE_SHIFT" "I" (.int (0 : Int32)) := Sta.start (Jvm.RoadKit.eqv_i (Term.int_eval (0)) (Cond.before_iff.mp (hsets _ (List.mem_of_getElem? (i := 15) rfl)))) (Or.inl (hsets _ (List.mem_of_getElem? (i := 14) rfl)))
  have S_OL : Sta s s.heap "java/lang/StringUTF16" "LO_BYTE_SHIFT" "I" (.int (8 : Int32)) := Sta.start (Jvm.RoadKit.eqv_i (Term.int_eval (8)) (Cond.before_iff.mp (hsets _ (List.mem_of_getElem? (i := 18) rfl)))) (Or.inl (hsets _ (List.mem_of_getElem? (i := 17) rfl)))
  have hCH : CHv s own_EL s.vm s.heap := CHv.start (own_hELt hw) (fun p hp => hcalls.1 p hp) (hsets _ (List.mem_of_getElem? (i := 2) rfl)) (hw _ (List.mem_of_getElem? (i := 24) rfl)) (hw _ (List.mem_of_getElem? (i := 11) rfl))
  obtain ⟨n, o, h1, h2, h3, _, L, rfl, ⟨rfl, N⟩, hCH, hq⟩ := rm_law l s _ hw tables_1 i0 i1 i2 i_G1 v_G3 s.heap s.heap.size (Old.start s) S_G1 c_G1 S_G3 r_G3 S_OA S_OH S_OL p e ha hc hk s m _ below hf ((Spec.applies_iff_loose hf).mp happ).1 ⟨rfl, State.Warmed39.refl s, rfl, hCH⟩ trivial
  refine ⟨n, _, h1, h2, h3, hpost _ _ _ _ _ _ ⟨Cond.after_iff.mpr rfl, Cond.after_iff.mpr (eq_i res_at (Term.int_eval (1)) rfl), trivial⟩ ⟨hq.1, hq.2.1, hq.2.2.1, (hq.2.2.2.sift fun y hy => Or.inr (N y hy)).mono (by decide) (by decide)⟩⟩
theorem main_1_1 : Claimed_1_1 := comes_1 fun _ _ _ _ _ _ h hF => ⟨h.1, hF⟩
theorem main_1_2 : Claimed_1_2 := comes_1 fun _ _ _ _ _ _ h hF => ⟨h.2.1, hF⟩
end Jvm.Pilot.@@N@@
namespace Jvm.Pilot.@@N@@
open Jvm Jvm.ClassFile Sem Op Lib Jvm.Free Jvm.Stand Jvm.Pilot.@@N@@.Jvm.D
/-! MADE BY PROGRAM (witnessworld.py) out of the Statement's table words and the real class files: 23 classes; the members and pool entries that the words name. The judged class is class 1, her method 1. -/
namespace start1
open Jvm.ClassFile
def u (s : String) : CpInfo := .utf8 (stringToUtf16 s)
/-- a pool by its gaps: so many unusable entries, then the entry; so many at the end -/
def gap : Nat → List CpInfo → List CpInfo
  | 0, r => r
  | n + 1, r => .unusable :: gap n r
def poolList (es : List (Nat × CpInfo)) (last : Nat) : List CpInfo := es.foldr (fun e r => gap e.1 (e.2 :: r)) (gap last [])
def pool (es : List (Nat × CpInfo)) (last : Nat) : Array CpInfo := ⟨poolList es last⟩
def fileOf (pool : Array CpInfo) (this : Nat) (attrs : Array Attribute := #[]) (ms : Array MethodInfo := #[]) (fl : Nat := 33) (sup : Nat := 0) (ifs : Array Nat := #[]) (fds : Array FieldInfo := #[]) : ClassFile where
  minorVersion := 0
  majorVersion := 65
  constantPool := pool
  accessFlags := fl
  thisClass := this
  superClass := sup
  interfaces := ifs
  fields := fds
  methods := ms
  attributes := attrs
def plain (name : String) (sup : Option ClassId) : Class where
  name := name
  kind := .ordinary
  loader := none
  accessFlags := 33
  super := sup
  interfaces := #[]
  cf := none
  fields := #[]
  methods := #[]
  instanceTypes := #[]
  staticTypes := #[]
  resolved := #[]
  callSites := []
  init := .initialized
  statics := none
  mirror := none

def pool0 : Array CpInfo := pool [(5, u "<init>"), (0, u "()V"), (1, .class_ 10), (1, u "java/lang/Object")] 113

def k0c0 : Code := { maxStack := 0, maxLocals := 1, code := object_method_1_code, exceptionTable := #[], attributes := #[] }
def k0m0 : Method := { name := "<init>", desc := "()V", sig := { parameters := [], returnType := none }, accessFlags := 1, code := some k0c0 }
/-- java/lang/Object -/
def k0 : Class := { plain "java/lang/Object" none with
  accessFlags := 33
  interfaces := #[]
  cf := some (fileOf pool0 8 #[] #[{ accessFlags := 1, nameIndex := 5, descriptorIndex := 6, attributes := #[] }] 33 0 #[] #[])
  fields := #[]
  methods := #[k0m0]
  instanceTypes := #[]
  staticTypes := #[]
  resolved := Array.replicate 124 none
  statics := none }

def pool1 : Array CpInfo := pool [(2, .class_ 4), (1, u "java/lang/Object"), (0, u "<init>"), (0, u "()V"), (0, .methodref 8 9), (0, .class_ 10), (0, .nameAndType 11 12), (0, u "com/example/rolelattice/rolelattice/decision/CodePointsComparePinLaw"), (0, u "ch"), (0, u "(J)C"), (0, .long 3), (1, .methodref 8 16), (0, .nameAndType 17 18), (0, u "mk"), (0, u "(CCCI)Ljava/lang/String;"), (0, .methodref 20 21), (0, .class_ 22), (0, .nameAndType 23 24), (0, u "com/example/rolelattice/rolelattice/decision/CodePoints"), (0, u "compare"), (0, u "(Ljava/lang/String;Ljava/lang/String;)I"), (0, .methodref 8 26), (0, .nameAndType 27 28), (0, u "decode"), (0, u "([CI[I)I"), (0, .methodref 8 30), (0, .nameAndType 31 32), (0, u "cmpSeq"), (0, u "([II[II)I"), (0, .methodref 8 34), (0, .nameAndType 35 36), (0, u "sign"), (0, u "(I)I"), (0, .long 65535), (1, .integer 55296), (0, .integer 56320), (0, .integer 57344), (0, .class_ 43), (0, u "java/lang/String"), (0, .methodref 42 45), (0, .nameAndType 5 46), (0, u "([C)V"), (0, .integer 56319), (0, .integer 57343), (0, .methodref 8 50), (0, .nameAndType 51 52), (0, u "isHi"), (0, u "(C)Z"), (0, .methodref 8 54), (0, .nameAndType 55 52), (0, u "isLo"), (0, .methodref 8 57), (0, .nameAndType 58 59), (0, u "paired"), (0, u "([CII)Z"), (0, .integer 65536), (0, .methodref 8 62), (0, .nameAndType 63 64), (0, u "cpAt"), (0, u "([CII)I"), (0, .methodref 8 66), (0, .nameAndType 67 64), (0, u "width"), (2, u "law"), (0, u "(JJI)Z")] 7

def k1m0 : Method := { name := "<init>", desc := "()V", sig := { parameters := [], returnType := none }, accessFlags := 2, code := none }
def k1c1 : Code := { maxStack := 4, maxLocals := 23, code := code, exceptionTable := #[], attributes := #[] }
def k1m1 : Method := { name := "law", desc := "(JJI)Z", sig := { parameters := [.long, .long, .int], returnType := some .boolean }, accessFlags := 9, code := some k1c1 }
def k1c2 : Code := { maxStack := 4, maxLocals := 4, code := method_3_code, exceptionTable := #[], attributes := #[] }
def k1m2 : Method := { name := "ch", desc := "(J)C", sig := { parameters := [.long], returnType := some .char }, accessFlags := 10, code := some k1c2 }
def k1c3 : Code := { maxStack := 6, maxLocals := 4, code := method_4_code, exceptionTable := #[], attributes := #[] }
def k1m3 : Method := { name := "mk", desc := "(CCCI)Ljava/lang/String;", sig := { parameters := [.char, .char, .char, .int], returnType := some (.object "java/lang/String") }, accessFlags := 10, code := some k1c3 }
def k1c4 : Code := { maxStack := 2, maxLocals := 1, code := method_5_code, exceptionTable := #[], attributes := #[] }
def k1m4 : Method := { name := "isHi", desc := "(C)Z", sig := { parameters := [.char], returnType := some .boolean }, accessFlags := 10, code := some k1c4 }
def k1c5 : Code := { maxStack := 2, maxLocals := 1, code := method_6_code, exceptionTable := #[], attributes := #[] }
def k1m5 : Method := { name := "isLo", desc := "(C)Z", sig := { parameters := [.char], returnType := some .boolean }, accessFlags := 10, code := some k1c5 }
def k1c6 : Code := { maxStack := 3, maxLocals := 3, code := method_7_code, exceptionTable := #[], attributes := #[] }
def k1m6 : Method := { name := "paired", desc := "([CII)Z", sig := { parameters := [(.array .char), .int, .int], returnType := some .boolean }, accessFlags := 10, code := some k1c6 }
def k1c7 : Code := { maxStack := 4, maxLocals := 3, code := method_8_code, exceptionTable := #[], attributes := #[] }
def k1m7 : Method := { name := "cpAt", desc := "([CII)I", sig := { parameters := [(.array .char), .int, .int], returnType := some .int }, accessFlags := 10, code := some k1c7 }
def k1c8 : Code := { maxStack := 3, maxLocals := 3, code := method_9_code, exceptionTable := #[], attributes := #[] }
def k1m8 : Method := { name := "width", desc := "([CII)I", sig := { parameters := [(.array .char), .int, .int], returnType := some .int }, accessFlags := 10, code := some k1c8 }
def k1c9 : Code := { maxStack := 5, maxLocals := 5, code := method_10_code, exceptionTable := #[], attributes := #[] }
def k1m9 : Method := { name := "decode", desc := "([CI[I)I", sig := { parameters := [(.array .char), .int, (.array .int)], returnType := some .int }, accessFlags := 10, code := some k1c9 }
def k1c10 : Code := { maxStack := 1, maxLocals := 1, code := method_11_code, exceptionTable := #[], attributes := #[] }
def k1m10 : Method := { name := "sign", desc := "(I)I", sig := { parameters := [.int], returnType := some .int }, accessFlags := 10, code := some k1c10 }
def k1c11 : Code := { maxStack := 3, maxLocals := 4, code := method_12_code, exceptionTable := #[], attributes := #[] }
def k1m11 : Method := { name := "cmpSeq", desc := "([II[II)I", sig := { parameters := [(.array .int), .int, (.array .int), .int], returnType := some .int }, accessFlags := 10, code := some k1c11 }
/-- com/example/rolelattice/rolelattice/decision/CodePointsComparePinLaw -/
def k1 : Class := { plain "com/example/rolelattice/rolelattice/decision/CodePointsComparePinLaw" (some 0) with
  accessFlags := 49
  interfaces := #[]
  cf := some (fileOf pool1 8 #[] #[{ accessFlags := 2, nameIndex := 5, descriptorIndex := 6, attributes := #[] }, { accessFlags := 9, nameIndex := 70, descriptorIndex := 71, attributes := #[] }, { accessFlags := 10, nameIndex := 11, descriptorIndex := 12, attributes := #[] }, { accessFlags := 10, nameIndex := 17, descriptorIndex := 18, attributes := #[] }, { accessFlags := 10, nameIndex := 51, descriptorIndex := 52, attributes := #[] }, { accessFlags := 10, nameIndex := 55, descriptorIndex := 52, attributes := #[] }, { accessFlags := 10, nameIndex := 58, descriptorIndex := 59, attributes := #[] }, { accessFlags := 10, nameIndex := 63, descriptorIndex := 64, attributes := #[] }, { accessFlags := 10, nameIndex := 67, descriptorIndex := 64, attributes := #[] }, { accessFlags := 10, nameIndex := 27, descriptorIndex := 28, attributes := #[] }, { accessFlags := 10, nameIndex := 35, descriptorIndex := 36, attributes := #[] }, { accessFlags := 10, nameIndex := 31, descriptorIndex := 32, attributes := #[] }] 49 2 #[] #[])
  fields := #[]
  methods := #[k1m0, k1m1, k1m2, k1m3, k1m4, k1m5, k1m6, k1m7, k1m8, k1m9, k1m10, k1m11]
  instanceTypes := #[]
  staticTypes := #[]
  resolved := Array.replicate 79 none
  statics := none }

def pool2 : Array CpInfo := pool [(1, .class_ 2), (0, u "java/io/Serializable"), (0, .class_ 4), (0, u "java/lang/Object")] 2

/-- java/io/Serializable -/
def k2 : Class := { plain "java/io/Serializable" (some 0) with
  accessFlags := 1537
  interfaces := #[]
  cf := some (fileOf pool2 1 #[] #[] 1537 3 #[] #[])
  fields := #[]
  methods := #[]
  instanceTypes := #[]
  staticTypes := #[]
  resolved := Array.replicate 7 none
  statics := none }

def pool3 : Array CpInfo := pool [(1, .class_ 2), (0, u "java/lang/Comparable"), (0, .class_ 4), (0, u "java/lang/Object")] 7

/-- java/lang/Comparable -/
def k3 : Class := { plain "java/lang/Comparable" (some 0) with
  accessFlags := 1537
  interfaces := #[]
  cf := some (fileOf pool3 1 #[] #[] 1537 3 #[] #[])
  fields := #[]
  methods := #[]
  instanceTypes := #[]
  staticTypes := #[]
  resolved := Array.replicate 12 none
  statics := none }

def pool4 : Array CpInfo := pool [(2, .class_ 4), (1, u "java/lang/CharSequence"), (42, .class_ 48), (0, u "java/lang/CharSequence$1CodePointIterator"), (10, .class_ 60), (0, u "java/lang/CharSequence$1CharIterator"), (5, .class_ 67), (0, u "java/lang/Object")] 63

/-- java/lang/CharSequence -/
def k4 : Class := { plain "java/lang/CharSequence" (some 0) with
  accessFlags := 1537
  interfaces := #[]
  cf := some (fileOf pool4 2 #[.nestMembers #[47, 59]] #[] 1537 66 #[] #[])
  fields := #[]
  methods := #[]
  instanceTypes := #[]
  staticTypes := #[]
  resolved := Array.replicate 131 none
  statics := none }

def pool5 : Array CpInfo := pool [(1, .class_ 2), (0, u "java/lang/constant/Constable"), (0, .class_ 4), (0, u "java/lang/Object")] 6

/-- java/lang/constant/Constable -/
def k5 : Class := { plain "java/lang/constant/Constable" (some 0) with
  accessFlags := 1537
  interfaces := #[]
  cf := some (fileOf pool5 1 #[] #[] 1537 3 #[] #[])
  fields := #[]
  methods := #[]
  instanceTypes := #[]
  staticTypes := #[]
  resolved := Array.replicate 11 none
  statics := none }

def pool6 : Array CpInfo := pool [(1, .class_ 2), (0, u "java/lang/constant/ConstantDesc"), (0, .class_ 4), (0, u "java/lang/Object")] 32

/-- java/lang/constant/ConstantDesc -/
def k6 : Class := { plain "java/lang/constant/ConstantDesc" (some 0) with
  accessFlags := 1537
  interfaces := #[]
  cf := some (fileOf pool6 1 #[] #[] 1537 3 #[] #[])
  fields := #[]
  methods := #[]
  instanceTypes := #[]
  staticTypes := #[]
  resolved := Array.replicate 37 none
  statics := none }

def pool7 : Array CpInfo := pool [(1, .methodref 2 3), (0, .class_ 4), (0, .nameAndType 5 6), (0, u "java/lang/Object"), (0, u "<init>"), (0, u "()V"), (0, .string 8), (0, u ""), (0, .fieldref 10 11), (0, .class_ 12), (0, .nameAndType 13 14), (0, u "java/lang/String"), (0, u "value"), (0, u "[B"), (0, .fieldref 10 16), (0, .nameAndType 17 18), (0, u "coder"), (0, u "B"), (2, u "hash"), (0, u "I"), (2, u "hashIsZero"), (0, u "Z"), (0, .methodref 10 28), (0, .nameAndType 5 29), (0, u "([CIILjava/lang/Void;)V"), (8, .fieldref 10 39), (0, .nameAndType 40 26), (0, u "COMPACT_STRINGS"), (1, .class_ 44), (1, u "java/lang/StringUTF16"), (0, u "compress"), (1, .methodref 42 48), (0, .nameAndType 49 50), (0, u "coderFromArrayLen"), (0, u "([BI)B"), (46, u "([BII)I"), (44, u "()Z"), (34, .methodref 42 178), (0, .nameAndType 45 179), (0, u "([CII)[B"), (154, u "()I"), (0, .methodref 10 336), (0, .nameAndType 17 337), (0, u "()B"), (53, u "(II)V"), (100, .methodref 10 493), (0, .nameAndType 494 142), (0, u "isLatin1"), (4, .methodref 10 500), (0, .nameAndType 501 391), (0, u "checkIndex"), (0, .methodref 42 503), (0, .nameAndType 504 97), (0, u "codePointAt"), (2, u "length"), (67, .class_ 576), (0, u "java/lang/CharSequence"), (22, u "CASE_INSENSITIVE_ORDER"), (0, u "Ljava/util/Comparator;"), (164, u "(I)I"), (244, u "([C)V"), (42, .fieldref 1054 1055), (0, .class_ 1056), (0, .nameAndType 1057 1058), (0, u "jdk/internal/util/Preconditions"), (0, u "SIOOBE_FORMATTER"), (0, u "Ljava/util/function/BiFunction;"), (0, .methodref 1054 1060), (0, .nameAndType 501 1061), (0, u "(IILjava/util/function/BiFunction;)I"), (39, u "serialPersistentFields"), (0, u "[Ljava/io/ObjectStreamField;"), (0, .class_ 1104), (0, u "java/lang/String$CaseInsensitiveComparator"), (1, .class_ 1107), (0, u "java/io/Serializable"), (0, .class_ 1109), (0, u "java/lang/Comparable"), (0, .class_ 1111), (0, u "java/lang/constant/Constable"), (0, .class_ 1113), (0, u "java/lang/constant/ConstantDesc"), (2, u "serialVersionUID"), (0, u "J"), (3, u "REPL"), (0, u "C"), (2, u "LATIN1"), (1, u "UTF16")] 323

def k7m0 : Method := { name := "<init>", desc := "()V", sig := { parameters := [], returnType := none }, accessFlags := 1, code := none }
def k7c1 : Code := { maxStack := 5, maxLocals := 2, code := jdk_42_method_3_code, exceptionTable := #[], attributes := #[] }
def k7m1 : Method := { name := "<init>", desc := "([C)V", sig := { parameters := [(.array .char)], returnType := none }, accessFlags := 1, code := some k7c1 }
def k7c2 : Code := { maxStack := 2, maxLocals := 1, code := jdk_42_method_54_code, exceptionTable := #[], attributes := #[] }
def k7m2 : Method := { name := "length", desc := "()I", sig := { parameters := [], returnType := some .int }, accessFlags := 1, code := some k7c2 }
def k7c3 : Code := { maxStack := 3, maxLocals := 3, code := jdk_42_method_57_code, exceptionTable := #[], attributes := #[] }
def k7m3 : Method := { name := "codePointAt", desc := "(I)I", sig := { parameters := [.int], returnType := some .int }, accessFlags := 1, code := some k7c3 }
def k7c4 : Code := { maxStack := 4, maxLocals := 6, code := jdk_42_method_149_code, exceptionTable := #[], attributes := #[] }
def k7m4 : Method := { name := "<init>", desc := "([CIILjava/lang/Void;)V", sig := { parameters := [(.array .char), .int, .int, (.object "java/lang/Void")], returnType := none }, accessFlags := 2, code := some k7c4 }
def k7c5 : Code := { maxStack := 1, maxLocals := 1, code := jdk_42_method_152_code, exceptionTable := #[], attributes := #[] }
def k7m5 : Method := { name := "coder", desc := "()B", sig := { parameters := [], returnType := some .byte }, accessFlags := 0, code := some k7c5 }
def k7c6 : Code := { maxStack := 1, maxLocals := 1, code := jdk_42_method_154_code, exceptionTable := #[], attributes := #[] }
def k7m6 : Method := { name := "isLatin1", desc := "()Z", sig := { parameters := [], returnType := some .boolean }, accessFlags := 0, code := some k7c6 }
def k7c7 : Code := { maxStack := 3, maxLocals := 2, code := jdk_42_method_155_code, exceptionTable := #[], attributes := #[] }
def k7m7 : Method := { name := "checkIndex", desc := "(II)V", sig := { parameters := [.int, .int], returnType := none }, accessFlags := 8, code := some k7c7 }
/-- java/lang/String -/
def k7 : Class := { plain "java/lang/String" (some 0) with
  accessFlags := 49
  interfaces := #[2, 3, 4, 5, 6]
  cf := some (fileOf pool7 10 #[.nestMembers #[1103]] #[{ accessFlags := 1, nameIndex := 5, descriptorIndex := 6, attributes := #[] }, { accessFlags := 1, nameIndex := 5, descriptorIndex := 1010, attributes := #[] }, { accessFlags := 1, nameIndex := 507, descriptorIndex := 334, attributes := #[] }, { accessFlags := 1, nameIndex := 504, descriptorIndex := 765, attributes := #[] }, { accessFlags := 2, nameIndex := 5, descriptorIndex := 29, attributes := #[] }, { accessFlags := 0, nameIndex := 17, descriptorIndex := 337, attributes := #[] }, { accessFlags := 0, nameIndex := 494, descriptorIndex := 142, attributes := #[] }, { accessFlags := 8, nameIndex := 501, descriptorIndex := 391, attributes := #[] }] 49 2 #[1106, 1108, 575, 1110, 1112] #[{ accessFlags := 18, nameIndex := 13, descriptorIndex := 14, attributes := #[] }, { accessFlags := 18, nameIndex := 17, descriptorIndex := 18, attributes := #[] }, { accessFlags := 2, nameIndex := 21, descriptorIndex := 22, attributes := #[] }, { accessFlags := 2, nameIndex := 25, descriptorIndex := 26, attributes := #[] }, { accessFlags := 26, nameIndex := 1116, descriptorIndex := 1117, attributes := #[] }, { accessFlags := 24, nameIndex := 40, descriptorIndex := 26, attributes := #[] }, { accessFlags := 26, nameIndex := 1101, descriptorIndex := 1102, attributes := #[] }, { accessFlags := 26, nameIndex := 1121, descriptorIndex := 1122, attributes := #[] }, { accessFlags := 25, nameIndex := 599, descriptorIndex := 600, attributes := #[] }, { accessFlags := 24, nameIndex := 1125, descriptorIndex := 18, attributes := #[] }, { accessFlags := 24, nameIndex := 1127, descriptorIndex := 18, attributes := #[] }])
  fields := #[{ name := "value", type := (.array .byte), accessFlags := 18, slot := 0, constantValue := 0 }, { name := "coder", type := .byte, accessFlags := 18, slot := 1, constantValue := 0 }, { name := "hash", type := .int, accessFlags := 2, slot := 2, constantValue := 0 }, { name := "hashIsZero", type := .boolean, accessFlags := 2, slot := 3, constantValue := 0 }, { name := "serialVersionUID", type := .long, accessFlags := 26, slot := 0, constantValue := 0 }, { name := "COMPACT_STRINGS", type := .boolean, accessFlags := 24, slot := 1, constantValue := 0 }, { name := "serialPersistentFields", type := (.array (.object "java/io/ObjectStreamField")), accessFlags := 26, slot := 2, constantValue := 0 }, { name := "REPL", type := .char, accessFlags := 26, slot := 3, constantValue := 0 }, { name := "CASE_INSENSITIVE_ORDER", type := (.object "java/util/Comparator"), accessFlags := 25, slot := 4, constantValue := 0 }, { name := "LATIN1", type := .byte, accessFlags := 24, slot := 5, constantValue := 0 }, { name := "UTF16", type := .byte, accessFlags := 24, slot := 6, constantValue := 0 }]
  methods := #[k7m0, k7m1, k7m2, k7m3, k7m4, k7m5, k7m6, k7m7]
  instanceTypes := #[(.array .byte), .byte, .int, .boolean]
  staticTypes := #[.long, .boolean, (.array (.object "java/io/ObjectStreamField")), .char, (.object "java/util/Comparator"), .byte, .byte]
  resolved := Array.replicate 1451 none
  statics := some 0 }

def pool8 : Array CpInfo := pool [(2, .class_ 4), (1, u "java/lang/Object"), (0, u "<init>"), (0, u "()V"), (0, .methodref 8 9), (0, .class_ 10), (0, .nameAndType 11 12), (0, u "java/lang/String"), (0, u "length"), (0, u "()I"), (0, .methodref 8 14), (0, .nameAndType 15 16), (0, u "codePointAt"), (0, u "(I)I"), (0, .methodref 18 19), (0, .class_ 20), (0, .nameAndType 21 22), (0, u "java/lang/Integer"), (0, u "compare"), (0, u "(II)I"), (0, .methodref 24 25), (0, .class_ 26), (0, .nameAndType 27 16), (0, u "java/lang/Character"), (0, u "charCount"), (4, .class_ 34), (1, u "com/example/rolelattice/rolelattice/decision/CodePoints"), (0, u "ORDER"), (0, u "Ljava/util/Comparator;"), (4, u "(Ljava/lang/String;Ljava/lang/String;)I")] 24

def k8m0 : Method := { name := "<init>", desc := "()V", sig := { parameters := [], returnType := none }, accessFlags := 2, code := none }
def k8c1 : Code := { maxStack := 3, maxLocals := 5, code := prog_12_method_2_code, exceptionTable := #[], attributes := #[] }
def k8m1 : Method := { name := "compare", desc := "(Ljava/lang/String;Ljava/lang/String;)I", sig := { parameters := [(.object "java/lang/String"), (.object "java/lang/String")], returnType := some .int }, accessFlags := 9, code := some k8c1 }
/-- com/example/rolelattice/rolelattice/decision/CodePoints -/
def k8 : Class := { plain "com/example/rolelattice/rolelattice/decision/CodePoints" (some 0) with
  accessFlags := 49
  interfaces := #[]
  cf := some (fileOf pool8 32 #[] #[{ accessFlags := 2, nameIndex := 5, descriptorIndex := 6, attributes := #[] }, { accessFlags := 9, nameIndex := 21, descriptorIndex := 41, attributes := #[] }] 49 2 #[] #[{ accessFlags := 25, nameIndex := 35, descriptorIndex := 36, attributes := #[] }])
  fields := #[{ name := "ORDER", type := (.object "java/util/Comparator"), accessFlags := 25, slot := 0, constantValue := 0 }]
  methods := #[k8m0, k8m1]
  instanceTypes := #[]
  staticTypes := #[(.object "java/util/Comparator")]
  resolved := Array.replicate 66 none
  statics := none }

def pool9 : Array CpInfo := pool [(2, .class_ 4), (1, u "java/lang/Object"), (0, u "<init>"), (0, u "()V"), (1, .class_ 10), (1, u "java/lang/Number"), (2, .class_ 14), (0, u "java/io/Serializable"), (0, u "serialVersionUID"), (0, u "J")] 20

def k9m0 : Method := { name := "<init>", desc := "()V", sig := { parameters := [], returnType := none }, accessFlags := 1, code := none }
/-- java/lang/Number -/
def k9 : Class := { plain "java/lang/Number" (some 0) with
  accessFlags := 1057
  interfaces := #[2]
  cf := some (fileOf pool9 8 #[] #[{ accessFlags := 1, nameIndex := 5, descriptorIndex := 6, attributes := #[] }] 1057 2 #[13] #[{ accessFlags := 26, nameIndex := 15, descriptorIndex := 16, attributes := #[] }])
  fields := #[{ name := "serialVersionUID", type := .long, accessFlags := 26, slot := 0, constantValue := 0 }]
  methods := #[k9m0]
  instanceTypes := #[]
  staticTypes := #[.long]
  resolved := Array.replicate 37 none
  statics := none }

def pool10 : Array CpInfo := pool [(1, .class_ 2), (0, u "java/lang/Integer"), (16, u "digits"), (0, u "[C"), (39, u "(II)I"), (24, u "DigitOnes"), (0, u "[B"), (2, u "DigitTens"), (99, .class_ 190), (0, u "java/lang/Integer$IntegerCache"), (3, u "I"), (8, .class_ 204), (0, u "java/lang/Number"), (2, u "value"), (53, u "compare"), (40, u "TYPE"), (0, u "Ljava/lang/Class;"), (0, .class_ 305), (0, u "java/lang/Comparable"), (0, .class_ 307), (0, u "java/lang/constant/Constable"), (0, .class_ 309), (0, u "java/lang/constant/ConstantDesc"), (0, u "MIN_VALUE"), (1, u "MAX_VALUE"), (3, u "SIZE"), (1, u "BYTES"), (1, u "serialVersionUID"), (0, u "J")] 131

def k10c0 : Code := { maxStack := 2, maxLocals := 2, code := jdk_33_method_40_code, exceptionTable := #[], attributes := #[] }
def k10m0 : Method := { name := "compare", desc := "(II)I", sig := { parameters := [.int, .int], returnType := some .int }, accessFlags := 9, code := some k10c0 }
/-- java/lang/Integer -/
def k10 : Class := { plain "java/lang/Integer" (some 9) with
  accessFlags := 49
  interfaces := #[3, 5, 6]
  cf := some (fileOf pool10 1 #[.nestMembers #[189]] #[{ accessFlags := 9, nameIndex := 261, descriptorIndex := 60, attributes := #[] }] 49 203 #[304, 306, 308] #[{ accessFlags := 25, nameIndex := 310, descriptorIndex := 194, attributes := #[] }, { accessFlags := 25, nameIndex := 312, descriptorIndex := 194, attributes := #[] }, { accessFlags := 25, nameIndex := 302, descriptorIndex := 303, attributes := #[] }, { accessFlags := 24, nameIndex := 19, descriptorIndex := 20, attributes := #[] }, { accessFlags := 24, nameIndex := 89, descriptorIndex := 86, attributes := #[] }, { accessFlags := 24, nameIndex := 85, descriptorIndex := 86, attributes := #[] }, { accessFlags := 18, nameIndex := 207, descriptorIndex := 194, attributes := #[] }, { accessFlags := 25, nameIndex := 316, descriptorIndex := 194, attributes := #[] }, { accessFlags := 25, nameIndex := 318, descriptorIndex := 194, attributes := #[] }, { accessFlags := 26, nameIndex := 320, descriptorIndex := 321, attributes := #[] }])
  fields := #[{ name := "MIN_VALUE", type := .int, accessFlags := 25, slot := 0, constantValue := 0 }, { name := "MAX_VALUE", type := .int, accessFlags := 25, slot := 1, constantValue := 0 }, { name := "TYPE", type := (.object "java/lang/Class"), accessFlags := 25, slot := 2, constantValue := 0 }, { name := "digits", type := (.array .char), accessFlags := 24, slot := 3, constantValue := 0 }, { name := "DigitTens", type := (.array .byte), accessFlags := 24, slot := 4, constantValue := 0 }, { name := "DigitOnes", type := (.array .byte), accessFlags := 24, slot := 5, constantValue := 0 }, { name := "value", type := .int, accessFlags := 18, slot := 0, constantValue := 0 }, { name := "SIZE", type := .int, accessFlags := 25, slot := 6, constantValue := 0 }, { name := "BYTES", type := .int, accessFlags := 25, slot := 7, constantValue := 0 }, { name := "serialVersionUID", type := .long, accessFlags := 26, slot := 8, constantValue := 0 }]
  methods := #[k10m0]
  instanceTypes := #[.int]
  staticTypes := #[.int, .int, (.object "java/lang/Class"), (.array .char), (.array .byte), (.array .byte), .int, .int, .long]
  resolved := Array.replicate 453 none
  statics := none }

def pool11 : Array CpInfo := pool [(6, .class_ 8), (1, u "java/lang/Object"), (0, u "<init>"), (0, u "()V"), (0, .methodref 12 13), (0, .class_ 14), (0, .nameAndType 15 16), (0, u "java/lang/StringUTF16"), (0, u "newBytesLength"), (0, u "(I)I"), (3, .integer 1073741823), (23, .fieldref 12 45), (0, .nameAndType 46 47), (0, u "$assertionsDisabled"), (0, u "Z"), (11, .fieldref 12 60), (0, .nameAndType 61 62), (0, u "HI_BYTE_SHIFT"), (0, u "I"), (0, .fieldref 12 64), (0, .nameAndType 65 62), (0, u "LO_BYTE_SHIFT"), (5, .methodref 12 72), (0, .nameAndType 73 74), (0, u "getChar"), (0, u "([BI)C"), (0, .methodref 76 77), (0, .class_ 78), (0, .nameAndType 79 80), (0, u "java/lang/Character"), (0, u "isHighSurrogate"), (0, u "(C)Z"), (0, .methodref 76 82), (0, .nameAndType 83 80), (0, u "isLowSurrogate"), (0, .methodref 76 85), (0, .nameAndType 86 87), (0, u "toCodePoint"), (0, u "(CC)I"), (0, .methodref 12 89), (0, .nameAndType 90 91), (0, u "codePointAt"), (0, u "([BIIZ)I"), (15, .methodref 12 108), (0, .nameAndType 109 110), (0, u "newBytesFor"), (0, u "(I)[B"), (0, .methodref 12 112), (0, .nameAndType 113 114), (0, u "putChar"), (0, u "([BII)V"), (0, .methodref 12 116), (0, .nameAndType 117 118), (0, u "compress"), (0, u "([CI[BII)I"), (0, .methodref 12 120), (0, .nameAndType 121 122), (0, u "toBytes"), (0, u "([CII)[B"), (127, u "([BII)I"), (10, u "coderFromArrayLen"), (0, u "([BI)B"), (106, .class_ 371), (1, u "java/lang/StringUTF16$LinesSpliterator"), (58, u "MAX_LENGTH"), (196, .class_ 628), (0, u "java/lang/StringUTF16$CodePointsSpliterator"), (0, .class_ 630), (0, u "java/lang/StringUTF16$CharsSpliterator")] 4

def k11m0 : Method := { name := "<init>", desc := "()V", sig := { parameters := [], returnType := none }, accessFlags := 0, code := none }
def k11c1 : Code := { maxStack := 1, maxLocals := 1, code := jdk_52_method_2_code, exceptionTable := #[], attributes := #[] }
def k11m1 : Method := { name := "newBytesFor", desc := "(I)[B", sig := { parameters := [.int], returnType := some (.array .byte) }, accessFlags := 9, code := some k11c1 }
def k11c2 : Code := { maxStack := 4, maxLocals := 1, code := jdk_52_method_3_code, exceptionTable := #[], attributes := #[] }
def k11m2 : Method := { name := "newBytesLength", desc := "(I)I", sig := { parameters := [.int], returnType := some .int }, accessFlags := 9, code := some k11c2 }
def k11c3 : Code := { maxStack := 4, maxLocals := 3, code := jdk_52_method_4_code, exceptionTable := #[], attributes := #[] }
def k11m3 : Method := { name := "putChar", desc := "([BII)V", sig := { parameters := [(.array .byte), .int, .int], returnType := none }, accessFlags := 8, code := some k11c3 }
def k11c4 : Code := { maxStack := 3, maxLocals := 2, code := jdk_52_method_5_code, exceptionTable := #[], attributes := #[] }
def k11m4 : Method := { name := "getChar", desc := "([BI)C", sig := { parameters := [(.array .byte), .int], returnType := some .char }, accessFlags := 8, code := some k11c4 }
def k11c5 : Code := { maxStack := 2, maxLocals := 6, code := jdk_52_method_7_code, exceptionTable := #[], attributes := #[] }
def k11m5 : Method := { name := "codePointAt", desc := "([BIIZ)I", sig := { parameters := [(.array .byte), .int, .int, .boolean], returnType := some .int }, accessFlags := 10, code := some k11c5 }
def k11c6 : Code := { maxStack := 4, maxLocals := 3, code := jdk_52_method_8_code, exceptionTable := #[], attributes := #[] }
def k11m6 : Method := { name := "codePointAt", desc := "([BII)I", sig := { parameters := [(.array .byte), .int, .int], returnType := some .int }, accessFlags := 9, code := some k11c6 }
def k11c7 : Code := { maxStack := 4, maxLocals := 5, code := jdk_52_method_14_code, exceptionTable := #[], attributes := #[] }
def k11m7 : Method := { name := "toBytes", desc := "([CII)[B", sig := { parameters := [(.array .char), .int, .int], returnType := some (.array .byte) }, accessFlags := 9, code := some k11c7 }
def k11c8 : Code := { maxStack := 2, maxLocals := 2, code := jdk_52_method_15_code, exceptionTable := #[], attributes := #[] }
def k11m8 : Method := { name := "coderFromArrayLen", desc := "([BI)B", sig := { parameters := [(.array .byte), .int], returnType := some .byte }, accessFlags := 8, code := some k11c8 }
def k11c9 : Code := { maxStack := 5, maxLocals := 6, code := jdk_52_method_16_code, exceptionTable := #[], attributes := #[] }
def k11m9 : Method := { name := "compress", desc := "([CII)[B", sig := { parameters := [(.array .char), .int, .int], returnType := some (.array .byte) }, accessFlags := 9, code := some k11c9 }
def k11c10 : Code := { maxStack := 3, maxLocals := 7, code := jdk_52_method_21_code, exceptionTable := #[], attributes := #[] }
def k11m10 : Method := { name := "compress", desc := "([CI[BII)I", sig := { parameters := [(.array .char), .int, (.array .byte), .int, .int], returnType := some .int }, accessFlags := 9, code := some k11c10 }
/-- java/lang/StringUTF16 -/
def k11 : Class := { plain "java/lang/StringUTF16" (some 0) with
  accessFlags := 48
  interfaces := #[]
  cf := some (fileOf pool11 12 #[.nestMembers #[627, 629, 369]] #[{ accessFlags := 0, nameIndex := 9, descriptorIndex := 10, attributes := #[] }, { accessFlags := 9, nameIndex := 109, descriptorIndex := 110, attributes := #[] }, { accessFlags := 9, nameIndex := 15, descriptorIndex := 16, attributes := #[] }, { accessFlags := 8, nameIndex := 113, descriptorIndex := 114, attributes := #[] }, { accessFlags := 8, nameIndex := 73, descriptorIndex := 74, attributes := #[] }, { accessFlags := 10, nameIndex := 90, descriptorIndex := 91, attributes := #[] }, { accessFlags := 9, nameIndex := 90, descriptorIndex := 250, attributes := #[] }, { accessFlags := 9, nameIndex := 121, descriptorIndex := 122, attributes := #[] }, { accessFlags := 8, nameIndex := 261, descriptorIndex := 262, attributes := #[] }, { accessFlags := 9, nameIndex := 117, descriptorIndex := 122, attributes := #[] }, { accessFlags := 9, nameIndex := 117, descriptorIndex := 118, attributes := #[] }] 48 6 #[] #[{ accessFlags := 26, nameIndex := 61, descriptorIndex := 62, attributes := #[] }, { accessFlags := 26, nameIndex := 65, descriptorIndex := 62, attributes := #[] }, { accessFlags := 24, nameIndex := 430, descriptorIndex := 62, attributes := #[] }, { accessFlags := 4120, nameIndex := 46, descriptorIndex := 47, attributes := #[] }])
  fields := #[{ name := "HI_BYTE_SHIFT", type := .int, accessFlags := 26, slot := 0, constantValue := 0 }, { name := "LO_BYTE_SHIFT", type := .int, accessFlags := 26, slot := 1, constantValue := 0 }, { name := "MAX_LENGTH", type := .int, accessFlags := 24, slot := 2, constantValue := 0 }, { name := "$assertionsDisabled", type := .boolean, accessFlags := 4120, slot := 3, constantValue := 0 }]
  methods := #[k11m0, k11m1, k11m2, k11m3, k11m4, k11m5, k11m6, k11m7, k11m8, k11m9, k11m10]
  instanceTypes := #[]
  staticTypes := #[.int, .int, .int, .boolean]
  resolved := Array.replicate 635 none
  statics := some 1 }

def pool12 : Array CpInfo := pool [(2, .class_ 4), (1, u "java/lang/Object"), (0, u "<init>"), (0, u "()V"), (17, .class_ 26), (1, u "jdk/internal/util/Preconditions"), (6, u "checkIndex"), (21, .class_ 56), (0, u "jdk/internal/util/Preconditions$4"), (57, .class_ 115), (0, u "jdk/internal/util/Preconditions$1"), (7, u "SIOOBE_FORMATTER"), (0, u "Ljava/util/function/BiFunction;"), (0, .class_ 126), (0, u "jdk/internal/util/Preconditions$2"), (3, u "AIOOBE_FORMATTER"), (0, .class_ 132), (0, u "jdk/internal/util/Preconditions$3"), (3, u "IOOBE_FORMATTER"), (41, u "(IILjava/util/function/BiFunction;)I")] 15

def k12m0 : Method := { name := "<init>", desc := "()V", sig := { parameters := [], returnType := none }, accessFlags := 1, code := none }
def k12c1 : Code := { maxStack := 3, maxLocals := 3, code := jdk_41_method_11_code, exceptionTable := #[], attributes := #[] }
def k12m1 : Method := { name := "checkIndex", desc := "(IILjava/util/function/BiFunction;)I", sig := { parameters := [.int, .int, (.object "java/util/function/BiFunction")], returnType := some .int }, accessFlags := 9, code := some k12c1 }
/-- jdk/internal/util/Preconditions -/
def k12 : Class := { plain "jdk/internal/util/Preconditions" (some 0) with
  accessFlags := 33
  interfaces := #[]
  cf := some (fileOf pool12 24 #[.nestMembers #[55, 131, 125, 114]] #[{ accessFlags := 1, nameIndex := 5, descriptorIndex := 6, attributes := #[] }, { accessFlags := 9, nameIndex := 33, descriptorIndex := 178, attributes := #[] }] 33 2 #[] #[{ accessFlags := 25, nameIndex := 123, descriptorIndex := 124, attributes := #[] }, { accessFlags := 25, nameIndex := 130, descriptorIndex := 124, attributes := #[] }, { accessFlags := 25, nameIndex := 136, descriptorIndex := 124, attributes := #[] }])
  fields := #[{ name := "SIOOBE_FORMATTER", type := (.object "java/util/function/BiFunction"), accessFlags := 25, slot := 0, constantValue := 0 }, { name := "AIOOBE_FORMATTER", type := (.object "java/util/function/BiFunction"), accessFlags := 25, slot := 1, constantValue := 0 }, { name := "IOOBE_FORMATTER", type := (.object "java/util/function/BiFunction"), accessFlags := 25, slot := 2, constantValue := 0 }]
  methods := #[k12m0, k12m1]
  instanceTypes := #[]
  staticTypes := #[(.object "java/util/function/BiFunction"), (.object "java/util/function/BiFunction"), (.object "java/util/function/BiFunction")]
  resolved := Array.replicate 194 none
  statics := some 2 }

def pool13 : Array CpInfo := pool [(1, .class_ 2), (0, u "java/lang/Character"), (18, u "value"), (0, u "C"), (19, .class_ 44), (1, u "java/lang/Object"), (3, .class_ 50), (1, u "java/lang/Character$CharacterCache"), (22, .integer 65536), (1, .integer 55296), (0, .integer 56320), (0, .integer 57344), (2, u "isHighSurrogate"), (0, u "(C)Z"), (2, u "isLowSurrogate"), (0, .integer 4238353408), (12, u "toCodePoint"), (0, u "(CC)I"), (74, u "(I)I"), (109, u "$assertionsDisabled"), (0, u "Z"), (21, .class_ 309), (1, u "java/lang/Character$UnicodeBlock"), (73, u "TYPE"), (0, u "Ljava/lang/Class;"), (0, .class_ 386), (0, u "java/io/Serializable"), (0, .class_ 388), (0, u "java/lang/Comparable"), (0, .class_ 390), (0, u "java/lang/constant/Constable"), (0, u "MIN_RADIX"), (0, u "I"), (2, u "MAX_RADIX"), (1, u "MIN_VALUE"), (1, u "MAX_VALUE"), (3, u "UNASSIGNED"), (0, u "B"), (0, u "UPPERCASE_LETTER"), (1, u "LOWERCASE_LETTER"), (0, u "TITLECASE_LETTER"), (1, u "MODIFIER_LETTER"), (1, u "OTHER_LETTER"), (1, u "NON_SPACING_MARK"), (1, u "ENCLOSING_MARK"), (1, u "COMBINING_SPACING_MARK"), (1, u "DECIMAL_DIGIT_NUMBER"), (1, u "LETTER_NUMBER"), (1, u "OTHER_NUMBER"), (1, u "SPACE_SEPARATOR"), (1, u "LINE_SEPARATOR"), (1, u "PARAGRAPH_SEPARATOR"), (1, u "CONTROL"), (1, u "FORMAT"), (1, u "PRIVATE_USE"), (1, u "SURROGATE"), (1, u "DASH_PUNCTUATION"), (1, u "START_PUNCTUATION"), (1, u "END_PUNCTUATION"), (1, u "CONNECTOR_PUNCTUATION"), (1, u "OTHER_PUNCTUATION"), (1, u "MATH_SYMBOL"), (1, u "CURRENCY_SYMBOL"), (1, u "MODIFIER_SYMBOL"), (1, u "OTHER_SYMBOL"), (1, u "INITIAL_QUOTE_PUNCTUATION"), (1, u "FINAL_QUOTE_PUNCTUATION"), (1, u "ERROR"), (1, u "DIRECTIONALITY_UNDEFINED"), (0, u "DIRECTIONALITY_LEFT_TO_RIGHT"), (0, u "DIRECTIONALITY_RIGHT_TO_LEFT"), (0, u "DIRECTIONALITY_RIGHT_TO_LEFT_ARABIC"), (0, u "DIRECTIONALITY_EUROPEAN_NUMBER"), (0, u "DIRECTIONALITY_EUROPEAN_NUMBER_SEPARATOR"), (0, u "DIRECTIONALITY_EUROPEAN_NUMBER_TERMINATOR"), (0, u "DIRECTIONALITY_ARABIC_NUMBER"), (0, u "DIRECTIONALITY_COMMON_NUMBER_SEPARATOR"), (0, u "DIRECTIONALITY_NONSPACING_MARK"), (0, u "DIRECTIONALITY_BOUNDARY_NEUTRAL"), (0, u "DIRECTIONALITY_PARAGRAPH_SEPARATOR"), (0, u "DIRECTIONALITY_SEGMENT_SEPARATOR"), (0, u "DIRECTIONALITY_WHITESPACE"), (0, u "DIRECTIONALITY_OTHER_NEUTRALS"), (0, u "DIRECTIONALITY_LEFT_TO_RIGHT_EMBEDDING"), (0, u "DIRECTIONALITY_LEFT_TO_RIGHT_OVERRIDE"), (0, u "DIRECTIONALITY_RIGHT_TO_LEFT_EMBEDDING"), (0, u "DIRECTIONALITY_RIGHT_TO_LEFT_OVERRIDE"), (1, u "DIRECTIONALITY_POP_DIRECTIONAL_FORMAT"), (0, u "DIRECTIONALITY_LEFT_TO_RIGHT_ISOLATE"), (0, u "DIRECTIONALITY_RIGHT_TO_LEFT_ISOLATE"), (0, u "DIRECTIONALITY_FIRST_STRONG_ISOLATE"), (0, u "DIRECTIONALITY_POP_DIRECTIONAL_ISOLATE"), (0, u "MIN_HIGH_SURROGATE"), (0, u "MAX_HIGH_SURROGATE"), (1, u "MIN_LOW_SURROGATE"), (0, u "MAX_LOW_SURROGATE"), (1, u "MIN_SURROGATE"), (0, u "MAX_SURROGATE"), (0, u "MIN_SUPPLEMENTARY_CODE_POINT"), (0, u "MIN_CODE_POINT"), (0, u "MAX_CODE_POINT"), (1, u "serialVersionUID"), (0, u "J"), (2, u "SIZE"), (0, u "BYTES"), (29, u "charCount"), (58, .class_ 596), (0, u "java/lang/Character$UnicodeScript"), (0, .class_ 598), (0, u "java/lang/Character$Subset")] 5

def k13c0 : Code := { maxStack := 2, maxLocals := 1, code := jdk_89_method_14_code, exceptionTable := #[], attributes := #[] }
def k13m0 : Method := { name := "isHighSurrogate", desc := "(C)Z", sig := { parameters := [.char], returnType := some .boolean }, accessFlags := 9, code := some k13c0 }
def k13c1 : Code := { maxStack := 2, maxLocals := 1, code := jdk_89_method_15_code, exceptionTable := #[], attributes := #[] }
def k13m1 : Method := { name := "isLowSurrogate", desc := "(C)Z", sig := { parameters := [.char], returnType := some .boolean }, accessFlags := 9, code := some k13c1 }
def k13c2 : Code := { maxStack := 2, maxLocals := 1, code := jdk_89_method_18_code, exceptionTable := #[], attributes := #[] }
def k13m2 : Method := { name := "charCount", desc := "(I)I", sig := { parameters := [.int], returnType := some .int }, accessFlags := 9, code := some k13c2 }
def k13c3 : Code := { maxStack := 2, maxLocals := 2, code := jdk_89_method_19_code, exceptionTable := #[], attributes := #[] }
def k13m3 : Method := { name := "toCodePoint", desc := "(CC)I", sig := { parameters := [.char, .char], returnType := some .int }, accessFlags := 9, code := some k13c3 }
/-- java/lang/Character -/
def k13 : Class := { plain "java/lang/Character" (some 0) with
  accessFlags := 49
  interfaces := #[2, 3, 5]
  cf := some (fileOf pool13 1 #[.nestMembers #[48, 595, 307, 597]] #[{ accessFlags := 9, nameIndex := 80, descriptorIndex := 81, attributes := #[] }, { accessFlags := 9, nameIndex := 84, descriptorIndex := 81, attributes := #[] }, { accessFlags := 9, nameIndex := 536, descriptorIndex := 174, attributes := #[] }, { accessFlags := 9, nameIndex := 98, descriptorIndex := 99, attributes := #[] }] 49 42 #[385, 387, 389] #[{ accessFlags := 25, nameIndex := 391, descriptorIndex := 392, attributes := #[] }, { accessFlags := 25, nameIndex := 395, descriptorIndex := 392, attributes := #[] }, { accessFlags := 25, nameIndex := 397, descriptorIndex := 22, attributes := #[] }, { accessFlags := 25, nameIndex := 399, descriptorIndex := 22, attributes := #[] }, { accessFlags := 25, nameIndex := 383, descriptorIndex := 384, attributes := #[] }, { accessFlags := 25, nameIndex := 403, descriptorIndex := 404, attributes := #[] }, { accessFlags := 25, nameIndex := 405, descriptorIndex := 404, attributes := #[] }, { accessFlags := 25, nameIndex := 407, descriptorIndex := 404, attributes := #[] }, { accessFlags := 25, nameIndex := 408, descriptorIndex := 404, attributes := #[] }, { accessFlags := 25, nameIndex := 410, descriptorIndex := 404, attributes := #[] }, { accessFlags := 25, nameIndex := 412, descriptorIndex := 404, attributes := #[] }, { accessFlags := 25, nameIndex := 414, descriptorIndex := 404, attributes := #[] }, { accessFlags := 25, nameIndex := 416, descriptorIndex := 404, attributes := #[] }, { accessFlags := 25, nameIndex := 418, descriptorIndex := 404, attributes := #[] }, { accessFlags := 25, nameIndex := 420, descriptorIndex := 404, attributes := #[] }, { accessFlags := 25, nameIndex := 422, descriptorIndex := 404, attributes := #[] }, { accessFlags := 25, nameIndex := 424, descriptorIndex := 404, attributes := #[] }, { accessFlags := 25, nameIndex := 426, descriptorIndex := 404, attributes := #[] }, { accessFlags := 25, nameIndex := 428, descriptorIndex := 404, attributes := #[] }, { accessFlags := 25, nameIndex := 430, descriptorIndex := 404, attributes := #[] }, { accessFlags := 25, nameIndex := 432, descriptorIndex := 404, attributes := #[] }, { accessFlags := 25, nameIndex := 434, descriptorIndex := 404, attributes := #[] }, { accessFlags := 25, nameIndex := 436, descriptorIndex := 404, attributes := #[] }, { accessFlags := 25, nameIndex := 438, descriptorIndex := 404, attributes := #[] }, { accessFlags := 25, nameIndex := 440, descriptorIndex := 404, attributes := #[] }, { accessFlags := 25, nameIndex := 442, descriptorIndex := 404, attributes := #[] }, { accessFlags := 25, nameIndex := 444, descriptorIndex := 404, attributes := #[] }, { accessFlags := 25, nameIndex := 446, descriptorIndex := 404, attributes := #[] }, { accessFlags := 25, nameIndex := 448, descriptorIndex := 404, attributes := #[] }, { accessFlags := 25, nameIndex := 450, descriptorIndex := 404, attributes := #[] }, { accessFlags := 25, nameIndex := 452, descriptorIndex := 404, attributes := #[] }, { accessFlags := 25, nameIndex := 454, descriptorIndex := 404, attributes := #[] }, { accessFlags := 25, nameIndex := 456, descriptorIndex := 404, attributes := #[] }, { accessFlags := 25, nameIndex := 458, descriptorIndex := 404, attributes := #[] }, { accessFlags := 25, nameIndex := 460, descriptorIndex := 404, attributes := #[] }, { accessFlags := 24, nameIndex := 462, descriptorIndex := 392, attributes := #[] }, { accessFlags := 25, nameIndex := 464, descriptorIndex := 404, attributes := #[] }, { accessFlags := 25, nameIndex := 465, descriptorIndex := 404, attributes := #[] }, { accessFlags := 25, nameIndex := 466, descriptorIndex := 404, attributes := #[] }, { accessFlags := 25, nameIndex := 467, descriptorIndex := 404, attributes := #[] }, { accessFlags := 25, nameIndex := 468, descriptorIndex := 404, attributes := #[] }, { accessFlags := 25, nameIndex := 469, descriptorIndex := 404, attributes := #[] }, { accessFlags := 25, nameIndex := 470, descriptorIndex := 404, attributes := #[] }, { accessFlags := 25, nameIndex := 471, descriptorIndex := 404, attributes := #[] }, { accessFlags := 25, nameIndex := 472, descriptorIndex := 404, attributes := #[] }, { accessFlags := 25, nameIndex := 473, descriptorIndex := 404, attributes := #[] }, { accessFlags := 25, nameIndex := 474, descriptorIndex := 404, attributes := #[] }, { accessFlags := 25, nameIndex := 475, descriptorIndex := 404, attributes := #[] }, { accessFlags := 25, nameIndex := 476, descriptorIndex := 404, attributes := #[] }, { accessFlags := 25, nameIndex := 477, descriptorIndex := 404, attributes := #[] }, { accessFlags := 25, nameIndex := 478, descriptorIndex := 404, attributes := #[] }, { accessFlags := 25, nameIndex := 479, descriptorIndex := 404, attributes := #[] }, { accessFlags := 25, nameIndex := 480, descriptorIndex := 404, attributes := #[] }, { accessFlags := 25, nameIndex := 481, descriptorIndex := 404, attributes := #[] }, { accessFlags := 25, nameIndex := 482, descriptorIndex := 404, attributes := #[] }, { accessFlags := 25, nameIndex := 484, descriptorIndex := 404, attributes := #[] }, { accessFlags := 25, nameIndex := 485, descriptorIndex := 404, attributes := #[] }, { accessFlags := 25, nameIndex := 486, descriptorIndex := 404, attributes := #[] }, { accessFlags := 25, nameIndex := 487, descriptorIndex := 404, attributes := #[] }, { accessFlags := 25, nameIndex := 488, descriptorIndex := 404, attributes := #[] }, { accessFlags := 25, nameIndex := 489, descriptorIndex := 22, attributes := #[] }, { accessFlags := 25, nameIndex := 490, descriptorIndex := 22, attributes := #[] }, { accessFlags := 25, nameIndex := 492, descriptorIndex := 22, attributes := #[] }, { accessFlags := 25, nameIndex := 493, descriptorIndex := 22, attributes := #[] }, { accessFlags := 25, nameIndex := 495, descriptorIndex := 22, attributes := #[] }, { accessFlags := 25, nameIndex := 496, descriptorIndex := 22, attributes := #[] }, { accessFlags := 25, nameIndex := 497, descriptorIndex := 392, attributes := #[] }, { accessFlags := 25, nameIndex := 498, descriptorIndex := 392, attributes := #[] }, { accessFlags := 25, nameIndex := 499, descriptorIndex := 392, attributes := #[] }, { accessFlags := 18, nameIndex := 21, descriptorIndex := 22, attributes := #[] }, { accessFlags := 26, nameIndex := 501, descriptorIndex := 502, attributes := #[] }, { accessFlags := 25, nameIndex := 505, descriptorIndex := 392, attributes := #[] }, { accessFlags := 25, nameIndex := 506, descriptorIndex := 392, attributes := #[] }, { accessFlags := 4120, nameIndex := 284, descriptorIndex := 285, attributes := #[] }])
  fields := #[{ name := "MIN_RADIX", type := .int, accessFlags := 25, slot := 0, constantValue := 0 }, { name := "MAX_RADIX", type := .int, accessFlags := 25, slot := 1, constantValue := 0 }, { name := "MIN_VALUE", type := .char, accessFlags := 25, slot := 2, constantValue := 0 }, { name := "MAX_VALUE", type := .char, accessFlags := 25, slot := 3, constantValue := 0 }, { name := "TYPE", type := (.object "java/lang/Class"), accessFlags := 25, slot := 4, constantValue := 0 }, { name := "UNASSIGNED", type := .byte, accessFlags := 25, slot := 5, constantValue := 0 }, { name := "UPPERCASE_LETTER", type := .byte, accessFlags := 25, slot := 6, constantValue := 0 }, { name := "LOWERCASE_LETTER", type := .byte, accessFlags := 25, slot := 7, constantValue := 0 }, { name := "TITLECASE_LETTER", type := .byte, accessFlags := 25, slot := 8, constantValue := 0 }, { name := "MODIFIER_LETTER", type := .byte, accessFlags := 25, slot := 9, constantValue := 0 }, { name := "OTHER_LETTER", type := .byte, accessFlags := 25, slot := 10, constantValue := 0 }, { name := "NON_SPACING_MARK", type := .byte, accessFlags := 25, slot := 11, constantValue := 0 }, { name := "ENCLOSING_MARK", type := .byte, accessFlags := 25, slot := 12, constantValue := 0 }, { name := "COMBINING_SPACING_MARK", type := .byte, accessFlags := 25, slot := 13, constantValue := 0 }, { name := "DECIMAL_DIGIT_NUMBER", type := .byte, accessFlags := 25, slot := 14, constantValue := 0 }, { name := "LETTER_NUMBER", type := .byte, accessFlags := 25, slot := 15, constantValue := 0 }, { name := "OTHER_NUMBER", type := .byte, accessFlags := 25, slot := 16, constantValue := 0 }, { name := "SPACE_SEPARATOR", type := .byte, accessFlags := 25, slot := 17, constantValue := 0 }, { name := "LINE_SEPARATOR", type := .byte, accessFlags := 25, slot := 18, constantValue := 0 }, { name := "PARAGRAPH_SEPARATOR", type := .byte, accessFlags := 25, slot := 19, constantValue := 0 }, { name := "CONTROL", type := .byte, accessFlags := 25, slot := 20, constantValue := 0 }, { name := "FORMAT", type := .byte, accessFlags := 25, slot := 21, constantValue := 0 }, { name := "PRIVATE_USE", type := .byte, accessFlags := 25, slot := 22, constantValue := 0 }, { name := "SURROGATE", type := .byte, accessFlags := 25, slot := 23, constantValue := 0 }, { name := "DASH_PUNCTUATION", type := .byte, accessFlags := 25, slot := 24, constantValue := 0 }, { name := "START_PUNCTUATION", type := .byte, accessFlags := 25, slot := 25, constantValue := 0 }, { name := "END_PUNCTUATION", type := .byte, accessFlags := 25, slot := 26, constantValue := 0 }, { name := "CONNECTOR_PUNCTUATION", type := .byte, accessFlags := 25, slot := 27, constantValue := 0 }, { name := "OTHER_PUNCTUATION", type := .byte, accessFlags := 25, slot := 28, constantValue := 0 }, { name := "MATH_SYMBOL", type := .byte, accessFlags := 25, slot := 29, constantValue := 0 }, { name := "CURRENCY_SYMBOL", type := .byte, accessFlags := 25, slot := 30, constantValue := 0 }, { name := "MODIFIER_SYMBOL", type := .byte, accessFlags := 25, slot := 31, constantValue := 0 }, { name := "OTHER_SYMBOL", type := .byte, accessFlags := 25, slot := 32, constantValue := 0 }, { name := "INITIAL_QUOTE_PUNCTUATION", type := .byte, accessFlags := 25, slot := 33, constantValue := 0 }, { name := "FINAL_QUOTE_PUNCTUATION", type := .byte, accessFlags := 25, slot := 34, constantValue := 0 }, { name := "ERROR", type := .int, accessFlags := 24, slot := 35, constantValue := 0 }, { name := "DIRECTIONALITY_UNDEFINED", type := .byte, accessFlags := 25, slot := 36, constantValue := 0 }, { name := "DIRECTIONALITY_LEFT_TO_RIGHT", type := .byte, accessFlags := 25, slot := 37, constantValue := 0 }, { name := "DIRECTIONALITY_RIGHT_TO_LEFT", type := .byte, accessFlags := 25, slot := 38, constantValue := 0 }, { name := "DIRECTIONALITY_RIGHT_TO_LEFT_ARABIC", type := .byte, accessFlags := 25, slot := 39, constantValue := 0 }, { name := "DIRECTIONALITY_EUROPEAN_NUMBER", type := .byte, accessFlags := 25, slot := 40, constantValue := 0 }, { name := "DIRECTIONALITY_EUROPEAN_NUMBER_SEPARATOR", type := .byte, accessFlags := 25, slot := 41, constantValue := 0 }, { name := "DIRECTIONALITY_EUROPEAN_NUMBER_TERMINATOR", type := .byte, accessFlags := 25, slot := 42, constantValue := 0 }, { name := "DIRECTIONALITY_ARABIC_NUMBER", type := .byte, accessFlags := 25, slot := 43, constantValue := 0 }, { name := "DIRECTIONALITY_COMMON_NUMBER_SEPARATOR", type := .byte, accessFlags := 25, slot := 44, constantValue := 0 }, { name := "DIRECTIONALITY_NONSPACING_MARK", type := .byte, accessFlags := 25, slot := 45, constantValue := 0 }, { name := "DIRECTIONALITY_BOUNDARY_NEUTRAL", type := .byte, accessFlags := 25, slot := 46, constantValue := 0 }, { name := "DIRECTIONALITY_PARAGRAPH_SEPARATOR", type := .byte, accessFlags := 25, slot := 47, constantValue := 0 }, { name := "DIRECTIONALITY_SEGMENT_SEPARATOR", type := .byte, accessFlags := 25, slot := 48, constantValue := 0 }, { name := "DIRECTIONALITY_WHITESPACE", type := .byte, accessFlags := 25, slot := 49, constantValue := 0 }, { name := "DIRECTIONALITY_OTHER_NEUTRALS", type := .byte, accessFlags := 25, slot := 50, constantValue := 0 }, { name := "DIRECTIONALITY_LEFT_TO_RIGHT_EMBEDDING", type := .byte, accessFlags := 25, slot := 51, constantValue := 0 }, { name := "DIRECTIONALITY_LEFT_TO_RIGHT_OVERRIDE", type := .byte, accessFlags := 25, slot := 52, constantValue := 0 }, { name := "DIRECTIONALITY_RIGHT_TO_LEFT_EMBEDDING", type := .byte, accessFlags := 25, slot := 53, constantValue := 0 }, { name := "DIRECTIONALITY_RIGHT_TO_LEFT_OVERRIDE", type := .byte, accessFlags := 25, slot := 54, constantValue := 0 }, { name := "DIRECTIONALITY_POP_DIRECTIONAL_FORMAT", type := .byte, accessFlags := 25, slot := 55, constantValue := 0 }, { name := "DIRECTIONALITY_LEFT_TO_RIGHT_ISOLATE", type := .byte, accessFlags := 25, slot := 56, constantValue := 0 }, { name := "DIRECTIONALITY_RIGHT_TO_LEFT_ISOLATE", type := .byte, accessFlags := 25, slot := 57, constantValue := 0 }, { name := "DIRECTIONALITY_FIRST_STRONG_ISOLATE", type := .byte, accessFlags := 25, slot := 58, constantValue := 0 }, { name := "DIRECTIONALITY_POP_DIRECTIONAL_ISOLATE", type := .byte, accessFlags := 25, slot := 59, constantValue := 0 }, { name := "MIN_HIGH_SURROGATE", type := .char, accessFlags := 25, slot := 60, constantValue := 0 }, { name := "MAX_HIGH_SURROGATE", type := .char, accessFlags := 25, slot := 61, constantValue := 0 }, { name := "MIN_LOW_SURROGATE", type := .char, accessFlags := 25, slot := 62, constantValue := 0 }, { name := "MAX_LOW_SURROGATE", type := .char, accessFlags := 25, slot := 63, constantValue := 0 }, { name := "MIN_SURROGATE", type := .char, accessFlags := 25, slot := 64, constantValue := 0 }, { name := "MAX_SURROGATE", type := .char, accessFlags := 25, slot := 65, constantValue := 0 }, { name := "MIN_SUPPLEMENTARY_CODE_POINT", type := .int, accessFlags := 25, slot := 66, constantValue := 0 }, { name := "MIN_CODE_POINT", type := .int, accessFlags := 25, slot := 67, constantValue := 0 }, { name := "MAX_CODE_POINT", type := .int, accessFlags := 25, slot := 68, constantValue := 0 }, { name := "value", type := .char, accessFlags := 18, slot := 0, constantValue := 0 }, { name := "serialVersionUID", type := .long, accessFlags := 26, slot := 69, constantValue := 0 }, { name := "SIZE", type := .int, accessFlags := 25, slot := 70, constantValue := 0 }, { name := "BYTES", type := .int, accessFlags := 25, slot := 71, constantValue := 0 }, { name := "$assertionsDisabled", type := .boolean, accessFlags := 4120, slot := 72, constantValue := 0 }]
  methods := #[k13m0, k13m1, k13m2, k13m3]
  instanceTypes := #[.char]
  staticTypes := #[.int, .int, .char, .char, (.object "java/lang/Class"), .byte, .byte, .byte, .byte, .byte, .byte, .byte, .byte, .byte, .byte, .byte, .byte, .byte, .byte, .byte, .byte, .byte, .byte, .byte, .byte, .byte, .byte, .byte, .byte, .byte, .byte, .byte, .byte, .byte, .byte, .int, .byte, .byte, .byte, .byte, .byte, .byte, .byte, .byte, .byte, .byte, .byte, .byte, .byte, .byte, .byte, .byte, .byte, .byte, .byte, .byte, .byte, .byte, .byte, .byte, .char, .char, .char, .char, .char, .char, .int, .int, .int, .long, .int, .int, .boolean]
  resolved := Array.replicate 604 none
  statics := none }

def pool14 : Array CpInfo := pool [(4, .class_ 6), (1, u "java/lang/Object"), (0, u "<init>"), (0, u "()V"), (5, .class_ 16), (1, u "java/lang/StringLatin1"), (104, u "$assertionsDisabled"), (0, u "Z"), (98, .class_ 223), (1, u "java/lang/StringLatin1$LinesSpliterator"), (166, .class_ 391), (0, u "java/lang/StringLatin1$CharsSpliterator")] 3

def k14m0 : Method := { name := "<init>", desc := "()V", sig := { parameters := [], returnType := none }, accessFlags := 0, code := none }
/-- java/lang/StringLatin1 -/
def k14 : Class := { plain "java/lang/StringLatin1" (some 0) with
  accessFlags := 48
  interfaces := #[]
  cf := some (fileOf pool14 14 #[.nestMembers #[390, 221]] #[{ accessFlags := 0, nameIndex := 7, descriptorIndex := 8, attributes := #[] }] 48 4 #[] #[{ accessFlags := 4120, nameIndex := 121, descriptorIndex := 122, attributes := #[] }])
  fields := #[{ name := "$assertionsDisabled", type := .boolean, accessFlags := 4120, slot := 0, constantValue := 0 }]
  methods := #[k14m0]
  instanceTypes := #[]
  staticTypes := #[.boolean]
  resolved := Array.replicate 395 none
  statics := none }

def pool15 : Array CpInfo := pool [(9, u "<init>"), (6, .class_ 18), (1, u "java/lang/Object"), (0, u "()V"), (1, .class_ 23), (1, u "jdk/internal/util/ArraysSupport"), (0, u "LOG2_ARRAY_LONG_INDEX_SCALE"), (0, u "I"), (2, u "U"), (0, u "Ljdk/internal/misc/Unsafe;"), (8, u "BIG_ENDIAN"), (0, u "Z"), (8, u "LOG2_BYTE_BIT_SIZE"), (4, u "LOG2_ARRAY_INT_INDEX_SCALE"), (54, u "JLA"), (0, u "Ljdk/internal/access/JavaLangAccess;"), (11, u "LOG2_ARRAY_BOOLEAN_INDEX_SCALE"), (9, u "LOG2_ARRAY_BYTE_INDEX_SCALE"), (5, u "LOG2_ARRAY_CHAR_INDEX_SCALE"), (5, u "LOG2_ARRAY_SHORT_INDEX_SCALE"), (18, u "LOG2_ARRAY_FLOAT_INDEX_SCALE"), (24, u "LOG2_ARRAY_DOUBLE_INDEX_SCALE"), (89, u "T_BOOLEAN"), (2, u "T_CHAR"), (1, u "T_FLOAT"), (1, u "T_DOUBLE"), (1, u "T_BYTE"), (1, u "T_SHORT"), (1, u "T_INT"), (1, u "T_LONG"), (1, u "SOFT_MAX_ARRAY_LENGTH")] 83

def k15m0 : Method := { name := "<init>", desc := "()V", sig := { parameters := [], returnType := none }, accessFlags := 2, code := none }
/-- jdk/internal/util/ArraysSupport -/
def k15 : Class := { plain "jdk/internal/util/ArraysSupport" (some 0) with
  accessFlags := 33
  interfaces := #[]
  cf := some (fileOf pool15 21 #[] #[{ accessFlags := 2, nameIndex := 9, descriptorIndex := 19, attributes := #[] }] 33 16 #[] #[{ accessFlags := 24, nameIndex := 28, descriptorIndex := 29, attributes := #[] }, { accessFlags := 26, nameIndex := 38, descriptorIndex := 39, attributes := #[] }, { accessFlags := 25, nameIndex := 121, descriptorIndex := 25, attributes := #[] }, { accessFlags := 25, nameIndex := 131, descriptorIndex := 25, attributes := #[] }, { accessFlags := 25, nameIndex := 137, descriptorIndex := 25, attributes := #[] }, { accessFlags := 25, nameIndex := 143, descriptorIndex := 25, attributes := #[] }, { accessFlags := 25, nameIndex := 53, descriptorIndex := 25, attributes := #[] }, { accessFlags := 25, nameIndex := 24, descriptorIndex := 25, attributes := #[] }, { accessFlags := 25, nameIndex := 162, descriptorIndex := 25, attributes := #[] }, { accessFlags := 25, nameIndex := 187, descriptorIndex := 25, attributes := #[] }, { accessFlags := 26, nameIndex := 48, descriptorIndex := 25, attributes := #[] }, { accessFlags := 25, nameIndex := 277, descriptorIndex := 25, attributes := #[] }, { accessFlags := 25, nameIndex := 280, descriptorIndex := 25, attributes := #[] }, { accessFlags := 25, nameIndex := 282, descriptorIndex := 25, attributes := #[] }, { accessFlags := 25, nameIndex := 284, descriptorIndex := 25, attributes := #[] }, { accessFlags := 25, nameIndex := 286, descriptorIndex := 25, attributes := #[] }, { accessFlags := 25, nameIndex := 288, descriptorIndex := 25, attributes := #[] }, { accessFlags := 25, nameIndex := 290, descriptorIndex := 25, attributes := #[] }, { accessFlags := 25, nameIndex := 292, descriptorIndex := 25, attributes := #[] }, { accessFlags := 26, nameIndex := 108, descriptorIndex := 109, attributes := #[] }, { accessFlags := 25, nameIndex := 294, descriptorIndex := 25, attributes := #[] }])
  fields := #[{ name := "U", type := (.object "jdk/internal/misc/Unsafe"), accessFlags := 24, slot := 0, constantValue := 0 }, { name := "BIG_ENDIAN", type := .boolean, accessFlags := 26, slot := 1, constantValue := 0 }, { name := "LOG2_ARRAY_BOOLEAN_INDEX_SCALE", type := .int, accessFlags := 25, slot := 2, constantValue := 0 }, { name := "LOG2_ARRAY_BYTE_INDEX_SCALE", type := .int, accessFlags := 25, slot := 3, constantValue := 0 }, { name := "LOG2_ARRAY_CHAR_INDEX_SCALE", type := .int, accessFlags := 25, slot := 4, constantValue := 0 }, { name := "LOG2_ARRAY_SHORT_INDEX_SCALE", type := .int, accessFlags := 25, slot := 5, constantValue := 0 }, { name := "LOG2_ARRAY_INT_INDEX_SCALE", type := .int, accessFlags := 25, slot := 6, constantValue := 0 }, { name := "LOG2_ARRAY_LONG_INDEX_SCALE", type := .int, accessFlags := 25, slot := 7, constantValue := 0 }, { name := "LOG2_ARRAY_FLOAT_INDEX_SCALE", type := .int, accessFlags := 25, slot := 8, constantValue := 0 }, { name := "LOG2_ARRAY_DOUBLE_INDEX_SCALE", type := .int, accessFlags := 25, slot := 9, constantValue := 0 }, { name := "LOG2_BYTE_BIT_SIZE", type := .int, accessFlags := 26, slot := 10, constantValue := 0 }, { name := "T_BOOLEAN", type := .int, accessFlags := 25, slot := 11, constantValue := 0 }, { name := "T_CHAR", type := .int, accessFlags := 25, slot := 12, constantValue := 0 }, { name := "T_FLOAT", type := .int, accessFlags := 25, slot := 13, constantValue := 0 }, { name := "T_DOUBLE", type := .int, accessFlags := 25, slot := 14, constantValue := 0 }, { name := "T_BYTE", type := .int, accessFlags := 25, slot := 15, constantValue := 0 }, { name := "T_SHORT", type := .int, accessFlags := 25, slot := 16, constantValue := 0 }, { name := "T_INT", type := .int, accessFlags := 25, slot := 17, constantValue := 0 }, { name := "T_LONG", type := .int, accessFlags := 25, slot := 18, constantValue := 0 }, { name := "JLA", type := (.object "jdk/internal/access/JavaLangAccess"), accessFlags := 26, slot := 19, constantValue := 0 }, { name := "SOFT_MAX_ARRAY_LENGTH", type := .int, accessFlags := 25, slot := 20, constantValue := 0 }]
  methods := #[k15m0]
  instanceTypes := #[]
  staticTypes := #[(.object "jdk/internal/misc/Unsafe"), .boolean, .int, .int, .int, .int, .int, .int, .int, .int, .int, .int, .int, .int, .int, .int, .int, .int, .int, (.object "jdk/internal/access/JavaLangAccess"), .int]
  resolved := Array.replicate 378 none
  statics := none }

def pool16 : Array CpInfo := pool [(1, u "java/lang/Cloneable"), (0, .class_ 1), (0, u "java/lang/Object"), (0, .class_ 3)] 3

/-- java/lang/Cloneable -/
def k16 : Class := { plain "java/lang/Cloneable" (some 0) with
  accessFlags := 1537
  interfaces := #[]
  cf := some (fileOf pool16 2 #[] #[] 1537 4 #[] #[])
  fields := #[]
  methods := #[]
  instanceTypes := #[]
  staticTypes := #[]
  resolved := Array.replicate 8 none
  statics := none }

/-- the primitive byte -/
def k17 : Class := { plain "byte" none with kind := .primitive 'B', accessFlags := 0x411 }
/-- [B -/
def k18 : Class := { plain "[B" (some 0) with kind := .array 17 .byte, interfaces := #[16, 2], accessFlags := 1041 }

/-- the primitive char -/
def k19 : Class := { plain "char" none with kind := .primitive 'C', accessFlags := 0x411 }
/-- [C -/
def k20 : Class := { plain "[C" (some 0) with kind := .array 19 .char, interfaces := #[16, 2], accessFlags := 1041 }

/-- the primitive int -/
def k21 : Class := { plain "int" none with kind := .primitive 'I', accessFlags := 0x411 }
/-- [I -/
def k22 : Class := { plain "[I" (some 0) with kind := .array 21 .int, interfaces := #[16, 2], accessFlags := 1041 }

def heap : Heap := #[{ cls := 7, slots := #[.long 0, .int 1, .null, .int 0, .null, .int 0, .int 0], vm := .statics 7 },
  { cls := 11, slots := #[.int 0, .int 8, .int 0, .int 1], vm := .statics 11 },
  { cls := 12, slots := #[.null, .null, .null], vm := .statics 12 }]
def classes : Array Class := #[k0, k1, k2, k3, k4, k5, k6, k7, k8, k9, k10, k11, k12, k13, k14, k15, k16, k17, k18, k19, k20, k21, k22]
def interned : List (Array UInt16 × Addr) := []
def slotsUsed : Nat := 14
def theMethod : MethodId := ⟨1, 1⟩
def args0 : Array Value := #[.long 5, .long 5, .int 5]
def aboutOver (below : List Frame) : State where
  vm := { classes := classes, interned := interned.toArray }
  heap := heap
  slotsUsed := slotsUsed
  threads := #[{ frames := .invoking theMethod args0 :: below }]
def below0 : List Frame := [.native { method := ⟨0, 0⟩, args := #[] }]
def about1 : State := aboutOver below0
def p0 : Program := .bare "" "" ""
def e0 : Env := launch0.env 0 0 0
theorem w_frames : about1.frames = Frame.invoking theMethod args0 :: below0 := rfl
set_option maxRecDepth 65536 in
theorem w_args : argsFit about1.vm theMethod args0 = true := by decide +kernel
set_option maxRecDepth 65536 in
theorem w_heap : heapFits about1 = true := by decide +kernel
set_option maxRecDepth 65536 in
theorem w_runnable : about1.curStatus? = some .runnable := by decide +kernel
set_option maxRecDepth 65536 in
theorem w_alone : about1.alone = true := by decide +kernel
set_option maxRecDepth 65536 in
theorem w_named : about1.methodNamed? x = some theMethod := by decide +kernel
set_option maxRecDepth 65536 in
theorem w_hears : about1.hears theMethod below0 = true := by decide +kernel
set_option maxRecDepth 65536 in
theorem w_ripe : about1.ripe theMethod args0 below0 = true := by decide +kernel
theorem w_running : about1.status = .running := rfl
set_option maxRecDepth 65536 in
theorem w_room : about1.hasRoom e0.platform room_1 = true :=
  launch0.hasRoom_least _ room_1 (by decide +kernel) (by decide +kernel) (by decide +kernel) (by decide +kernel) (by decide +kernel) (by decide +kernel)
theorem allAtoms_all (ts : List Jvm.Cond) (a : Array Jvm.Value) (st : Jvm.State) : (allAtoms ts).before a st = ts.all (fun c => c.before a st) := by
  induction ts with
  | nil => rfl
  | cons c t ih =>
    show (Jvm.Cond.and c (allAtoms t)).before a st = _
    rw [Jvm.Cond.before_and, ih, List.all_cons]
def words1 : List Jvm.Cond := Jvm.Cond.code x code maxLocals ret :: tables_1
/-- a 'code' word, met by the world's own term for the bytes: nothing is compared byte by byte -/
theorem code_word {y : MethodName} {bytes : ByteArray} {mx : Nat} {rt : Option FieldType} {a : Array Value} {s : State} {m : MethodId} {meth : Method} {c : Code} (h1 : s.methodNamed? y = some m) (h2 : s.vm.method? m = some meth) (h3 : meth.code = some c) (h4 : c.code = bytes)
    (h5 : (c.maxLocals == mx && c.exceptionTable.isEmpty && decide (c.maxStack ≤ mostOperands) && decide (meth.sig.returnType = rt) && !meth.locks && decide (parseMethodDescriptor y.desc = some meth.sig)) = true) : (Jvm.Cond.code y bytes mx rt).before a s = true := by
  simp only [Bool.and_eq_true, beq_iff_eq, Bool.not_eq_true', decide_eq_true_eq] at h5
  obtain ⟨⟨⟨⟨⟨g1, g2⟩, g3⟩, g4⟩, g5⟩, g6⟩ := h5
  simp [Cond.before, Cond.holds, Cond.value, h1, h2, h3, h4, g1, g2, g3, g4, g5, g6]
def isCode : Jvm.Cond → Bool
  | .code _ _ _ _ => true
  | _ => false
theorem all_split {L : List Jvm.Cond} {P : Jvm.Cond → Bool} (h1 : L.all (fun c => isCode c || P c) = true) (h2 : ∀ c ∈ L.filter isCode, P c = true) : L.all P = true := by
  refine List.all_eq_true.mpr fun c hc => ?_
  have h := List.all_eq_true.mp h1 c hc
  rcases Bool.eq_false_or_eq_true (isCode c) with hi | hi
  · exact h2 c (List.mem_filter.mpr ⟨hc, hi⟩)
  · simpa [hi] using h
set_option maxRecDepth 65536 in
theorem w_c0 : (Jvm.Cond.code x code maxLocals ret).before args0 about1 = true := code_word (m := ⟨1, 1⟩) (meth := k1m1) (c := k1c1) (by decide +kernel) rfl rfl rfl (by decide +kernel)
set_option maxRecDepth 65536 in
theorem w_c1 : (Jvm.Cond.code ({ cls := "com/example/rolelattice/rolelattice/decision/CodePointsComparePinLaw", name := "ch", desc := "(J)C" } : Jvm.MethodName) method_3_code (4 : Nat) (Option.some Jvm.ClassFile.FieldType.char)).before args0 about1 = true := code_word (m := ⟨1, 2⟩) (meth := k1m2) (c := k1c2) (by decide +kernel) rfl rfl rfl (by decide +kernel)
set_option maxRecDepth 65536 in
theorem w_c2 : (Jvm.Cond.code ({ cls := "com/example/rolelattice/rolelattice/decision/CodePointsComparePinLaw", name := "mk", desc := "(CCCI)Ljava/lang/String;" } : Jvm.MethodName) method_4_code (4 : Nat) (Option.some (Jvm.ClassFile.FieldType.object "java/lang/String"))).before args0 about1 = true := code_word (m := ⟨1, 3⟩) (meth := k1m3) (c := k1c3) (by decide +kernel) rfl rfl rfl (by decide +kernel)
set_option maxRecDepth 65536 in
theorem w_c3 : (Jvm.Cond.code ({ cls := "java/lang/String", name := "<init>", desc := "([C)V" } : Jvm.MethodName) jdk_42_method_3_code (2 : Nat) (Option.none : Option Jvm.ClassFile.FieldType)).before args0 about1 = true := code_word (m := ⟨7, 1⟩) (meth := k7m1) (c := k7c1) (by decide +kernel) rfl rfl rfl (by decide +kernel)
set_option maxRecDepth 65536 in
theorem w_c4 : (Jvm.Cond.code ({ cls := "java/lang/String", name := "<init>", desc := "([CIILjava/lang/Void;)V" } : Jvm.MethodName) jdk_42_method_149_code (6 : Nat) (Option.none : Option Jvm.ClassFile.FieldType)).before args0 about1 = true := code_word (m := ⟨7, 4⟩) (meth := k7m4) (c := k7c4) (by decide +kernel) rfl rfl rfl (by decide +kernel)
set_option maxRecDepth 65536 in
theorem w_c5 : (Jvm.Cond.code ({ cls := "java/lang/Object", name := "<init>", desc := "()V" } : Jvm.MethodName) object_method_1_code (1 : Nat) (Option.none : Option Jvm.ClassFile.FieldType)).before args0 about1 = true := code_word (m := ⟨0, 0⟩) (meth := k0m0) (c := k0c0) (by decide +kernel) rfl rfl rfl (by decide +kernel)
set_option maxRecDepth 65536 in
theorem w_c6 : (Jvm.Cond.code ({ cls := "com/example/rolelattice/rolelattice/decision/CodePoints", name := "compare", desc := "(Ljava/lang/String;Ljava/lang/String;)I" } : Jvm.MethodName) prog_12_method_2_code (5 : Nat) (Option.some Jvm.ClassFile.FieldType.int)).before args0 about1 = true := code_word (m := ⟨8, 1⟩) (meth := k8m1) (c := k8c1) (by decide +kernel) rfl rfl rfl (by decide +kernel)
set_option maxRecDepth 65536 in
theorem w_c7 : (Jvm.Cond.code ({ cls := "java/lang/String", name := "length", desc := "()I" } : Jvm.MethodName) jdk_42_method_54_code (1 : Nat) (Option.some Jvm.ClassFile.FieldType.int)).before args0 about1 = true := code_word (m := ⟨7, 2⟩) (meth := k7m2) (c := k7c2) (by decide +kernel) rfl rfl rfl (by decide +kernel)
set_option maxRecDepth 65536 in
theorem w_c8 : (Jvm.Cond.code ({ cls := "java/lang/String", name := "coder", desc := "()B" } : Jvm.MethodName) jdk_42_method_152_code (1 : Nat) (Option.some Jvm.ClassFile.FieldType.byte)).before args0 about1 = true := code_word (m := ⟨7, 5⟩) (meth := k7m5) (c := k7c5) (by decide +kernel) rfl rfl rfl (by decide +kernel)
set_option maxRecDepth 65536 in
theorem w_c9 : (Jvm.Cond.code ({ cls := "java/lang/Integer", name := "compare", desc := "(II)I" } : Jvm.MethodName) jdk_33_method_40_code (2 : Nat) (Option.some Jvm.ClassFile.FieldType.int)).before args0 about1 = true := code_word (m := ⟨10, 0⟩) (meth := k10m0) (c := k10c0) (by decide +kernel) rfl rfl rfl (by decide +kernel)
set_option maxRecDepth 65536 in
theorem w_c10 : (Jvm.Cond.code ({ cls := "com/example/rolelattice/rolelattice/decision/CodePointsComparePinLaw", name := "decode", desc := "([CI[I)I" } : Jvm.MethodName) method_10_code (5 : Nat) (Option.some Jvm.ClassFile.FieldType.int)).before args0 about1 = true := code_word (m := ⟨1, 9⟩) (meth := k1m9) (c := k1c9) (by decide +kernel) rfl rfl rfl (by decide +kernel)
set_option maxRecDepth 65536 in
theorem w_c11 : (Jvm.Cond.code ({ cls := "com/example/rolelattice/rolelattice/decision/CodePointsComparePinLaw", name := "cmpSeq", desc := "([II[II)I" } : Jvm.MethodName) method_12_code (4 : Nat) (Option.some Jvm.ClassFile.FieldType.int)).before args0 about1 = true := code_word (m := ⟨1, 11⟩) (meth := k1m11) (c := k1c11) (by decide +kernel) rfl rfl rfl (by decide +kernel)
set_option maxRecDepth 65536 in
theorem w_c12 : (Jvm.Cond.code ({ cls := "com/example/rolelattice/rolelattice/decision/CodePointsComparePinLaw", name := "sign", desc := "(I)I" } : Jvm.MethodName) method_11_code (1 : Nat) (Option.some Jvm.ClassFile.FieldType.int)).before args0 about1 = true := code_word (m := ⟨1, 10⟩) (meth := k1m10) (c := k1c10) (by decide +kernel) rfl rfl rfl (by decide +kernel)
set_option maxRecDepth 65536 in
theorem w_c13 : (Jvm.Cond.code ({ cls := "java/lang/StringUTF16", name := "compress", desc := "([CII)[B" } : Jvm.MethodName) jdk_52_method_16_code (6 : Nat) (Option.some (Jvm.ClassFile.FieldType.array Jvm.ClassFile.FieldType.byte))).before args0 about1 = true := code_word (m := ⟨11, 9⟩) (meth := k11m9) (c := k11c9) (by decide +kernel) rfl rfl rfl (by decide +kernel)
set_option maxRecDepth 65536 in
theorem w_c14 : (Jvm.Cond.code ({ cls := "java/lang/StringUTF16", name := "compress", desc := "([CI[BII)I" } : Jvm.MethodName) jdk_52_method_21_code (7 : Nat) (Option.some Jvm.ClassFile.FieldType.int)).before args0 about1 = true := code_word (m := ⟨11, 10⟩) (meth := k11m10) (c := k11c10) (by decide +kernel) rfl rfl rfl (by decide +kernel)
set_option maxRecDepth 65536 in
theorem w_c15 : (Jvm.Cond.code ({ cls := "java/lang/StringUTF16", name := "toBytes", desc := "([CII)[B" } : Jvm.MethodName) jdk_52_method_14_code (5 : Nat) (Option.some (Jvm.ClassFile.FieldType.array Jvm.ClassFile.FieldType.byte))).before args0 about1 = true := code_word (m := ⟨11, 7⟩) (meth := k11m7) (c := k11c7) (by decide +kernel) rfl rfl rfl (by decide +kernel)
set_option maxRecDepth 65536 in
theorem w_c16 : (Jvm.Cond.code ({ cls := "java/lang/StringUTF16", name := "newBytesFor", desc := "(I)[B" } : Jvm.MethodName) jdk_52_method_2_code (1 : Nat) (Option.some (Jvm.ClassFile.FieldType.array Jvm.ClassFile.FieldType.byte))).before args0 about1 = true := code_word (m := ⟨11, 1⟩) (meth := k11m1) (c := k11c1) (by decide +kernel) rfl rfl rfl (by decide +kernel)
set_option maxRecDepth 65536 in
theorem w_c17 : (Jvm.Cond.code ({ cls := "java/lang/StringUTF16", name := "newBytesLength", desc := "(I)I" } : Jvm.MethodName) jdk_52_method_3_code (1 : Nat) (Option.some Jvm.ClassFile.FieldType.int)).before args0 about1 = true := code_word (m := ⟨11, 2⟩) (meth := k11m2) (c := k11c2) (by decide +kernel) rfl rfl rfl (by decide +kernel)
set_option maxRecDepth 65536 in
theorem w_c18 : (Jvm.Cond.code ({ cls := "java/lang/StringUTF16", name := "putChar", desc := "([BII)V" } : Jvm.MethodName) jdk_52_method_4_code (3 : Nat) (Option.none : Option Jvm.ClassFile.FieldType)).before args0 about1 = true := code_word (m := ⟨11, 3⟩) (meth := k11m3) (c := k11c3) (by decide +kernel) rfl rfl rfl (by decide +kernel)
set_option maxRecDepth 65536 in
theorem w_c19 : (Jvm.Cond.code ({ cls := "java/lang/StringUTF16", name := "getChar", desc := "([BI)C" } : Jvm.MethodName) jdk_52_method_5_code (2 : Nat) (Option.some Jvm.ClassFile.FieldType.char)).before args0 about1 = true := code_word (m := ⟨11, 4⟩) (meth := k11m4) (c := k11c4) (by decide +kernel) rfl rfl rfl (by decide +kernel)
set_option maxRecDepth 65536 in
theorem w_c20 : (Jvm.Cond.code ({ cls := "java/lang/StringUTF16", name := "coderFromArrayLen", desc := "([BI)B" } : Jvm.MethodName) jdk_52_method_15_code (2 : Nat) (Option.some Jvm.ClassFile.FieldType.byte)).before args0 about1 = true := code_word (m := ⟨11, 8⟩) (meth := k11m8) (c := k11c8) (by decide +kernel) rfl rfl rfl (by decide +kernel)
set_option maxRecDepth 65536 in
theorem w_c21 : (Jvm.Cond.code ({ cls := "com/example/rolelattice/rolelattice/decision/CodePointsComparePinLaw", name := "cpAt", desc := "([CII)I" } : Jvm.MethodName) method_8_code (3 : Nat) (Option.some Jvm.ClassFile.FieldType.int)).before args0 about1 = true := code_word (m := ⟨1, 7⟩) (meth := k1m7) (c := k1c7) (by decide +kernel) rfl rfl rfl (by decide +kernel)
set_option maxRecDepth 65536 in
theorem w_c22 : (Jvm.Cond.code ({ cls := "com/example/rolelattice/rolelattice/decision/CodePointsComparePinLaw", name := "paired", desc := "([CII)Z" } : Jvm.MethodName) method_7_code (3 : Nat) (Option.some Jvm.ClassFile.FieldType.boolean)).before args0 about1 = true := code_word (m := ⟨1, 6⟩) (meth := k1m6) (c := k1c6) (by decide +kernel) rfl rfl rfl (by decide +kernel)
set_option maxRecDepth 65536 in
theorem w_c23 : (Jvm.Cond.code ({ cls := "com/example/rolelattice/rolelattice/decision/CodePointsComparePinLaw", name := "isHi", desc := "(C)Z" } : Jvm.MethodName) method_5_code (1 : Nat) (Option.some Jvm.ClassFile.FieldType.boolean)).before args0 about1 = true := code_word (m := ⟨1, 4⟩) (meth := k1m4) (c := k1c4) (by decide +kernel) rfl rfl rfl (by decide +kernel)
set_option maxRecDepth 65536 in
theorem w_c24 : (Jvm.Cond.code ({ cls := "com/example/rolelattice/rolelattice/decision/CodePointsComparePinLaw", name := "width", desc := "([CII)I" } : Jvm.MethodName) method_9_code (3 : Nat) (Option.some Jvm.ClassFile.FieldType.int)).before args0 about1 = true := code_word (m := ⟨1, 8⟩) (meth := k1m8) (c := k1c8) (by decide +kernel) rfl rfl rfl (by decide +kernel)
set_option maxRecDepth 65536 in
theorem w_c25 : (Jvm.Cond.code ({ cls := "com/example/rolelattice/rolelattice/decision/CodePointsComparePinLaw", name := "isLo", desc := "(C)Z" } : Jvm.MethodName) method_6_code (1 : Nat) (Option.some Jvm.ClassFile.FieldType.boolean)).before args0 about1 = true := code_word (m := ⟨1, 5⟩) (meth := k1m5) (c := k1c5) (by decide +kernel) rfl rfl rfl (by decide +kernel)
set_option maxRecDepth 65536 in
theorem w_c26 : (Jvm.Cond.code ({ cls := "java/lang/String", name := "codePointAt", desc := "(I)I" } : Jvm.MethodName) jdk_42_method_57_code (3 : Nat) (Option.some Jvm.ClassFile.FieldType.int)).before args0 about1 = true := code_word (m := ⟨7, 3⟩) (meth := k7m3) (c := k7c3) (by decide +kernel) rfl rfl rfl (by decide +kernel)
set_option maxRecDepth 65536 in
theorem w_c27 : (Jvm.Cond.code ({ cls := "java/lang/String", name := "isLatin1", desc := "()Z" } : Jvm.MethodName) jdk_42_method_154_code (1 : Nat) (Option.some Jvm.ClassFile.FieldType.boolean)).before args0 about1 = true := code_word (m := ⟨7, 6⟩) (meth := k7m6) (c := k7c6) (by decide +kernel) rfl rfl rfl (by decide +kernel)
set_option maxRecDepth 65536 in
theorem w_c28 : (Jvm.Cond.code ({ cls := "java/lang/String", name := "checkIndex", desc := "(II)V" } : Jvm.MethodName) jdk_42_method_155_code (2 : Nat) (Option.none : Option Jvm.ClassFile.FieldType)).before args0 about1 = true := code_word (m := ⟨7, 7⟩) (meth := k7m7) (c := k7c7) (by decide +kernel) rfl rfl rfl (by decide +kernel)
set_option maxRecDepth 65536 in
theorem w_c29 : (Jvm.Cond.code ({ cls := "jdk/internal/util/Preconditions", name := "checkIndex", desc := "(IILjava/util/function/BiFunction;)I" } : Jvm.MethodName) jdk_41_method_11_code (3 : Nat) (Option.some Jvm.ClassFile.FieldType.int)).before args0 about1 = true := code_word (m := ⟨12, 1⟩) (meth := k12m1) (c := k12c1) (by decide +kernel) rfl rfl rfl (by decide +kernel)
set_option maxRecDepth 65536 in
theorem w_c30 : (Jvm.Cond.code ({ cls := "java/lang/StringUTF16", name := "codePointAt", desc := "([BII)I" } : Jvm.MethodName) jdk_52_method_8_code (3 : Nat) (Option.some Jvm.ClassFile.FieldType.int)).before args0 about1 = true := code_word (m := ⟨11, 6⟩) (meth := k11m6) (c := k11c6) (by decide +kernel) rfl rfl rfl (by decide +kernel)
set_option maxRecDepth 65536 in
theorem w_c31 : (Jvm.Cond.code ({ cls := "java/lang/StringUTF16", name := "codePointAt", desc := "([BIIZ)I" } : Jvm.MethodName) jdk_52_method_7_code (6 : Nat) (Option.some Jvm.ClassFile.FieldType.int)).before args0 about1 = true := code_word (m := ⟨11, 5⟩) (meth := k11m5) (c := k11c5) (by decide +kernel) rfl rfl rfl (by decide +kernel)
set_option maxRecDepth 65536 in
theorem w_c32 : (Jvm.Cond.code ({ cls := "java/lang/Character", name := "isHighSurrogate", desc := "(C)Z" } : Jvm.MethodName) jdk_89_method_14_code (1 : Nat) (Option.some Jvm.ClassFile.FieldType.boolean)).before args0 about1 = true := code_word (m := ⟨13, 0⟩) (meth := k13m0) (c := k13c0) (by decide +kernel) rfl rfl rfl (by decide +kernel)
set_option maxRecDepth 65536 in
theorem w_c33 : (Jvm.Cond.code ({ cls := "java/lang/Character", name := "isLowSurrogate", desc := "(C)Z" } : Jvm.MethodName) jdk_89_method_15_code (1 : Nat) (Option.some Jvm.ClassFile.FieldType.boolean)).before args0 about1 = true := code_word (m := ⟨13, 1⟩) (meth := k13m1) (c := k13c1) (by decide +kernel) rfl rfl rfl (by decide +kernel)
set_option maxRecDepth 65536 in
theorem w_c34 : (Jvm.Cond.code ({ cls := "java/lang/Character", name := "charCount", desc := "(I)I" } : Jvm.MethodName) jdk_89_method_18_code (1 : Nat) (Option.some Jvm.ClassFile.FieldType.int)).before args0 about1 = true := code_word (m := ⟨13, 2⟩) (meth := k13m2) (c := k13c2) (by decide +kernel) rfl rfl rfl (by decide +kernel)
set_option maxRecDepth 65536 in
theorem w_c35 : (Jvm.Cond.code ({ cls := "java/lang/Character", name := "toCodePoint", desc := "(CC)I" } : Jvm.MethodName) jdk_89_method_19_code (2 : Nat) (Option.some Jvm.ClassFile.FieldType.int)).before args0 about1 = true := code_word (m := ⟨13, 3⟩) (meth := k13m3) (c := k13c3) (by decide +kernel) rfl rfl rfl (by decide +kernel)
def codes1 : List Jvm.Cond := [Jvm.Cond.code x code maxLocals ret, Jvm.Cond.code ({ cls := "com/example/rolelattice/rolelattice/decision/CodePointsComparePinLaw", name := "ch", desc := "(J)C" } : Jvm.MethodName) method_3_code (4 : Nat) (Option.some Jvm.ClassFile.FieldType.char), Jvm.Cond.code ({ cls := "com/example/rolelattice/rolelattice/decision/CodePointsComparePinLaw", name := "mk", desc := "(CCCI)Ljava/lang/String;" } : Jvm.MethodName) method_4_code (4 : Nat) (Option.some (Jvm.ClassFile.FieldType.object "java/lang/String")), Jvm.Cond.code ({ cls := "java/lang/String", name := "<init>", desc := "([C)V" } : Jvm.MethodName) jdk_42_method_3_code (2 : Nat) (Option.none : Option Jvm.ClassFile.FieldType), Jvm.Cond.code ({ cls := "java/lang/String", name := "<init>", desc := "([CIILjava/lang/Void;)V" } : Jvm.MethodName) jdk_42_method_149_code (6 : Nat) (Option.none : Option Jvm.ClassFile.FieldType), Jvm.Cond.code ({ cls := "java/lang/Object", name := "<init>", desc := "()V" } : Jvm.MethodName) object_method_1_code (1 : Nat) (Option.none : Option Jvm.ClassFile.FieldType), Jvm.Cond.code ({ cls := "com/example/rolelattice/rolelattice/decision/CodePoints", name := "compare", desc := "(Ljava/lang/String;Ljava/lang/String;)I" } : Jvm.MethodName) prog_12_method_2_code (5 : Nat) (Option.some Jvm.ClassFile.FieldType.int), Jvm.Cond.code ({ cls := "java/lang/String", name := "length", desc := "()I" } : Jvm.MethodName) jdk_42_method_54_code (1 : Nat) (Option.some Jvm.ClassFile.FieldType.int), Jvm.Cond.code ({ cls := "java/lang/String", name := "coder", desc := "()B" } : Jvm.MethodName) jdk_42_method_152_code (1 : Nat) (Option.some Jvm.ClassFile.FieldType.byte), Jvm.Cond.code ({ cls := "java/lang/Integer", name := "compare", desc := "(II)I" } : Jvm.MethodName) jdk_33_method_40_code (2 : Nat) (Option.some Jvm.ClassFile.FieldType.int), Jvm.Cond.code ({ cls := "com/example/rolelattice/rolelattice/decision/CodePointsComparePinLaw", name := "decode", desc := "([CI[I)I" } : Jvm.MethodName) method_10_code (5 : Nat) (Option.some Jvm.ClassFile.FieldType.int), Jvm.Cond.code ({ cls := "com/example/rolelattice/rolelattice/decision/CodePointsComparePinLaw", name := "cmpSeq", desc := "([II[II)I" } : Jvm.MethodName) method_12_code (4 : Nat) (Option.some Jvm.ClassFile.FieldType.int), Jvm.Cond.code ({ cls := "com/example/rolelattice/rolelattice/decision/CodePointsComparePinLaw", name := "sign", desc := "(I)I" } : Jvm.MethodName) method_11_code (1 : Nat) (Option.some Jvm.ClassFile.FieldType.int), Jvm.Cond.code ({ cls := "java/lang/StringUTF16", name := "compress", desc := "([CII)[B" } : Jvm.MethodName) jdk_52_method_16_code (6 : Nat) (Option.some (Jvm.ClassFile.FieldType.array Jvm.ClassFile.FieldType.byte)), Jvm.Cond.code ({ cls := "java/lang/StringUTF16", name := "compress", desc := "([CI[BII)I" } : Jvm.MethodName) jdk_52_method_21_code (7 : Nat) (Option.some Jvm.ClassFile.FieldType.int), Jvm.Cond.code ({ cls := "java/lang/StringUTF16", name := "toBytes", desc := "([CII)[B" } : Jvm.MethodName) jdk_52_method_14_code (5 : Nat) (Option.some (Jvm.ClassFile.FieldType.array Jvm.ClassFile.FieldType.byte)), Jvm.Cond.code ({ cls := "java/lang/StringUTF16", name := "newBytesFor", desc := "(I)[B" } : Jvm.MethodName) jdk_52_method_2_code (1 : Nat) (Option.some (Jvm.ClassFile.FieldType.array Jvm.ClassFile.FieldType.byte)), Jvm.Cond.code ({ cls := "java/lang/StringUTF16", name := "newBytesLength", desc := "(I)I" } : Jvm.MethodName) jdk_52_method_3_code (1 : Nat) (Option.some Jvm.ClassFile.FieldType.int), Jvm.Cond.code ({ cls := "java/lang/StringUTF16", name := "putChar", desc := "([BII)V" } : Jvm.MethodName) jdk_52_method_4_code (3 : Nat) (Option.none : Option Jvm.ClassFile.FieldType), Jvm.Cond.code ({ cls := "java/lang/StringUTF16", name := "getChar", desc := "([BI)C" } : Jvm.MethodName) jdk_52_method_5_code (2 : Nat) (Option.some Jvm.ClassFile.FieldType.char), Jvm.Cond.code ({ cls := "java/lang/StringUTF16", name := "coderFromArrayLen", desc := "([BI)B" } : Jvm.MethodName) jdk_52_method_15_code (2 : Nat) (Option.some Jvm.ClassFile.FieldType.byte), Jvm.Cond.code ({ cls := "com/example/rolelattice/rolelattice/decision/CodePointsComparePinLaw", name := "cpAt", desc := "([CII)I" } : Jvm.MethodName) method_8_code (3 : Nat) (Option.some Jvm.ClassFile.FieldType.int), Jvm.Cond.code ({ cls := "com/example/rolelattice/rolelattice/decision/CodePointsComparePinLaw", name := "paired", desc := "([CII)Z" } : Jvm.MethodName) method_7_code (3 : Nat) (Option.some Jvm.ClassFile.FieldType.boolean), Jvm.Cond.code ({ cls := "com/example/rolelattice/rolelattice/decision/CodePointsComparePinLaw", name := "isHi", desc := "(C)Z" } : Jvm.MethodName) method_5_code (1 : Nat) (Option.some Jvm.ClassFile.FieldType.boolean), Jvm.Cond.code ({ cls := "com/example/rolelattice/rolelattice/decision/CodePointsComparePinLaw", name := "width", desc := "([CII)I" } : Jvm.MethodName) method_9_code (3 : Nat) (Option.some Jvm.ClassFile.FieldType.int), Jvm.Cond.code ({ cls := "com/example/rolelattice/rolelattice/decision/CodePointsComparePinLaw", name := "isLo", desc := "(C)Z" } : Jvm.MethodName) method_6_code (1 : Nat) (Option.some Jvm.ClassFile.FieldType.boolean), Jvm.Cond.code ({ cls := "java/lang/String", name := "codePointAt", desc := "(I)I" } : Jvm.MethodName) jdk_42_method_57_code (3 : Nat) (Option.some Jvm.ClassFile.FieldType.int), Jvm.Cond.code ({ cls := "java/lang/String", name := "isLatin1", desc := "()Z" } : Jvm.MethodName) jdk_42_method_154_code (1 : Nat) (Option.some Jvm.ClassFile.FieldType.boolean), Jvm.Cond.code ({ cls := "java/lang/String", name := "checkIndex", desc := "(II)V" } : Jvm.MethodName) jdk_42_method_155_code (2 : Nat) (Option.none : Option Jvm.ClassFile.FieldType), Jvm.Cond.code ({ cls := "jdk/internal/util/Preconditions", name := "checkIndex", desc := "(IILjava/util/function/BiFunction;)I" } : Jvm.MethodName) jdk_41_method_11_code (3 : Nat) (Option.some Jvm.ClassFile.FieldType.int), Jvm.Cond.code ({ cls := "java/lang/StringUTF16", name := "codePointAt", desc := "([BII)I" } : Jvm.MethodName) jdk_52_method_8_code (3 : Nat) (Option.some Jvm.ClassFile.FieldType.int), Jvm.Cond.code ({ cls := "java/lang/StringUTF16", name := "codePointAt", desc := "([BIIZ)I" } : Jvm.MethodName) jdk_52_method_7_code (6 : Nat) (Option.some Jvm.ClassFile.FieldType.int), Jvm.Cond.code ({ cls := "java/lang/Character", name := "isHighSurrogate", desc := "(C)Z" } : Jvm.MethodName) jdk_89_method_14_code (1 : Nat) (Option.some Jvm.ClassFile.FieldType.boolean), Jvm.Cond.code ({ cls := "java/lang/Character", name := "isLowSurrogate", desc := "(C)Z" } : Jvm.MethodName) jdk_89_method_15_code (1 : Nat) (Option.some Jvm.ClassFile.FieldType.boolean), Jvm.Cond.code ({ cls := "java/lang/Character", name := "charCount", desc := "(I)I" } : Jvm.MethodName) jdk_89_method_18_code (1 : Nat) (Option.some Jvm.ClassFile.FieldType.int), Jvm.Cond.code ({ cls := "java/lang/Character", name := "toCodePoint", desc := "(CC)I" } : Jvm.MethodName) jdk_89_method_19_code (2 : Nat) (Option.some Jvm.ClassFile.FieldType.int)]
set_option maxRecDepth 65536 in
theorem codes_eq : words1.filter isCode = codes1 := rfl
theorem w_codes : ∀ c ∈ words1.filter isCode, c.before args0 about1 = true := by
  rw [codes_eq]
  intro c hc
  simp only [codes1, List.mem_cons, List.not_mem_nil, or_false] at hc
  rcases hc with rfl | rfl | rfl | rfl | rfl | rfl | rfl | rfl | rfl | rfl | rfl | rfl | rfl | rfl | rfl | rfl | rfl | rfl | rfl | rfl | rfl | rfl | rfl | rfl | rfl | rfl | rfl | rfl | rfl | rfl | rfl | rfl | rfl | rfl | rfl | rfl
  · exact w_c0
  · exact w_c1
  · exact w_c2
  · exact w_c3
  · exact w_c4
  · exact w_c5
  · exact w_c6
  · exact w_c7
  · exact w_c8
  · exact w_c9
  · exact w_c10
  · exact w_c11
  · exact w_c12
  · exact w_c13
  · exact w_c14
  · exact w_c15
  · exact w_c16
  · exact w_c17
  · exact w_c18
  · exact w_c19
  · exact w_c20
  · exact w_c21
  · exact w_c22
  · exact w_c23
  · exact w_c24
  · exact w_c25
  · exact w_c26
  · exact w_c27
  · exact w_c28
  · exact w_c29
  · exact w_c30
  · exact w_c31
  · exact w_c32
  · exact w_c33
  · exact w_c34
  · exact w_c35
set_option maxRecDepth 65536 in
theorem w_t1 : (words1.take 24).all (fun c => isCode c || c.before args0 about1) = true := by decide +kernel
set_option maxRecDepth 65536 in
theorem w_t2 : ((words1.drop 24).take 24).all (fun c => isCode c || c.before args0 about1) = true := by decide +kernel
set_option maxRecDepth 65536 in
theorem w_t3 : (((words1.drop 24).drop 24).take 24).all (fun c => isCode c || c.before args0 about1) = true := by decide +kernel
set_option maxRecDepth 65536 in
theorem w_t4 : ((((words1.drop 24).drop 24).drop 24).take 24).all (fun c => isCode c || c.before args0 about1) = true := by decide +kernel
set_option maxRecDepth 65536 in
theorem w_t5 : (((((words1.drop 24).drop 24).drop 24).drop 24).take 24).all (fun c => isCode c || c.before args0 about1) = true := by decide +kernel
set_option maxRecDepth 65536 in
theorem w_t6 : ((((((words1.drop 24).drop 24).drop 24).drop 24).drop 24).take 24).all (fun c => isCode c || c.before args0 about1) = true := by decide +kernel
set_option maxRecDepth 65536 in
theorem w_t7 : ((((((words1.drop 24).drop 24).drop 24).drop 24).drop 24).drop 24).all (fun c => isCode c || c.before args0 about1) = true := by decide +kernel
theorem w_tables : (allAtoms (Jvm.Cond.code x code maxLocals ret :: tables_1)).before args0 about1 = true := by
  rw [allAtoms_all]
  show words1.all (fun c => c.before args0 about1) = true
  refine all_split ?_ w_codes
  rw [← List.take_append_drop 24 words1, List.all_append, w_t1, ← List.take_append_drop 24 (words1.drop 24), List.all_append, w_t2, ← List.take_append_drop 24 ((words1.drop 24).drop 24), List.all_append, w_t3, ← List.take_append_drop 24 (((words1.drop 24).drop 24).drop 24), List.all_append, w_t4, ← List.take_append_drop 24 ((((words1.drop 24).drop 24).drop 24).drop 24), List.all_append, w_t5, ← List.take_append_drop 24 (((((words1.drop 24).drop 24).drop 24).drop 24).drop 24), List.all_append, w_t6, w_t7]
  rfl
set_option maxRecDepth 65536 in
theorem w_rest : rest_1_c.before args0 about1 = true := by decide +kernel
set_option maxRecDepth 65536 in
theorem w_case : (Jvm.Cond.and given_1 narrow_1).before args0 about1 = true := by decide +kernel
set_option maxRecDepth 65536 in
theorem w_consts : constsHeld consts_1 about1 := Jvm.Lit.constsHeldB_iff.mp (by decide +kernel)
theorem w_applies : (headSpec (Jvm.Cond.code x code maxLocals ret :: tables_1) room_1).applies x e0.platform about1 = true :=
  (Spec.applies_iff w_frames).mpr ⟨w_running, w_runnable, w_alone, w_named, w_hears, w_ripe, w_room, w_tables⟩
theorem atStart : AtStart classFile x code maxLocals ret World_1 tables_1 room_1 Calls_1 rest_1 Pre_1 launch0 p0 e0 about1 theMethod args0 below0 :=
  ⟨lists_1, trivial, launch0.admits_env _ _ _, launch0.least_env, fairChoices_fair.cas, fairChoices_fair.clock, w_frames, w_args, w_heap, w_applies, ⟨w_consts, trivial⟩, w_rest, w_case⟩
end start1
theorem witness_1 : WitnessClaimed_1 := ⟨start1.p0, start1.e0, start1.about1, start1.theMethod, start1.args0, start1.below0, start1.atStart⟩
end Jvm.Pilot.@@N@@
