import JvmDerived
import JvmDerived.Pilot.@@N@@Statement
import JvmDerived.Pilot.@@N@@Code
set_option linter.unusedVariables false
set_option linter.unusedSimpArgs false
namespace Jvm.RoadKit
open Sem ClassFile Op Lib Jvm.Stand Jvm.Free Jvm.LawKit
section New
variable {p : Program} {l : Launch} {e : Env} {R : Room} {s : State} {m : MethodId} {args : Array Value} {below : List Frame} {meth : Method} {c : Code} {T : State} {locs : List Loc} {cells slots : Nat}
theorem retI (X : Stand p l e R s m args below meth c T locs cells slots) (hx : p.tables.exec = Jvm.exec) {pc : Nat} {Ls : Array Slot} {z : Int32} {rest : List Value} (hret : meth.sig.returnType = some .int) (hd : decode c.code pc = .ok (.ireturn, 1)) {fs : List Frame}
    (hl : ∀ (f : JFrame) (acts : List Action), f.method = m → f.locked = none → f.entered = [] → (doReturn e (T.setTop f) acts (some (.int z))).1 = T.setFrames fs) : Steps p.tables e below (T.setTop (mkF m pc Ls (.int z :: rest))) (T.setFrames fs) := by
  have hm' : T.vm.method? m = some meth := X.method'
  have hn : narrow .int (.int z) = .int z := rfl
  show Steps p.tables e below (T.setTop { method := m, pc := pc, locals := Ls, stack := _ :: rest, locked := none }) _
  jvm_step X.here [X.here.top, hx, hd, hm', hret, hn]
  first | (intro acts; rw [hl _ acts rfl rfl rfl]) | rw [hl _ _ rfl rfl rfl]
  exact Steps.refl _
theorem retR (X : Stand p l e R s m args below meth c T locs cells slots) (hx : p.tables.exec = Jvm.exec) {pc : Nat} {Ls : Array Slot} {w : Value} {t : FieldType} {rest : List Value} (hret : meth.sig.returnType = some t) (hn : narrow t w = w) (ht : t.isReference = true) (hw : w.isRef = true) (hd : decode c.code pc = .ok (.areturn, 1)) {fs : List Frame}
    (hl : ∀ (f : JFrame) (acts : List Action), f.method = m → f.locked = none → f.entered = [] → (doReturn e (T.setTop f) acts (some w)).1 = T.setFrames fs) : Steps p.tables e below (T.setTop (mkF m pc Ls (w :: rest))) (T.setFrames fs) := by
  have hm' : T.vm.method? m = some meth := X.method'
  show Steps p.tables e below (T.setTop { method := m, pc := pc, locals := Ls, stack := _ :: rest, locked := none }) _
  jvm_step X.here [X.here.top, hx, hd, hm', hret, hn, hw]
  try (refine ⟨ht, ?_⟩)
  first | (intro acts; rw [hl _ acts rfl rfl rfl]) | rw [hl _ _ rfl rfl rfl]
  exact Steps.refl _
end New
end Jvm.RoadKit
/- laws to paste: Road.backV (cut by pick.py; bodies as the Statement names them) -/
namespace Jvm.Pilot.@@N@@
namespace StrChars
open Jvm Sem ClassFile Op Lib Jvm.Stand Jvm.Free.XT Jvm.Free.ALB Jvm.Free.JM Jvm.Free
open Jvm.Lib.Cold (StaticIs)
/-- a char array whose places are chars -/
def Ch (a : Addr) (A : Cell) (U : State) : Prop := Arr .char a A U ∧ Typed .char A
theorem Ch.mv {a : Addr} {A : Cell} {U U' : State} (h : Ch a A U) (hal : U.vm.Alike U'.vm) (hh : U'.heap = U.heap) : Ch a A U' := ⟨h.1.mv hal hh, h.2⟩
theorem Ch.keep {a : Addr} {A : Cell} {U U' : State} (h : Ch a A U) (hal : U.vm.Alike U'.vm) (hk : U'.heap[a]? = some A) : Ch a A U' := ⟨h.1.keep hal hk, h.2⟩
/-- what place i of a char[]'s cell holds -/
def cv (A : Cell) (i : Nat) : Int32 := match A.slots[i]? with | some (.int x) => x | _ => 0
theorem Ch.get {a : Addr} {A : Cell} {U : State} (h : Ch a A U) {i : Nat} (hi : i < A.slots.size) : A.slots[i]? = some (.int (cv A i)) := by
  have e := Array.getElem?_eq_getElem hi
  have f := h.2 i _ e
  unfold cv; rw [e]
  generalize A.slots[i] = v at f
  cases v <;> simp [fits] at f ⊢
/-- the byte that i2b leaves of a char -/
def lo8 (x : Int32) : Int32 := x.toInt8.toInt32
theorem fits_lo8 (y : Int32) : fits .byte (.int (lo8 y)) = true := by
  have h1 := y.toInt8.le_toInt
  have h2 := y.toInt8.toInt_lt
  simp only [lo8, fits, Bool.and_eq_true, decide_eq_true_eq, Int32.le_iff_toInt_le, Int8.toInt_toInt32, show (-128 : Int32).toInt = -128 from by decide, show (127 : Int32).toInt = 127 from by decide]
  omega
/-- A' is A but that each place j of lo .. hi - 1 holds f j -/
def Laid (A A' : Cell) (lo hi : Nat) (f : Nat → Value) : Prop := A'.cls = A.cls ∧ A'.vm = A.vm ∧ A'.slots.size = A.slots.size ∧ ∀ i, A'.slots[i]? = if lo ≤ i ∧ i < hi then some (f i) else A.slots[i]?
theorem Laid.zero (A : Cell) (lo : Nat) (f : Nat → Value) : Laid A A lo (lo + 0) f := ⟨rfl, rfl, rfl, fun i => by rw [if_neg (by omega)]⟩
theorem Laid.step {A Ak : Cell} {lo k : Nat} {f : Nat → Value} {v : Value} (h : Laid A Ak lo k f) (hlo : lo ≤ k) (hk : k < Ak.slots.size) (hv : v = f k) : Laid A (Ak.setSlot k v) lo (k + 1) f := by
  refine ⟨h.1, h.2.1, by simpa [Cell.setSlot] using h.2.2.1, fun i => ?_⟩
  by_cases e : k = i
  · subst e; rw [Cell.slots_setSlot_self v hk, if_pos (by omega), hv]
  · rw [Cell.slots_setSlot_ne v e, h.2.2.2 i]
    by_cases q : lo ≤ i ∧ i < k
    · rw [if_pos q, if_pos (by omega)]
    · rw [if_neg q, if_neg (by omega)]
def U16 : String := "java/lang/StringUTF16"
namespace Cmp5
def yN : MethodName := ⟨"java/lang/StringUTF16", "compress", "([CI[BII)I"⟩
abbrev yB : ByteArray := jdk_52_method_21_code
theorem d0 : decode yB 0 = .ok (.iconst 0, 1) := by decide +kernel
theorem d1 : decode yB 1 = .ok (.istore 5, 2) := by decide +kernel
theorem d3 : decode yB 3 = .ok (.iload 5, 2) := by decide +kernel
theorem d5 : decode yB 5 = .ok (.iload 4, 2) := by decide +kernel
theorem d7 : decode yB 7 = .ok (.if_icmp (.ge) 37, 3) := by decide +kernel
theorem d10 : decode yB 10 = .ok (.aload_n 0, 1) := by decide +kernel
theorem d11 : decode yB 11 = .ok (.iload_n 1, 1) := by decide +kernel
theorem d12 : decode yB 12 = .ok (.caload, 1) := by decide +kernel
theorem d13 : decode yB 13 = .ok (.istore 6, 2) := by decide +kernel
theorem d15 : decode yB 15 = .ok (.iload 6, 2) := by decide +kernel
theorem d17 : decode yB 17 = .ok (.sipush 255, 3) := by decide +kernel
theorem d20 : decode yB 20 = .ok (.if_icmp (.le) 6, 3) := by decide +kernel
theorem d26 : decode yB 26 = .ok (.aload_n 2, 1) := by decide +kernel
theorem d27 : decode yB 27 = .ok (.iload_n 3, 1) := by decide +kernel
theorem d28 : decode yB 28 = .ok (.iload 6, 2) := by decide +kernel
theorem d30 : decode yB 30 = .ok (.i2b, 1) := by decide +kernel
theorem d31 : decode yB 31 = .ok (.bastore, 1) := by decide +kernel
theorem d32 : decode yB 32 = .ok (.iinc 1 1, 3) := by decide +kernel
theorem d35 : decode yB 35 = .ok (.iinc 3 1, 3) := by decide +kernel
theorem d38 : decode yB 38 = .ok (.iinc 5 1, 3) := by decide +kernel
theorem d41 : decode yB 41 = .ok (.goto (-38), 3) := by decide +kernel
theorem d44 : decode yB 44 = .ok (.iload 4, 2) := by decide +kernel
theorem d46 : decode yB 46 = .ok (.ireturn, 1) := by decide +kernel
def site : List Cond := []
def tab : Cond := tabOf yN yB 7 (some .int) site
def P (b : Addr) (A : Cell) (d : Addr) (B : Cell) (o q len : Nat) (args : Array Value) (s : State) : Prop := args = #[.ref b, .int (Int32.ofNat o), .ref d, .int (Int32.ofNat q), .int (Int32.ofNat len)] ∧ Ch b A s ∧ Arr .byte d B s ∧ b ≠ d ∧ o + len ≤ A.slots.size ∧ q + len ≤ B.slots.size ∧ ∀ i, i < len → ¬ 255 < cv A (o + i)
def E (b : Addr) (A : Cell) (d : Addr) (B : Cell) (o q len : Nat) (r : Option Value) (s u : State) : Prop := r = some (.int (Int32.ofNat len)) ∧ ∃ B', Put d B' s u ∧ Laid B B' q (q + len) (fun j => Value.int (lo8 (cv A (o + (j - q)))))
/-- no char of the range above 255: len; the places written hold each char's low byte -/
theorem law (l : Launch) (b : Addr) (A : Cell) (d : Addr) (B : Cell) (o q len : Nat) : Law l yN 5 5 0 0 yB 7 (some .int) site (P b A d B o q len) (E b A d B o q len) (copyLocs d q len) 0 0 := by
  refine Law.of_walk (plainFor_of_name (by decide +kernel)) (by decide +kernel) (by decide +kernel) (by decide) (fun _ _ h => by rw [h.1]; rfl) (fun _ U U' hal hh h => ⟨h.1, h.2.1.mv hal hh, h.2.2.1.mv hal hh, h.2.2.2⟩) (fun r U U' V V' h1 hal h2 h => ⟨h.1, h.2.elim fun B' q => ⟨B', q.1.mv h1 h2, q.2⟩⟩) ?_
  intro p e s m args below meth c s₁ X0 hexec hbytes hml hret hlk hnm hown hh0 W hP
  obtain ⟨rfl, hA, hB, hne, l1, l2, hp⟩ := hP
  have c1 : Steps p.tables e below (s₁.setTop (entryFrame m #[.ref b, .int (Int32.ofNat o), .ref d, .int (Int32.ofNat q), .int (Int32.ofNat len)] 7)) (s₁.setTop (mkF m 0 #[.val (.ref b), .val (.int (Int32.ofNat o)), .val (.ref d), .val (.int (Int32.ofNat q)), .val (.int (Int32.ofNat len)), .unset, .unset] [])) := entry rfl
  have hA0 := hA.1.mv X0.warmed.alike hh0
  have hB0 := hB.mv X0.warmed.alike hh0
  have a31 := hA.1.2.2.2
  have c2 : Steps p.tables e below (s₁.setTop (entryFrame m #[.ref b, .int (Int32.ofNat o), .ref d, .int (Int32.ofNat q), .int (Int32.ofNat len)] 7)) (s₁.setTop (mkF m 3 #[.val (.ref b), .val (.int (Int32.ofNat o)), .val (.ref d), .val (.int (Int32.ofNat q)), .val (.int (Int32.ofNat len)), .val (.int 0), .unset] [])) := c1.trans (by
    refine iconstV X0.here hexec rfl 0 (hb hbytes d0) (by decide) ?_
    refine XS.istore X0.here hexec rfl (hb hbytes d1) rfl rfl ?_
    exact Steps.refl _)
  have loop : ∀ (r i : Nat), i + r = len → ∀ (z : Slot), (z = .unset ∨ ∃ w, z = .val w ∧ w.category = 1) → ∀ (Tl : State) (Bk : Cell), Stand p l e { frames := 0, locals := 0, cells := 0, slots := 0 } s m #[.ref b, .int (Int32.ofNat o), .ref d, .int (Int32.ofNat q), .int (Int32.ofNat len)] below meth c Tl ([] ++ copyLocs d q i) 0 0 → Put d Bk s₁ Tl → Laid B Bk q (q + i) (fun j => Value.int (lo8 (cv A (o + (j - q))))) →
      Steps p.tables e below (s₁.setTop (entryFrame m #[.ref b, .int (Int32.ofNat o), .ref d, .int (Int32.ofNat q), .int (Int32.ofNat len)] 7)) (Tl.setTop (mkF m 3 #[.val (.ref b), .val (.int (Int32.ofNat (o + i))), .val (.ref d), .val (.int (Int32.ofNat (q + i))), .val (.int (Int32.ofNat len)), .val (.int (Int32.ofNat i)), z] [])) → ∃ (T' : State) (B' : Cell) (z' : Slot), Stand p l e { frames := 0, locals := 0, cells := 0, slots := 0 } s m #[.ref b, .int (Int32.ofNat o), .ref d, .int (Int32.ofNat q), .int (Int32.ofNat len)] below meth c T' ([] ++ copyLocs d q len) 0 0 ∧ Put d B' s₁ T' ∧ Laid B B' q (q + len) (fun j => Value.int (lo8 (cv A (o + (j - q))))) ∧
      Steps p.tables e below (s₁.setTop (entryFrame m #[.ref b, .int (Int32.ofNat o), .ref d, .int (Int32.ofNat q), .int (Int32.ofNat len)] 7)) (T'.setTop (mkF m 3 #[.val (.ref b), .val (.int (Int32.ofNat (o + len))), .val (.ref d), .val (.int (Int32.ofNat (q + len))), .val (.int (Int32.ofNat len)), .val (.int (Int32.ofNat len)), z'] [])) := by
    intro r
    induction r with
    | zero =>
      intro i hi z hz Tl Bk Xl pl fl cl
      have hil : i = len := by omega
      rw [hil] at Xl fl cl
      exact ⟨Tl, Bk, z, Xl, pl, fl, cl⟩
    | succ r ih =>
      intro i hi z hz Tl Bk Xl pl fl cl
      have all := X0.warmed.alike.symm.trans Xl.warmed.alike
      have hAl := hA0.keep all (pl.other hne hA0.1)
      have hBk := hB0.like all pl.1 fl.1 fl.2.1 fl.2.2.1
      have hlt : q + i < Bk.slots.size := by rw [fl.2.2.1]; omega
      have c3 : Steps p.tables e below (s₁.setTop (entryFrame m #[.ref b, .int (Int32.ofNat o), .ref d, .int (Int32.ofNat q), .int (Int32.ofNat len)] 7)) (Tl.setTop (mkF m 12 #[.val (.ref b), .val (.int (Int32.ofNat (o + i))), .val (.ref d), .val (.int (Int32.ofNat (q + i))), .val (.int (Int32.ofNat len)), .val (.int (Int32.ofNat i)), z] [.int (Int32.ofNat (o + i)), .ref b])) := cl.trans (by
        refine XS.iload Xl.here hexec rfl (hb hbytes d3) rfl ?_
        refine XS.iload Xl.here hexec rfl (hb hbytes d5) rfl ?_
        refine XS.icmpNo Xl.here hexec rfl (hb hbytes d7) rfl (ii_ge_f (lt32 (by omega) (by omega))) ?_
        refine XS.aloadN Xl.here hexec rfl (hb hbytes d10) rfl rfl ?_
        refine XS.iloadN Xl.here hexec rfl (hb hbytes d11) rfl ?_
        exact Steps.refl _)
      have c4 : Steps p.tables e below (s₁.setTop (entryFrame m #[.ref b, .int (Int32.ofNat o), .ref d, .int (Int32.ofNat q), .int (Int32.ofNat len)] 7)) (Tl.setTop (mkF m 13 #[.val (.ref b), .val (.int (Int32.ofNat (o + i))), .val (.ref d), .val (.int (Int32.ofNat (q + i))), .val (.int (Int32.ofNat len)), .val (.int (Int32.ofNat i)), z] [.int (cv A (o + i))])) := c3.trans (by
        refine Xl.aget hexec hAl rfl (hA.get (i := o + i) (by omega)) rfl rfl (hb hbytes d12) ?_
        exact Steps.refl _)
      have c5 : Steps p.tables e below (s₁.setTop (entryFrame m #[.ref b, .int (Int32.ofNat o), .ref d, .int (Int32.ofNat q), .int (Int32.ofNat len)] 7)) (Tl.setTop (mkF m 15 #[.val (.ref b), .val (.int (Int32.ofNat (o + i))), .val (.ref d), .val (.int (Int32.ofNat (q + i))), .val (.int (Int32.ofNat len)), .val (.int (Int32.ofNat i)), .val (.int (cv A (o + i)))] [])) := c4.trans (by
        refine XS.istoreS Xl.here hexec rfl (hb hbytes d13) rfl rfl hz ?_
        exact Steps.refl _)
      have c6 : Steps p.tables e below (s₁.setTop (entryFrame m #[.ref b, .int (Int32.ofNat o), .ref d, .int (Int32.ofNat q), .int (Int32.ofNat len)] 7)) (Tl.setTop (mkF m 31 #[.val (.ref b), .val (.int (Int32.ofNat (o + i))), .val (.ref d), .val (.int (Int32.ofNat (q + i))), .val (.int (Int32.ofNat len)), .val (.int (Int32.ofNat i)), .val (.int (cv A (o + i)))] [.int (lo8 (cv A (o + i))), .int (Int32.ofNat (q + i)), .ref d])) := c5.trans (by
        refine XS.iload Xl.here hexec rfl (hb hbytes d15) rfl ?_
        refine sipushV Xl.here hexec rfl 255 (hb hbytes d17) (by decide) ?_
        refine XS.icmpYes Xl.here hexec rfl (pc0 := 20) rfl (hb hbytes d20) rfl (ii_le_t (hp i (by omega))) (by decide) rfl ?_
        refine XS.aloadN Xl.here hexec rfl (hb hbytes d26) rfl rfl ?_
        refine XS.iloadN Xl.here hexec rfl (hb hbytes d27) rfl ?_
        refine XS.iload Xl.here hexec rfl (hb hbytes d28) rfl ?_
        refine i2b Xl.here hexec rfl (hb hbytes d30) rfl ?_
        exact Steps.refl _)
      obtain ⟨T7, X7, p7, st7⟩ := Xl.aput hexec hBk rfl hlt rfl (fits_lo8 (cv A (o + i))) (g := (mkF m 31 #[.val (.ref b), .val (.int (Int32.ofNat (o + i))), .val (.ref d), .val (.int (Int32.ofNat (q + i))), .val (.int (Int32.ofNat len)), .val (.int (Int32.ofNat i)), .val (.int (cv A (o + i)))] [.int (lo8 (cv A (o + i))), .int (Int32.ofNat (q + i)), .ref d])) rfl (rest := []) rfl (hb hbytes d31)
      have c8 : Steps p.tables e below (s₁.setTop (entryFrame m #[.ref b, .int (Int32.ofNat o), .ref d, .int (Int32.ofNat q), .int (Int32.ofNat len)] 7)) (T7.setTop (mkF m 32 #[.val (.ref b), .val (.int (Int32.ofNat (o + i))), .val (.ref d), .val (.int (Int32.ofNat (q + i))), .val (.int (Int32.ofNat len)), .val (.int (Int32.ofNat i)), .val (.int (cv A (o + i)))] [])) := c6.trans (st7 _ (Steps.refl _))
      have c9 : Steps p.tables e below (s₁.setTop (entryFrame m #[.ref b, .int (Int32.ofNat o), .ref d, .int (Int32.ofNat q), .int (Int32.ofNat len)] 7)) (T7.setTop (mkF m 3 #[.val (.ref b), .val (.int (Int32.ofNat (o + i) + 1)), .val (.ref d), .val (.int (Int32.ofNat (q + i) + 1)), .val (.int (Int32.ofNat len)), .val (.int (Int32.ofNat i + 1)), .val (.int (cv A (o + i)))] [])) := c8.trans (by
        refine iincV X7.here hexec rfl 1 (hb hbytes d32) (by decide) rfl rfl ?_
        refine iincV X7.here hexec rfl 1 (hb hbytes d35) (by decide) rfl rfl ?_
        refine iincV X7.here hexec rfl 1 (hb hbytes d38) (by decide) rfl rfl ?_
        refine XS.goto X7.here hexec rfl (pc0 := 41) rfl (hb hbytes d41) (by decide) rfl ?_
        exact Steps.refl _)
      have c10 : Steps p.tables e below (s₁.setTop (entryFrame m #[.ref b, .int (Int32.ofNat o), .ref d, .int (Int32.ofNat q), .int (Int32.ofNat len)] 7)) (T7.setTop (mkF m 3 #[.val (.ref b), .val (.int (Int32.ofNat (o + (i + 1)))), .val (.ref d), .val (.int (Int32.ofNat (q + (i + 1)))), .val (.int (Int32.ofNat len)), .val (.int (Int32.ofNat (i + 1))), .val (.int (cv A (o + i)))] [])) := by
        have := c9
        rw [succ32, succ32, succ32] at this
        exact this
      exact ih (i + 1) (by omega) _ (Or.inr ⟨_, rfl, rfl⟩) T7 _ (by rw [copyLocs_step, ← List.append_assoc]; exact X7) (pl.trans p7) (fl.step (by omega) hlt (by simp)) c10
  obtain ⟨T9, B9, z9, X9, p9, f9, g9⟩ := loop len 0 (by omega) .unset (Or.inl rfl) s₁ B (by simpa [copyLocs] using X0) ⟨hB0.1, fun _ _ => rfl, rfl⟩ (Laid.zero _ _ _) c2
  have c11 : Steps p.tables e below (s₁.setTop (entryFrame m #[.ref b, .int (Int32.ofNat o), .ref d, .int (Int32.ofNat q), .int (Int32.ofNat len)] 7)) (T9.setTop (mkF m 46 #[.val (.ref b), .val (.int (Int32.ofNat (o + len))), .val (.ref d), .val (.int (Int32.ofNat (q + len))), .val (.int (Int32.ofNat len)), .val (.int (Int32.ofNat len)), z9] [.int (Int32.ofNat len)])) := g9.trans (by
    refine XS.iload X9.here hexec rfl (hb hbytes d3) rfl ?_
    refine XS.iload X9.here hexec rfl (hb hbytes d5) rfl ?_
    refine XS.icmpYes X9.here hexec rfl (pc0 := 7) rfl (hb hbytes d7) rfl (ii_ge_t (nlt32 (by omega) (Nat.le_refl _))) (by decide) rfl ?_
    refine XS.iload X9.here hexec rfl (hb hbytes d44) rfl ?_
    exact Steps.refl _)
  exact ⟨T9, some (.int (Int32.ofNat len)), _, _, _, X9, by simp, rfl, rfl, (fun h => by cases h), ⟨rfl, B9, p9.from hh0, f9⟩, fun fs hl => c11.trans (X9.ireturnOut hexec hret rfl (Or.inl rfl) (hb hbytes d46) hl)⟩
end Cmp5
namespace Cmp3
def yN : MethodName := ⟨"java/lang/StringUTF16", "compress", "([CII)[B"⟩
abbrev yB : ByteArray := jdk_52_method_16_code
theorem d0 : decode yB 0 = .ok (.iload_n 2, 1) := by decide +kernel
theorem d1 : decode yB 1 = .ok (.newarray .byte, 2) := by decide +kernel
theorem d3 : decode yB 3 = .ok (.astore_n 3, 1) := by decide +kernel
theorem d4 : decode yB 4 = .ok (.aload_n 0, 1) := by decide +kernel
theorem d5 : decode yB 5 = .ok (.iload_n 1, 1) := by decide +kernel
theorem d6 : decode yB 6 = .ok (.aload_n 3, 1) := by decide +kernel
theorem d7 : decode yB 7 = .ok (.iconst 0, 1) := by decide +kernel
theorem d8 : decode yB 8 = .ok (.iload_n 2, 1) := by decide +kernel
theorem d9 : decode yB 9 = .ok (.invokestatic 115, 3) := by decide +kernel
theorem d12 : decode yB 12 = .ok (.istore 4, 2) := by decide +kernel
theorem d14 : decode yB 14 = .ok (.iload 4, 2) := by decide +kernel
theorem d16 : decode yB 16 = .ok (.iload_n 2, 1) := by decide +kernel
theorem d17 : decode yB 17 = .ok (.if_icmp (.eq) 40, 3) := by decide +kernel
theorem d57 : decode yB 57 = .ok (.aload_n 3, 1) := by decide +kernel
theorem d58 : decode yB 58 = .ok (.areturn, 1) := by decide +kernel
def site : List Cond := [.arrayClass .byte, Cmp5.tab] ++ staticW U16 115 Cmp5.yN
def tab : Cond := tabOf yN yB 6 (some (.array .byte)) site
def P (b : Addr) (A : Cell) (o len : Nat) (args : Array Value) (s : State) : Prop := args = #[.ref b, .int (Int32.ofNat o), .int (Int32.ofNat len)] ∧ Ch b A s ∧ o + len ≤ A.slots.size ∧ len ≤ 536870912 ∧ ∀ i, i < len → ¬ 255 < cv A (o + i)
def E (b : Addr) (A : Cell) (o len : Nat) (r : Option Value) (s u : State) : Prop := NewArr .byte "[B" len (fun j => .int (lo8 (cv A (o + j)))) r s u ∧ u.heap.size = s.heap.size + 1
/-- no char of the range above 255: a new byte[] of their low bytes -/
theorem law (l : Launch) (b : Addr) (A : Cell) (o len : Nat) : Law l yN 3 3 1 18 yB 6 (some (.array .byte)) site (P b A o len) (E b A o len) [] 1 len := by
  refine Law.of_walk (plainFor_of_name (by decide +kernel)) (by decide +kernel) (by decide +kernel) (by decide) (fun _ _ h => by rw [h.1]; rfl) (fun _ U U' hal hh h => ⟨h.1, h.2.1.mv hal hh, h.2.2⟩) (fun r U U' V V' h1 hal h2 h => ⟨NewArr.mv r U U' V V' h1 hal h2 h.1, by rw [h1, h2]; exact h.2⟩) ?_
  intro p e s m args below meth c s₁ X0 hexec hbytes hml hret hlk hnm hown hh0 W hP
  obtain ⟨rfl, hA, l1, l2, hp⟩ := hP
  have a31 := hA.1.2.2.2
  have c1 : Steps p.tables e below (s₁.setTop (entryFrame m #[.ref b, .int (Int32.ofNat o), .int (Int32.ofNat len)] 6)) (s₁.setTop (mkF m 0 #[.val (.ref b), .val (.int (Int32.ofNat o)), .val (.int (Int32.ofNat len)), .unset, .unset, .unset] [])) := entry rfl
  have c2 : Steps p.tables e below (s₁.setTop (entryFrame m #[.ref b, .int (Int32.ofNat o), .int (Int32.ofNat len)] 6)) (s₁.setTop (mkF m 1 #[.val (.ref b), .val (.int (Int32.ofNat o)), .val (.int (Int32.ofNat len)), .unset, .unset, .unset] [.int (Int32.ofNat len)])) := c1.trans (by
    refine XS.iloadN X0.here hexec rfl (hb hbytes d0) rfl ?_
    exact Steps.refl _)
  obtain ⟨T3, B3, X3, ba3, bs3, bv3, bh3, bf3, st3⟩ := X0.anew hexec (atype := .byte) (wk W (.arrayClass .byte)) rfl (by show len * 1 ≤ _; omega) (by omega) (g := (mkF m 1 #[.val (.ref b), .val (.int (Int32.ofNat o)), .val (.int (Int32.ofNat len)), .unset, .unset, .unset] [.int (Int32.ofNat len)])) rfl (hb hbytes d1) (rest := []) rfl (Nat.le_refl _) (by show 0 + len ≤ len; omega)
  rw [hh0] at ba3 st3
  have kp3 : XT.Kept s T3 := (XT.Kept.of_eq hh0).push bh3
  have hA3 := hA.keep X3.warmed.alike (kp3 _ _ hA.1.1)
  have hne : b ≠ s.heap.size := hA.1.ne
  have c4 : Steps p.tables e below (s₁.setTop (entryFrame m #[.ref b, .int (Int32.ofNat o), .int (Int32.ofNat len)] 6)) (T3.setTop (mkF m 3 #[.val (.ref b), .val (.int (Int32.ofNat o)), .val (.int (Int32.ofNat len)), .unset, .unset, .unset] [.ref s.heap.size])) := c2.trans (st3 _ (Steps.refl _))
  have c5 : Steps p.tables e below (s₁.setTop (entryFrame m #[.ref b, .int (Int32.ofNat o), .int (Int32.ofNat len)] 6)) (T3.setTop (mkF m 9 #[.val (.ref b), .val (.int (Int32.ofNat o)), .val (.int (Int32.ofNat len)), .val (.ref s.heap.size), .unset, .unset] [.int (Int32.ofNat len), .int 0, .ref s.heap.size, .int (Int32.ofNat o), .ref b])) := c4.trans (by
    refine XS.astoreN X3.here hexec rfl (hb hbytes d3) rfl rfl rfl ?_
    refine XS.aloadN X3.here hexec rfl (hb hbytes d4) rfl rfl ?_
    refine XS.iloadN X3.here hexec rfl (hb hbytes d5) rfl ?_
    refine XS.aloadN X3.here hexec rfl (hb hbytes d6) rfl rfl ?_
    refine iconstV X3.here hexec rfl 0 (hb hbytes d7) (by decide) ?_
    refine XS.iloadN X3.here hexec rfl (hb hbytes d8) rfl ?_
    exact Steps.refl _)
  obtain ⟨v6, T6, X6, E6, g6⟩ := X3.callS hexec (Cmp5.law l b A s.heap.size B3 o 0 len) hown (wks W (staticW U16 115 Cmp5.yN)) (wk W Cmp5.tab) (W := 0) (Nat.le_of_ble_eq_true rfl) (Nat.le_of_ble_eq_true rfl) (Nat.le_refl _) (by show 0 + len + 0 ≤ len; omega) (g := (mkF m 9 #[.val (.ref b), .val (.int (Int32.ofNat o)), .val (.int (Int32.ofNat len)), .val (.ref s.heap.size), .unset, .unset] [.int (Int32.ofNat len), .int (Int32.ofNat 0), .ref s.heap.size, .int (Int32.ofNat o), .ref b])) rfl (by rw [hml]; rfl) c5 (argsL := [.ref b, .int (Int32.ofNat o), .ref s.heap.size, .int (Int32.ofNat 0), .int (Int32.ofNat len)]) (rest := []) rfl rfl (by show 2 * 0 + 0 ≤ _; decide) (hb hbytes d9) (⟨rfl, hA3, ba3, hne, l1, by rw [bs3]; simp, hp⟩)
  obtain ⟨rfl, B6, p6, f6⟩ := E6
  have c7 : Steps p.tables e below (s₁.setTop (entryFrame m #[.ref b, .int (Int32.ofNat o), .int (Int32.ofNat len)] 6)) (T6.setTop (mkF m 12 #[.val (.ref b), .val (.int (Int32.ofNat o)), .val (.int (Int32.ofNat len)), .val (.ref s.heap.size), .unset, .unset] [.int (Int32.ofNat len)])) := g6
  have c8 : Steps p.tables e below (s₁.setTop (entryFrame m #[.ref b, .int (Int32.ofNat o), .int (Int32.ofNat len)] 6)) (T6.setTop (mkF m 58 #[.val (.ref b), .val (.int (Int32.ofNat o)), .val (.int (Int32.ofNat len)), .val (.ref s.heap.size), .val (.int (Int32.ofNat len)), .unset] [.ref s.heap.size])) := c7.trans (by
    refine XS.istore X6.here hexec rfl (hb hbytes d12) rfl rfl ?_
    refine XS.iload X6.here hexec rfl (hb hbytes d14) rfl ?_
    refine XS.iloadN X6.here hexec rfl (hb hbytes d16) rfl ?_
    refine XS.icmpYes X6.here hexec rfl (pc0 := 17) rfl (hb hbytes d17) rfl (ii_eq_t rfl) (by decide) rfl ?_
    refine XS.aloadN X6.here hexec rfl (hb hbytes d57) rfl rfl ?_
    exact Steps.refl _)
  have X8 := X6.wide (L' := []) (cells' := 1) (slots' := len) (fun x hx hlt => by
    simp only [List.nil_append, copyLocs, List.mem_map, List.mem_range] at hx
    obtain ⟨i, -, rfl⟩ := hx
    exact absurd hlt (Nat.lt_irrefl _)) (Nat.le_refl _) (by omega)
  exact ⟨T6, some (.ref s.heap.size), _, _, _, X8, rfl, rfl, rfl, (fun h => by cases h), ⟨⟨rfl, B6, ba3.like (X3.warmed.alike.symm.trans X6.warmed.alike) p6.1 f6.1 f6.2.1 f6.2.2.1, f6.2.1.trans bv3, by rw [X6.warmed.alike.findClass, f6.1]; exact bf3, by rw [f6.2.2.1, bs3]; simp, fun j hj => by rw [f6.2.2.2 j, if_pos (by omega)]; rfl, kp3.put p6 (Nat.le_refl _)⟩, by rw [p6.2.2, bh3, hh0]; simp⟩, fun fs hl => c8.trans (X8.areturnOut hexec rfl hret rfl (hb hbytes d58) hl)⟩
end Cmp3
namespace CodL
def yN : MethodName := ⟨"java/lang/StringUTF16", "coderFromArrayLen", "([BI)B"⟩
abbrev yB : ByteArray := jdk_52_method_15_code
theorem d0 : decode yB 0 = .ok (.iload_n 1, 1) := by decide +kernel
theorem d1 : decode yB 1 = .ok (.aload_n 0, 1) := by decide +kernel
theorem d2 : decode yB 2 = .ok (.arraylength, 1) := by decide +kernel
theorem d3 : decode yB 3 = .ok (.isub, 1) := by decide +kernel
theorem d4 : decode yB 4 = .ok (.bipush 31, 2) := by decide +kernel
theorem d6 : decode yB 6 = .ok (.iushr, 1) := by decide +kernel
theorem d7 : decode yB 7 = .ok (.i2b, 1) := by decide +kernel
theorem d8 : decode yB 8 = .ok (.ireturn, 1) := by decide +kernel
def site : List Cond := []
def tab : Cond := tabOf yN yB 2 (some .byte) site
def P (d : Addr) (B : Cell) (args : Array Value) (s : State) : Prop := args = #[.ref d, .int (Int32.ofNat B.slots.size)] ∧ Arr .byte d B s
def E (r : Option Value) (s u : State) : Prop := XT.PureE (some (.int 0)) r s u
/-- an array as long as the number of chars: LATIN1 -/
theorem law (l : Launch) (d : Addr) (B : Cell) : Law l yN 2 2 0 0 yB 2 (some .byte) site (P d B) E [] 0 0 := by
  refine Law.of_walk (plainFor_of_name (by decide +kernel)) (by decide +kernel) (by decide +kernel) (by decide) (fun _ _ h => by rw [h.1]; rfl) (fun _ U U' hal hh h => ⟨h.1, h.2.mv hal hh⟩) (fun r U U' V V' h1 hal h2 h => XT.PureE.mv r U U' V V' h1 hal h2 h) ?_
  intro p e s m args below meth c s₁ X0 hexec hbytes hml hret hlk hnm hown hh0 W hP
  obtain ⟨rfl, hB⟩ := hP
  have hB0 := hB.mv X0.warmed.alike hh0
  have c1 : Steps p.tables e below (s₁.setTop (entryFrame m #[.ref d, .int (Int32.ofNat B.slots.size)] 2)) (s₁.setTop (mkF m 0 #[.val (.ref d), .val (.int (Int32.ofNat B.slots.size))] [])) := entry rfl
  have c2 : Steps p.tables e below (s₁.setTop (entryFrame m #[.ref d, .int (Int32.ofNat B.slots.size)] 2)) (s₁.setTop (mkF m 2 #[.val (.ref d), .val (.int (Int32.ofNat B.slots.size))] [.ref d, .int (Int32.ofNat B.slots.size)])) := c1.trans (by
    refine XS.iloadN X0.here hexec rfl (hb hbytes d0) rfl ?_
    refine XS.aloadN X0.here hexec rfl (hb hbytes d1) rfl rfl ?_
    exact Steps.refl _)
  have c3 : Steps p.tables e below (s₁.setTop (entryFrame m #[.ref d, .int (Int32.ofNat B.slots.size)] 2)) (s₁.setTop (mkF m 8 #[.val (.ref d), .val (.int (Int32.ofNat B.slots.size))] [.int (lo8 (ushr (Int32.ofNat B.slots.size - Int32.ofNat B.slots.size) 31))])) := c2.trans (by
    refine X0.alen hexec hB0 rfl rfl (hb hbytes d2) ?_
    refine XS.isub X0.here hexec rfl (hb hbytes d3) rfl ?_
    refine bipushV X0.here hexec rfl 31 (hb hbytes d4) (by decide) ?_
    refine iushr X0.here hexec rfl (hb hbytes d6) rfl ?_
    refine i2b X0.here hexec rfl (hb hbytes d7) rfl ?_
    exact Steps.refl _)
  have e0 : lo8 (ushr (Int32.ofNat B.slots.size - Int32.ofNat B.slots.size) 31) = 0 := by rw [Int32.sub_self]; decide
  rw [e0] at c3
  exact ⟨s₁, some (.int 0), _, _, _, X0, rfl, rfl, rfl, (fun h => by cases h), ⟨rfl, hh0⟩, fun fs hl => c3.trans (X0.ireturnOut hexec hret rfl (Or.inr (Or.inr (Or.inl rfl))) (hb hbytes d8) hl)⟩
end CodL
/-- the String at a is Latin-1 over a new byte[] (the heap's one new cell): the low bytes of the len chars of A from o on; every cell but a is kept -/
def Got (a : Addr) (D : Cell) (fV fC : Field) (A : Cell) (o len : Nat) (r : Option Value) (s u : State) : Prop := r = none ∧ ∃ D' V : Cell, Blank "java/lang/String" a D' u ∧ Same D D' [fV.slot, fC.slot] ∧ D'.slots[fV.slot]? = some (.ref s.heap.size) ∧ D'.slots[fC.slot]? = some (.int 0) ∧ Arr .byte s.heap.size V u ∧ V.vm = .none ∧ u.vm.findClass "[B" = some V.cls ∧ V.slots.size = len ∧ (∀ j, j < len → V.slots[j]? = some (.int (lo8 (cv A (o + j))))) ∧ (∀ (y : Addr) (c : Cell), y ≠ a → s.heap[y]? = some c → u.heap[y]? = some c) ∧ u.heap.size = s.heap.size + 1
theorem Got.mv {a : Addr} {D A : Cell} {fV fC : Field} {o len : Nat} : ∀ r (U U' V V' : State), U'.heap = U.heap → V.vm.Alike V'.vm → V'.heap = V.heap → Got a D fV fC A o len r U V → Got a D fV fC A o len r U' V' :=
  fun r U U' V V' h1 hal h2 ⟨e0, D', X, a1, a2, a3, a4, a5, a6, a7, a8, a9, a10, a11⟩ => ⟨e0, D', X, a1.mv hal h2, a2, by rw [h1]; exact a3, a4, by rw [h1]; exact a5.mv hal h2, a6, by rw [hal.findClass]; exact a7, a8, a9, by rw [h1, h2]; exact a10, by rw [h1, h2]; exact a11⟩
namespace New4
def yN : MethodName := ⟨"java/lang/String", "<init>", "([CIILjava/lang/Void;)V"⟩
abbrev yB : ByteArray := jdk_42_method_149_code
theorem d0 : decode yB 0 = .ok (.aload_n 0, 1) := by decide +kernel
theorem d1 : decode yB 1 = .ok (.invokespecial 1, 3) := by decide +kernel
theorem d4 : decode yB 4 = .ok (.iload_n 3, 1) := by decide +kernel
theorem d5 : decode yB 5 = .ok (.ifCond (.ne) 22, 3) := by decide +kernel
theorem d27 : decode yB 27 = .ok (.getstatic 38, 3) := by decide +kernel
theorem d30 : decode yB 30 = .ok (.ifCond (.eq) 28, 3) := by decide +kernel
theorem d33 : decode yB 33 = .ok (.aload_n 1, 1) := by decide +kernel
theorem d34 : decode yB 34 = .ok (.iload_n 2, 1) := by decide +kernel
theorem d35 : decode yB 35 = .ok (.iload_n 3, 1) := by decide +kernel
theorem d36 : decode yB 36 = .ok (.invokestatic 177, 3) := by decide +kernel
theorem d39 : decode yB 39 = .ok (.astore 5, 2) := by decide +kernel
theorem d41 : decode yB 41 = .ok (.aload_n 0, 1) := by decide +kernel
theorem d42 : decode yB 42 = .ok (.aload 5, 2) := by decide +kernel
theorem d44 : decode yB 44 = .ok (.iload_n 3, 1) := by decide +kernel
theorem d45 : decode yB 45 = .ok (.invokestatic 47, 3) := by decide +kernel
theorem d48 : decode yB 48 = .ok (.putfield 15, 3) := by decide +kernel
theorem d51 : decode yB 51 = .ok (.aload_n 0, 1) := by decide +kernel
theorem d52 : decode yB 52 = .ok (.aload 5, 2) := by decide +kernel
theorem d54 : decode yB 54 = .ok (.putfield 9, 3) := by decide +kernel
theorem d57 : decode yB 57 = .ok (.return_, 1) := by decide +kernel
def site : List Cond := [.fieldLink "java/lang/String" 38 "java/lang/String" "COMPACT_STRINGS" "Z", Cmp3.tab, CodL.tab, .laysFinal "java/lang/String" "java/lang/String" "value" "[B", .fieldLink "java/lang/String" 9 "java/lang/String" "value" "[B", .laysFinal "java/lang/String" "java/lang/String" "coder" "B", .fieldLink "java/lang/String" 15 "java/lang/String" "coder" "B"] ++ objW "java/lang/String" 1 ++ staticW "java/lang/String" 177 Cmp3.yN ++ staticW "java/lang/String" 47 CodL.yN
def tab : Cond := tabOf yN yB 6 none site
def P (a : Addr) (D : Cell) (fV fC : Field) (b : Addr) (A : Cell) (z : Int32) (o len : Nat) (args : Array Value) (s : State) : Prop := args = #[.ref a, .ref b, .int (Int32.ofNat o), .int (Int32.ofNat len), .null] ∧ Blank "java/lang/String" a D s ∧ Found "java/lang/String" "value" "[B" fV s ∧ Found "java/lang/String" "coder" "B" fC s ∧ Ch b A s ∧ StaticIs s "java/lang/String" "COMPACT_STRINGS" "Z" (.int z) ∧ ¬ z = 0 ∧ 0 < len ∧ o + len ≤ A.slots.size ∧ len ≤ 536870912 ∧ ∀ i, i < len → ¬ 255 < cv A (o + i)
def E (a : Addr) (D : Cell) (fV fC : Field) (A : Cell) (o len : Nat) (r : Option Value) (s u : State) : Prop := Got a D fV fC A o len r s u
/-- len > 0, no char of the range above 255: a Latin-1 String of their low bytes -/
theorem law (l : Launch) (a : Addr) (D : Cell) (fV fC : Field) (b : Addr) (A : Cell) (z : Int32) (o len : Nat) : Law l yN 5 4 2 35 yB 6 none site (P a D fV fC b A z o len) (E a D fV fC A o len) [⟨a, fC.slot⟩, ⟨a, fV.slot⟩] 1 len := by
  refine Law.of_walk (plainFor_of_name (by decide +kernel)) (by decide +kernel) (by decide +kernel) (by decide) (fun _ _ h => by rw [h.1]; rfl) (fun _ U U' hal hh h => ⟨h.1, h.2.1.mv hal hh, h.2.2.1.al hal, h.2.2.2.1.al hal, h.2.2.2.2.1.mv hal hh, h.2.2.2.2.2.1.there hal hh, h.2.2.2.2.2.2⟩) (fun r U U' V V' h1 hal h2 h => Got.mv r U U' V V' h1 hal h2 h) ?_
  intro p e s m args below meth c s₁ X0 hexec hbytes hml hret hlk hnm hown hh0 W hP
  obtain ⟨rfl, hB, f1, f2, hA, s1, hz, l0, l1, l2, hp⟩ := hP
  have a31 := hA.1.2.2.2
  have c1 : Steps p.tables e below (s₁.setTop (entryFrame m #[.ref a, .ref b, .int (Int32.ofNat o), .int (Int32.ofNat len), .null] 6)) (s₁.setTop (mkF m 0 #[.val (.ref a), .val (.ref b), .val (.int (Int32.ofNat o)), .val (.int (Int32.ofNat len)), .val .null, .unset] [])) := entry rfl
  have c2 : Steps p.tables e below (s₁.setTop (entryFrame m #[.ref a, .ref b, .int (Int32.ofNat o), .int (Int32.ofNat len), .null] 6)) (s₁.setTop (mkF m 1 #[.val (.ref a), .val (.ref b), .val (.int (Int32.ofNat o)), .val (.int (Int32.ofNat len)), .val .null, .unset] [.ref a])) := c1.trans (by
    refine XS.aloadN X0.here hexec rfl (hb hbytes d0) rfl rfl ?_
    exact Steps.refl _)
  obtain ⟨T3, X3, q3, st3⟩ := X0.oinit hexec hown (wks W (objW "java/lang/String" 1)) (g := (mkF m 1 #[.val (.ref a), .val (.ref b), .val (.int (Int32.ofNat o)), .val (.int (Int32.ofNat len)), .val .null, .unset] [.ref a])) rfl (by rw [hml]; rfl) (rest := []) rfl (hb hbytes d1) (W := 0) (by show 2 * 0 + 0 ≤ _; decide) (Nat.le_of_ble_eq_true rfl) (Nat.le_of_ble_eq_true rfl)
  have hh3 := q3.trans hh0
  have c4 : Steps p.tables e below (s₁.setTop (entryFrame m #[.ref a, .ref b, .int (Int32.ofNat o), .int (Int32.ofNat len), .null] 6)) (T3.setTop (mkF m 27 #[.val (.ref a), .val (.ref b), .val (.int (Int32.ofNat o)), .val (.int (Int32.ofNat len)), .val .null, .unset] [])) := (c2.trans (st3 _ (Steps.refl _))).trans (by
    refine XS.iloadN X3.here hexec rfl (hb hbytes d4) rfl ?_
    refine XS.ifYes X3.here hexec rfl (pc0 := 5) rfl (hb hbytes d5) rfl (i0_ne_t (nz32 (by omega) l0)) (by decide) rfl ?_
    exact Steps.refl _)
  obtain ⟨T5, X5, q5, st5⟩ := X3.sget hexec hown (wk W (.fieldLink "java/lang/String" 38 "java/lang/String" "COMPACT_STRINGS" "Z")) s1 (fun _ _ h => by rw [hh3]; exact h) (g := (mkF m 27 #[.val (.ref a), .val (.ref b), .val (.int (Int32.ofNat o)), .val (.int (Int32.ofNat len)), .val .null, .unset] [])) rfl (hb hbytes d27)
  have hh5 := q5.trans hh3
  have c6 : Steps p.tables e below (s₁.setTop (entryFrame m #[.ref a, .ref b, .int (Int32.ofNat o), .int (Int32.ofNat len), .null] 6)) (T5.setTop (mkF m 30 #[.val (.ref a), .val (.ref b), .val (.int (Int32.ofNat o)), .val (.int (Int32.ofNat len)), .val .null, .unset] [.int z])) := c4.trans (st5 _ (Steps.refl _))
  have c7 : Steps p.tables e below (s₁.setTop (entryFrame m #[.ref a, .ref b, .int (Int32.ofNat o), .int (Int32.ofNat len), .null] 6)) (T5.setTop (mkF m 36 #[.val (.ref a), .val (.ref b), .val (.int (Int32.ofNat o)), .val (.int (Int32.ofNat len)), .val .null, .unset] [.int (Int32.ofNat len), .int (Int32.ofNat o), .ref b])) := c6.trans (by
    refine XS.ifNo X5.here hexec rfl (hb hbytes d30) rfl (i0_eq_f hz) ?_
    refine XS.aloadN X5.here hexec rfl (hb hbytes d33) rfl rfl ?_
    refine XS.iloadN X5.here hexec rfl (hb hbytes d34) rfl ?_
    refine XS.iloadN X5.here hexec rfl (hb hbytes d35) rfl ?_
    exact Steps.refl _)
  obtain ⟨v8, T8, X8, E8, g8⟩ := X5.callS hexec (Cmp3.law l b A o len) hown (wks W (staticW "java/lang/String" 177 Cmp3.yN)) (wk W Cmp3.tab) (W := 0) (Nat.le_of_ble_eq_true rfl) (Nat.le_of_ble_eq_true rfl) (Nat.le_refl _) (by show 0 + len ≤ len; omega) (g := (mkF m 36 #[.val (.ref a), .val (.ref b), .val (.int (Int32.ofNat o)), .val (.int (Int32.ofNat len)), .val .null, .unset] [.int (Int32.ofNat len), .int (Int32.ofNat o), .ref b])) rfl (by rw [hml]; rfl) c7 (argsL := [.ref b, .int (Int32.ofNat o), .int (Int32.ofNat len)]) (rest := []) rfl rfl (by show 2 * 0 + 0 ≤ _; decide) (hb hbytes d36) (⟨rfl, hA.mv X5.warmed.alike hh5, l1, l2, hp⟩)
  obtain ⟨e8, z8⟩ := E8
  obtain ⟨rfl, N, n1, n2, n3, n4, n5, n6⟩ := NewArr.mv _ T5 s _ _ hh5.symm (Vm.Alike.refl _) rfl e8
  rw [hh5] at z8
  have hB1 := hB.keep X8.warmed.alike (n6 _ _ hB.1)
  have hne : s.heap.size ≠ a := (Nat.ne_of_lt (Array.getElem?_eq_some_iff.mp hB.1).1).symm
  have c9 : Steps p.tables e below (s₁.setTop (entryFrame m #[.ref a, .ref b, .int (Int32.ofNat o), .int (Int32.ofNat len), .null] 6)) (T8.setTop (mkF m 39 #[.val (.ref a), .val (.ref b), .val (.int (Int32.ofNat o)), .val (.int (Int32.ofNat len)), .val .null, .unset] [.ref s.heap.size])) := g8
  have c10 : Steps p.tables e below (s₁.setTop (entryFrame m #[.ref a, .ref b, .int (Int32.ofNat o), .int (Int32.ofNat len), .null] 6)) (T8.setTop (mkF m 45 #[.val (.ref a), .val (.ref b), .val (.int (Int32.ofNat o)), .val (.int (Int32.ofNat len)), .val .null, .val (.ref s.heap.size)] [.int (Int32.ofNat N.slots.size), .ref s.heap.size, .ref a])) := by
    have hc : Steps p.tables e below (s₁.setTop (entryFrame m #[.ref a, .ref b, .int (Int32.ofNat o), .int (Int32.ofNat len), .null] 6)) (T8.setTop (mkF m 45 #[.val (.ref a), .val (.ref b), .val (.int (Int32.ofNat o)), .val (.int (Int32.ofNat len)), .val .null, .val (.ref s.heap.size)] [.int (Int32.ofNat len), .ref s.heap.size, .ref a])) := c9.trans (by
      refine XS.astore X8.here hexec rfl (hb hbytes d39) rfl rfl rfl ?_
      refine XS.aloadN X8.here hexec rfl (hb hbytes d41) rfl rfl ?_
      refine XS.aload X8.here hexec rfl (hb hbytes d42) rfl rfl ?_
      refine XS.iloadN X8.here hexec rfl (hb hbytes d44) rfl ?_
      exact Steps.refl _)
    rw [n4]; exact hc
  obtain ⟨v11, T11, X11, E11, g11⟩ := X8.callS hexec (CodL.law l s.heap.size N) hown (wks W (staticW "java/lang/String" 47 CodL.yN)) (wk W CodL.tab) (W := 1) (Nat.le_of_ble_eq_true rfl) (Nat.le_of_ble_eq_true rfl) (Nat.le_refl _) (by show 0 + len + 0 ≤ len; omega) (g := (mkF m 45 #[.val (.ref a), .val (.ref b), .val (.int (Int32.ofNat o)), .val (.int (Int32.ofNat len)), .val .null, .val (.ref s.heap.size)] [.int (Int32.ofNat N.slots.size), .ref s.heap.size, .ref a])) rfl (by rw [hml]; rfl) c10 (argsL := [.ref s.heap.size, .int (Int32.ofNat N.slots.size)]) (rest := [.ref a]) rfl rfl (by show 2 * 0 + (1 + 0) ≤ _; decide) (hb hbytes d45) (⟨rfl, n1⟩)
  obtain ⟨rfl, q11⟩ := E11
  have hB11 := hB1.mv (X8.warmed.alike.symm.trans X11.warmed.alike) q11
  have c12 : Steps p.tables e below (s₁.setTop (entryFrame m #[.ref a, .ref b, .int (Int32.ofNat o), .int (Int32.ofNat len), .null] 6)) (T11.setTop (mkF m 48 #[.val (.ref a), .val (.ref b), .val (.int (Int32.ofNat o)), .val (.int (Int32.ofNat len)), .val .null, .val (.ref s.heap.size)] [.int 0, .ref a])) := g11
  obtain ⟨T13, X13, p13, bl13, sl13, st13⟩ := X11.finit hexec hown (wk W (.fieldLink "java/lang/String" 15 "java/lang/String" "coder" "B")) (Or.inr ⟨_, (wk W (.laysFinal "java/lang/String" "java/lang/String" "coder" "B"))⟩) (Or.inl ⟨rfl, hnm⟩) f2 (Or.inl rfl) hB11 (t := .byte) (by decide +kernel) rfl (g := (mkF m 48 #[.val (.ref a), .val (.ref b), .val (.int (Int32.ofNat o)), .val (.int (Int32.ofNat len)), .val .null, .val (.ref s.heap.size)] [.int 0, .ref a])) rfl (rest := []) rfl (hb hbytes d48)
  have c14 : Steps p.tables e below (s₁.setTop (entryFrame m #[.ref a, .ref b, .int (Int32.ofNat o), .int (Int32.ofNat len), .null] 6)) (T13.setTop (mkF m 54 #[.val (.ref a), .val (.ref b), .val (.int (Int32.ofNat o)), .val (.int (Int32.ofNat len)), .val .null, .val (.ref s.heap.size)] [.ref s.heap.size, .ref a])) := (c12.trans (st13 _ (Steps.refl _))).trans (by
    refine XS.aloadN X13.here hexec rfl (hb hbytes d51) rfl rfl ?_
    refine XS.aload X13.here hexec rfl (hb hbytes d52) rfl rfl ?_
    exact Steps.refl _)
  obtain ⟨T15, X15, p15, bl15, sl15, st15⟩ := X13.finit hexec hown (wk W (.fieldLink "java/lang/String" 9 "java/lang/String" "value" "[B")) (Or.inr ⟨_, (wk W (.laysFinal "java/lang/String" "java/lang/String" "value" "[B"))⟩) (Or.inl ⟨rfl, hnm⟩) f1 (Or.inl rfl) bl13 (t := (.array .byte)) (by decide +kernel) rfl (g := (mkF m 54 #[.val (.ref a), .val (.ref b), .val (.int (Int32.ofNat o)), .val (.int (Int32.ofNat len)), .val .null, .val (.ref s.heap.size)] [.ref s.heap.size, .ref a])) rfl (rest := []) rfl (hb hbytes d54)
  have c16 : Steps p.tables e below (s₁.setTop (entryFrame m #[.ref a, .ref b, .int (Int32.ofNat o), .int (Int32.ofNat len), .null] 6)) (T15.setTop (mkF m 57 #[.val (.ref a), .val (.ref b), .val (.int (Int32.ofNat o)), .val (.int (Int32.ofNat len)), .val .null, .val (.ref s.heap.size)] [])) := c14.trans (st15 _ (Steps.refl _))
  have ap := apart (Or.inr ⟨_, (wk W (.laysFinal "java/lang/String" "java/lang/String" "value" "[B"))⟩) (Or.inr ⟨_, (wk W (.laysFinal "java/lang/String" "java/lang/String" "coder" "B"))⟩) f1 f2 (t₁ := .array .byte) (t₂ := .byte) (by decide +kernel) (by decide +kernel) (by decide)
  have al := X8.warmed.alike.symm.trans X15.warmed.alike
  have n7 : T11.heap[s.heap.size]? = some N := by rw [q11]; exact n1.1
  exact ⟨T15, none, _, _, _, X15, by simp, rfl, by omega, (fun _ => rfl), ⟨rfl, _, N, bl15, ((Same.refl D _).set _ (by simp)).set _ (by simp), sl15, (Cell.slots_setSlot_ne _ ap).trans sl13, n1.keep al (p15.other hne (p13.other hne n7)), n2, by rw [al.findClass]; exact n3, n4, n5, fun y c h1 h2 => p15.other h1 (p13.other h1 (by rw [q11]; exact n6 y c h2)), by rw [p15.2.2, p13.2.2, q11]; exact z8⟩, fun fs hl => c16.trans (X15.returnOut hexec hret (hb hbytes d57) hl)⟩
end New4
namespace New1
def yN : MethodName := ⟨"java/lang/String", "<init>", "([C)V"⟩
abbrev yB : ByteArray := jdk_42_method_3_code
theorem d0 : decode yB 0 = .ok (.aload_n 0, 1) := by decide +kernel
theorem d1 : decode yB 1 = .ok (.aload_n 1, 1) := by decide +kernel
theorem d2 : decode yB 2 = .ok (.iconst 0, 1) := by decide +kernel
theorem d3 : decode yB 3 = .ok (.aload_n 1, 1) := by decide +kernel
theorem d4 : decode yB 4 = .ok (.arraylength, 1) := by decide +kernel
theorem d5 : decode yB 5 = .ok (.aconst_null, 1) := by decide +kernel
theorem d6 : decode yB 6 = .ok (.invokespecial 27, 3) := by decide +kernel
theorem d9 : decode yB 9 = .ok (.return_, 1) := by decide +kernel
def site : List Cond := [New4.tab] ++ initW "java/lang/String" 27 New4.yN
def tab : Cond := tabOf yN yB 2 none site
def P (a : Addr) (D : Cell) (fV fC : Field) (b : Addr) (A : Cell) (z : Int32) (args : Array Value) (s : State) : Prop := args = #[.ref a, .ref b] ∧ Blank "java/lang/String" a D s ∧ Found "java/lang/String" "value" "[B" fV s ∧ Found "java/lang/String" "coder" "B" fC s ∧ Ch b A s ∧ StaticIs s "java/lang/String" "COMPACT_STRINGS" "Z" (.int z) ∧ ¬ z = 0 ∧ 0 < A.slots.size ∧ A.slots.size ≤ 536870912 ∧ ∀ i, i < A.slots.size → ¬ 255 < cv A i
def E (a : Addr) (D : Cell) (fV fC : Field) (A : Cell) (r : Option Value) (s u : State) : Prop := Got a D fV fC A 0 A.slots.size r s u
/-- new String(chars), not empty, no char above 255: a Latin-1 String of their low bytes -/
theorem law (l : Launch) (a : Addr) (D : Cell) (fV fC : Field) (b : Addr) (A : Cell) (z : Int32) : Law l yN 2 1 3 52 yB 2 none site (P a D fV fC b A z) (E a D fV fC A) [⟨a, fC.slot⟩, ⟨a, fV.slot⟩] 1 A.slots.size := by
  refine Law.of_walk (plainFor_of_name (by decide +kernel)) (by decide +kernel) (by decide +kernel) (by decide) (fun _ _ h => by rw [h.1]; rfl) (fun _ U U' hal hh h => ⟨h.1, h.2.1.mv hal hh, h.2.2.1.al hal, h.2.2.2.1.al hal, h.2.2.2.2.1.mv hal hh, h.2.2.2.2.2.1.there hal hh, h.2.2.2.2.2.2⟩) (fun r U U' V V' h1 hal h2 h => Got.mv r U U' V V' h1 hal h2 h) ?_
  intro p e s m args below meth c s₁ X0 hexec hbytes hml hret hlk hnm hown hh0 W hP
  obtain ⟨rfl, hB, f1, f2, hA, s1, hz, l0, l2, hp⟩ := hP
  have c1 : Steps p.tables e below (s₁.setTop (entryFrame m #[.ref a, .ref b] 2)) (s₁.setTop (mkF m 0 #[.val (.ref a), .val (.ref b)] [])) := entry rfl
  have c2 : Steps p.tables e below (s₁.setTop (entryFrame m #[.ref a, .ref b] 2)) (s₁.setTop (mkF m 6 #[.val (.ref a), .val (.ref b)] [.null, .int (Int32.ofNat A.slots.size), .int 0, .ref b, .ref a])) := c1.trans (by
    refine XS.aloadN X0.here hexec rfl (hb hbytes d0) rfl rfl ?_
    refine XS.aloadN X0.here hexec rfl (hb hbytes d1) rfl rfl ?_
    refine iconstV X0.here hexec rfl 0 (hb hbytes d2) (by decide) ?_
    refine XS.aloadN X0.here hexec rfl (hb hbytes d3) rfl rfl ?_
    refine X0.alen hexec (hA.1.mv X0.warmed.alike hh0) rfl rfl (hb hbytes d4) ?_
    refine XS.aconstNull X0.here hexec rfl (hb hbytes d5) ?_
    exact Steps.refl _)
  obtain ⟨v3, T3, X3, E3, g3⟩ := X0.callN hexec (New4.law l a D fV fC b A z 0 A.slots.size) rfl hown (wks W (initW "java/lang/String" 27 New4.yN)) (W New4.tab (by simp only [site, List.mem_cons, List.mem_append, true_or, or_true])) (W := 0) (Nat.le_of_ble_eq_true rfl) (Nat.le_of_ble_eq_true rfl) (Nat.le_refl _) (by show 0 + A.slots.size ≤ A.slots.size; omega) (g := (mkF m 6 #[.val (.ref a), .val (.ref b)] [.null, .int (Int32.ofNat A.slots.size), .int (Int32.ofNat 0), .ref b, .ref a])) rfl (by rw [hml]; rfl) c2 (argsL := [.ref b, .int (Int32.ofNat 0), .int (Int32.ofNat A.slots.size), .null]) (rest := []) rfl rfl (by show 2 * 0 + 0 ≤ _; decide) (hb hbytes d6) (⟨rfl, hB.mv X0.warmed.alike hh0, f1.al X0.warmed.alike, f2.al X0.warmed.alike, hA.mv X0.warmed.alike hh0, s1.there X0.warmed.alike hh0, hz, l0, by omega, l2, fun i hi => by rw [Nat.zero_add]; exact hp i hi⟩)
  have e0 := Got.mv _ s₁ s _ _ hh0.symm (Vm.Alike.refl _) rfl E3
  obtain rfl := e0.1
  have c4 : Steps p.tables e below (s₁.setTop (entryFrame m #[.ref a, .ref b] 2)) (T3.setTop (mkF m 9 #[.val (.ref a), .val (.ref b)] [])) := g3
  exact ⟨T3, none, _, _, _, X3, by simp, rfl, by omega, (fun _ => rfl), e0, fun fs hl => c4.trans (X3.returnOut hexec hret (hb hbytes d9) hl)⟩
theorem pays {l : Launch} {R : Room} {p : Program} {e : Env} {below : List Frame} {s : State} {sargs : Array Value} {len W : Nat} (a : Addr) (D : Cell) (fV fC : Field) (b : Addr) (A : Cell) (z : Int32) (htab : tab.before sargs s = true) (hfr : 4 ≤ R.frames) (hlo : W + 65 ≤ R.locals) :
    Back l R p e below s sargs yN len W (fun A₁ a₁ => A₁.cells + 1 ≤ R.cells ∧ A₁.slots + A.slots.size ≤ R.slots ∧ P a D fV fC b A z a₁ A₁.U) (fun A₁ _ v₁ B₁ => E a D fV fC A v₁ A₁.U B₁.U ∧ B₁.locs = A₁.locs ++ [⟨a, fC.slot⟩, ⟨a, fV.slot⟩] ∧ B₁.cells = A₁.cells + 1 ∧ B₁.slots = A₁.slots + A.slots.size) :=
  (law l a D fV fC b A z).pays htab hfr (by omega)
end New1
end StrChars
namespace StrChars.Road
open Jvm Sem ClassFile Op Lib Jvm.Stand Jvm.Free Jvm.Free.XT
open Jvm.Lib.Cold (StaticIs)
abbrev ST : String := "java/lang/String"
/-- every table word that New1's law asks, flat -/
abbrev words : List Jvm.Cond := [.code New1.yN New1.yB 2 none, .initialized ST, .methodLink ST 27 New4.yN, .instanceMethod New4.yN,
  .code New4.yN New4.yB 6 none, .fieldLink ST 38 ST "COMPACT_STRINGS" "Z", .laysFinal ST ST "value" "[B", .fieldLink ST 9 ST "value" "[B", .laysFinal ST ST "coder" "B", .fieldLink ST 15 ST "coder" "B",
  .methodLink ST 1 Lib.objectInit, .instanceMethod Lib.objectInit, .code Lib.objectInit ⟨#[0xb1]⟩ 1 none, .methodLink ST 177 Cmp3.yN, .static Cmp3.yN, .methodLink ST 47 CodL.yN, .static CodL.yN,
  .code Cmp3.yN Cmp3.yB 6 (some (.array .byte)), .initialized U16, .arrayClass .byte, .methodLink U16 115 Cmp5.yN, .static Cmp5.yN, .code Cmp5.yN Cmp5.yB 7 (some .int), .code CodL.yN CodL.yB 2 (some .byte)]
theorem tab_of {a : Array Value} {s : State} (h : ∀ w ∈ words, w.before a s = true) : New1.tab.before a s = true := by
  have h5 : Cmp5.tab.before a s = true := unparts (wk h (.code Cmp5.yN Cmp5.yB 7 (some .int))) (wks h (.initialized Cmp5.yN.cls :: Cmp5.site))
  have hc : CodL.tab.before a s = true := unparts (wk h (.code CodL.yN CodL.yB 2 (some .byte))) (wks h (.initialized CodL.yN.cls :: CodL.site))
  have q5 : ∀ w ∈ Cmp5.tab :: words, w.before a s = true := fun w hw => (List.mem_cons.mp hw).elim (fun e => e ▸ h5) (h w)
  have h3 : Cmp3.tab.before a s = true := unparts (wk q5 (.code Cmp3.yN Cmp3.yB 6 (some (.array .byte)))) (wks q5 (.initialized Cmp3.yN.cls :: Cmp3.site))
  have q3 : ∀ w ∈ Cmp3.tab :: CodL.tab :: words, w.before a s = true := fun w hw => (List.mem_cons.mp hw).elim (fun e => e ▸ h3) fun hw => (List.mem_cons.mp hw).elim (fun e => e ▸ hc) (h w)
  have h4 : New4.tab.before a s = true := unparts (wk q3 (.code New4.yN New4.yB 6 none)) (wks q3 (.initialized New4.yN.cls :: New4.site))
  have q4 : ∀ w ∈ New4.tab :: words, w.before a s = true := fun w hw => (List.mem_cons.mp hw).elim (fun e => e ▸ h4) (h w)
  exact unparts (wk q4 (.code New1.yN New1.yB 2 none)) (wks q4 (.initialized New1.yN.cls :: New1.site))
/-- the words ride from the start Z to the walk's own state -/
theorem moved {Z s : State} {a0 args : Array Value} (hZ : Z.Warmed39 s.vm) (hw : ∀ d ∈ words, d.before a0 Z = true) : ∀ d ∈ words, d.before args s = true := fun d hd => by
  have q := hw d hd
  have t : ∀ d ∈ words, d = .arrayClass .byte ∨ (d.onTables && d.keepsFace) = true := by decide +kernel
  rcases t d hd with rfl | t
  · exact RoadKit.mvA hZ q
  · exact RoadKit.mv hZ q t
/-- WHAT COMES BACK, over the tables of the start Z: h the heap at the call, h' behind it -/
def Q (Z : State) (x : Addr) (A : Cell) (h : Heap) (v : Option Value) (h' : Heap) (L : List Loc) : Prop := v = none ∧ (∀ y ∈ L, y.base = x) ∧ RoadKit.Keep h h' [x] ∧ h'.size = h.size + 1 ∧ RoadKit.Exa Z h' x ST ∧ RoadKit.Fld Z h' x ST "value" "[B" (.ref h.size) ∧ RoadKit.Fld Z h' x ST "coder" "B" (.int 0) ∧
  (∃ V : Cell, RoadKit.Arr Z h' h.size V .byte ∧ V.vm = .none ∧ Z.vm.findClass "[B" = some V.cls ∧ V.slots.size = A.slots.size ∧ ∀ j, j < A.slots.size → V.slots[j]? = some (.int (lo8 (cv A j)))) ∧
  ∀ (O n d : String) (w : Value), RoadKit.Fld Z h x O n d w → RoadKit.slotOf Z O n d ≠ RoadKit.slotOf Z ST "value" "[B" → RoadKit.slotOf Z O n d ≠ RoadKit.slotOf Z ST "coder" "B" → RoadKit.Fld Z h' x O n d w
/-- **new String(chars) AT A CALL, IN THE ROAD'S FORM**: for specialBack behind newO: x the fresh String, b the char[] with the cell A -/
theorem back {p : Program} {l : Launch} {e : Env} {R : Room} {s : State} {args : Array Value} {below : List Frame} {len W : Nat} {Z : State} {a0 : Array Value} {h : Heap} (hZ : Z.Warmed39 s.vm) (hw : ∀ d ∈ words, d.before a0 Z = true) {kI : Nat} (wi : (Jvm.Cond.instantiable ST kI).before a0 Z = true)
    {x b : Addr} {A : Cell} {z : Int32} {v0 c0 : Value} (E : RoadKit.Exa Z h x ST) (V : RoadKit.Fld Z h x ST "value" "[B" v0) (C : RoadKit.Fld Z h x ST "coder" "B" c0) (K : RoadKit.Arr Z h b A .char) (hty : Typed .char A) (S : RoadKit.Sta Z h ST "COMPACT_STRINGS" "Z" (.int z)) (hz : ¬ z = 0)
    (l0 : 0 < A.slots.size) (l2 : A.slots.size ≤ 536870912) (hp : ∀ i, i < A.slots.size → ¬ 255 < cv A i) (hfr : 4 ≤ R.frames) (hlo : W + 65 ≤ R.locals) :
    Back l R p e below s args New1.yN len W (fun P a => a = #[.ref x, .ref b] ∧ P.U.heap = h ∧ P.cells + 1 ≤ R.cells ∧ P.slots + A.slots.size ≤ R.slots)
      (fun P _ v B => ∃ L, Q Z x A h v B.U.heap L ∧ B.locs = P.locs ++ L ∧ B.cells = P.cells + 1 ∧ B.slots = P.slots + A.slots.size) := by
  intro m meth c P g ig mk a X hg hsize hdg hW hn hp'
  obtain ⟨rfl, rfl, r1, r2⟩ := hp'
  have al : Z.vm.Alike P.U.vm := hZ.alike.trans X.warmed.alike
  obtain ⟨D, cfV, kV, iV, fV, hD, gV, stV, knV, obV, asV, slV⟩ := id V
  obtain ⟨D', cfC, kC, iC, fC, hD', gC, stC, -, -, asC, slC⟩ := id C
  cases hD.symm.trans hD'
  obtain ⟨D2, kD, e1, e2, e3, e4, e5⟩ := id E
  cases hD.symm.trans e1
  obtain ⟨c2, k2, i1, i2, i3, -⟩ := Cond.instantiable_spec wi
  cases e2.symm.trans i1
  cases e3.symm.trans i2
  obtain ⟨kU, u1, u2⟩ := al.2.2 _ _ e3
  have hB : Blank ST x D P.U := ⟨hD, ⟨knV, fun q hq => by rw [hq] at obV; cases obV⟩, by rw [al.findClass]; exact e2, kU, u1, by rw [u2]; exact i3, by rw [u2]; exact e5 i3⟩
  have F1 : Found ST "value" "[B" fV P.U := ⟨SBG.found_only al ⟨cfV, kV, iV, gV⟩, stV⟩
  have F2 : Found ST "coder" "B" fC P.U := ⟨SBG.found_only al ⟨cfC, kC, iC, gC⟩, stC⟩
  have hA : Ch b A P.U := ⟨⟨K.1, State.isArrayOf_alike al K.2.1, K.2.2, by omega⟩, hty⟩
  have hS : StaticIs P.U ST "COMPACT_STRINGS" "Z" (.int z) := by
    obtain ⟨cfS, iS, kS, fS, st, cS, t1, t2, t3, t4, t5, t6, t7⟩ := S
    exact StaticIs.there (s := { Z with heap := P.U.heap }) ⟨cfS, iS, kS, fS, st, cS, t1, t2, t3, t4, t5, (fun q => by rw [q] at t6; cases t6), t7⟩ al rfl
  obtain ⟨v, B, X', ⟨⟨hv, E', V', q1, q2, q3, q4, q5, q6, q7, q8, q9, q10, q11⟩, hl, hc, hs⟩, st⟩ := New1.pays x D fV fC b A z (tab_of (moved hZ hw)) hfr hlo m meth c P g ig mk _ X hg hsize hdg hW hn ⟨r1, r2, rfl, hB, F1, F2, hA, hS, hz, l0, l2, hp⟩
  have al' : Z.vm.Alike B.U.vm := hZ.alike.trans X'.warmed.alike
  have hsz : E'.slots.size = D.slots.size := by
    obtain ⟨-, -, -, kB, w1, w2, w3⟩ := q1
    obtain ⟨kB', y1, y2⟩ := al'.2.2 _ _ e3
    rw [q2.2.1] at w1
    cases w1.symm.trans y1
    rw [w3, e5 i3, y2]
  refine ⟨v, B, X', ⟨_, ⟨hv, ?_, ⟨by omega, fun y cy hy hn' => q10 y cy (by simpa using hn') hy, fun y cy hy => ?_⟩, q11, ⟨E', _, q1.1, by rw [q2.2.1]; exact e2, by rw [q2.2.1]; exact e3, by rw [q2.1]; exact obV, fun _ => by rw [hsz]; exact e5 i3⟩,
    ⟨E', cfV, kV, iV, fV, q1.1, gV, stV, by rw [q2.1]; exact knV, by rw [q2.1]; exact obV, by rw [q2.2.1]; exact asV, q3⟩, ⟨E', cfC, kC, iC, fC, q1.1, gC, stC, by rw [q2.1]; exact knV, by rw [q2.1]; exact obV, by rw [q2.2.1]; exact asC, q4⟩,
    ⟨V', ⟨q5.1, State.isArrayOf_alike al'.symm q5.2.1, q5.2.2.1⟩, q6, by rw [← al'.findClass]; exact q7, q8, fun j hj => by have := q9 j hj; rwa [Nat.zero_add] at this⟩, fun O n d w F n1 n2 => ?_⟩, hl, hc, hs⟩, st⟩
  · intro y hy
    simp only [List.mem_cons, List.not_mem_nil, or_false] at hy
    rcases hy with rfl | rfl <;> rfl
  · by_cases q : y = x
    · subst q
      cases hD.symm.trans hy
      exact ⟨E', q1.1, q2.2.1, q2.1, hsz⟩
    · exact ⟨cy, q10 y cy q hy, rfl, rfl, rfl⟩
  · obtain ⟨D3, cf, k, i, f, g1, g2, g3, g4, g5, g6, g7⟩ := F
    cases hD.symm.trans g1
    simp only [RoadKit.slotOf, g2, gV, gC, Option.map_some, Option.getD_some] at n1 n2
    exact ⟨E', cf, k, i, f, q1.1, g2, g3, by rw [q2.1]; exact g4, by rw [q2.1]; exact g5, by rw [q2.2.1]; exact g6, by rw [q2.2.2 f.slot (by simp [n1, n2])]; exact g7⟩
end StrChars.Road
namespace StrChars.Road
open Jvm Sem ClassFile Op Lib Jvm.Stand Jvm.Free Jvm.Free.XT
/-- WHAT COMES BACK, the byte[] as a list of values -/
def QA (Z : State) (x : Addr) (zn : Int32) (cs : List Int32) (h : Heap) (v : Option Value) (h' : Heap) (L : List Loc) : Prop := v = none ∧ (∀ y ∈ L, y.base = x) ∧ RoadKit.Keep h h' [x] ∧ h'.size = h.size + 1 ∧ RoadKit.Exa Z h' x ST ∧ RoadKit.Fld Z h' x ST "value" "[B" (.ref h.size) ∧ RoadKit.Fld Z h' x ST "coder" "B" (.int 0) ∧
  (∃ kb, Z.vm.findClass "[B" = some kb ∧ RoadKit.Arv Z h' h.size kb .byte zn (cs.map fun c => .int (lo8 c)) (.int 0)) ∧
  ∀ (O n d : String) (w : Value), RoadKit.Fld Z h x O n d w → RoadKit.slotOf Z O n d ≠ RoadKit.slotOf Z ST "value" "[B" → RoadKit.slotOf Z O n d ≠ RoadKit.slotOf Z ST "coder" "B" → RoadKit.Fld Z h' x O n d w
/-- **new String(chars) AT A CALL, THE ARRAYS AS LISTS**: the char[] at b holds cs, not empty, no char above 255 -/
theorem backArv {p : Program} {l : Launch} {e : Env} {R : Room} {s : State} {args : Array Value} {below : List Frame} {len W : Nat} {Z : State} {a0 : Array Value} {h : Heap} (hZ : Z.Warmed39 s.vm) (hw : ∀ d ∈ words, d.before a0 Z = true) {kI : Nat} (wi : (Jvm.Cond.instantiable ST kI).before a0 Z = true)
    {x b : Addr} {k : ClassId} {zn z : Int32} {cs : List Int32} {dv v0 c0 : Value} (E : RoadKit.Exa Z h x ST) (V : RoadKit.Fld Z h x ST "value" "[B" v0) (C : RoadKit.Fld Z h x ST "coder" "B" c0) (K : RoadKit.Arv Z h b k .char zn (cs.map Value.int) dv) (S : RoadKit.Sta Z h ST "COMPACT_STRINGS" "Z" (.int z)) (hz : ¬ z = 0)
    (hlen : zn.toNatClampNeg = cs.length) (h0 : 0 < cs.length) (hbig : cs.length ≤ 536870912) (hall : ∀ c ∈ cs, ¬ 255 < c) (hfr : 4 ≤ R.frames) (hlo : W + 65 ≤ R.locals) :
    Back l R p e below s args New1.yN len W (fun P a => a = #[.ref x, .ref b] ∧ P.U.heap = h ∧ P.cells + 1 ≤ R.cells ∧ P.slots + cs.length ≤ R.slots)
      (fun P _ v B => ∃ L, QA Z x zn cs h v B.U.heap L ∧ B.locs = P.locs ++ L ∧ B.cells = P.cells + 1 ∧ B.slots = P.slots + cs.length) := by
  obtain ⟨A, K1, K2, K3, K4, K5, K6⟩ := K
  have e : A.slots.size = cs.length := K3.trans hlen
  have hat : ∀ (i : Nat) (hi : i < cs.length), A.slots[i]? = some (.int cs[i]) := fun i hi => by rw [K5 i (by omega)]; simp [List.getD_eq_getElem?_getD, hi]
  have hcv : ∀ (i : Nat) (hi : i < cs.length), cv A i = cs[i] := fun i hi => by unfold cv; rw [hat i hi]
  have hty : Typed .char A := fun i v hv => by
    have hi : i < A.slots.size := (Array.getElem?_eq_some_iff.mp hv).1
    have q := K5 i hi
    rw [hv] at q
    rw [Option.some.inj q]
    exact K6 i hi
  refine Back.mono (back hZ hw wi E V C K1 hty S hz (by omega) (by omega) (fun i hi => by rw [hcv i (by omega)]; exact hall _ (List.getElem_mem _)) hfr hlo) (fun P a hp => ⟨hp.1, hp.2.1, hp.2.2.1, by rw [e]; exact hp.2.2.2⟩) (fun P a v B hp hq => ?_)
  obtain ⟨L, ⟨q1, q2, q3, q4, q5, q6, q7, ⟨V', v1, v2, v3, v4, v5⟩, q9⟩, hl, hc, hs⟩ := hq
  refine ⟨L, ⟨q1, q2, q3, q4, q5, q6, q7, ⟨V'.cls, v3, V', v1, rfl, by rw [v4, e, hlen], K4, fun i hi => ?_, fun i hi => ?_⟩, q9⟩, hl, hc, by rw [hs, e]⟩
  · have hi' : i < cs.length := by omega
    rw [v5 i (by omega), hcv i hi']; simp [List.getD_eq_getElem?_getD, hi']
  · have hi' : i < cs.length := by omega
    simp only [List.getD_eq_getElem?_getD, List.getElem?_map, List.getElem?_eq_getElem hi', Option.map_some, Option.getD_some]
    exact fits_lo8 _
end StrChars.Road
namespace StrChars.Road
open Jvm Sem ClassFile Op Lib Jvm.Stand Jvm.Free Jvm.Free.XT
/-- WHAT COMES BACK, in the writer's own shape -/
def QV (Z : State) (x : Addr) (N : Int32) (bs : List Int32) (h : Heap) (n0 : Nat) (v : Option Value) (h' : Heap) (L : List Loc) : Prop := v = none ∧ RoadKit.Fr n0 L ∧ RoadKit.Keep h h' [x] ∧ RoadKit.Exa Z h' x ST ∧ RoadKit.Fld Z h' x ST "coder" "B" (.int 0) ∧
  ∃ (t : Addr) (kb : ClassId), n0 ≤ t ∧ h.size ≤ t ∧ ¬ t = x ∧ RoadKit.Fld Z h' x ST "value" "[B" (.ref t) ∧ RoadKit.Arv Z h' t kb .byte N (bs.map Value.int) (.int 0)
/-- **new String(chars) AT A CALL, FOR THE WRITER**: a char[] of n known ints, each 0 to 255 -/
theorem backV {p : Program} {l : Launch} {e : Env} {R : Room} {s : State} {args : Array Value} {below : List Frame} {len W : Nat} {Z : State} {a0 : Array Value} {h : Heap} (hZ : Z.Warmed39 s.vm) (hw : ∀ d ∈ words, d.before a0 Z = true) {kI : Nat} (wi : (Jvm.Cond.instantiable ST kI).before a0 Z = true)
    {x b : Addr} {kC : ClassId} {cs bs : List Int32} {d v0 c0 : Value} {z N : Int32} {n n0 : Nat} (hx0 : n0 ≤ x) (hh0 : n0 ≤ h.size) (E : RoadKit.Exa Z h x ST) (V : RoadKit.Fld Z h x ST "value" "[B" v0) (C : RoadKit.Fld Z h x ST "coder" "B" c0) (K : RoadKit.Arv Z h b kC .char N (cs.map Value.int) d) (S : RoadKit.Sta Z h ST "COMPACT_STRINGS" "Z" (.int z)) (hz : ¬ z = 0)
    (hn : cs.length = n) (hN : N = Int32.ofNat n) (l0 : 0 < n) (l2 : n ≤ 4000) (hp : ∀ c ∈ cs, ¬ c < 0 ∧ ¬ (255 : Int32) < c) (hb : bs = cs.map (fun c => c.toInt8.toInt32)) (hfr : 4 ≤ R.frames) (hlo : W + 65 ≤ R.locals) :
    Back l R p e below s args (⟨"java/lang/String", "<init>", "([C)V"⟩ : MethodName) len W (fun P a => a = #[.ref x, .ref b] ∧ P.U.heap = h ∧ P.cells + 1 ≤ R.cells ∧ P.slots + n ≤ R.slots)
      (fun P _ v B => ∃ L, QV Z x N bs h n0 v B.U.heap L ∧ B.locs = P.locs ++ L ∧ B.cells = P.cells + 1 ∧ B.slots = P.slots + n) := by
  subst hn hN hb
  refine Back.mono (backArv hZ hw wi E V C K S hz (n32 (by omega)) l0 (by omega) (fun c hc => (hp c hc).2) hfr hlo) (fun P a hp => hp) (fun P a v B hp hq => ?_)
  obtain ⟨L, ⟨q1, q2, q3, q4, q5, q6, q7, ⟨kb, v1, v2⟩, q9⟩, hl, hc, hs⟩ := hq
  exact ⟨L, ⟨q1, fun y hy => by rw [q2 y hy]; exact hx0, q3, q5, q7, h.size, kb, hh0, Nat.le_refl _, Nat.ne_of_gt E.lt, q6, by rw [List.map_map]; exact v2⟩, hl, hc, hs⟩
end StrChars.Road
end Jvm.Pilot.@@N@@
namespace Jvm.Pilot.@@N@@
open Jvm Jvm.ClassFile Sem Op Lib Jvm.Free Jvm.Stand Jvm.LawKit Jvm.RoadKit Bundle Jvm.Pilot.@@N@@.Jvm.D
def own_Go (p : Program) (e : Env) (below : List Frame) (A : State) (G : Outcome → State → Prop) : Prop := ∃ s₂ o, Steps p.tables e below A s₂ ∧ s₂.status = .running ∧ Ended s₂ below o ∧ G o s₂
theorem own_go {p : Program} {e : Env} {below : List Frame} {A B : State} {G : Outcome → State → Prop} (st : ∀ t, Steps p.tables e below B t → Steps p.tables e below A t) (k : own_Go p e below B G) : own_Go p e below A G := by
  obtain ⟨t, o, h1, h2⟩ := k
  exact ⟨t, o, st t h1, h2⟩
theorem own_gos {p : Program} {e : Env} {below : List Frame} {A B : State} {G : Outcome → State → Prop} (st : Steps p.tables e below A B) (k : own_Go p e below B G) : own_Go p e below A G := by
  obtain ⟨t, o, h1, h2⟩ := k
  exact ⟨t, o, st.trans h1, h2⟩
theorem own_fin {p : Program} {l : Launch} {e : Env} {R : Room} {s : State} {m : MethodId} {args : Array Value} {below : List Frame} {meth : Method} {c : Code} {T : State} {locs : List Loc} {cells slots : Nat} (X : Stand p l e R s m args below meth c T locs cells slots) {v : Option Value} (hv : meth.sig.returnType = none → v = none) (hl : meth.locks = false) {A : State}
    (ret : ∀ fs : List Frame, (∀ (f : JFrame) (acts : List Action), f.method = m → f.locked = none → f.entered = [] → (doReturn e (T.setTop f) acts v).1 = T.setFrames fs) → Steps p.tables e below A (T.setFrames fs)) {QQ : Option Value → Heap → List Loc → Prop} (hQ : QQ v T.heap locs) {C S : Nat} (hc : cells ≤ C) (hs : slots ≤ S) :
    own_Go p e below A (fun o U' => ∃ v L, o = .returned v ∧ QQ v U'.heap L ∧ FrameEnd s o U' L C S) := by
  obtain ⟨fs, hr, hrun, hended, hW, hsame⟩ := X.leave hv hl
  exact ⟨_, _, ret fs hr, hrun, hended, v, locs, rfl, hQ, ⟨_, rfl⟩, hW, hsame.mono hc hs⟩
theorem own_finW {p : Program} {l : Launch} {e : Env} {R : Room} {s : State} {vm1 : Vm} {m : MethodId} {args : Array Value} {below : List Frame} {meth : Method} {c : Code} {T : State} {locs : List Loc} {cells slots : Nat} (X : Stand p l e R (s.setVm vm1) m args below meth c T locs cells slots) {h0 h : Heap} (hh : s.heap = h0) {Z : State} {a0 : Array Value} (hZ : Z.Warmed39 (s.setVm vm1).vm) {n : Nat} (hS : s.Since vm1 n) (hn : n ≤ T.heap.size) {v : Option Value} (hv : meth.sig.returnType = none → v = none) (hl : meth.locks = false) {A : State}
    (ret : ∀ fs : List Frame, (∀ (f : JFrame) (acts : List Action), f.method = m → f.locked = none → f.entered = [] → (doReturn e (T.setTop f) acts v).1 = T.setFrames fs) → Steps p.tables e below A (T.setFrames fs)) {QQ : Option Value → Heap → List Loc → Prop} (hQ : QQ v T.heap locs) {EL : List (String × Nat)} (hEL : EW Z a0 EL) (eT : T.heap = h) (C : CHr Z EL s.vm h0 vm1 h) {CC SS : Nat} (hc : cells ≤ CC) (hs : slots ≤ SS) :
    own_Go p e below A (fun o U' => ∃ v L, o = .returned v ∧ QQ v U'.heap L ∧ CHr Z EL s.vm s.heap U'.vm U'.heap ∧ ReturnedEndW s o U' L CC SS) := by
  obtain ⟨fs, hr, hrun, hended, hE⟩ := X.leaveW hS hn hv hl
  have hC := C.trans (CHv.at X hZ hEL C.1)
  subst hh eT
  exact ⟨_, _, ret fs hr, hrun, hended, v, locs, rfl, hQ, hC, hE.1, hE.2.1, hE.2.2.1, hE.2.2.2.mono hc hs⟩
def own_EL : List (String × Nat) := []
theorem own_no {P : Prop} {p : String × Nat} (h : p ∈ own_EL) : P := nomatch (h : p ∈ ([] : List (String × Nat)))
theorem own_safe0 {Z : State} {vm : Vm} {h : Heap} {x : Addr} : Safe Z own_EL vm h x := fun B => by obtain ⟨p, hp, _⟩ := B; exact own_no hp
theorem own_chv0 {Z : State} {vm : Vm} {h : Heap} : CHv Z own_EL vm h := fun p hp => own_no hp
theorem own_chr0 {Z : State} {vm vm1 : Vm} {h h' : Heap} (q : h.size ≤ h'.size) : CHr Z own_EL vm h vm1 h' := ⟨own_chv0, q, fun y B => by obtain ⟨p, hp, _⟩ := B; exact own_no hp⟩
theorem own_wSt {Z : State} {a0 : Array Value} (hw : ∀ d ∈ tables_1, d.before a0 Z = true) : ∀ a ∈ Bundle.stringAtoms, a.before a0 Z = true := fun d hd => hw d ((by decide +kernel : ∀ d ∈ Bundle.stringAtoms, d ∈ tables_1) d hd)
theorem own_hELt {Z : State} {a0 : Array Value} (hw : ∀ d ∈ tables_1, d.before a0 Z = true) : EW Z a0 own_EL := fun p hp => own_no hp
theorem own_and255 (x : Int32) : ¬ nar .char ((x &&& (255 : Int32)).toUInt32.toUInt16.toUInt32.toInt32) < 0 ∧ ¬ (255 : Int32) < nar .char ((x &&& (255 : Int32)).toUInt32.toUInt16.toUInt32.toInt32) := by
  have t : ∀ k : Fin 256, ¬ nar .char ((Int32.ofNat k.val).toUInt32.toUInt16.toUInt32.toInt32) < 0 ∧ ¬ (255 : Int32) < nar .char ((Int32.ofNat k.val).toUInt32.toUInt16.toUInt32.toInt32) := by decide +kernel
  have h : (x &&& 255).toBitVec.toNat < 256 := by
    simp only [Int32.toBitVec_and, BitVec.toNat_and]
    exact Nat.lt_succ_of_le Nat.and_le_right
  have e : (x &&& 255) = Int32.ofNat (x &&& 255).toBitVec.toNat := by
    apply Int32.toBitVec_inj.mp
    show _ = BitVec.ofNat 32 _
    rw [BitVec.ofNat_toNat]; simp
  rw [e]
  exact t ⟨_, h⟩
theorem own_up (cs : List Int32) (h : ∀ c ∈ cs, ¬ c < 0 ∧ ¬ (255 : Int32) < c) : ∀ c ∈ cs, ¬ c < 0 ∧ ¬ (65535 : Int32) < c := fun c hc => ⟨(h c hc).1, fun q => (h c hc).2 (by rw [Int32.lt_iff_toInt_lt] at q ⊢; have e1 : (65535 : Int32).toInt = 65535 := rfl; have e2 : (255 : Int32).toInt = 255 := rfl; omega)⟩
def QR (h0 : Heap) (n0 : Nat) (v : Option Value) (h : Heap) (L : List Loc) : Prop := v = none ∧ Fr n0 L ∧ h = h0
theorem d_jdk_30_m1_0 : decode jdk_30_method_1_code 0 = .ok (.aload_n 0, 1) := by decide +kernel
theorem d_jdk_30_m1_1 : decode jdk_30_method_1_code 1 = .ok (.invokespecial 1, 3) := by decide +kernel
theorem d_jdk_30_m1_4 : decode jdk_30_method_1_code 4 = .ok (.return_, 1) := by decide +kernel
theorem pn_0 : plainName "java/lang/Record" = true := by first | (simp [plainName, overriddenIn]; done) | decide +kernel
theorem ef_rm_rec (m : MethodId) (x0 : Addr) : entryFrame m #[(.ref x0)] 1 = mkF m 0 #[.val (.ref x0)] [] := by first | (simp [entryFrame, mkF, argsToLocals, Value.category]; done) | rfl
set_option maxRecDepth 65536 in
set_option maxHeartbeats 40000000 in
theorem rm_rec (l : Launch) (Z : State) (a0 : Array Value) (hw : ∀ d ∈ tables_1, d.before a0 Z = true) (ws : List Jvm.Cond) (a1 : Addr) (h0 : Heap) (n0 : Nat) (O0 : Old Z n0 h0) :
    MetFree l (⟨"java/lang/Record", "<init>", "()V"⟩ : MethodName) (head1 (Jvm.Cond.code (⟨"java/lang/Record", "<init>", "()V"⟩ : MethodName) jdk_30_method_1_code 1 none :: ws) ({ frames := 1, cells := 0, slots := 0, locals := 12 } : Room)) (fun a U => a = #[(.ref a1)] ∧ Z.Warmed39 U.vm ∧ U.heap = h0) (fun _ _ _ _ _ => True) (fun _ U o U' => ∃ v L, o = .returned v ∧ QR h0 n0 v U'.heap L ∧ FrameEnd U o U' L 0 0) := by
  refine MetFree.of_bodySF (plainFor_of_name pn_0) hisR ?_
  intro p e s m args below meth c s₁ Bd hml0 hP hK
  obtain ⟨rfl, hZ, hh⟩ := hP
  have hx := Bd.exec
  have hby := Bd.bytes
  have hml : c.maxLocals = 1 := hml0
  have hown : s.vm.findClass "java/lang/Record" = some m.cls := findClass_of_methodNamed Bd.named
  have hnm := (name_of_methodNamed Bd.named Bd.method).1
  have hrt := Bd.returns
  have hlk : meth.locks = false := Bd.notSynchronized
  have X0 : Stand p l e ({ frames := 1, cells := 0, slots := 0, locals := 12 } : Room) s m #[(.ref a1)] below meth c s₁ [] 0 0 := Stand.of_body Bd
  have e0 : s₁.heap = h0 := by rw [← hh, Bd.state]; rfl
  have N0 := Fr.nil n0
  have Z0 : n0 ≤ h0.size := O0.1 ▸ O0.2.1
  show own_Go p e below (s₁.setTop (entryFrame m #[(.ref a1)] 1)) (fun o U' => ∃ v L, o = .returned v ∧ QR h0 n0 v U'.heap L ∧ FrameEnd s o U' L 0 0)
  refine own_go (fun _ k => castTop (ef_rm_rec m a1) k) ?_
  show own_Go p e below (s₁.setTop (mkF m 0 #[.val (.ref a1)] [])) _
  refine own_go (fun _ k => XS.aloadN X0.here hx rfl (hb hby d_jdk_30_m1_0) rfl rfl k) ?_
  show own_Go p e below (s₁.setTop (mkF m 1 #[.val (.ref a1)] [(.ref a1)])) _
  obtain ⟨T1, X1, e1, st1⟩ := initO X0 hx hZ hown (hw _ (List.mem_of_getElem? (i := 41) rfl)) (hw _ (List.mem_of_getElem? (i := 12) rfl)) (hw _ (List.mem_of_getElem? (i := 13) rfl)) e0 (g := (mkF m 1 #[.val (.ref a1)] [(.ref a1)])) rfl (by rw [hml]; rfl) rfl (hb hby d_jdk_30_m1_1) (by decide) (W := 0) (by show 2 * 0 + _ ≤ _; exact Nat.le_of_eq rfl) (by decide)
  refine own_go st1 ?_
  show own_Go p e below (T1.setTop (mkF m 4 #[.val (.ref a1)] [])) _
  refine own_fin (v := none) X1 (fun _ => rfl) hlk (fun fs hr => X1.returnOut hx hrt (hb hby d_jdk_30_m1_4) hr) (QQ := QR h0 n0) ?_ (by decide) (by decide)
  rw [e1]
  exact ⟨rfl, N0, rfl⟩

def QN (a : Addr) (h0 : Heap) (n0 : Nat) (v : Option Value) (h : Heap) (L : List Loc) : Prop := v = some (.ref a) ∧ Fr n0 L ∧ h = h0
theorem d_jdk_31_m11_0 : decode jdk_31_method_11_code 0 = .ok (.aload_n 0, 1) := by decide +kernel
theorem d_jdk_31_m11_1 : decode jdk_31_method_11_code 1 = .ok (.ifnonnull 12, 3) := by decide +kernel
theorem d_jdk_31_m11_13 : decode jdk_31_method_11_code 13 = .ok (.aload_n 0, 1) := by decide +kernel
theorem d_jdk_31_m11_14 : decode jdk_31_method_11_code 14 = .ok (.areturn, 1) := by decide +kernel
theorem pn_1 : plainName "java/util/Objects" = true := by first | (simp [plainName, overriddenIn]; done) | decide +kernel
theorem ef_rm_rnn (m : MethodId) (x0 : Addr) (x1 : Addr) : entryFrame m #[(.ref x0), (.ref x1)] 2 = mkF m 0 #[.val (.ref x0), .val (.ref x1)] [] := by first | (simp [entryFrame, mkF, argsToLocals, Value.category]; done) | rfl
set_option maxRecDepth 65536 in
set_option maxHeartbeats 40000000 in
theorem rm_rnn (l : Launch) (Z : State) (a0 : Array Value) (hw : ∀ d ∈ tables_1, d.before a0 Z = true) (ws : List Jvm.Cond) (a1 : Addr) (a2 : Addr) (h0 : Heap) (n0 : Nat) (O0 : Old Z n0 h0) :
    MetFree l (⟨"java/util/Objects", "requireNonNull", "(Ljava/lang/Object;Ljava/lang/String;)Ljava/lang/Object;"⟩ : MethodName) (head1 (Jvm.Cond.code (⟨"java/util/Objects", "requireNonNull", "(Ljava/lang/Object;Ljava/lang/String;)Ljava/lang/Object;"⟩ : MethodName) jdk_31_method_11_code 2 (some (.object "java/lang/Object")) :: ws) ({ frames := 0, cells := 0, slots := 0, locals := 0 } : Room)) (fun a U => a = #[(.ref a1), (.ref a2)] ∧ Z.Warmed39 U.vm ∧ U.heap = h0) (fun _ _ _ _ _ => True) (fun _ U o U' => ∃ v L, o = .returned v ∧ QN a1 h0 n0 v U'.heap L ∧ FrameEnd U o U' L 0 0) := by
  refine MetFree.of_bodySF (plainFor_of_name pn_1) hisR ?_
  intro p e s m args below meth c s₁ Bd hml0 hP hK
  obtain ⟨rfl, hZ, hh⟩ := hP
  have hx := Bd.exec
  have hby := Bd.bytes
  have hml : c.maxLocals = 2 := hml0
  have hown : s.vm.findClass "java/util/Objects" = some m.cls := findClass_of_methodNamed Bd.named
  have hnm := (name_of_methodNamed Bd.named Bd.method).1
  have hrt := Bd.returns
  have hlk : meth.locks = false := Bd.notSynchronized
  have X0 : Stand p l e ({ frames := 0, cells := 0, slots := 0, locals := 0 } : Room) s m #[(.ref a1), (.ref a2)] below meth c s₁ [] 0 0 := Stand.of_body Bd
  have e0 : s₁.heap = h0 := by rw [← hh, Bd.state]; rfl
  have N0 := Fr.nil n0
  have Z0 : n0 ≤ h0.size := O0.1 ▸ O0.2.1
  show own_Go p e below (s₁.setTop (entryFrame m #[(.ref a1), (.ref a2)] 2)) (fun o U' => ∃ v L, o = .returned v ∧ QN a1 h0 n0 v U'.heap L ∧ FrameEnd s o U' L 0 0)
  refine own_go (fun _ k => castTop (ef_rm_rnn m a1 a2) k) ?_
  show own_Go p e below (s₁.setTop (mkF m 0 #[.val (.ref a1), .val (.ref a2)] [])) _
  refine own_go (fun _ k => XS.aloadN X0.here hx rfl (hb hby d_jdk_31_m11_0) rfl rfl k) ?_
  show own_Go p e below (s₁.setTop (mkF m 1 #[.val (.ref a1), .val (.ref a2)] [(.ref a1)])) _
  refine own_go (fun _ k => XS.ifnonnullYes X0.here hx rfl (pc0 := 1) (pc' := 13) rfl (hb hby d_jdk_31_m11_1) rfl (by decide) (by decide) k) ?_
  show own_Go p e below (s₁.setTop (mkF m 13 #[.val (.ref a1), .val (.ref a2)] [])) _
  refine own_go (fun _ k => XS.aloadN X0.here hx rfl (hb hby d_jdk_31_m11_13) rfl rfl k) ?_
  show own_Go p e below (s₁.setTop (mkF m 14 #[.val (.ref a1), .val (.ref a2)] [(.ref a1)])) _
  refine own_fin (v := (some (.ref a1))) X0 (fun h => by rw [hrt] at h; cases h) hlk (fun fs hr => retR X0 hx hrt (by rfl) rfl rfl (hb hby d_jdk_31_m11_14) hr) (QQ := QN a1 h0 n0) ?_ (by decide) (by decide)
  rw [e0]
  exact ⟨rfl, N0, rfl⟩

def QI (Z : State) (a1 : Addr) (b : Int32) (h0 : Heap) (n0 : Nat) (v : Option Value) (h : Heap) (L : List Loc) : Prop := v = none ∧ Fr n0 L ∧ Keep h0 h [a1] ∧ Fld Z h a1 "com/example/rederive/rederive/PatternFault" "body" "I" (.int b)
theorem d_prog_58_m1_0 : decode prog_58_method_1_code 0 = .ok (.aload_n 0, 1) := by decide +kernel
theorem d_prog_58_m1_1 : decode prog_58_method_1_code 1 = .ok (.invokespecial 1, 3) := by decide +kernel
theorem pd_0 : parseMethodDescriptor "()V" = some ⟨[], none⟩ := by decide +kernel
theorem d_prog_58_m1_4 : decode prog_58_method_1_code 4 = .ok (.aload 4, 2) := by decide +kernel
theorem d_prog_58_m1_6 : decode prog_58_method_1_code 6 = .ok (.ldc 7, 2) := by decide +kernel
theorem d_prog_58_m1_8 : decode prog_58_method_1_code 8 = .ok (.invokestatic 9, 3) := by decide +kernel
theorem pd_1 : parseMethodDescriptor "(Ljava/lang/Object;Ljava/lang/String;)Ljava/lang/Object;" = some ⟨[(.object "java/lang/Object"), (.object "java/lang/String")], some (.object "java/lang/Object")⟩ := by decide +kernel
theorem d_prog_58_m1_11 : decode prog_58_method_1_code 11 = .ok (.pop, 1) := by decide +kernel
theorem d_prog_58_m1_12 : decode prog_58_method_1_code 12 = .ok (.iload_n 2, 1) := by decide +kernel
theorem d_prog_58_m1_13 : decode prog_58_method_1_code 13 = .ok (.iconst (-1), 1) := by decide +kernel
theorem d_prog_58_m1_14 : decode prog_58_method_1_code 14 = .ok (.if_icmp .ne 7, 3) := by decide +kernel
theorem d_prog_58_m1_17 : decode prog_58_method_1_code 17 = .ok (.iconst 1, 1) := by decide +kernel
theorem d_prog_58_m1_18 : decode prog_58_method_1_code 18 = .ok (.goto 4, 3) := by decide +kernel
theorem d_prog_58_m1_22 : decode prog_58_method_1_code 22 = .ok (.iload_n 3, 1) := by decide +kernel
theorem d_prog_58_m1_23 : decode prog_58_method_1_code 23 = .ok (.iconst (-1), 1) := by decide +kernel
theorem d_prog_58_m1_24 : decode prog_58_method_1_code 24 = .ok (.if_icmp .ne 7, 3) := by decide +kernel
theorem d_prog_58_m1_27 : decode prog_58_method_1_code 27 = .ok (.iconst 1, 1) := by decide +kernel
theorem d_prog_58_m1_28 : decode prog_58_method_1_code 28 = .ok (.goto 4, 3) := by decide +kernel
theorem d_prog_58_m1_32 : decode prog_58_method_1_code 32 = .ok (.if_icmp .eq 13, 3) := by decide +kernel
theorem d_prog_58_m1_45 : decode prog_58_method_1_code 45 = .ok (.aload_n 0, 1) := by decide +kernel
theorem d_prog_58_m1_46 : decode prog_58_method_1_code 46 = .ok (.iload_n 1, 1) := by decide +kernel
theorem d_prog_58_m1_47 : decode prog_58_method_1_code 47 = .ok (.putfield 24, 3) := by decide +kernel
theorem d_prog_58_m1_50 : decode prog_58_method_1_code 50 = .ok (.aload_n 0, 1) := by decide +kernel
theorem d_prog_58_m1_51 : decode prog_58_method_1_code 51 = .ok (.iload_n 2, 1) := by decide +kernel
theorem d_prog_58_m1_52 : decode prog_58_method_1_code 52 = .ok (.putfield 28, 3) := by decide +kernel
theorem d_prog_58_m1_55 : decode prog_58_method_1_code 55 = .ok (.aload_n 0, 1) := by decide +kernel
theorem d_prog_58_m1_56 : decode prog_58_method_1_code 56 = .ok (.iload_n 3, 1) := by decide +kernel
theorem d_prog_58_m1_57 : decode prog_58_method_1_code 57 = .ok (.putfield 31, 3) := by decide +kernel
theorem d_prog_58_m1_60 : decode prog_58_method_1_code 60 = .ok (.aload_n 0, 1) := by decide +kernel
theorem d_prog_58_m1_61 : decode prog_58_method_1_code 61 = .ok (.aload 4, 2) := by decide +kernel
theorem d_prog_58_m1_63 : decode prog_58_method_1_code 63 = .ok (.putfield 34, 3) := by decide +kernel
theorem d_prog_58_m1_66 : decode prog_58_method_1_code 66 = .ok (.return_, 1) := by decide +kernel
theorem d_prog_58_m1_21 : decode prog_58_method_1_code 21 = .ok (.iconst 0, 1) := by decide +kernel
theorem d_prog_58_m1_31 : decode prog_58_method_1_code 31 = .ok (.iconst 0, 1) := by decide +kernel
theorem pn_2 : plainName "com/example/rederive/rederive/PatternFault" = true := by first | (simp [plainName, overriddenIn]; done) | decide +kernel
theorem ef_rm_init (m : MethodId) (x0 : Addr) (x1 : Int32) (x2 : Int32) (x3 : Int32) (x4 : Addr) : entryFrame m #[(.ref x0), (.int x1), (.int x2), (.int x3), (.ref x4)] 5 = mkF m 0 #[.val (.ref x0), .val (.int x1), .val (.int x2), .val (.int x3), .val (.ref x4)] [] := by first | (simp [entryFrame, mkF, argsToLocals, Value.category]; done) | rfl
set_option maxRecDepth 65536 in
set_option maxHeartbeats 40000000 in
theorem rm_init (l : Launch) (Z : State) (a0 : Array Value) (hw : ∀ d ∈ tables_1, d.before a0 Z = true) (ws : List Jvm.Cond) (a1 : Addr) (p2 : Int32) (p3 : Int32) (p4 : Int32) (a5 : Addr) (h0 : Heap) (n0 : Nat) (O0 : Old Z n0 h0) (E_a : Exa Z h0 a1 "com/example/rederive/rederive/PatternFault") (F_pattern : Fld Z h0 a1 "com/example/rederive/rederive/PatternFault" "pattern" "I" (.int (0 : Int32))) (F_body : Fld Z h0 a1 "com/example/rederive/rederive/PatternFault" "body" "I" (.int (0 : Int32))) (F_constraint : Fld Z h0 a1 "com/example/rederive/rederive/PatternFault" "constraint" "I" (.int (0 : Int32))) (F_message : Fld Z h0 a1 "com/example/rederive/rederive/PatternFault" "message" "Ljava/lang/String;" .null) (g_a : n0 ≤ a1) (hbc : p3 = (-1 : Int32) ↔ p4 = (-1 : Int32)) :
    MetFree l (⟨"com/example/rederive/rederive/PatternFault", "<init>", "(IIILjava/lang/String;)V"⟩ : MethodName) (head1 (Jvm.Cond.code (⟨"com/example/rederive/rederive/PatternFault", "<init>", "(IIILjava/lang/String;)V"⟩ : MethodName) prog_58_method_1_code 5 none :: ws) ({ frames := 2, cells := 2, slots := 32, locals := 24 } : Room)) (fun a U => a = #[(.ref a1), (.int p2), (.int p3), (.int p4), (.ref a5)] ∧ Z.Warmed39 U.vm ∧ U.heap = h0 ∧ CHv Z own_EL U.vm h0) (fun _ _ _ _ _ => True) (fun _ U o U' => ∃ v L, o = .returned v ∧ QI Z a1 p3 h0 n0 v U'.heap L ∧ CHr Z own_EL U.vm U.heap U'.vm U'.heap ∧ ReturnedEndW U o U' L 2 32) := by
  refine MetFree.of_bodySF (plainFor_of_name pn_2) hisR ?_
  intro p e s m args below meth c s₁ Bd hml0 hP hK
  obtain ⟨rfl, hZ, hh, hC0⟩ := hP
  have hx := Bd.exec
  have hby := Bd.bytes
  have hml : c.maxLocals = 5 := hml0
  have hown : s.vm.findClass "com/example/rederive/rederive/PatternFault" = some m.cls := findClass_of_methodNamed Bd.named
  have hnm := (name_of_methodNamed Bd.named Bd.method).1
  have hrt := Bd.returns
  have hlk : meth.locks = false := Bd.notSynchronized
  have X0 : Stand p l e ({ frames := 2, cells := 2, slots := 32, locals := 24 } : Room) (s.setVm s.vm) m #[(.ref a1), (.int p2), (.int p3), (.int p4), (.ref a5)] below meth c s₁ [] 0 0 := Stand.of_body Bd
  have e0 : s₁.heap = h0 := by rw [← hh, Bd.state]; rfl
  have N0 := Fr.nil n0
  have Z0 : n0 ≤ h0.size := O0.1 ▸ O0.2.1
  have hS0 : s.Since s.vm 0 := (State.WarmedH.refl s).since 0
  have C0 : CHr Z own_EL s.vm h0 s.vm h0 := CHr.refl hC0
  have own_wS := own_wSt hw
  have own_hEL := own_hELt hw
  show own_Go p e below (s₁.setTop (entryFrame m #[(.ref a1), (.int p2), (.int p3), (.int p4), (.ref a5)] 5)) (fun o U' => ∃ v L, o = .returned v ∧ QI Z a1 p3 h0 n0 v U'.heap L ∧ CHr Z own_EL s.vm s.heap U'.vm U'.heap ∧ ReturnedEndW s o U' L 2 32)
  refine own_go (fun _ k => castTop (ef_rm_init m a1 p2 p3 p4 a5) k) ?_
  show own_Go p e below (s₁.setTop (mkF m 0 #[.val (.ref a1), .val (.int p2), .val (.int p3), .val (.int p4), .val (.ref a5)] [])) _
  refine own_go (fun _ k => XS.aloadN X0.here hx rfl (hb hby d_prog_58_m1_0) rfl rfl k) ?_
  show own_Go p e below (s₁.setTop (mkF m 1 #[.val (.ref a1), .val (.int p2), .val (.int p3), .val (.int p4), .val (.ref a5)] [(.ref a1)])) _
  obtain ⟨v2, _, ⟨T2, L2, k2, n2⟩, -, X2, ⟨Lc2, hQ2, l2, y2, z2⟩, st2⟩ := X0.specialBack hx (y := (⟨"java/lang/Record", "<init>", "()V"⟩ : MethodName)) rfl hown (mvT hZ (hw _ (List.mem_of_getElem? (i := 36) rfl))) (mvT hZ (hw _ (List.mem_of_getElem? (i := 37) rfl))) (mvT hZ (hw _ (List.mem_of_getElem? (i := 40) rfl))) (by decide) (backOf (W := 0) (rm_rec l Z a0 hw [] a1 h0 n0 O0 ) hZ (hw _ (List.mem_of_getElem? (i := 40) rfl)) (hw _ (List.mem_of_getElem? (i := 39) rfl)) (by decide) (by decide)) (g := (mkF m 1 #[.val (.ref a1), .val (.int p2), .val (.int p3), .val (.int p4), .val (.ref a5)] [(.ref a1)])) rfl (by rw [hml]; rfl) (Steps.refl _) (a := a1) (argsL := []) (rest := []) (lenOf pd_0 rfl) rfl (by show 2 * 0 + _ ≤ _; exact Nat.le_of_eq rfl) (hb hby d_prog_58_m1_1) (fun _ _ => ⟨rfl, e0, (by decide : 0 + 0 ≤ _), (by decide : 0 + 0 ≤ _)⟩)
  dsimp only [Pt.U, Pt.locs, Pt.cells, Pt.slots] at X2 l2 y2 z2 st2 hQ2
  subst l2 y2 z2
  refine own_gos st2 ?_
  obtain ⟨rfl, Nq2, e2⟩ := hQ2
  have N2 := Fr.app N0 Nq2
  show own_Go p e below (T2.setTop (mkF m 4 #[.val (.ref a1), .val (.int p2), .val (.int p3), .val (.int p4), .val (.ref a5)] [])) _
  refine own_go (fun _ k => XS.aload X2.here hx rfl (hb hby d_prog_58_m1_4) rfl rfl k) ?_
  show own_Go p e below (T2.setTop (mkF m 6 #[.val (.ref a1), .val (.int p2), .val (.int p3), .val (.int p4), .val (.ref a5)] [(.ref a5)])) _
  obtain ⟨a3, T3, h3, k13, X3, e3, E3, hS3, hk3, hZ3, hown3, A3, Li3, st3⟩ := ldcOH X2 hx hZ hown (hw _ (List.mem_of_getElem? (i := 42) rfl)) own_wS e2 hS0 (Nat.zero_le _) own_hEL own_chv0 (g := (mkF m 6 #[.val (.ref a1), .val (.int p2), .val (.int p3), .val (.int p4), .val (.ref a5)] [(.ref a5)])) rfl (hb hby d_prog_58_m1_6) (n := 28) (by decide) (by decide) (by decide) (by decide)
  refine own_go st3 ?_
  show own_Go p e below (T3.setTop (mkF m 8 #[.val (.ref a1), .val (.int p2), .val (.int p3), .val (.int p4), .val (.ref a5)] [(.ref a3), (.ref a5)])) _
  obtain ⟨v4, _, ⟨T4, L4, k4, n4⟩, -, X4, ⟨Lc4, hQ4, l4, y4, z4⟩, st4⟩ := Jvm.LawKit.callS X3 hx (y := (⟨"java/util/Objects", "requireNonNull", "(Ljava/lang/Object;Ljava/lang/String;)Ljava/lang/Object;"⟩ : MethodName)) hown3 (mvT hZ3 (hw _ (List.mem_of_getElem? (i := 45) rfl))) (mvT hZ3 (hw _ (List.mem_of_getElem? (i := 46) rfl))) (mvT hZ3 (hw _ (List.mem_of_getElem? (i := 47) rfl))) (mvT hZ3 (hw _ (List.mem_of_getElem? (i := 48) rfl))) (by decide) (backOf (W := 0) (rm_rnn l Z a0 hw [] a5 a3 h3 n0 (O0.ext E3) ) hZ3 (hw _ (List.mem_of_getElem? (i := 48) rfl)) (hw _ (List.mem_of_getElem? (i := 47) rfl)) (by decide) (by decide)) (g := (mkF m 8 #[.val (.ref a1), .val (.int p2), .val (.int p3), .val (.int p4), .val (.ref a5)] [(.ref a3), (.ref a5)])) rfl (by rw [hml]; rfl) (argsL := [(.ref a5), (.ref a3)]) (rest := []) (lenOf pd_1 rfl) rfl (by show 2 * 0 + _ ≤ _; exact Nat.le_of_eq rfl) (hb hby d_prog_58_m1_8) (fun _ _ => ⟨rfl, e3, (by decide : 2 + 0 ≤ _), (by decide : 32 + 0 ≤ _)⟩)
  dsimp only [Pt.U, Pt.locs, Pt.cells, Pt.slots] at X4 l4 y4 z4 st4 hQ4
  subst l4 y4 z4
  refine own_go st4 ?_
  obtain ⟨rfl, Nq4, e4⟩ := hQ4
  have N4 := Fr.app N2 Nq4
  show own_Go p e below (T4.setTop (mkF m 11 #[.val (.ref a1), .val (.int p2), .val (.int p3), .val (.int p4), .val (.ref a5)] [(.ref a5)])) _
  refine own_go (fun _ k => XS.pop X4.here hx rfl (hb hby d_prog_58_m1_11) rfl rfl k) ?_
  show own_Go p e below (T4.setTop (mkF m 12 #[.val (.ref a1), .val (.int p2), .val (.int p3), .val (.int p4), .val (.ref a5)] [])) _
  refine own_go (fun _ k => XS.iloadN X4.here hx rfl (hb hby d_prog_58_m1_12) rfl k) ?_
  show own_Go p e below (T4.setTop (mkF m 13 #[.val (.ref a1), .val (.int p2), .val (.int p3), .val (.int p4), .val (.ref a5)] [(.int p3)])) _
  refine own_go (fun _ k => XS.iconst X4.here hx rfl (hb hby d_prog_58_m1_13) k) ?_
  show own_Go p e below (T4.setTop (mkF m 14 #[.val (.ref a1), .val (.int p2), .val (.int p3), .val (.int p4), .val (.ref a5)] [(.int (-1 : Int32)), (.int p3)])) _
  by_cases hc5 : p3 = (-1 : Int32)
  · skip
    refine own_go (fun _ k => XS.icmpNo X4.here hx rfl (hb hby d_prog_58_m1_14) rfl (teq hc5).2 k) ?_
    show own_Go p e below (T4.setTop (mkF m 17 #[.val (.ref a1), .val (.int p2), .val (.int p3), .val (.int p4), .val (.ref a5)] [])) _
    refine own_go (fun _ k => XS.iconst X4.here hx rfl (hb hby d_prog_58_m1_17) k) ?_
    show own_Go p e below (T4.setTop (mkF m 18 #[.val (.ref a1), .val (.int p2), .val (.int p3), .val (.int p4), .val (.ref a5)] [(.int (1 : Int32))])) _
    refine own_go (fun _ k => XS.goto X4.here hx rfl (pc0 := 18) (pc' := 22) rfl (hb hby d_prog_58_m1_18) (by decide) (by decide) k) ?_
    show own_Go p e below (T4.setTop (mkF m 22 #[.val (.ref a1), .val (.int p2), .val (.int p3), .val (.int p4), .val (.ref a5)] [(.int (1 : Int32))])) _
    refine own_go (fun _ k => XS.iloadN X4.here hx rfl (hb hby d_prog_58_m1_22) rfl k) ?_
    show own_Go p e below (T4.setTop (mkF m 23 #[.val (.ref a1), .val (.int p2), .val (.int p3), .val (.int p4), .val (.ref a5)] [(.int p4), (.int (1 : Int32))])) _
    refine own_go (fun _ k => XS.iconst X4.here hx rfl (hb hby d_prog_58_m1_23) k) ?_
    show own_Go p e below (T4.setTop (mkF m 24 #[.val (.ref a1), .val (.int p2), .val (.int p3), .val (.int p4), .val (.ref a5)] [(.int (-1 : Int32)), (.int p4), (.int (1 : Int32))])) _
    by_cases hc6 : p4 = (-1 : Int32)
    · skip
      refine own_go (fun _ k => XS.icmpNo X4.here hx rfl (hb hby d_prog_58_m1_24) rfl (teq hc6).2 k) ?_
      show own_Go p e below (T4.setTop (mkF m 27 #[.val (.ref a1), .val (.int p2), .val (.int p3), .val (.int p4), .val (.ref a5)] [(.int (1 : Int32))])) _
      refine own_go (fun _ k => XS.iconst X4.here hx rfl (hb hby d_prog_58_m1_27) k) ?_
      show own_Go p e below (T4.setTop (mkF m 28 #[.val (.ref a1), .val (.int p2), .val (.int p3), .val (.int p4), .val (.ref a5)] [(.int (1 : Int32)), (.int (1 : Int32))])) _
      refine own_go (fun _ k => XS.goto X4.here hx rfl (pc0 := 28) (pc' := 32) rfl (hb hby d_prog_58_m1_28) (by decide) (by decide) k) ?_
      show own_Go p e below (T4.setTop (mkF m 32 #[.val (.ref a1), .val (.int p2), .val (.int p3), .val (.int p4), .val (.ref a5)] [(.int (1 : Int32)), (.int (1 : Int32))])) _
      refine own_go (fun _ k => XS.icmpYes X4.here hx rfl (pc0 := 32) (pc' := 45) rfl (hb hby d_prog_58_m1_32) rfl (teq (by decide : (1 : Int32) = (1 : Int32))).1 (by decide) (by decide) k) ?_
      show own_Go p e below (T4.setTop (mkF m 45 #[.val (.ref a1), .val (.int p2), .val (.int p3), .val (.int p4), .val (.ref a5)] [])) _
      refine own_go (fun _ k => XS.aloadN X4.here hx rfl (hb hby d_prog_58_m1_45) rfl rfl k) ?_
      show own_Go p e below (T4.setTop (mkF m 46 #[.val (.ref a1), .val (.int p2), .val (.int p3), .val (.int p4), .val (.ref a5)] [(.ref a1)])) _
      refine own_go (fun _ k => XS.iloadN X4.here hx rfl (hb hby d_prog_58_m1_46) rfl k) ?_
      show own_Go p e below (T4.setTop (mkF m 47 #[.val (.ref a1), .val (.int p2), .val (.int p3), .val (.int p4), .val (.ref a5)] [(.int p2), (.ref a1)])) _
      obtain ⟨T7, h7, X7, e7, W7, st7⟩ := putF X4 hx hZ3 hown3 (host := "") (Or.inl (hw _ (List.mem_of_getElem? (i := 49) rfl))) Via.refl e4 (F_pattern.ext E3) (E_a.ext E3) (Or.inr ⟨(hw _ (List.mem_of_getElem? (i := 50) rfl)), rfl, hnm⟩) (hw _ (List.mem_of_getElem? (i := 31) rfl)) (ty := .int) (by decide) rfl rfl (g := (mkF m 47 #[.val (.ref a1), .val (.int p2), .val (.int p3), .val (.int p4), .val (.ref a5)] [(.int p2), (.ref a1)])) rfl rfl (hb hby d_prog_58_m1_47)
      refine own_go st7 ?_
      have N7 := Fr.snoc X7 N4 g_a
      have Fw7 := (F_pattern.ext E3).same W7
      show own_Go p e below (T7.setTop (mkF m 50 #[.val (.ref a1), .val (.int p2), .val (.int p3), .val (.int p4), .val (.ref a5)] [])) _
      refine own_go (fun _ k => XS.aloadN X7.here hx rfl (hb hby d_prog_58_m1_50) rfl rfl k) ?_
      show own_Go p e below (T7.setTop (mkF m 51 #[.val (.ref a1), .val (.int p2), .val (.int p3), .val (.int p4), .val (.ref a5)] [(.ref a1)])) _
      refine own_go (fun _ k => XS.iloadN X7.here hx rfl (hb hby d_prog_58_m1_51) rfl k) ?_
      show own_Go p e below (T7.setTop (mkF m 52 #[.val (.ref a1), .val (.int p2), .val (.int p3), .val (.int p4), .val (.ref a5)] [(.int p3), (.ref a1)])) _
      have f8 := ((F_body.ext E3).other W7 (Or.inr (slot_ne (Or.inr (hw _ (List.mem_of_getElem? (i := 52) rfl))) (Or.inr (hw _ (List.mem_of_getElem? (i := 50) rfl))) (by decide) (t := .int) (t' := .int) (by decide) (by decide))))
      obtain ⟨T9, h9, X9, e9, W9, st9⟩ := putF X7 hx hZ3 hown3 (host := "") (Or.inl (hw _ (List.mem_of_getElem? (i := 51) rfl))) Via.refl e7 f8 ((E_a.ext E3).wr W7) (Or.inr ⟨(hw _ (List.mem_of_getElem? (i := 52) rfl)), rfl, hnm⟩) (hw _ (List.mem_of_getElem? (i := 31) rfl)) (ty := .int) (by decide) rfl rfl (g := (mkF m 52 #[.val (.ref a1), .val (.int p2), .val (.int p3), .val (.int p4), .val (.ref a5)] [(.int p3), (.ref a1)])) rfl rfl (hb hby d_prog_58_m1_52)
      refine own_go st9 ?_
      have N9 := Fr.snoc X9 N7 g_a
      have Fw9 := f8.same W9
      show own_Go p e below (T9.setTop (mkF m 55 #[.val (.ref a1), .val (.int p2), .val (.int p3), .val (.int p4), .val (.ref a5)] [])) _
      refine own_go (fun _ k => XS.aloadN X9.here hx rfl (hb hby d_prog_58_m1_55) rfl rfl k) ?_
      show own_Go p e below (T9.setTop (mkF m 56 #[.val (.ref a1), .val (.int p2), .val (.int p3), .val (.int p4), .val (.ref a5)] [(.ref a1)])) _
      refine own_go (fun _ k => XS.iloadN X9.here hx rfl (hb hby d_prog_58_m1_56) rfl k) ?_
      show own_Go p e below (T9.setTop (mkF m 57 #[.val (.ref a1), .val (.int p2), .val (.int p3), .val (.int p4), .val (.ref a5)] [(.int p4), (.ref a1)])) _
      have f10 := (((F_constraint.ext E3).other W7 (Or.inr (slot_ne (Or.inr (hw _ (List.mem_of_getElem? (i := 54) rfl))) (Or.inr (hw _ (List.mem_of_getElem? (i := 50) rfl))) (by decide) (t := .int) (t' := .int) (by decide) (by decide)))).other W9 (Or.inr (slot_ne (Or.inr (hw _ (List.mem_of_getElem? (i := 54) rfl))) (Or.inr (hw _ (List.mem_of_getElem? (i := 52) rfl))) (by decide) (t := .int) (t' := .int) (by decide) (by decide))))
      have f11 := (((E_a.ext E3).wr W7).wr W9)
      obtain ⟨T12, h12, X12, e12, W12, st12⟩ := putF X9 hx hZ3 hown3 (host := "") (Or.inl (hw _ (List.mem_of_getElem? (i := 53) rfl))) Via.refl e9 f10 f11 (Or.inr ⟨(hw _ (List.mem_of_getElem? (i := 54) rfl)), rfl, hnm⟩) (hw _ (List.mem_of_getElem? (i := 31) rfl)) (ty := .int) (by decide) rfl rfl (g := (mkF m 57 #[.val (.ref a1), .val (.int p2), .val (.int p3), .val (.int p4), .val (.ref a5)] [(.int p4), (.ref a1)])) rfl rfl (hb hby d_prog_58_m1_57)
      refine own_go st12 ?_
      have N12 := Fr.snoc X12 N9 g_a
      have Fw12 := f10.same W12
      show own_Go p e below (T12.setTop (mkF m 60 #[.val (.ref a1), .val (.int p2), .val (.int p3), .val (.int p4), .val (.ref a5)] [])) _
      refine own_go (fun _ k => XS.aloadN X12.here hx rfl (hb hby d_prog_58_m1_60) rfl rfl k) ?_
      show own_Go p e below (T12.setTop (mkF m 61 #[.val (.ref a1), .val (.int p2), .val (.int p3), .val (.int p4), .val (.ref a5)] [(.ref a1)])) _
      refine own_go (fun _ k => XS.aload X12.here hx rfl (hb hby d_prog_58_m1_61) rfl rfl k) ?_
      show own_Go p e below (T12.setTop (mkF m 63 #[.val (.ref a1), .val (.int p2), .val (.int p3), .val (.int p4), .val (.ref a5)] [(.ref a5), (.ref a1)])) _
      have f13 := ((((F_message.ext E3).other W7 (Or.inr (slot_ne (Or.inr (hw _ (List.mem_of_getElem? (i := 56) rfl))) (Or.inr (hw _ (List.mem_of_getElem? (i := 50) rfl))) (by decide) (t := (.object "java/lang/String")) (t' := .int) (by decide) (by decide)))).other W9 (Or.inr (slot_ne (Or.inr (hw _ (List.mem_of_getElem? (i := 56) rfl))) (Or.inr (hw _ (List.mem_of_getElem? (i := 52) rfl))) (by decide) (t := (.object "java/lang/String")) (t' := .int) (by decide) (by decide)))).other W12 (Or.inr (slot_ne (Or.inr (hw _ (List.mem_of_getElem? (i := 56) rfl))) (Or.inr (hw _ (List.mem_of_getElem? (i := 54) rfl))) (by decide) (t := (.object "java/lang/String")) (t' := .int) (by decide) (by decide))))
      obtain ⟨T14, h14, X14, e14, W14, st14⟩ := putF X12 hx hZ3 hown3 (host := "") (Or.inl (hw _ (List.mem_of_getElem? (i := 55) rfl))) Via.refl e12 f13 (f11.wr W12) (Or.inr ⟨(hw _ (List.mem_of_getElem? (i := 56) rfl)), rfl, hnm⟩) (hw _ (List.mem_of_getElem? (i := 31) rfl)) (ty := (.object "java/lang/String")) (by decide) rfl rfl (g := (mkF m 63 #[.val (.ref a1), .val (.int p2), .val (.int p3), .val (.int p4), .val (.ref a5)] [(.ref a5), (.ref a1)])) rfl rfl (hb hby d_prog_58_m1_63)
      refine own_go st14 ?_
      have N14 := Fr.snoc X14 N12 g_a
      have Fw14 := f13.same W14
      show own_Go p e below (T14.setTop (mkF m 66 #[.val (.ref a1), .val (.int p2), .val (.int p3), .val (.int p4), .val (.ref a5)] [])) _
      have f15 := ((((((Keep.refl h0 [a1]).ext E3).wr W7 (Or.inl (List.mem_of_getElem? (i := 0) rfl))).wr W9 (Or.inl (List.mem_of_getElem? (i := 0) rfl))).wr W12 (Or.inl (List.mem_of_getElem? (i := 0) rfl))).wr W14 (Or.inl (List.mem_of_getElem? (i := 0) rfl)))
      have f16 := ((Fw9.other W12 (Or.inr (slot_ne (Or.inr (hw _ (List.mem_of_getElem? (i := 52) rfl))) (Or.inr (hw _ (List.mem_of_getElem? (i := 54) rfl))) (by decide) (t := .int) (t' := .int) (by decide) (by decide)))).other W14 (Or.inr (slot_ne (Or.inr (hw _ (List.mem_of_getElem? (i := 52) rfl))) (Or.inr (hw _ (List.mem_of_getElem? (i := 56) rfl))) (by decide) (t := .int) (t' := (.object "java/lang/String")) (by decide) (by decide))))
      have z17 := (Nat.le_trans (Nat.le_trans (Nat.le_trans (Keep.of_wr W7).1 (Keep.of_wr W9).1) (Keep.of_wr W12).1) (Keep.of_wr W14).1)
      have z18 := (Nat.le_trans (Nat.le_trans (Nat.le_trans (Nat.le_trans E3.1 (Keep.of_wr W7).1) (Keep.of_wr W9).1) (Keep.of_wr W12).1) (Keep.of_wr W14).1)
      refine own_finW (v := none) X14 hh hZ3 hS3 (by rw [e14]; exact (Nat.le_trans hk3 z17)) (fun _ => rfl) hlk (fun fs hr => X14.returnOut hx hrt (hb hby d_prog_58_m1_66) hr) (QQ := QI Z a1 p3 h0 n0) ?_ own_hEL e14 (own_chr0 z18) (by decide) (by decide)
      rw [e14]
      exact ⟨rfl, N14, f15, f16⟩
    · skip
      exact absurd (hbc.mp hc5) hc6
  · skip
    refine own_go (fun _ k => XS.icmpYes X4.here hx rfl (pc0 := 14) (pc' := 21) rfl (hb hby d_prog_58_m1_14) rfl (feq hc5).2 (by decide) (by decide) k) ?_
    show own_Go p e below (T4.setTop (mkF m 21 #[.val (.ref a1), .val (.int p2), .val (.int p3), .val (.int p4), .val (.ref a5)] [])) _
    refine own_go (fun _ k => XS.iconst X4.here hx rfl (hb hby d_prog_58_m1_21) k) ?_
    show own_Go p e below (T4.setTop (mkF m 22 #[.val (.ref a1), .val (.int p2), .val (.int p3), .val (.int p4), .val (.ref a5)] [(.int (0 : Int32))])) _
    refine own_go (fun _ k => XS.iloadN X4.here hx rfl (hb hby d_prog_58_m1_22) rfl k) ?_
    show own_Go p e below (T4.setTop (mkF m 23 #[.val (.ref a1), .val (.int p2), .val (.int p3), .val (.int p4), .val (.ref a5)] [(.int p4), (.int (0 : Int32))])) _
    refine own_go (fun _ k => XS.iconst X4.here hx rfl (hb hby d_prog_58_m1_23) k) ?_
    show own_Go p e below (T4.setTop (mkF m 24 #[.val (.ref a1), .val (.int p2), .val (.int p3), .val (.int p4), .val (.ref a5)] [(.int (-1 : Int32)), (.int p4), (.int (0 : Int32))])) _
    by_cases hc19 : p4 = (-1 : Int32)
    · skip
      exact absurd (hbc.mpr hc19) hc5
    · skip
      refine own_go (fun _ k => XS.icmpYes X4.here hx rfl (pc0 := 24) (pc' := 31) rfl (hb hby d_prog_58_m1_24) rfl (feq hc19).2 (by decide) (by decide) k) ?_
      show own_Go p e below (T4.setTop (mkF m 31 #[.val (.ref a1), .val (.int p2), .val (.int p3), .val (.int p4), .val (.ref a5)] [(.int (0 : Int32))])) _
      refine own_go (fun _ k => XS.iconst X4.here hx rfl (hb hby d_prog_58_m1_31) k) ?_
      show own_Go p e below (T4.setTop (mkF m 32 #[.val (.ref a1), .val (.int p2), .val (.int p3), .val (.int p4), .val (.ref a5)] [(.int (0 : Int32)), (.int (0 : Int32))])) _
      refine own_go (fun _ k => XS.icmpYes X4.here hx rfl (pc0 := 32) (pc' := 45) rfl (hb hby d_prog_58_m1_32) rfl (teq (by decide : (0 : Int32) = (0 : Int32))).1 (by decide) (by decide) k) ?_
      show own_Go p e below (T4.setTop (mkF m 45 #[.val (.ref a1), .val (.int p2), .val (.int p3), .val (.int p4), .val (.ref a5)] [])) _
      refine own_go (fun _ k => XS.aloadN X4.here hx rfl (hb hby d_prog_58_m1_45) rfl rfl k) ?_
      show own_Go p e below (T4.setTop (mkF m 46 #[.val (.ref a1), .val (.int p2), .val (.int p3), .val (.int p4), .val (.ref a5)] [(.ref a1)])) _
      refine own_go (fun _ k => XS.iloadN X4.here hx rfl (hb hby d_prog_58_m1_46) rfl k) ?_
      show own_Go p e below (T4.setTop (mkF m 47 #[.val (.ref a1), .val (.int p2), .val (.int p3), .val (.int p4), .val (.ref a5)] [(.int p2), (.ref a1)])) _
      obtain ⟨T20, h20, X20, e20, W20, st20⟩ := putF X4 hx hZ3 hown3 (host := "") (Or.inl (hw _ (List.mem_of_getElem? (i := 49) rfl))) Via.refl e4 (F_pattern.ext E3) (E_a.ext E3) (Or.inr ⟨(hw _ (List.mem_of_getElem? (i := 50) rfl)), rfl, hnm⟩) (hw _ (List.mem_of_getElem? (i := 31) rfl)) (ty := .int) (by decide) rfl rfl (g := (mkF m 47 #[.val (.ref a1), .val (.int p2), .val (.int p3), .val (.int p4), .val (.ref a5)] [(.int p2), (.ref a1)])) rfl rfl (hb hby d_prog_58_m1_47)
      refine own_go st20 ?_
      have N20 := Fr.snoc X20 N4 g_a
      have Fw20 := (F_pattern.ext E3).same W20
      show own_Go p e below (T20.setTop (mkF m 50 #[.val (.ref a1), .val (.int p2), .val (.int p3), .val (.int p4), .val (.ref a5)] [])) _
      refine own_go (fun _ k => XS.aloadN X20.here hx rfl (hb hby d_prog_58_m1_50) rfl rfl k) ?_
      show own_Go p e below (T20.setTop (mkF m 51 #[.val (.ref a1), .val (.int p2), .val (.int p3), .val (.int p4), .val (.ref a5)] [(.ref a1)])) _
      refine own_go (fun _ k => XS.iloadN X20.here hx rfl (hb hby d_prog_58_m1_51) rfl k) ?_
      show own_Go p e below (T20.setTop (mkF m 52 #[.val (.ref a1), .val (.int p2), .val (.int p3), .val (.int p4), .val (.ref a5)] [(.int p3), (.ref a1)])) _
      have f21 := ((F_body.ext E3).other W20 (Or.inr (slot_ne (Or.inr (hw _ (List.mem_of_getElem? (i := 52) rfl))) (Or.inr (hw _ (List.mem_of_getElem? (i := 50) rfl))) (by decide) (t := .int) (t' := .int) (by decide) (by decide))))
      obtain ⟨T22, h22, X22, e22, W22, st22⟩ := putF X20 hx hZ3 hown3 (host := "") (Or.inl (hw _ (List.mem_of_getElem? (i := 51) rfl))) Via.refl e20 f21 ((E_a.ext E3).wr W20) (Or.inr ⟨(hw _ (List.mem_of_getElem? (i := 52) rfl)), rfl, hnm⟩) (hw _ (List.mem_of_getElem? (i := 31) rfl)) (ty := .int) (by decide) rfl rfl (g := (mkF m 52 #[.val (.ref a1), .val (.int p2), .val (.int p3), .val (.int p4), .val (.ref a5)] [(.int p3), (.ref a1)])) rfl rfl (hb hby d_prog_58_m1_52)
      refine own_go st22 ?_
      have N22 := Fr.snoc X22 N20 g_a
      have Fw22 := f21.same W22
      show own_Go p e below (T22.setTop (mkF m 55 #[.val (.ref a1), .val (.int p2), .val (.int p3), .val (.int p4), .val (.ref a5)] [])) _
      refine own_go (fun _ k => XS.aloadN X22.here hx rfl (hb hby d_prog_58_m1_55) rfl rfl k) ?_
      show own_Go p e below (T22.setTop (mkF m 56 #[.val (.ref a1), .val (.int p2), .val (.int p3), .val (.int p4), .val (.ref a5)] [(.ref a1)])) _
      refine own_go (fun _ k => XS.iloadN X22.here hx rfl (hb hby d_prog_58_m1_56) rfl k) ?_
      show own_Go p e below (T22.setTop (mkF m 57 #[.val (.ref a1), .val (.int p2), .val (.int p3), .val (.int p4), .val (.ref a5)] [(.int p4), (.ref a1)])) _
      have f23 := (((F_constraint.ext E3).other W20 (Or.inr (slot_ne (Or.inr (hw _ (List.mem_of_getElem? (i := 54) rfl))) (Or.inr (hw _ (List.mem_of_getElem? (i := 50) rfl))) (by decide) (t := .int) (t' := .int) (by decide) (by decide)))).other W22 (Or.inr (slot_ne (Or.inr (hw _ (List.mem_of_getElem? (i := 54) rfl))) (Or.inr (hw _ (List.mem_of_getElem? (i := 52) rfl))) (by decide) (t := .int) (t' := .int) (by decide) (by decide))))
      have f24 := (((E_a.ext E3).wr W20).wr W22)
      obtain ⟨T25, h25, X25, e25, W25, st25⟩ := putF X22 hx hZ3 hown3 (host := "") (Or.inl (hw _ (List.mem_of_getElem? (i := 53) rfl))) Via.refl e22 f23 f24 (Or.inr ⟨(hw _ (List.mem_of_getElem? (i := 54) rfl)), rfl, hnm⟩) (hw _ (List.mem_of_getElem? (i := 31) rfl)) (ty := .int) (by decide) rfl rfl (g := (mkF m 57 #[.val (.ref a1), .val (.int p2), .val (.int p3), .val (.int p4), .val (.ref a5)] [(.int p4), (.ref a1)])) rfl rfl (hb hby d_prog_58_m1_57)
      refine own_go st25 ?_
      have N25 := Fr.snoc X25 N22 g_a
      have Fw25 := f23.same W25
      show own_Go p e below (T25.setTop (mkF m 60 #[.val (.ref a1), .val (.int p2), .val (.int p3), .val (.int p4), .val (.ref a5)] [])) _
      refine own_go (fun _ k => XS.aloadN X25.here hx rfl (hb hby d_prog_58_m1_60) rfl rfl k) ?_
      show own_Go p e below (T25.setTop (mkF m 61 #[.val (.ref a1), .val (.int p2), .val (.int p3), .val (.int p4), .val (.ref a5)] [(.ref a1)])) _
      refine own_go (fun _ k => XS.aload X25.here hx rfl (hb hby d_prog_58_m1_61) rfl rfl k) ?_
      show own_Go p e below (T25.setTop (mkF m 63 #[.val (.ref a1), .val (.int p2), .val (.int p3), .val (.int p4), .val (.ref a5)] [(.ref a5), (.ref a1)])) _
      have f26 := ((((F_message.ext E3).other W20 (Or.inr (slot_ne (Or.inr (hw _ (List.mem_of_getElem? (i := 56) rfl))) (Or.inr (hw _ (List.mem_of_getElem? (i := 50) rfl))) (by decide) (t := (.object "java/lang/String")) (t' := .int) (by decide) (by decide)))).other W22 (Or.inr (slot_ne (Or.inr (hw _ (List.mem_of_getElem? (i := 56) rfl))) (Or.inr (hw _ (List.mem_of_getElem? (i := 52) rfl))) (by decide) (t := (.object "java/lang/String")) (t' := .int) (by decide) (by decide)))).other W25 (Or.inr (slot_ne (Or.inr (hw _ (List.mem_of_getElem? (i := 56) rfl))) (Or.inr (hw _ (List.mem_of_getElem? (i := 54) rfl))) (by decide) (t := (.object "java/lang/String")) (t' := .int) (by decide) (by decide))))
      obtain ⟨T27, h27, X27, e27, W27, st27⟩ := putF X25 hx hZ3 hown3 (host := "") (Or.inl (hw _ (List.mem_of_getElem? (i := 55) rfl))) Via.refl e25 f26 (f24.wr W25) (Or.inr ⟨(hw _ (List.mem_of_getElem? (i := 56) rfl)), rfl, hnm⟩) (hw _ (List.mem_of_getElem? (i := 31) rfl)) (ty := (.object "java/lang/String")) (by decide) rfl rfl (g := (mkF m 63 #[.val (.ref a1), .val (.int p2), .val (.int p3), .val (.int p4), .val (.ref a5)] [(.ref a5), (.ref a1)])) rfl rfl (hb hby d_prog_58_m1_63)
      refine own_go st27 ?_
      have N27 := Fr.snoc X27 N25 g_a
      have Fw27 := f26.same W27
      show own_Go p e below (T27.setTop (mkF m 66 #[.val (.ref a1), .val (.int p2), .val (.int p3), .val (.int p4), .val (.ref a5)] [])) _
      have f28 := ((((((Keep.refl h0 [a1]).ext E3).wr W20 (Or.inl (List.mem_of_getElem? (i := 0) rfl))).wr W22 (Or.inl (List.mem_of_getElem? (i := 0) rfl))).wr W25 (Or.inl (List.mem_of_getElem? (i := 0) rfl))).wr W27 (Or.inl (List.mem_of_getElem? (i := 0) rfl)))
      have f29 := ((Fw22.other W25 (Or.inr (slot_ne (Or.inr (hw _ (List.mem_of_getElem? (i := 52) rfl))) (Or.inr (hw _ (List.mem_of_getElem? (i := 54) rfl))) (by decide) (t := .int) (t' := .int) (by decide) (by decide)))).other W27 (Or.inr (slot_ne (Or.inr (hw _ (List.mem_of_getElem? (i := 52) rfl))) (Or.inr (hw _ (List.mem_of_getElem? (i := 56) rfl))) (by decide) (t := .int) (t' := (.object "java/lang/String")) (by decide) (by decide))))
      have z30 := (Nat.le_trans (Nat.le_trans (Nat.le_trans (Keep.of_wr W20).1 (Keep.of_wr W22).1) (Keep.of_wr W25).1) (Keep.of_wr W27).1)
      have z31 := (Nat.le_trans (Nat.le_trans (Nat.le_trans (Nat.le_trans E3.1 (Keep.of_wr W20).1) (Keep.of_wr W22).1) (Keep.of_wr W25).1) (Keep.of_wr W27).1)
      refine own_finW (v := none) X27 hh hZ3 hS3 (by rw [e27]; exact (Nat.le_trans hk3 z30)) (fun _ => rfl) hlk (fun fs hr => X27.returnOut hx hrt (hb hby d_prog_58_m1_66) hr) (QQ := QI Z a1 p3 h0 n0) ?_ own_hEL e27 (own_chr0 z31) (by decide) (by decide)
      rw [e27]
      exact ⟨rfl, N27, f28, f29⟩

def QH (Z : State) (h0 : Heap) (n0 : Nat) (v : Option Value) (h : Heap) (L : List Loc) : Prop := ∃ x : Addr, v = some (.ref x) ∧ Fr n0 L ∧ Keep h0 h [] ∧ h0.size ≤ x ∧ Exa Z h x "com/example/rederive/rederive/PatternFault" ∧ Fld Z h x "com/example/rederive/rederive/PatternFault" "body" "I" (.int (-1 : Int32))
theorem d_prog_58_m2_0 : decode prog_58_method_2_code 0 = .ok (.new 15, 3) := by decide +kernel
theorem d_prog_58_m2_3 : decode prog_58_method_2_code 3 = .ok (.dup, 1) := by decide +kernel
theorem d_prog_58_m2_4 : decode prog_58_method_2_code 4 = .ok (.iload_n 0, 1) := by decide +kernel
theorem d_prog_58_m2_5 : decode prog_58_method_2_code 5 = .ok (.iconst (-1), 1) := by decide +kernel
theorem d_prog_58_m2_6 : decode prog_58_method_2_code 6 = .ok (.iconst (-1), 1) := by decide +kernel
theorem d_prog_58_m2_7 : decode prog_58_method_2_code 7 = .ok (.aload_n 1, 1) := by decide +kernel
theorem d_prog_58_m2_8 : decode prog_58_method_2_code 8 = .ok (.invokespecial 37, 3) := by decide +kernel
theorem pd_2 : parseMethodDescriptor "(IIILjava/lang/String;)V" = some ⟨[.int, .int, .int, (.object "java/lang/String")], none⟩ := by decide +kernel
theorem d_prog_58_m2_11 : decode prog_58_method_2_code 11 = .ok (.areturn, 1) := by decide +kernel
theorem ef_rm_inh (m : MethodId) (x0 : Int32) (x1 : Addr) : entryFrame m #[(.int x0), (.ref x1)] 2 = mkF m 0 #[.val (.int x0), .val (.ref x1)] [] := by first | (simp [entryFrame, mkF, argsToLocals, Value.category]; done) | rfl
set_option maxRecDepth 65536 in
set_option maxHeartbeats 40000000 in
theorem rm_inh (l : Launch) (Z : State) (a0 : Array Value) (hw : ∀ d ∈ tables_1, d.before a0 Z = true) (ws : List Jvm.Cond) (p1 : Int32) (a2 : Addr) (h0 : Heap) (n0 : Nat) (O0 : Old Z n0 h0) :
    MetFree l (⟨"com/example/rederive/rederive/PatternFault", "inHeader", "(ILjava/lang/String;)Lcom/example/rederive/rederive/PatternFault;"⟩ : MethodName) (head1 (Jvm.Cond.code (⟨"com/example/rederive/rederive/PatternFault", "inHeader", "(ILjava/lang/String;)Lcom/example/rederive/rederive/PatternFault;"⟩ : MethodName) prog_58_method_2_code 2 (some (.object "com/example/rederive/rederive/PatternFault")) :: ws) ({ frames := 3, cells := 3, slots := 36, locals := 41 } : Room)) (fun a U => a = #[(.int p1), (.ref a2)] ∧ Z.Warmed39 U.vm ∧ U.heap = h0 ∧ CHv Z own_EL U.vm h0) (fun _ _ _ _ _ => True) (fun _ U o U' => ∃ v L, o = .returned v ∧ QH Z h0 n0 v U'.heap L ∧ CHr Z own_EL U.vm U.heap U'.vm U'.heap ∧ ReturnedEndW U o U' L 3 36) := by
  refine MetFree.of_bodySF (plainFor_of_name pn_2) hisR ?_
  intro p e s m args below meth c s₁ Bd hml0 hP hK
  obtain ⟨rfl, hZ, hh, hC0⟩ := hP
  have hx := Bd.exec
  have hby := Bd.bytes
  have hml : c.maxLocals = 2 := hml0
  have hown : s.vm.findClass "com/example/rederive/rederive/PatternFault" = some m.cls := findClass_of_methodNamed Bd.named
  have hnm := (name_of_methodNamed Bd.named Bd.method).1
  have hrt := Bd.returns
  have hlk : meth.locks = false := Bd.notSynchronized
  have X0 : Stand p l e ({ frames := 3, cells := 3, slots := 36, locals := 41 } : Room) (s.setVm s.vm) m #[(.int p1), (.ref a2)] below meth c s₁ [] 0 0 := Stand.of_body Bd
  have e0 : s₁.heap = h0 := by rw [← hh, Bd.state]; rfl
  have N0 := Fr.nil n0
  have Z0 : n0 ≤ h0.size := O0.1 ▸ O0.2.1
  have hS0 : s.Since s.vm 0 := (State.WarmedH.refl s).since 0
  have C0 : CHr Z own_EL s.vm h0 s.vm h0 := CHr.refl hC0
  have own_wS := own_wSt hw
  have own_hEL := own_hELt hw
  show own_Go p e below (s₁.setTop (entryFrame m #[(.int p1), (.ref a2)] 2)) (fun o U' => ∃ v L, o = .returned v ∧ QH Z h0 n0 v U'.heap L ∧ CHr Z own_EL s.vm s.heap U'.vm U'.heap ∧ ReturnedEndW s o U' L 3 36)
  refine own_go (fun _ k => castTop (ef_rm_inh m p1 a2) k) ?_
  show own_Go p e below (s₁.setTop (mkF m 0 #[.val (.int p1), .val (.ref a2)] [])) _
  obtain ⟨T32, h32, X32, e32, E32, A32, D32, U32, st32⟩ := newO X0 hx hZ hown (hw _ (List.mem_of_getElem? (i := 60) rfl)) (hw _ (List.mem_of_getElem? (i := 31) rfl)) (hw _ (List.mem_of_getElem? (i := 32) rfl)) e0 (g := (mkF m 0 #[.val (.int p1), .val (.ref a2)] [])) rfl (hb hby d_prog_58_m2_0) (by decide) (by decide)
  obtain ⟨b32, g32⟩ : ∃ z, z = h0.size := ⟨_, rfl⟩
  rw [← g32] at A32 D32 U32 st32
  refine own_go st32 ?_
  have F32_pattern : Fld Z h32 b32 "com/example/rederive/rederive/PatternFault" "pattern" "I" (.int (0 : Int32)) := D32 (Or.inr (hw _ (List.mem_of_getElem? (i := 50) rfl))) (ty := .int) (by decide)
  have F32_body : Fld Z h32 b32 "com/example/rederive/rederive/PatternFault" "body" "I" (.int (0 : Int32)) := D32 (Or.inr (hw _ (List.mem_of_getElem? (i := 52) rfl))) (ty := .int) (by decide)
  have F32_constraint : Fld Z h32 b32 "com/example/rederive/rederive/PatternFault" "constraint" "I" (.int (0 : Int32)) := D32 (Or.inr (hw _ (List.mem_of_getElem? (i := 54) rfl))) (ty := .int) (by decide)
  have F32_message : Fld Z h32 b32 "com/example/rederive/rederive/PatternFault" "message" "Ljava/lang/String;" .null := D32 (Or.inr (hw _ (List.mem_of_getElem? (i := 56) rfl))) (ty := (.object "java/lang/String")) (by decide)
  show own_Go p e below (T32.setTop (mkF m 3 #[.val (.int p1), .val (.ref a2)] [(.ref b32)])) _
  refine own_go (fun _ k => XS.dup X32.here hx rfl (hb hby d_prog_58_m2_3) rfl rfl k) ?_
  show own_Go p e below (T32.setTop (mkF m 4 #[.val (.int p1), .val (.ref a2)] [(.ref b32), (.ref b32)])) _
  refine own_go (fun _ k => XS.iloadN X32.here hx rfl (hb hby d_prog_58_m2_4) rfl k) ?_
  show own_Go p e below (T32.setTop (mkF m 5 #[.val (.int p1), .val (.ref a2)] [(.int p1), (.ref b32), (.ref b32)])) _
  refine own_go (fun _ k => XS.iconst X32.here hx rfl (hb hby d_prog_58_m2_5) k) ?_
  show own_Go p e below (T32.setTop (mkF m 6 #[.val (.int p1), .val (.ref a2)] [(.int (-1 : Int32)), (.int p1), (.ref b32), (.ref b32)])) _
  refine own_go (fun _ k => XS.iconst X32.here hx rfl (hb hby d_prog_58_m2_6) k) ?_
  show own_Go p e below (T32.setTop (mkF m 7 #[.val (.int p1), .val (.ref a2)] [(.int (-1 : Int32)), (.int (-1 : Int32)), (.int p1), (.ref b32), (.ref b32)])) _
  refine own_go (fun _ k => XS.aloadN X32.here hx rfl (hb hby d_prog_58_m2_7) rfl rfl k) ?_
  show own_Go p e below (T32.setTop (mkF m 8 #[.val (.int p1), .val (.ref a2)] [(.ref a2), (.int (-1 : Int32)), (.int (-1 : Int32)), (.int p1), (.ref b32), (.ref b32)])) _
  obtain ⟨v33, _, ⟨T33, L33, k33, n33⟩, -, X33, hS33, hg33, ⟨Lc33, hQ33, l33, y33, z33, A33⟩, st33⟩ := X32.specialBackS hx (y := (⟨"com/example/rederive/rederive/PatternFault", "<init>", "(IIILjava/lang/String;)V"⟩ : MethodName)) rfl hown (mvT hZ (hw _ (List.mem_of_getElem? (i := 61) rfl))) (mvT hZ (hw _ (List.mem_of_getElem? (i := 34) rfl))) (mvT hZ (hw _ (List.mem_of_getElem? (i := 35) rfl))) (by decide) (backOfSH (W := 1) (rm_init l Z a0 hw [] b32 p1 (-1 : Int32) (-1 : Int32) a2 h32 n0 (O0.ext E32) A32 F32_pattern F32_body F32_constraint F32_message (Nat.le_trans Z0 (Nat.le_of_eq g32.symm)) Iff.rfl) hZ (hw _ (List.mem_of_getElem? (i := 35) rfl)) (hw _ (List.mem_of_getElem? (i := 32) rfl)) (by decide) (by decide) own_hEL own_chv0) (g := (mkF m 8 #[.val (.int p1), .val (.ref a2)] [(.ref a2), (.int (-1 : Int32)), (.int (-1 : Int32)), (.int p1), (.ref b32), (.ref b32)])) rfl (by rw [hml]; rfl) (Steps.refl _) (a := b32) (argsL := [(.int p1), (.int (-1 : Int32)), (.int (-1 : Int32)), (.ref a2)]) (rest := [(.ref b32)]) (lenOf pd_2 rfl) rfl (by show 2 * 0 + _ ≤ _; exact Nat.le_of_eq rfl) (hb hby d_prog_58_m2_8) (fun _ _ => ⟨rfl, e32, (by decide : 1 + 2 ≤ _), (by decide : 4 + 32 ≤ _)⟩)
  dsimp only [Pt.U, Pt.locs, Pt.cells, Pt.slots] at X33 l33 y33 z33 st33 hQ33 hS33 hg33 A33
  subst l33 y33 z33
  refine own_gos st33 ?_
  obtain ⟨X33, hS33, hZ33, hown33⟩ := rebS hS0 (k0 := _) (n1 := T32.heap.size) (by rw [e32]; exact (Nat.zero_le _)) X33 hS33 hg33 hZ hown
  obtain ⟨rfl, Nq33, K33, Fb33⟩ := hQ33
  have N33 := Fr.app N0 Nq33
  show own_Go p e below (T33.setTop (mkF m 11 #[.val (.int p1), .val (.ref a2)] [(.ref b32)])) _
  have f34 := (((Keep.refl h0 []).ext E32).trans K33 (allS (Or.inr (Nat.le_of_eq g32.symm)) all0))
  refine own_finW (v := (some (.ref b32))) X33 hh hZ33 hS33 (by rw [(rfl : T33.heap = T33.heap)]; exact (Nat.le_refl _)) (fun h => by rw [hrt] at h; cases h) hlk (fun fs hr => retR X33 hx hrt (by rfl) rfl rfl (hb hby d_prog_58_m2_11) hr) (QQ := QH Z h0 n0) ?_ own_hEL (rfl : T33.heap = T33.heap) (own_chr0 (Nat.le_trans E32.1 K33.1)) (by decide) (by decide)
  exact ⟨b32, rfl, N33, f34, (Nat.le_of_eq g32.symm), (A32.keep K33), Fb33⟩

def QB (r : Int32) (h0 : Heap) (n0 : Nat) (v : Option Value) (h : Heap) (L : List Loc) : Prop := v = some (.int r) ∧ Fr n0 L ∧ h = h0
theorem d_prog_58_m3_0 : decode prog_58_method_3_code 0 = .ok (.aload_n 0, 1) := by decide +kernel
theorem d_prog_58_m3_1 : decode prog_58_method_3_code 1 = .ok (.getfield 28, 3) := by decide +kernel
theorem d_prog_58_m3_4 : decode prog_58_method_3_code 4 = .ok (.iconst (-1), 1) := by decide +kernel
theorem d_prog_58_m3_5 : decode prog_58_method_3_code 5 = .ok (.if_icmp .ne 7, 3) := by decide +kernel
theorem d_prog_58_m3_8 : decode prog_58_method_3_code 8 = .ok (.iconst 1, 1) := by decide +kernel
theorem d_prog_58_m3_9 : decode prog_58_method_3_code 9 = .ok (.goto 4, 3) := by decide +kernel
theorem d_prog_58_m3_13 : decode prog_58_method_3_code 13 = .ok (.ireturn, 1) := by decide +kernel
theorem d_prog_58_m3_12 : decode prog_58_method_3_code 12 = .ok (.iconst 0, 1) := by decide +kernel
theorem ef_rm_isin (m : MethodId) (x0 : Addr) : entryFrame m #[(.ref x0)] 1 = mkF m 0 #[.val (.ref x0)] [] := by first | (simp [entryFrame, mkF, argsToLocals, Value.category]; done) | rfl
set_option maxRecDepth 65536 in
set_option maxHeartbeats 40000000 in
theorem rm_isin (l : Launch) (Z : State) (a0 : Array Value) (hw : ∀ d ∈ tables_1, d.before a0 Z = true) (ws : List Jvm.Cond) (a1 : Addr) (p2 : Int32) (r : Int32) (h0 : Heap) (n0 : Nat) (O0 : Old Z n0 h0) (E_a : Exa Z h0 a1 "com/example/rederive/rederive/PatternFault") (F_body : Fld Z h0 a1 "com/example/rederive/rederive/PatternFault" "body" "I" (.int p2)) (hr0 : r = if p2 = (-1 : Int32) then 1 else 0) :
    MetFree l (⟨"com/example/rederive/rederive/PatternFault", "isInHeader", "()Z"⟩ : MethodName) (head1 (Jvm.Cond.code (⟨"com/example/rederive/rederive/PatternFault", "isInHeader", "()Z"⟩ : MethodName) prog_58_method_3_code 1 (some .boolean) :: ws) ({ frames := 0, cells := 0, slots := 0, locals := 0 } : Room)) (fun a U => a = #[(.ref a1)] ∧ Z.Warmed39 U.vm ∧ U.heap = h0) (fun _ _ _ _ _ => True) (fun _ U o U' => ∃ v L, o = .returned v ∧ QB r h0 n0 v U'.heap L ∧ FrameEnd U o U' L 0 0) := by
  refine MetFree.of_bodySF (plainFor_of_name pn_2) hisR ?_
  intro p e s m args below meth c s₁ Bd hml0 hP hK
  obtain ⟨rfl, hZ, hh⟩ := hP
  have hx := Bd.exec
  have hby := Bd.bytes
  have hml : c.maxLocals = 1 := hml0
  have hown : s.vm.findClass "com/example/rederive/rederive/PatternFault" = some m.cls := findClass_of_methodNamed Bd.named
  have hnm := (name_of_methodNamed Bd.named Bd.method).1
  have hrt := Bd.returns
  have hlk : meth.locks = false := Bd.notSynchronized
  have X0 : Stand p l e ({ frames := 0, cells := 0, slots := 0, locals := 0 } : Room) s m #[(.ref a1)] below meth c s₁ [] 0 0 := Stand.of_body Bd
  have e0 : s₁.heap = h0 := by rw [← hh, Bd.state]; rfl
  have N0 := Fr.nil n0
  have Z0 : n0 ≤ h0.size := O0.1 ▸ O0.2.1
  show own_Go p e below (s₁.setTop (entryFrame m #[(.ref a1)] 1)) (fun o U' => ∃ v L, o = .returned v ∧ QB r h0 n0 v U'.heap L ∧ FrameEnd s o U' L 0 0)
  refine own_go (fun _ k => castTop (ef_rm_isin m a1) k) ?_
  show own_Go p e below (s₁.setTop (mkF m 0 #[.val (.ref a1)] [])) _
  refine own_go (fun _ k => XS.aloadN X0.here hx rfl (hb hby d_prog_58_m3_0) rfl rfl k) ?_
  show own_Go p e below (s₁.setTop (mkF m 1 #[.val (.ref a1)] [(.ref a1)])) _
  obtain ⟨T35, X35, e35, st35⟩ := getF X0 hx hZ hown (host := "") (Or.inl (hw _ (List.mem_of_getElem? (i := 51) rfl))) Via.refl e0 F_body (g := (mkF m 1 #[.val (.ref a1)] [(.ref a1)])) rfl rfl (hb hby d_prog_58_m3_1)
  refine own_go st35 ?_
  show own_Go p e below (T35.setTop (mkF m 4 #[.val (.ref a1)] [(.int p2)])) _
  refine own_go (fun _ k => XS.iconst X35.here hx rfl (hb hby d_prog_58_m3_4) k) ?_
  show own_Go p e below (T35.setTop (mkF m 5 #[.val (.ref a1)] [(.int (-1 : Int32)), (.int p2)])) _
  by_cases hc36 : p2 = (-1 : Int32)
  · skip
    refine own_go (fun _ k => XS.icmpNo X35.here hx rfl (hb hby d_prog_58_m3_5) rfl (teq hc36).2 k) ?_
    show own_Go p e below (T35.setTop (mkF m 8 #[.val (.ref a1)] [])) _
    refine own_go (fun _ k => XS.iconst X35.here hx rfl (hb hby d_prog_58_m3_8) k) ?_
    show own_Go p e below (T35.setTop (mkF m 9 #[.val (.ref a1)] [(.int (1 : Int32))])) _
    refine own_go (fun _ k => XS.goto X35.here hx rfl (pc0 := 9) (pc' := 13) rfl (hb hby d_prog_58_m3_9) (by decide) (by decide) k) ?_
    show own_Go p e below (T35.setTop (mkF m 13 #[.val (.ref a1)] [(.int (1 : Int32))])) _
    refine own_fin (v := (some (.int (nar .boolean (1 : Int32))))) X35 (fun h => by rw [hrt] at h; cases h) hlk (fun fs hr => retN X35 hx (t := .boolean) hrt (by simp) (hb hby d_prog_58_m3_13) hr) (QQ := QB r h0 n0) ?_ (by decide) (by decide)
    rw [e35]
    exact ⟨by rw [hr0, if_pos hc36]; rfl, N0, rfl⟩
  · skip
    refine own_go (fun _ k => XS.icmpYes X35.here hx rfl (pc0 := 5) (pc' := 12) rfl (hb hby d_prog_58_m3_5) rfl (feq hc36).2 (by decide) (by decide) k) ?_
    show own_Go p e below (T35.setTop (mkF m 12 #[.val (.ref a1)] [])) _
    refine own_go (fun _ k => XS.iconst X35.here hx rfl (hb hby d_prog_58_m3_12) k) ?_
    show own_Go p e below (T35.setTop (mkF m 13 #[.val (.ref a1)] [(.int (0 : Int32))])) _
    refine own_fin (v := (some (.int (nar .boolean (0 : Int32))))) X35 (fun h => by rw [hrt] at h; cases h) hlk (fun fs hr => retN X35 hx (t := .boolean) hrt (by simp) (hb hby d_prog_58_m3_13) hr) (QQ := QB r h0 n0) ?_ (by decide) (by decide)
    rw [e35]
    exact ⟨by rw [hr0, if_neg hc36]; rfl, N0, rfl⟩

theorem own_wStr {Z : State} {a0 : Array Value} (hw : ∀ d ∈ tables_1, d.before a0 Z = true) : ∀ d ∈ StrChars.Road.words, d.before a0 Z = true := fun d hd => hw d ((by decide +kernel : ∀ d ∈ StrChars.Road.words, d ∈ tables_1) d hd)
theorem own_xor1 {c : Int32} (h : c = (-1 : Int32)) : ¬ (c ^^^ (1 : Int32)) = (-1 : Int32) := by subst h; decide
def QQ0 (n0 : Nat) (v : Option Value) (h : Heap) (L : List Loc) : Prop := v = some (.int 1) ∧ Fr n0 L
theorem own_lat1 (x : Int32) : ∀ c ∈ ([(nar .char ((x &&& (255 : Int32)).toUInt32.toUInt16.toUInt32.toInt32))] : List Int32), ¬ c < 0 ∧ ¬ (255 : Int32) < c := fun c hc => by rcases List.mem_singleton.mp hc with rfl; exact own_and255 x
theorem pd_3 : parseMethodDescriptor "([C)V" = some ⟨[(.array .char)], none⟩ := by decide +kernel
theorem pd_4 : parseMethodDescriptor "(ILjava/lang/String;)Lcom/example/rederive/rederive/PatternFault;" = some ⟨[.int, (.object "java/lang/String")], some (.object "com/example/rederive/rederive/PatternFault")⟩ := by decide +kernel
theorem pd_5 : parseMethodDescriptor "()Z" = some ⟨[], some .boolean⟩ := by decide +kernel
theorem pn_3 : plainName "com/example/rederive/rederive/PatternFaultIsInHeaderPinLaw" = true := by first | (simp [plainName, overriddenIn]; done) | decide +kernel
theorem ef_rm_law (m : MethodId) (x0 : Int32) (x1 : Int32) (x2 : Int32) (x3 : Int32) : entryFrame m #[(.int x0), (.int x1), (.int x2), (.int x3)] maxLocals = mkF m 0 #[.val (.int x0), .val (.int x1), .val (.int x2), .val (.int x3), .unset, .unset, .unset, .unset, .unset, .unset, .unset, .unset] [] := by first | (simp [entryFrame, mkF, argsToLocals, Value.category, maxLocals]; done) | rfl
set_option maxRecDepth 65536 in
set_option maxHeartbeats 40000000 in
theorem rm_law (l : Launch) (Z : State) (a0 : Array Value) (hw : ∀ d ∈ tables_1, d.before a0 Z = true) (ws : List Jvm.Cond) (p1 : Int32) (p2 : Int32) (p3 : Int32) (p4 : Int32) (G1 : Int32) (h0 : Heap) (n0 : Nat) (O0 : Old Z n0 h0) (O2 : Sta Z Z.heap "java/lang/String" "COMPACT_STRINGS" "Z" (.int G1)) (P5 : ¬ (G1 = (0 : Int32))) :
    MetFree l x (head1 (Jvm.Cond.code x code maxLocals ret :: ws) room_1) (fun a U => a = #[(.int p1), (.int p2), (.int p3), (.int p4)] ∧ Z.Warmed39 U.vm ∧ U.heap = h0 ∧ CHv Z own_EL U.vm h0) (fun _ _ _ _ _ => True) (fun _ U o U' => ∃ v L, o = .returned v ∧ QQ0 n0 v U'.heap L ∧ CHr Z own_EL U.vm U.heap U'.vm U'.heap ∧ ReturnedEndW U o U' L 24 1152) := by
  refine MetFree.of_bodySF (plainFor_of_name pn_3) hisR ?_
  intro p e s m args below meth c s₁ Bd hml0 hP hK
  obtain ⟨rfl, hZ, hh, hC0⟩ := hP
  have hx := Bd.exec
  have hby := Bd.bytes
  have hml : c.maxLocals = maxLocals := hml0
  have hown : s.vm.findClass "com/example/rederive/rederive/PatternFaultIsInHeaderPinLaw" = some m.cls := findClass_of_methodNamed Bd.named
  have hnm := (name_of_methodNamed Bd.named Bd.method).1
  have hrt := Bd.returns
  have hlk : meth.locks = false := Bd.notSynchronized
  have X0 : Stand p l e room_1 (s.setVm s.vm) m #[(.int p1), (.int p2), (.int p3), (.int p4)] below meth c s₁ [] 0 0 := Stand.of_body Bd
  have e0 : s₁.heap = h0 := by rw [← hh, Bd.state]; rfl
  have N0 := Fr.nil n0
  have Z0 : n0 ≤ h0.size := O0.1 ▸ O0.2.1
  have hS0 : s.Since s.vm 0 := (State.WarmedH.refl s).since 0
  have C0 : CHr Z own_EL s.vm h0 s.vm h0 := CHr.refl hC0
  have own_wS := own_wSt hw
  have own_hEL := own_hELt hw
  show own_Go p e below (s₁.setTop (entryFrame m #[(.int p1), (.int p2), (.int p3), (.int p4)] maxLocals)) (fun o U' => ∃ v L, o = .returned v ∧ QQ0 n0 v U'.heap L ∧ CHr Z own_EL s.vm s.heap U'.vm U'.heap ∧ ReturnedEndW s o U' L 24 1152)
  refine own_go (fun _ k => castTop (ef_rm_law m p1 p2 p3 p4) k) ?_
  show own_Go p e below (s₁.setTop (mkF m 0 #[.val (.int p1), .val (.int p2), .val (.int p3), .val (.int p4), .unset, .unset, .unset, .unset, .unset, .unset, .unset, .unset] [])) _
  refine own_go (fun _ k => XS.iloadN X0.here hx rfl (hb hby at_0) rfl k) ?_
  show own_Go p e below (s₁.setTop (mkF m 1 #[.val (.int p1), .val (.int p2), .val (.int p3), .val (.int p4), .unset, .unset, .unset, .unset, .unset, .unset, .unset, .unset] [(.int p2)])) _
  refine own_go (fun _ k => XS.istore X0.here hx rfl (hb hby at_1) rfl (l' := #[.val (.int p1), .val (.int p2), .val (.int p3), .val (.int p4), .val (.int p2), .unset, .unset, .unset, .unset, .unset, .unset, .unset]) rfl k) ?_
  show own_Go p e below (s₁.setTop (mkF m 3 #[.val (.int p1), .val (.int p2), .val (.int p3), .val (.int p4), .val (.int p2), .unset, .unset, .unset, .unset, .unset, .unset, .unset] [])) _
  refine own_go (fun _ k => XS.iloadN X0.here hx rfl (hb hby at_3) rfl k) ?_
  show own_Go p e below (s₁.setTop (mkF m 4 #[.val (.int p1), .val (.int p2), .val (.int p3), .val (.int p4), .val (.int p2), .unset, .unset, .unset, .unset, .unset, .unset, .unset] [(.int p3)])) _
  refine own_go (fun _ k => XS.istore X0.here hx rfl (hb hby at_4) rfl (l' := #[.val (.int p1), .val (.int p2), .val (.int p3), .val (.int p4), .val (.int p2), .val (.int p3), .unset, .unset, .unset, .unset, .unset, .unset]) rfl k) ?_
  show own_Go p e below (s₁.setTop (mkF m 6 #[.val (.int p1), .val (.int p2), .val (.int p3), .val (.int p4), .val (.int p2), .val (.int p3), .unset, .unset, .unset, .unset, .unset, .unset] [])) _
  refine own_go (fun _ k => XS.iload X0.here hx rfl (hb hby at_6) rfl k) ?_
  show own_Go p e below (s₁.setTop (mkF m 8 #[.val (.int p1), .val (.int p2), .val (.int p3), .val (.int p4), .val (.int p2), .val (.int p3), .unset, .unset, .unset, .unset, .unset, .unset] [(.int p2)])) _
  refine own_go (fun _ k => XS.iconst X0.here hx rfl (hb hby at_8) k) ?_
  show own_Go p e below (s₁.setTop (mkF m 9 #[.val (.int p1), .val (.int p2), .val (.int p3), .val (.int p4), .val (.int p2), .val (.int p3), .unset, .unset, .unset, .unset, .unset, .unset] [(.int (-1 : Int32)), (.int p2)])) _
  by_cases hc37 : p2 = (-1 : Int32)
  · skip
    refine own_go (fun _ k => XS.icmpNo X0.here hx rfl (hb hby at_9) rfl (teq hc37).2 k) ?_
    show own_Go p e below (s₁.setTop (mkF m 12 #[.val (.int p1), .val (.int p2), .val (.int p3), .val (.int p4), .val (.int p2), .val (.int p3), .unset, .unset, .unset, .unset, .unset, .unset] [])) _
    refine own_go (fun _ k => XS.iconst X0.here hx rfl (hb hby at_12) k) ?_
    show own_Go p e below (s₁.setTop (mkF m 13 #[.val (.int p1), .val (.int p2), .val (.int p3), .val (.int p4), .val (.int p2), .val (.int p3), .unset, .unset, .unset, .unset, .unset, .unset] [(.int (1 : Int32))])) _
    refine own_go (fun _ k => XS.goto X0.here hx rfl (pc0 := 13) (pc' := 17) rfl (hb hby at_13) (by decide) (by decide) k) ?_
    show own_Go p e below (s₁.setTop (mkF m 17 #[.val (.int p1), .val (.int p2), .val (.int p3), .val (.int p4), .val (.int p2), .val (.int p3), .unset, .unset, .unset, .unset, .unset, .unset] [(.int (1 : Int32))])) _
    refine own_go (fun _ k => XS.iload X0.here hx rfl (hb hby at_17) rfl k) ?_
    show own_Go p e below (s₁.setTop (mkF m 19 #[.val (.int p1), .val (.int p2), .val (.int p3), .val (.int p4), .val (.int p2), .val (.int p3), .unset, .unset, .unset, .unset, .unset, .unset] [(.int p3), (.int (1 : Int32))])) _
    refine own_go (fun _ k => XS.iconst X0.here hx rfl (hb hby at_19) k) ?_
    show own_Go p e below (s₁.setTop (mkF m 20 #[.val (.int p1), .val (.int p2), .val (.int p3), .val (.int p4), .val (.int p2), .val (.int p3), .unset, .unset, .unset, .unset, .unset, .unset] [(.int (-1 : Int32)), (.int p3), (.int (1 : Int32))])) _
    by_cases hc38 : p3 = (-1 : Int32)
    · skip
      refine own_go (fun _ k => XS.icmpNo X0.here hx rfl (hb hby at_20) rfl (teq hc38).2 k) ?_
      show own_Go p e below (s₁.setTop (mkF m 23 #[.val (.int p1), .val (.int p2), .val (.int p3), .val (.int p4), .val (.int p2), .val (.int p3), .unset, .unset, .unset, .unset, .unset, .unset] [(.int (1 : Int32))])) _
      refine own_go (fun _ k => XS.iconst X0.here hx rfl (hb hby at_23) k) ?_
      show own_Go p e below (s₁.setTop (mkF m 24 #[.val (.int p1), .val (.int p2), .val (.int p3), .val (.int p4), .val (.int p2), .val (.int p3), .unset, .unset, .unset, .unset, .unset, .unset] [(.int (1 : Int32)), (.int (1 : Int32))])) _
      refine own_go (fun _ k => XS.goto X0.here hx rfl (pc0 := 24) (pc' := 28) rfl (hb hby at_24) (by decide) (by decide) k) ?_
      show own_Go p e below (s₁.setTop (mkF m 28 #[.val (.int p1), .val (.int p2), .val (.int p3), .val (.int p4), .val (.int p2), .val (.int p3), .unset, .unset, .unset, .unset, .unset, .unset] [(.int (1 : Int32)), (.int (1 : Int32))])) _
      refine own_go (fun _ k => XS.icmpYes X0.here hx rfl (pc0 := 28) (pc' := 49) rfl (hb hby at_28) rfl (teq (by decide : (1 : Int32) = (1 : Int32))).1 (by decide) (by decide) k) ?_
      show own_Go p e below (s₁.setTop (mkF m 49 #[.val (.int p1), .val (.int p2), .val (.int p3), .val (.int p4), .val (.int p2), .val (.int p3), .unset, .unset, .unset, .unset, .unset, .unset] [])) _
      have hcc : p3 = (-1 : Int32) := hc38
      have hbc : p2 = (-1 : Int32) ↔ p3 = (-1 : Int32) := ⟨fun _ => hcc, fun _ => hc37⟩
      refine own_go (fun _ k => XS.iconst X0.here hx rfl (hb hby at_49) k) ?_
      show own_Go p e below (s₁.setTop (mkF m 50 #[.val (.int p1), .val (.int p2), .val (.int p3), .val (.int p4), .val (.int p2), .val (.int p3), .unset, .unset, .unset, .unset, .unset, .unset] [(.int (1 : Int32))])) _
      obtain ⟨T39, h39, k39, X39, e39, E39, A39, st39⟩ := newP X0 hx hZ (hw _ (List.mem_of_getElem? (i := 0) rfl)) e0 (g := (mkF m 50 #[.val (.int p1), .val (.int p2), .val (.int p3), .val (.int p4), .val (.int p2), .val (.int p3), .unset, .unset, .unset, .unset, .unset, .unset] [(.int (1 : Int32))])) rfl (hb hby at_50) rfl (by decide) (cap := 1) (by decide) (by decide) (by decide) (by decide)
      obtain ⟨b39, g39⟩ : ∃ z, z = h0.size := ⟨_, rfl⟩
      rw [← g39] at A39 st39
      refine own_go st39 ?_
      have V39 : Arv Z h39 b39 k39 .char (1 : Int32) [(.int (0 : Int32))] (.int (0 : Int32)) := (Arv.new A39 (by decide)).pad (pad_rep [] (.int (0 : Int32)) 1)
      show own_Go p e below (T39.setTop (mkF m 52 #[.val (.int p1), .val (.int p2), .val (.int p3), .val (.int p4), .val (.int p2), .val (.int p3), .unset, .unset, .unset, .unset, .unset, .unset] [(.ref b39)])) _
      refine own_go (fun _ k => XS.astore X39.here hx rfl (hb hby at_52) rfl rfl (l' := #[.val (.int p1), .val (.int p2), .val (.int p3), .val (.int p4), .val (.int p2), .val (.int p3), .val (.ref b39), .unset, .unset, .unset, .unset, .unset]) rfl k) ?_
      show own_Go p e below (T39.setTop (mkF m 54 #[.val (.int p1), .val (.int p2), .val (.int p3), .val (.int p4), .val (.int p2), .val (.int p3), .val (.ref b39), .unset, .unset, .unset, .unset, .unset] [])) _
      refine own_go (fun _ k => XS.aload X39.here hx rfl (hb hby at_54) rfl rfl k) ?_
      show own_Go p e below (T39.setTop (mkF m 56 #[.val (.int p1), .val (.int p2), .val (.int p3), .val (.int p4), .val (.int p2), .val (.int p3), .val (.ref b39), .unset, .unset, .unset, .unset, .unset] [(.ref b39)])) _
      refine own_go (fun _ k => XS.iconst X39.here hx rfl (hb hby at_56) k) ?_
      show own_Go p e below (T39.setTop (mkF m 57 #[.val (.int p1), .val (.int p2), .val (.int p3), .val (.int p4), .val (.int p2), .val (.int p3), .val (.ref b39), .unset, .unset, .unset, .unset, .unset] [(.int (0 : Int32)), (.ref b39)])) _
      refine own_go (fun _ k => XS.iloadN X39.here hx rfl (hb hby at_57) rfl k) ?_
      show own_Go p e below (T39.setTop (mkF m 58 #[.val (.int p1), .val (.int p2), .val (.int p3), .val (.int p4), .val (.int p2), .val (.int p3), .val (.ref b39), .unset, .unset, .unset, .unset, .unset] [(.int p4), (.int (0 : Int32)), (.ref b39)])) _
      refine own_go (fun _ k => XS.sipush X39.here hx rfl (hb hby at_58) k) ?_
      show own_Go p e below (T39.setTop (mkF m 61 #[.val (.int p1), .val (.int p2), .val (.int p3), .val (.int p4), .val (.int p2), .val (.int p3), .val (.ref b39), .unset, .unset, .unset, .unset, .unset] [(.int (255 : Int32)), (.int p4), (.int (0 : Int32)), (.ref b39)])) _
      refine own_go (fun _ k => XS.iand X39.here hx rfl (hb hby at_61) rfl k) ?_
      show own_Go p e below (T39.setTop (mkF m 62 #[.val (.int p1), .val (.int p2), .val (.int p3), .val (.int p4), .val (.int p2), .val (.int p3), .val (.ref b39), .unset, .unset, .unset, .unset, .unset] [(.int (p4 &&& (255 : Int32))), (.int (0 : Int32)), (.ref b39)])) _
      refine own_go (fun _ k => XS.i2c X39.here hx rfl (hb hby at_62) rfl k) ?_
      show own_Go p e below (T39.setTop (mkF m 63 #[.val (.int p1), .val (.int p2), .val (.int p3), .val (.int p4), .val (.int p2), .val (.int p3), .val (.ref b39), .unset, .unset, .unset, .unset, .unset] [(.int ((p4 &&& (255 : Int32)).toUInt32.toUInt16.toUInt32.toInt32)), (.int (0 : Int32)), (.ref b39)])) _
      obtain ⟨c40, A40, q40, S40, M40, Hs40, Gs40⟩ := id V39
      obtain ⟨T41, h41, X41, e41, W41, st41⟩ := stC X39 hx hZ e39 A40 (j := (0 : Int32)) (inb_of S40 ⟨by decide, by decide⟩) (g := (mkF m 63 #[.val (.int p1), .val (.int p2), .val (.int p3), .val (.int p4), .val (.int p2), .val (.int p3), .val (.ref b39), .unset, .unset, .unset, .unset, .unset] [(.int ((p4 &&& (255 : Int32)).toUInt32.toUInt16.toUInt32.toInt32)), (.int (0 : Int32)), (.ref b39)])) rfl rfl (hb hby at_63)
      refine own_go st41 ?_
      have N41 := Fr.snoc X41 N0 (Nat.le_trans Z0 (Nat.le_of_eq g39.symm))
      have V41 : Arv Z h41 b39 k39 .char (1 : Int32) [(.int (nar .char ((p4 &&& (255 : Int32)).toUInt32.toUInt16.toUInt32.toInt32)))] (.int (0 : Int32)) := Arv.set A40 q40 S40 M40 Hs40 Gs40 (fits_nar_char _) W41 0 rfl (Nat.le_of_ble_eq_true rfl)
      show own_Go p e below (T41.setTop (mkF m 64 #[.val (.int p1), .val (.int p2), .val (.int p3), .val (.int p4), .val (.int p2), .val (.int p3), .val (.ref b39), .unset, .unset, .unset, .unset, .unset] [])) _
      obtain ⟨T42, h42, X42, e42, E42, A42, D42, U42, st42⟩ := newO X41 hx hZ hown (hw _ (List.mem_of_getElem? (i := 1) rfl)) (hw _ (List.mem_of_getElem? (i := 2) rfl)) (hw _ (List.mem_of_getElem? (i := 3) rfl)) e41 (g := (mkF m 64 #[.val (.int p1), .val (.int p2), .val (.int p3), .val (.int p4), .val (.int p2), .val (.int p3), .val (.ref b39), .unset, .unset, .unset, .unset, .unset] [])) rfl (hb hby at_64) (by decide) (by decide)
      obtain ⟨b42, g42⟩ : ∃ z, z = h41.size := ⟨_, rfl⟩
      rw [← g42] at A42 D42 U42 st42
      refine own_go st42 ?_
      have F42_coder : Fld Z h42 b42 "java/lang/String" "coder" "B" (.int (0 : Int32)) := D42 (Or.inr (hw _ (List.mem_of_getElem? (i := 27) rfl))) (ty := .byte) (by decide)
      have F42_value : Fld Z h42 b42 "java/lang/String" "value" "[B" .null := D42 (Or.inr (hw _ (List.mem_of_getElem? (i := 29) rfl))) (ty := (.array .byte)) (by decide)
      show own_Go p e below (T42.setTop (mkF m 67 #[.val (.int p1), .val (.int p2), .val (.int p3), .val (.int p4), .val (.int p2), .val (.int p3), .val (.ref b39), .unset, .unset, .unset, .unset, .unset] [(.ref b42)])) _
      refine own_go (fun _ k => XS.dup X42.here hx rfl (hb hby at_67) rfl rfl k) ?_
      show own_Go p e below (T42.setTop (mkF m 68 #[.val (.int p1), .val (.int p2), .val (.int p3), .val (.int p4), .val (.int p2), .val (.int p3), .val (.ref b39), .unset, .unset, .unset, .unset, .unset] [(.ref b42), (.ref b42)])) _
      refine own_go (fun _ k => XS.aload X42.here hx rfl (hb hby at_68) rfl rfl k) ?_
      show own_Go p e below (T42.setTop (mkF m 70 #[.val (.int p1), .val (.int p2), .val (.int p3), .val (.int p4), .val (.int p2), .val (.int p3), .val (.ref b39), .unset, .unset, .unset, .unset, .unset] [(.ref b39), (.ref b42), (.ref b42)])) _
      have f43 := (((O0.ext E39).wr W41 (Nat.le_trans Z0 (Nat.le_of_eq g39.symm))).ext E42)
      have z44 := (Nat.le_trans (Nat.le_trans E39.1 (Keep.of_wr W41).1) E42.1)
      obtain ⟨v45, _, ⟨T45, L45, k45, n45⟩, -, X45, ⟨Lc45, hQ45, l45, y45, z45⟩, st45⟩ := X42.specialBack hx (y := (⟨"java/lang/String", "<init>", "([C)V"⟩ : MethodName)) rfl hown (mvT hZ (hw _ (List.mem_of_getElem? (i := 4) rfl))) (mvT hZ (hw _ (List.mem_of_getElem? (i := 5) rfl))) (mvT hZ (hw _ (List.mem_of_getElem? (i := 6) rfl))) (by decide) (StrChars.Road.backV (W := 1) hZ (own_wStr hw) (kI := 4) (hw _ (List.mem_of_getElem? (i := 2) rfl)) (cs := ([(nar .char ((p4 &&& (255 : Int32)).toUInt32.toUInt16.toUInt32.toInt32))] : List Int32)) (bs := (([(nar .char ((p4 &&& (255 : Int32)).toUInt32.toUInt16.toUInt32.toInt32))] : List Int32)).map (fun c => c.toInt8.toInt32)) (n := 1) (Nat.le_trans Z0 (Nat.le_trans (Nat.le_trans E39.1 (Keep.of_wr W41).1) (Nat.le_of_eq g42.symm))) (Nat.le_trans Z0 z44) A42 F42_value F42_coder (V41.ext E42) (O2.ext f43.2) P5 rfl rfl (by decide) (by decide) (own_lat1 p4) rfl (by decide) (by decide)) (g := (mkF m 70 #[.val (.int p1), .val (.int p2), .val (.int p3), .val (.int p4), .val (.int p2), .val (.int p3), .val (.ref b39), .unset, .unset, .unset, .unset, .unset] [(.ref b39), (.ref b42), (.ref b42)])) rfl (by rw [hml]; rfl) (Steps.refl _) (a := b42) (argsL := [(.ref b39)]) (rest := [(.ref b42)]) (lenOf pd_3 rfl) rfl (by show 2 * 0 + _ ≤ _; exact Nat.le_of_eq rfl) (hb hby at_70) (fun _ _ => ⟨rfl, e42, (by decide : 2 + 1 ≤ _), (by decide : 5 + 1 ≤ _)⟩)
      dsimp only [Pt.U, Pt.locs, Pt.cells, Pt.slots] at X45 l45 y45 z45 st45 hQ45
      subst l45 y45 z45
      refine own_gos st45 ?_
      obtain ⟨rfl, Nq45, K45, Eq45, Fc45, t45, kt45, -, tg45, tn45, Fv45, Vt45⟩ := hQ45
      have N45 := Fr.app N41 Nq45
      show own_Go p e below (T45.setTop (mkF m 73 #[.val (.int p1), .val (.int p2), .val (.int p3), .val (.int p4), .val (.int p2), .val (.int p3), .val (.ref b39), .unset, .unset, .unset, .unset, .unset] [(.ref b42)])) _
      refine own_go (fun _ k => XS.astore X45.here hx rfl (hb hby at_73) rfl rfl (l' := #[.val (.int p1), .val (.int p2), .val (.int p3), .val (.int p4), .val (.int p2), .val (.int p3), .val (.ref b39), .val (.ref b42), .unset, .unset, .unset, .unset]) rfl k) ?_
      show own_Go p e below (T45.setTop (mkF m 75 #[.val (.int p1), .val (.int p2), .val (.int p3), .val (.int p4), .val (.int p2), .val (.int p3), .val (.ref b39), .val (.ref b42), .unset, .unset, .unset, .unset] [])) _
      obtain ⟨T46, h46, X46, e46, E46, A46, D46, U46, st46⟩ := newO X45 hx hZ hown (hw _ (List.mem_of_getElem? (i := 30) rfl)) (hw _ (List.mem_of_getElem? (i := 31) rfl)) (hw _ (List.mem_of_getElem? (i := 32) rfl)) (rfl : T45.heap = T45.heap) (g := (mkF m 75 #[.val (.int p1), .val (.int p2), .val (.int p3), .val (.int p4), .val (.int p2), .val (.int p3), .val (.ref b39), .val (.ref b42), .unset, .unset, .unset, .unset] [])) rfl (hb hby at_75) (by decide) (by decide)
      obtain ⟨b46, g46⟩ : ∃ z, z = T45.heap.size := ⟨_, rfl⟩
      rw [← g46] at A46 D46 U46 st46
      refine own_go st46 ?_
      have F46_pattern : Fld Z h46 b46 "com/example/rederive/rederive/PatternFault" "pattern" "I" (.int (0 : Int32)) := D46 (Or.inr (hw _ (List.mem_of_getElem? (i := 50) rfl))) (ty := .int) (by decide)
      have F46_body : Fld Z h46 b46 "com/example/rederive/rederive/PatternFault" "body" "I" (.int (0 : Int32)) := D46 (Or.inr (hw _ (List.mem_of_getElem? (i := 52) rfl))) (ty := .int) (by decide)
      have F46_constraint : Fld Z h46 b46 "com/example/rederive/rederive/PatternFault" "constraint" "I" (.int (0 : Int32)) := D46 (Or.inr (hw _ (List.mem_of_getElem? (i := 54) rfl))) (ty := .int) (by decide)
      have F46_message : Fld Z h46 b46 "com/example/rederive/rederive/PatternFault" "message" "Ljava/lang/String;" .null := D46 (Or.inr (hw _ (List.mem_of_getElem? (i := 56) rfl))) (ty := (.object "java/lang/String")) (by decide)
      show own_Go p e below (T46.setTop (mkF m 78 #[.val (.int p1), .val (.int p2), .val (.int p3), .val (.int p4), .val (.int p2), .val (.int p3), .val (.ref b39), .val (.ref b42), .unset, .unset, .unset, .unset] [(.ref b46)])) _
      refine own_go (fun _ k => XS.dup X46.here hx rfl (hb hby at_78) rfl rfl k) ?_
      show own_Go p e below (T46.setTop (mkF m 79 #[.val (.int p1), .val (.int p2), .val (.int p3), .val (.int p4), .val (.int p2), .val (.int p3), .val (.ref b39), .val (.ref b42), .unset, .unset, .unset, .unset] [(.ref b46), (.ref b46)])) _
      refine own_go (fun _ k => XS.iloadN X46.here hx rfl (hb hby at_79) rfl k) ?_
      show own_Go p e below (T46.setTop (mkF m 80 #[.val (.int p1), .val (.int p2), .val (.int p3), .val (.int p4), .val (.int p2), .val (.int p3), .val (.ref b39), .val (.ref b42), .unset, .unset, .unset, .unset] [(.int p1), (.ref b46), (.ref b46)])) _
      refine own_go (fun _ k => XS.iload X46.here hx rfl (hb hby at_80) rfl k) ?_
      show own_Go p e below (T46.setTop (mkF m 82 #[.val (.int p1), .val (.int p2), .val (.int p3), .val (.int p4), .val (.int p2), .val (.int p3), .val (.ref b39), .val (.ref b42), .unset, .unset, .unset, .unset] [(.int p2), (.int p1), (.ref b46), (.ref b46)])) _
      refine own_go (fun _ k => XS.iload X46.here hx rfl (hb hby at_82) rfl k) ?_
      show own_Go p e below (T46.setTop (mkF m 84 #[.val (.int p1), .val (.int p2), .val (.int p3), .val (.int p4), .val (.int p2), .val (.int p3), .val (.ref b39), .val (.ref b42), .unset, .unset, .unset, .unset] [(.int p3), (.int p2), (.int p1), (.ref b46), (.ref b46)])) _
      refine own_go (fun _ k => XS.aload X46.here hx rfl (hb hby at_84) rfl rfl k) ?_
      show own_Go p e below (T46.setTop (mkF m 86 #[.val (.int p1), .val (.int p2), .val (.int p3), .val (.int p4), .val (.int p2), .val (.int p3), .val (.ref b39), .val (.ref b42), .unset, .unset, .unset, .unset] [(.ref b42), (.int p3), (.int p2), (.int p1), (.ref b46), (.ref b46)])) _
      have f47 := ((f43.keep K45 (allS (Nat.le_trans Z0 (Nat.le_trans (Nat.le_trans E39.1 (Keep.of_wr W41).1) (Nat.le_of_eq g42.symm))) all0)).ext E46)
      obtain ⟨v48, _, ⟨T48, L48, k48, n48⟩, -, X48, hS48, hg48, ⟨Lc48, hQ48, l48, y48, z48, A48⟩, st48⟩ := X46.specialBackS hx (y := (⟨"com/example/rederive/rederive/PatternFault", "<init>", "(IIILjava/lang/String;)V"⟩ : MethodName)) rfl hown (mvT hZ (hw _ (List.mem_of_getElem? (i := 33) rfl))) (mvT hZ (hw _ (List.mem_of_getElem? (i := 34) rfl))) (mvT hZ (hw _ (List.mem_of_getElem? (i := 35) rfl))) (by decide) (backOfSH (W := 1) (rm_init l Z a0 hw [] b46 p1 p2 p3 b42 h46 n0 f47 A46 F46_pattern F46_body F46_constraint F46_message (Nat.le_trans Z0 (Nat.le_trans (Nat.le_trans z44 K45.1) (Nat.le_of_eq g46.symm))) hbc) hZ (hw _ (List.mem_of_getElem? (i := 35) rfl)) (hw _ (List.mem_of_getElem? (i := 32) rfl)) (by decide) (by decide) own_hEL own_chv0) (g := (mkF m 86 #[.val (.int p1), .val (.int p2), .val (.int p3), .val (.int p4), .val (.int p2), .val (.int p3), .val (.ref b39), .val (.ref b42), .unset, .unset, .unset, .unset] [(.ref b42), (.int p3), (.int p2), (.int p1), (.ref b46), (.ref b46)])) rfl (by rw [hml]; rfl) (Steps.refl _) (a := b46) (argsL := [(.int p1), (.int p2), (.int p3), (.ref b42)]) (rest := [(.ref b46)]) (lenOf pd_2 rfl) rfl (by show 2 * 0 + _ ≤ _; exact Nat.le_of_eq rfl) (hb hby at_86) (fun _ _ => ⟨rfl, e46, (by decide : 4 + 2 ≤ _), (by decide : 10 + 32 ≤ _)⟩)
      dsimp only [Pt.U, Pt.locs, Pt.cells, Pt.slots] at X48 l48 y48 z48 st48 hQ48 hS48 hg48 A48
      subst l48 y48 z48
      refine own_gos st48 ?_
      obtain ⟨X48, hS48, hZ48, hown48⟩ := rebS hS0 (k0 := _) (n1 := T46.heap.size) (by rw [e46]; exact (Nat.zero_le _)) X48 hS48 hg48 hZ hown
      obtain ⟨rfl, Nq48, K48, Fb48⟩ := hQ48
      have N48 := Fr.app N45 Nq48
      show own_Go p e below (T48.setTop (mkF m 89 #[.val (.int p1), .val (.int p2), .val (.int p3), .val (.int p4), .val (.int p2), .val (.int p3), .val (.ref b39), .val (.ref b42), .unset, .unset, .unset, .unset] [(.ref b46)])) _
      refine own_go (fun _ k => XS.astore X48.here hx rfl (hb hby at_89) rfl rfl (l' := #[.val (.int p1), .val (.int p2), .val (.int p3), .val (.int p4), .val (.int p2), .val (.int p3), .val (.ref b39), .val (.ref b42), .val (.ref b46), .unset, .unset, .unset]) rfl k) ?_
      show own_Go p e below (T48.setTop (mkF m 91 #[.val (.int p1), .val (.int p2), .val (.int p3), .val (.int p4), .val (.int p2), .val (.int p3), .val (.ref b39), .val (.ref b42), .val (.ref b46), .unset, .unset, .unset] [])) _
      refine own_go (fun _ k => XS.iloadN X48.here hx rfl (hb hby at_91) rfl k) ?_
      show own_Go p e below (T48.setTop (mkF m 92 #[.val (.int p1), .val (.int p2), .val (.int p3), .val (.int p4), .val (.int p2), .val (.int p3), .val (.ref b39), .val (.ref b42), .val (.ref b46), .unset, .unset, .unset] [(.int p1)])) _
      refine own_go (fun _ k => XS.aload X48.here hx rfl (hb hby at_92) rfl rfl k) ?_
      show own_Go p e below (T48.setTop (mkF m 94 #[.val (.int p1), .val (.int p2), .val (.int p3), .val (.int p4), .val (.int p2), .val (.int p3), .val (.ref b39), .val (.ref b42), .val (.ref b46), .unset, .unset, .unset] [(.ref b42), (.int p1)])) _
      have f49 := (f47.keep K48 (allS (Nat.le_trans Z0 (Nat.le_trans (Nat.le_trans z44 K45.1) (Nat.le_of_eq g46.symm))) all0))
      obtain ⟨v50, _, ⟨T50, L50, k50, n50⟩, -, X50, hS50, hg50, ⟨Lc50, hQ50, l50, y50, z50, A50⟩, st50⟩ := callSS X48 hx (y := (⟨"com/example/rederive/rederive/PatternFault", "inHeader", "(ILjava/lang/String;)Lcom/example/rederive/rederive/PatternFault;"⟩ : MethodName)) hown48 (mvT hZ48 (hw _ (List.mem_of_getElem? (i := 57) rfl))) (mvT hZ48 (hw _ (List.mem_of_getElem? (i := 58) rfl))) (mvT hZ48 (hw _ (List.mem_of_getElem? (i := 32) rfl))) (mvT hZ48 (hw _ (List.mem_of_getElem? (i := 59) rfl))) (by decide) (backOfSH (W := 0) (rm_inh l Z a0 hw [] p1 b42 T48.heap n0 f49 ) hZ48 (hw _ (List.mem_of_getElem? (i := 59) rfl)) (hw _ (List.mem_of_getElem? (i := 32) rfl)) (by decide) (by decide) own_hEL own_chv0) (g := (mkF m 94 #[.val (.int p1), .val (.int p2), .val (.int p3), .val (.int p4), .val (.int p2), .val (.int p3), .val (.ref b39), .val (.ref b42), .val (.ref b46), .unset, .unset, .unset] [(.ref b42), (.int p1)])) rfl (by rw [hml]; rfl) (argsL := [(.int p1), (.ref b42)]) (rest := []) (lenOf pd_4 rfl) rfl (by show 2 * 0 + _ ≤ _; exact Nat.le_of_eq rfl) (hb hby at_94) (fun _ _ => ⟨rfl, (rfl : T48.heap = T48.heap), (by decide : 6 + 3 ≤ _), (by decide : 42 + 36 ≤ _)⟩)
      dsimp only [Pt.U, Pt.locs, Pt.cells, Pt.slots] at X50 l50 y50 z50 st50 hQ50 hS50 hg50 A50
      subst l50 y50 z50
      refine own_gos st50 ?_
      obtain ⟨X50, hS50, hZ50, hown50⟩ := rebS hS48 (k0 := _) (n1 := T48.heap.size) (by rw [(rfl : T48.heap = T48.heap)]; exact (Nat.le_refl _)) X50 hS50 hg50 hZ48 hown48
      obtain ⟨x50, rfl, Nq50, K50, gx50, Ex50, Fb50⟩ := hQ50
      have N50 := Fr.app N48 Nq50
      show own_Go p e below (T50.setTop (mkF m 97 #[.val (.int p1), .val (.int p2), .val (.int p3), .val (.int p4), .val (.int p2), .val (.int p3), .val (.ref b39), .val (.ref b42), .val (.ref b46), .unset, .unset, .unset] [(.ref x50)])) _
      refine own_go (fun _ k => XS.astore X50.here hx rfl (hb hby at_97) rfl rfl (l' := #[.val (.int p1), .val (.int p2), .val (.int p3), .val (.int p4), .val (.int p2), .val (.int p3), .val (.ref b39), .val (.ref b42), .val (.ref b46), .val (.ref x50), .unset, .unset]) rfl k) ?_
      show own_Go p e below (T50.setTop (mkF m 99 #[.val (.int p1), .val (.int p2), .val (.int p3), .val (.int p4), .val (.int p2), .val (.int p3), .val (.ref b39), .val (.ref b42), .val (.ref b46), .val (.ref x50), .unset, .unset] [])) _
      refine own_go (fun _ k => XS.aload X50.here hx rfl (hb hby at_99) rfl rfl k) ?_
      show own_Go p e below (T50.setTop (mkF m 101 #[.val (.int p1), .val (.int p2), .val (.int p3), .val (.int p4), .val (.int p2), .val (.int p3), .val (.ref b39), .val (.ref b42), .val (.ref b46), .val (.ref x50), .unset, .unset] [(.ref b46)])) _
      have f51 := ((A46.keep K48).keep K50)
      obtain ⟨cq52, kq52, q52a, q52b, q52c⟩ := isOf hZ50 (rfl : T50.heap = T50.heap) f51
      obtain ⟨v52, _, ⟨T52, L52, k52, n52⟩, -, X52, ⟨Lc52, hQ52, l52, y52, z52⟩, st52⟩ := X50.virtualBack hx (y := (⟨"com/example/rederive/rederive/PatternFault", "isInHeader", "()Z"⟩ : MethodName)) (z := (⟨"com/example/rederive/rederive/PatternFault", "isInHeader", "()Z"⟩ : MethodName)) hown50 (mvT hZ50 (hw _ (List.mem_of_getElem? (i := 62) rfl))) (mvT hZ50 (hw _ (List.mem_of_getElem? (i := 63) rfl))) (notFace_of_selects (args := #[]) (mvT hZ50 (hw _ (List.mem_of_getElem? (i := 65) rfl)))) (mvT hZ50 (hw _ (List.mem_of_getElem? (i := 65) rfl))) (mvT hZ50 (hw _ (List.mem_of_getElem? (i := 64) rfl))) (by decide) (backOf (W := 0) (rm_isin l Z a0 hw [] b46 p2 (1 : Int32) T50.heap n0 (f49.keep K50 all0) f51 (Fb48.keep K50 nin0) (if_pos hc37).symm) hZ50 (hw _ (List.mem_of_getElem? (i := 66) rfl)) (hw _ (List.mem_of_getElem? (i := 32) rfl)) (by decide) (by decide)) q52a q52c (g := (mkF m 101 #[.val (.int p1), .val (.int p2), .val (.int p3), .val (.int p4), .val (.int p2), .val (.int p3), .val (.ref b39), .val (.ref b42), .val (.ref b46), .val (.ref x50), .unset, .unset] [(.ref b46)])) rfl (by rw [hml]; rfl) (Steps.refl _) (argsL := []) (rest := []) (lenOf pd_5 rfl) rfl (by show 2 * 0 + _ ≤ _; exact Nat.le_of_eq rfl) (hb hby at_101) (fun _ _ => ⟨rfl, (rfl : T50.heap = T50.heap), (by decide : 9 + 0 ≤ _), (by decide : 78 + 0 ≤ _)⟩)
      dsimp only [Pt.U, Pt.locs, Pt.cells, Pt.slots] at X52 l52 y52 z52 st52 hQ52
      subst l52 y52 z52
      refine own_gos st52 ?_
      obtain ⟨rfl, Nq52, e52⟩ := hQ52
      have N52 := Fr.app N50 Nq52
      show own_Go p e below (T52.setTop (mkF m 104 #[.val (.int p1), .val (.int p2), .val (.int p3), .val (.int p4), .val (.int p2), .val (.int p3), .val (.ref b39), .val (.ref b42), .val (.ref b46), .val (.ref x50), .unset, .unset] [(.int (1 : Int32))])) _
      refine own_go (fun _ k => XS.istore X52.here hx rfl (hb hby at_104) rfl (l' := #[.val (.int p1), .val (.int p2), .val (.int p3), .val (.int p4), .val (.int p2), .val (.int p3), .val (.ref b39), .val (.ref b42), .val (.ref b46), .val (.ref x50), .val (.int (1 : Int32)), .unset]) rfl k) ?_
      show own_Go p e below (T52.setTop (mkF m 106 #[.val (.int p1), .val (.int p2), .val (.int p3), .val (.int p4), .val (.int p2), .val (.int p3), .val (.ref b39), .val (.ref b42), .val (.ref b46), .val (.ref x50), .val (.int (1 : Int32)), .unset] [])) _
      refine own_go (fun _ k => XS.iconst X52.here hx rfl (hb hby at_106) k) ?_
      show own_Go p e below (T52.setTop (mkF m 107 #[.val (.int p1), .val (.int p2), .val (.int p3), .val (.int p4), .val (.int p2), .val (.int p3), .val (.ref b39), .val (.ref b42), .val (.ref b46), .val (.ref x50), .val (.int (1 : Int32)), .unset] [(.int (1 : Int32))])) _
      refine own_go (fun _ k => XS.istore X52.here hx rfl (hb hby at_107) rfl (l' := #[.val (.int p1), .val (.int p2), .val (.int p3), .val (.int p4), .val (.int p2), .val (.int p3), .val (.ref b39), .val (.ref b42), .val (.ref b46), .val (.ref x50), .val (.int (1 : Int32)), .val (.int (1 : Int32))]) rfl k) ?_
      show own_Go p e below (T52.setTop (mkF m 109 #[.val (.int p1), .val (.int p2), .val (.int p3), .val (.int p4), .val (.int p2), .val (.int p3), .val (.ref b39), .val (.ref b42), .val (.ref b46), .val (.ref x50), .val (.int (1 : Int32)), .val (.int (1 : Int32))] [])) _
      refine own_go (fun _ k => XS.iload X52.here hx rfl (hb hby at_109) rfl k) ?_
      show own_Go p e below (T52.setTop (mkF m 111 #[.val (.int p1), .val (.int p2), .val (.int p3), .val (.int p4), .val (.int p2), .val (.int p3), .val (.ref b39), .val (.ref b42), .val (.ref b46), .val (.ref x50), .val (.int (1 : Int32)), .val (.int (1 : Int32))] [(.int (1 : Int32))])) _
      refine own_go (fun _ k => XS.ifNo X52.here hx rfl (hb hby at_111) rfl ((if0 _ _).trans (feq (by decide : ¬ ((1 : Int32) = (0 : Int32)))).1) k) ?_
      show own_Go p e below (T52.setTop (mkF m 114 #[.val (.int p1), .val (.int p2), .val (.int p3), .val (.int p4), .val (.int p2), .val (.int p3), .val (.ref b39), .val (.ref b42), .val (.ref b46), .val (.ref x50), .val (.int (1 : Int32)), .val (.int (1 : Int32))] [])) _
      refine own_go (fun _ k => XS.iload X52.here hx rfl (hb hby at_114) rfl k) ?_
      show own_Go p e below (T52.setTop (mkF m 116 #[.val (.int p1), .val (.int p2), .val (.int p3), .val (.int p4), .val (.int p2), .val (.int p3), .val (.ref b39), .val (.ref b42), .val (.ref b46), .val (.ref x50), .val (.int (1 : Int32)), .val (.int (1 : Int32))] [(.int (1 : Int32))])) _
      refine own_go (fun _ k => XS.iload X52.here hx rfl (hb hby at_116) rfl k) ?_
      show own_Go p e below (T52.setTop (mkF m 118 #[.val (.int p1), .val (.int p2), .val (.int p3), .val (.int p4), .val (.int p2), .val (.int p3), .val (.ref b39), .val (.ref b42), .val (.ref b46), .val (.ref x50), .val (.int (1 : Int32)), .val (.int (1 : Int32))] [(.int p2), (.int (1 : Int32))])) _
      refine own_go (fun _ k => XS.iconst X52.here hx rfl (hb hby at_118) k) ?_
      show own_Go p e below (T52.setTop (mkF m 119 #[.val (.int p1), .val (.int p2), .val (.int p3), .val (.int p4), .val (.int p2), .val (.int p3), .val (.ref b39), .val (.ref b42), .val (.ref b46), .val (.ref x50), .val (.int (1 : Int32)), .val (.int (1 : Int32))] [(.int (-1 : Int32)), (.int p2), (.int (1 : Int32))])) _
      refine own_go (fun _ k => XS.icmpNo X52.here hx rfl (hb hby at_119) rfl (teq hc37).2 k) ?_
      show own_Go p e below (T52.setTop (mkF m 122 #[.val (.int p1), .val (.int p2), .val (.int p3), .val (.int p4), .val (.int p2), .val (.int p3), .val (.ref b39), .val (.ref b42), .val (.ref b46), .val (.ref x50), .val (.int (1 : Int32)), .val (.int (1 : Int32))] [(.int (1 : Int32))])) _
      refine own_go (fun _ k => XS.iconst X52.here hx rfl (hb hby at_122) k) ?_
      show own_Go p e below (T52.setTop (mkF m 123 #[.val (.int p1), .val (.int p2), .val (.int p3), .val (.int p4), .val (.int p2), .val (.int p3), .val (.ref b39), .val (.ref b42), .val (.ref b46), .val (.ref x50), .val (.int (1 : Int32)), .val (.int (1 : Int32))] [(.int (1 : Int32)), (.int (1 : Int32))])) _
      refine own_go (fun _ k => XS.goto X52.here hx rfl (pc0 := 123) (pc' := 127) rfl (hb hby at_123) (by decide) (by decide) k) ?_
      show own_Go p e below (T52.setTop (mkF m 127 #[.val (.int p1), .val (.int p2), .val (.int p3), .val (.int p4), .val (.int p2), .val (.int p3), .val (.ref b39), .val (.ref b42), .val (.ref b46), .val (.ref x50), .val (.int (1 : Int32)), .val (.int (1 : Int32))] [(.int (1 : Int32)), (.int (1 : Int32))])) _
      refine own_go (fun _ k => XS.icmpNo X52.here hx rfl (hb hby at_127) rfl (teq (by decide : (1 : Int32) = (1 : Int32))).2 k) ?_
      show own_Go p e below (T52.setTop (mkF m 130 #[.val (.int p1), .val (.int p2), .val (.int p3), .val (.int p4), .val (.int p2), .val (.int p3), .val (.ref b39), .val (.ref b42), .val (.ref b46), .val (.ref x50), .val (.int (1 : Int32)), .val (.int (1 : Int32))] [])) _
      refine own_go (fun _ k => XS.iconst X52.here hx rfl (hb hby at_130) k) ?_
      show own_Go p e below (T52.setTop (mkF m 131 #[.val (.int p1), .val (.int p2), .val (.int p3), .val (.int p4), .val (.int p2), .val (.int p3), .val (.ref b39), .val (.ref b42), .val (.ref b46), .val (.ref x50), .val (.int (1 : Int32)), .val (.int (1 : Int32))] [(.int (1 : Int32))])) _
      refine own_go (fun _ k => XS.goto X52.here hx rfl (pc0 := 131) (pc' := 135) rfl (hb hby at_131) (by decide) (by decide) k) ?_
      show own_Go p e below (T52.setTop (mkF m 135 #[.val (.int p1), .val (.int p2), .val (.int p3), .val (.int p4), .val (.int p2), .val (.int p3), .val (.ref b39), .val (.ref b42), .val (.ref b46), .val (.ref x50), .val (.int (1 : Int32)), .val (.int (1 : Int32))] [(.int (1 : Int32))])) _
      refine own_go (fun _ k => XS.istore X52.here hx rfl (hb hby at_135) rfl (l' := #[.val (.int p1), .val (.int p2), .val (.int p3), .val (.int p4), .val (.int p2), .val (.int p3), .val (.ref b39), .val (.ref b42), .val (.ref b46), .val (.ref x50), .val (.int (1 : Int32)), .val (.int (1 : Int32))]) rfl k) ?_
      show own_Go p e below (T52.setTop (mkF m 137 #[.val (.int p1), .val (.int p2), .val (.int p3), .val (.int p4), .val (.int p2), .val (.int p3), .val (.ref b39), .val (.ref b42), .val (.ref b46), .val (.ref x50), .val (.int (1 : Int32)), .val (.int (1 : Int32))] [])) _
      refine own_go (fun _ k => XS.iload X52.here hx rfl (hb hby at_137) rfl k) ?_
      show own_Go p e below (T52.setTop (mkF m 139 #[.val (.int p1), .val (.int p2), .val (.int p3), .val (.int p4), .val (.int p2), .val (.int p3), .val (.ref b39), .val (.ref b42), .val (.ref b46), .val (.ref x50), .val (.int (1 : Int32)), .val (.int (1 : Int32))] [(.int (1 : Int32))])) _
      refine own_go (fun _ k => XS.ifNo X52.here hx rfl (hb hby at_139) rfl ((if0 _ _).trans (feq (by decide : ¬ ((1 : Int32) = (0 : Int32)))).1) k) ?_
      show own_Go p e below (T52.setTop (mkF m 142 #[.val (.int p1), .val (.int p2), .val (.int p3), .val (.int p4), .val (.int p2), .val (.int p3), .val (.ref b39), .val (.ref b42), .val (.ref b46), .val (.ref x50), .val (.int (1 : Int32)), .val (.int (1 : Int32))] [])) _
      refine own_go (fun _ k => XS.iload X52.here hx rfl (hb hby at_142) rfl k) ?_
      show own_Go p e below (T52.setTop (mkF m 144 #[.val (.int p1), .val (.int p2), .val (.int p3), .val (.int p4), .val (.int p2), .val (.int p3), .val (.ref b39), .val (.ref b42), .val (.ref b46), .val (.ref x50), .val (.int (1 : Int32)), .val (.int (1 : Int32))] [(.int (1 : Int32))])) _
      refine own_go (fun _ k => XS.iload X52.here hx rfl (hb hby at_144) rfl k) ?_
      show own_Go p e below (T52.setTop (mkF m 146 #[.val (.int p1), .val (.int p2), .val (.int p3), .val (.int p4), .val (.int p2), .val (.int p3), .val (.ref b39), .val (.ref b42), .val (.ref b46), .val (.ref x50), .val (.int (1 : Int32)), .val (.int (1 : Int32))] [(.int p3), (.int (1 : Int32))])) _
      refine own_go (fun _ k => XS.iconst X52.here hx rfl (hb hby at_146) k) ?_
      show own_Go p e below (T52.setTop (mkF m 147 #[.val (.int p1), .val (.int p2), .val (.int p3), .val (.int p4), .val (.int p2), .val (.int p3), .val (.ref b39), .val (.ref b42), .val (.ref b46), .val (.ref x50), .val (.int (1 : Int32)), .val (.int (1 : Int32))] [(.int (-1 : Int32)), (.int p3), (.int (1 : Int32))])) _
      refine own_go (fun _ k => XS.icmpNo X52.here hx rfl (hb hby at_147) rfl (teq hcc).2 k) ?_
      show own_Go p e below (T52.setTop (mkF m 150 #[.val (.int p1), .val (.int p2), .val (.int p3), .val (.int p4), .val (.int p2), .val (.int p3), .val (.ref b39), .val (.ref b42), .val (.ref b46), .val (.ref x50), .val (.int (1 : Int32)), .val (.int (1 : Int32))] [(.int (1 : Int32))])) _
      refine own_go (fun _ k => XS.iconst X52.here hx rfl (hb hby at_150) k) ?_
      show own_Go p e below (T52.setTop (mkF m 151 #[.val (.int p1), .val (.int p2), .val (.int p3), .val (.int p4), .val (.int p2), .val (.int p3), .val (.ref b39), .val (.ref b42), .val (.ref b46), .val (.ref x50), .val (.int (1 : Int32)), .val (.int (1 : Int32))] [(.int (1 : Int32)), (.int (1 : Int32))])) _
      refine own_go (fun _ k => XS.goto X52.here hx rfl (pc0 := 151) (pc' := 155) rfl (hb hby at_151) (by decide) (by decide) k) ?_
      show own_Go p e below (T52.setTop (mkF m 155 #[.val (.int p1), .val (.int p2), .val (.int p3), .val (.int p4), .val (.int p2), .val (.int p3), .val (.ref b39), .val (.ref b42), .val (.ref b46), .val (.ref x50), .val (.int (1 : Int32)), .val (.int (1 : Int32))] [(.int (1 : Int32)), (.int (1 : Int32))])) _
      refine own_go (fun _ k => XS.icmpNo X52.here hx rfl (hb hby at_155) rfl (teq (by decide : (1 : Int32) = (1 : Int32))).2 k) ?_
      show own_Go p e below (T52.setTop (mkF m 158 #[.val (.int p1), .val (.int p2), .val (.int p3), .val (.int p4), .val (.int p2), .val (.int p3), .val (.ref b39), .val (.ref b42), .val (.ref b46), .val (.ref x50), .val (.int (1 : Int32)), .val (.int (1 : Int32))] [])) _
      refine own_go (fun _ k => XS.iconst X52.here hx rfl (hb hby at_158) k) ?_
      show own_Go p e below (T52.setTop (mkF m 159 #[.val (.int p1), .val (.int p2), .val (.int p3), .val (.int p4), .val (.int p2), .val (.int p3), .val (.ref b39), .val (.ref b42), .val (.ref b46), .val (.ref x50), .val (.int (1 : Int32)), .val (.int (1 : Int32))] [(.int (1 : Int32))])) _
      refine own_go (fun _ k => XS.goto X52.here hx rfl (pc0 := 159) (pc' := 163) rfl (hb hby at_159) (by decide) (by decide) k) ?_
      show own_Go p e below (T52.setTop (mkF m 163 #[.val (.int p1), .val (.int p2), .val (.int p3), .val (.int p4), .val (.int p2), .val (.int p3), .val (.ref b39), .val (.ref b42), .val (.ref b46), .val (.ref x50), .val (.int (1 : Int32)), .val (.int (1 : Int32))] [(.int (1 : Int32))])) _
      refine own_go (fun _ k => XS.istore X52.here hx rfl (hb hby at_163) rfl (l' := #[.val (.int p1), .val (.int p2), .val (.int p3), .val (.int p4), .val (.int p2), .val (.int p3), .val (.ref b39), .val (.ref b42), .val (.ref b46), .val (.ref x50), .val (.int (1 : Int32)), .val (.int (1 : Int32))]) rfl k) ?_
      show own_Go p e below (T52.setTop (mkF m 165 #[.val (.int p1), .val (.int p2), .val (.int p3), .val (.int p4), .val (.int p2), .val (.int p3), .val (.ref b39), .val (.ref b42), .val (.ref b46), .val (.ref x50), .val (.int (1 : Int32)), .val (.int (1 : Int32))] [])) _
      refine own_go (fun _ k => XS.iload X52.here hx rfl (hb hby at_165) rfl k) ?_
      show own_Go p e below (T52.setTop (mkF m 167 #[.val (.int p1), .val (.int p2), .val (.int p3), .val (.int p4), .val (.int p2), .val (.int p3), .val (.ref b39), .val (.ref b42), .val (.ref b46), .val (.ref x50), .val (.int (1 : Int32)), .val (.int (1 : Int32))] [(.int (1 : Int32))])) _
      refine own_go (fun _ k => XS.ifNo X52.here hx rfl (hb hby at_167) rfl ((if0 _ _).trans (feq (by decide : ¬ ((1 : Int32) = (0 : Int32)))).1) k) ?_
      show own_Go p e below (T52.setTop (mkF m 170 #[.val (.int p1), .val (.int p2), .val (.int p3), .val (.int p4), .val (.int p2), .val (.int p3), .val (.ref b39), .val (.ref b42), .val (.ref b46), .val (.ref x50), .val (.int (1 : Int32)), .val (.int (1 : Int32))] [])) _
      refine own_go (fun _ k => XS.aload X52.here hx rfl (hb hby at_170) rfl rfl k) ?_
      show own_Go p e below (T52.setTop (mkF m 172 #[.val (.int p1), .val (.int p2), .val (.int p3), .val (.int p4), .val (.int p2), .val (.int p3), .val (.ref b39), .val (.ref b42), .val (.ref b46), .val (.ref x50), .val (.int (1 : Int32)), .val (.int (1 : Int32))] [(.ref x50)])) _
      obtain ⟨cq53, kq53, q53a, q53b, q53c⟩ := isOf hZ50 e52 Ex50
      obtain ⟨v53, _, ⟨T53, L53, k53, n53⟩, -, X53, ⟨Lc53, hQ53, l53, y53, z53⟩, st53⟩ := X52.virtualBack hx (y := (⟨"com/example/rederive/rederive/PatternFault", "isInHeader", "()Z"⟩ : MethodName)) (z := (⟨"com/example/rederive/rederive/PatternFault", "isInHeader", "()Z"⟩ : MethodName)) hown50 (mvT hZ50 (hw _ (List.mem_of_getElem? (i := 62) rfl))) (mvT hZ50 (hw _ (List.mem_of_getElem? (i := 63) rfl))) (notFace_of_selects (args := #[]) (mvT hZ50 (hw _ (List.mem_of_getElem? (i := 65) rfl)))) (mvT hZ50 (hw _ (List.mem_of_getElem? (i := 65) rfl))) (mvT hZ50 (hw _ (List.mem_of_getElem? (i := 64) rfl))) (by decide) (backOf (W := 0) (rm_isin l Z a0 hw [] x50 (-1 : Int32) (1 : Int32) T50.heap n0 (f49.keep K50 all0) Ex50 Fb50 (by decide)) hZ50 (hw _ (List.mem_of_getElem? (i := 66) rfl)) (hw _ (List.mem_of_getElem? (i := 32) rfl)) (by decide) (by decide)) q53a q53c (g := (mkF m 172 #[.val (.int p1), .val (.int p2), .val (.int p3), .val (.int p4), .val (.int p2), .val (.int p3), .val (.ref b39), .val (.ref b42), .val (.ref b46), .val (.ref x50), .val (.int (1 : Int32)), .val (.int (1 : Int32))] [(.ref x50)])) rfl (by rw [hml]; rfl) (Steps.refl _) (argsL := []) (rest := []) (lenOf pd_5 rfl) rfl (by show 2 * 0 + _ ≤ _; exact Nat.le_of_eq rfl) (hb hby at_172) (fun _ _ => ⟨rfl, e52, (by decide : 9 + 0 ≤ _), (by decide : 78 + 0 ≤ _)⟩)
      dsimp only [Pt.U, Pt.locs, Pt.cells, Pt.slots] at X53 l53 y53 z53 st53 hQ53
      subst l53 y53 z53
      refine own_gos st53 ?_
      obtain ⟨rfl, Nq53, e53⟩ := hQ53
      have N53 := Fr.app N52 Nq53
      show own_Go p e below (T53.setTop (mkF m 175 #[.val (.int p1), .val (.int p2), .val (.int p3), .val (.int p4), .val (.int p2), .val (.int p3), .val (.ref b39), .val (.ref b42), .val (.ref b46), .val (.ref x50), .val (.int (1 : Int32)), .val (.int (1 : Int32))] [(.int (1 : Int32))])) _
      refine own_go (fun _ k => XS.ifNo X53.here hx rfl (hb hby at_175) rfl ((if0 _ _).trans (feq (by decide : ¬ ((1 : Int32) = (0 : Int32)))).1) k) ?_
      show own_Go p e below (T53.setTop (mkF m 178 #[.val (.int p1), .val (.int p2), .val (.int p3), .val (.int p4), .val (.int p2), .val (.int p3), .val (.ref b39), .val (.ref b42), .val (.ref b46), .val (.ref x50), .val (.int (1 : Int32)), .val (.int (1 : Int32))] [])) _
      refine own_go (fun _ k => XS.iconst X53.here hx rfl (hb hby at_178) k) ?_
      show own_Go p e below (T53.setTop (mkF m 179 #[.val (.int p1), .val (.int p2), .val (.int p3), .val (.int p4), .val (.int p2), .val (.int p3), .val (.ref b39), .val (.ref b42), .val (.ref b46), .val (.ref x50), .val (.int (1 : Int32)), .val (.int (1 : Int32))] [(.int (1 : Int32))])) _
      refine own_go (fun _ k => XS.goto X53.here hx rfl (pc0 := 179) (pc' := 183) rfl (hb hby at_179) (by decide) (by decide) k) ?_
      show own_Go p e below (T53.setTop (mkF m 183 #[.val (.int p1), .val (.int p2), .val (.int p3), .val (.int p4), .val (.int p2), .val (.int p3), .val (.ref b39), .val (.ref b42), .val (.ref b46), .val (.ref x50), .val (.int (1 : Int32)), .val (.int (1 : Int32))] [(.int (1 : Int32))])) _
      refine own_go (fun _ k => XS.istore X53.here hx rfl (hb hby at_183) rfl (l' := #[.val (.int p1), .val (.int p2), .val (.int p3), .val (.int p4), .val (.int p2), .val (.int p3), .val (.ref b39), .val (.ref b42), .val (.ref b46), .val (.ref x50), .val (.int (1 : Int32)), .val (.int (1 : Int32))]) rfl k) ?_
      show own_Go p e below (T53.setTop (mkF m 185 #[.val (.int p1), .val (.int p2), .val (.int p3), .val (.int p4), .val (.int p2), .val (.int p3), .val (.ref b39), .val (.ref b42), .val (.ref b46), .val (.ref x50), .val (.int (1 : Int32)), .val (.int (1 : Int32))] [])) _
      refine own_go (fun _ k => XS.iload X53.here hx rfl (hb hby at_185) rfl k) ?_
      show own_Go p e below (T53.setTop (mkF m 187 #[.val (.int p1), .val (.int p2), .val (.int p3), .val (.int p4), .val (.int p2), .val (.int p3), .val (.ref b39), .val (.ref b42), .val (.ref b46), .val (.ref x50), .val (.int (1 : Int32)), .val (.int (1 : Int32))] [(.int (1 : Int32))])) _
      have z54 := (Nat.le_trans (Nat.le_trans (Nat.le_trans (Nat.le_trans z44 K45.1) E46.1) K48.1) K50.1)
      refine own_finW (v := (some (.int (nar .boolean (1 : Int32))))) X53 hh hZ50 hS50 (by rw [e53]; exact (Nat.le_refl _)) (fun h => by rw [hrt] at h; cases h) hlk (fun fs hr => retN X53 hx (t := .boolean) hrt (by simp) (hb hby at_187) hr) (QQ := QQ0 n0) ?_ own_hEL e53 (own_chr0 z54) (by decide) (by decide)
      rw [e53]
      exact ⟨rfl, N53⟩
    · skip
      refine own_go (fun _ k => XS.icmpYes X0.here hx rfl (pc0 := 20) (pc' := 27) rfl (hb hby at_20) rfl (feq hc38).2 (by decide) (by decide) k) ?_
      show own_Go p e below (s₁.setTop (mkF m 27 #[.val (.int p1), .val (.int p2), .val (.int p3), .val (.int p4), .val (.int p2), .val (.int p3), .unset, .unset, .unset, .unset, .unset, .unset] [(.int (1 : Int32))])) _
      refine own_go (fun _ k => XS.iconst X0.here hx rfl (hb hby at_27) k) ?_
      show own_Go p e below (s₁.setTop (mkF m 28 #[.val (.int p1), .val (.int p2), .val (.int p3), .val (.int p4), .val (.int p2), .val (.int p3), .unset, .unset, .unset, .unset, .unset, .unset] [(.int (0 : Int32)), (.int (1 : Int32))])) _
      refine own_go (fun _ k => XS.icmpNo X0.here hx rfl (hb hby at_28) rfl (feq (by decide : ¬ ((1 : Int32) = (0 : Int32)))).1 k) ?_
      show own_Go p e below (s₁.setTop (mkF m 31 #[.val (.int p1), .val (.int p2), .val (.int p3), .val (.int p4), .val (.int p2), .val (.int p3), .unset, .unset, .unset, .unset, .unset, .unset] [])) _
      refine own_go (fun _ k => XS.iload X0.here hx rfl (hb hby at_31) rfl k) ?_
      show own_Go p e below (s₁.setTop (mkF m 33 #[.val (.int p1), .val (.int p2), .val (.int p3), .val (.int p4), .val (.int p2), .val (.int p3), .unset, .unset, .unset, .unset, .unset, .unset] [(.int p2)])) _
      refine own_go (fun _ k => XS.iconst X0.here hx rfl (hb hby at_33) k) ?_
      show own_Go p e below (s₁.setTop (mkF m 34 #[.val (.int p1), .val (.int p2), .val (.int p3), .val (.int p4), .val (.int p2), .val (.int p3), .unset, .unset, .unset, .unset, .unset, .unset] [(.int (-1 : Int32)), (.int p2)])) _
      refine own_go (fun _ k => XS.icmpNo X0.here hx rfl (hb hby at_34) rfl (teq hc37).2 k) ?_
      show own_Go p e below (s₁.setTop (mkF m 37 #[.val (.int p1), .val (.int p2), .val (.int p3), .val (.int p4), .val (.int p2), .val (.int p3), .unset, .unset, .unset, .unset, .unset, .unset] [])) _
      refine own_go (fun _ k => XS.iconst X0.here hx rfl (hb hby at_37) k) ?_
      show own_Go p e below (s₁.setTop (mkF m 38 #[.val (.int p1), .val (.int p2), .val (.int p3), .val (.int p4), .val (.int p2), .val (.int p3), .unset, .unset, .unset, .unset, .unset, .unset] [(.int (-1 : Int32))])) _
      refine own_go (fun _ k => XS.istore X0.here hx rfl (hb hby at_38) rfl (l' := #[.val (.int p1), .val (.int p2), .val (.int p3), .val (.int p4), .val (.int p2), .val (.int (-1 : Int32)), .unset, .unset, .unset, .unset, .unset, .unset]) rfl k) ?_
      show own_Go p e below (s₁.setTop (mkF m 40 #[.val (.int p1), .val (.int p2), .val (.int p3), .val (.int p4), .val (.int p2), .val (.int (-1 : Int32)), .unset, .unset, .unset, .unset, .unset, .unset] [])) _
      refine own_go (fun _ k => XS.goto X0.here hx rfl (pc0 := 40) (pc' := 49) rfl (hb hby at_40) (by decide) (by decide) k) ?_
      show own_Go p e below (s₁.setTop (mkF m 49 #[.val (.int p1), .val (.int p2), .val (.int p3), .val (.int p4), .val (.int p2), .val (.int (-1 : Int32)), .unset, .unset, .unset, .unset, .unset, .unset] [])) _
      have hbc : p2 = (-1 : Int32) ↔ (-1 : Int32) = (-1 : Int32) := ⟨fun _ => rfl, fun _ => hc37⟩
      refine own_go (fun _ k => XS.iconst X0.here hx rfl (hb hby at_49) k) ?_
      show own_Go p e below (s₁.setTop (mkF m 50 #[.val (.int p1), .val (.int p2), .val (.int p3), .val (.int p4), .val (.int p2), .val (.int (-1 : Int32)), .unset, .unset, .unset, .unset, .unset, .unset] [(.int (1 : Int32))])) _
      obtain ⟨T55, h55, k55, X55, e55, E55, A55, st55⟩ := newP X0 hx hZ (hw _ (List.mem_of_getElem? (i := 0) rfl)) e0 (g := (mkF m 50 #[.val (.int p1), .val (.int p2), .val (.int p3), .val (.int p4), .val (.int p2), .val (.int (-1 : Int32)), .unset, .unset, .unset, .unset, .unset, .unset] [(.int (1 : Int32))])) rfl (hb hby at_50) rfl (by decide) (cap := 1) (by decide) (by decide) (by decide) (by decide)
      obtain ⟨b55, g55⟩ : ∃ z, z = h0.size := ⟨_, rfl⟩
      rw [← g55] at A55 st55
      refine own_go st55 ?_
      have V55 : Arv Z h55 b55 k55 .char (1 : Int32) [(.int (0 : Int32))] (.int (0 : Int32)) := (Arv.new A55 (by decide)).pad (pad_rep [] (.int (0 : Int32)) 1)
      show own_Go p e below (T55.setTop (mkF m 52 #[.val (.int p1), .val (.int p2), .val (.int p3), .val (.int p4), .val (.int p2), .val (.int (-1 : Int32)), .unset, .unset, .unset, .unset, .unset, .unset] [(.ref b55)])) _
      refine own_go (fun _ k => XS.astore X55.here hx rfl (hb hby at_52) rfl rfl (l' := #[.val (.int p1), .val (.int p2), .val (.int p3), .val (.int p4), .val (.int p2), .val (.int (-1 : Int32)), .val (.ref b55), .unset, .unset, .unset, .unset, .unset]) rfl k) ?_
      show own_Go p e below (T55.setTop (mkF m 54 #[.val (.int p1), .val (.int p2), .val (.int p3), .val (.int p4), .val (.int p2), .val (.int (-1 : Int32)), .val (.ref b55), .unset, .unset, .unset, .unset, .unset] [])) _
      refine own_go (fun _ k => XS.aload X55.here hx rfl (hb hby at_54) rfl rfl k) ?_
      show own_Go p e below (T55.setTop (mkF m 56 #[.val (.int p1), .val (.int p2), .val (.int p3), .val (.int p4), .val (.int p2), .val (.int (-1 : Int32)), .val (.ref b55), .unset, .unset, .unset, .unset, .unset] [(.ref b55)])) _
      refine own_go (fun _ k => XS.iconst X55.here hx rfl (hb hby at_56) k) ?_
      show own_Go p e below (T55.setTop (mkF m 57 #[.val (.int p1), .val (.int p2), .val (.int p3), .val (.int p4), .val (.int p2), .val (.int (-1 : Int32)), .val (.ref b55), .unset, .unset, .unset, .unset, .unset] [(.int (0 : Int32)), (.ref b55)])) _
      refine own_go (fun _ k => XS.iloadN X55.here hx rfl (hb hby at_57) rfl k) ?_
      show own_Go p e below (T55.setTop (mkF m 58 #[.val (.int p1), .val (.int p2), .val (.int p3), .val (.int p4), .val (.int p2), .val (.int (-1 : Int32)), .val (.ref b55), .unset, .unset, .unset, .unset, .unset] [(.int p4), (.int (0 : Int32)), (.ref b55)])) _
      refine own_go (fun _ k => XS.sipush X55.here hx rfl (hb hby at_58) k) ?_
      show own_Go p e below (T55.setTop (mkF m 61 #[.val (.int p1), .val (.int p2), .val (.int p3), .val (.int p4), .val (.int p2), .val (.int (-1 : Int32)), .val (.ref b55), .unset, .unset, .unset, .unset, .unset] [(.int (255 : Int32)), (.int p4), (.int (0 : Int32)), (.ref b55)])) _
      refine own_go (fun _ k => XS.iand X55.here hx rfl (hb hby at_61) rfl k) ?_
      show own_Go p e below (T55.setTop (mkF m 62 #[.val (.int p1), .val (.int p2), .val (.int p3), .val (.int p4), .val (.int p2), .val (.int (-1 : Int32)), .val (.ref b55), .unset, .unset, .unset, .unset, .unset] [(.int (p4 &&& (255 : Int32))), (.int (0 : Int32)), (.ref b55)])) _
      refine own_go (fun _ k => XS.i2c X55.here hx rfl (hb hby at_62) rfl k) ?_
      show own_Go p e below (T55.setTop (mkF m 63 #[.val (.int p1), .val (.int p2), .val (.int p3), .val (.int p4), .val (.int p2), .val (.int (-1 : Int32)), .val (.ref b55), .unset, .unset, .unset, .unset, .unset] [(.int ((p4 &&& (255 : Int32)).toUInt32.toUInt16.toUInt32.toInt32)), (.int (0 : Int32)), (.ref b55)])) _
      obtain ⟨c56, A56, q56, S56, M56, Hs56, Gs56⟩ := id V55
      obtain ⟨T57, h57, X57, e57, W57, st57⟩ := stC X55 hx hZ e55 A56 (j := (0 : Int32)) (inb_of S56 ⟨by decide, by decide⟩) (g := (mkF m 63 #[.val (.int p1), .val (.int p2), .val (.int p3), .val (.int p4), .val (.int p2), .val (.int (-1 : Int32)), .val (.ref b55), .unset, .unset, .unset, .unset, .unset] [(.int ((p4 &&& (255 : Int32)).toUInt32.toUInt16.toUInt32.toInt32)), (.int (0 : Int32)), (.ref b55)])) rfl rfl (hb hby at_63)
      refine own_go st57 ?_
      have N57 := Fr.snoc X57 N0 (Nat.le_trans Z0 (Nat.le_of_eq g55.symm))
      have V57 : Arv Z h57 b55 k55 .char (1 : Int32) [(.int (nar .char ((p4 &&& (255 : Int32)).toUInt32.toUInt16.toUInt32.toInt32)))] (.int (0 : Int32)) := Arv.set A56 q56 S56 M56 Hs56 Gs56 (fits_nar_char _) W57 0 rfl (Nat.le_of_ble_eq_true rfl)
      show own_Go p e below (T57.setTop (mkF m 64 #[.val (.int p1), .val (.int p2), .val (.int p3), .val (.int p4), .val (.int p2), .val (.int (-1 : Int32)), .val (.ref b55), .unset, .unset, .unset, .unset, .unset] [])) _
      obtain ⟨T58, h58, X58, e58, E58, A58, D58, U58, st58⟩ := newO X57 hx hZ hown (hw _ (List.mem_of_getElem? (i := 1) rfl)) (hw _ (List.mem_of_getElem? (i := 2) rfl)) (hw _ (List.mem_of_getElem? (i := 3) rfl)) e57 (g := (mkF m 64 #[.val (.int p1), .val (.int p2), .val (.int p3), .val (.int p4), .val (.int p2), .val (.int (-1 : Int32)), .val (.ref b55), .unset, .unset, .unset, .unset, .unset] [])) rfl (hb hby at_64) (by decide) (by decide)
      obtain ⟨b58, g58⟩ : ∃ z, z = h57.size := ⟨_, rfl⟩
      rw [← g58] at A58 D58 U58 st58
      refine own_go st58 ?_
      have F58_coder : Fld Z h58 b58 "java/lang/String" "coder" "B" (.int (0 : Int32)) := D58 (Or.inr (hw _ (List.mem_of_getElem? (i := 27) rfl))) (ty := .byte) (by decide)
      have F58_value : Fld Z h58 b58 "java/lang/String" "value" "[B" .null := D58 (Or.inr (hw _ (List.mem_of_getElem? (i := 29) rfl))) (ty := (.array .byte)) (by decide)
      show own_Go p e below (T58.setTop (mkF m 67 #[.val (.int p1), .val (.int p2), .val (.int p3), .val (.int p4), .val (.int p2), .val (.int (-1 : Int32)), .val (.ref b55), .unset, .unset, .unset, .unset, .unset] [(.ref b58)])) _
      refine own_go (fun _ k => XS.dup X58.here hx rfl (hb hby at_67) rfl rfl k) ?_
      show own_Go p e below (T58.setTop (mkF m 68 #[.val (.int p1), .val (.int p2), .val (.int p3), .val (.int p4), .val (.int p2), .val (.int (-1 : Int32)), .val (.ref b55), .unset, .unset, .unset, .unset, .unset] [(.ref b58), (.ref b58)])) _
      refine own_go (fun _ k => XS.aload X58.here hx rfl (hb hby at_68) rfl rfl k) ?_
      show own_Go p e below (T58.setTop (mkF m 70 #[.val (.int p1), .val (.int p2), .val (.int p3), .val (.int p4), .val (.int p2), .val (.int (-1 : Int32)), .val (.ref b55), .unset, .unset, .unset, .unset, .unset] [(.ref b55), (.ref b58), (.ref b58)])) _
      have f59 := (((O0.ext E55).wr W57 (Nat.le_trans Z0 (Nat.le_of_eq g55.symm))).ext E58)
      have z60 := (Nat.le_trans (Nat.le_trans E55.1 (Keep.of_wr W57).1) E58.1)
      obtain ⟨v61, _, ⟨T61, L61, k61, n61⟩, -, X61, ⟨Lc61, hQ61, l61, y61, z61⟩, st61⟩ := X58.specialBack hx (y := (⟨"java/lang/String", "<init>", "([C)V"⟩ : MethodName)) rfl hown (mvT hZ (hw _ (List.mem_of_getElem? (i := 4) rfl))) (mvT hZ (hw _ (List.mem_of_getElem? (i := 5) rfl))) (mvT hZ (hw _ (List.mem_of_getElem? (i := 6) rfl))) (by decide) (StrChars.Road.backV (W := 1) hZ (own_wStr hw) (kI := 4) (hw _ (List.mem_of_getElem? (i := 2) rfl)) (cs := ([(nar .char ((p4 &&& (255 : Int32)).toUInt32.toUInt16.toUInt32.toInt32))] : List Int32)) (bs := (([(nar .char ((p4 &&& (255 : Int32)).toUInt32.toUInt16.toUInt32.toInt32))] : List Int32)).map (fun c => c.toInt8.toInt32)) (n := 1) (Nat.le_trans Z0 (Nat.le_trans (Nat.le_trans E55.1 (Keep.of_wr W57).1) (Nat.le_of_eq g58.symm))) (Nat.le_trans Z0 z60) A58 F58_value F58_coder (V57.ext E58) (O2.ext f59.2) P5 rfl rfl (by decide) (by decide) (own_lat1 p4) rfl (by decide) (by decide)) (g := (mkF m 70 #[.val (.int p1), .val (.int p2), .val (.int p3), .val (.int p4), .val (.int p2), .val (.int (-1 : Int32)), .val (.ref b55), .unset, .unset, .unset, .unset, .unset] [(.ref b55), (.ref b58), (.ref b58)])) rfl (by rw [hml]; rfl) (Steps.refl _) (a := b58) (argsL := [(.ref b55)]) (rest := [(.ref b58)]) (lenOf pd_3 rfl) rfl (by show 2 * 0 + _ ≤ _; exact Nat.le_of_eq rfl) (hb hby at_70) (fun _ _ => ⟨rfl, e58, (by decide : 2 + 1 ≤ _), (by decide : 5 + 1 ≤ _)⟩)
      dsimp only [Pt.U, Pt.locs, Pt.cells, Pt.slots] at X61 l61 y61 z61 st61 hQ61
      subst l61 y61 z61
      refine own_gos st61 ?_
      obtain ⟨rfl, Nq61, K61, Eq61, Fc61, t61, kt61, -, tg61, tn61, Fv61, Vt61⟩ := hQ61
      have N61 := Fr.app N57 Nq61
      show own_Go p e below (T61.setTop (mkF m 73 #[.val (.int p1), .val (.int p2), .val (.int p3), .val (.int p4), .val (.int p2), .val (.int (-1 : Int32)), .val (.ref b55), .unset, .unset, .unset, .unset, .unset] [(.ref b58)])) _
      refine own_go (fun _ k => XS.astore X61.here hx rfl (hb hby at_73) rfl rfl (l' := #[.val (.int p1), .val (.int p2), .val (.int p3), .val (.int p4), .val (.int p2), .val (.int (-1 : Int32)), .val (.ref b55), .val (.ref b58), .unset, .unset, .unset, .unset]) rfl k) ?_
      show own_Go p e below (T61.setTop (mkF m 75 #[.val (.int p1), .val (.int p2), .val (.int p3), .val (.int p4), .val (.int p2), .val (.int (-1 : Int32)), .val (.ref b55), .val (.ref b58), .unset, .unset, .unset, .unset] [])) _
      obtain ⟨T62, h62, X62, e62, E62, A62, D62, U62, st62⟩ := newO X61 hx hZ hown (hw _ (List.mem_of_getElem? (i := 30) rfl)) (hw _ (List.mem_of_getElem? (i := 31) rfl)) (hw _ (List.mem_of_getElem? (i := 32) rfl)) (rfl : T61.heap = T61.heap) (g := (mkF m 75 #[.val (.int p1), .val (.int p2), .val (.int p3), .val (.int p4), .val (.int p2), .val (.int (-1 : Int32)), .val (.ref b55), .val (.ref b58), .unset, .unset, .unset, .unset] [])) rfl (hb hby at_75) (by decide) (by decide)
      obtain ⟨b62, g62⟩ : ∃ z, z = T61.heap.size := ⟨_, rfl⟩
      rw [← g62] at A62 D62 U62 st62
      refine own_go st62 ?_
      have F62_pattern : Fld Z h62 b62 "com/example/rederive/rederive/PatternFault" "pattern" "I" (.int (0 : Int32)) := D62 (Or.inr (hw _ (List.mem_of_getElem? (i := 50) rfl))) (ty := .int) (by decide)
      have F62_body : Fld Z h62 b62 "com/example/rederive/rederive/PatternFault" "body" "I" (.int (0 : Int32)) := D62 (Or.inr (hw _ (List.mem_of_getElem? (i := 52) rfl))) (ty := .int) (by decide)
      have F62_constraint : Fld Z h62 b62 "com/example/rederive/rederive/PatternFault" "constraint" "I" (.int (0 : Int32)) := D62 (Or.inr (hw _ (List.mem_of_getElem? (i := 54) rfl))) (ty := .int) (by decide)
      have F62_message : Fld Z h62 b62 "com/example/rederive/rederive/PatternFault" "message" "Ljava/lang/String;" .null := D62 (Or.inr (hw _ (List.mem_of_getElem? (i := 56) rfl))) (ty := (.object "java/lang/String")) (by decide)
      show own_Go p e below (T62.setTop (mkF m 78 #[.val (.int p1), .val (.int p2), .val (.int p3), .val (.int p4), .val (.int p2), .val (.int (-1 : Int32)), .val (.ref b55), .val (.ref b58), .unset, .unset, .unset, .unset] [(.ref b62)])) _
      refine own_go (fun _ k => XS.dup X62.here hx rfl (hb hby at_78) rfl rfl k) ?_
      show own_Go p e below (T62.setTop (mkF m 79 #[.val (.int p1), .val (.int p2), .val (.int p3), .val (.int p4), .val (.int p2), .val (.int (-1 : Int32)), .val (.ref b55), .val (.ref b58), .unset, .unset, .unset, .unset] [(.ref b62), (.ref b62)])) _
      refine own_go (fun _ k => XS.iloadN X62.here hx rfl (hb hby at_79) rfl k) ?_
      show own_Go p e below (T62.setTop (mkF m 80 #[.val (.int p1), .val (.int p2), .val (.int p3), .val (.int p4), .val (.int p2), .val (.int (-1 : Int32)), .val (.ref b55), .val (.ref b58), .unset, .unset, .unset, .unset] [(.int p1), (.ref b62), (.ref b62)])) _
      refine own_go (fun _ k => XS.iload X62.here hx rfl (hb hby at_80) rfl k) ?_
      show own_Go p e below (T62.setTop (mkF m 82 #[.val (.int p1), .val (.int p2), .val (.int p3), .val (.int p4), .val (.int p2), .val (.int (-1 : Int32)), .val (.ref b55), .val (.ref b58), .unset, .unset, .unset, .unset] [(.int p2), (.int p1), (.ref b62), (.ref b62)])) _
      refine own_go (fun _ k => XS.iload X62.here hx rfl (hb hby at_82) rfl k) ?_
      show own_Go p e below (T62.setTop (mkF m 84 #[.val (.int p1), .val (.int p2), .val (.int p3), .val (.int p4), .val (.int p2), .val (.int (-1 : Int32)), .val (.ref b55), .val (.ref b58), .unset, .unset, .unset, .unset] [(.int (-1 : Int32)), (.int p2), (.int p1), (.ref b62), (.ref b62)])) _
      refine own_go (fun _ k => XS.aload X62.here hx rfl (hb hby at_84) rfl rfl k) ?_
      show own_Go p e below (T62.setTop (mkF m 86 #[.val (.int p1), .val (.int p2), .val (.int p3), .val (.int p4), .val (.int p2), .val (.int (-1 : Int32)), .val (.ref b55), .val (.ref b58), .unset, .unset, .unset, .unset] [(.ref b58), (.int (-1 : Int32)), (.int p2), (.int p1), (.ref b62), (.ref b62)])) _
      have f63 := ((f59.keep K61 (allS (Nat.le_trans Z0 (Nat.le_trans (Nat.le_trans E55.1 (Keep.of_wr W57).1) (Nat.le_of_eq g58.symm))) all0)).ext E62)
      obtain ⟨v64, _, ⟨T64, L64, k64, n64⟩, -, X64, hS64, hg64, ⟨Lc64, hQ64, l64, y64, z64, A64⟩, st64⟩ := X62.specialBackS hx (y := (⟨"com/example/rederive/rederive/PatternFault", "<init>", "(IIILjava/lang/String;)V"⟩ : MethodName)) rfl hown (mvT hZ (hw _ (List.mem_of_getElem? (i := 33) rfl))) (mvT hZ (hw _ (List.mem_of_getElem? (i := 34) rfl))) (mvT hZ (hw _ (List.mem_of_getElem? (i := 35) rfl))) (by decide) (backOfSH (W := 1) (rm_init l Z a0 hw [] b62 p1 p2 (-1 : Int32) b58 h62 n0 f63 A62 F62_pattern F62_body F62_constraint F62_message (Nat.le_trans Z0 (Nat.le_trans (Nat.le_trans z60 K61.1) (Nat.le_of_eq g62.symm))) hbc) hZ (hw _ (List.mem_of_getElem? (i := 35) rfl)) (hw _ (List.mem_of_getElem? (i := 32) rfl)) (by decide) (by decide) own_hEL own_chv0) (g := (mkF m 86 #[.val (.int p1), .val (.int p2), .val (.int p3), .val (.int p4), .val (.int p2), .val (.int (-1 : Int32)), .val (.ref b55), .val (.ref b58), .unset, .unset, .unset, .unset] [(.ref b58), (.int (-1 : Int32)), (.int p2), (.int p1), (.ref b62), (.ref b62)])) rfl (by rw [hml]; rfl) (Steps.refl _) (a := b62) (argsL := [(.int p1), (.int p2), (.int (-1 : Int32)), (.ref b58)]) (rest := [(.ref b62)]) (lenOf pd_2 rfl) rfl (by show 2 * 0 + _ ≤ _; exact Nat.le_of_eq rfl) (hb hby at_86) (fun _ _ => ⟨rfl, e62, (by decide : 4 + 2 ≤ _), (by decide : 10 + 32 ≤ _)⟩)
      dsimp only [Pt.U, Pt.locs, Pt.cells, Pt.slots] at X64 l64 y64 z64 st64 hQ64 hS64 hg64 A64
      subst l64 y64 z64
      refine own_gos st64 ?_
      obtain ⟨X64, hS64, hZ64, hown64⟩ := rebS hS0 (k0 := _) (n1 := T62.heap.size) (by rw [e62]; exact (Nat.zero_le _)) X64 hS64 hg64 hZ hown
      obtain ⟨rfl, Nq64, K64, Fb64⟩ := hQ64
      have N64 := Fr.app N61 Nq64
      show own_Go p e below (T64.setTop (mkF m 89 #[.val (.int p1), .val (.int p2), .val (.int p3), .val (.int p4), .val (.int p2), .val (.int (-1 : Int32)), .val (.ref b55), .val (.ref b58), .unset, .unset, .unset, .unset] [(.ref b62)])) _
      refine own_go (fun _ k => XS.astore X64.here hx rfl (hb hby at_89) rfl rfl (l' := #[.val (.int p1), .val (.int p2), .val (.int p3), .val (.int p4), .val (.int p2), .val (.int (-1 : Int32)), .val (.ref b55), .val (.ref b58), .val (.ref b62), .unset, .unset, .unset]) rfl k) ?_
      show own_Go p e below (T64.setTop (mkF m 91 #[.val (.int p1), .val (.int p2), .val (.int p3), .val (.int p4), .val (.int p2), .val (.int (-1 : Int32)), .val (.ref b55), .val (.ref b58), .val (.ref b62), .unset, .unset, .unset] [])) _
      refine own_go (fun _ k => XS.iloadN X64.here hx rfl (hb hby at_91) rfl k) ?_
      show own_Go p e below (T64.setTop (mkF m 92 #[.val (.int p1), .val (.int p2), .val (.int p3), .val (.int p4), .val (.int p2), .val (.int (-1 : Int32)), .val (.ref b55), .val (.ref b58), .val (.ref b62), .unset, .unset, .unset] [(.int p1)])) _
      refine own_go (fun _ k => XS.aload X64.here hx rfl (hb hby at_92) rfl rfl k) ?_
      show own_Go p e below (T64.setTop (mkF m 94 #[.val (.int p1), .val (.int p2), .val (.int p3), .val (.int p4), .val (.int p2), .val (.int (-1 : Int32)), .val (.ref b55), .val (.ref b58), .val (.ref b62), .unset, .unset, .unset] [(.ref b58), (.int p1)])) _
      have f65 := (f63.keep K64 (allS (Nat.le_trans Z0 (Nat.le_trans (Nat.le_trans z60 K61.1) (Nat.le_of_eq g62.symm))) all0))
      obtain ⟨v66, _, ⟨T66, L66, k66, n66⟩, -, X66, hS66, hg66, ⟨Lc66, hQ66, l66, y66, z66, A66⟩, st66⟩ := callSS X64 hx (y := (⟨"com/example/rederive/rederive/PatternFault", "inHeader", "(ILjava/lang/String;)Lcom/example/rederive/rederive/PatternFault;"⟩ : MethodName)) hown64 (mvT hZ64 (hw _ (List.mem_of_getElem? (i := 57) rfl))) (mvT hZ64 (hw _ (List.mem_of_getElem? (i := 58) rfl))) (mvT hZ64 (hw _ (List.mem_of_getElem? (i := 32) rfl))) (mvT hZ64 (hw _ (List.mem_of_getElem? (i := 59) rfl))) (by decide) (backOfSH (W := 0) (rm_inh l Z a0 hw [] p1 b58 T64.heap n0 f65 ) hZ64 (hw _ (List.mem_of_getElem? (i := 59) rfl)) (hw _ (List.mem_of_getElem? (i := 32) rfl)) (by decide) (by decide) own_hEL own_chv0) (g := (mkF m 94 #[.val (.int p1), .val (.int p2), .val (.int p3), .val (.int p4), .val (.int p2), .val (.int (-1 : Int32)), .val (.ref b55), .val (.ref b58), .val (.ref b62), .unset, .unset, .unset] [(.ref b58), (.int p1)])) rfl (by rw [hml]; rfl) (argsL := [(.int p1), (.ref b58)]) (rest := []) (lenOf pd_4 rfl) rfl (by show 2 * 0 + _ ≤ _; exact Nat.le_of_eq rfl) (hb hby at_94) (fun _ _ => ⟨rfl, (rfl : T64.heap = T64.heap), (by decide : 6 + 3 ≤ _), (by decide : 42 + 36 ≤ _)⟩)
      dsimp only [Pt.U, Pt.locs, Pt.cells, Pt.slots] at X66 l66 y66 z66 st66 hQ66 hS66 hg66 A66
      subst l66 y66 z66
      refine own_gos st66 ?_
      obtain ⟨X66, hS66, hZ66, hown66⟩ := rebS hS64 (k0 := _) (n1 := T64.heap.size) (by rw [(rfl : T64.heap = T64.heap)]; exact (Nat.le_refl _)) X66 hS66 hg66 hZ64 hown64
      obtain ⟨x66, rfl, Nq66, K66, gx66, Ex66, Fb66⟩ := hQ66
      have N66 := Fr.app N64 Nq66
      show own_Go p e below (T66.setTop (mkF m 97 #[.val (.int p1), .val (.int p2), .val (.int p3), .val (.int p4), .val (.int p2), .val (.int (-1 : Int32)), .val (.ref b55), .val (.ref b58), .val (.ref b62), .unset, .unset, .unset] [(.ref x66)])) _
      refine own_go (fun _ k => XS.astore X66.here hx rfl (hb hby at_97) rfl rfl (l' := #[.val (.int p1), .val (.int p2), .val (.int p3), .val (.int p4), .val (.int p2), .val (.int (-1 : Int32)), .val (.ref b55), .val (.ref b58), .val (.ref b62), .val (.ref x66), .unset, .unset]) rfl k) ?_
      show own_Go p e below (T66.setTop (mkF m 99 #[.val (.int p1), .val (.int p2), .val (.int p3), .val (.int p4), .val (.int p2), .val (.int (-1 : Int32)), .val (.ref b55), .val (.ref b58), .val (.ref b62), .val (.ref x66), .unset, .unset] [])) _
      refine own_go (fun _ k => XS.aload X66.here hx rfl (hb hby at_99) rfl rfl k) ?_
      show own_Go p e below (T66.setTop (mkF m 101 #[.val (.int p1), .val (.int p2), .val (.int p3), .val (.int p4), .val (.int p2), .val (.int (-1 : Int32)), .val (.ref b55), .val (.ref b58), .val (.ref b62), .val (.ref x66), .unset, .unset] [(.ref b62)])) _
      have f67 := ((A62.keep K64).keep K66)
      obtain ⟨cq68, kq68, q68a, q68b, q68c⟩ := isOf hZ66 (rfl : T66.heap = T66.heap) f67
      obtain ⟨v68, _, ⟨T68, L68, k68, n68⟩, -, X68, ⟨Lc68, hQ68, l68, y68, z68⟩, st68⟩ := X66.virtualBack hx (y := (⟨"com/example/rederive/rederive/PatternFault", "isInHeader", "()Z"⟩ : MethodName)) (z := (⟨"com/example/rederive/rederive/PatternFault", "isInHeader", "()Z"⟩ : MethodName)) hown66 (mvT hZ66 (hw _ (List.mem_of_getElem? (i := 62) rfl))) (mvT hZ66 (hw _ (List.mem_of_getElem? (i := 63) rfl))) (notFace_of_selects (args := #[]) (mvT hZ66 (hw _ (List.mem_of_getElem? (i := 65) rfl)))) (mvT hZ66 (hw _ (List.mem_of_getElem? (i := 65) rfl))) (mvT hZ66 (hw _ (List.mem_of_getElem? (i := 64) rfl))) (by decide) (backOf (W := 0) (rm_isin l Z a0 hw [] b62 p2 (1 : Int32) T66.heap n0 (f65.keep K66 all0) f67 (Fb64.keep K66 nin0) (if_pos hc37).symm) hZ66 (hw _ (List.mem_of_getElem? (i := 66) rfl)) (hw _ (List.mem_of_getElem? (i := 32) rfl)) (by decide) (by decide)) q68a q68c (g := (mkF m 101 #[.val (.int p1), .val (.int p2), .val (.int p3), .val (.int p4), .val (.int p2), .val (.int (-1 : Int32)), .val (.ref b55), .val (.ref b58), .val (.ref b62), .val (.ref x66), .unset, .unset] [(.ref b62)])) rfl (by rw [hml]; rfl) (Steps.refl _) (argsL := []) (rest := []) (lenOf pd_5 rfl) rfl (by show 2 * 0 + _ ≤ _; exact Nat.le_of_eq rfl) (hb hby at_101) (fun _ _ => ⟨rfl, (rfl : T66.heap = T66.heap), (by decide : 9 + 0 ≤ _), (by decide : 78 + 0 ≤ _)⟩)
      dsimp only [Pt.U, Pt.locs, Pt.cells, Pt.slots] at X68 l68 y68 z68 st68 hQ68
      subst l68 y68 z68
      refine own_gos st68 ?_
      obtain ⟨rfl, Nq68, e68⟩ := hQ68
      have N68 := Fr.app N66 Nq68
      show own_Go p e below (T68.setTop (mkF m 104 #[.val (.int p1), .val (.int p2), .val (.int p3), .val (.int p4), .val (.int p2), .val (.int (-1 : Int32)), .val (.ref b55), .val (.ref b58), .val (.ref b62), .val (.ref x66), .unset, .unset] [(.int (1 : Int32))])) _
      refine own_go (fun _ k => XS.istore X68.here hx rfl (hb hby at_104) rfl (l' := #[.val (.int p1), .val (.int p2), .val (.int p3), .val (.int p4), .val (.int p2), .val (.int (-1 : Int32)), .val (.ref b55), .val (.ref b58), .val (.ref b62), .val (.ref x66), .val (.int (1 : Int32)), .unset]) rfl k) ?_
      show own_Go p e below (T68.setTop (mkF m 106 #[.val (.int p1), .val (.int p2), .val (.int p3), .val (.int p4), .val (.int p2), .val (.int (-1 : Int32)), .val (.ref b55), .val (.ref b58), .val (.ref b62), .val (.ref x66), .val (.int (1 : Int32)), .unset] [])) _
      refine own_go (fun _ k => XS.iconst X68.here hx rfl (hb hby at_106) k) ?_
      show own_Go p e below (T68.setTop (mkF m 107 #[.val (.int p1), .val (.int p2), .val (.int p3), .val (.int p4), .val (.int p2), .val (.int (-1 : Int32)), .val (.ref b55), .val (.ref b58), .val (.ref b62), .val (.ref x66), .val (.int (1 : Int32)), .unset] [(.int (1 : Int32))])) _
      refine own_go (fun _ k => XS.istore X68.here hx rfl (hb hby at_107) rfl (l' := #[.val (.int p1), .val (.int p2), .val (.int p3), .val (.int p4), .val (.int p2), .val (.int (-1 : Int32)), .val (.ref b55), .val (.ref b58), .val (.ref b62), .val (.ref x66), .val (.int (1 : Int32)), .val (.int (1 : Int32))]) rfl k) ?_
      show own_Go p e below (T68.setTop (mkF m 109 #[.val (.int p1), .val (.int p2), .val (.int p3), .val (.int p4), .val (.int p2), .val (.int (-1 : Int32)), .val (.ref b55), .val (.ref b58), .val (.ref b62), .val (.ref x66), .val (.int (1 : Int32)), .val (.int (1 : Int32))] [])) _
      refine own_go (fun _ k => XS.iload X68.here hx rfl (hb hby at_109) rfl k) ?_
      show own_Go p e below (T68.setTop (mkF m 111 #[.val (.int p1), .val (.int p2), .val (.int p3), .val (.int p4), .val (.int p2), .val (.int (-1 : Int32)), .val (.ref b55), .val (.ref b58), .val (.ref b62), .val (.ref x66), .val (.int (1 : Int32)), .val (.int (1 : Int32))] [(.int (1 : Int32))])) _
      refine own_go (fun _ k => XS.ifNo X68.here hx rfl (hb hby at_111) rfl ((if0 _ _).trans (feq (by decide : ¬ ((1 : Int32) = (0 : Int32)))).1) k) ?_
      show own_Go p e below (T68.setTop (mkF m 114 #[.val (.int p1), .val (.int p2), .val (.int p3), .val (.int p4), .val (.int p2), .val (.int (-1 : Int32)), .val (.ref b55), .val (.ref b58), .val (.ref b62), .val (.ref x66), .val (.int (1 : Int32)), .val (.int (1 : Int32))] [])) _
      refine own_go (fun _ k => XS.iload X68.here hx rfl (hb hby at_114) rfl k) ?_
      show own_Go p e below (T68.setTop (mkF m 116 #[.val (.int p1), .val (.int p2), .val (.int p3), .val (.int p4), .val (.int p2), .val (.int (-1 : Int32)), .val (.ref b55), .val (.ref b58), .val (.ref b62), .val (.ref x66), .val (.int (1 : Int32)), .val (.int (1 : Int32))] [(.int (1 : Int32))])) _
      refine own_go (fun _ k => XS.iload X68.here hx rfl (hb hby at_116) rfl k) ?_
      show own_Go p e below (T68.setTop (mkF m 118 #[.val (.int p1), .val (.int p2), .val (.int p3), .val (.int p4), .val (.int p2), .val (.int (-1 : Int32)), .val (.ref b55), .val (.ref b58), .val (.ref b62), .val (.ref x66), .val (.int (1 : Int32)), .val (.int (1 : Int32))] [(.int p2), (.int (1 : Int32))])) _
      refine own_go (fun _ k => XS.iconst X68.here hx rfl (hb hby at_118) k) ?_
      show own_Go p e below (T68.setTop (mkF m 119 #[.val (.int p1), .val (.int p2), .val (.int p3), .val (.int p4), .val (.int p2), .val (.int (-1 : Int32)), .val (.ref b55), .val (.ref b58), .val (.ref b62), .val (.ref x66), .val (.int (1 : Int32)), .val (.int (1 : Int32))] [(.int (-1 : Int32)), (.int p2), (.int (1 : Int32))])) _
      refine own_go (fun _ k => XS.icmpNo X68.here hx rfl (hb hby at_119) rfl (teq hc37).2 k) ?_
      show own_Go p e below (T68.setTop (mkF m 122 #[.val (.int p1), .val (.int p2), .val (.int p3), .val (.int p4), .val (.int p2), .val (.int (-1 : Int32)), .val (.ref b55), .val (.ref b58), .val (.ref b62), .val (.ref x66), .val (.int (1 : Int32)), .val (.int (1 : Int32))] [(.int (1 : Int32))])) _
      refine own_go (fun _ k => XS.iconst X68.here hx rfl (hb hby at_122) k) ?_
      show own_Go p e below (T68.setTop (mkF m 123 #[.val (.int p1), .val (.int p2), .val (.int p3), .val (.int p4), .val (.int p2), .val (.int (-1 : Int32)), .val (.ref b55), .val (.ref b58), .val (.ref b62), .val (.ref x66), .val (.int (1 : Int32)), .val (.int (1 : Int32))] [(.int (1 : Int32)), (.int (1 : Int32))])) _
      refine own_go (fun _ k => XS.goto X68.here hx rfl (pc0 := 123) (pc' := 127) rfl (hb hby at_123) (by decide) (by decide) k) ?_
      show own_Go p e below (T68.setTop (mkF m 127 #[.val (.int p1), .val (.int p2), .val (.int p3), .val (.int p4), .val (.int p2), .val (.int (-1 : Int32)), .val (.ref b55), .val (.ref b58), .val (.ref b62), .val (.ref x66), .val (.int (1 : Int32)), .val (.int (1 : Int32))] [(.int (1 : Int32)), (.int (1 : Int32))])) _
      refine own_go (fun _ k => XS.icmpNo X68.here hx rfl (hb hby at_127) rfl (teq (by decide : (1 : Int32) = (1 : Int32))).2 k) ?_
      show own_Go p e below (T68.setTop (mkF m 130 #[.val (.int p1), .val (.int p2), .val (.int p3), .val (.int p4), .val (.int p2), .val (.int (-1 : Int32)), .val (.ref b55), .val (.ref b58), .val (.ref b62), .val (.ref x66), .val (.int (1 : Int32)), .val (.int (1 : Int32))] [])) _
      refine own_go (fun _ k => XS.iconst X68.here hx rfl (hb hby at_130) k) ?_
      show own_Go p e below (T68.setTop (mkF m 131 #[.val (.int p1), .val (.int p2), .val (.int p3), .val (.int p4), .val (.int p2), .val (.int (-1 : Int32)), .val (.ref b55), .val (.ref b58), .val (.ref b62), .val (.ref x66), .val (.int (1 : Int32)), .val (.int (1 : Int32))] [(.int (1 : Int32))])) _
      refine own_go (fun _ k => XS.goto X68.here hx rfl (pc0 := 131) (pc' := 135) rfl (hb hby at_131) (by decide) (by decide) k) ?_
      show own_Go p e below (T68.setTop (mkF m 135 #[.val (.int p1), .val (.int p2), .val (.int p3), .val (.int p4), .val (.int p2), .val (.int (-1 : Int32)), .val (.ref b55), .val (.ref b58), .val (.ref b62), .val (.ref x66), .val (.int (1 : Int32)), .val (.int (1 : Int32))] [(.int (1 : Int32))])) _
      refine own_go (fun _ k => XS.istore X68.here hx rfl (hb hby at_135) rfl (l' := #[.val (.int p1), .val (.int p2), .val (.int p3), .val (.int p4), .val (.int p2), .val (.int (-1 : Int32)), .val (.ref b55), .val (.ref b58), .val (.ref b62), .val (.ref x66), .val (.int (1 : Int32)), .val (.int (1 : Int32))]) rfl k) ?_
      show own_Go p e below (T68.setTop (mkF m 137 #[.val (.int p1), .val (.int p2), .val (.int p3), .val (.int p4), .val (.int p2), .val (.int (-1 : Int32)), .val (.ref b55), .val (.ref b58), .val (.ref b62), .val (.ref x66), .val (.int (1 : Int32)), .val (.int (1 : Int32))] [])) _
      refine own_go (fun _ k => XS.iload X68.here hx rfl (hb hby at_137) rfl k) ?_
      show own_Go p e below (T68.setTop (mkF m 139 #[.val (.int p1), .val (.int p2), .val (.int p3), .val (.int p4), .val (.int p2), .val (.int (-1 : Int32)), .val (.ref b55), .val (.ref b58), .val (.ref b62), .val (.ref x66), .val (.int (1 : Int32)), .val (.int (1 : Int32))] [(.int (1 : Int32))])) _
      refine own_go (fun _ k => XS.ifNo X68.here hx rfl (hb hby at_139) rfl ((if0 _ _).trans (feq (by decide : ¬ ((1 : Int32) = (0 : Int32)))).1) k) ?_
      show own_Go p e below (T68.setTop (mkF m 142 #[.val (.int p1), .val (.int p2), .val (.int p3), .val (.int p4), .val (.int p2), .val (.int (-1 : Int32)), .val (.ref b55), .val (.ref b58), .val (.ref b62), .val (.ref x66), .val (.int (1 : Int32)), .val (.int (1 : Int32))] [])) _
      refine own_go (fun _ k => XS.iload X68.here hx rfl (hb hby at_142) rfl k) ?_
      show own_Go p e below (T68.setTop (mkF m 144 #[.val (.int p1), .val (.int p2), .val (.int p3), .val (.int p4), .val (.int p2), .val (.int (-1 : Int32)), .val (.ref b55), .val (.ref b58), .val (.ref b62), .val (.ref x66), .val (.int (1 : Int32)), .val (.int (1 : Int32))] [(.int (1 : Int32))])) _
      refine own_go (fun _ k => XS.iload X68.here hx rfl (hb hby at_144) rfl k) ?_
      show own_Go p e below (T68.setTop (mkF m 146 #[.val (.int p1), .val (.int p2), .val (.int p3), .val (.int p4), .val (.int p2), .val (.int (-1 : Int32)), .val (.ref b55), .val (.ref b58), .val (.ref b62), .val (.ref x66), .val (.int (1 : Int32)), .val (.int (1 : Int32))] [(.int (-1 : Int32)), (.int (1 : Int32))])) _
      refine own_go (fun _ k => XS.iconst X68.here hx rfl (hb hby at_146) k) ?_
      show own_Go p e below (T68.setTop (mkF m 147 #[.val (.int p1), .val (.int p2), .val (.int p3), .val (.int p4), .val (.int p2), .val (.int (-1 : Int32)), .val (.ref b55), .val (.ref b58), .val (.ref b62), .val (.ref x66), .val (.int (1 : Int32)), .val (.int (1 : Int32))] [(.int (-1 : Int32)), (.int (-1 : Int32)), (.int (1 : Int32))])) _
      refine own_go (fun _ k => XS.icmpNo X68.here hx rfl (hb hby at_147) rfl (teq (by decide : (-1 : Int32) = (-1 : Int32))).2 k) ?_
      show own_Go p e below (T68.setTop (mkF m 150 #[.val (.int p1), .val (.int p2), .val (.int p3), .val (.int p4), .val (.int p2), .val (.int (-1 : Int32)), .val (.ref b55), .val (.ref b58), .val (.ref b62), .val (.ref x66), .val (.int (1 : Int32)), .val (.int (1 : Int32))] [(.int (1 : Int32))])) _
      refine own_go (fun _ k => XS.iconst X68.here hx rfl (hb hby at_150) k) ?_
      show own_Go p e below (T68.setTop (mkF m 151 #[.val (.int p1), .val (.int p2), .val (.int p3), .val (.int p4), .val (.int p2), .val (.int (-1 : Int32)), .val (.ref b55), .val (.ref b58), .val (.ref b62), .val (.ref x66), .val (.int (1 : Int32)), .val (.int (1 : Int32))] [(.int (1 : Int32)), (.int (1 : Int32))])) _
      refine own_go (fun _ k => XS.goto X68.here hx rfl (pc0 := 151) (pc' := 155) rfl (hb hby at_151) (by decide) (by decide) k) ?_
      show own_Go p e below (T68.setTop (mkF m 155 #[.val (.int p1), .val (.int p2), .val (.int p3), .val (.int p4), .val (.int p2), .val (.int (-1 : Int32)), .val (.ref b55), .val (.ref b58), .val (.ref b62), .val (.ref x66), .val (.int (1 : Int32)), .val (.int (1 : Int32))] [(.int (1 : Int32)), (.int (1 : Int32))])) _
      refine own_go (fun _ k => XS.icmpNo X68.here hx rfl (hb hby at_155) rfl (teq (by decide : (1 : Int32) = (1 : Int32))).2 k) ?_
      show own_Go p e below (T68.setTop (mkF m 158 #[.val (.int p1), .val (.int p2), .val (.int p3), .val (.int p4), .val (.int p2), .val (.int (-1 : Int32)), .val (.ref b55), .val (.ref b58), .val (.ref b62), .val (.ref x66), .val (.int (1 : Int32)), .val (.int (1 : Int32))] [])) _
      refine own_go (fun _ k => XS.iconst X68.here hx rfl (hb hby at_158) k) ?_
      show own_Go p e below (T68.setTop (mkF m 159 #[.val (.int p1), .val (.int p2), .val (.int p3), .val (.int p4), .val (.int p2), .val (.int (-1 : Int32)), .val (.ref b55), .val (.ref b58), .val (.ref b62), .val (.ref x66), .val (.int (1 : Int32)), .val (.int (1 : Int32))] [(.int (1 : Int32))])) _
      refine own_go (fun _ k => XS.goto X68.here hx rfl (pc0 := 159) (pc' := 163) rfl (hb hby at_159) (by decide) (by decide) k) ?_
      show own_Go p e below (T68.setTop (mkF m 163 #[.val (.int p1), .val (.int p2), .val (.int p3), .val (.int p4), .val (.int p2), .val (.int (-1 : Int32)), .val (.ref b55), .val (.ref b58), .val (.ref b62), .val (.ref x66), .val (.int (1 : Int32)), .val (.int (1 : Int32))] [(.int (1 : Int32))])) _
      refine own_go (fun _ k => XS.istore X68.here hx rfl (hb hby at_163) rfl (l' := #[.val (.int p1), .val (.int p2), .val (.int p3), .val (.int p4), .val (.int p2), .val (.int (-1 : Int32)), .val (.ref b55), .val (.ref b58), .val (.ref b62), .val (.ref x66), .val (.int (1 : Int32)), .val (.int (1 : Int32))]) rfl k) ?_
      show own_Go p e below (T68.setTop (mkF m 165 #[.val (.int p1), .val (.int p2), .val (.int p3), .val (.int p4), .val (.int p2), .val (.int (-1 : Int32)), .val (.ref b55), .val (.ref b58), .val (.ref b62), .val (.ref x66), .val (.int (1 : Int32)), .val (.int (1 : Int32))] [])) _
      refine own_go (fun _ k => XS.iload X68.here hx rfl (hb hby at_165) rfl k) ?_
      show own_Go p e below (T68.setTop (mkF m 167 #[.val (.int p1), .val (.int p2), .val (.int p3), .val (.int p4), .val (.int p2), .val (.int (-1 : Int32)), .val (.ref b55), .val (.ref b58), .val (.ref b62), .val (.ref x66), .val (.int (1 : Int32)), .val (.int (1 : Int32))] [(.int (1 : Int32))])) _
      refine own_go (fun _ k => XS.ifNo X68.here hx rfl (hb hby at_167) rfl ((if0 _ _).trans (feq (by decide : ¬ ((1 : Int32) = (0 : Int32)))).1) k) ?_
      show own_Go p e below (T68.setTop (mkF m 170 #[.val (.int p1), .val (.int p2), .val (.int p3), .val (.int p4), .val (.int p2), .val (.int (-1 : Int32)), .val (.ref b55), .val (.ref b58), .val (.ref b62), .val (.ref x66), .val (.int (1 : Int32)), .val (.int (1 : Int32))] [])) _
      refine own_go (fun _ k => XS.aload X68.here hx rfl (hb hby at_170) rfl rfl k) ?_
      show own_Go p e below (T68.setTop (mkF m 172 #[.val (.int p1), .val (.int p2), .val (.int p3), .val (.int p4), .val (.int p2), .val (.int (-1 : Int32)), .val (.ref b55), .val (.ref b58), .val (.ref b62), .val (.ref x66), .val (.int (1 : Int32)), .val (.int (1 : Int32))] [(.ref x66)])) _
      obtain ⟨cq69, kq69, q69a, q69b, q69c⟩ := isOf hZ66 e68 Ex66
      obtain ⟨v69, _, ⟨T69, L69, k69, n69⟩, -, X69, ⟨Lc69, hQ69, l69, y69, z69⟩, st69⟩ := X68.virtualBack hx (y := (⟨"com/example/rederive/rederive/PatternFault", "isInHeader", "()Z"⟩ : MethodName)) (z := (⟨"com/example/rederive/rederive/PatternFault", "isInHeader", "()Z"⟩ : MethodName)) hown66 (mvT hZ66 (hw _ (List.mem_of_getElem? (i := 62) rfl))) (mvT hZ66 (hw _ (List.mem_of_getElem? (i := 63) rfl))) (notFace_of_selects (args := #[]) (mvT hZ66 (hw _ (List.mem_of_getElem? (i := 65) rfl)))) (mvT hZ66 (hw _ (List.mem_of_getElem? (i := 65) rfl))) (mvT hZ66 (hw _ (List.mem_of_getElem? (i := 64) rfl))) (by decide) (backOf (W := 0) (rm_isin l Z a0 hw [] x66 (-1 : Int32) (1 : Int32) T66.heap n0 (f65.keep K66 all0) Ex66 Fb66 (by decide)) hZ66 (hw _ (List.mem_of_getElem? (i := 66) rfl)) (hw _ (List.mem_of_getElem? (i := 32) rfl)) (by decide) (by decide)) q69a q69c (g := (mkF m 172 #[.val (.int p1), .val (.int p2), .val (.int p3), .val (.int p4), .val (.int p2), .val (.int (-1 : Int32)), .val (.ref b55), .val (.ref b58), .val (.ref b62), .val (.ref x66), .val (.int (1 : Int32)), .val (.int (1 : Int32))] [(.ref x66)])) rfl (by rw [hml]; rfl) (Steps.refl _) (argsL := []) (rest := []) (lenOf pd_5 rfl) rfl (by show 2 * 0 + _ ≤ _; exact Nat.le_of_eq rfl) (hb hby at_172) (fun _ _ => ⟨rfl, e68, (by decide : 9 + 0 ≤ _), (by decide : 78 + 0 ≤ _)⟩)
      dsimp only [Pt.U, Pt.locs, Pt.cells, Pt.slots] at X69 l69 y69 z69 st69 hQ69
      subst l69 y69 z69
      refine own_gos st69 ?_
      obtain ⟨rfl, Nq69, e69⟩ := hQ69
      have N69 := Fr.app N68 Nq69
      show own_Go p e below (T69.setTop (mkF m 175 #[.val (.int p1), .val (.int p2), .val (.int p3), .val (.int p4), .val (.int p2), .val (.int (-1 : Int32)), .val (.ref b55), .val (.ref b58), .val (.ref b62), .val (.ref x66), .val (.int (1 : Int32)), .val (.int (1 : Int32))] [(.int (1 : Int32))])) _
      refine own_go (fun _ k => XS.ifNo X69.here hx rfl (hb hby at_175) rfl ((if0 _ _).trans (feq (by decide : ¬ ((1 : Int32) = (0 : Int32)))).1) k) ?_
      show own_Go p e below (T69.setTop (mkF m 178 #[.val (.int p1), .val (.int p2), .val (.int p3), .val (.int p4), .val (.int p2), .val (.int (-1 : Int32)), .val (.ref b55), .val (.ref b58), .val (.ref b62), .val (.ref x66), .val (.int (1 : Int32)), .val (.int (1 : Int32))] [])) _
      refine own_go (fun _ k => XS.iconst X69.here hx rfl (hb hby at_178) k) ?_
      show own_Go p e below (T69.setTop (mkF m 179 #[.val (.int p1), .val (.int p2), .val (.int p3), .val (.int p4), .val (.int p2), .val (.int (-1 : Int32)), .val (.ref b55), .val (.ref b58), .val (.ref b62), .val (.ref x66), .val (.int (1 : Int32)), .val (.int (1 : Int32))] [(.int (1 : Int32))])) _
      refine own_go (fun _ k => XS.goto X69.here hx rfl (pc0 := 179) (pc' := 183) rfl (hb hby at_179) (by decide) (by decide) k) ?_
      show own_Go p e below (T69.setTop (mkF m 183 #[.val (.int p1), .val (.int p2), .val (.int p3), .val (.int p4), .val (.int p2), .val (.int (-1 : Int32)), .val (.ref b55), .val (.ref b58), .val (.ref b62), .val (.ref x66), .val (.int (1 : Int32)), .val (.int (1 : Int32))] [(.int (1 : Int32))])) _
      refine own_go (fun _ k => XS.istore X69.here hx rfl (hb hby at_183) rfl (l' := #[.val (.int p1), .val (.int p2), .val (.int p3), .val (.int p4), .val (.int p2), .val (.int (-1 : Int32)), .val (.ref b55), .val (.ref b58), .val (.ref b62), .val (.ref x66), .val (.int (1 : Int32)), .val (.int (1 : Int32))]) rfl k) ?_
      show own_Go p e below (T69.setTop (mkF m 185 #[.val (.int p1), .val (.int p2), .val (.int p3), .val (.int p4), .val (.int p2), .val (.int (-1 : Int32)), .val (.ref b55), .val (.ref b58), .val (.ref b62), .val (.ref x66), .val (.int (1 : Int32)), .val (.int (1 : Int32))] [])) _
      refine own_go (fun _ k => XS.iload X69.here hx rfl (hb hby at_185) rfl k) ?_
      show own_Go p e below (T69.setTop (mkF m 187 #[.val (.int p1), .val (.int p2), .val (.int p3), .val (.int p4), .val (.int p2), .val (.int (-1 : Int32)), .val (.ref b55), .val (.ref b58), .val (.ref b62), .val (.ref x66), .val (.int (1 : Int32)), .val (.int (1 : Int32))] [(.int (1 : Int32))])) _
      have z70 := (Nat.le_trans (Nat.le_trans (Nat.le_trans (Nat.le_trans z60 K61.1) E62.1) K64.1) K66.1)
      refine own_finW (v := (some (.int (nar .boolean (1 : Int32))))) X69 hh hZ66 hS66 (by rw [e69]; exact (Nat.le_refl _)) (fun h => by rw [hrt] at h; cases h) hlk (fun fs hr => retN X69 hx (t := .boolean) hrt (by simp) (hb hby at_187) hr) (QQ := QQ0 n0) ?_ own_hEL e69 (own_chr0 z70) (by decide) (by decide)
      rw [e69]
      exact ⟨rfl, N69⟩
  · skip
    refine own_go (fun _ k => XS.icmpYes X0.here hx rfl (pc0 := 9) (pc' := 16) rfl (hb hby at_9) rfl (feq hc37).2 (by decide) (by decide) k) ?_
    show own_Go p e below (s₁.setTop (mkF m 16 #[.val (.int p1), .val (.int p2), .val (.int p3), .val (.int p4), .val (.int p2), .val (.int p3), .unset, .unset, .unset, .unset, .unset, .unset] [])) _
    refine own_go (fun _ k => XS.iconst X0.here hx rfl (hb hby at_16) k) ?_
    show own_Go p e below (s₁.setTop (mkF m 17 #[.val (.int p1), .val (.int p2), .val (.int p3), .val (.int p4), .val (.int p2), .val (.int p3), .unset, .unset, .unset, .unset, .unset, .unset] [(.int (0 : Int32))])) _
    refine own_go (fun _ k => XS.iload X0.here hx rfl (hb hby at_17) rfl k) ?_
    show own_Go p e below (s₁.setTop (mkF m 19 #[.val (.int p1), .val (.int p2), .val (.int p3), .val (.int p4), .val (.int p2), .val (.int p3), .unset, .unset, .unset, .unset, .unset, .unset] [(.int p3), (.int (0 : Int32))])) _
    refine own_go (fun _ k => XS.iconst X0.here hx rfl (hb hby at_19) k) ?_
    show own_Go p e below (s₁.setTop (mkF m 20 #[.val (.int p1), .val (.int p2), .val (.int p3), .val (.int p4), .val (.int p2), .val (.int p3), .unset, .unset, .unset, .unset, .unset, .unset] [(.int (-1 : Int32)), (.int p3), (.int (0 : Int32))])) _
    by_cases hc71 : p3 = (-1 : Int32)
    · skip
      refine own_go (fun _ k => XS.icmpNo X0.here hx rfl (hb hby at_20) rfl (teq hc71).2 k) ?_
      show own_Go p e below (s₁.setTop (mkF m 23 #[.val (.int p1), .val (.int p2), .val (.int p3), .val (.int p4), .val (.int p2), .val (.int p3), .unset, .unset, .unset, .unset, .unset, .unset] [(.int (0 : Int32))])) _
      refine own_go (fun _ k => XS.iconst X0.here hx rfl (hb hby at_23) k) ?_
      show own_Go p e below (s₁.setTop (mkF m 24 #[.val (.int p1), .val (.int p2), .val (.int p3), .val (.int p4), .val (.int p2), .val (.int p3), .unset, .unset, .unset, .unset, .unset, .unset] [(.int (1 : Int32)), (.int (0 : Int32))])) _
      refine own_go (fun _ k => XS.goto X0.here hx rfl (pc0 := 24) (pc' := 28) rfl (hb hby at_24) (by decide) (by decide) k) ?_
      show own_Go p e below (s₁.setTop (mkF m 28 #[.val (.int p1), .val (.int p2), .val (.int p3), .val (.int p4), .val (.int p2), .val (.int p3), .unset, .unset, .unset, .unset, .unset, .unset] [(.int (1 : Int32)), (.int (0 : Int32))])) _
      refine own_go (fun _ k => XS.icmpNo X0.here hx rfl (hb hby at_28) rfl (feq (by decide : ¬ ((0 : Int32) = (1 : Int32)))).1 k) ?_
      show own_Go p e below (s₁.setTop (mkF m 31 #[.val (.int p1), .val (.int p2), .val (.int p3), .val (.int p4), .val (.int p2), .val (.int p3), .unset, .unset, .unset, .unset, .unset, .unset] [])) _
      refine own_go (fun _ k => XS.iload X0.here hx rfl (hb hby at_31) rfl k) ?_
      show own_Go p e below (s₁.setTop (mkF m 33 #[.val (.int p1), .val (.int p2), .val (.int p3), .val (.int p4), .val (.int p2), .val (.int p3), .unset, .unset, .unset, .unset, .unset, .unset] [(.int p2)])) _
      refine own_go (fun _ k => XS.iconst X0.here hx rfl (hb hby at_33) k) ?_
      show own_Go p e below (s₁.setTop (mkF m 34 #[.val (.int p1), .val (.int p2), .val (.int p3), .val (.int p4), .val (.int p2), .val (.int p3), .unset, .unset, .unset, .unset, .unset, .unset] [(.int (-1 : Int32)), (.int p2)])) _
      refine own_go (fun _ k => XS.icmpYes X0.here hx rfl (pc0 := 34) (pc' := 43) rfl (hb hby at_34) rfl (feq hc37).2 (by decide) (by decide) k) ?_
      show own_Go p e below (s₁.setTop (mkF m 43 #[.val (.int p1), .val (.int p2), .val (.int p3), .val (.int p4), .val (.int p2), .val (.int p3), .unset, .unset, .unset, .unset, .unset, .unset] [])) _
      refine own_go (fun _ k => XS.iload X0.here hx rfl (hb hby at_43) rfl k) ?_
      show own_Go p e below (s₁.setTop (mkF m 45 #[.val (.int p1), .val (.int p2), .val (.int p3), .val (.int p4), .val (.int p2), .val (.int p3), .unset, .unset, .unset, .unset, .unset, .unset] [(.int p3)])) _
      refine own_go (fun _ k => XS.iconst X0.here hx rfl (hb hby at_45) k) ?_
      show own_Go p e below (s₁.setTop (mkF m 46 #[.val (.int p1), .val (.int p2), .val (.int p3), .val (.int p4), .val (.int p2), .val (.int p3), .unset, .unset, .unset, .unset, .unset, .unset] [(.int (1 : Int32)), (.int p3)])) _
      refine own_go (fun _ k => XS.ixor X0.here hx rfl (hb hby at_46) rfl k) ?_
      show own_Go p e below (s₁.setTop (mkF m 47 #[.val (.int p1), .val (.int p2), .val (.int p3), .val (.int p4), .val (.int p2), .val (.int p3), .unset, .unset, .unset, .unset, .unset, .unset] [(.int (p3 ^^^ (1 : Int32)))])) _
      refine own_go (fun _ k => XS.istore X0.here hx rfl (hb hby at_47) rfl (l' := #[.val (.int p1), .val (.int p2), .val (.int p3), .val (.int p4), .val (.int p2), .val (.int (p3 ^^^ (1 : Int32))), .unset, .unset, .unset, .unset, .unset, .unset]) rfl k) ?_
      show own_Go p e below (s₁.setTop (mkF m 49 #[.val (.int p1), .val (.int p2), .val (.int p3), .val (.int p4), .val (.int p2), .val (.int (p3 ^^^ (1 : Int32))), .unset, .unset, .unset, .unset, .unset, .unset] [])) _
      have hcc : ¬ ((p3 ^^^ (1 : Int32)) = (-1 : Int32)) := (own_xor1 hc71)
      have hbc : p2 = (-1 : Int32) ↔ (p3 ^^^ (1 : Int32)) = (-1 : Int32) := ⟨fun q => absurd q hc37, fun q => absurd q hcc⟩
      refine own_go (fun _ k => XS.iconst X0.here hx rfl (hb hby at_49) k) ?_
      show own_Go p e below (s₁.setTop (mkF m 50 #[.val (.int p1), .val (.int p2), .val (.int p3), .val (.int p4), .val (.int p2), .val (.int (p3 ^^^ (1 : Int32))), .unset, .unset, .unset, .unset, .unset, .unset] [(.int (1 : Int32))])) _
      obtain ⟨T72, h72, k72, X72, e72, E72, A72, st72⟩ := newP X0 hx hZ (hw _ (List.mem_of_getElem? (i := 0) rfl)) e0 (g := (mkF m 50 #[.val (.int p1), .val (.int p2), .val (.int p3), .val (.int p4), .val (.int p2), .val (.int (p3 ^^^ (1 : Int32))), .unset, .unset, .unset, .unset, .unset, .unset] [(.int (1 : Int32))])) rfl (hb hby at_50) rfl (by decide) (cap := 1) (by decide) (by decide) (by decide) (by decide)
      obtain ⟨b72, g72⟩ : ∃ z, z = h0.size := ⟨_, rfl⟩
      rw [← g72] at A72 st72
      refine own_go st72 ?_
      have V72 : Arv Z h72 b72 k72 .char (1 : Int32) [(.int (0 : Int32))] (.int (0 : Int32)) := (Arv.new A72 (by decide)).pad (pad_rep [] (.int (0 : Int32)) 1)
      show own_Go p e below (T72.setTop (mkF m 52 #[.val (.int p1), .val (.int p2), .val (.int p3), .val (.int p4), .val (.int p2), .val (.int (p3 ^^^ (1 : Int32))), .unset, .unset, .unset, .unset, .unset, .unset] [(.ref b72)])) _
      refine own_go (fun _ k => XS.astore X72.here hx rfl (hb hby at_52) rfl rfl (l' := #[.val (.int p1), .val (.int p2), .val (.int p3), .val (.int p4), .val (.int p2), .val (.int (p3 ^^^ (1 : Int32))), .val (.ref b72), .unset, .unset, .unset, .unset, .unset]) rfl k) ?_
      show own_Go p e below (T72.setTop (mkF m 54 #[.val (.int p1), .val (.int p2), .val (.int p3), .val (.int p4), .val (.int p2), .val (.int (p3 ^^^ (1 : Int32))), .val (.ref b72), .unset, .unset, .unset, .unset, .unset] [])) _
      refine own_go (fun _ k => XS.aload X72.here hx rfl (hb hby at_54) rfl rfl k) ?_
      show own_Go p e below (T72.setTop (mkF m 56 #[.val (.int p1), .val (.int p2), .val (.int p3), .val (.int p4), .val (.int p2), .val (.int (p3 ^^^ (1 : Int32))), .val (.ref b72), .unset, .unset, .unset, .unset, .unset] [(.ref b72)])) _
      refine own_go (fun _ k => XS.iconst X72.here hx rfl (hb hby at_56) k) ?_
      show own_Go p e below (T72.setTop (mkF m 57 #[.val (.int p1), .val (.int p2), .val (.int p3), .val (.int p4), .val (.int p2), .val (.int (p3 ^^^ (1 : Int32))), .val (.ref b72), .unset, .unset, .unset, .unset, .unset] [(.int (0 : Int32)), (.ref b72)])) _
      refine own_go (fun _ k => XS.iloadN X72.here hx rfl (hb hby at_57) rfl k) ?_
      show own_Go p e below (T72.setTop (mkF m 58 #[.val (.int p1), .val (.int p2), .val (.int p3), .val (.int p4), .val (.int p2), .val (.int (p3 ^^^ (1 : Int32))), .val (.ref b72), .unset, .unset, .unset, .unset, .unset] [(.int p4), (.int (0 : Int32)), (.ref b72)])) _
      refine own_go (fun _ k => XS.sipush X72.here hx rfl (hb hby at_58) k) ?_
      show own_Go p e below (T72.setTop (mkF m 61 #[.val (.int p1), .val (.int p2), .val (.int p3), .val (.int p4), .val (.int p2), .val (.int (p3 ^^^ (1 : Int32))), .val (.ref b72), .unset, .unset, .unset, .unset, .unset] [(.int (255 : Int32)), (.int p4), (.int (0 : Int32)), (.ref b72)])) _
      refine own_go (fun _ k => XS.iand X72.here hx rfl (hb hby at_61) rfl k) ?_
      show own_Go p e below (T72.setTop (mkF m 62 #[.val (.int p1), .val (.int p2), .val (.int p3), .val (.int p4), .val (.int p2), .val (.int (p3 ^^^ (1 : Int32))), .val (.ref b72), .unset, .unset, .unset, .unset, .unset] [(.int (p4 &&& (255 : Int32))), (.int (0 : Int32)), (.ref b72)])) _
      refine own_go (fun _ k => XS.i2c X72.here hx rfl (hb hby at_62) rfl k) ?_
      show own_Go p e below (T72.setTop (mkF m 63 #[.val (.int p1), .val (.int p2), .val (.int p3), .val (.int p4), .val (.int p2), .val (.int (p3 ^^^ (1 : Int32))), .val (.ref b72), .unset, .unset, .unset, .unset, .unset] [(.int ((p4 &&& (255 : Int32)).toUInt32.toUInt16.toUInt32.toInt32)), (.int (0 : Int32)), (.ref b72)])) _
      obtain ⟨c73, A73, q73, S73, M73, Hs73, Gs73⟩ := id V72
      obtain ⟨T74, h74, X74, e74, W74, st74⟩ := stC X72 hx hZ e72 A73 (j := (0 : Int32)) (inb_of S73 ⟨by decide, by decide⟩) (g := (mkF m 63 #[.val (.int p1), .val (.int p2), .val (.int p3), .val (.int p4), .val (.int p2), .val (.int (p3 ^^^ (1 : Int32))), .val (.ref b72), .unset, .unset, .unset, .unset, .unset] [(.int ((p4 &&& (255 : Int32)).toUInt32.toUInt16.toUInt32.toInt32)), (.int (0 : Int32)), (.ref b72)])) rfl rfl (hb hby at_63)
      refine own_go st74 ?_
      have N74 := Fr.snoc X74 N0 (Nat.le_trans Z0 (Nat.le_of_eq g72.symm))
      have V74 : Arv Z h74 b72 k72 .char (1 : Int32) [(.int (nar .char ((p4 &&& (255 : Int32)).toUInt32.toUInt16.toUInt32.toInt32)))] (.int (0 : Int32)) := Arv.set A73 q73 S73 M73 Hs73 Gs73 (fits_nar_char _) W74 0 rfl (Nat.le_of_ble_eq_true rfl)
      show own_Go p e below (T74.setTop (mkF m 64 #[.val (.int p1), .val (.int p2), .val (.int p3), .val (.int p4), .val (.int p2), .val (.int (p3 ^^^ (1 : Int32))), .val (.ref b72), .unset, .unset, .unset, .unset, .unset] [])) _
      obtain ⟨T75, h75, X75, e75, E75, A75, D75, U75, st75⟩ := newO X74 hx hZ hown (hw _ (List.mem_of_getElem? (i := 1) rfl)) (hw _ (List.mem_of_getElem? (i := 2) rfl)) (hw _ (List.mem_of_getElem? (i := 3) rfl)) e74 (g := (mkF m 64 #[.val (.int p1), .val (.int p2), .val (.int p3), .val (.int p4), .val (.int p2), .val (.int (p3 ^^^ (1 : Int32))), .val (.ref b72), .unset, .unset, .unset, .unset, .unset] [])) rfl (hb hby at_64) (by decide) (by decide)
      obtain ⟨b75, g75⟩ : ∃ z, z = h74.size := ⟨_, rfl⟩
      rw [← g75] at A75 D75 U75 st75
      refine own_go st75 ?_
      have F75_coder : Fld Z h75 b75 "java/lang/String" "coder" "B" (.int (0 : Int32)) := D75 (Or.inr (hw _ (List.mem_of_getElem? (i := 27) rfl))) (ty := .byte) (by decide)
      have F75_value : Fld Z h75 b75 "java/lang/String" "value" "[B" .null := D75 (Or.inr (hw _ (List.mem_of_getElem? (i := 29) rfl))) (ty := (.array .byte)) (by decide)
      show own_Go p e below (T75.setTop (mkF m 67 #[.val (.int p1), .val (.int p2), .val (.int p3), .val (.int p4), .val (.int p2), .val (.int (p3 ^^^ (1 : Int32))), .val (.ref b72), .unset, .unset, .unset, .unset, .unset] [(.ref b75)])) _
      refine own_go (fun _ k => XS.dup X75.here hx rfl (hb hby at_67) rfl rfl k) ?_
      show own_Go p e below (T75.setTop (mkF m 68 #[.val (.int p1), .val (.int p2), .val (.int p3), .val (.int p4), .val (.int p2), .val (.int (p3 ^^^ (1 : Int32))), .val (.ref b72), .unset, .unset, .unset, .unset, .unset] [(.ref b75), (.ref b75)])) _
      refine own_go (fun _ k => XS.aload X75.here hx rfl (hb hby at_68) rfl rfl k) ?_
      show own_Go p e below (T75.setTop (mkF m 70 #[.val (.int p1), .val (.int p2), .val (.int p3), .val (.int p4), .val (.int p2), .val (.int (p3 ^^^ (1 : Int32))), .val (.ref b72), .unset, .unset, .unset, .unset, .unset] [(.ref b72), (.ref b75), (.ref b75)])) _
      have f76 := (((O0.ext E72).wr W74 (Nat.le_trans Z0 (Nat.le_of_eq g72.symm))).ext E75)
      have z77 := (Nat.le_trans (Nat.le_trans E72.1 (Keep.of_wr W74).1) E75.1)
      obtain ⟨v78, _, ⟨T78, L78, k78, n78⟩, -, X78, ⟨Lc78, hQ78, l78, y78, z78⟩, st78⟩ := X75.specialBack hx (y := (⟨"java/lang/String", "<init>", "([C)V"⟩ : MethodName)) rfl hown (mvT hZ (hw _ (List.mem_of_getElem? (i := 4) rfl))) (mvT hZ (hw _ (List.mem_of_getElem? (i := 5) rfl))) (mvT hZ (hw _ (List.mem_of_getElem? (i := 6) rfl))) (by decide) (StrChars.Road.backV (W := 1) hZ (own_wStr hw) (kI := 4) (hw _ (List.mem_of_getElem? (i := 2) rfl)) (cs := ([(nar .char ((p4 &&& (255 : Int32)).toUInt32.toUInt16.toUInt32.toInt32))] : List Int32)) (bs := (([(nar .char ((p4 &&& (255 : Int32)).toUInt32.toUInt16.toUInt32.toInt32))] : List Int32)).map (fun c => c.toInt8.toInt32)) (n := 1) (Nat.le_trans Z0 (Nat.le_trans (Nat.le_trans E72.1 (Keep.of_wr W74).1) (Nat.le_of_eq g75.symm))) (Nat.le_trans Z0 z77) A75 F75_value F75_coder (V74.ext E75) (O2.ext f76.2) P5 rfl rfl (by decide) (by decide) (own_lat1 p4) rfl (by decide) (by decide)) (g := (mkF m 70 #[.val (.int p1), .val (.int p2), .val (.int p3), .val (.int p4), .val (.int p2), .val (.int (p3 ^^^ (1 : Int32))), .val (.ref b72), .unset, .unset, .unset, .unset, .unset] [(.ref b72), (.ref b75), (.ref b75)])) rfl (by rw [hml]; rfl) (Steps.refl _) (a := b75) (argsL := [(.ref b72)]) (rest := [(.ref b75)]) (lenOf pd_3 rfl) rfl (by show 2 * 0 + _ ≤ _; exact Nat.le_of_eq rfl) (hb hby at_70) (fun _ _ => ⟨rfl, e75, (by decide : 2 + 1 ≤ _), (by decide : 5 + 1 ≤ _)⟩)
      dsimp only [Pt.U, Pt.locs, Pt.cells, Pt.slots] at X78 l78 y78 z78 st78 hQ78
      subst l78 y78 z78
      refine own_gos st78 ?_
      obtain ⟨rfl, Nq78, K78, Eq78, Fc78, t78, kt78, -, tg78, tn78, Fv78, Vt78⟩ := hQ78
      have N78 := Fr.app N74 Nq78
      show own_Go p e below (T78.setTop (mkF m 73 #[.val (.int p1), .val (.int p2), .val (.int p3), .val (.int p4), .val (.int p2), .val (.int (p3 ^^^ (1 : Int32))), .val (.ref b72), .unset, .unset, .unset, .unset, .unset] [(.ref b75)])) _
      refine own_go (fun _ k => XS.astore X78.here hx rfl (hb hby at_73) rfl rfl (l' := #[.val (.int p1), .val (.int p2), .val (.int p3), .val (.int p4), .val (.int p2), .val (.int (p3 ^^^ (1 : Int32))), .val (.ref b72), .val (.ref b75), .unset, .unset, .unset, .unset]) rfl k) ?_
      show own_Go p e below (T78.setTop (mkF m 75 #[.val (.int p1), .val (.int p2), .val (.int p3), .val (.int p4), .val (.int p2), .val (.int (p3 ^^^ (1 : Int32))), .val (.ref b72), .val (.ref b75), .unset, .unset, .unset, .unset] [])) _
      obtain ⟨T79, h79, X79, e79, E79, A79, D79, U79, st79⟩ := newO X78 hx hZ hown (hw _ (List.mem_of_getElem? (i := 30) rfl)) (hw _ (List.mem_of_getElem? (i := 31) rfl)) (hw _ (List.mem_of_getElem? (i := 32) rfl)) (rfl : T78.heap = T78.heap) (g := (mkF m 75 #[.val (.int p1), .val (.int p2), .val (.int p3), .val (.int p4), .val (.int p2), .val (.int (p3 ^^^ (1 : Int32))), .val (.ref b72), .val (.ref b75), .unset, .unset, .unset, .unset] [])) rfl (hb hby at_75) (by decide) (by decide)
      obtain ⟨b79, g79⟩ : ∃ z, z = T78.heap.size := ⟨_, rfl⟩
      rw [← g79] at A79 D79 U79 st79
      refine own_go st79 ?_
      have F79_pattern : Fld Z h79 b79 "com/example/rederive/rederive/PatternFault" "pattern" "I" (.int (0 : Int32)) := D79 (Or.inr (hw _ (List.mem_of_getElem? (i := 50) rfl))) (ty := .int) (by decide)
      have F79_body : Fld Z h79 b79 "com/example/rederive/rederive/PatternFault" "body" "I" (.int (0 : Int32)) := D79 (Or.inr (hw _ (List.mem_of_getElem? (i := 52) rfl))) (ty := .int) (by decide)
      have F79_constraint : Fld Z h79 b79 "com/example/rederive/rederive/PatternFault" "constraint" "I" (.int (0 : Int32)) := D79 (Or.inr (hw _ (List.mem_of_getElem? (i := 54) rfl))) (ty := .int) (by decide)
      have F79_message : Fld Z h79 b79 "com/example/rederive/rederive/PatternFault" "message" "Ljava/lang/String;" .null := D79 (Or.inr (hw _ (List.mem_of_getElem? (i := 56) rfl))) (ty := (.object "java/lang/String")) (by decide)
      show own_Go p e below (T79.setTop (mkF m 78 #[.val (.int p1), .val (.int p2), .val (.int p3), .val (.int p4), .val (.int p2), .val (.int (p3 ^^^ (1 : Int32))), .val (.ref b72), .val (.ref b75), .unset, .unset, .unset, .unset] [(.ref b79)])) _
      refine own_go (fun _ k => XS.dup X79.here hx rfl (hb hby at_78) rfl rfl k) ?_
      show own_Go p e below (T79.setTop (mkF m 79 #[.val (.int p1), .val (.int p2), .val (.int p3), .val (.int p4), .val (.int p2), .val (.int (p3 ^^^ (1 : Int32))), .val (.ref b72), .val (.ref b75), .unset, .unset, .unset, .unset] [(.ref b79), (.ref b79)])) _
      refine own_go (fun _ k => XS.iloadN X79.here hx rfl (hb hby at_79) rfl k) ?_
      show own_Go p e below (T79.setTop (mkF m 80 #[.val (.int p1), .val (.int p2), .val (.int p3), .val (.int p4), .val (.int p2), .val (.int (p3 ^^^ (1 : Int32))), .val (.ref b72), .val (.ref b75), .unset, .unset, .unset, .unset] [(.int p1), (.ref b79), (.ref b79)])) _
      refine own_go (fun _ k => XS.iload X79.here hx rfl (hb hby at_80) rfl k) ?_
      show own_Go p e below (T79.setTop (mkF m 82 #[.val (.int p1), .val (.int p2), .val (.int p3), .val (.int p4), .val (.int p2), .val (.int (p3 ^^^ (1 : Int32))), .val (.ref b72), .val (.ref b75), .unset, .unset, .unset, .unset] [(.int p2), (.int p1), (.ref b79), (.ref b79)])) _
      refine own_go (fun _ k => XS.iload X79.here hx rfl (hb hby at_82) rfl k) ?_
      show own_Go p e below (T79.setTop (mkF m 84 #[.val (.int p1), .val (.int p2), .val (.int p3), .val (.int p4), .val (.int p2), .val (.int (p3 ^^^ (1 : Int32))), .val (.ref b72), .val (.ref b75), .unset, .unset, .unset, .unset] [(.int (p3 ^^^ (1 : Int32))), (.int p2), (.int p1), (.ref b79), (.ref b79)])) _
      refine own_go (fun _ k => XS.aload X79.here hx rfl (hb hby at_84) rfl rfl k) ?_
      show own_Go p e below (T79.setTop (mkF m 86 #[.val (.int p1), .val (.int p2), .val (.int p3), .val (.int p4), .val (.int p2), .val (.int (p3 ^^^ (1 : Int32))), .val (.ref b72), .val (.ref b75), .unset, .unset, .unset, .unset] [(.ref b75), (.int (p3 ^^^ (1 : Int32))), (.int p2), (.int p1), (.ref b79), (.ref b79)])) _
      have f80 := ((f76.keep K78 (allS (Nat.le_trans Z0 (Nat.le_trans (Nat.le_trans E72.1 (Keep.of_wr W74).1) (Nat.le_of_eq g75.symm))) all0)).ext E79)
      obtain ⟨v81, _, ⟨T81, L81, k81, n81⟩, -, X81, hS81, hg81, ⟨Lc81, hQ81, l81, y81, z81, A81⟩, st81⟩ := X79.specialBackS hx (y := (⟨"com/example/rederive/rederive/PatternFault", "<init>", "(IIILjava/lang/String;)V"⟩ : MethodName)) rfl hown (mvT hZ (hw _ (List.mem_of_getElem? (i := 33) rfl))) (mvT hZ (hw _ (List.mem_of_getElem? (i := 34) rfl))) (mvT hZ (hw _ (List.mem_of_getElem? (i := 35) rfl))) (by decide) (backOfSH (W := 1) (rm_init l Z a0 hw [] b79 p1 p2 (p3 ^^^ (1 : Int32)) b75 h79 n0 f80 A79 F79_pattern F79_body F79_constraint F79_message (Nat.le_trans Z0 (Nat.le_trans (Nat.le_trans z77 K78.1) (Nat.le_of_eq g79.symm))) hbc) hZ (hw _ (List.mem_of_getElem? (i := 35) rfl)) (hw _ (List.mem_of_getElem? (i := 32) rfl)) (by decide) (by decide) own_hEL own_chv0) (g := (mkF m 86 #[.val (.int p1), .val (.int p2), .val (.int p3), .val (.int p4), .val (.int p2), .val (.int (p3 ^^^ (1 : Int32))), .val (.ref b72), .val (.ref b75), .unset, .unset, .unset, .unset] [(.ref b75), (.int (p3 ^^^ (1 : Int32))), (.int p2), (.int p1), (.ref b79), (.ref b79)])) rfl (by rw [hml]; rfl) (Steps.refl _) (a := b79) (argsL := [(.int p1), (.int p2), (.int (p3 ^^^ (1 : Int32))), (.ref b75)]) (rest := [(.ref b79)]) (lenOf pd_2 rfl) rfl (by show 2 * 0 + _ ≤ _; exact Nat.le_of_eq rfl) (hb hby at_86) (fun _ _ => ⟨rfl, e79, (by decide : 4 + 2 ≤ _), (by decide : 10 + 32 ≤ _)⟩)
      dsimp only [Pt.U, Pt.locs, Pt.cells, Pt.slots] at X81 l81 y81 z81 st81 hQ81 hS81 hg81 A81
      subst l81 y81 z81
      refine own_gos st81 ?_
      obtain ⟨X81, hS81, hZ81, hown81⟩ := rebS hS0 (k0 := _) (n1 := T79.heap.size) (by rw [e79]; exact (Nat.zero_le _)) X81 hS81 hg81 hZ hown
      obtain ⟨rfl, Nq81, K81, Fb81⟩ := hQ81
      have N81 := Fr.app N78 Nq81
      show own_Go p e below (T81.setTop (mkF m 89 #[.val (.int p1), .val (.int p2), .val (.int p3), .val (.int p4), .val (.int p2), .val (.int (p3 ^^^ (1 : Int32))), .val (.ref b72), .val (.ref b75), .unset, .unset, .unset, .unset] [(.ref b79)])) _
      refine own_go (fun _ k => XS.astore X81.here hx rfl (hb hby at_89) rfl rfl (l' := #[.val (.int p1), .val (.int p2), .val (.int p3), .val (.int p4), .val (.int p2), .val (.int (p3 ^^^ (1 : Int32))), .val (.ref b72), .val (.ref b75), .val (.ref b79), .unset, .unset, .unset]) rfl k) ?_
      show own_Go p e below (T81.setTop (mkF m 91 #[.val (.int p1), .val (.int p2), .val (.int p3), .val (.int p4), .val (.int p2), .val (.int (p3 ^^^ (1 : Int32))), .val (.ref b72), .val (.ref b75), .val (.ref b79), .unset, .unset, .unset] [])) _
      refine own_go (fun _ k => XS.iloadN X81.here hx rfl (hb hby at_91) rfl k) ?_
      show own_Go p e below (T81.setTop (mkF m 92 #[.val (.int p1), .val (.int p2), .val (.int p3), .val (.int p4), .val (.int p2), .val (.int (p3 ^^^ (1 : Int32))), .val (.ref b72), .val (.ref b75), .val (.ref b79), .unset, .unset, .unset] [(.int p1)])) _
      refine own_go (fun _ k => XS.aload X81.here hx rfl (hb hby at_92) rfl rfl k) ?_
      show own_Go p e below (T81.setTop (mkF m 94 #[.val (.int p1), .val (.int p2), .val (.int p3), .val (.int p4), .val (.int p2), .val (.int (p3 ^^^ (1 : Int32))), .val (.ref b72), .val (.ref b75), .val (.ref b79), .unset, .unset, .unset] [(.ref b75), (.int p1)])) _
      have f82 := (f80.keep K81 (allS (Nat.le_trans Z0 (Nat.le_trans (Nat.le_trans z77 K78.1) (Nat.le_of_eq g79.symm))) all0))
      obtain ⟨v83, _, ⟨T83, L83, k83, n83⟩, -, X83, hS83, hg83, ⟨Lc83, hQ83, l83, y83, z83, A83⟩, st83⟩ := callSS X81 hx (y := (⟨"com/example/rederive/rederive/PatternFault", "inHeader", "(ILjava/lang/String;)Lcom/example/rederive/rederive/PatternFault;"⟩ : MethodName)) hown81 (mvT hZ81 (hw _ (List.mem_of_getElem? (i := 57) rfl))) (mvT hZ81 (hw _ (List.mem_of_getElem? (i := 58) rfl))) (mvT hZ81 (hw _ (List.mem_of_getElem? (i := 32) rfl))) (mvT hZ81 (hw _ (List.mem_of_getElem? (i := 59) rfl))) (by decide) (backOfSH (W := 0) (rm_inh l Z a0 hw [] p1 b75 T81.heap n0 f82 ) hZ81 (hw _ (List.mem_of_getElem? (i := 59) rfl)) (hw _ (List.mem_of_getElem? (i := 32) rfl)) (by decide) (by decide) own_hEL own_chv0) (g := (mkF m 94 #[.val (.int p1), .val (.int p2), .val (.int p3), .val (.int p4), .val (.int p2), .val (.int (p3 ^^^ (1 : Int32))), .val (.ref b72), .val (.ref b75), .val (.ref b79), .unset, .unset, .unset] [(.ref b75), (.int p1)])) rfl (by rw [hml]; rfl) (argsL := [(.int p1), (.ref b75)]) (rest := []) (lenOf pd_4 rfl) rfl (by show 2 * 0 + _ ≤ _; exact Nat.le_of_eq rfl) (hb hby at_94) (fun _ _ => ⟨rfl, (rfl : T81.heap = T81.heap), (by decide : 6 + 3 ≤ _), (by decide : 42 + 36 ≤ _)⟩)
      dsimp only [Pt.U, Pt.locs, Pt.cells, Pt.slots] at X83 l83 y83 z83 st83 hQ83 hS83 hg83 A83
      subst l83 y83 z83
      refine own_gos st83 ?_
      obtain ⟨X83, hS83, hZ83, hown83⟩ := rebS hS81 (k0 := _) (n1 := T81.heap.size) (by rw [(rfl : T81.heap = T81.heap)]; exact (Nat.le_refl _)) X83 hS83 hg83 hZ81 hown81
      obtain ⟨x83, rfl, Nq83, K83, gx83, Ex83, Fb83⟩ := hQ83
      have N83 := Fr.app N81 Nq83
      show own_Go p e below (T83.setTop (mkF m 97 #[.val (.int p1), .val (.int p2), .val (.int p3), .val (.int p4), .val (.int p2), .val (.int (p3 ^^^ (1 : Int32))), .val (.ref b72), .val (.ref b75), .val (.ref b79), .unset, .unset, .unset] [(.ref x83)])) _
      refine own_go (fun _ k => XS.astore X83.here hx rfl (hb hby at_97) rfl rfl (l' := #[.val (.int p1), .val (.int p2), .val (.int p3), .val (.int p4), .val (.int p2), .val (.int (p3 ^^^ (1 : Int32))), .val (.ref b72), .val (.ref b75), .val (.ref b79), .val (.ref x83), .unset, .unset]) rfl k) ?_
      show own_Go p e below (T83.setTop (mkF m 99 #[.val (.int p1), .val (.int p2), .val (.int p3), .val (.int p4), .val (.int p2), .val (.int (p3 ^^^ (1 : Int32))), .val (.ref b72), .val (.ref b75), .val (.ref b79), .val (.ref x83), .unset, .unset] [])) _
      refine own_go (fun _ k => XS.aload X83.here hx rfl (hb hby at_99) rfl rfl k) ?_
      show own_Go p e below (T83.setTop (mkF m 101 #[.val (.int p1), .val (.int p2), .val (.int p3), .val (.int p4), .val (.int p2), .val (.int (p3 ^^^ (1 : Int32))), .val (.ref b72), .val (.ref b75), .val (.ref b79), .val (.ref x83), .unset, .unset] [(.ref b79)])) _
      have f84 := ((A79.keep K81).keep K83)
      obtain ⟨cq85, kq85, q85a, q85b, q85c⟩ := isOf hZ83 (rfl : T83.heap = T83.heap) f84
      obtain ⟨v85, _, ⟨T85, L85, k85, n85⟩, -, X85, ⟨Lc85, hQ85, l85, y85, z85⟩, st85⟩ := X83.virtualBack hx (y := (⟨"com/example/rederive/rederive/PatternFault", "isInHeader", "()Z"⟩ : MethodName)) (z := (⟨"com/example/rederive/rederive/PatternFault", "isInHeader", "()Z"⟩ : MethodName)) hown83 (mvT hZ83 (hw _ (List.mem_of_getElem? (i := 62) rfl))) (mvT hZ83 (hw _ (List.mem_of_getElem? (i := 63) rfl))) (notFace_of_selects (args := #[]) (mvT hZ83 (hw _ (List.mem_of_getElem? (i := 65) rfl)))) (mvT hZ83 (hw _ (List.mem_of_getElem? (i := 65) rfl))) (mvT hZ83 (hw _ (List.mem_of_getElem? (i := 64) rfl))) (by decide) (backOf (W := 0) (rm_isin l Z a0 hw [] b79 p2 (0 : Int32) T83.heap n0 (f82.keep K83 all0) f84 (Fb81.keep K83 nin0) (if_neg hc37).symm) hZ83 (hw _ (List.mem_of_getElem? (i := 66) rfl)) (hw _ (List.mem_of_getElem? (i := 32) rfl)) (by decide) (by decide)) q85a q85c (g := (mkF m 101 #[.val (.int p1), .val (.int p2), .val (.int p3), .val (.int p4), .val (.int p2), .val (.int (p3 ^^^ (1 : Int32))), .val (.ref b72), .val (.ref b75), .val (.ref b79), .val (.ref x83), .unset, .unset] [(.ref b79)])) rfl (by rw [hml]; rfl) (Steps.refl _) (argsL := []) (rest := []) (lenOf pd_5 rfl) rfl (by show 2 * 0 + _ ≤ _; exact Nat.le_of_eq rfl) (hb hby at_101) (fun _ _ => ⟨rfl, (rfl : T83.heap = T83.heap), (by decide : 9 + 0 ≤ _), (by decide : 78 + 0 ≤ _)⟩)
      dsimp only [Pt.U, Pt.locs, Pt.cells, Pt.slots] at X85 l85 y85 z85 st85 hQ85
      subst l85 y85 z85
      refine own_gos st85 ?_
      obtain ⟨rfl, Nq85, e85⟩ := hQ85
      have N85 := Fr.app N83 Nq85
      show own_Go p e below (T85.setTop (mkF m 104 #[.val (.int p1), .val (.int p2), .val (.int p3), .val (.int p4), .val (.int p2), .val (.int (p3 ^^^ (1 : Int32))), .val (.ref b72), .val (.ref b75), .val (.ref b79), .val (.ref x83), .unset, .unset] [(.int (0 : Int32))])) _
      refine own_go (fun _ k => XS.istore X85.here hx rfl (hb hby at_104) rfl (l' := #[.val (.int p1), .val (.int p2), .val (.int p3), .val (.int p4), .val (.int p2), .val (.int (p3 ^^^ (1 : Int32))), .val (.ref b72), .val (.ref b75), .val (.ref b79), .val (.ref x83), .val (.int (0 : Int32)), .unset]) rfl k) ?_
      show own_Go p e below (T85.setTop (mkF m 106 #[.val (.int p1), .val (.int p2), .val (.int p3), .val (.int p4), .val (.int p2), .val (.int (p3 ^^^ (1 : Int32))), .val (.ref b72), .val (.ref b75), .val (.ref b79), .val (.ref x83), .val (.int (0 : Int32)), .unset] [])) _
      refine own_go (fun _ k => XS.iconst X85.here hx rfl (hb hby at_106) k) ?_
      show own_Go p e below (T85.setTop (mkF m 107 #[.val (.int p1), .val (.int p2), .val (.int p3), .val (.int p4), .val (.int p2), .val (.int (p3 ^^^ (1 : Int32))), .val (.ref b72), .val (.ref b75), .val (.ref b79), .val (.ref x83), .val (.int (0 : Int32)), .unset] [(.int (1 : Int32))])) _
      refine own_go (fun _ k => XS.istore X85.here hx rfl (hb hby at_107) rfl (l' := #[.val (.int p1), .val (.int p2), .val (.int p3), .val (.int p4), .val (.int p2), .val (.int (p3 ^^^ (1 : Int32))), .val (.ref b72), .val (.ref b75), .val (.ref b79), .val (.ref x83), .val (.int (0 : Int32)), .val (.int (1 : Int32))]) rfl k) ?_
      show own_Go p e below (T85.setTop (mkF m 109 #[.val (.int p1), .val (.int p2), .val (.int p3), .val (.int p4), .val (.int p2), .val (.int (p3 ^^^ (1 : Int32))), .val (.ref b72), .val (.ref b75), .val (.ref b79), .val (.ref x83), .val (.int (0 : Int32)), .val (.int (1 : Int32))] [])) _
      refine own_go (fun _ k => XS.iload X85.here hx rfl (hb hby at_109) rfl k) ?_
      show own_Go p e below (T85.setTop (mkF m 111 #[.val (.int p1), .val (.int p2), .val (.int p3), .val (.int p4), .val (.int p2), .val (.int (p3 ^^^ (1 : Int32))), .val (.ref b72), .val (.ref b75), .val (.ref b79), .val (.ref x83), .val (.int (0 : Int32)), .val (.int (1 : Int32))] [(.int (1 : Int32))])) _
      refine own_go (fun _ k => XS.ifNo X85.here hx rfl (hb hby at_111) rfl ((if0 _ _).trans (feq (by decide : ¬ ((1 : Int32) = (0 : Int32)))).1) k) ?_
      show own_Go p e below (T85.setTop (mkF m 114 #[.val (.int p1), .val (.int p2), .val (.int p3), .val (.int p4), .val (.int p2), .val (.int (p3 ^^^ (1 : Int32))), .val (.ref b72), .val (.ref b75), .val (.ref b79), .val (.ref x83), .val (.int (0 : Int32)), .val (.int (1 : Int32))] [])) _
      refine own_go (fun _ k => XS.iload X85.here hx rfl (hb hby at_114) rfl k) ?_
      show own_Go p e below (T85.setTop (mkF m 116 #[.val (.int p1), .val (.int p2), .val (.int p3), .val (.int p4), .val (.int p2), .val (.int (p3 ^^^ (1 : Int32))), .val (.ref b72), .val (.ref b75), .val (.ref b79), .val (.ref x83), .val (.int (0 : Int32)), .val (.int (1 : Int32))] [(.int (0 : Int32))])) _
      refine own_go (fun _ k => XS.iload X85.here hx rfl (hb hby at_116) rfl k) ?_
      show own_Go p e below (T85.setTop (mkF m 118 #[.val (.int p1), .val (.int p2), .val (.int p3), .val (.int p4), .val (.int p2), .val (.int (p3 ^^^ (1 : Int32))), .val (.ref b72), .val (.ref b75), .val (.ref b79), .val (.ref x83), .val (.int (0 : Int32)), .val (.int (1 : Int32))] [(.int p2), (.int (0 : Int32))])) _
      refine own_go (fun _ k => XS.iconst X85.here hx rfl (hb hby at_118) k) ?_
      show own_Go p e below (T85.setTop (mkF m 119 #[.val (.int p1), .val (.int p2), .val (.int p3), .val (.int p4), .val (.int p2), .val (.int (p3 ^^^ (1 : Int32))), .val (.ref b72), .val (.ref b75), .val (.ref b79), .val (.ref x83), .val (.int (0 : Int32)), .val (.int (1 : Int32))] [(.int (-1 : Int32)), (.int p2), (.int (0 : Int32))])) _
      refine own_go (fun _ k => XS.icmpYes X85.here hx rfl (pc0 := 119) (pc' := 126) rfl (hb hby at_119) rfl (feq hc37).2 (by decide) (by decide) k) ?_
      show own_Go p e below (T85.setTop (mkF m 126 #[.val (.int p1), .val (.int p2), .val (.int p3), .val (.int p4), .val (.int p2), .val (.int (p3 ^^^ (1 : Int32))), .val (.ref b72), .val (.ref b75), .val (.ref b79), .val (.ref x83), .val (.int (0 : Int32)), .val (.int (1 : Int32))] [(.int (0 : Int32))])) _
      refine own_go (fun _ k => XS.iconst X85.here hx rfl (hb hby at_126) k) ?_
      show own_Go p e below (T85.setTop (mkF m 127 #[.val (.int p1), .val (.int p2), .val (.int p3), .val (.int p4), .val (.int p2), .val (.int (p3 ^^^ (1 : Int32))), .val (.ref b72), .val (.ref b75), .val (.ref b79), .val (.ref x83), .val (.int (0 : Int32)), .val (.int (1 : Int32))] [(.int (0 : Int32)), (.int (0 : Int32))])) _
      refine own_go (fun _ k => XS.icmpNo X85.here hx rfl (hb hby at_127) rfl (teq (by decide : (0 : Int32) = (0 : Int32))).2 k) ?_
      show own_Go p e below (T85.setTop (mkF m 130 #[.val (.int p1), .val (.int p2), .val (.int p3), .val (.int p4), .val (.int p2), .val (.int (p3 ^^^ (1 : Int32))), .val (.ref b72), .val (.ref b75), .val (.ref b79), .val (.ref x83), .val (.int (0 : Int32)), .val (.int (1 : Int32))] [])) _
      refine own_go (fun _ k => XS.iconst X85.here hx rfl (hb hby at_130) k) ?_
      show own_Go p e below (T85.setTop (mkF m 131 #[.val (.int p1), .val (.int p2), .val (.int p3), .val (.int p4), .val (.int p2), .val (.int (p3 ^^^ (1 : Int32))), .val (.ref b72), .val (.ref b75), .val (.ref b79), .val (.ref x83), .val (.int (0 : Int32)), .val (.int (1 : Int32))] [(.int (1 : Int32))])) _
      refine own_go (fun _ k => XS.goto X85.here hx rfl (pc0 := 131) (pc' := 135) rfl (hb hby at_131) (by decide) (by decide) k) ?_
      show own_Go p e below (T85.setTop (mkF m 135 #[.val (.int p1), .val (.int p2), .val (.int p3), .val (.int p4), .val (.int p2), .val (.int (p3 ^^^ (1 : Int32))), .val (.ref b72), .val (.ref b75), .val (.ref b79), .val (.ref x83), .val (.int (0 : Int32)), .val (.int (1 : Int32))] [(.int (1 : Int32))])) _
      refine own_go (fun _ k => XS.istore X85.here hx rfl (hb hby at_135) rfl (l' := #[.val (.int p1), .val (.int p2), .val (.int p3), .val (.int p4), .val (.int p2), .val (.int (p3 ^^^ (1 : Int32))), .val (.ref b72), .val (.ref b75), .val (.ref b79), .val (.ref x83), .val (.int (0 : Int32)), .val (.int (1 : Int32))]) rfl k) ?_
      show own_Go p e below (T85.setTop (mkF m 137 #[.val (.int p1), .val (.int p2), .val (.int p3), .val (.int p4), .val (.int p2), .val (.int (p3 ^^^ (1 : Int32))), .val (.ref b72), .val (.ref b75), .val (.ref b79), .val (.ref x83), .val (.int (0 : Int32)), .val (.int (1 : Int32))] [])) _
      refine own_go (fun _ k => XS.iload X85.here hx rfl (hb hby at_137) rfl k) ?_
      show own_Go p e below (T85.setTop (mkF m 139 #[.val (.int p1), .val (.int p2), .val (.int p3), .val (.int p4), .val (.int p2), .val (.int (p3 ^^^ (1 : Int32))), .val (.ref b72), .val (.ref b75), .val (.ref b79), .val (.ref x83), .val (.int (0 : Int32)), .val (.int (1 : Int32))] [(.int (1 : Int32))])) _
      refine own_go (fun _ k => XS.ifNo X85.here hx rfl (hb hby at_139) rfl ((if0 _ _).trans (feq (by decide : ¬ ((1 : Int32) = (0 : Int32)))).1) k) ?_
      show own_Go p e below (T85.setTop (mkF m 142 #[.val (.int p1), .val (.int p2), .val (.int p3), .val (.int p4), .val (.int p2), .val (.int (p3 ^^^ (1 : Int32))), .val (.ref b72), .val (.ref b75), .val (.ref b79), .val (.ref x83), .val (.int (0 : Int32)), .val (.int (1 : Int32))] [])) _
      refine own_go (fun _ k => XS.iload X85.here hx rfl (hb hby at_142) rfl k) ?_
      show own_Go p e below (T85.setTop (mkF m 144 #[.val (.int p1), .val (.int p2), .val (.int p3), .val (.int p4), .val (.int p2), .val (.int (p3 ^^^ (1 : Int32))), .val (.ref b72), .val (.ref b75), .val (.ref b79), .val (.ref x83), .val (.int (0 : Int32)), .val (.int (1 : Int32))] [(.int (0 : Int32))])) _
      refine own_go (fun _ k => XS.iload X85.here hx rfl (hb hby at_144) rfl k) ?_
      show own_Go p e below (T85.setTop (mkF m 146 #[.val (.int p1), .val (.int p2), .val (.int p3), .val (.int p4), .val (.int p2), .val (.int (p3 ^^^ (1 : Int32))), .val (.ref b72), .val (.ref b75), .val (.ref b79), .val (.ref x83), .val (.int (0 : Int32)), .val (.int (1 : Int32))] [(.int (p3 ^^^ (1 : Int32))), (.int (0 : Int32))])) _
      refine own_go (fun _ k => XS.iconst X85.here hx rfl (hb hby at_146) k) ?_
      show own_Go p e below (T85.setTop (mkF m 147 #[.val (.int p1), .val (.int p2), .val (.int p3), .val (.int p4), .val (.int p2), .val (.int (p3 ^^^ (1 : Int32))), .val (.ref b72), .val (.ref b75), .val (.ref b79), .val (.ref x83), .val (.int (0 : Int32)), .val (.int (1 : Int32))] [(.int (-1 : Int32)), (.int (p3 ^^^ (1 : Int32))), (.int (0 : Int32))])) _
      refine own_go (fun _ k => XS.icmpYes X85.here hx rfl (pc0 := 147) (pc' := 154) rfl (hb hby at_147) rfl (feq hcc).2 (by decide) (by decide) k) ?_
      show own_Go p e below (T85.setTop (mkF m 154 #[.val (.int p1), .val (.int p2), .val (.int p3), .val (.int p4), .val (.int p2), .val (.int (p3 ^^^ (1 : Int32))), .val (.ref b72), .val (.ref b75), .val (.ref b79), .val (.ref x83), .val (.int (0 : Int32)), .val (.int (1 : Int32))] [(.int (0 : Int32))])) _
      refine own_go (fun _ k => XS.iconst X85.here hx rfl (hb hby at_154) k) ?_
      show own_Go p e below (T85.setTop (mkF m 155 #[.val (.int p1), .val (.int p2), .val (.int p3), .val (.int p4), .val (.int p2), .val (.int (p3 ^^^ (1 : Int32))), .val (.ref b72), .val (.ref b75), .val (.ref b79), .val (.ref x83), .val (.int (0 : Int32)), .val (.int (1 : Int32))] [(.int (0 : Int32)), (.int (0 : Int32))])) _
      refine own_go (fun _ k => XS.icmpNo X85.here hx rfl (hb hby at_155) rfl (teq (by decide : (0 : Int32) = (0 : Int32))).2 k) ?_
      show own_Go p e below (T85.setTop (mkF m 158 #[.val (.int p1), .val (.int p2), .val (.int p3), .val (.int p4), .val (.int p2), .val (.int (p3 ^^^ (1 : Int32))), .val (.ref b72), .val (.ref b75), .val (.ref b79), .val (.ref x83), .val (.int (0 : Int32)), .val (.int (1 : Int32))] [])) _
      refine own_go (fun _ k => XS.iconst X85.here hx rfl (hb hby at_158) k) ?_
      show own_Go p e below (T85.setTop (mkF m 159 #[.val (.int p1), .val (.int p2), .val (.int p3), .val (.int p4), .val (.int p2), .val (.int (p3 ^^^ (1 : Int32))), .val (.ref b72), .val (.ref b75), .val (.ref b79), .val (.ref x83), .val (.int (0 : Int32)), .val (.int (1 : Int32))] [(.int (1 : Int32))])) _
      refine own_go (fun _ k => XS.goto X85.here hx rfl (pc0 := 159) (pc' := 163) rfl (hb hby at_159) (by decide) (by decide) k) ?_
      show own_Go p e below (T85.setTop (mkF m 163 #[.val (.int p1), .val (.int p2), .val (.int p3), .val (.int p4), .val (.int p2), .val (.int (p3 ^^^ (1 : Int32))), .val (.ref b72), .val (.ref b75), .val (.ref b79), .val (.ref x83), .val (.int (0 : Int32)), .val (.int (1 : Int32))] [(.int (1 : Int32))])) _
      refine own_go (fun _ k => XS.istore X85.here hx rfl (hb hby at_163) rfl (l' := #[.val (.int p1), .val (.int p2), .val (.int p3), .val (.int p4), .val (.int p2), .val (.int (p3 ^^^ (1 : Int32))), .val (.ref b72), .val (.ref b75), .val (.ref b79), .val (.ref x83), .val (.int (0 : Int32)), .val (.int (1 : Int32))]) rfl k) ?_
      show own_Go p e below (T85.setTop (mkF m 165 #[.val (.int p1), .val (.int p2), .val (.int p3), .val (.int p4), .val (.int p2), .val (.int (p3 ^^^ (1 : Int32))), .val (.ref b72), .val (.ref b75), .val (.ref b79), .val (.ref x83), .val (.int (0 : Int32)), .val (.int (1 : Int32))] [])) _
      refine own_go (fun _ k => XS.iload X85.here hx rfl (hb hby at_165) rfl k) ?_
      show own_Go p e below (T85.setTop (mkF m 167 #[.val (.int p1), .val (.int p2), .val (.int p3), .val (.int p4), .val (.int p2), .val (.int (p3 ^^^ (1 : Int32))), .val (.ref b72), .val (.ref b75), .val (.ref b79), .val (.ref x83), .val (.int (0 : Int32)), .val (.int (1 : Int32))] [(.int (1 : Int32))])) _
      refine own_go (fun _ k => XS.ifNo X85.here hx rfl (hb hby at_167) rfl ((if0 _ _).trans (feq (by decide : ¬ ((1 : Int32) = (0 : Int32)))).1) k) ?_
      show own_Go p e below (T85.setTop (mkF m 170 #[.val (.int p1), .val (.int p2), .val (.int p3), .val (.int p4), .val (.int p2), .val (.int (p3 ^^^ (1 : Int32))), .val (.ref b72), .val (.ref b75), .val (.ref b79), .val (.ref x83), .val (.int (0 : Int32)), .val (.int (1 : Int32))] [])) _
      refine own_go (fun _ k => XS.aload X85.here hx rfl (hb hby at_170) rfl rfl k) ?_
      show own_Go p e below (T85.setTop (mkF m 172 #[.val (.int p1), .val (.int p2), .val (.int p3), .val (.int p4), .val (.int p2), .val (.int (p3 ^^^ (1 : Int32))), .val (.ref b72), .val (.ref b75), .val (.ref b79), .val (.ref x83), .val (.int (0 : Int32)), .val (.int (1 : Int32))] [(.ref x83)])) _
      obtain ⟨cq86, kq86, q86a, q86b, q86c⟩ := isOf hZ83 e85 Ex83
      obtain ⟨v86, _, ⟨T86, L86, k86, n86⟩, -, X86, ⟨Lc86, hQ86, l86, y86, z86⟩, st86⟩ := X85.virtualBack hx (y := (⟨"com/example/rederive/rederive/PatternFault", "isInHeader", "()Z"⟩ : MethodName)) (z := (⟨"com/example/rederive/rederive/PatternFault", "isInHeader", "()Z"⟩ : MethodName)) hown83 (mvT hZ83 (hw _ (List.mem_of_getElem? (i := 62) rfl))) (mvT hZ83 (hw _ (List.mem_of_getElem? (i := 63) rfl))) (notFace_of_selects (args := #[]) (mvT hZ83 (hw _ (List.mem_of_getElem? (i := 65) rfl)))) (mvT hZ83 (hw _ (List.mem_of_getElem? (i := 65) rfl))) (mvT hZ83 (hw _ (List.mem_of_getElem? (i := 64) rfl))) (by decide) (backOf (W := 0) (rm_isin l Z a0 hw [] x83 (-1 : Int32) (1 : Int32) T83.heap n0 (f82.keep K83 all0) Ex83 Fb83 (by decide)) hZ83 (hw _ (List.mem_of_getElem? (i := 66) rfl)) (hw _ (List.mem_of_getElem? (i := 32) rfl)) (by decide) (by decide)) q86a q86c (g := (mkF m 172 #[.val (.int p1), .val (.int p2), .val (.int p3), .val (.int p4), .val (.int p2), .val (.int (p3 ^^^ (1 : Int32))), .val (.ref b72), .val (.ref b75), .val (.ref b79), .val (.ref x83), .val (.int (0 : Int32)), .val (.int (1 : Int32))] [(.ref x83)])) rfl (by rw [hml]; rfl) (Steps.refl _) (argsL := []) (rest := []) (lenOf pd_5 rfl) rfl (by show 2 * 0 + _ ≤ _; exact Nat.le_of_eq rfl) (hb hby at_172) (fun _ _ => ⟨rfl, e85, (by decide : 9 + 0 ≤ _), (by decide : 78 + 0 ≤ _)⟩)
      dsimp only [Pt.U, Pt.locs, Pt.cells, Pt.slots] at X86 l86 y86 z86 st86 hQ86
      subst l86 y86 z86
      refine own_gos st86 ?_
      obtain ⟨rfl, Nq86, e86⟩ := hQ86
      have N86 := Fr.app N85 Nq86
      show own_Go p e below (T86.setTop (mkF m 175 #[.val (.int p1), .val (.int p2), .val (.int p3), .val (.int p4), .val (.int p2), .val (.int (p3 ^^^ (1 : Int32))), .val (.ref b72), .val (.ref b75), .val (.ref b79), .val (.ref x83), .val (.int (0 : Int32)), .val (.int (1 : Int32))] [(.int (1 : Int32))])) _
      refine own_go (fun _ k => XS.ifNo X86.here hx rfl (hb hby at_175) rfl ((if0 _ _).trans (feq (by decide : ¬ ((1 : Int32) = (0 : Int32)))).1) k) ?_
      show own_Go p e below (T86.setTop (mkF m 178 #[.val (.int p1), .val (.int p2), .val (.int p3), .val (.int p4), .val (.int p2), .val (.int (p3 ^^^ (1 : Int32))), .val (.ref b72), .val (.ref b75), .val (.ref b79), .val (.ref x83), .val (.int (0 : Int32)), .val (.int (1 : Int32))] [])) _
      refine own_go (fun _ k => XS.iconst X86.here hx rfl (hb hby at_178) k) ?_
      show own_Go p e below (T86.setTop (mkF m 179 #[.val (.int p1), .val (.int p2), .val (.int p3), .val (.int p4), .val (.int p2), .val (.int (p3 ^^^ (1 : Int32))), .val (.ref b72), .val (.ref b75), .val (.ref b79), .val (.ref x83), .val (.int (0 : Int32)), .val (.int (1 : Int32))] [(.int (1 : Int32))])) _
      refine own_go (fun _ k => XS.goto X86.here hx rfl (pc0 := 179) (pc' := 183) rfl (hb hby at_179) (by decide) (by decide) k) ?_
      show own_Go p e below (T86.setTop (mkF m 183 #[.val (.int p1), .val (.int p2), .val (.int p3), .val (.int p4), .val (.int p2), .val (.int (p3 ^^^ (1 : Int32))), .val (.ref b72), .val (.ref b75), .val (.ref b79), .val (.ref x83), .val (.int (0 : Int32)), .val (.int (1 : Int32))] [(.int (1 : Int32))])) _
      refine own_go (fun _ k => XS.istore X86.here hx rfl (hb hby at_183) rfl (l' := #[.val (.int p1), .val (.int p2), .val (.int p3), .val (.int p4), .val (.int p2), .val (.int (p3 ^^^ (1 : Int32))), .val (.ref b72), .val (.ref b75), .val (.ref b79), .val (.ref x83), .val (.int (0 : Int32)), .val (.int (1 : Int32))]) rfl k) ?_
      show own_Go p e below (T86.setTop (mkF m 185 #[.val (.int p1), .val (.int p2), .val (.int p3), .val (.int p4), .val (.int p2), .val (.int (p3 ^^^ (1 : Int32))), .val (.ref b72), .val (.ref b75), .val (.ref b79), .val (.ref x83), .val (.int (0 : Int32)), .val (.int (1 : Int32))] [])) _
      refine own_go (fun _ k => XS.iload X86.here hx rfl (hb hby at_185) rfl k) ?_
      show own_Go p e below (T86.setTop (mkF m 187 #[.val (.int p1), .val (.int p2), .val (.int p3), .val (.int p4), .val (.int p2), .val (.int (p3 ^^^ (1 : Int32))), .val (.ref b72), .val (.ref b75), .val (.ref b79), .val (.ref x83), .val (.int (0 : Int32)), .val (.int (1 : Int32))] [(.int (1 : Int32))])) _
      have z87 := (Nat.le_trans (Nat.le_trans (Nat.le_trans (Nat.le_trans z77 K78.1) E79.1) K81.1) K83.1)
      refine own_finW (v := (some (.int (nar .boolean (1 : Int32))))) X86 hh hZ83 hS83 (by rw [e86]; exact (Nat.le_refl _)) (fun h => by rw [hrt] at h; cases h) hlk (fun fs hr => retN X86 hx (t := .boolean) hrt (by simp) (hb hby at_187) hr) (QQ := QQ0 n0) ?_ own_hEL e86 (own_chr0 z87) (by decide) (by decide)
      rw [e86]
      exact ⟨rfl, N86⟩
    · skip
      refine own_go (fun _ k => XS.icmpYes X0.here hx rfl (pc0 := 20) (pc' := 27) rfl (hb hby at_20) rfl (feq hc71).2 (by decide) (by decide) k) ?_
      show own_Go p e below (s₁.setTop (mkF m 27 #[.val (.int p1), .val (.int p2), .val (.int p3), .val (.int p4), .val (.int p2), .val (.int p3), .unset, .unset, .unset, .unset, .unset, .unset] [(.int (0 : Int32))])) _
      refine own_go (fun _ k => XS.iconst X0.here hx rfl (hb hby at_27) k) ?_
      show own_Go p e below (s₁.setTop (mkF m 28 #[.val (.int p1), .val (.int p2), .val (.int p3), .val (.int p4), .val (.int p2), .val (.int p3), .unset, .unset, .unset, .unset, .unset, .unset] [(.int (0 : Int32)), (.int (0 : Int32))])) _
      refine own_go (fun _ k => XS.icmpYes X0.here hx rfl (pc0 := 28) (pc' := 49) rfl (hb hby at_28) rfl (teq (by decide : (0 : Int32) = (0 : Int32))).1 (by decide) (by decide) k) ?_
      show own_Go p e below (s₁.setTop (mkF m 49 #[.val (.int p1), .val (.int p2), .val (.int p3), .val (.int p4), .val (.int p2), .val (.int p3), .unset, .unset, .unset, .unset, .unset, .unset] [])) _
      have hcc : ¬ (p3 = (-1 : Int32)) := hc71
      have hbc : p2 = (-1 : Int32) ↔ p3 = (-1 : Int32) := ⟨fun q => absurd q hc37, fun q => absurd q hcc⟩
      refine own_go (fun _ k => XS.iconst X0.here hx rfl (hb hby at_49) k) ?_
      show own_Go p e below (s₁.setTop (mkF m 50 #[.val (.int p1), .val (.int p2), .val (.int p3), .val (.int p4), .val (.int p2), .val (.int p3), .unset, .unset, .unset, .unset, .unset, .unset] [(.int (1 : Int32))])) _
      obtain ⟨T88, h88, k88, X88, e88, E88, A88, st88⟩ := newP X0 hx hZ (hw _ (List.mem_of_getElem? (i := 0) rfl)) e0 (g := (mkF m 50 #[.val (.int p1), .val (.int p2), .val (.int p3), .val (.int p4), .val (.int p2), .val (.int p3), .unset, .unset, .unset, .unset, .unset, .unset] [(.int (1 : Int32))])) rfl (hb hby at_50) rfl (by decide) (cap := 1) (by decide) (by decide) (by decide) (by decide)
      obtain ⟨b88, g88⟩ : ∃ z, z = h0.size := ⟨_, rfl⟩
      rw [← g88] at A88 st88
      refine own_go st88 ?_
      have V88 : Arv Z h88 b88 k88 .char (1 : Int32) [(.int (0 : Int32))] (.int (0 : Int32)) := (Arv.new A88 (by decide)).pad (pad_rep [] (.int (0 : Int32)) 1)
      show own_Go p e below (T88.setTop (mkF m 52 #[.val (.int p1), .val (.int p2), .val (.int p3), .val (.int p4), .val (.int p2), .val (.int p3), .unset, .unset, .unset, .unset, .unset, .unset] [(.ref b88)])) _
      refine own_go (fun _ k => XS.astore X88.here hx rfl (hb hby at_52) rfl rfl (l' := #[.val (.int p1), .val (.int p2), .val (.int p3), .val (.int p4), .val (.int p2), .val (.int p3), .val (.ref b88), .unset, .unset, .unset, .unset, .unset]) rfl k) ?_
      show own_Go p e below (T88.setTop (mkF m 54 #[.val (.int p1), .val (.int p2), .val (.int p3), .val (.int p4), .val (.int p2), .val (.int p3), .val (.ref b88), .unset, .unset, .unset, .unset, .unset] [])) _
      refine own_go (fun _ k => XS.aload X88.here hx rfl (hb hby at_54) rfl rfl k) ?_
      show own_Go p e below (T88.setTop (mkF m 56 #[.val (.int p1), .val (.int p2), .val (.int p3), .val (.int p4), .val (.int p2), .val (.int p3), .val (.ref b88), .unset, .unset, .unset, .unset, .unset] [(.ref b88)])) _
      refine own_go (fun _ k => XS.iconst X88.here hx rfl (hb hby at_56) k) ?_
      show own_Go p e below (T88.setTop (mkF m 57 #[.val (.int p1), .val (.int p2), .val (.int p3), .val (.int p4), .val (.int p2), .val (.int p3), .val (.ref b88), .unset, .unset, .unset, .unset, .unset] [(.int (0 : Int32)), (.ref b88)])) _
      refine own_go (fun _ k => XS.iloadN X88.here hx rfl (hb hby at_57) rfl k) ?_
      show own_Go p e below (T88.setTop (mkF m 58 #[.val (.int p1), .val (.int p2), .val (.int p3), .val (.int p4), .val (.int p2), .val (.int p3), .val (.ref b88), .unset, .unset, .unset, .unset, .unset] [(.int p4), (.int (0 : Int32)), (.ref b88)])) _
      refine own_go (fun _ k => XS.sipush X88.here hx rfl (hb hby at_58) k) ?_
      show own_Go p e below (T88.setTop (mkF m 61 #[.val (.int p1), .val (.int p2), .val (.int p3), .val (.int p4), .val (.int p2), .val (.int p3), .val (.ref b88), .unset, .unset, .unset, .unset, .unset] [(.int (255 : Int32)), (.int p4), (.int (0 : Int32)), (.ref b88)])) _
      refine own_go (fun _ k => XS.iand X88.here hx rfl (hb hby at_61) rfl k) ?_
      show own_Go p e below (T88.setTop (mkF m 62 #[.val (.int p1), .val (.int p2), .val (.int p3), .val (.int p4), .val (.int p2), .val (.int p3), .val (.ref b88), .unset, .unset, .unset, .unset, .unset] [(.int (p4 &&& (255 : Int32))), (.int (0 : Int32)), (.ref b88)])) _
      refine own_go (fun _ k => XS.i2c X88.here hx rfl (hb hby at_62) rfl k) ?_
      show own_Go p e below (T88.setTop (mkF m 63 #[.val (.int p1), .val (.int p2), .val (.int p3), .val (.int p4), .val (.int p2), .val (.int p3), .val (.ref b88), .unset, .unset, .unset, .unset, .unset] [(.int ((p4 &&& (255 : Int32)).toUInt32.toUInt16.toUInt32.toInt32)), (.int (0 : Int32)), (.ref b88)])) _
      obtain ⟨c89, A89, q89, S89, M89, Hs89, Gs89⟩ := id V88
      obtain ⟨T90, h90, X90, e90, W90, st90⟩ := stC X88 hx hZ e88 A89 (j := (0 : Int32)) (inb_of S89 ⟨by decide, by decide⟩) (g := (mkF m 63 #[.val (.int p1), .val (.int p2), .val (.int p3), .val (.int p4), .val (.int p2), .val (.int p3), .val (.ref b88), .unset, .unset, .unset, .unset, .unset] [(.int ((p4 &&& (255 : Int32)).toUInt32.toUInt16.toUInt32.toInt32)), (.int (0 : Int32)), (.ref b88)])) rfl rfl (hb hby at_63)
      refine own_go st90 ?_
      have N90 := Fr.snoc X90 N0 (Nat.le_trans Z0 (Nat.le_of_eq g88.symm))
      have V90 : Arv Z h90 b88 k88 .char (1 : Int32) [(.int (nar .char ((p4 &&& (255 : Int32)).toUInt32.toUInt16.toUInt32.toInt32)))] (.int (0 : Int32)) := Arv.set A89 q89 S89 M89 Hs89 Gs89 (fits_nar_char _) W90 0 rfl (Nat.le_of_ble_eq_true rfl)
      show own_Go p e below (T90.setTop (mkF m 64 #[.val (.int p1), .val (.int p2), .val (.int p3), .val (.int p4), .val (.int p2), .val (.int p3), .val (.ref b88), .unset, .unset, .unset, .unset, .unset] [])) _
      obtain ⟨T91, h91, X91, e91, E91, A91, D91, U91, st91⟩ := newO X90 hx hZ hown (hw _ (List.mem_of_getElem? (i := 1) rfl)) (hw _ (List.mem_of_getElem? (i := 2) rfl)) (hw _ (List.mem_of_getElem? (i := 3) rfl)) e90 (g := (mkF m 64 #[.val (.int p1), .val (.int p2), .val (.int p3), .val (.int p4), .val (.int p2), .val (.int p3), .val (.ref b88), .unset, .unset, .unset, .unset, .unset] [])) rfl (hb hby at_64) (by decide) (by decide)
      obtain ⟨b91, g91⟩ : ∃ z, z = h90.size := ⟨_, rfl⟩
      rw [← g91] at A91 D91 U91 st91
      refine own_go st91 ?_
      have F91_coder : Fld Z h91 b91 "java/lang/String" "coder" "B" (.int (0 : Int32)) := D91 (Or.inr (hw _ (List.mem_of_getElem? (i := 27) rfl))) (ty := .byte) (by decide)
      have F91_value : Fld Z h91 b91 "java/lang/String" "value" "[B" .null := D91 (Or.inr (hw _ (List.mem_of_getElem? (i := 29) rfl))) (ty := (.array .byte)) (by decide)
      show own_Go p e below (T91.setTop (mkF m 67 #[.val (.int p1), .val (.int p2), .val (.int p3), .val (.int p4), .val (.int p2), .val (.int p3), .val (.ref b88), .unset, .unset, .unset, .unset, .unset] [(.ref b91)])) _
      refine own_go (fun _ k => XS.dup X91.here hx rfl (hb hby at_67) rfl rfl k) ?_
      show own_Go p e below (T91.setTop (mkF m 68 #[.val (.int p1), .val (.int p2), .val (.int p3), .val (.int p4), .val (.int p2), .val (.int p3), .val (.ref b88), .unset, .unset, .unset, .unset, .unset] [(.ref b91), (.ref b91)])) _
      refine own_go (fun _ k => XS.aload X91.here hx rfl (hb hby at_68) rfl rfl k) ?_
      show own_Go p e below (T91.setTop (mkF m 70 #[.val (.int p1), .val (.int p2), .val (.int p3), .val (.int p4), .val (.int p2), .val (.int p3), .val (.ref b88), .unset, .unset, .unset, .unset, .unset] [(.ref b88), (.ref b91), (.ref b91)])) _
      have f92 := (((O0.ext E88).wr W90 (Nat.le_trans Z0 (Nat.le_of_eq g88.symm))).ext E91)
      have z93 := (Nat.le_trans (Nat.le_trans E88.1 (Keep.of_wr W90).1) E91.1)
      obtain ⟨v94, _, ⟨T94, L94, k94, n94⟩, -, X94, ⟨Lc94, hQ94, l94, y94, z94⟩, st94⟩ := X91.specialBack hx (y := (⟨"java/lang/String", "<init>", "([C)V"⟩ : MethodName)) rfl hown (mvT hZ (hw _ (List.mem_of_getElem? (i := 4) rfl))) (mvT hZ (hw _ (List.mem_of_getElem? (i := 5) rfl))) (mvT hZ (hw _ (List.mem_of_getElem? (i := 6) rfl))) (by decide) (StrChars.Road.backV (W := 1) hZ (own_wStr hw) (kI := 4) (hw _ (List.mem_of_getElem? (i := 2) rfl)) (cs := ([(nar .char ((p4 &&& (255 : Int32)).toUInt32.toUInt16.toUInt32.toInt32))] : List Int32)) (bs := (([(nar .char ((p4 &&& (255 : Int32)).toUInt32.toUInt16.toUInt32.toInt32))] : List Int32)).map (fun c => c.toInt8.toInt32)) (n := 1) (Nat.le_trans Z0 (Nat.le_trans (Nat.le_trans E88.1 (Keep.of_wr W90).1) (Nat.le_of_eq g91.symm))) (Nat.le_trans Z0 z93) A91 F91_value F91_coder (V90.ext E91) (O2.ext f92.2) P5 rfl rfl (by decide) (by decide) (own_lat1 p4) rfl (by decide) (by decide)) (g := (mkF m 70 #[.val (.int p1), .val (.int p2), .val (.int p3), .val (.int p4), .val (.int p2), .val (.int p3), .val (.ref b88), .unset, .unset, .unset, .unset, .unset] [(.ref b88), (.ref b91), (.ref b91)])) rfl (by rw [hml]; rfl) (Steps.refl _) (a := b91) (argsL := [(.ref b88)]) (rest := [(.ref b91)]) (lenOf pd_3 rfl) rfl (by show 2 * 0 + _ ≤ _; exact Nat.le_of_eq rfl) (hb hby at_70) (fun _ _ => ⟨rfl, e91, (by decide : 2 + 1 ≤ _), (by decide : 5 + 1 ≤ _)⟩)
      dsimp only [Pt.U, Pt.locs, Pt.cells, Pt.slots] at X94 l94 y94 z94 st94 hQ94
      subst l94 y94 z94
      refine own_gos st94 ?_
      obtain ⟨rfl, Nq94, K94, Eq94, Fc94, t94, kt94, -, tg94, tn94, Fv94, Vt94⟩ := hQ94
      have N94 := Fr.app N90 Nq94
      show own_Go p e below (T94.setTop (mkF m 73 #[.val (.int p1), .val (.int p2), .val (.int p3), .val (.int p4), .val (.int p2), .val (.int p3), .val (.ref b88), .unset, .unset, .unset, .unset, .unset] [(.ref b91)])) _
      refine own_go (fun _ k => XS.astore X94.here hx rfl (hb hby at_73) rfl rfl (l' := #[.val (.int p1), .val (.int p2), .val (.int p3), .val (.int p4), .val (.int p2), .val (.int p3), .val (.ref b88), .val (.ref b91), .unset, .unset, .unset, .unset]) rfl k) ?_
      show own_Go p e below (T94.setTop (mkF m 75 #[.val (.int p1), .val (.int p2), .val (.int p3), .val (.int p4), .val (.int p2), .val (.int p3), .val (.ref b88), .val (.ref b91), .unset, .unset, .unset, .unset] [])) _
      obtain ⟨T95, h95, X95, e95, E95, A95, D95, U95, st95⟩ := newO X94 hx hZ hown (hw _ (List.mem_of_getElem? (i := 30) rfl)) (hw _ (List.mem_of_getElem? (i := 31) rfl)) (hw _ (List.mem_of_getElem? (i := 32) rfl)) (rfl : T94.heap = T94.heap) (g := (mkF m 75 #[.val (.int p1), .val (.int p2), .val (.int p3), .val (.int p4), .val (.int p2), .val (.int p3), .val (.ref b88), .val (.ref b91), .unset, .unset, .unset, .unset] [])) rfl (hb hby at_75) (by decide) (by decide)
      obtain ⟨b95, g95⟩ : ∃ z, z = T94.heap.size := ⟨_, rfl⟩
      rw [← g95] at A95 D95 U95 st95
      refine own_go st95 ?_
      have F95_pattern : Fld Z h95 b95 "com/example/rederive/rederive/PatternFault" "pattern" "I" (.int (0 : Int32)) := D95 (Or.inr (hw _ (List.mem_of_getElem? (i := 50) rfl))) (ty := .int) (by decide)
      have F95_body : Fld Z h95 b95 "com/example/rederive/rederive/PatternFault" "body" "I" (.int (0 : Int32)) := D95 (Or.inr (hw _ (List.mem_of_getElem? (i := 52) rfl))) (ty := .int) (by decide)
      have F95_constraint : Fld Z h95 b95 "com/example/rederive/rederive/PatternFault" "constraint" "I" (.int (0 : Int32)) := D95 (Or.inr (hw _ (List.mem_of_getElem? (i := 54) rfl))) (ty := .int) (by decide)
      have F95_message : Fld Z h95 b95 "com/example/rederive/rederive/PatternFault" "message" "Ljava/lang/String;" .null := D95 (Or.inr (hw _ (List.mem_of_getElem? (i := 56) rfl))) (ty := (.object "java/lang/String")) (by decide)
      show own_Go p e below (T95.setTop (mkF m 78 #[.val (.int p1), .val (.int p2), .val (.int p3), .val (.int p4), .val (.int p2), .val (.int p3), .val (.ref b88), .val (.ref b91), .unset, .unset, .unset, .unset] [(.ref b95)])) _
      refine own_go (fun _ k => XS.dup X95.here hx rfl (hb hby at_78) rfl rfl k) ?_
      show own_Go p e below (T95.setTop (mkF m 79 #[.val (.int p1), .val (.int p2), .val (.int p3), .val (.int p4), .val (.int p2), .val (.int p3), .val (.ref b88), .val (.ref b91), .unset, .unset, .unset, .unset] [(.ref b95), (.ref b95)])) _
      refine own_go (fun _ k => XS.iloadN X95.here hx rfl (hb hby at_79) rfl k) ?_
      show own_Go p e below (T95.setTop (mkF m 80 #[.val (.int p1), .val (.int p2), .val (.int p3), .val (.int p4), .val (.int p2), .val (.int p3), .val (.ref b88), .val (.ref b91), .unset, .unset, .unset, .unset] [(.int p1), (.ref b95), (.ref b95)])) _
      refine own_go (fun _ k => XS.iload X95.here hx rfl (hb hby at_80) rfl k) ?_
      show own_Go p e below (T95.setTop (mkF m 82 #[.val (.int p1), .val (.int p2), .val (.int p3), .val (.int p4), .val (.int p2), .val (.int p3), .val (.ref b88), .val (.ref b91), .unset, .unset, .unset, .unset] [(.int p2), (.int p1), (.ref b95), (.ref b95)])) _
      refine own_go (fun _ k => XS.iload X95.here hx rfl (hb hby at_82) rfl k) ?_
      show own_Go p e below (T95.setTop (mkF m 84 #[.val (.int p1), .val (.int p2), .val (.int p3), .val (.int p4), .val (.int p2), .val (.int p3), .val (.ref b88), .val (.ref b91), .unset, .unset, .unset, .unset] [(.int p3), (.int p2), (.int p1), (.ref b95), (.ref b95)])) _
      refine own_go (fun _ k => XS.aload X95.here hx rfl (hb hby at_84) rfl rfl k) ?_
      show own_Go p e below (T95.setTop (mkF m 86 #[.val (.int p1), .val (.int p2), .val (.int p3), .val (.int p4), .val (.int p2), .val (.int p3), .val (.ref b88), .val (.ref b91), .unset, .unset, .unset, .unset] [(.ref b91), (.int p3), (.int p2), (.int p1), (.ref b95), (.ref b95)])) _
      have f96 := ((f92.keep K94 (allS (Nat.le_trans Z0 (Nat.le_trans (Nat.le_trans E88.1 (Keep.of_wr W90).1) (Nat.le_of_eq g91.symm))) all0)).ext E95)
      obtain ⟨v97, _, ⟨T97, L97, k97, n97⟩, -, X97, hS97, hg97, ⟨Lc97, hQ97, l97, y97, z97, A97⟩, st97⟩ := X95.specialBackS hx (y := (⟨"com/example/rederive/rederive/PatternFault", "<init>", "(IIILjava/lang/String;)V"⟩ : MethodName)) rfl hown (mvT hZ (hw _ (List.mem_of_getElem? (i := 33) rfl))) (mvT hZ (hw _ (List.mem_of_getElem? (i := 34) rfl))) (mvT hZ (hw _ (List.mem_of_getElem? (i := 35) rfl))) (by decide) (backOfSH (W := 1) (rm_init l Z a0 hw [] b95 p1 p2 p3 b91 h95 n0 f96 A95 F95_pattern F95_body F95_constraint F95_message (Nat.le_trans Z0 (Nat.le_trans (Nat.le_trans z93 K94.1) (Nat.le_of_eq g95.symm))) hbc) hZ (hw _ (List.mem_of_getElem? (i := 35) rfl)) (hw _ (List.mem_of_getElem? (i := 32) rfl)) (by decide) (by decide) own_hEL own_chv0) (g := (mkF m 86 #[.val (.int p1), .val (.int p2), .val (.int p3), .val (.int p4), .val (.int p2), .val (.int p3), .val (.ref b88), .val (.ref b91), .unset, .unset, .unset, .unset] [(.ref b91), (.int p3), (.int p2), (.int p1), (.ref b95), (.ref b95)])) rfl (by rw [hml]; rfl) (Steps.refl _) (a := b95) (argsL := [(.int p1), (.int p2), (.int p3), (.ref b91)]) (rest := [(.ref b95)]) (lenOf pd_2 rfl) rfl (by show 2 * 0 + _ ≤ _; exact Nat.le_of_eq rfl) (hb hby at_86) (fun _ _ => ⟨rfl, e95, (by decide : 4 + 2 ≤ _), (by decide : 10 + 32 ≤ _)⟩)
      dsimp only [Pt.U, Pt.locs, Pt.cells, Pt.slots] at X97 l97 y97 z97 st97 hQ97 hS97 hg97 A97
      subst l97 y97 z97
      refine own_gos st97 ?_
      obtain ⟨X97, hS97, hZ97, hown97⟩ := rebS hS0 (k0 := _) (n1 := T95.heap.size) (by rw [e95]; exact (Nat.zero_le _)) X97 hS97 hg97 hZ hown
      obtain ⟨rfl, Nq97, K97, Fb97⟩ := hQ97
      have N97 := Fr.app N94 Nq97
      show own_Go p e below (T97.setTop (mkF m 89 #[.val (.int p1), .val (.int p2), .val (.int p3), .val (.int p4), .val (.int p2), .val (.int p3), .val (.ref b88), .val (.ref b91), .unset, .unset, .unset, .unset] [(.ref b95)])) _
      refine own_go (fun _ k => XS.astore X97.here hx rfl (hb hby at_89) rfl rfl (l' := #[.val (.int p1), .val (.int p2), .val (.int p3), .val (.int p4), .val (.int p2), .val (.int p3), .val (.ref b88), .val (.ref b91), .val (.ref b95), .unset, .unset, .unset]) rfl k) ?_
      show own_Go p e below (T97.setTop (mkF m 91 #[.val (.int p1), .val (.int p2), .val (.int p3), .val (.int p4), .val (.int p2), .val (.int p3), .val (.ref b88), .val (.ref b91), .val (.ref b95), .unset, .unset, .unset] [])) _
      refine own_go (fun _ k => XS.iloadN X97.here hx rfl (hb hby at_91) rfl k) ?_
      show own_Go p e below (T97.setTop (mkF m 92 #[.val (.int p1), .val (.int p2), .val (.int p3), .val (.int p4), .val (.int p2), .val (.int p3), .val (.ref b88), .val (.ref b91), .val (.ref b95), .unset, .unset, .unset] [(.int p1)])) _
      refine own_go (fun _ k => XS.aload X97.here hx rfl (hb hby at_92) rfl rfl k) ?_
      show own_Go p e below (T97.setTop (mkF m 94 #[.val (.int p1), .val (.int p2), .val (.int p3), .val (.int p4), .val (.int p2), .val (.int p3), .val (.ref b88), .val (.ref b91), .val (.ref b95), .unset, .unset, .unset] [(.ref b91), (.int p1)])) _
      have f98 := (f96.keep K97 (allS (Nat.le_trans Z0 (Nat.le_trans (Nat.le_trans z93 K94.1) (Nat.le_of_eq g95.symm))) all0))
      obtain ⟨v99, _, ⟨T99, L99, k99, n99⟩, -, X99, hS99, hg99, ⟨Lc99, hQ99, l99, y99, z99, A99⟩, st99⟩ := callSS X97 hx (y := (⟨"com/example/rederive/rederive/PatternFault", "inHeader", "(ILjava/lang/String;)Lcom/example/rederive/rederive/PatternFault;"⟩ : MethodName)) hown97 (mvT hZ97 (hw _ (List.mem_of_getElem? (i := 57) rfl))) (mvT hZ97 (hw _ (List.mem_of_getElem? (i := 58) rfl))) (mvT hZ97 (hw _ (List.mem_of_getElem? (i := 32) rfl))) (mvT hZ97 (hw _ (List.mem_of_getElem? (i := 59) rfl))) (by decide) (backOfSH (W := 0) (rm_inh l Z a0 hw [] p1 b91 T97.heap n0 f98 ) hZ97 (hw _ (List.mem_of_getElem? (i := 59) rfl)) (hw _ (List.mem_of_getElem? (i := 32) rfl)) (by decide) (by decide) own_hEL own_chv0) (g := (mkF m 94 #[.val (.int p1), .val (.int p2), .val (.int p3), .val (.int p4), .val (.int p2), .val (.int p3), .val (.ref b88), .val (.ref b91), .val (.ref b95), .unset, .unset, .unset] [(.ref b91), (.int p1)])) rfl (by rw [hml]; rfl) (argsL := [(.int p1), (.ref b91)]) (rest := []) (lenOf pd_4 rfl) rfl (by show 2 * 0 + _ ≤ _; exact Nat.le_of_eq rfl) (hb hby at_94) (fun _ _ => ⟨rfl, (rfl : T97.heap = T97.heap), (by decide : 6 + 3 ≤ _), (by decide : 42 + 36 ≤ _)⟩)
      dsimp only [Pt.U, Pt.locs, Pt.cells, Pt.slots] at X99 l99 y99 z99 st99 hQ99 hS99 hg99 A99
      subst l99 y99 z99
      refine own_gos st99 ?_
      obtain ⟨X99, hS99, hZ99, hown99⟩ := rebS hS97 (k0 := _) (n1 := T97.heap.size) (by rw [(rfl : T97.heap = T97.heap)]; exact (Nat.le_refl _)) X99 hS99 hg99 hZ97 hown97
      obtain ⟨x99, rfl, Nq99, K99, gx99, Ex99, Fb99⟩ := hQ99
      have N99 := Fr.app N97 Nq99
      show own_Go p e below (T99.setTop (mkF m 97 #[.val (.int p1), .val (.int p2), .val (.int p3), .val (.int p4), .val (.int p2), .val (.int p3), .val (.ref b88), .val (.ref b91), .val (.ref b95), .unset, .unset, .unset] [(.ref x99)])) _
      refine own_go (fun _ k => XS.astore X99.here hx rfl (hb hby at_97) rfl rfl (l' := #[.val (.int p1), .val (.int p2), .val (.int p3), .val (.int p4), .val (.int p2), .val (.int p3), .val (.ref b88), .val (.ref b91), .val (.ref b95), .val (.ref x99), .unset, .unset]) rfl k) ?_
      show own_Go p e below (T99.setTop (mkF m 99 #[.val (.int p1), .val (.int p2), .val (.int p3), .val (.int p4), .val (.int p2), .val (.int p3), .val (.ref b88), .val (.ref b91), .val (.ref b95), .val (.ref x99), .unset, .unset] [])) _
      refine own_go (fun _ k => XS.aload X99.here hx rfl (hb hby at_99) rfl rfl k) ?_
      show own_Go p e below (T99.setTop (mkF m 101 #[.val (.int p1), .val (.int p2), .val (.int p3), .val (.int p4), .val (.int p2), .val (.int p3), .val (.ref b88), .val (.ref b91), .val (.ref b95), .val (.ref x99), .unset, .unset] [(.ref b95)])) _
      have f100 := ((A95.keep K97).keep K99)
      obtain ⟨cq101, kq101, q101a, q101b, q101c⟩ := isOf hZ99 (rfl : T99.heap = T99.heap) f100
      obtain ⟨v101, _, ⟨T101, L101, k101, n101⟩, -, X101, ⟨Lc101, hQ101, l101, y101, z101⟩, st101⟩ := X99.virtualBack hx (y := (⟨"com/example/rederive/rederive/PatternFault", "isInHeader", "()Z"⟩ : MethodName)) (z := (⟨"com/example/rederive/rederive/PatternFault", "isInHeader", "()Z"⟩ : MethodName)) hown99 (mvT hZ99 (hw _ (List.mem_of_getElem? (i := 62) rfl))) (mvT hZ99 (hw _ (List.mem_of_getElem? (i := 63) rfl))) (notFace_of_selects (args := #[]) (mvT hZ99 (hw _ (List.mem_of_getElem? (i := 65) rfl)))) (mvT hZ99 (hw _ (List.mem_of_getElem? (i := 65) rfl))) (mvT hZ99 (hw _ (List.mem_of_getElem? (i := 64) rfl))) (by decide) (backOf (W := 0) (rm_isin l Z a0 hw [] b95 p2 (0 : Int32) T99.heap n0 (f98.keep K99 all0) f100 (Fb97.keep K99 nin0) (if_neg hc37).symm) hZ99 (hw _ (List.mem_of_getElem? (i := 66) rfl)) (hw _ (List.mem_of_getElem? (i := 32) rfl)) (by decide) (by decide)) q101a q101c (g := (mkF m 101 #[.val (.int p1), .val (.int p2), .val (.int p3), .val (.int p4), .val (.int p2), .val (.int p3), .val (.ref b88), .val (.ref b91), .val (.ref b95), .val (.ref x99), .unset, .unset] [(.ref b95)])) rfl (by rw [hml]; rfl) (Steps.refl _) (argsL := []) (rest := []) (lenOf pd_5 rfl) rfl (by show 2 * 0 + _ ≤ _; exact Nat.le_of_eq rfl) (hb hby at_101) (fun _ _ => ⟨rfl, (rfl : T99.heap = T99.heap), (by decide : 9 + 0 ≤ _), (by decide : 78 + 0 ≤ _)⟩)
      dsimp only [Pt.U, Pt.locs, Pt.cells, Pt.slots] at X101 l101 y101 z101 st101 hQ101
      subst l101 y101 z101
      refine own_gos st101 ?_
      obtain ⟨rfl, Nq101, e101⟩ := hQ101
      have N101 := Fr.app N99 Nq101
      show own_Go p e below (T101.setTop (mkF m 104 #[.val (.int p1), .val (.int p2), .val (.int p3), .val (.int p4), .val (.int p2), .val (.int p3), .val (.ref b88), .val (.ref b91), .val (.ref b95), .val (.ref x99), .unset, .unset] [(.int (0 : Int32))])) _
      refine own_go (fun _ k => XS.istore X101.here hx rfl (hb hby at_104) rfl (l' := #[.val (.int p1), .val (.int p2), .val (.int p3), .val (.int p4), .val (.int p2), .val (.int p3), .val (.ref b88), .val (.ref b91), .val (.ref b95), .val (.ref x99), .val (.int (0 : Int32)), .unset]) rfl k) ?_
      show own_Go p e below (T101.setTop (mkF m 106 #[.val (.int p1), .val (.int p2), .val (.int p3), .val (.int p4), .val (.int p2), .val (.int p3), .val (.ref b88), .val (.ref b91), .val (.ref b95), .val (.ref x99), .val (.int (0 : Int32)), .unset] [])) _
      refine own_go (fun _ k => XS.iconst X101.here hx rfl (hb hby at_106) k) ?_
      show own_Go p e below (T101.setTop (mkF m 107 #[.val (.int p1), .val (.int p2), .val (.int p3), .val (.int p4), .val (.int p2), .val (.int p3), .val (.ref b88), .val (.ref b91), .val (.ref b95), .val (.ref x99), .val (.int (0 : Int32)), .unset] [(.int (1 : Int32))])) _
      refine own_go (fun _ k => XS.istore X101.here hx rfl (hb hby at_107) rfl (l' := #[.val (.int p1), .val (.int p2), .val (.int p3), .val (.int p4), .val (.int p2), .val (.int p3), .val (.ref b88), .val (.ref b91), .val (.ref b95), .val (.ref x99), .val (.int (0 : Int32)), .val (.int (1 : Int32))]) rfl k) ?_
      show own_Go p e below (T101.setTop (mkF m 109 #[.val (.int p1), .val (.int p2), .val (.int p3), .val (.int p4), .val (.int p2), .val (.int p3), .val (.ref b88), .val (.ref b91), .val (.ref b95), .val (.ref x99), .val (.int (0 : Int32)), .val (.int (1 : Int32))] [])) _
      refine own_go (fun _ k => XS.iload X101.here hx rfl (hb hby at_109) rfl k) ?_
      show own_Go p e below (T101.setTop (mkF m 111 #[.val (.int p1), .val (.int p2), .val (.int p3), .val (.int p4), .val (.int p2), .val (.int p3), .val (.ref b88), .val (.ref b91), .val (.ref b95), .val (.ref x99), .val (.int (0 : Int32)), .val (.int (1 : Int32))] [(.int (1 : Int32))])) _
      refine own_go (fun _ k => XS.ifNo X101.here hx rfl (hb hby at_111) rfl ((if0 _ _).trans (feq (by decide : ¬ ((1 : Int32) = (0 : Int32)))).1) k) ?_
      show own_Go p e below (T101.setTop (mkF m 114 #[.val (.int p1), .val (.int p2), .val (.int p3), .val (.int p4), .val (.int p2), .val (.int p3), .val (.ref b88), .val (.ref b91), .val (.ref b95), .val (.ref x99), .val (.int (0 : Int32)), .val (.int (1 : Int32))] [])) _
      refine own_go (fun _ k => XS.iload X101.here hx rfl (hb hby at_114) rfl k) ?_
      show own_Go p e below (T101.setTop (mkF m 116 #[.val (.int p1), .val (.int p2), .val (.int p3), .val (.int p4), .val (.int p2), .val (.int p3), .val (.ref b88), .val (.ref b91), .val (.ref b95), .val (.ref x99), .val (.int (0 : Int32)), .val (.int (1 : Int32))] [(.int (0 : Int32))])) _
      refine own_go (fun _ k => XS.iload X101.here hx rfl (hb hby at_116) rfl k) ?_
      show own_Go p e below (T101.setTop (mkF m 118 #[.val (.int p1), .val (.int p2), .val (.int p3), .val (.int p4), .val (.int p2), .val (.int p3), .val (.ref b88), .val (.ref b91), .val (.ref b95), .val (.ref x99), .val (.int (0 : Int32)), .val (.int (1 : Int32))] [(.int p2), (.int (0 : Int32))])) _
      refine own_go (fun _ k => XS.iconst X101.here hx rfl (hb hby at_118) k) ?_
      show own_Go p e below (T101.setTop (mkF m 119 #[.val (.int p1), .val (.int p2), .val (.int p3), .val (.int p4), .val (.int p2), .val (.int p3), .val (.ref b88), .val (.ref b91), .val (.ref b95), .val (.ref x99), .val (.int (0 : Int32)), .val (.int (1 : Int32))] [(.int (-1 : Int32)), (.int p2), (.int (0 : Int32))])) _
      refine own_go (fun _ k => XS.icmpYes X101.here hx rfl (pc0 := 119) (pc' := 126) rfl (hb hby at_119) rfl (feq hc37).2 (by decide) (by decide) k) ?_
      show own_Go p e below (T101.setTop (mkF m 126 #[.val (.int p1), .val (.int p2), .val (.int p3), .val (.int p4), .val (.int p2), .val (.int p3), .val (.ref b88), .val (.ref b91), .val (.ref b95), .val (.ref x99), .val (.int (0 : Int32)), .val (.int (1 : Int32))] [(.int (0 : Int32))])) _
      refine own_go (fun _ k => XS.iconst X101.here hx rfl (hb hby at_126) k) ?_
      show own_Go p e below (T101.setTop (mkF m 127 #[.val (.int p1), .val (.int p2), .val (.int p3), .val (.int p4), .val (.int p2), .val (.int p3), .val (.ref b88), .val (.ref b91), .val (.ref b95), .val (.ref x99), .val (.int (0 : Int32)), .val (.int (1 : Int32))] [(.int (0 : Int32)), (.int (0 : Int32))])) _
      refine own_go (fun _ k => XS.icmpNo X101.here hx rfl (hb hby at_127) rfl (teq (by decide : (0 : Int32) = (0 : Int32))).2 k) ?_
      show own_Go p e below (T101.setTop (mkF m 130 #[.val (.int p1), .val (.int p2), .val (.int p3), .val (.int p4), .val (.int p2), .val (.int p3), .val (.ref b88), .val (.ref b91), .val (.ref b95), .val (.ref x99), .val (.int (0 : Int32)), .val (.int (1 : Int32))] [])) _
      refine own_go (fun _ k => XS.iconst X101.here hx rfl (hb hby at_130) k) ?_
      show own_Go p e below (T101.setTop (mkF m 131 #[.val (.int p1), .val (.int p2), .val (.int p3), .val (.int p4), .val (.int p2), .val (.int p3), .val (.ref b88), .val (.ref b91), .val (.ref b95), .val (.ref x99), .val (.int (0 : Int32)), .val (.int (1 : Int32))] [(.int (1 : Int32))])) _
      refine own_go (fun _ k => XS.goto X101.here hx rfl (pc0 := 131) (pc' := 135) rfl (hb hby at_131) (by decide) (by decide) k) ?_
      show own_Go p e below (T101.setTop (mkF m 135 #[.val (.int p1), .val (.int p2), .val (.int p3), .val (.int p4), .val (.int p2), .val (.int p3), .val (.ref b88), .val (.ref b91), .val (.ref b95), .val (.ref x99), .val (.int (0 : Int32)), .val (.int (1 : Int32))] [(.int (1 : Int32))])) _
      refine own_go (fun _ k => XS.istore X101.here hx rfl (hb hby at_135) rfl (l' := #[.val (.int p1), .val (.int p2), .val (.int p3), .val (.int p4), .val (.int p2), .val (.int p3), .val (.ref b88), .val (.ref b91), .val (.ref b95), .val (.ref x99), .val (.int (0 : Int32)), .val (.int (1 : Int32))]) rfl k) ?_
      show own_Go p e below (T101.setTop (mkF m 137 #[.val (.int p1), .val (.int p2), .val (.int p3), .val (.int p4), .val (.int p2), .val (.int p3), .val (.ref b88), .val (.ref b91), .val (.ref b95), .val (.ref x99), .val (.int (0 : Int32)), .val (.int (1 : Int32))] [])) _
      refine own_go (fun _ k => XS.iload X101.here hx rfl (hb hby at_137) rfl k) ?_
      show own_Go p e below (T101.setTop (mkF m 139 #[.val (.int p1), .val (.int p2), .val (.int p3), .val (.int p4), .val (.int p2), .val (.int p3), .val (.ref b88), .val (.ref b91), .val (.ref b95), .val (.ref x99), .val (.int (0 : Int32)), .val (.int (1 : Int32))] [(.int (1 : Int32))])) _
      refine own_go (fun _ k => XS.ifNo X101.here hx rfl (hb hby at_139) rfl ((if0 _ _).trans (feq (by decide : ¬ ((1 : Int32) = (0 : Int32)))).1) k) ?_
      show own_Go p e below (T101.setTop (mkF m 142 #[.val (.int p1), .val (.int p2), .val (.int p3), .val (.int p4), .val (.int p2), .val (.int p3), .val (.ref b88), .val (.ref b91), .val (.ref b95), .val (.ref x99), .val (.int (0 : Int32)), .val (.int (1 : Int32))] [])) _
      refine own_go (fun _ k => XS.iload X101.here hx rfl (hb hby at_142) rfl k) ?_
      show own_Go p e below (T101.setTop (mkF m 144 #[.val (.int p1), .val (.int p2), .val (.int p3), .val (.int p4), .val (.int p2), .val (.int p3), .val (.ref b88), .val (.ref b91), .val (.ref b95), .val (.ref x99), .val (.int (0 : Int32)), .val (.int (1 : Int32))] [(.int (0 : Int32))])) _
      refine own_go (fun _ k => XS.iload X101.here hx rfl (hb hby at_144) rfl k) ?_
      show own_Go p e below (T101.setTop (mkF m 146 #[.val (.int p1), .val (.int p2), .val (.int p3), .val (.int p4), .val (.int p2), .val (.int p3), .val (.ref b88), .val (.ref b91), .val (.ref b95), .val (.ref x99), .val (.int (0 : Int32)), .val (.int (1 : Int32))] [(.int p3), (.int (0 : Int32))])) _
      refine own_go (fun _ k => XS.iconst X101.here hx rfl (hb hby at_146) k) ?_
      show own_Go p e below (T101.setTop (mkF m 147 #[.val (.int p1), .val (.int p2), .val (.int p3), .val (.int p4), .val (.int p2), .val (.int p3), .val (.ref b88), .val (.ref b91), .val (.ref b95), .val (.ref x99), .val (.int (0 : Int32)), .val (.int (1 : Int32))] [(.int (-1 : Int32)), (.int p3), (.int (0 : Int32))])) _
      refine own_go (fun _ k => XS.icmpYes X101.here hx rfl (pc0 := 147) (pc' := 154) rfl (hb hby at_147) rfl (feq hcc).2 (by decide) (by decide) k) ?_
      show own_Go p e below (T101.setTop (mkF m 154 #[.val (.int p1), .val (.int p2), .val (.int p3), .val (.int p4), .val (.int p2), .val (.int p3), .val (.ref b88), .val (.ref b91), .val (.ref b95), .val (.ref x99), .val (.int (0 : Int32)), .val (.int (1 : Int32))] [(.int (0 : Int32))])) _
      refine own_go (fun _ k => XS.iconst X101.here hx rfl (hb hby at_154) k) ?_
      show own_Go p e below (T101.setTop (mkF m 155 #[.val (.int p1), .val (.int p2), .val (.int p3), .val (.int p4), .val (.int p2), .val (.int p3), .val (.ref b88), .val (.ref b91), .val (.ref b95), .val (.ref x99), .val (.int (0 : Int32)), .val (.int (1 : Int32))] [(.int (0 : Int32)), (.int (0 : Int32))])) _
      refine own_go (fun _ k => XS.icmpNo X101.here hx rfl (hb hby at_155) rfl (teq (by decide : (0 : Int32) = (0 : Int32))).2 k) ?_
      show own_Go p e below (T101.setTop (mkF m 158 #[.val (.int p1), .val (.int p2), .val (.int p3), .val (.int p4), .val (.int p2), .val (.int p3), .val (.ref b88), .val (.ref b91), .val (.ref b95), .val (.ref x99), .val (.int (0 : Int32)), .val (.int (1 : Int32))] [])) _
      refine own_go (fun _ k => XS.iconst X101.here hx rfl (hb hby at_158) k) ?_
      show own_Go p e below (T101.setTop (mkF m 159 #[.val (.int p1), .val (.int p2), .val (.int p3), .val (.int p4), .val (.int p2), .val (.int p3), .val (.ref b88), .val (.ref b91), .val (.ref b95), .val (.ref x99), .val (.int (0 : Int32)), .val (.int (1 : Int32))] [(.int (1 : Int32))])) _
      refine own_go (fun _ k => XS.goto X101.here hx rfl (pc0 := 159) (pc' := 163) rfl (hb hby at_159) (by decide) (by decide) k) ?_
      show own_Go p e below (T101.setTop (mkF m 163 #[.val (.int p1), .val (.int p2), .val (.int p3), .val (.int p4), .val (.int p2), .val (.int p3), .val (.ref b88), .val (.ref b91), .val (.ref b95), .val (.ref x99), .val (.int (0 : Int32)), .val (.int (1 : Int32))] [(.int (1 : Int32))])) _
      refine own_go (fun _ k => XS.istore X101.here hx rfl (hb hby at_163) rfl (l' := #[.val (.int p1), .val (.int p2), .val (.int p3), .val (.int p4), .val (.int p2), .val (.int p3), .val (.ref b88), .val (.ref b91), .val (.ref b95), .val (.ref x99), .val (.int (0 : Int32)), .val (.int (1 : Int32))]) rfl k) ?_
      show own_Go p e below (T101.setTop (mkF m 165 #[.val (.int p1), .val (.int p2), .val (.int p3), .val (.int p4), .val (.int p2), .val (.int p3), .val (.ref b88), .val (.ref b91), .val (.ref b95), .val (.ref x99), .val (.int (0 : Int32)), .val (.int (1 : Int32))] [])) _
      refine own_go (fun _ k => XS.iload X101.here hx rfl (hb hby at_165) rfl k) ?_
      show own_Go p e below (T101.setTop (mkF m 167 #[.val (.int p1), .val (.int p2), .val (.int p3), .val (.int p4), .val (.int p2), .val (.int p3), .val (.ref b88), .val (.ref b91), .val (.ref b95), .val (.ref x99), .val (.int (0 : Int32)), .val (.int (1 : Int32))] [(.int (1 : Int32))])) _
      refine own_go (fun _ k => XS.ifNo X101.here hx rfl (hb hby at_167) rfl ((if0 _ _).trans (feq (by decide : ¬ ((1 : Int32) = (0 : Int32)))).1) k) ?_
      show own_Go p e below (T101.setTop (mkF m 170 #[.val (.int p1), .val (.int p2), .val (.int p3), .val (.int p4), .val (.int p2), .val (.int p3), .val (.ref b88), .val (.ref b91), .val (.ref b95), .val (.ref x99), .val (.int (0 : Int32)), .val (.int (1 : Int32))] [])) _
      refine own_go (fun _ k => XS.aload X101.here hx rfl (hb hby at_170) rfl rfl k) ?_
      show own_Go p e below (T101.setTop (mkF m 172 #[.val (.int p1), .val (.int p2), .val (.int p3), .val (.int p4), .val (.int p2), .val (.int p3), .val (.ref b88), .val (.ref b91), .val (.ref b95), .val (.ref x99), .val (.int (0 : Int32)), .val (.int (1 : Int32))] [(.ref x99)])) _
      obtain ⟨cq102, kq102, q102a, q102b, q102c⟩ := isOf hZ99 e101 Ex99
      obtain ⟨v102, _, ⟨T102, L102, k102, n102⟩, -, X102, ⟨Lc102, hQ102, l102, y102, z102⟩, st102⟩ := X101.virtualBack hx (y := (⟨"com/example/rederive/rederive/PatternFault", "isInHeader", "()Z"⟩ : MethodName)) (z := (⟨"com/example/rederive/rederive/PatternFault", "isInHeader", "()Z"⟩ : MethodName)) hown99 (mvT hZ99 (hw _ (List.mem_of_getElem? (i := 62) rfl))) (mvT hZ99 (hw _ (List.mem_of_getElem? (i := 63) rfl))) (notFace_of_selects (args := #[]) (mvT hZ99 (hw _ (List.mem_of_getElem? (i := 65) rfl)))) (mvT hZ99 (hw _ (List.mem_of_getElem? (i := 65) rfl))) (mvT hZ99 (hw _ (List.mem_of_getElem? (i := 64) rfl))) (by decide) (backOf (W := 0) (rm_isin l Z a0 hw [] x99 (-1 : Int32) (1 : Int32) T99.heap n0 (f98.keep K99 all0) Ex99 Fb99 (by decide)) hZ99 (hw _ (List.mem_of_getElem? (i := 66) rfl)) (hw _ (List.mem_of_getElem? (i := 32) rfl)) (by decide) (by decide)) q102a q102c (g := (mkF m 172 #[.val (.int p1), .val (.int p2), .val (.int p3), .val (.int p4), .val (.int p2), .val (.int p3), .val (.ref b88), .val (.ref b91), .val (.ref b95), .val (.ref x99), .val (.int (0 : Int32)), .val (.int (1 : Int32))] [(.ref x99)])) rfl (by rw [hml]; rfl) (Steps.refl _) (argsL := []) (rest := []) (lenOf pd_5 rfl) rfl (by show 2 * 0 + _ ≤ _; exact Nat.le_of_eq rfl) (hb hby at_172) (fun _ _ => ⟨rfl, e101, (by decide : 9 + 0 ≤ _), (by decide : 78 + 0 ≤ _)⟩)
      dsimp only [Pt.U, Pt.locs, Pt.cells, Pt.slots] at X102 l102 y102 z102 st102 hQ102
      subst l102 y102 z102
      refine own_gos st102 ?_
      obtain ⟨rfl, Nq102, e102⟩ := hQ102
      have N102 := Fr.app N101 Nq102
      show own_Go p e below (T102.setTop (mkF m 175 #[.val (.int p1), .val (.int p2), .val (.int p3), .val (.int p4), .val (.int p2), .val (.int p3), .val (.ref b88), .val (.ref b91), .val (.ref b95), .val (.ref x99), .val (.int (0 : Int32)), .val (.int (1 : Int32))] [(.int (1 : Int32))])) _
      refine own_go (fun _ k => XS.ifNo X102.here hx rfl (hb hby at_175) rfl ((if0 _ _).trans (feq (by decide : ¬ ((1 : Int32) = (0 : Int32)))).1) k) ?_
      show own_Go p e below (T102.setTop (mkF m 178 #[.val (.int p1), .val (.int p2), .val (.int p3), .val (.int p4), .val (.int p2), .val (.int p3), .val (.ref b88), .val (.ref b91), .val (.ref b95), .val (.ref x99), .val (.int (0 : Int32)), .val (.int (1 : Int32))] [])) _
      refine own_go (fun _ k => XS.iconst X102.here hx rfl (hb hby at_178) k) ?_
      show own_Go p e below (T102.setTop (mkF m 179 #[.val (.int p1), .val (.int p2), .val (.int p3), .val (.int p4), .val (.int p2), .val (.int p3), .val (.ref b88), .val (.ref b91), .val (.ref b95), .val (.ref x99), .val (.int (0 : Int32)), .val (.int (1 : Int32))] [(.int (1 : Int32))])) _
      refine own_go (fun _ k => XS.goto X102.here hx rfl (pc0 := 179) (pc' := 183) rfl (hb hby at_179) (by decide) (by decide) k) ?_
      show own_Go p e below (T102.setTop (mkF m 183 #[.val (.int p1), .val (.int p2), .val (.int p3), .val (.int p4), .val (.int p2), .val (.int p3), .val (.ref b88), .val (.ref b91), .val (.ref b95), .val (.ref x99), .val (.int (0 : Int32)), .val (.int (1 : Int32))] [(.int (1 : Int32))])) _
      refine own_go (fun _ k => XS.istore X102.here hx rfl (hb hby at_183) rfl (l' := #[.val (.int p1), .val (.int p2), .val (.int p3), .val (.int p4), .val (.int p2), .val (.int p3), .val (.ref b88), .val (.ref b91), .val (.ref b95), .val (.ref x99), .val (.int (0 : Int32)), .val (.int (1 : Int32))]) rfl k) ?_
      show own_Go p e below (T102.setTop (mkF m 185 #[.val (.int p1), .val (.int p2), .val (.int p3), .val (.int p4), .val (.int p2), .val (.int p3), .val (.ref b88), .val (.ref b91), .val (.ref b95), .val (.ref x99), .val (.int (0 : Int32)), .val (.int (1 : Int32))] [])) _
      refine own_go (fun _ k => XS.iload X102.here hx rfl (hb hby at_185) rfl k) ?_
      show own_Go p e below (T102.setTop (mkF m 187 #[.val (.int p1), .val (.int p2), .val (.int p3), .val (.int p4), .val (.int p2), .val (.int p3), .val (.ref b88), .val (.ref b91), .val (.ref b95), .val (.ref x99), .val (.int (0 : Int32)), .val (.int (1 : Int32))] [(.int (1 : Int32))])) _
      have z103 := (Nat.le_trans (Nat.le_trans (Nat.le_trans (Nat.le_trans z93 K94.1) E95.1) K97.1) K99.1)
      refine own_finW (v := (some (.int (nar .boolean (1 : Int32))))) X102 hh hZ99 hS99 (by rw [e102]; exact (Nat.le_refl _)) (fun h => by rw [hrt] at h; cases h) hlk (fun fs hr => retN X102 hx (t := .boolean) hrt (by simp) (hb hby at_187) hr) (QQ := QQ0 n0) ?_ own_hEL e102 (own_chr0 z103) (by decide) (by decide)
      rw [e102]
      exact ⟨rfl, N102⟩

set_option maxRecDepth 65536 in
set_option maxHeartbeats 40000000 in
theorem comes_1 {Post : Tables → Env → Array Value → State → Outcome → State → Prop} (hpost : ∀ tb e args s v u, (limb_1_1.after args s (.returned v) u = true ∧ limb_1_2.after args s (.returned v) u = true ∧ True) → FramedW s (.returned v) u (Jvm.fieldLocs frame_1_writes args s ++ Jvm.arrayLocs frame_1_arrays args s ++ Jvm.staticLocs frame_1_statics s) 24 1152 → Post tb e args s (.returned v) u) :
    ArmFor flags0 classFile x code maxLocals ret World_1 tables_1 room_1 Calls_1 rest_1 Pre_1 Post := by
  intro l hfl _ _ p e ha hc hk s m args below hf hA hF happ hP
  obtain ⟨hcalls, hrest, hpre⟩ := hP
  obtain ⟨-, -, -, hnamed, -, -, -, hat⟩ := (Spec.applies_iff hf).mp happ
  obtain ⟨hg, hn⟩ := and_e (Cond.before_iff.mp (show (Jvm.Cond.and given_1 narrow_1).before args s = true from hpre))
  obtain ⟨hcount, hg0⟩ := and_e hg
  obtain ⟨ha0, hg1⟩ := and_e hg0
  obtain ⟨ha1, hg2⟩ := and_e hg1
  obtain ⟨ha2, hg3⟩ := and_e hg2
  obtain ⟨w0, w1, w2, w3, rfl⟩ : ∃ w0 w1 w2 w3 : Value, args = #[w0, w1, w2, w3] := by
    have hs : args.size = 4 := by simpa [Cond.value, given_1] using hcount
    obtain ⟨L⟩ := args
    match L, hs with
    | [w0, w1, w2, w3], _ => exact ⟨w0, w1, w2, w3, rfl⟩
  have hw := fun d (hd : d ∈ tables_1) => atoms_spec (ws := Jvm.Cond.code x code maxLocals ret :: tables_1) hat d (List.mem_cons_of_mem _ hd)
  obtain ⟨hsets, hown0⟩ := atoms_of _ (rest_1_c_eq ▸ (show rest_1_c.before _ s = true from hrest))
  obtain ⟨i0, e0⟩ := is_v ha0
  obtain rfl : w0 = (.int i0) := Option.some.inj e0
  obtain ⟨i1, e1⟩ := is_v ha1
  obtain rfl : w1 = (.int i1) := Option.some.inj e1
  obtain ⟨i2, e2⟩ := is_v ha2
  obtain rfl : w2 = (.int i2) := Option.some.inj e2
  obtain ⟨i3, e3⟩ := is_v hg3
  obtain rfl : w3 = (.int i3) := Option.some.inj e3
  obtain ⟨i_G1, e_G1⟩ := is_v (Cond.before_iff.mp (hsets _ (List.mem_of_getElem? (i := 1) rfl)))
  have S_G1 : Sta s s.heap "java/lang/String" "COMPACT_STRINGS" "Z" (.int i_G1) := Sta.start e_G1 (Or.inl (hsets _ (List.mem_of_getElem? (i := 0) rfl)))
  have c_G1 : ¬ (i_G1 = (0 : Int32)) := gotF (Cond.eq_ints e_G1 (Term.int_eval (0))) (not_v (Cond.before_iff.mp (hsets _ (List.mem_of_getElem? (i := 2) rfl))))
  obtain ⟨n, o, h1, h2, h3, _, L, rfl, ⟨rfl, N⟩, hCH, hq⟩ := rm_law l s _ hw tables_1 i0 i1 i2 i3 i_G1 s.heap s.heap.size (Old.start s)  S_G1 c_G1 p e ha hc hk s m _ below hf ((Spec.applies_iff_loose hf).mp happ).1 ⟨rfl, State.Warmed39.refl s, rfl, own_chv0⟩ trivial
  refine ⟨n, _, h1, h2, h3, hpost _ _ _ _ _ _ ⟨Cond.after_iff.mpr rfl, Cond.after_iff.mpr (eq_i res_at (Term.int_eval (1)) rfl), trivial⟩ ⟨hq.1, hq.2.1, hq.2.2.1, (hq.2.2.2.sift fun y hy => Or.inr (N y hy)).mono (by decide) (by decide)⟩⟩
theorem main_1_1 : Claimed_1_1 := comes_1 fun _ _ _ _ _ _ h hF => ⟨h.1, hF⟩
theorem main_1_2 : Claimed_1_2 := comes_1 fun _ _ _ _ _ _ h hF => ⟨h.2.1, hF⟩
end Jvm.Pilot.@@N@@
namespace Jvm.Pilot.@@N@@
open Jvm Jvm.ClassFile Sem Op Lib Jvm.Free Jvm.Stand Jvm.Pilot.@@N@@.Jvm.D
/-! MADE BY PROGRAM (witnessworld.py) out of the Statement's table words and the real class files: 22 classes; the members and pool entries that the words name. The judged class is class 1, her method 1. -/
namespace start1
open Jvm.ClassFile
def u (s : String) : CpInfo := .utf8 (stringToUtf16 s)
/-- a pool by its gaps: so many unusable entries, then the entry; so many at the end -/
def gap : Nat → List CpInfo → List CpInfo
  | 0, r => r
  | n + 1, r => .unusable :: gap n r
def poolList (es : List (Nat × CpInfo)) (last : Nat) : List CpInfo := es.foldr (fun e r => gap e.1 (e.2 :: r)) (gap last [])
def pool (es : List (Nat × CpInfo)) (last : Nat) : Array CpInfo := ⟨poolList es last⟩
def fileOf (pool : Array CpInfo) (this : Nat) (attrs : Array Attribute := #[]) (ms : Array MethodInfo := #[]) (fl : Nat := 33) (sup : Nat := 0) (ifs : Array Nat := #[]) (fds : Array FieldInfo := #[]) : ClassFile where
  minorVersion := 0
  majorVersion := 65
  constantPool := pool
  accessFlags := fl
  thisClass := this
  superClass := sup
  interfaces := ifs
  fields := fds
  methods := ms
  attributes := attrs
def plain (name : String) (sup : Option ClassId) : Class where
  name := name
  kind := .ordinary
  loader := none
  accessFlags := 33
  super := sup
  interfaces := #[]
  cf := none
  fields := #[]
  methods := #[]
  instanceTypes := #[]
  staticTypes := #[]
  resolved := #[]
  callSites := []
  init := .initialized
  statics := none
  mirror := none

def pool0 : Array CpInfo := pool [(5, u "<init>"), (0, u "()V"), (1, .class_ 10), (1, u "java/lang/Object")] 113

def k0c0 : Code := { maxStack := 0, maxLocals := 1, code := object_method_1_code, exceptionTable := #[], attributes := #[] }
def k0m0 : Method := { name := "<init>", desc := "()V", sig := { parameters := [], returnType := none }, accessFlags := 1, code := some k0c0 }
/-- java/lang/Object -/
def k0 : Class := { plain "java/lang/Object" none with
  accessFlags := 33
  interfaces := #[]
  cf := some (fileOf pool0 8 #[] #[{ accessFlags := 1, nameIndex := 5, descriptorIndex := 6, attributes := #[] }] 33 0 #[] #[])
  fields := #[]
  methods := #[k0m0]
  instanceTypes := #[]
  staticTypes := #[]
  resolved := Array.replicate 124 none
  statics := none }

def pool1 : Array CpInfo := pool [(2, .class_ 4), (1, u "java/lang/Object"), (0, u "<init>"), (0, u "()V"), (0, .class_ 8), (0, u "java/lang/String"), (0, .methodref 7 10), (0, .nameAndType 5 11), (0, u "([C)V"), (0, .class_ 13), (0, u "com/example/rederive/rederive/PatternFault"), (0, .methodref 12 15), (0, .nameAndType 5 16), (0, u "(IIILjava/lang/String;)V"), (0, .methodref 12 18), (0, .nameAndType 19 20), (0, u "inHeader"), (0, u "(ILjava/lang/String;)Lcom/example/rederive/rederive/PatternFault;"), (0, .methodref 12 22), (0, .nameAndType 23 24), (0, u "isInHeader"), (0, u "()Z"), (0, .class_ 26), (0, u "com/example/rederive/rederive/PatternFaultIsInHeaderPinLaw"), (2, u "law"), (0, u "(IIII)Z")] 5

def k1m0 : Method := { name := "<init>", desc := "()V", sig := { parameters := [], returnType := none }, accessFlags := 1, code := none }
def k1c1 : Code := { maxStack := 6, maxLocals := 12, code := code, exceptionTable := #[], attributes := #[] }
def k1m1 : Method := { name := "law", desc := "(IIII)Z", sig := { parameters := [.int, .int, .int, .int], returnType := some .boolean }, accessFlags := 9, code := some k1c1 }
/-- com/example/rederive/rederive/PatternFaultIsInHeaderPinLaw -/
def k1 : Class := { plain "com/example/rederive/rederive/PatternFaultIsInHeaderPinLaw" (some 0) with
  accessFlags := 49
  interfaces := #[]
  cf := some (fileOf pool1 25 #[] #[{ accessFlags := 1, nameIndex := 5, descriptorIndex := 6, attributes := #[] }, { accessFlags := 9, nameIndex := 29, descriptorIndex := 30, attributes := #[] }] 49 2 #[] #[])
  fields := #[]
  methods := #[k1m0, k1m1]
  instanceTypes := #[]
  staticTypes := #[]
  resolved := Array.replicate 36 none
  statics := none }

def pool2 : Array CpInfo := pool [(1, .class_ 2), (0, u "java/io/Serializable"), (0, .class_ 4), (0, u "java/lang/Object")] 2

/-- java/io/Serializable -/
def k2 : Class := { plain "java/io/Serializable" (some 0) with
  accessFlags := 1537
  interfaces := #[]
  cf := some (fileOf pool2 1 #[] #[] 1537 3 #[] #[])
  fields := #[]
  methods := #[]
  instanceTypes := #[]
  staticTypes := #[]
  resolved := Array.replicate 7 none
  statics := none }

def pool3 : Array CpInfo := pool [(1, .class_ 2), (0, u "java/lang/Comparable"), (0, .class_ 4), (0, u "java/lang/Object")] 7

/-- java/lang/Comparable -/
def k3 : Class := { plain "java/lang/Comparable" (some 0) with
  accessFlags := 1537
  interfaces := #[]
  cf := some (fileOf pool3 1 #[] #[] 1537 3 #[] #[])
  fields := #[]
  methods := #[]
  instanceTypes := #[]
  staticTypes := #[]
  resolved := Array.replicate 12 none
  statics := none }

def pool4 : Array CpInfo := pool [(2, .class_ 4), (1, u "java/lang/CharSequence"), (42, .class_ 48), (0, u "java/lang/CharSequence$1CodePointIterator"), (10, .class_ 60), (0, u "java/lang/CharSequence$1CharIterator"), (5, .class_ 67), (0, u "java/lang/Object")] 63

/-- java/lang/CharSequence -/
def k4 : Class := { plain "java/lang/CharSequence" (some 0) with
  accessFlags := 1537
  interfaces := #[]
  cf := some (fileOf pool4 2 #[.nestMembers #[47, 59]] #[] 1537 66 #[] #[])
  fields := #[]
  methods := #[]
  instanceTypes := #[]
  staticTypes := #[]
  resolved := Array.replicate 131 none
  statics := none }

def pool5 : Array CpInfo := pool [(1, .class_ 2), (0, u "java/lang/constant/Constable"), (0, .class_ 4), (0, u "java/lang/Object")] 6

/-- java/lang/constant/Constable -/
def k5 : Class := { plain "java/lang/constant/Constable" (some 0) with
  accessFlags := 1537
  interfaces := #[]
  cf := some (fileOf pool5 1 #[] #[] 1537 3 #[] #[])
  fields := #[]
  methods := #[]
  instanceTypes := #[]
  staticTypes := #[]
  resolved := Array.replicate 11 none
  statics := none }

def pool6 : Array CpInfo := pool [(1, .class_ 2), (0, u "java/lang/constant/ConstantDesc"), (0, .class_ 4), (0, u "java/lang/Object")] 32

/-- java/lang/constant/ConstantDesc -/
def k6 : Class := { plain "java/lang/constant/ConstantDesc" (some 0) with
  accessFlags := 1537
  interfaces := #[]
  cf := some (fileOf pool6 1 #[] #[] 1537 3 #[] #[])
  fields := #[]
  methods := #[]
  instanceTypes := #[]
  staticTypes := #[]
  resolved := Array.replicate 37 none
  statics := none }

def pool7 : Array CpInfo := pool [(1, .methodref 2 3), (0, .class_ 4), (0, .nameAndType 5 6), (0, u "java/lang/Object"), (0, u "<init>"), (0, u "()V"), (2, .fieldref 10 11), (0, .class_ 12), (0, .nameAndType 13 14), (0, u "java/lang/String"), (0, u "value"), (0, u "[B"), (0, .fieldref 10 16), (0, .nameAndType 17 18), (0, u "coder"), (0, u "B"), (2, u "hash"), (0, u "I"), (2, u "hashIsZero"), (0, u "Z"), (0, .methodref 10 28), (0, .nameAndType 5 29), (0, u "([CIILjava/lang/Void;)V"), (8, .fieldref 10 39), (0, .nameAndType 40 26), (0, u "COMPACT_STRINGS"), (1, .class_ 44), (1, u "java/lang/StringUTF16"), (0, u "compress"), (1, .methodref 42 48), (0, .nameAndType 49 50), (0, u "coderFromArrayLen"), (0, u "([BI)B"), (126, .methodref 42 178), (0, .nameAndType 45 179), (0, u "([CII)[B"), (395, .class_ 576), (0, u "java/lang/CharSequence"), (22, u "CASE_INSENSITIVE_ORDER"), (0, u "Ljava/util/Comparator;"), (409, u "([C)V"), (90, u "serialPersistentFields"), (0, u "[Ljava/io/ObjectStreamField;"), (0, .class_ 1104), (0, u "java/lang/String$CaseInsensitiveComparator"), (1, .class_ 1107), (0, u "java/io/Serializable"), (0, .class_ 1109), (0, u "java/lang/Comparable"), (0, .class_ 1111), (0, u "java/lang/constant/Constable"), (0, .class_ 1113), (0, u "java/lang/constant/ConstantDesc"), (2, u "serialVersionUID"), (0, u "J"), (3, u "REPL"), (0, u "C"), (2, u "LATIN1"), (1, u "UTF16")] 323

def k7m0 : Method := { name := "<init>", desc := "()V", sig := { parameters := [], returnType := none }, accessFlags := 1, code := none }
def k7c1 : Code := { maxStack := 5, maxLocals := 2, code := jdk_42_method_3_code, exceptionTable := #[], attributes := #[] }
def k7m1 : Method := { name := "<init>", desc := "([C)V", sig := { parameters := [(.array .char)], returnType := none }, accessFlags := 1, code := some k7c1 }
def k7c2 : Code := { maxStack := 4, maxLocals := 6, code := jdk_42_method_149_code, exceptionTable := #[], attributes := #[] }
def k7m2 : Method := { name := "<init>", desc := "([CIILjava/lang/Void;)V", sig := { parameters := [(.array .char), .int, .int, (.object "java/lang/Void")], returnType := none }, accessFlags := 2, code := some k7c2 }
/-- java/lang/String -/
def k7 : Class := { plain "java/lang/String" (some 0) with
  accessFlags := 49
  interfaces := #[2, 3, 4, 5, 6]
  cf := some (fileOf pool7 10 #[.nestMembers #[1103]] #[{ accessFlags := 1, nameIndex := 5, descriptorIndex := 6, attributes := #[] }, { accessFlags := 1, nameIndex := 5, descriptorIndex := 1010, attributes := #[] }, { accessFlags := 2, nameIndex := 5, descriptorIndex := 29, attributes := #[] }] 49 2 #[1106, 1108, 575, 1110, 1112] #[{ accessFlags := 18, nameIndex := 13, descriptorIndex := 14, attributes := #[] }, { accessFlags := 18, nameIndex := 17, descriptorIndex := 18, attributes := #[] }, { accessFlags := 2, nameIndex := 21, descriptorIndex := 22, attributes := #[] }, { accessFlags := 2, nameIndex := 25, descriptorIndex := 26, attributes := #[] }, { accessFlags := 26, nameIndex := 1116, descriptorIndex := 1117, attributes := #[] }, { accessFlags := 24, nameIndex := 40, descriptorIndex := 26, attributes := #[] }, { accessFlags := 26, nameIndex := 1101, descriptorIndex := 1102, attributes := #[] }, { accessFlags := 26, nameIndex := 1121, descriptorIndex := 1122, attributes := #[] }, { accessFlags := 25, nameIndex := 599, descriptorIndex := 600, attributes := #[] }, { accessFlags := 24, nameIndex := 1125, descriptorIndex := 18, attributes := #[] }, { accessFlags := 24, nameIndex := 1127, descriptorIndex := 18, attributes := #[] }])
  fields := #[{ name := "value", type := (.array .byte), accessFlags := 18, slot := 0, constantValue := 0 }, { name := "coder", type := .byte, accessFlags := 18, slot := 1, constantValue := 0 }, { name := "hash", type := .int, accessFlags := 2, slot := 2, constantValue := 0 }, { name := "hashIsZero", type := .boolean, accessFlags := 2, slot := 3, constantValue := 0 }, { name := "serialVersionUID", type := .long, accessFlags := 26, slot := 0, constantValue := 0 }, { name := "COMPACT_STRINGS", type := .boolean, accessFlags := 24, slot := 1, constantValue := 0 }, { name := "serialPersistentFields", type := (.array (.object "java/io/ObjectStreamField")), accessFlags := 26, slot := 2, constantValue := 0 }, { name := "REPL", type := .char, accessFlags := 26, slot := 3, constantValue := 0 }, { name := "CASE_INSENSITIVE_ORDER", type := (.object "java/util/Comparator"), accessFlags := 25, slot := 4, constantValue := 0 }, { name := "LATIN1", type := .byte, accessFlags := 24, slot := 5, constantValue := 0 }, { name := "UTF16", type := .byte, accessFlags := 24, slot := 6, constantValue := 0 }]
  methods := #[k7m0, k7m1, k7m2]
  instanceTypes := #[(.array .byte), .byte, .int, .boolean]
  staticTypes := #[.long, .boolean, (.array (.object "java/io/ObjectStreamField")), .char, (.object "java/util/Comparator"), .byte, .byte]
  resolved := Array.replicate 1451 none
  statics := some 0 }

def pool8 : Array CpInfo := pool [(6, .class_ 8), (1, u "java/lang/Object"), (0, u "<init>"), (0, u "()V"), (1, .class_ 14), (1, u "java/lang/StringUTF16"), (31, u "$assertionsDisabled"), (0, u "Z"), (13, u "HI_BYTE_SHIFT"), (0, u "I"), (2, u "LO_BYTE_SHIFT"), (49, .methodref 12 116), (0, .nameAndType 117 118), (0, u "compress"), (0, u "([CI[BII)I"), (3, u "([CII)[B"), (138, u "coderFromArrayLen"), (0, u "([BI)B"), (106, .class_ 371), (1, u "java/lang/StringUTF16$LinesSpliterator"), (58, u "MAX_LENGTH"), (196, .class_ 628), (0, u "java/lang/StringUTF16$CodePointsSpliterator"), (0, .class_ 630), (0, u "java/lang/StringUTF16$CharsSpliterator")] 4

def k8m0 : Method := { name := "<init>", desc := "()V", sig := { parameters := [], returnType := none }, accessFlags := 0, code := none }
def k8c1 : Code := { maxStack := 2, maxLocals := 2, code := jdk_52_method_15_code, exceptionTable := #[], attributes := #[] }
def k8m1 : Method := { name := "coderFromArrayLen", desc := "([BI)B", sig := { parameters := [(.array .byte), .int], returnType := some .byte }, accessFlags := 8, code := some k8c1 }
def k8c2 : Code := { maxStack := 5, maxLocals := 6, code := jdk_52_method_16_code, exceptionTable := #[], attributes := #[] }
def k8m2 : Method := { name := "compress", desc := "([CII)[B", sig := { parameters := [(.array .char), .int, .int], returnType := some (.array .byte) }, accessFlags := 9, code := some k8c2 }
def k8c3 : Code := { maxStack := 3, maxLocals := 7, code := jdk_52_method_21_code, exceptionTable := #[], attributes := #[] }
def k8m3 : Method := { name := "compress", desc := "([CI[BII)I", sig := { parameters := [(.array .char), .int, (.array .byte), .int, .int], returnType := some .int }, accessFlags := 9, code := some k8c3 }
/-- java/lang/StringUTF16 -/
def k8 : Class := { plain "java/lang/StringUTF16" (some 0) with
  accessFlags := 48
  interfaces := #[]
  cf := some (fileOf pool8 12 #[.nestMembers #[627, 629, 369]] #[{ accessFlags := 0, nameIndex := 9, descriptorIndex := 10, attributes := #[] }, { accessFlags := 8, nameIndex := 261, descriptorIndex := 262, attributes := #[] }, { accessFlags := 9, nameIndex := 117, descriptorIndex := 122, attributes := #[] }, { accessFlags := 9, nameIndex := 117, descriptorIndex := 118, attributes := #[] }] 48 6 #[] #[{ accessFlags := 26, nameIndex := 61, descriptorIndex := 62, attributes := #[] }, { accessFlags := 26, nameIndex := 65, descriptorIndex := 62, attributes := #[] }, { accessFlags := 24, nameIndex := 430, descriptorIndex := 62, attributes := #[] }, { accessFlags := 4120, nameIndex := 46, descriptorIndex := 47, attributes := #[] }])
  fields := #[{ name := "HI_BYTE_SHIFT", type := .int, accessFlags := 26, slot := 0, constantValue := 0 }, { name := "LO_BYTE_SHIFT", type := .int, accessFlags := 26, slot := 1, constantValue := 0 }, { name := "MAX_LENGTH", type := .int, accessFlags := 24, slot := 2, constantValue := 0 }, { name := "$assertionsDisabled", type := .boolean, accessFlags := 4120, slot := 3, constantValue := 0 }]
  methods := #[k8m0, k8m1, k8m2, k8m3]
  instanceTypes := #[]
  staticTypes := #[.int, .int, .int, .boolean]
  resolved := Array.replicate 635 none
  statics := none }

def pool9 : Array CpInfo := pool [(1, .methodref 2 3), (0, .class_ 4), (0, .nameAndType 5 6), (0, u "java/lang/Object"), (0, u "<init>"), (0, u "()V"), (0, .class_ 8), (0, u "java/lang/Record")] 13

def k9c0 : Code := { maxStack := 1, maxLocals := 1, code := jdk_30_method_1_code, exceptionTable := #[], attributes := #[] }
def k9m0 : Method := { name := "<init>", desc := "()V", sig := { parameters := [], returnType := none }, accessFlags := 4, code := some k9c0 }
/-- java/lang/Record -/
def k9 : Class := { plain "java/lang/Record" (some 0) with
  accessFlags := 1057
  interfaces := #[]
  cf := some (fileOf pool9 7 #[] #[{ accessFlags := 4, nameIndex := 5, descriptorIndex := 6, attributes := #[] }] 1057 2 #[] #[])
  fields := #[]
  methods := #[k9m0]
  instanceTypes := #[]
  staticTypes := #[]
  resolved := Array.replicate 22 none
  statics := none }

def pool10 : Array CpInfo := pool [(1, .methodref 2 3), (0, .class_ 4), (0, .nameAndType 5 6), (0, u "java/lang/Record"), (0, u "<init>"), (0, u "()V"), (0, .string 8), (0, u "message"), (0, .methodref 10 11), (0, .class_ 12), (0, .nameAndType 13 14), (0, u "java/util/Objects"), (0, u "requireNonNull"), (0, u "(Ljava/lang/Object;Ljava/lang/String;)Ljava/lang/Object;"), (0, .class_ 16), (0, u "com/example/rederive/rederive/PatternFault"), (7, .fieldref 15 25), (0, .nameAndType 26 27), (0, u "pattern"), (0, u "I"), (0, .fieldref 15 29), (0, .nameAndType 30 27), (0, u "body"), (0, .fieldref 15 32), (0, .nameAndType 33 27), (0, u "constraint"), (0, .fieldref 15 35), (0, .nameAndType 8 36), (0, u "Ljava/lang/String;"), (0, .methodref 15 38), (0, .nameAndType 5 39), (0, u "(IIILjava/lang/String;)V"), (12, u "HEADER"), (8, u "inHeader"), (0, u "(ILjava/lang/String;)Lcom/example/rederive/rederive/PatternFault;"), (0, u "isInHeader"), (0, u "()Z")] 26

def k10c0 : Code := { maxStack := 3, maxLocals := 5, code := prog_58_method_1_code, exceptionTable := #[], attributes := #[] }
def k10m0 : Method := { name := "<init>", desc := "(IIILjava/lang/String;)V", sig := { parameters := [.int, .int, .int, (.object "java/lang/String")], returnType := none }, accessFlags := 1, code := some k10c0 }
def k10c1 : Code := { maxStack := 6, maxLocals := 2, code := prog_58_method_2_code, exceptionTable := #[], attributes := #[] }
def k10m1 : Method := { name := "inHeader", desc := "(ILjava/lang/String;)Lcom/example/rederive/rederive/PatternFault;", sig := { parameters := [.int, (.object "java/lang/String")], returnType := some (.object "com/example/rederive/rederive/PatternFault") }, accessFlags := 8, code := some k10c1 }
def k10c2 : Code := { maxStack := 2, maxLocals := 1, code := prog_58_method_3_code, exceptionTable := #[], attributes := #[] }
def k10m2 : Method := { name := "isInHeader", desc := "()Z", sig := { parameters := [], returnType := some .boolean }, accessFlags := 1, code := some k10c2 }
/-- com/example/rederive/rederive/PatternFault -/
def k10 : Class := { plain "com/example/rederive/rederive/PatternFault" (some 9) with
  accessFlags := 49
  interfaces := #[]
  cf := some (fileOf pool10 15 #[] #[{ accessFlags := 1, nameIndex := 5, descriptorIndex := 39, attributes := #[] }, { accessFlags := 8, nameIndex := 61, descriptorIndex := 62, attributes := #[] }, { accessFlags := 1, nameIndex := 63, descriptorIndex := 64, attributes := #[] }] 49 2 #[] #[{ accessFlags := 18, nameIndex := 26, descriptorIndex := 27, attributes := #[] }, { accessFlags := 18, nameIndex := 30, descriptorIndex := 27, attributes := #[] }, { accessFlags := 18, nameIndex := 33, descriptorIndex := 27, attributes := #[] }, { accessFlags := 18, nameIndex := 8, descriptorIndex := 36, attributes := #[] }, { accessFlags := 25, nameIndex := 52, descriptorIndex := 27, attributes := #[] }])
  fields := #[{ name := "pattern", type := .int, accessFlags := 18, slot := 0, constantValue := 0 }, { name := "body", type := .int, accessFlags := 18, slot := 1, constantValue := 0 }, { name := "constraint", type := .int, accessFlags := 18, slot := 2, constantValue := 0 }, { name := "message", type := (.object "java/lang/String"), accessFlags := 18, slot := 3, constantValue := 0 }, { name := "HEADER", type := .int, accessFlags := 25, slot := 0, constantValue := 0 }]
  methods := #[k10m0, k10m1, k10m2]
  instanceTypes := #[.int, .int, .int, (.object "java/lang/String")]
  staticTypes := #[.int]
  resolved := Array.replicate 91 none
  statics := none }

def pool11 : Array CpInfo := pool [(2, .class_ 4), (1, u "java/lang/Object"), (0, u "<init>"), (0, u "()V"), (35, .class_ 44), (1, u "java/util/Objects"), (0, u "requireNonNull"), (48, u "(Ljava/lang/Object;Ljava/lang/String;)Ljava/lang/Object;")] 89

def k11m0 : Method := { name := "<init>", desc := "()V", sig := { parameters := [], returnType := none }, accessFlags := 2, code := none }
def k11c1 : Code := { maxStack := 3, maxLocals := 2, code := jdk_31_method_11_code, exceptionTable := #[], attributes := #[] }
def k11m1 : Method := { name := "requireNonNull", desc := "(Ljava/lang/Object;Ljava/lang/String;)Ljava/lang/Object;", sig := { parameters := [(.object "java/lang/Object"), (.object "java/lang/String")], returnType := some (.object "java/lang/Object") }, accessFlags := 9, code := some k11c1 }
/-- java/util/Objects -/
def k11 : Class := { plain "java/util/Objects" (some 0) with
  accessFlags := 49
  interfaces := #[]
  cf := some (fileOf pool11 42 #[] #[{ accessFlags := 2, nameIndex := 5, descriptorIndex := 6, attributes := #[] }, { accessFlags := 9, nameIndex := 45, descriptorIndex := 94, attributes := #[] }] 49 2 #[] #[])
  fields := #[]
  methods := #[k11m0, k11m1]
  instanceTypes := #[]
  staticTypes := #[]
  resolved := Array.replicate 184 none
  statics := none }

def pool12 : Array CpInfo := pool [(4, .class_ 6), (1, u "java/lang/Object"), (0, u "<init>"), (0, u "()V"), (5, .class_ 16), (1, u "java/lang/StringLatin1"), (104, u "$assertionsDisabled"), (0, u "Z"), (98, .class_ 223), (1, u "java/lang/StringLatin1$LinesSpliterator"), (166, .class_ 391), (0, u "java/lang/StringLatin1$CharsSpliterator")] 3

def k12m0 : Method := { name := "<init>", desc := "()V", sig := { parameters := [], returnType := none }, accessFlags := 0, code := none }
/-- java/lang/StringLatin1 -/
def k12 : Class := { plain "java/lang/StringLatin1" (some 0) with
  accessFlags := 48
  interfaces := #[]
  cf := some (fileOf pool12 14 #[.nestMembers #[390, 221]] #[{ accessFlags := 0, nameIndex := 7, descriptorIndex := 8, attributes := #[] }] 48 4 #[] #[{ accessFlags := 4120, nameIndex := 121, descriptorIndex := 122, attributes := #[] }])
  fields := #[{ name := "$assertionsDisabled", type := .boolean, accessFlags := 4120, slot := 0, constantValue := 0 }]
  methods := #[k12m0]
  instanceTypes := #[]
  staticTypes := #[.boolean]
  resolved := Array.replicate 395 none
  statics := none }

def pool13 : Array CpInfo := pool [(2, .class_ 4), (1, u "java/lang/Object"), (0, u "<init>"), (0, u "()V"), (17, .class_ 26), (1, u "jdk/internal/util/Preconditions"), (28, .class_ 56), (0, u "jdk/internal/util/Preconditions$4"), (57, .class_ 115), (0, u "jdk/internal/util/Preconditions$1"), (7, u "SIOOBE_FORMATTER"), (0, u "Ljava/util/function/BiFunction;"), (0, .class_ 126), (0, u "jdk/internal/util/Preconditions$2"), (3, u "AIOOBE_FORMATTER"), (0, .class_ 132), (0, u "jdk/internal/util/Preconditions$3"), (3, u "IOOBE_FORMATTER")] 57

def k13m0 : Method := { name := "<init>", desc := "()V", sig := { parameters := [], returnType := none }, accessFlags := 1, code := none }
/-- jdk/internal/util/Preconditions -/
def k13 : Class := { plain "jdk/internal/util/Preconditions" (some 0) with
  accessFlags := 33
  interfaces := #[]
  cf := some (fileOf pool13 24 #[.nestMembers #[55, 131, 125, 114]] #[{ accessFlags := 1, nameIndex := 5, descriptorIndex := 6, attributes := #[] }] 33 2 #[] #[{ accessFlags := 25, nameIndex := 123, descriptorIndex := 124, attributes := #[] }, { accessFlags := 25, nameIndex := 130, descriptorIndex := 124, attributes := #[] }, { accessFlags := 25, nameIndex := 136, descriptorIndex := 124, attributes := #[] }])
  fields := #[{ name := "SIOOBE_FORMATTER", type := (.object "java/util/function/BiFunction"), accessFlags := 25, slot := 0, constantValue := 0 }, { name := "AIOOBE_FORMATTER", type := (.object "java/util/function/BiFunction"), accessFlags := 25, slot := 1, constantValue := 0 }, { name := "IOOBE_FORMATTER", type := (.object "java/util/function/BiFunction"), accessFlags := 25, slot := 2, constantValue := 0 }]
  methods := #[k13m0]
  instanceTypes := #[]
  staticTypes := #[(.object "java/util/function/BiFunction"), (.object "java/util/function/BiFunction"), (.object "java/util/function/BiFunction")]
  resolved := Array.replicate 194 none
  statics := some 1 }

def pool14 : Array CpInfo := pool [(9, u "<init>"), (6, .class_ 18), (1, u "java/lang/Object"), (0, u "()V"), (1, .class_ 23), (1, u "jdk/internal/util/ArraysSupport"), (0, u "LOG2_ARRAY_LONG_INDEX_SCALE"), (0, u "I"), (2, u "U"), (0, u "Ljdk/internal/misc/Unsafe;"), (8, u "BIG_ENDIAN"), (0, u "Z"), (8, u "LOG2_BYTE_BIT_SIZE"), (4, u "LOG2_ARRAY_INT_INDEX_SCALE"), (54, u "JLA"), (0, u "Ljdk/internal/access/JavaLangAccess;"), (11, u "LOG2_ARRAY_BOOLEAN_INDEX_SCALE"), (9, u "LOG2_ARRAY_BYTE_INDEX_SCALE"), (5, u "LOG2_ARRAY_CHAR_INDEX_SCALE"), (5, u "LOG2_ARRAY_SHORT_INDEX_SCALE"), (18, u "LOG2_ARRAY_FLOAT_INDEX_SCALE"), (24, u "LOG2_ARRAY_DOUBLE_INDEX_SCALE"), (89, u "T_BOOLEAN"), (2, u "T_CHAR"), (1, u "T_FLOAT"), (1, u "T_DOUBLE"), (1, u "T_BYTE"), (1, u "T_SHORT"), (1, u "T_INT"), (1, u "T_LONG"), (1, u "SOFT_MAX_ARRAY_LENGTH")] 83

def k14m0 : Method := { name := "<init>", desc := "()V", sig := { parameters := [], returnType := none }, accessFlags := 2, code := none }
/-- jdk/internal/util/ArraysSupport -/
def k14 : Class := { plain "jdk/internal/util/ArraysSupport" (some 0) with
  accessFlags := 33
  interfaces := #[]
  cf := some (fileOf pool14 21 #[] #[{ accessFlags := 2, nameIndex := 9, descriptorIndex := 19, attributes := #[] }] 33 16 #[] #[{ accessFlags := 24, nameIndex := 28, descriptorIndex := 29, attributes := #[] }, { accessFlags := 26, nameIndex := 38, descriptorIndex := 39, attributes := #[] }, { accessFlags := 25, nameIndex := 121, descriptorIndex := 25, attributes := #[] }, { accessFlags := 25, nameIndex := 131, descriptorIndex := 25, attributes := #[] }, { accessFlags := 25, nameIndex := 137, descriptorIndex := 25, attributes := #[] }, { accessFlags := 25, nameIndex := 143, descriptorIndex := 25, attributes := #[] }, { accessFlags := 25, nameIndex := 53, descriptorIndex := 25, attributes := #[] }, { accessFlags := 25, nameIndex := 24, descriptorIndex := 25, attributes := #[] }, { accessFlags := 25, nameIndex := 162, descriptorIndex := 25, attributes := #[] }, { accessFlags := 25, nameIndex := 187, descriptorIndex := 25, attributes := #[] }, { accessFlags := 26, nameIndex := 48, descriptorIndex := 25, attributes := #[] }, { accessFlags := 25, nameIndex := 277, descriptorIndex := 25, attributes := #[] }, { accessFlags := 25, nameIndex := 280, descriptorIndex := 25, attributes := #[] }, { accessFlags := 25, nameIndex := 282, descriptorIndex := 25, attributes := #[] }, { accessFlags := 25, nameIndex := 284, descriptorIndex := 25, attributes := #[] }, { accessFlags := 25, nameIndex := 286, descriptorIndex := 25, attributes := #[] }, { accessFlags := 25, nameIndex := 288, descriptorIndex := 25, attributes := #[] }, { accessFlags := 25, nameIndex := 290, descriptorIndex := 25, attributes := #[] }, { accessFlags := 25, nameIndex := 292, descriptorIndex := 25, attributes := #[] }, { accessFlags := 26, nameIndex := 108, descriptorIndex := 109, attributes := #[] }, { accessFlags := 25, nameIndex := 294, descriptorIndex := 25, attributes := #[] }])
  fields := #[{ name := "U", type := (.object "jdk/internal/misc/Unsafe"), accessFlags := 24, slot := 0, constantValue := 0 }, { name := "BIG_ENDIAN", type := .boolean, accessFlags := 26, slot := 1, constantValue := 0 }, { name := "LOG2_ARRAY_BOOLEAN_INDEX_SCALE", type := .int, accessFlags := 25, slot := 2, constantValue := 0 }, { name := "LOG2_ARRAY_BYTE_INDEX_SCALE", type := .int, accessFlags := 25, slot := 3, constantValue := 0 }, { name := "LOG2_ARRAY_CHAR_INDEX_SCALE", type := .int, accessFlags := 25, slot := 4, constantValue := 0 }, { name := "LOG2_ARRAY_SHORT_INDEX_SCALE", type := .int, accessFlags := 25, slot := 5, constantValue := 0 }, { name := "LOG2_ARRAY_INT_INDEX_SCALE", type := .int, accessFlags := 25, slot := 6, constantValue := 0 }, { name := "LOG2_ARRAY_LONG_INDEX_SCALE", type := .int, accessFlags := 25, slot := 7, constantValue := 0 }, { name := "LOG2_ARRAY_FLOAT_INDEX_SCALE", type := .int, accessFlags := 25, slot := 8, constantValue := 0 }, { name := "LOG2_ARRAY_DOUBLE_INDEX_SCALE", type := .int, accessFlags := 25, slot := 9, constantValue := 0 }, { name := "LOG2_BYTE_BIT_SIZE", type := .int, accessFlags := 26, slot := 10, constantValue := 0 }, { name := "T_BOOLEAN", type := .int, accessFlags := 25, slot := 11, constantValue := 0 }, { name := "T_CHAR", type := .int, accessFlags := 25, slot := 12, constantValue := 0 }, { name := "T_FLOAT", type := .int, accessFlags := 25, slot := 13, constantValue := 0 }, { name := "T_DOUBLE", type := .int, accessFlags := 25, slot := 14, constantValue := 0 }, { name := "T_BYTE", type := .int, accessFlags := 25, slot := 15, constantValue := 0 }, { name := "T_SHORT", type := .int, accessFlags := 25, slot := 16, constantValue := 0 }, { name := "T_INT", type := .int, accessFlags := 25, slot := 17, constantValue := 0 }, { name := "T_LONG", type := .int, accessFlags := 25, slot := 18, constantValue := 0 }, { name := "JLA", type := (.object "jdk/internal/access/JavaLangAccess"), accessFlags := 26, slot := 19, constantValue := 0 }, { name := "SOFT_MAX_ARRAY_LENGTH", type := .int, accessFlags := 25, slot := 20, constantValue := 0 }]
  methods := #[k14m0]
  instanceTypes := #[]
  staticTypes := #[(.object "jdk/internal/misc/Unsafe"), .boolean, .int, .int, .int, .int, .int, .int, .int, .int, .int, .int, .int, .int, .int, .int, .int, .int, .int, (.object "jdk/internal/access/JavaLangAccess"), .int]
  resolved := Array.replicate 378 none
  statics := none }

def pool15 : Array CpInfo := pool [(1, u "java/lang/Cloneable"), (0, .class_ 1), (0, u "java/lang/Object"), (0, .class_ 3)] 3

/-- java/lang/Cloneable -/
def k15 : Class := { plain "java/lang/Cloneable" (some 0) with
  accessFlags := 1537
  interfaces := #[]
  cf := some (fileOf pool15 2 #[] #[] 1537 4 #[] #[])
  fields := #[]
  methods := #[]
  instanceTypes := #[]
  staticTypes := #[]
  resolved := Array.replicate 8 none
  statics := none }

/-- the primitive byte -/
def k16 : Class := { plain "byte" none with kind := .primitive 'B', accessFlags := 0x411 }
/-- [B -/
def k17 : Class := { plain "[B" (some 0) with kind := .array 16 .byte, interfaces := #[15, 2], accessFlags := 1041 }

/-- the primitive char -/
def k18 : Class := { plain "char" none with kind := .primitive 'C', accessFlags := 0x411 }
/-- [C -/
def k19 : Class := { plain "[C" (some 0) with kind := .array 18 .char, interfaces := #[15, 2], accessFlags := 1041 }

/-- the primitive int -/
def k20 : Class := { plain "int" none with kind := .primitive 'I', accessFlags := 0x411 }
/-- [I -/
def k21 : Class := { plain "[I" (some 0) with kind := .array 20 .int, interfaces := #[15, 2], accessFlags := 1041 }

def heap : Heap := #[{ cls := 7, slots := #[.long 0, .int 1, .null, .int 0, .null, .int 0, .int 0], vm := .statics 7 },
  { cls := 13, slots := #[.null, .null, .null], vm := .statics 13 }]
def classes : Array Class := #[k0, k1, k2, k3, k4, k5, k6, k7, k8, k9, k10, k11, k12, k13, k14, k15, k16, k17, k18, k19, k20, k21]
def interned : List (Array UInt16 × Addr) := []
def slotsUsed : Nat := 10
def theMethod : MethodId := ⟨1, 1⟩
def args0 : Array Value := #[.int 5, .int 5, .int 5, .int 5]
def aboutOver (below : List Frame) : State where
  vm := { classes := classes, interned := interned.toArray }
  heap := heap
  slotsUsed := slotsUsed
  threads := #[{ frames := .invoking theMethod args0 :: below }]
def below0 : List Frame := [.native { method := ⟨0, 0⟩, args := #[] }]
def about1 : State := aboutOver below0
def p0 : Program := .bare "" "" ""
def e0 : Env := launch0.env 0 0 0
theorem w_frames : about1.frames = Frame.invoking theMethod args0 :: below0 := rfl
set_option maxRecDepth 65536 in
theorem w_args : argsFit about1.vm theMethod args0 = true := by decide +kernel
set_option maxRecDepth 65536 in
theorem w_heap : heapFits about1 = true := by decide +kernel
set_option maxRecDepth 65536 in
theorem w_runnable : about1.curStatus? = some .runnable := by decide +kernel
set_option maxRecDepth 65536 in
theorem w_alone : about1.alone = true := by decide +kernel
set_option maxRecDepth 65536 in
theorem w_named : about1.methodNamed? x = some theMethod := by decide +kernel
set_option maxRecDepth 65536 in
theorem w_hears : about1.hears theMethod below0 = true := by decide +kernel
set_option maxRecDepth 65536 in
theorem w_ripe : about1.ripe theMethod args0 below0 = true := by decide +kernel
theorem w_running : about1.status = .running := rfl
set_option maxRecDepth 65536 in
theorem w_room : about1.hasRoom e0.platform room_1 = true :=
  launch0.hasRoom_least _ room_1 (by decide +kernel) (by decide +kernel) (by decide +kernel) (by decide +kernel) (by decide +kernel) (by decide +kernel)
theorem allAtoms_all (ts : List Jvm.Cond) (a : Array Jvm.Value) (st : Jvm.State) : (allAtoms ts).before a st = ts.all (fun c => c.before a st) := by
  induction ts with
  | nil => rfl
  | cons c t ih =>
    show (Jvm.Cond.and c (allAtoms t)).before a st = _
    rw [Jvm.Cond.before_and, ih, List.all_cons]
def words1 : List Jvm.Cond := Jvm.Cond.code x code maxLocals ret :: tables_1
/-- a 'code' word, met by the world's own term for the bytes: nothing is compared byte by byte -/
theorem code_word {y : MethodName} {bytes : ByteArray} {mx : Nat} {rt : Option FieldType} {a : Array Value} {s : State} {m : MethodId} {meth : Method} {c : Code} (h1 : s.methodNamed? y = some m) (h2 : s.vm.method? m = some meth) (h3 : meth.code = some c) (h4 : c.code = bytes)
    (h5 : (c.maxLocals == mx && c.exceptionTable.isEmpty && decide (c.maxStack ≤ mostOperands) && decide (meth.sig.returnType = rt) && !meth.locks && decide (parseMethodDescriptor y.desc = some meth.sig)) = true) : (Jvm.Cond.code y bytes mx rt).before a s = true := by
  simp only [Bool.and_eq_true, beq_iff_eq, Bool.not_eq_true', decide_eq_true_eq] at h5
  obtain ⟨⟨⟨⟨⟨g1, g2⟩, g3⟩, g4⟩, g5⟩, g6⟩ := h5
  simp [Cond.before, Cond.holds, Cond.value, h1, h2, h3, h4, g1, g2, g3, g4, g5, g6]
def isCode : Jvm.Cond → Bool
  | .code _ _ _ _ => true
  | _ => false
theorem all_split {L : List Jvm.Cond} {P : Jvm.Cond → Bool} (h1 : L.all (fun c => isCode c || P c) = true) (h2 : ∀ c ∈ L.filter isCode, P c = true) : L.all P = true := by
  refine List.all_eq_true.mpr fun c hc => ?_
  have h := List.all_eq_true.mp h1 c hc
  rcases Bool.eq_false_or_eq_true (isCode c) with hi | hi
  · exact h2 c (List.mem_filter.mpr ⟨hc, hi⟩)
  · simpa [hi] using h
set_option maxRecDepth 65536 in
theorem w_c0 : (Jvm.Cond.code x code maxLocals ret).before args0 about1 = true := code_word (m := ⟨1, 1⟩) (meth := k1m1) (c := k1c1) (by decide +kernel) rfl rfl rfl (by decide +kernel)
set_option maxRecDepth 65536 in
theorem w_c1 : (Jvm.Cond.code ({ cls := "java/lang/String", name := "<init>", desc := "([C)V" } : Jvm.MethodName) jdk_42_method_3_code (2 : Nat) (Option.none : Option Jvm.ClassFile.FieldType)).before args0 about1 = true := code_word (m := ⟨7, 1⟩) (meth := k7m1) (c := k7c1) (by decide +kernel) rfl rfl rfl (by decide +kernel)
set_option maxRecDepth 65536 in
theorem w_c2 : (Jvm.Cond.code ({ cls := "java/lang/String", name := "<init>", desc := "([CIILjava/lang/Void;)V" } : Jvm.MethodName) jdk_42_method_149_code (6 : Nat) (Option.none : Option Jvm.ClassFile.FieldType)).before args0 about1 = true := code_word (m := ⟨7, 2⟩) (meth := k7m2) (c := k7c2) (by decide +kernel) rfl rfl rfl (by decide +kernel)
set_option maxRecDepth 65536 in
theorem w_c3 : (Jvm.Cond.code ({ cls := "java/lang/Object", name := "<init>", desc := "()V" } : Jvm.MethodName) object_method_1_code (1 : Nat) (Option.none : Option Jvm.ClassFile.FieldType)).before args0 about1 = true := code_word (m := ⟨0, 0⟩) (meth := k0m0) (c := k0c0) (by decide +kernel) rfl rfl rfl (by decide +kernel)
set_option maxRecDepth 65536 in
theorem w_c4 : (Jvm.Cond.code ({ cls := "java/lang/StringUTF16", name := "compress", desc := "([CII)[B" } : Jvm.MethodName) jdk_52_method_16_code (6 : Nat) (Option.some (Jvm.ClassFile.FieldType.array Jvm.ClassFile.FieldType.byte))).before args0 about1 = true := code_word (m := ⟨8, 2⟩) (meth := k8m2) (c := k8c2) (by decide +kernel) rfl rfl rfl (by decide +kernel)
set_option maxRecDepth 65536 in
theorem w_c5 : (Jvm.Cond.code ({ cls := "java/lang/StringUTF16", name := "compress", desc := "([CI[BII)I" } : Jvm.MethodName) jdk_52_method_21_code (7 : Nat) (Option.some Jvm.ClassFile.FieldType.int)).before args0 about1 = true := code_word (m := ⟨8, 3⟩) (meth := k8m3) (c := k8c3) (by decide +kernel) rfl rfl rfl (by decide +kernel)
set_option maxRecDepth 65536 in
theorem w_c6 : (Jvm.Cond.code ({ cls := "java/lang/StringUTF16", name := "coderFromArrayLen", desc := "([BI)B" } : Jvm.MethodName) jdk_52_method_15_code (2 : Nat) (Option.some Jvm.ClassFile.FieldType.byte)).before args0 about1 = true := code_word (m := ⟨8, 1⟩) (meth := k8m1) (c := k8c1) (by decide +kernel) rfl rfl rfl (by decide +kernel)
set_option maxRecDepth 65536 in
theorem w_c7 : (Jvm.Cond.code ({ cls := "com/example/rederive/rederive/PatternFault", name := "<init>", desc := "(IIILjava/lang/String;)V" } : Jvm.MethodName) prog_58_method_1_code (5 : Nat) (Option.none : Option Jvm.ClassFile.FieldType)).before args0 about1 = true := code_word (m := ⟨10, 0⟩) (meth := k10m0) (c := k10c0) (by decide +kernel) rfl rfl rfl (by decide +kernel)
set_option maxRecDepth 65536 in
theorem w_c8 : (Jvm.Cond.code ({ cls := "java/lang/Record", name := "<init>", desc := "()V" } : Jvm.MethodName) jdk_30_method_1_code (1 : Nat) (Option.none : Option Jvm.ClassFile.FieldType)).before args0 about1 = true := code_word (m := ⟨9, 0⟩) (meth := k9m0) (c := k9c0) (by decide +kernel) rfl rfl rfl (by decide +kernel)
set_option maxRecDepth 65536 in
theorem w_c9 : (Jvm.Cond.code ({ cls := "java/util/Objects", name := "requireNonNull", desc := "(Ljava/lang/Object;Ljava/lang/String;)Ljava/lang/Object;" } : Jvm.MethodName) jdk_31_method_11_code (2 : Nat) (Option.some (Jvm.ClassFile.FieldType.object "java/lang/Object"))).before args0 about1 = true := code_word (m := ⟨11, 1⟩) (meth := k11m1) (c := k11c1) (by decide +kernel) rfl rfl rfl (by decide +kernel)
set_option maxRecDepth 65536 in
theorem w_c10 : (Jvm.Cond.code ({ cls := "com/example/rederive/rederive/PatternFault", name := "inHeader", desc := "(ILjava/lang/String;)Lcom/example/rederive/rederive/PatternFault;" } : Jvm.MethodName) prog_58_method_2_code (2 : Nat) (Option.some (Jvm.ClassFile.FieldType.object "com/example/rederive/rederive/PatternFault"))).before args0 about1 = true := code_word (m := ⟨10, 1⟩) (meth := k10m1) (c := k10c1) (by decide +kernel) rfl rfl rfl (by decide +kernel)
set_option maxRecDepth 65536 in
theorem w_c11 : (Jvm.Cond.code ({ cls := "com/example/rederive/rederive/PatternFault", name := "isInHeader", desc := "()Z" } : Jvm.MethodName) prog_58_method_3_code (1 : Nat) (Option.some Jvm.ClassFile.FieldType.boolean)).before args0 about1 = true := code_word (m := ⟨10, 2⟩) (meth := k10m2) (c := k10c2) (by decide +kernel) rfl rfl rfl (by decide +kernel)
def codes1 : List Jvm.Cond := [Jvm.Cond.code x code maxLocals ret, Jvm.Cond.code ({ cls := "java/lang/String", name := "<init>", desc := "([C)V" } : Jvm.MethodName) jdk_42_method_3_code (2 : Nat) (Option.none : Option Jvm.ClassFile.FieldType), Jvm.Cond.code ({ cls := "java/lang/String", name := "<init>", desc := "([CIILjava/lang/Void;)V" } : Jvm.MethodName) jdk_42_method_149_code (6 : Nat) (Option.none : Option Jvm.ClassFile.FieldType), Jvm.Cond.code ({ cls := "java/lang/Object", name := "<init>", desc := "()V" } : Jvm.MethodName) object_method_1_code (1 : Nat) (Option.none : Option Jvm.ClassFile.FieldType), Jvm.Cond.code ({ cls := "java/lang/StringUTF16", name := "compress", desc := "([CII)[B" } : Jvm.MethodName) jdk_52_method_16_code (6 : Nat) (Option.some (Jvm.ClassFile.FieldType.array Jvm.ClassFile.FieldType.byte)), Jvm.Cond.code ({ cls := "java/lang/StringUTF16", name := "compress", desc := "([CI[BII)I" } : Jvm.MethodName) jdk_52_method_21_code (7 : Nat) (Option.some Jvm.ClassFile.FieldType.int), Jvm.Cond.code ({ cls := "java/lang/StringUTF16", name := "coderFromArrayLen", desc := "([BI)B" } : Jvm.MethodName) jdk_52_method_15_code (2 : Nat) (Option.some Jvm.ClassFile.FieldType.byte), Jvm.Cond.code ({ cls := "com/example/rederive/rederive/PatternFault", name := "<init>", desc := "(IIILjava/lang/String;)V" } : Jvm.MethodName) prog_58_method_1_code (5 : Nat) (Option.none : Option Jvm.ClassFile.FieldType), Jvm.Cond.code ({ cls := "java/lang/Record", name := "<init>", desc := "()V" } : Jvm.MethodName) jdk_30_method_1_code (1 : Nat) (Option.none : Option Jvm.ClassFile.FieldType), Jvm.Cond.code ({ cls := "java/util/Objects", name := "requireNonNull", desc := "(Ljava/lang/Object;Ljava/lang/String;)Ljava/lang/Object;" } : Jvm.MethodName) jdk_31_method_11_code (2 : Nat) (Option.some (Jvm.ClassFile.FieldType.object "java/lang/Object")), Jvm.Cond.code ({ cls := "com/example/rederive/rederive/PatternFault", name := "inHeader", desc := "(ILjava/lang/String;)Lcom/example/rederive/rederive/PatternFault;" } : Jvm.MethodName) prog_58_method_2_code (2 : Nat) (Option.some (Jvm.ClassFile.FieldType.object "com/example/rederive/rederive/PatternFault")), Jvm.Cond.code ({ cls := "com/example/rederive/rederive/PatternFault", name := "isInHeader", desc := "()Z" } : Jvm.MethodName) prog_58_method_3_code (1 : Nat) (Option.some Jvm.ClassFile.FieldType.boolean)]
set_option maxRecDepth 65536 in
theorem codes_eq : words1.filter isCode = codes1 := rfl
theorem w_codes : ∀ c ∈ words1.filter isCode, c.before args0 about1 = true := by
  rw [codes_eq]
  intro c hc
  simp only [codes1, List.mem_cons, List.not_mem_nil, or_false] at hc
  rcases hc with rfl | rfl | rfl | rfl | rfl | rfl | rfl | rfl | rfl | rfl | rfl | rfl
  · exact w_c0
  · exact w_c1
  · exact w_c2
  · exact w_c3
  · exact w_c4
  · exact w_c5
  · exact w_c6
  · exact w_c7
  · exact w_c8
  · exact w_c9
  · exact w_c10
  · exact w_c11
set_option maxRecDepth 65536 in
theorem w_t1 : (words1.take 24).all (fun c => isCode c || c.before args0 about1) = true := by decide +kernel
set_option maxRecDepth 65536 in
theorem w_t2 : ((words1.drop 24).take 24).all (fun c => isCode c || c.before args0 about1) = true := by decide +kernel
set_option maxRecDepth 65536 in
theorem w_t3 : ((words1.drop 24).drop 24).all (fun c => isCode c || c.before args0 about1) = true := by decide +kernel
theorem w_tables : (allAtoms (Jvm.Cond.code x code maxLocals ret :: tables_1)).before args0 about1 = true := by
  rw [allAtoms_all]
  show words1.all (fun c => c.before args0 about1) = true
  refine all_split ?_ w_codes
  rw [← List.take_append_drop 24 words1, List.all_append, w_t1, ← List.take_append_drop 24 (words1.drop 24), List.all_append, w_t2, w_t3]
  rfl
set_option maxRecDepth 65536 in
theorem w_rest : rest_1_c.before args0 about1 = true := by decide +kernel
set_option maxRecDepth 65536 in
theorem w_case : (Jvm.Cond.and given_1 narrow_1).before args0 about1 = true := by decide +kernel
theorem w_applies : (headSpec (Jvm.Cond.code x code maxLocals ret :: tables_1) room_1).applies x e0.platform about1 = true :=
  (Spec.applies_iff w_frames).mpr ⟨w_running, w_runnable, w_alone, w_named, w_hears, w_ripe, w_room, w_tables⟩
theorem atStart : AtStart classFile x code maxLocals ret World_1 tables_1 room_1 Calls_1 rest_1 Pre_1 launch0 p0 e0 about1 theMethod args0 below0 :=
  ⟨lists_1, trivial, launch0.admits_env _ _ _, launch0.least_env, fairChoices_fair.cas, fairChoices_fair.clock, w_frames, w_args, w_heap, w_applies, trivial, w_rest, w_case⟩
end start1
theorem witness_1 : WitnessClaimed_1 := ⟨start1.p0, start1.e0, start1.about1, start1.theMethod, start1.args0, start1.below0, start1.atStart⟩
end Jvm.Pilot.@@N@@
