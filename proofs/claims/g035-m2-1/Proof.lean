import JvmDerived
import JvmDerived.Pilot.@@N@@Statement
import JvmDerived.Pilot.@@N@@Code
set_option linter.unusedVariables false
set_option linter.unusedSimpArgs false
namespace Jvm.RoadKit
open Sem ClassFile Op Lib Jvm.Stand Jvm.Free Jvm.LawKit
section New
variable {p : Program} {l : Launch} {e : Env} {R : Room} {s : State} {m : MethodId} {args : Array Value} {below : List Frame} {meth : Method} {c : Code} {T : State} {locs : List Loc} {cells slots : Nat}
theorem retI (X : Stand p l e R s m args below meth c T locs cells slots) (hx : p.tables.exec = Jvm.exec) {pc : Nat} {Ls : Array Slot} {z : Int32} {rest : List Value} (hret : meth.sig.returnType = some .int) (hd : decode c.code pc = .ok (.ireturn, 1)) {fs : List Frame}
    (hl : ∀ (f : JFrame) (acts : List Action), f.method = m → f.locked = none → f.entered = [] → (doReturn e (T.setTop f) acts (some (.int z))).1 = T.setFrames fs) : Steps p.tables e below (T.setTop (mkF m pc Ls (.int z :: rest))) (T.setFrames fs) := by
  have hm' : T.vm.method? m = some meth := X.method'
  have hn : narrow .int (.int z) = .int z := rfl
  show Steps p.tables e below (T.setTop { method := m, pc := pc, locals := Ls, stack := _ :: rest, locked := none }) _
  jvm_step X.here [X.here.top, hx, hd, hm', hret, hn]
  first | (intro acts; rw [hl _ acts rfl rfl rfl]) | rw [hl _ _ rfl rfl rfl]
  exact Steps.refl _
theorem retR (X : Stand p l e R s m args below meth c T locs cells slots) (hx : p.tables.exec = Jvm.exec) {pc : Nat} {Ls : Array Slot} {w : Value} {t : FieldType} {rest : List Value} (hret : meth.sig.returnType = some t) (hn : narrow t w = w) (ht : t.isReference = true) (hw : w.isRef = true) (hd : decode c.code pc = .ok (.areturn, 1)) {fs : List Frame}
    (hl : ∀ (f : JFrame) (acts : List Action), f.method = m → f.locked = none → f.entered = [] → (doReturn e (T.setTop f) acts (some w)).1 = T.setFrames fs) : Steps p.tables e below (T.setTop (mkF m pc Ls (w :: rest))) (T.setFrames fs) := by
  have hm' : T.vm.method? m = some meth := X.method'
  show Steps p.tables e below (T.setTop { method := m, pc := pc, locals := Ls, stack := _ :: rest, locked := none }) _
  jvm_step X.here [X.here.top, hx, hd, hm', hret, hn, hw]
  try (refine ⟨ht, ?_⟩)
  first | (intro acts; rw [hl _ acts rfl rfl rfl]) | rw [hl _ _ rfl rfl rfl]
  exact Steps.refl _
end New
end Jvm.RoadKit
/- laws to paste: Road.backV (cut by pick.py; bodies as the Statement names them) -/
namespace Jvm.Pilot.@@N@@
namespace StrChars
open Jvm Sem ClassFile Op Lib Jvm.Stand Jvm.Free.XT Jvm.Free.ALB Jvm.Free.JM Jvm.Free
open Jvm.Lib.Cold (StaticIs)
/-- a char array whose places are chars -/
def Ch (a : Addr) (A : Cell) (U : State) : Prop := Arr .char a A U ∧ Typed .char A
theorem Ch.mv {a : Addr} {A : Cell} {U U' : State} (h : Ch a A U) (hal : U.vm.Alike U'.vm) (hh : U'.heap = U.heap) : Ch a A U' := ⟨h.1.mv hal hh, h.2⟩
theorem Ch.keep {a : Addr} {A : Cell} {U U' : State} (h : Ch a A U) (hal : U.vm.Alike U'.vm) (hk : U'.heap[a]? = some A) : Ch a A U' := ⟨h.1.keep hal hk, h.2⟩
/-- what place i of a char[]'s cell holds -/
def cv (A : Cell) (i : Nat) : Int32 := match A.slots[i]? with | some (.int x) => x | _ => 0
theorem Ch.get {a : Addr} {A : Cell} {U : State} (h : Ch a A U) {i : Nat} (hi : i < A.slots.size) : A.slots[i]? = some (.int (cv A i)) := by
  have e := Array.getElem?_eq_getElem hi
  have f := h.2 i _ e
  unfold cv; rw [e]
  generalize A.slots[i] = v at f
  cases v <;> simp [fits] at f ⊢
/-- the byte that i2b leaves of a char -/
def lo8 (x : Int32) : Int32 := x.toInt8.toInt32
theorem fits_lo8 (y : Int32) : fits .byte (.int (lo8 y)) = true := by
  have h1 := y.toInt8.le_toInt
  have h2 := y.toInt8.toInt_lt
  simp only [lo8, fits, Bool.and_eq_true, decide_eq_true_eq, Int32.le_iff_toInt_le, Int8.toInt_toInt32, show (-128 : Int32).toInt = -128 from by decide, show (127 : Int32).toInt = 127 from by decide]
  omega
/-- A' is A but that each place j of lo .. hi - 1 holds f j -/
def Laid (A A' : Cell) (lo hi : Nat) (f : Nat → Value) : Prop := A'.cls = A.cls ∧ A'.vm = A.vm ∧ A'.slots.size = A.slots.size ∧ ∀ i, A'.slots[i]? = if lo ≤ i ∧ i < hi then some (f i) else A.slots[i]?
theorem Laid.zero (A : Cell) (lo : Nat) (f : Nat → Value) : Laid A A lo (lo + 0) f := ⟨rfl, rfl, rfl, fun i => by rw [if_neg (by omega)]⟩
theorem Laid.step {A Ak : Cell} {lo k : Nat} {f : Nat → Value} {v : Value} (h : Laid A Ak lo k f) (hlo : lo ≤ k) (hk : k < Ak.slots.size) (hv : v = f k) : Laid A (Ak.setSlot k v) lo (k + 1) f := by
  refine ⟨h.1, h.2.1, by simpa [Cell.setSlot] using h.2.2.1, fun i => ?_⟩
  by_cases e : k = i
  · subst e; rw [Cell.slots_setSlot_self v hk, if_pos (by omega), hv]
  · rw [Cell.slots_setSlot_ne v e, h.2.2.2 i]
    by_cases q : lo ≤ i ∧ i < k
    · rw [if_pos q, if_pos (by omega)]
    · rw [if_neg q, if_neg (by omega)]
def U16 : String := "java/lang/StringUTF16"
namespace Cmp5
def yN : MethodName := ⟨"java/lang/StringUTF16", "compress", "([CI[BII)I"⟩
abbrev yB : ByteArray := jdk_52_method_21_code
theorem d0 : decode yB 0 = .ok (.iconst 0, 1) := by decide +kernel
theorem d1 : decode yB 1 = .ok (.istore 5, 2) := by decide +kernel
theorem d3 : decode yB 3 = .ok (.iload 5, 2) := by decide +kernel
theorem d5 : decode yB 5 = .ok (.iload 4, 2) := by decide +kernel
theorem d7 : decode yB 7 = .ok (.if_icmp (.ge) 37, 3) := by decide +kernel
theorem d10 : decode yB 10 = .ok (.aload_n 0, 1) := by decide +kernel
theorem d11 : decode yB 11 = .ok (.iload_n 1, 1) := by decide +kernel
theorem d12 : decode yB 12 = .ok (.caload, 1) := by decide +kernel
theorem d13 : decode yB 13 = .ok (.istore 6, 2) := by decide +kernel
theorem d15 : decode yB 15 = .ok (.iload 6, 2) := by decide +kernel
theorem d17 : decode yB 17 = .ok (.sipush 255, 3) := by decide +kernel
theorem d20 : decode yB 20 = .ok (.if_icmp (.le) 6, 3) := by decide +kernel
theorem d26 : decode yB 26 = .ok (.aload_n 2, 1) := by decide +kernel
theorem d27 : decode yB 27 = .ok (.iload_n 3, 1) := by decide +kernel
theorem d28 : decode yB 28 = .ok (.iload 6, 2) := by decide +kernel
theorem d30 : decode yB 30 = .ok (.i2b, 1) := by decide +kernel
theorem d31 : decode yB 31 = .ok (.bastore, 1) := by decide +kernel
theorem d32 : decode yB 32 = .ok (.iinc 1 1, 3) := by decide +kernel
theorem d35 : decode yB 35 = .ok (.iinc 3 1, 3) := by decide +kernel
theorem d38 : decode yB 38 = .ok (.iinc 5 1, 3) := by decide +kernel
theorem d41 : decode yB 41 = .ok (.goto (-38), 3) := by decide +kernel
theorem d44 : decode yB 44 = .ok (.iload 4, 2) := by decide +kernel
theorem d46 : decode yB 46 = .ok (.ireturn, 1) := by decide +kernel
def site : List Cond := []
def tab : Cond := tabOf yN yB 7 (some .int) site
def P (b : Addr) (A : Cell) (d : Addr) (B : Cell) (o q len : Nat) (args : Array Value) (s : State) : Prop := args = #[.ref b, .int (Int32.ofNat o), .ref d, .int (Int32.ofNat q), .int (Int32.ofNat len)] ∧ Ch b A s ∧ Arr .byte d B s ∧ b ≠ d ∧ o + len ≤ A.slots.size ∧ q + len ≤ B.slots.size ∧ ∀ i, i < len → ¬ 255 < cv A (o + i)
def E (b : Addr) (A : Cell) (d : Addr) (B : Cell) (o q len : Nat) (r : Option Value) (s u : State) : Prop := r = some (.int (Int32.ofNat len)) ∧ ∃ B', Put d B' s u ∧ Laid B B' q (q + len) (fun j => Value.int (lo8 (cv A (o + (j - q)))))
/-- no char of the range above 255: len; the places written hold each char's low byte -/
theorem law (l : Launch) (b : Addr) (A : Cell) (d : Addr) (B : Cell) (o q len : Nat) : Law l yN 5 5 0 0 yB 7 (some .int) site (P b A d B o q len) (E b A d B o q len) (copyLocs d q len) 0 0 := by
  refine Law.of_walk (plainFor_of_name (by decide +kernel)) (by decide +kernel) (by decide +kernel) (by decide) (fun _ _ h => by rw [h.1]; rfl) (fun _ U U' hal hh h => ⟨h.1, h.2.1.mv hal hh, h.2.2.1.mv hal hh, h.2.2.2⟩) (fun r U U' V V' h1 hal h2 h => ⟨h.1, h.2.elim fun B' q => ⟨B', q.1.mv h1 h2, q.2⟩⟩) ?_
  intro p e s m args below meth c s₁ X0 hexec hbytes hml hret hlk hnm hown hh0 W hP
  obtain ⟨rfl, hA, hB, hne, l1, l2, hp⟩ := hP
  have c1 : Steps p.tables e below (s₁.setTop (entryFrame m #[.ref b, .int (Int32.ofNat o), .ref d, .int (Int32.ofNat q), .int (Int32.ofNat len)] 7)) (s₁.setTop (mkF m 0 #[.val (.ref b), .val (.int (Int32.ofNat o)), .val (.ref d), .val (.int (Int32.ofNat q)), .val (.int (Int32.ofNat len)), .unset, .unset] [])) := entry rfl
  have hA0 := hA.1.mv X0.warmed.alike hh0
  have hB0 := hB.mv X0.warmed.alike hh0
  have a31 := hA.1.2.2.2
  have c2 : Steps p.tables e below (s₁.setTop (entryFrame m #[.ref b, .int (Int32.ofNat o), .ref d, .int (Int32.ofNat q), .int (Int32.ofNat len)] 7)) (s₁.setTop (mkF m 3 #[.val (.ref b), .val (.int (Int32.ofNat o)), .val (.ref d), .val (.int (Int32.ofNat q)), .val (.int (Int32.ofNat len)), .val (.int 0), .unset] [])) := c1.trans (by
    refine iconstV X0.here hexec rfl 0 (hb hbytes d0) (by decide) ?_
    refine XS.istore X0.here hexec rfl (hb hbytes d1) rfl rfl ?_
    exact Steps.refl _)
  have loop : ∀ (r i : Nat), i + r = len → ∀ (z : Slot), (z = .unset ∨ ∃ w, z = .val w ∧ w.category = 1) → ∀ (Tl : State) (Bk : Cell), Stand p l e { frames := 0, locals := 0, cells := 0, slots := 0 } s m #[.ref b, .int (Int32.ofNat o), .ref d, .int (Int32.ofNat q), .int (Int32.ofNat len)] below meth c Tl ([] ++ copyLocs d q i) 0 0 → Put d Bk s₁ Tl → Laid B Bk q (q + i) (fun j => Value.int (lo8 (cv A (o + (j - q))))) →
      Steps p.tables e below (s₁.setTop (entryFrame m #[.ref b, .int (Int32.ofNat o), .ref d, .int (Int32.ofNat q), .int (Int32.ofNat len)] 7)) (Tl.setTop (mkF m 3 #[.val (.ref b), .val (.int (Int32.ofNat (o + i))), .val (.ref d), .val (.int (Int32.ofNat (q + i))), .val (.int (Int32.ofNat len)), .val (.int (Int32.ofNat i)), z] [])) → ∃ (T' : State) (B' : Cell) (z' : Slot), Stand p l e { frames := 0, locals := 0, cells := 0, slots := 0 } s m #[.ref b, .int (Int32.ofNat o), .ref d, .int (Int32.ofNat q), .int (Int32.ofNat len)] below meth c T' ([] ++ copyLocs d q len) 0 0 ∧ Put d B' s₁ T' ∧ Laid B B' q (q + len) (fun j => Value.int (lo8 (cv A (o + (j - q))))) ∧
      Steps p.tables e below (s₁.setTop (entryFrame m #[.ref b, .int (Int32.ofNat o), .ref d, .int (Int32.ofNat q), .int (Int32.ofNat len)] 7)) (T'.setTop (mkF m 3 #[.val (.ref b), .val (.int (Int32.ofNat (o + len))), .val (.ref d), .val (.int (Int32.ofNat (q + len))), .val (.int (Int32.ofNat len)), .val (.int (Int32.ofNat len)), z'] [])) := by
    intro r
    induction r with
    | zero =>
      intro i hi z hz Tl Bk Xl pl fl cl
      have hil : i = len := by omega
      rw [hil] at Xl fl cl
      exact ⟨Tl, Bk, z, Xl, pl, fl, cl⟩
    | succ r ih =>
      intro i hi z hz Tl Bk Xl pl fl cl
      have all := X0.warmed.alike.symm.trans Xl.warmed.alike
      have hAl := hA0.keep all (pl.other hne hA0.1)
      have hBk := hB0.like all pl.1 fl.1 fl.2.1 fl.2.2.1
      have hlt : q + i < Bk.slots.size := by rw [fl.2.2.1]; omega
      have c3 : Steps p.tables e below (s₁.setTop (entryFrame m #[.ref b, .int (Int32.ofNat o), .ref d, .int (Int32.ofNat q), .int (Int32.ofNat len)] 7)) (Tl.setTop (mkF m 12 #[.val (.ref b), .val (.int (Int32.ofNat (o + i))), .val (.ref d), .val (.int (Int32.ofNat (q + i))), .val (.int (Int32.ofNat len)), .val (.int (Int32.ofNat i)), z] [.int (Int32.ofNat (o + i)), .ref b])) := cl.trans (by
        refine XS.iload Xl.here hexec rfl (hb hbytes d3) rfl ?_
        refine XS.iload Xl.here hexec rfl (hb hbytes d5) rfl ?_
        refine XS.icmpNo Xl.here hexec rfl (hb hbytes d7) rfl (ii_ge_f (lt32 (by omega) (by omega))) ?_
        refine XS.aloadN Xl.here hexec rfl (hb hbytes d10) rfl rfl ?_
        refine XS.iloadN Xl.here hexec rfl (hb hbytes d11) rfl ?_
        exact Steps.refl _)
      have c4 : Steps p.tables e below (s₁.setTop (entryFrame m #[.ref b, .int (Int32.ofNat o), .ref d, .int (Int32.ofNat q), .int (Int32.ofNat len)] 7)) (Tl.setTop (mkF m 13 #[.val (.ref b), .val (.int (Int32.ofNat (o + i))), .val (.ref d), .val (.int (Int32.ofNat (q + i))), .val (.int (Int32.ofNat len)), .val (.int (Int32.ofNat i)), z] [.int (cv A (o + i))])) := c3.trans (by
        refine Xl.aget hexec hAl rfl (hA.get (i := o + i) (by omega)) rfl rfl (hb hbytes d12) ?_
        exact Steps.refl _)
      have c5 : Steps p.tables e below (s₁.setTop (entryFrame m #[.ref b, .int (Int32.ofNat o), .ref d, .int (Int32.ofNat q), .int (Int32.ofNat len)] 7)) (Tl.setTop (mkF m 15 #[.val (.ref b), .val (.int (Int32.ofNat (o + i))), .val (.ref d), .val (.int (Int32.ofNat (q + i))), .val (.int (Int32.ofNat len)), .val (.int (Int32.ofNat i)), .val (.int (cv A (o + i)))] [])) := c4.trans (by
        refine XS.istoreS Xl.here hexec rfl (hb hbytes d13) rfl rfl hz ?_
        exact Steps.refl _)
      have c6 : Steps p.tables e below (s₁.setTop (entryFrame m #[.ref b, .int (Int32.ofNat o), .ref d, .int (Int32.ofNat q), .int (Int32.ofNat len)] 7)) (Tl.setTop (mkF m 31 #[.val (.ref b), .val (.int (Int32.ofNat (o + i))), .val (.ref d), .val (.int (Int32.ofNat (q + i))), .val (.int (Int32.ofNat len)), .val (.int (Int32.ofNat i)), .val (.int (cv A (o + i)))] [.int (lo8 (cv A (o + i))), .int (Int32.ofNat (q + i)), .ref d])) := c5.trans (by
        refine XS.iload Xl.here hexec rfl (hb hbytes d15) rfl ?_
        refine sipushV Xl.here hexec rfl 255 (hb hbytes d17) (by decide) ?_
        refine XS.icmpYes Xl.here hexec rfl (pc0 := 20) rfl (hb hbytes d20) rfl (ii_le_t (hp i (by omega))) (by decide) rfl ?_
        refine XS.aloadN Xl.here hexec rfl (hb hbytes d26) rfl rfl ?_
        refine XS.iloadN Xl.here hexec rfl (hb hbytes d27) rfl ?_
        refine XS.iload Xl.here hexec rfl (hb hbytes d28) rfl ?_
        refine i2b Xl.here hexec rfl (hb hbytes d30) rfl ?_
        exact Steps.refl _)
      obtain ⟨T7, X7, p7, st7⟩ := Xl.aput hexec hBk rfl hlt rfl (fits_lo8 (cv A (o + i))) (g := (mkF m 31 #[.val (.ref b), .val (.int (Int32.ofNat (o + i))), .val (.ref d), .val (.int (Int32.ofNat (q + i))), .val (.int (Int32.ofNat len)), .val (.int (Int32.ofNat i)), .val (.int (cv A (o + i)))] [.int (lo8 (cv A (o + i))), .int (Int32.ofNat (q + i)), .ref d])) rfl (rest := []) rfl (hb hbytes d31)
      have c8 : Steps p.tables e below (s₁.setTop (entryFrame m #[.ref b, .int (Int32.ofNat o), .ref d, .int (Int32.ofNat q), .int (Int32.ofNat len)] 7)) (T7.setTop (mkF m 32 #[.val (.ref b), .val (.int (Int32.ofNat (o + i))), .val (.ref d), .val (.int (Int32.ofNat (q + i))), .val (.int (Int32.ofNat len)), .val (.int (Int32.ofNat i)), .val (.int (cv A (o + i)))] [])) := c6.trans (st7 _ (Steps.refl _))
      have c9 : Steps p.tables e below (s₁.setTop (entryFrame m #[.ref b, .int (Int32.ofNat o), .ref d, .int (Int32.ofNat q), .int (Int32.ofNat len)] 7)) (T7.setTop (mkF m 3 #[.val (.ref b), .val (.int (Int32.ofNat (o + i) + 1)), .val (.ref d), .val (.int (Int32.ofNat (q + i) + 1)), .val (.int (Int32.ofNat len)), .val (.int (Int32.ofNat i + 1)), .val (.int (cv A (o + i)))] [])) := c8.trans (by
        refine iincV X7.here hexec rfl 1 (hb hbytes d32) (by decide) rfl rfl ?_
        refine iincV X7.here hexec rfl 1 (hb hbytes d35) (by decide) rfl rfl ?_
        refine iincV X7.here hexec rfl 1 (hb hbytes d38) (by decide) rfl rfl ?_
        refine XS.goto X7.here hexec rfl (pc0 := 41) rfl (hb hbytes d41) (by decide) rfl ?_
        exact Steps.refl _)
      have c10 : Steps p.tables e below (s₁.setTop (entryFrame m #[.ref b, .int (Int32.ofNat o), .ref d, .int (Int32.ofNat q), .int (Int32.ofNat len)] 7)) (T7.setTop (mkF m 3 #[.val (.ref b), .val (.int (Int32.ofNat (o + (i + 1)))), .val (.ref d), .val (.int (Int32.ofNat (q + (i + 1)))), .val (.int (Int32.ofNat len)), .val (.int (Int32.ofNat (i + 1))), .val (.int (cv A (o + i)))] [])) := by
        have := c9
        rw [succ32, succ32, succ32] at this
        exact this
      exact ih (i + 1) (by omega) _ (Or.inr ⟨_, rfl, rfl⟩) T7 _ (by rw [copyLocs_step, ← List.append_assoc]; exact X7) (pl.trans p7) (fl.step (by omega) hlt (by simp)) c10
  obtain ⟨T9, B9, z9, X9, p9, f9, g9⟩ := loop len 0 (by omega) .unset (Or.inl rfl) s₁ B (by simpa [copyLocs] using X0) ⟨hB0.1, fun _ _ => rfl, rfl⟩ (Laid.zero _ _ _) c2
  have c11 : Steps p.tables e below (s₁.setTop (entryFrame m #[.ref b, .int (Int32.ofNat o), .ref d, .int (Int32.ofNat q), .int (Int32.ofNat len)] 7)) (T9.setTop (mkF m 46 #[.val (.ref b), .val (.int (Int32.ofNat (o + len))), .val (.ref d), .val (.int (Int32.ofNat (q + len))), .val (.int (Int32.ofNat len)), .val (.int (Int32.ofNat len)), z9] [.int (Int32.ofNat len)])) := g9.trans (by
    refine XS.iload X9.here hexec rfl (hb hbytes d3) rfl ?_
    refine XS.iload X9.here hexec rfl (hb hbytes d5) rfl ?_
    refine XS.icmpYes X9.here hexec rfl (pc0 := 7) rfl (hb hbytes d7) rfl (ii_ge_t (nlt32 (by omega) (Nat.le_refl _))) (by decide) rfl ?_
    refine XS.iload X9.here hexec rfl (hb hbytes d44) rfl ?_
    exact Steps.refl _)
  exact ⟨T9, some (.int (Int32.ofNat len)), _, _, _, X9, by simp, rfl, rfl, (fun h => by cases h), ⟨rfl, B9, p9.from hh0, f9⟩, fun fs hl => c11.trans (X9.ireturnOut hexec hret rfl (Or.inl rfl) (hb hbytes d46) hl)⟩
end Cmp5
namespace Cmp3
def yN : MethodName := ⟨"java/lang/StringUTF16", "compress", "([CII)[B"⟩
abbrev yB : ByteArray := jdk_52_method_16_code
theorem d0 : decode yB 0 = .ok (.iload_n 2, 1) := by decide +kernel
theorem d1 : decode yB 1 = .ok (.newarray .byte, 2) := by decide +kernel
theorem d3 : decode yB 3 = .ok (.astore_n 3, 1) := by decide +kernel
theorem d4 : decode yB 4 = .ok (.aload_n 0, 1) := by decide +kernel
theorem d5 : decode yB 5 = .ok (.iload_n 1, 1) := by decide +kernel
theorem d6 : decode yB 6 = .ok (.aload_n 3, 1) := by decide +kernel
theorem d7 : decode yB 7 = .ok (.iconst 0, 1) := by decide +kernel
theorem d8 : decode yB 8 = .ok (.iload_n 2, 1) := by decide +kernel
theorem d9 : decode yB 9 = .ok (.invokestatic 115, 3) := by decide +kernel
theorem d12 : decode yB 12 = .ok (.istore 4, 2) := by decide +kernel
theorem d14 : decode yB 14 = .ok (.iload 4, 2) := by decide +kernel
theorem d16 : decode yB 16 = .ok (.iload_n 2, 1) := by decide +kernel
theorem d17 : decode yB 17 = .ok (.if_icmp (.eq) 40, 3) := by decide +kernel
theorem d57 : decode yB 57 = .ok (.aload_n 3, 1) := by decide +kernel
theorem d58 : decode yB 58 = .ok (.areturn, 1) := by decide +kernel
def site : List Cond := [.arrayClass .byte, Cmp5.tab] ++ staticW U16 115 Cmp5.yN
def tab : Cond := tabOf yN yB 6 (some (.array .byte)) site
def P (b : Addr) (A : Cell) (o len : Nat) (args : Array Value) (s : State) : Prop := args = #[.ref b, .int (Int32.ofNat o), .int (Int32.ofNat len)] ∧ Ch b A s ∧ o + len ≤ A.slots.size ∧ len ≤ 536870912 ∧ ∀ i, i < len → ¬ 255 < cv A (o + i)
def E (b : Addr) (A : Cell) (o len : Nat) (r : Option Value) (s u : State) : Prop := NewArr .byte "[B" len (fun j => .int (lo8 (cv A (o + j)))) r s u ∧ u.heap.size = s.heap.size + 1
/-- no char of the range above 255: a new byte[] of their low bytes -/
theorem law (l : Launch) (b : Addr) (A : Cell) (o len : Nat) : Law l yN 3 3 1 18 yB 6 (some (.array .byte)) site (P b A o len) (E b A o len) [] 1 len := by
  refine Law.of_walk (plainFor_of_name (by decide +kernel)) (by decide +kernel) (by decide +kernel) (by decide) (fun _ _ h => by rw [h.1]; rfl) (fun _ U U' hal hh h => ⟨h.1, h.2.1.mv hal hh, h.2.2⟩) (fun r U U' V V' h1 hal h2 h => ⟨NewArr.mv r U U' V V' h1 hal h2 h.1, by rw [h1, h2]; exact h.2⟩) ?_
  intro p e s m args below meth c s₁ X0 hexec hbytes hml hret hlk hnm hown hh0 W hP
  obtain ⟨rfl, hA, l1, l2, hp⟩ := hP
  have a31 := hA.1.2.2.2
  have c1 : Steps p.tables e below (s₁.setTop (entryFrame m #[.ref b, .int (Int32.ofNat o), .int (Int32.ofNat len)] 6)) (s₁.setTop (mkF m 0 #[.val (.ref b), .val (.int (Int32.ofNat o)), .val (.int (Int32.ofNat len)), .unset, .unset, .unset] [])) := entry rfl
  have c2 : Steps p.tables e below (s₁.setTop (entryFrame m #[.ref b, .int (Int32.ofNat o), .int (Int32.ofNat len)] 6)) (s₁.setTop (mkF m 1 #[.val (.ref b), .val (.int (Int32.ofNat o)), .val (.int (Int32.ofNat len)), .unset, .unset, .unset] [.int (Int32.ofNat len)])) := c1.trans (by
    refine XS.iloadN X0.here hexec rfl (hb hbytes d0) rfl ?_
    exact Steps.refl _)
  obtain ⟨T3, B3, X3, ba3, bs3, bv3, bh3, bf3, st3⟩ := X0.anew hexec (atype := .byte) (wk W (.arrayClass .byte)) rfl (by show len * 1 ≤ _; omega) (by omega) (g := (mkF m 1 #[.val (.ref b), .val (.int (Int32.ofNat o)), .val (.int (Int32.ofNat len)), .unset, .unset, .unset] [.int (Int32.ofNat len)])) rfl (hb hbytes d1) (rest := []) rfl (Nat.le_refl _) (by show 0 + len ≤ len; omega)
  rw [hh0] at ba3 st3
  have kp3 : XT.Kept s T3 := (XT.Kept.of_eq hh0).push bh3
  have hA3 := hA.keep X3.warmed.alike (kp3 _ _ hA.1.1)
  have hne : b ≠ s.heap.size := hA.1.ne
  have c4 : Steps p.tables e below (s₁.setTop (entryFrame m #[.ref b, .int (Int32.ofNat o), .int (Int32.ofNat len)] 6)) (T3.setTop (mkF m 3 #[.val (.ref b), .val (.int (Int32.ofNat o)), .val (.int (Int32.ofNat len)), .unset, .unset, .unset] [.ref s.heap.size])) := c2.trans (st3 _ (Steps.refl _))
  have c5 : Steps p.tables e below (s₁.setTop (entryFrame m #[.ref b, .int (Int32.ofNat o), .int (Int32.ofNat len)] 6)) (T3.setTop (mkF m 9 #[.val (.ref b), .val (.int (Int32.ofNat o)), .val (.int (Int32.ofNat len)), .val (.ref s.heap.size), .unset, .unset] [.int (Int32.ofNat len), .int 0, .ref s.heap.size, .int (Int32.ofNat o), .ref b])) := c4.trans (by
    refine XS.astoreN X3.here hexec rfl (hb hbytes d3) rfl rfl rfl ?_
    refine XS.aloadN X3.here hexec rfl (hb hbytes d4) rfl rfl ?_
    refine XS.iloadN X3.here hexec rfl (hb hbytes d5) rfl ?_
    refine XS.aloadN X3.here hexec rfl (hb hbytes d6) rfl rfl ?_
    refine iconstV X3.here hexec rfl 0 (hb hbytes d7) (by decide) ?_
    refine XS.iloadN X3.here hexec rfl (hb hbytes d8) rfl ?_
    exact Steps.refl _)
  obtain ⟨v6, T6, X6, E6, g6⟩ := X3.callS hexec (Cmp5.law l b A s.heap.size B3 o 0 len) hown (wks W (staticW U16 115 Cmp5.yN)) (wk W Cmp5.tab) (W := 0) (Nat.le_of_ble_eq_true rfl) (Nat.le_of_ble_eq_true rfl) (Nat.le_refl _) (by show 0 + len + 0 ≤ len; omega) (g := (mkF m 9 #[.val (.ref b), .val (.int (Int32.ofNat o)), .val (.int (Int32.ofNat len)), .val (.ref s.heap.size), .unset, .unset] [.int (Int32.ofNat len), .int (Int32.ofNat 0), .ref s.heap.size, .int (Int32.ofNat o), .ref b])) rfl (by rw [hml]; rfl) c5 (argsL := [.ref b, .int (Int32.ofNat o), .ref s.heap.size, .int (Int32.ofNat 0), .int (Int32.ofNat len)]) (rest := []) rfl rfl (by show 2 * 0 + 0 ≤ _; decide) (hb hbytes d9) (⟨rfl, hA3, ba3, hne, l1, by rw [bs3]; simp, hp⟩)
  obtain ⟨rfl, B6, p6, f6⟩ := E6
  have c7 : Steps p.tables e below (s₁.setTop (entryFrame m #[.ref b, .int (Int32.ofNat o), .int (Int32.ofNat len)] 6)) (T6.setTop (mkF m 12 #[.val (.ref b), .val (.int (Int32.ofNat o)), .val (.int (Int32.ofNat len)), .val (.ref s.heap.size), .unset, .unset] [.int (Int32.ofNat len)])) := g6
  have c8 : Steps p.tables e below (s₁.setTop (entryFrame m #[.ref b, .int (Int32.ofNat o), .int (Int32.ofNat len)] 6)) (T6.setTop (mkF m 58 #[.val (.ref b), .val (.int (Int32.ofNat o)), .val (.int (Int32.ofNat len)), .val (.ref s.heap.size), .val (.int (Int32.ofNat len)), .unset] [.ref s.heap.size])) := c7.trans (by
    refine XS.istore X6.here hexec rfl (hb hbytes d12) rfl rfl ?_
    refine XS.iload X6.here hexec rfl (hb hbytes d14) rfl ?_
    refine XS.iloadN X6.here hexec rfl (hb hbytes d16) rfl ?_
    refine XS.icmpYes X6.here hexec rfl (pc0 := 17) rfl (hb hbytes d17) rfl (ii_eq_t rfl) (by decide) rfl ?_
    refine XS.aloadN X6.here hexec rfl (hb hbytes d57) rfl rfl ?_
    exact Steps.refl _)
  have X8 := X6.wide (L' := []) (cells' := 1) (slots' := len) (fun x hx hlt => by
    simp only [List.nil_append, copyLocs, List.mem_map, List.mem_range] at hx
    obtain ⟨i, -, rfl⟩ := hx
    exact absurd hlt (Nat.lt_irrefl _)) (Nat.le_refl _) (by omega)
  exact ⟨T6, some (.ref s.heap.size), _, _, _, X8, rfl, rfl, rfl, (fun h => by cases h), ⟨⟨rfl, B6, ba3.like (X3.warmed.alike.symm.trans X6.warmed.alike) p6.1 f6.1 f6.2.1 f6.2.2.1, f6.2.1.trans bv3, by rw [X6.warmed.alike.findClass, f6.1]; exact bf3, by rw [f6.2.2.1, bs3]; simp, fun j hj => by rw [f6.2.2.2 j, if_pos (by omega)]; rfl, kp3.put p6 (Nat.le_refl _)⟩, by rw [p6.2.2, bh3, hh0]; simp⟩, fun fs hl => c8.trans (X8.areturnOut hexec rfl hret rfl (hb hbytes d58) hl)⟩
end Cmp3
namespace CodL
def yN : MethodName := ⟨"java/lang/StringUTF16", "coderFromArrayLen", "([BI)B"⟩
abbrev yB : ByteArray := jdk_52_method_15_code
theorem d0 : decode yB 0 = .ok (.iload_n 1, 1) := by decide +kernel
theorem d1 : decode yB 1 = .ok (.aload_n 0, 1) := by decide +kernel
theorem d2 : decode yB 2 = .ok (.arraylength, 1) := by decide +kernel
theorem d3 : decode yB 3 = .ok (.isub, 1) := by decide +kernel
theorem d4 : decode yB 4 = .ok (.bipush 31, 2) := by decide +kernel
theorem d6 : decode yB 6 = .ok (.iushr, 1) := by decide +kernel
theorem d7 : decode yB 7 = .ok (.i2b, 1) := by decide +kernel
theorem d8 : decode yB 8 = .ok (.ireturn, 1) := by decide +kernel
def site : List Cond := []
def tab : Cond := tabOf yN yB 2 (some .byte) site
def P (d : Addr) (B : Cell) (args : Array Value) (s : State) : Prop := args = #[.ref d, .int (Int32.ofNat B.slots.size)] ∧ Arr .byte d B s
def E (r : Option Value) (s u : State) : Prop := XT.PureE (some (.int 0)) r s u
/-- an array as long as the number of chars: LATIN1 -/
theorem law (l : Launch) (d : Addr) (B : Cell) : Law l yN 2 2 0 0 yB 2 (some .byte) site (P d B) E [] 0 0 := by
  refine Law.of_walk (plainFor_of_name (by decide +kernel)) (by decide +kernel) (by decide +kernel) (by decide) (fun _ _ h => by rw [h.1]; rfl) (fun _ U U' hal hh h => ⟨h.1, h.2.mv hal hh⟩) (fun r U U' V V' h1 hal h2 h => XT.PureE.mv r U U' V V' h1 hal h2 h) ?_
  intro p e s m args below meth c s₁ X0 hexec hbytes hml hret hlk hnm hown hh0 W hP
  obtain ⟨rfl, hB⟩ := hP
  have hB0 := hB.mv X0.warmed.alike hh0
  have c1 : Steps p.tables e below (s₁.setTop (entryFrame m #[.ref d, .int (Int32.ofNat B.slots.size)] 2)) (s₁.setTop (mkF m 0 #[.val (.ref d), .val (.int (Int32.ofNat B.slots.size))] [])) := entry rfl
  have c2 : Steps p.tables e below (s₁.setTop (entryFrame m #[.ref d, .int (Int32.ofNat B.slots.size)] 2)) (s₁.setTop (mkF m 2 #[.val (.ref d), .val (.int (Int32.ofNat B.slots.size))] [.ref d, .int (Int32.ofNat B.slots.size)])) := c1.trans (by
    refine XS.iloadN X0.here hexec rfl (hb hbytes d0) rfl ?_
    refine XS.aloadN X0.here hexec rfl (hb hbytes d1) rfl rfl ?_
    exact Steps.refl _)
  have c3 : Steps p.tables e below (s₁.setTop (entryFrame m #[.ref d, .int (Int32.ofNat B.slots.size)] 2)) (s₁.setTop (mkF m 8 #[.val (.ref d), .val (.int (Int32.ofNat B.slots.size))] [.int (lo8 (ushr (Int32.ofNat B.slots.size - Int32.ofNat B.slots.size) 31))])) := c2.trans (by
    refine X0.alen hexec hB0 rfl rfl (hb hbytes d2) ?_
    refine XS.isub X0.here hexec rfl (hb hbytes d3) rfl ?_
    refine bipushV X0.here hexec rfl 31 (hb hbytes d4) (by decide) ?_
    refine iushr X0.here hexec rfl (hb hbytes d6) rfl ?_
    refine i2b X0.here hexec rfl (hb hbytes d7) rfl ?_
    exact Steps.refl _)
  have e0 : lo8 (ushr (Int32.ofNat B.slots.size - Int32.ofNat B.slots.size) 31) = 0 := by rw [Int32.sub_self]; decide
  rw [e0] at c3
  exact ⟨s₁, some (.int 0), _, _, _, X0, rfl, rfl, rfl, (fun h => by cases h), ⟨rfl, hh0⟩, fun fs hl => c3.trans (X0.ireturnOut hexec hret rfl (Or.inr (Or.inr (Or.inl rfl))) (hb hbytes d8) hl)⟩
end CodL
/-- the String at a is Latin-1 over a new byte[] (the heap's one new cell): the low bytes of the len chars of A from o on; every cell but a is kept -/
def Got (a : Addr) (D : Cell) (fV fC : Field) (A : Cell) (o len : Nat) (r : Option Value) (s u : State) : Prop := r = none ∧ ∃ D' V : Cell, Blank "java/lang/String" a D' u ∧ Same D D' [fV.slot, fC.slot] ∧ D'.slots[fV.slot]? = some (.ref s.heap.size) ∧ D'.slots[fC.slot]? = some (.int 0) ∧ Arr .byte s.heap.size V u ∧ V.vm = .none ∧ u.vm.findClass "[B" = some V.cls ∧ V.slots.size = len ∧ (∀ j, j < len → V.slots[j]? = some (.int (lo8 (cv A (o + j))))) ∧ (∀ (y : Addr) (c : Cell), y ≠ a → s.heap[y]? = some c → u.heap[y]? = some c) ∧ u.heap.size = s.heap.size + 1
theorem Got.mv {a : Addr} {D A : Cell} {fV fC : Field} {o len : Nat} : ∀ r (U U' V V' : State), U'.heap = U.heap → V.vm.Alike V'.vm → V'.heap = V.heap → Got a D fV fC A o len r U V → Got a D fV fC A o len r U' V' :=
  fun r U U' V V' h1 hal h2 ⟨e0, D', X, a1, a2, a3, a4, a5, a6, a7, a8, a9, a10, a11⟩ => ⟨e0, D', X, a1.mv hal h2, a2, by rw [h1]; exact a3, a4, by rw [h1]; exact a5.mv hal h2, a6, by rw [hal.findClass]; exact a7, a8, a9, by rw [h1, h2]; exact a10, by rw [h1, h2]; exact a11⟩
namespace New4
def yN : MethodName := ⟨"java/lang/String", "<init>", "([CIILjava/lang/Void;)V"⟩
abbrev yB : ByteArray := jdk_42_method_149_code
theorem d0 : decode yB 0 = .ok (.aload_n 0, 1) := by decide +kernel
theorem d1 : decode yB 1 = .ok (.invokespecial 1, 3) := by decide +kernel
theorem d4 : decode yB 4 = .ok (.iload_n 3, 1) := by decide +kernel
theorem d5 : decode yB 5 = .ok (.ifCond (.ne) 22, 3) := by decide +kernel
theorem d27 : decode yB 27 = .ok (.getstatic 38, 3) := by decide +kernel
theorem d30 : decode yB 30 = .ok (.ifCond (.eq) 28, 3) := by decide +kernel
theorem d33 : decode yB 33 = .ok (.aload_n 1, 1) := by decide +kernel
theorem d34 : decode yB 34 = .ok (.iload_n 2, 1) := by decide +kernel
theorem d35 : decode yB 35 = .ok (.iload_n 3, 1) := by decide +kernel
theorem d36 : decode yB 36 = .ok (.invokestatic 177, 3) := by decide +kernel
theorem d39 : decode yB 39 = .ok (.astore 5, 2) := by decide +kernel
theorem d41 : decode yB 41 = .ok (.aload_n 0, 1) := by decide +kernel
theorem d42 : decode yB 42 = .ok (.aload 5, 2) := by decide +kernel
theorem d44 : decode yB 44 = .ok (.iload_n 3, 1) := by decide +kernel
theorem d45 : decode yB 45 = .ok (.invokestatic 47, 3) := by decide +kernel
theorem d48 : decode yB 48 = .ok (.putfield 15, 3) := by decide +kernel
theorem d51 : decode yB 51 = .ok (.aload_n 0, 1) := by decide +kernel
theorem d52 : decode yB 52 = .ok (.aload 5, 2) := by decide +kernel
theorem d54 : decode yB 54 = .ok (.putfield 9, 3) := by decide +kernel
theorem d57 : decode yB 57 = .ok (.return_, 1) := by decide +kernel
def site : List Cond := [.fieldLink "java/lang/String" 38 "java/lang/String" "COMPACT_STRINGS" "Z", Cmp3.tab, CodL.tab, .laysFinal "java/lang/String" "java/lang/String" "value" "[B", .fieldLink "java/lang/String" 9 "java/lang/String" "value" "[B", .laysFinal "java/lang/String" "java/lang/String" "coder" "B", .fieldLink "java/lang/String" 15 "java/lang/String" "coder" "B"] ++ objW "java/lang/String" 1 ++ staticW "java/lang/String" 177 Cmp3.yN ++ staticW "java/lang/String" 47 CodL.yN
def tab : Cond := tabOf yN yB 6 none site
def P (a : Addr) (D : Cell) (fV fC : Field) (b : Addr) (A : Cell) (z : Int32) (o len : Nat) (args : Array Value) (s : State) : Prop := args = #[.ref a, .ref b, .int (Int32.ofNat o), .int (Int32.ofNat len), .null] ∧ Blank "java/lang/String" a D s ∧ Found "java/lang/String" "value" "[B" fV s ∧ Found "java/lang/String" "coder" "B" fC s ∧ Ch b A s ∧ StaticIs s "java/lang/String" "COMPACT_STRINGS" "Z" (.int z) ∧ ¬ z = 0 ∧ 0 < len ∧ o + len ≤ A.slots.size ∧ len ≤ 536870912 ∧ ∀ i, i < len → ¬ 255 < cv A (o + i)
def E (a : Addr) (D : Cell) (fV fC : Field) (A : Cell) (o len : Nat) (r : Option Value) (s u : State) : Prop := Got a D fV fC A o len r s u
/-- len > 0, no char of the range above 255: a Latin-1 String of their low bytes -/
theorem law (l : Launch) (a : Addr) (D : Cell) (fV fC : Field) (b : Addr) (A : Cell) (z : Int32) (o len : Nat) : Law l yN 5 4 2 35 yB 6 none site (P a D fV fC b A z o len) (E a D fV fC A o len) [⟨a, fC.slot⟩, ⟨a, fV.slot⟩] 1 len := by
  refine Law.of_walk (plainFor_of_name (by decide +kernel)) (by decide +kernel) (by decide +kernel) (by decide) (fun _ _ h => by rw [h.1]; rfl) (fun _ U U' hal hh h => ⟨h.1, h.2.1.mv hal hh, h.2.2.1.al hal, h.2.2.2.1.al hal, h.2.2.2.2.1.mv hal hh, h.2.2.2.2.2.1.there hal hh, h.2.2.2.2.2.2⟩) (fun r U U' V V' h1 hal h2 h => Got.mv r U U' V V' h1 hal h2 h) ?_
  intro p e s m args below meth c s₁ X0 hexec hbytes hml hret hlk hnm hown hh0 W hP
  obtain ⟨rfl, hB, f1, f2, hA, s1, hz, l0, l1, l2, hp⟩ := hP
  have a31 := hA.1.2.2.2
  have c1 : Steps p.tables e below (s₁.setTop (entryFrame m #[.ref a, .ref b, .int (Int32.ofNat o), .int (Int32.ofNat len), .null] 6)) (s₁.setTop (mkF m 0 #[.val (.ref a), .val (.ref b), .val (.int (Int32.ofNat o)), .val (.int (Int32.ofNat len)), .val .null, .unset] [])) := entry rfl
  have c2 : Steps p.tables e below (s₁.setTop (entryFrame m #[.ref a, .ref b, .int (Int32.ofNat o), .int (Int32.ofNat len), .null] 6)) (s₁.setTop (mkF m 1 #[.val (.ref a), .val (.ref b), .val (.int (Int32.ofNat o)), .val (.int (Int32.ofNat len)), .val .null, .unset] [.ref a])) := c1.trans (by
    refine XS.aloadN X0.here hexec rfl (hb hbytes d0) rfl rfl ?_
    exact Steps.refl _)
  obtain ⟨T3, X3, q3, st3⟩ := X0.oinit hexec hown (wks W (objW "java/lang/String" 1)) (g := (mkF m 1 #[.val (.ref a), .val (.ref b), .val (.int (Int32.ofNat o)), .val (.int (Int32.ofNat len)), .val .null, .unset] [.ref a])) rfl (by rw [hml]; rfl) (rest := []) rfl (hb hbytes d1) (W := 0) (by show 2 * 0 + 0 ≤ _; decide) (Nat.le_of_ble_eq_true rfl) (Nat.le_of_ble_eq_true rfl)
  have hh3 := q3.trans hh0
  have c4 : Steps p.tables e below (s₁.setTop (entryFrame m #[.ref a, .ref b, .int (Int32.ofNat o), .int (Int32.ofNat len), .null] 6)) (T3.setTop (mkF m 27 #[.val (.ref a), .val (.ref b), .val (.int (Int32.ofNat o)), .val (.int (Int32.ofNat len)), .val .null, .unset] [])) := (c2.trans (st3 _ (Steps.refl _))).trans (by
    refine XS.iloadN X3.here hexec rfl (hb hbytes d4) rfl ?_
    refine XS.ifYes X3.here hexec rfl (pc0 := 5) rfl (hb hbytes d5) rfl (i0_ne_t (nz32 (by omega) l0)) (by decide) rfl ?_
    exact Steps.refl _)
  obtain ⟨T5, X5, q5, st5⟩ := X3.sget hexec hown (wk W (.fieldLink "java/lang/String" 38 "java/lang/String" "COMPACT_STRINGS" "Z")) s1 (fun _ _ h => by rw [hh3]; exact h) (g := (mkF m 27 #[.val (.ref a), .val (.ref b), .val (.int (Int32.ofNat o)), .val (.int (Int32.ofNat len)), .val .null, .unset] [])) rfl (hb hbytes d27)
  have hh5 := q5.trans hh3
  have c6 : Steps p.tables e below (s₁.setTop (entryFrame m #[.ref a, .ref b, .int (Int32.ofNat o), .int (Int32.ofNat len), .null] 6)) (T5.setTop (mkF m 30 #[.val (.ref a), .val (.ref b), .val (.int (Int32.ofNat o)), .val (.int (Int32.ofNat len)), .val .null, .unset] [.int z])) := c4.trans (st5 _ (Steps.refl _))
  have c7 : Steps p.tables e below (s₁.setTop (entryFrame m #[.ref a, .ref b, .int (Int32.ofNat o), .int (Int32.ofNat len), .null] 6)) (T5.setTop (mkF m 36 #[.val (.ref a), .val (.ref b), .val (.int (Int32.ofNat o)), .val (.int (Int32.ofNat len)), .val .null, .unset] [.int (Int32.ofNat len), .int (Int32.ofNat o), .ref b])) := c6.trans (by
    refine XS.ifNo X5.here hexec rfl (hb hbytes d30) rfl (i0_eq_f hz) ?_
    refine XS.aloadN X5.here hexec rfl (hb hbytes d33) rfl rfl ?_
    refine XS.iloadN X5.here hexec rfl (hb hbytes d34) rfl ?_
    refine XS.iloadN X5.here hexec rfl (hb hbytes d35) rfl ?_
    exact Steps.refl _)
  obtain ⟨v8, T8, X8, E8, g8⟩ := X5.callS hexec (Cmp3.law l b A o len) hown (wks W (staticW "java/lang/String" 177 Cmp3.yN)) (wk W Cmp3.tab) (W := 0) (Nat.le_of_ble_eq_true rfl) (Nat.le_of_ble_eq_true rfl) (Nat.le_refl _) (by show 0 + len ≤ len; omega) (g := (mkF m 36 #[.val (.ref a), .val (.ref b), .val (.int (Int32.ofNat o)), .val (.int (Int32.ofNat len)), .val .null, .unset] [.int (Int32.ofNat len), .int (Int32.ofNat o), .ref b])) rfl (by rw [hml]; rfl) c7 (argsL := [.ref b, .int (Int32.ofNat o), .int (Int32.ofNat len)]) (rest := []) rfl rfl (by show 2 * 0 + 0 ≤ _; decide) (hb hbytes d36) (⟨rfl, hA.mv X5.warmed.alike hh5, l1, l2, hp⟩)
  obtain ⟨e8, z8⟩ := E8
  obtain ⟨rfl, N, n1, n2, n3, n4, n5, n6⟩ := NewArr.mv _ T5 s _ _ hh5.symm (Vm.Alike.refl _) rfl e8
  rw [hh5] at z8
  have hB1 := hB.keep X8.warmed.alike (n6 _ _ hB.1)
  have hne : s.heap.size ≠ a := (Nat.ne_of_lt (Array.getElem?_eq_some_iff.mp hB.1).1).symm
  have c9 : Steps p.tables e below (s₁.setTop (entryFrame m #[.ref a, .ref b, .int (Int32.ofNat o), .int (Int32.ofNat len), .null] 6)) (T8.setTop (mkF m 39 #[.val (.ref a), .val (.ref b), .val (.int (Int32.ofNat o)), .val (.int (Int32.ofNat len)), .val .null, .unset] [.ref s.heap.size])) := g8
  have c10 : Steps p.tables e below (s₁.setTop (entryFrame m #[.ref a, .ref b, .int (Int32.ofNat o), .int (Int32.ofNat len), .null] 6)) (T8.setTop (mkF m 45 #[.val (.ref a), .val (.ref b), .val (.int (Int32.ofNat o)), .val (.int (Int32.ofNat len)), .val .null, .val (.ref s.heap.size)] [.int (Int32.ofNat N.slots.size), .ref s.heap.size, .ref a])) := by
    have hc : Steps p.tables e below (s₁.setTop (entryFrame m #[.ref a, .ref b, .int (Int32.ofNat o), .int (Int32.ofNat len), .null] 6)) (T8.setTop (mkF m 45 #[.val (.ref a), .val (.ref b), .val (.int (Int32.ofNat o)), .val (.int (Int32.ofNat len)), .val .null, .val (.ref s.heap.size)] [.int (Int32.ofNat len), .ref s.heap.size, .ref a])) := c9.trans (by
      refine XS.astore X8.here hexec rfl (hb hbytes d39) rfl rfl rfl ?_
      refine XS.aloadN X8.here hexec rfl (hb hbytes d41) rfl rfl ?_
      refine XS.aload X8.here hexec rfl (hb hbytes d42) rfl rfl ?_
      refine XS.iloadN X8.here hexec rfl (hb hbytes d44) rfl ?_
      exact Steps.refl _)
    rw [n4]; exact hc
  obtain ⟨v11, T11, X11, E11, g11⟩ := X8.callS hexec (CodL.law l s.heap.size N) hown (wks W (staticW "java/lang/String" 47 CodL.yN)) (wk W CodL.tab) (W := 1) (Nat.le_of_ble_eq_true rfl) (Nat.le_of_ble_eq_true rfl) (Nat.le_refl _) (by show 0 + len + 0 ≤ len; omega) (g := (mkF m 45 #[.val (.ref a), .val (.ref b), .val (.int (Int32.ofNat o)), .val (.int (Int32.ofNat len)), .val .null, .val (.ref s.heap.size)] [.int (Int32.ofNat N.slots.size), .ref s.heap.size, .ref a])) rfl (by rw [hml]; rfl) c10 (argsL := [.ref s.heap.size, .int (Int32.ofNat N.slots.size)]) (rest := [.ref a]) rfl rfl (by show 2 * 0 + (1 + 0) ≤ _; decide) (hb hbytes d45) (⟨rfl, n1⟩)
  obtain ⟨rfl, q11⟩ := E11
  have hB11 := hB1.mv (X8.warmed.alike.symm.trans X11.warmed.alike) q11
  have c12 : Steps p.tables e below (s₁.setTop (entryFrame m #[.ref a, .ref b, .int (Int32.ofNat o), .int (Int32.ofNat len), .null] 6)) (T11.setTop (mkF m 48 #[.val (.ref a), .val (.ref b), .val (.int (Int32.ofNat o)), .val (.int (Int32.ofNat len)), .val .null, .val (.ref s.heap.size)] [.int 0, .ref a])) := g11
  obtain ⟨T13, X13, p13, bl13, sl13, st13⟩ := X11.finit hexec hown (wk W (.fieldLink "java/lang/String" 15 "java/lang/String" "coder" "B")) (Or.inr ⟨_, (wk W (.laysFinal "java/lang/String" "java/lang/String" "coder" "B"))⟩) (Or.inl ⟨rfl, hnm⟩) f2 (Or.inl rfl) hB11 (t := .byte) (by decide +kernel) rfl (g := (mkF m 48 #[.val (.ref a), .val (.ref b), .val (.int (Int32.ofNat o)), .val (.int (Int32.ofNat len)), .val .null, .val (.ref s.heap.size)] [.int 0, .ref a])) rfl (rest := []) rfl (hb hbytes d48)
  have c14 : Steps p.tables e below (s₁.setTop (entryFrame m #[.ref a, .ref b, .int (Int32.ofNat o), .int (Int32.ofNat len), .null] 6)) (T13.setTop (mkF m 54 #[.val (.ref a), .val (.ref b), .val (.int (Int32.ofNat o)), .val (.int (Int32.ofNat len)), .val .null, .val (.ref s.heap.size)] [.ref s.heap.size, .ref a])) := (c12.trans (st13 _ (Steps.refl _))).trans (by
    refine XS.aloadN X13.here hexec rfl (hb hbytes d51) rfl rfl ?_
    refine XS.aload X13.here hexec rfl (hb hbytes d52) rfl rfl ?_
    exact Steps.refl _)
  obtain ⟨T15, X15, p15, bl15, sl15, st15⟩ := X13.finit hexec hown (wk W (.fieldLink "java/lang/String" 9 "java/lang/String" "value" "[B")) (Or.inr ⟨_, (wk W (.laysFinal "java/lang/String" "java/lang/String" "value" "[B"))⟩) (Or.inl ⟨rfl, hnm⟩) f1 (Or.inl rfl) bl13 (t := (.array .byte)) (by decide +kernel) rfl (g := (mkF m 54 #[.val (.ref a), .val (.ref b), .val (.int (Int32.ofNat o)), .val (.int (Int32.ofNat len)), .val .null, .val (.ref s.heap.size)] [.ref s.heap.size, .ref a])) rfl (rest := []) rfl (hb hbytes d54)
  have c16 : Steps p.tables e below (s₁.setTop (entryFrame m #[.ref a, .ref b, .int (Int32.ofNat o), .int (Int32.ofNat len), .null] 6)) (T15.setTop (mkF m 57 #[.val (.ref a), .val (.ref b), .val (.int (Int32.ofNat o)), .val (.int (Int32.ofNat len)), .val .null, .val (.ref s.heap.size)] [])) := c14.trans (st15 _ (Steps.refl _))
  have ap := apart (Or.inr ⟨_, (wk W (.laysFinal "java/lang/String" "java/lang/String" "value" "[B"))⟩) (Or.inr ⟨_, (wk W (.laysFinal "java/lang/String" "java/lang/String" "coder" "B"))⟩) f1 f2 (t₁ := .array .byte) (t₂ := .byte) (by decide +kernel) (by decide +kernel) (by decide)
  have al := X8.warmed.alike.symm.trans X15.warmed.alike
  have n7 : T11.heap[s.heap.size]? = some N := by rw [q11]; exact n1.1
  exact ⟨T15, none, _, _, _, X15, by simp, rfl, by omega, (fun _ => rfl), ⟨rfl, _, N, bl15, ((Same.refl D _).set _ (by simp)).set _ (by simp), sl15, (Cell.slots_setSlot_ne _ ap).trans sl13, n1.keep al (p15.other hne (p13.other hne n7)), n2, by rw [al.findClass]; exact n3, n4, n5, fun y c h1 h2 => p15.other h1 (p13.other h1 (by rw [q11]; exact n6 y c h2)), by rw [p15.2.2, p13.2.2, q11]; exact z8⟩, fun fs hl => c16.trans (X15.returnOut hexec hret (hb hbytes d57) hl)⟩
end New4
namespace New1
def yN : MethodName := ⟨"java/lang/String", "<init>", "([C)V"⟩
abbrev yB : ByteArray := jdk_42_method_3_code
theorem d0 : decode yB 0 = .ok (.aload_n 0, 1) := by decide +kernel
theorem d1 : decode yB 1 = .ok (.aload_n 1, 1) := by decide +kernel
theorem d2 : decode yB 2 = .ok (.iconst 0, 1) := by decide +kernel
theorem d3 : decode yB 3 = .ok (.aload_n 1, 1) := by decide +kernel
theorem d4 : decode yB 4 = .ok (.arraylength, 1) := by decide +kernel
theorem d5 : decode yB 5 = .ok (.aconst_null, 1) := by decide +kernel
theorem d6 : decode yB 6 = .ok (.invokespecial 27, 3) := by decide +kernel
theorem d9 : decode yB 9 = .ok (.return_, 1) := by decide +kernel
def site : List Cond := [New4.tab] ++ initW "java/lang/String" 27 New4.yN
def tab : Cond := tabOf yN yB 2 none site
def P (a : Addr) (D : Cell) (fV fC : Field) (b : Addr) (A : Cell) (z : Int32) (args : Array Value) (s : State) : Prop := args = #[.ref a, .ref b] ∧ Blank "java/lang/String" a D s ∧ Found "java/lang/String" "value" "[B" fV s ∧ Found "java/lang/String" "coder" "B" fC s ∧ Ch b A s ∧ StaticIs s "java/lang/String" "COMPACT_STRINGS" "Z" (.int z) ∧ ¬ z = 0 ∧ 0 < A.slots.size ∧ A.slots.size ≤ 536870912 ∧ ∀ i, i < A.slots.size → ¬ 255 < cv A i
def E (a : Addr) (D : Cell) (fV fC : Field) (A : Cell) (r : Option Value) (s u : State) : Prop := Got a D fV fC A 0 A.slots.size r s u
/-- new String(chars), not empty, no char above 255: a Latin-1 String of their low bytes -/
theorem law (l : Launch) (a : Addr) (D : Cell) (fV fC : Field) (b : Addr) (A : Cell) (z : Int32) : Law l yN 2 1 3 52 yB 2 none site (P a D fV fC b A z) (E a D fV fC A) [⟨a, fC.slot⟩, ⟨a, fV.slot⟩] 1 A.slots.size := by
  refine Law.of_walk (plainFor_of_name (by decide +kernel)) (by decide +kernel) (by decide +kernel) (by decide) (fun _ _ h => by rw [h.1]; rfl) (fun _ U U' hal hh h => ⟨h.1, h.2.1.mv hal hh, h.2.2.1.al hal, h.2.2.2.1.al hal, h.2.2.2.2.1.mv hal hh, h.2.2.2.2.2.1.there hal hh, h.2.2.2.2.2.2⟩) (fun r U U' V V' h1 hal h2 h => Got.mv r U U' V V' h1 hal h2 h) ?_
  intro p e s m args below meth c s₁ X0 hexec hbytes hml hret hlk hnm hown hh0 W hP
  obtain ⟨rfl, hB, f1, f2, hA, s1, hz, l0, l2, hp⟩ := hP
  have c1 : Steps p.tables e below (s₁.setTop (entryFrame m #[.ref a, .ref b] 2)) (s₁.setTop (mkF m 0 #[.val (.ref a), .val (.ref b)] [])) := entry rfl
  have c2 : Steps p.tables e below (s₁.setTop (entryFrame m #[.ref a, .ref b] 2)) (s₁.setTop (mkF m 6 #[.val (.ref a), .val (.ref b)] [.null, .int (Int32.ofNat A.slots.size), .int 0, .ref b, .ref a])) := c1.trans (by
    refine XS.aloadN X0.here hexec rfl (hb hbytes d0) rfl rfl ?_
    refine XS.aloadN X0.here hexec rfl (hb hbytes d1) rfl rfl ?_
    refine iconstV X0.here hexec rfl 0 (hb hbytes d2) (by decide) ?_
    refine XS.aloadN X0.here hexec rfl (hb hbytes d3) rfl rfl ?_
    refine X0.alen hexec (hA.1.mv X0.warmed.alike hh0) rfl rfl (hb hbytes d4) ?_
    refine XS.aconstNull X0.here hexec rfl (hb hbytes d5) ?_
    exact Steps.refl _)
  obtain ⟨v3, T3, X3, E3, g3⟩ := X0.callN hexec (New4.law l a D fV fC b A z 0 A.slots.size) rfl hown (wks W (initW "java/lang/String" 27 New4.yN)) (W New4.tab (by simp only [site, List.mem_cons, List.mem_append, true_or, or_true])) (W := 0) (Nat.le_of_ble_eq_true rfl) (Nat.le_of_ble_eq_true rfl) (Nat.le_refl _) (by show 0 + A.slots.size ≤ A.slots.size; omega) (g := (mkF m 6 #[.val (.ref a), .val (.ref b)] [.null, .int (Int32.ofNat A.slots.size), .int (Int32.ofNat 0), .ref b, .ref a])) rfl (by rw [hml]; rfl) c2 (argsL := [.ref b, .int (Int32.ofNat 0), .int (Int32.ofNat A.slots.size), .null]) (rest := []) rfl rfl (by show 2 * 0 + 0 ≤ _; decide) (hb hbytes d6) (⟨rfl, hB.mv X0.warmed.alike hh0, f1.al X0.warmed.alike, f2.al X0.warmed.alike, hA.mv X0.warmed.alike hh0, s1.there X0.warmed.alike hh0, hz, l0, by omega, l2, fun i hi => by rw [Nat.zero_add]; exact hp i hi⟩)
  have e0 := Got.mv _ s₁ s _ _ hh0.symm (Vm.Alike.refl _) rfl E3
  obtain rfl := e0.1
  have c4 : Steps p.tables e below (s₁.setTop (entryFrame m #[.ref a, .ref b] 2)) (T3.setTop (mkF m 9 #[.val (.ref a), .val (.ref b)] [])) := g3
  exact ⟨T3, none, _, _, _, X3, by simp, rfl, by omega, (fun _ => rfl), e0, fun fs hl => c4.trans (X3.returnOut hexec hret (hb hbytes d9) hl)⟩
theorem pays {l : Launch} {R : Room} {p : Program} {e : Env} {below : List Frame} {s : State} {sargs : Array Value} {len W : Nat} (a : Addr) (D : Cell) (fV fC : Field) (b : Addr) (A : Cell) (z : Int32) (htab : tab.before sargs s = true) (hfr : 4 ≤ R.frames) (hlo : W + 65 ≤ R.locals) :
    Back l R p e below s sargs yN len W (fun A₁ a₁ => A₁.cells + 1 ≤ R.cells ∧ A₁.slots + A.slots.size ≤ R.slots ∧ P a D fV fC b A z a₁ A₁.U) (fun A₁ _ v₁ B₁ => E a D fV fC A v₁ A₁.U B₁.U ∧ B₁.locs = A₁.locs ++ [⟨a, fC.slot⟩, ⟨a, fV.slot⟩] ∧ B₁.cells = A₁.cells + 1 ∧ B₁.slots = A₁.slots + A.slots.size) :=
  (law l a D fV fC b A z).pays htab hfr (by omega)
end New1
end StrChars
namespace StrChars.Road
open Jvm Sem ClassFile Op Lib Jvm.Stand Jvm.Free Jvm.Free.XT
open Jvm.Lib.Cold (StaticIs)
abbrev ST : String := "java/lang/String"
/-- every table word that New1's law asks, flat -/
abbrev words : List Jvm.Cond := [.code New1.yN New1.yB 2 none, .initialized ST, .methodLink ST 27 New4.yN, .instanceMethod New4.yN,
  .code New4.yN New4.yB 6 none, .fieldLink ST 38 ST "COMPACT_STRINGS" "Z", .laysFinal ST ST "value" "[B", .fieldLink ST 9 ST "value" "[B", .laysFinal ST ST "coder" "B", .fieldLink ST 15 ST "coder" "B",
  .methodLink ST 1 Lib.objectInit, .instanceMethod Lib.objectInit, .code Lib.objectInit ⟨#[0xb1]⟩ 1 none, .methodLink ST 177 Cmp3.yN, .static Cmp3.yN, .methodLink ST 47 CodL.yN, .static CodL.yN,
  .code Cmp3.yN Cmp3.yB 6 (some (.array .byte)), .initialized U16, .arrayClass .byte, .methodLink U16 115 Cmp5.yN, .static Cmp5.yN, .code Cmp5.yN Cmp5.yB 7 (some .int), .code CodL.yN CodL.yB 2 (some .byte)]
theorem tab_of {a : Array Value} {s : State} (h : ∀ w ∈ words, w.before a s = true) : New1.tab.before a s = true := by
  have h5 : Cmp5.tab.before a s = true := unparts (wk h (.code Cmp5.yN Cmp5.yB 7 (some .int))) (wks h (.initialized Cmp5.yN.cls :: Cmp5.site))
  have hc : CodL.tab.before a s = true := unparts (wk h (.code CodL.yN CodL.yB 2 (some .byte))) (wks h (.initialized CodL.yN.cls :: CodL.site))
  have q5 : ∀ w ∈ Cmp5.tab :: words, w.before a s = true := fun w hw => (List.mem_cons.mp hw).elim (fun e => e ▸ h5) (h w)
  have h3 : Cmp3.tab.before a s = true := unparts (wk q5 (.code Cmp3.yN Cmp3.yB 6 (some (.array .byte)))) (wks q5 (.initialized Cmp3.yN.cls :: Cmp3.site))
  have q3 : ∀ w ∈ Cmp3.tab :: CodL.tab :: words, w.before a s = true := fun w hw => (List.mem_cons.mp hw).elim (fun e => e ▸ h3) fun hw => (List.mem_cons.mp hw).elim (fun e => e ▸ hc) (h w)
  have h4 : New4.tab.before a s = true := unparts (wk q3 (.code New4.yN New4.yB 6 none)) (wks q3 (.initialized New4.yN.cls :: New4.site))
  have q4 : ∀ w ∈ New4.tab :: words, w.before a s = true := fun w hw => (List.mem_cons.mp hw).elim (fun e => e ▸ h4) (h w)
  exact unparts (wk q4 (.code New1.yN New1.yB 2 none)) (wks q4 (.initialized New1.yN.cls :: New1.site))
/-- the words ride from the start Z to the walk's own state -/
theorem moved {Z s : State} {a0 args : Array Value} (hZ : Z.Warmed39 s.vm) (hw : ∀ d ∈ words, d.before a0 Z = true) : ∀ d ∈ words, d.before args s = true := fun d hd => by
  have q := hw d hd
  have t : ∀ d ∈ words, d = .arrayClass .byte ∨ (d.onTables && d.keepsFace) = true := by decide +kernel
  rcases t d hd with rfl | t
  · exact RoadKit.mvA hZ q
  · exact RoadKit.mv hZ q t
/-- WHAT COMES BACK, over the tables of the start Z: h the heap at the call, h' behind it -/
def Q (Z : State) (x : Addr) (A : Cell) (h : Heap) (v : Option Value) (h' : Heap) (L : List Loc) : Prop := v = none ∧ (∀ y ∈ L, y.base = x) ∧ RoadKit.Keep h h' [x] ∧ h'.size = h.size + 1 ∧ RoadKit.Exa Z h' x ST ∧ RoadKit.Fld Z h' x ST "value" "[B" (.ref h.size) ∧ RoadKit.Fld Z h' x ST "coder" "B" (.int 0) ∧
  (∃ V : Cell, RoadKit.Arr Z h' h.size V .byte ∧ V.vm = .none ∧ Z.vm.findClass "[B" = some V.cls ∧ V.slots.size = A.slots.size ∧ ∀ j, j < A.slots.size → V.slots[j]? = some (.int (lo8 (cv A j)))) ∧
  ∀ (O n d : String) (w : Value), RoadKit.Fld Z h x O n d w → RoadKit.slotOf Z O n d ≠ RoadKit.slotOf Z ST "value" "[B" → RoadKit.slotOf Z O n d ≠ RoadKit.slotOf Z ST "coder" "B" → RoadKit.Fld Z h' x O n d w
/-- **new String(chars) AT A CALL, IN THE ROAD'S FORM**: for specialBack behind newO: x the fresh String, b the char[] with the cell A -/
theorem back {p : Program} {l : Launch} {e : Env} {R : Room} {s : State} {args : Array Value} {below : List Frame} {len W : Nat} {Z : State} {a0 : Array Value} {h : Heap} (hZ : Z.Warmed39 s.vm) (hw : ∀ d ∈ words, d.before a0 Z = true) {kI : Nat} (wi : (Jvm.Cond.instantiable ST kI).before a0 Z = true)
    {x b : Addr} {A : Cell} {z : Int32} {v0 c0 : Value} (E : RoadKit.Exa Z h x ST) (V : RoadKit.Fld Z h x ST "value" "[B" v0) (C : RoadKit.Fld Z h x ST "coder" "B" c0) (K : RoadKit.Arr Z h b A .char) (hty : Typed .char A) (S : RoadKit.Sta Z h ST "COMPACT_STRINGS" "Z" (.int z)) (hz : ¬ z = 0)
    (l0 : 0 < A.slots.size) (l2 : A.slots.size ≤ 536870912) (hp : ∀ i, i < A.slots.size → ¬ 255 < cv A i) (hfr : 4 ≤ R.frames) (hlo : W + 65 ≤ R.locals) :
    Back l R p e below s args New1.yN len W (fun P a => a = #[.ref x, .ref b] ∧ P.U.heap = h ∧ P.cells + 1 ≤ R.cells ∧ P.slots + A.slots.size ≤ R.slots)
      (fun P _ v B => ∃ L, Q Z x A h v B.U.heap L ∧ B.locs = P.locs ++ L ∧ B.cells = P.cells + 1 ∧ B.slots = P.slots + A.slots.size) := by
  intro m meth c P g ig mk a X hg hsize hdg hW hn hp'
  obtain ⟨rfl, rfl, r1, r2⟩ := hp'
  have al : Z.vm.Alike P.U.vm := hZ.alike.trans X.warmed.alike
  obtain ⟨D, cfV, kV, iV, fV, hD, gV, stV, knV, obV, asV, slV⟩ := id V
  obtain ⟨D', cfC, kC, iC, fC, hD', gC, stC, -, -, asC, slC⟩ := id C
  cases hD.symm.trans hD'
  obtain ⟨D2, kD, e1, e2, e3, e4, e5⟩ := id E
  cases hD.symm.trans e1
  obtain ⟨c2, k2, i1, i2, i3, -⟩ := Cond.instantiable_spec wi
  cases e2.symm.trans i1
  cases e3.symm.trans i2
  obtain ⟨kU, u1, u2⟩ := al.2.2 _ _ e3
  have hB : Blank ST x D P.U := ⟨hD, ⟨knV, fun q hq => by rw [hq] at obV; cases obV⟩, by rw [al.findClass]; exact e2, kU, u1, by rw [u2]; exact i3, by rw [u2]; exact e5 i3⟩
  have F1 : Found ST "value" "[B" fV P.U := ⟨SBG.found_only al ⟨cfV, kV, iV, gV⟩, stV⟩
  have F2 : Found ST "coder" "B" fC P.U := ⟨SBG.found_only al ⟨cfC, kC, iC, gC⟩, stC⟩
  have hA : Ch b A P.U := ⟨⟨K.1, State.isArrayOf_alike al K.2.1, K.2.2, by omega⟩, hty⟩
  have hS : StaticIs P.U ST "COMPACT_STRINGS" "Z" (.int z) := by
    obtain ⟨cfS, iS, kS, fS, st, cS, t1, t2, t3, t4, t5, t6, t7⟩ := S
    exact StaticIs.there (s := { Z with heap := P.U.heap }) ⟨cfS, iS, kS, fS, st, cS, t1, t2, t3, t4, t5, (fun q => by rw [q] at t6; cases t6), t7⟩ al rfl
  obtain ⟨v, B, X', ⟨⟨hv, E', V', q1, q2, q3, q4, q5, q6, q7, q8, q9, q10, q11⟩, hl, hc, hs⟩, st⟩ := New1.pays x D fV fC b A z (tab_of (moved hZ hw)) hfr hlo m meth c P g ig mk _ X hg hsize hdg hW hn ⟨r1, r2, rfl, hB, F1, F2, hA, hS, hz, l0, l2, hp⟩
  have al' : Z.vm.Alike B.U.vm := hZ.alike.trans X'.warmed.alike
  have hsz : E'.slots.size = D.slots.size := by
    obtain ⟨-, -, -, kB, w1, w2, w3⟩ := q1
    obtain ⟨kB', y1, y2⟩ := al'.2.2 _ _ e3
    rw [q2.2.1] at w1
    cases w1.symm.trans y1
    rw [w3, e5 i3, y2]
  refine ⟨v, B, X', ⟨_, ⟨hv, ?_, ⟨by omega, fun y cy hy hn' => q10 y cy (by simpa using hn') hy, fun y cy hy => ?_⟩, q11, ⟨E', _, q1.1, by rw [q2.2.1]; exact e2, by rw [q2.2.1]; exact e3, by rw [q2.1]; exact obV, fun _ => by rw [hsz]; exact e5 i3⟩,
    ⟨E', cfV, kV, iV, fV, q1.1, gV, stV, by rw [q2.1]; exact knV, by rw [q2.1]; exact obV, by rw [q2.2.1]; exact asV, q3⟩, ⟨E', cfC, kC, iC, fC, q1.1, gC, stC, by rw [q2.1]; exact knV, by rw [q2.1]; exact obV, by rw [q2.2.1]; exact asC, q4⟩,
    ⟨V', ⟨q5.1, State.isArrayOf_alike al'.symm q5.2.1, q5.2.2.1⟩, q6, by rw [← al'.findClass]; exact q7, q8, fun j hj => by have := q9 j hj; rwa [Nat.zero_add] at this⟩, fun O n d w F n1 n2 => ?_⟩, hl, hc, hs⟩, st⟩
  · intro y hy
    simp only [List.mem_cons, List.not_mem_nil, or_false] at hy
    rcases hy with rfl | rfl <;> rfl
  · by_cases q : y = x
    · subst q
      cases hD.symm.trans hy
      exact ⟨E', q1.1, q2.2.1, q2.1, hsz⟩
    · exact ⟨cy, q10 y cy q hy, rfl, rfl, rfl⟩
  · obtain ⟨D3, cf, k, i, f, g1, g2, g3, g4, g5, g6, g7⟩ := F
    cases hD.symm.trans g1
    simp only [RoadKit.slotOf, g2, gV, gC, Option.map_some, Option.getD_some] at n1 n2
    exact ⟨E', cf, k, i, f, q1.1, g2, g3, by rw [q2.1]; exact g4, by rw [q2.1]; exact g5, by rw [q2.2.1]; exact g6, by rw [q2.2.2 f.slot (by simp [n1, n2])]; exact g7⟩
end StrChars.Road
namespace StrChars.Road
open Jvm Sem ClassFile Op Lib Jvm.Stand Jvm.Free Jvm.Free.XT
/-- WHAT COMES BACK, the byte[] as a list of values -/
def QA (Z : State) (x : Addr) (zn : Int32) (cs : List Int32) (h : Heap) (v : Option Value) (h' : Heap) (L : List Loc) : Prop := v = none ∧ (∀ y ∈ L, y.base = x) ∧ RoadKit.Keep h h' [x] ∧ h'.size = h.size + 1 ∧ RoadKit.Exa Z h' x ST ∧ RoadKit.Fld Z h' x ST "value" "[B" (.ref h.size) ∧ RoadKit.Fld Z h' x ST "coder" "B" (.int 0) ∧
  (∃ kb, Z.vm.findClass "[B" = some kb ∧ RoadKit.Arv Z h' h.size kb .byte zn (cs.map fun c => .int (lo8 c)) (.int 0)) ∧
  ∀ (O n d : String) (w : Value), RoadKit.Fld Z h x O n d w → RoadKit.slotOf Z O n d ≠ RoadKit.slotOf Z ST "value" "[B" → RoadKit.slotOf Z O n d ≠ RoadKit.slotOf Z ST "coder" "B" → RoadKit.Fld Z h' x O n d w
/-- **new String(chars) AT A CALL, THE ARRAYS AS LISTS**: the char[] at b holds cs, not empty, no char above 255 -/
theorem backArv {p : Program} {l : Launch} {e : Env} {R : Room} {s : State} {args : Array Value} {below : List Frame} {len W : Nat} {Z : State} {a0 : Array Value} {h : Heap} (hZ : Z.Warmed39 s.vm) (hw : ∀ d ∈ words, d.before a0 Z = true) {kI : Nat} (wi : (Jvm.Cond.instantiable ST kI).before a0 Z = true)
    {x b : Addr} {k : ClassId} {zn z : Int32} {cs : List Int32} {dv v0 c0 : Value} (E : RoadKit.Exa Z h x ST) (V : RoadKit.Fld Z h x ST "value" "[B" v0) (C : RoadKit.Fld Z h x ST "coder" "B" c0) (K : RoadKit.Arv Z h b k .char zn (cs.map Value.int) dv) (S : RoadKit.Sta Z h ST "COMPACT_STRINGS" "Z" (.int z)) (hz : ¬ z = 0)
    (hlen : zn.toNatClampNeg = cs.length) (h0 : 0 < cs.length) (hbig : cs.length ≤ 536870912) (hall : ∀ c ∈ cs, ¬ 255 < c) (hfr : 4 ≤ R.frames) (hlo : W + 65 ≤ R.locals) :
    Back l R p e below s args New1.yN len W (fun P a => a = #[.ref x, .ref b] ∧ P.U.heap = h ∧ P.cells + 1 ≤ R.cells ∧ P.slots + cs.length ≤ R.slots)
      (fun P _ v B => ∃ L, QA Z x zn cs h v B.U.heap L ∧ B.locs = P.locs ++ L ∧ B.cells = P.cells + 1 ∧ B.slots = P.slots + cs.length) := by
  obtain ⟨A, K1, K2, K3, K4, K5, K6⟩ := K
  have e : A.slots.size = cs.length := K3.trans hlen
  have hat : ∀ (i : Nat) (hi : i < cs.length), A.slots[i]? = some (.int cs[i]) := fun i hi => by rw [K5 i (by omega)]; simp [List.getD_eq_getElem?_getD, hi]
  have hcv : ∀ (i : Nat) (hi : i < cs.length), cv A i = cs[i] := fun i hi => by unfold cv; rw [hat i hi]
  have hty : Typed .char A := fun i v hv => by
    have hi : i < A.slots.size := (Array.getElem?_eq_some_iff.mp hv).1
    have q := K5 i hi
    rw [hv] at q
    rw [Option.some.inj q]
    exact K6 i hi
  refine Back.mono (back hZ hw wi E V C K1 hty S hz (by omega) (by omega) (fun i hi => by rw [hcv i (by omega)]; exact hall _ (List.getElem_mem _)) hfr hlo) (fun P a hp => ⟨hp.1, hp.2.1, hp.2.2.1, by rw [e]; exact hp.2.2.2⟩) (fun P a v B hp hq => ?_)
  obtain ⟨L, ⟨q1, q2, q3, q4, q5, q6, q7, ⟨V', v1, v2, v3, v4, v5⟩, q9⟩, hl, hc, hs⟩ := hq
  refine ⟨L, ⟨q1, q2, q3, q4, q5, q6, q7, ⟨V'.cls, v3, V', v1, rfl, by rw [v4, e, hlen], K4, fun i hi => ?_, fun i hi => ?_⟩, q9⟩, hl, hc, by rw [hs, e]⟩
  · have hi' : i < cs.length := by omega
    rw [v5 i (by omega), hcv i hi']; simp [List.getD_eq_getElem?_getD, hi']
  · have hi' : i < cs.length := by omega
    simp only [List.getD_eq_getElem?_getD, List.getElem?_map, List.getElem?_eq_getElem hi', Option.map_some, Option.getD_some]
    exact fits_lo8 _
end StrChars.Road
namespace StrChars.Road
open Jvm Sem ClassFile Op Lib Jvm.Stand Jvm.Free Jvm.Free.XT
/-- WHAT COMES BACK, in the writer's own shape -/
def QV (Z : State) (x : Addr) (N : Int32) (bs : List Int32) (h : Heap) (n0 : Nat) (v : Option Value) (h' : Heap) (L : List Loc) : Prop := v = none ∧ RoadKit.Fr n0 L ∧ RoadKit.Keep h h' [x] ∧ RoadKit.Exa Z h' x ST ∧ RoadKit.Fld Z h' x ST "coder" "B" (.int 0) ∧
  ∃ (t : Addr) (kb : ClassId), n0 ≤ t ∧ h.size ≤ t ∧ ¬ t = x ∧ RoadKit.Fld Z h' x ST "value" "[B" (.ref t) ∧ RoadKit.Arv Z h' t kb .byte N (bs.map Value.int) (.int 0)
/-- **new String(chars) AT A CALL, FOR THE WRITER**: a char[] of n known ints, each 0 to 255 -/
theorem backV {p : Program} {l : Launch} {e : Env} {R : Room} {s : State} {args : Array Value} {below : List Frame} {len W : Nat} {Z : State} {a0 : Array Value} {h : Heap} (hZ : Z.Warmed39 s.vm) (hw : ∀ d ∈ words, d.before a0 Z = true) {kI : Nat} (wi : (Jvm.Cond.instantiable ST kI).before a0 Z = true)
    {x b : Addr} {kC : ClassId} {cs bs : List Int32} {d v0 c0 : Value} {z N : Int32} {n n0 : Nat} (hx0 : n0 ≤ x) (hh0 : n0 ≤ h.size) (E : RoadKit.Exa Z h x ST) (V : RoadKit.Fld Z h x ST "value" "[B" v0) (C : RoadKit.Fld Z h x ST "coder" "B" c0) (K : RoadKit.Arv Z h b kC .char N (cs.map Value.int) d) (S : RoadKit.Sta Z h ST "COMPACT_STRINGS" "Z" (.int z)) (hz : ¬ z = 0)
    (hn : cs.length = n) (hN : N = Int32.ofNat n) (l0 : 0 < n) (l2 : n ≤ 4000) (hp : ∀ c ∈ cs, ¬ c < 0 ∧ ¬ (255 : Int32) < c) (hb : bs = cs.map (fun c => c.toInt8.toInt32)) (hfr : 4 ≤ R.frames) (hlo : W + 65 ≤ R.locals) :
    Back l R p e below s args (⟨"java/lang/String", "<init>", "([C)V"⟩ : MethodName) len W (fun P a => a = #[.ref x, .ref b] ∧ P.U.heap = h ∧ P.cells + 1 ≤ R.cells ∧ P.slots + n ≤ R.slots)
      (fun P _ v B => ∃ L, QV Z x N bs h n0 v B.U.heap L ∧ B.locs = P.locs ++ L ∧ B.cells = P.cells + 1 ∧ B.slots = P.slots + n) := by
  subst hn hN hb
  refine Back.mono (backArv hZ hw wi E V C K S hz (n32 (by omega)) l0 (by omega) (fun c hc => (hp c hc).2) hfr hlo) (fun P a hp => hp) (fun P a v B hp hq => ?_)
  obtain ⟨L, ⟨q1, q2, q3, q4, q5, q6, q7, ⟨kb, v1, v2⟩, q9⟩, hl, hc, hs⟩ := hq
  exact ⟨L, ⟨q1, fun y hy => by rw [q2 y hy]; exact hx0, q3, q5, q7, h.size, kb, hh0, Nat.le_refl _, Nat.ne_of_gt E.lt, q6, by rw [List.map_map]; exact v2⟩, hl, hc, hs⟩
end StrChars.Road
end Jvm.Pilot.@@N@@
namespace Jvm.Pilot.@@N@@
open Jvm Jvm.ClassFile Sem Op Lib Jvm.Free Jvm.Stand Jvm.LawKit Jvm.RoadKit Bundle Jvm.Pilot.@@N@@.Jvm.D
def own_Go (p : Program) (e : Env) (below : List Frame) (A : State) (G : Outcome → State → Prop) : Prop := ∃ s₂ o, Steps p.tables e below A s₂ ∧ s₂.status = .running ∧ Ended s₂ below o ∧ G o s₂
theorem own_go {p : Program} {e : Env} {below : List Frame} {A B : State} {G : Outcome → State → Prop} (st : ∀ t, Steps p.tables e below B t → Steps p.tables e below A t) (k : own_Go p e below B G) : own_Go p e below A G := by
  obtain ⟨t, o, h1, h2⟩ := k
  exact ⟨t, o, st t h1, h2⟩
theorem own_gos {p : Program} {e : Env} {below : List Frame} {A B : State} {G : Outcome → State → Prop} (st : Steps p.tables e below A B) (k : own_Go p e below B G) : own_Go p e below A G := by
  obtain ⟨t, o, h1, h2⟩ := k
  exact ⟨t, o, st.trans h1, h2⟩
theorem own_fin {p : Program} {l : Launch} {e : Env} {R : Room} {s : State} {m : MethodId} {args : Array Value} {below : List Frame} {meth : Method} {c : Code} {T : State} {locs : List Loc} {cells slots : Nat} (X : Stand p l e R s m args below meth c T locs cells slots) {v : Option Value} (hv : meth.sig.returnType = none → v = none) (hl : meth.locks = false) {A : State}
    (ret : ∀ fs : List Frame, (∀ (f : JFrame) (acts : List Action), f.method = m → f.locked = none → f.entered = [] → (doReturn e (T.setTop f) acts v).1 = T.setFrames fs) → Steps p.tables e below A (T.setFrames fs)) {QQ : Option Value → Heap → List Loc → Prop} (hQ : QQ v T.heap locs) {C S : Nat} (hc : cells ≤ C) (hs : slots ≤ S) :
    own_Go p e below A (fun o U' => ∃ v L, o = .returned v ∧ QQ v U'.heap L ∧ FrameEnd s o U' L C S) := by
  obtain ⟨fs, hr, hrun, hended, hW, hsame⟩ := X.leave hv hl
  exact ⟨_, _, ret fs hr, hrun, hended, v, locs, rfl, hQ, ⟨_, rfl⟩, hW, hsame.mono hc hs⟩
theorem own_finW {p : Program} {l : Launch} {e : Env} {R : Room} {s : State} {vm1 : Vm} {m : MethodId} {args : Array Value} {below : List Frame} {meth : Method} {c : Code} {T : State} {locs : List Loc} {cells slots : Nat} (X : Stand p l e R (s.setVm vm1) m args below meth c T locs cells slots) {h0 h : Heap} (hh : s.heap = h0) {Z : State} {a0 : Array Value} (hZ : Z.Warmed39 (s.setVm vm1).vm) {n : Nat} (hS : s.Since vm1 n) (hn : n ≤ T.heap.size) {v : Option Value} (hv : meth.sig.returnType = none → v = none) (hl : meth.locks = false) {A : State}
    (ret : ∀ fs : List Frame, (∀ (f : JFrame) (acts : List Action), f.method = m → f.locked = none → f.entered = [] → (doReturn e (T.setTop f) acts v).1 = T.setFrames fs) → Steps p.tables e below A (T.setFrames fs)) {QQ : Option Value → Heap → List Loc → Prop} (hQ : QQ v T.heap locs) {EL : List (String × Nat)} (hEL : EW Z a0 EL) (eT : T.heap = h) (C : CHr Z EL s.vm h0 vm1 h) {CC SS : Nat} (hc : cells ≤ CC) (hs : slots ≤ SS) :
    own_Go p e below A (fun o U' => ∃ v L, o = .returned v ∧ QQ v U'.heap L ∧ CHr Z EL s.vm s.heap U'.vm U'.heap ∧ ReturnedEndW s o U' L CC SS) := by
  obtain ⟨fs, hr, hrun, hended, hE⟩ := X.leaveW hS hn hv hl
  have hC := C.trans (CHv.at X hZ hEL C.1)
  subst hh eT
  exact ⟨_, _, ret fs hr, hrun, hended, v, locs, rfl, hQ, hC, hE.1, hE.2.1, hE.2.2.1, hE.2.2.2.mono hc hs⟩
def own_EL : List (String × Nat) := []
theorem own_no {P : Prop} {p : String × Nat} (h : p ∈ own_EL) : P := nomatch (h : p ∈ ([] : List (String × Nat)))
theorem own_safe0 {Z : State} {vm : Vm} {h : Heap} {x : Addr} : Safe Z own_EL vm h x := fun B => by obtain ⟨p, hp, _⟩ := B; exact own_no hp
theorem own_chv0 {Z : State} {vm : Vm} {h : Heap} : CHv Z own_EL vm h := fun p hp => own_no hp
theorem own_chr0 {Z : State} {vm vm1 : Vm} {h h' : Heap} (q : h.size ≤ h'.size) : CHr Z own_EL vm h vm1 h' := ⟨own_chv0, q, fun y B => by obtain ⟨p, hp, _⟩ := B; exact own_no hp⟩
theorem own_wSt {Z : State} {a0 : Array Value} (hw : ∀ d ∈ tables_1, d.before a0 Z = true) : ∀ a ∈ Bundle.stringAtoms, a.before a0 Z = true := fun d hd => hw d ((by decide +kernel : ∀ d ∈ Bundle.stringAtoms, d ∈ tables_1) d hd)
theorem own_hELt {Z : State} {a0 : Array Value} (hw : ∀ d ∈ tables_1, d.before a0 Z = true) : EW Z a0 own_EL := fun p hp => own_no hp
theorem own_and255 (x : Int32) : ¬ nar .char ((x &&& (255 : Int32)).toUInt32.toUInt16.toUInt32.toInt32) < 0 ∧ ¬ (255 : Int32) < nar .char ((x &&& (255 : Int32)).toUInt32.toUInt16.toUInt32.toInt32) := by
  have t : ∀ k : Fin 256, ¬ nar .char ((Int32.ofNat k.val).toUInt32.toUInt16.toUInt32.toInt32) < 0 ∧ ¬ (255 : Int32) < nar .char ((Int32.ofNat k.val).toUInt32.toUInt16.toUInt32.toInt32) := by decide +kernel
  have h : (x &&& 255).toBitVec.toNat < 256 := by
    simp only [Int32.toBitVec_and, BitVec.toNat_and]
    exact Nat.lt_succ_of_le Nat.and_le_right
  have e : (x &&& 255) = Int32.ofNat (x &&& 255).toBitVec.toNat := by
    apply Int32.toBitVec_inj.mp
    show _ = BitVec.ofNat 32 _
    rw [BitVec.ofNat_toNat]; simp
  rw [e]
  exact t ⟨_, h⟩
theorem own_up (cs : List Int32) (h : ∀ c ∈ cs, ¬ c < 0 ∧ ¬ (255 : Int32) < c) : ∀ c ∈ cs, ¬ c < 0 ∧ ¬ (65535 : Int32) < c := fun c hc => ⟨(h c hc).1, fun q => (h c hc).2 (by rw [Int32.lt_iff_toInt_lt] at q ⊢; have e1 : (65535 : Int32).toInt = 65535 := rfl; have e2 : (255 : Int32).toInt = 255 := rfl; omega)⟩
theorem own_catR {v : Value} (h : v.isRef = true) : v.category = 1 := by cases v <;> first | rfl | cases h
def QPure (r : Option Value) (h0 : Heap) (n0 : Nat) (v : Option Value) (h : Heap) (L : List Loc) : Prop := v = r ∧ Fr n0 L ∧ h = h0
theorem own_selP {Z s : State} {a0 args : Array Value} {y : MethodName} {n : Nat} (hZ : Z.Warmed39 s.vm) (wi : (Cond.instantiable y.cls n).before a0 Z = true) (wp : (Cond.privateMethod y).before a0 Z = true) (wm : (Cond.instanceMethod y).before a0 Z = true) (hy : y.cls ≠ "java/lang/invoke/MethodHandle" ∧ y.cls ≠ "java/lang/invoke/VarHandle") : (Cond.selects y.cls y y).before args s = true := by
  have wi' : (Cond.instantiable y.cls n).before args s = true := mvT hZ wi
  have wm' : (Cond.instanceMethod y).before args s = true := mvT hZ wm
  obtain ⟨c, k, h1, h2, h3, h4⟩ := Cond.instantiable_spec wi'
  refine Jvm.Stand.selects_self_of_private h1 h2 ?_ (Cond.privateMethod_at (mvP hZ wp (args := args))) wm' hy
  have h5 := h4.1
  cases hi : k.isInterface <;> simp_all
theorem d_jdk_30_m1_0 : decode jdk_30_method_1_code 0 = .ok (.aload_n 0, 1) := by decide +kernel
theorem d_jdk_30_m1_1 : decode jdk_30_method_1_code 1 = .ok (.invokespecial 1, 3) := by decide +kernel
theorem d_jdk_30_m1_4 : decode jdk_30_method_1_code 4 = .ok (.return_, 1) := by decide +kernel
theorem pn_0 : plainName "java/lang/Record" = true := by first | (simp [plainName, overriddenIn]; done) | decide +kernel
theorem ef_rm_rec (m : MethodId) (x0 : Addr) : entryFrame m #[(.ref x0)] 1 = mkF m 0 #[.val (.ref x0)] [] := by
   first | (simp [entryFrame, mkF, argsToLocals, Value.category]; done) | rfl
set_option maxRecDepth 65536 in
set_option maxHeartbeats 40000000 in
theorem rm_rec (l : Launch) (Z : State) (a0 : Array Value) (hw : ∀ d ∈ tables_1, d.before a0 Z = true) (ws : List Jvm.Cond) (a1 : Addr) (h0 : Heap) (n0 : Nat) (O0 : Old Z n0 h0) :
    MetFree l (⟨"java/lang/Record", "<init>", "()V"⟩ : MethodName) (head1 (Jvm.Cond.code (⟨"java/lang/Record", "<init>", "()V"⟩ : MethodName) jdk_30_method_1_code 1 none :: ws) ({ frames := 1, cells := 0, slots := 0, locals := 12 } : Room)) (fun a U => a = #[(.ref a1)] ∧ Z.Warmed39 U.vm ∧ U.heap = h0) (fun _ _ _ _ _ => True) (fun _ U o U' => ∃ v L, o = .returned v ∧ QPure (none) h0 n0 v U'.heap L ∧ FrameEnd U o U' L 0 0) := by
  refine MetFree.of_bodySF (plainFor_of_name pn_0) hisR ?_
  intro p e s m args below meth c s₁ Bd hml0 hP hK
  obtain ⟨rfl, hZ, hh⟩ := hP
  have hx := Bd.exec
  have hby := Bd.bytes
  have hml : c.maxLocals = 1 := hml0
  have hown : s.vm.findClass "java/lang/Record" = some m.cls := findClass_of_methodNamed Bd.named
  have hnm := (name_of_methodNamed Bd.named Bd.method).1
  have hrt := Bd.returns
  have hlk : meth.locks = false := Bd.notSynchronized
  have X0 : Stand p l e ({ frames := 1, cells := 0, slots := 0, locals := 12 } : Room) s m #[(.ref a1)] below meth c s₁ [] 0 0 := Stand.of_body Bd
  have e0 : s₁.heap = h0 := by rw [← hh, Bd.state]; rfl
  have N0 := Fr.nil n0
  have Z0 : n0 ≤ h0.size := O0.1 ▸ O0.2.1
  show own_Go p e below (s₁.setTop (entryFrame m #[(.ref a1)] 1)) (fun o U' => ∃ v L, o = .returned v ∧ QPure (none) h0 n0 v U'.heap L ∧ FrameEnd s o U' L 0 0)
  refine own_go (fun _ k => castTop (ef_rm_rec m a1) k) ?_
  show own_Go p e below (s₁.setTop (mkF m 0 #[.val (.ref a1)] [])) _
  refine own_go (fun _ k => XS.aloadN X0.here hx rfl (hb hby d_jdk_30_m1_0) rfl rfl k) ?_
  show own_Go p e below (s₁.setTop (mkF m 1 #[.val (.ref a1)] [(.ref a1)])) _
  obtain ⟨T1, X1, e1, st1⟩ := initO X0 hx hZ hown (hw _ (List.mem_of_getElem? (i := 41) rfl)) (hw _ (List.mem_of_getElem? (i := 12) rfl)) (hw _ (List.mem_of_getElem? (i := 13) rfl)) e0 (g := (mkF m 1 #[.val (.ref a1)] [(.ref a1)])) rfl (by rw [hml]; rfl) rfl (hb hby d_jdk_30_m1_1) (by decide) (W := 0) (by show 2 * 0 + _ ≤ _; exact Nat.le_of_eq rfl) (by decide)
  refine own_go st1 ?_
  show own_Go p e below (T1.setTop (mkF m 4 #[.val (.ref a1)] [])) _
  refine own_fin (v := none) X1 (fun _ => rfl) hlk (fun fs hr => X1.returnOut hx hrt (hb hby d_jdk_30_m1_4) hr) (QQ := QPure (none) h0 n0) ?_ (by decide) (by decide)
  rw [e1]
  exact ⟨rfl, N0, rfl⟩

theorem d_jdk_31_m11_0 : decode jdk_31_method_11_code 0 = .ok (.aload_n 0, 1) := by decide +kernel
theorem d_jdk_31_m11_1 : decode jdk_31_method_11_code 1 = .ok (.ifnonnull 12, 3) := by decide +kernel
theorem d_jdk_31_m11_13 : decode jdk_31_method_11_code 13 = .ok (.aload_n 0, 1) := by decide +kernel
theorem d_jdk_31_m11_14 : decode jdk_31_method_11_code 14 = .ok (.areturn, 1) := by decide +kernel
theorem pn_1 : plainName "java/util/Objects" = true := by first | (simp [plainName, overriddenIn]; done) | decide +kernel
theorem ef_rm_rnn2 (m : MethodId) (x0 : Addr) (x1 : Addr) : entryFrame m #[(.ref x0), (.ref x1)] 2 = mkF m 0 #[.val (.ref x0), .val (.ref x1)] [] := by
   first | (simp [entryFrame, mkF, argsToLocals, Value.category]; done) | rfl
set_option maxRecDepth 65536 in
set_option maxHeartbeats 40000000 in
theorem rm_rnn2 (l : Launch) (Z : State) (a0 : Array Value) (hw : ∀ d ∈ tables_1, d.before a0 Z = true) (ws : List Jvm.Cond) (a1 : Addr) (a2 : Addr) (h0 : Heap) (n0 : Nat) (O0 : Old Z n0 h0) :
    MetFree l (⟨"java/util/Objects", "requireNonNull", "(Ljava/lang/Object;Ljava/lang/String;)Ljava/lang/Object;"⟩ : MethodName) (head1 (Jvm.Cond.code (⟨"java/util/Objects", "requireNonNull", "(Ljava/lang/Object;Ljava/lang/String;)Ljava/lang/Object;"⟩ : MethodName) jdk_31_method_11_code 2 (some (.object "java/lang/Object")) :: ws) ({ frames := 0, cells := 0, slots := 0, locals := 0 } : Room)) (fun a U => a = #[(.ref a1), (.ref a2)] ∧ Z.Warmed39 U.vm ∧ U.heap = h0) (fun _ _ _ _ _ => True) (fun _ U o U' => ∃ v L, o = .returned v ∧ QPure (some (.ref a1)) h0 n0 v U'.heap L ∧ FrameEnd U o U' L 0 0) := by
  refine MetFree.of_bodySF (plainFor_of_name pn_1) hisR ?_
  intro p e s m args below meth c s₁ Bd hml0 hP hK
  obtain ⟨rfl, hZ, hh⟩ := hP
  have hx := Bd.exec
  have hby := Bd.bytes
  have hml : c.maxLocals = 2 := hml0
  have hown : s.vm.findClass "java/util/Objects" = some m.cls := findClass_of_methodNamed Bd.named
  have hnm := (name_of_methodNamed Bd.named Bd.method).1
  have hrt := Bd.returns
  have hlk : meth.locks = false := Bd.notSynchronized
  have X0 : Stand p l e ({ frames := 0, cells := 0, slots := 0, locals := 0 } : Room) s m #[(.ref a1), (.ref a2)] below meth c s₁ [] 0 0 := Stand.of_body Bd
  have e0 : s₁.heap = h0 := by rw [← hh, Bd.state]; rfl
  have N0 := Fr.nil n0
  have Z0 : n0 ≤ h0.size := O0.1 ▸ O0.2.1
  show own_Go p e below (s₁.setTop (entryFrame m #[(.ref a1), (.ref a2)] 2)) (fun o U' => ∃ v L, o = .returned v ∧ QPure (some (.ref a1)) h0 n0 v U'.heap L ∧ FrameEnd s o U' L 0 0)
  refine own_go (fun _ k => castTop (ef_rm_rnn2 m a1 a2) k) ?_
  show own_Go p e below (s₁.setTop (mkF m 0 #[.val (.ref a1), .val (.ref a2)] [])) _
  refine own_go (fun _ k => XS.aloadN X0.here hx rfl (hb hby d_jdk_31_m11_0) rfl rfl k) ?_
  show own_Go p e below (s₁.setTop (mkF m 1 #[.val (.ref a1), .val (.ref a2)] [(.ref a1)])) _
  refine own_go (fun _ k => XS.ifnonnullYes X0.here hx rfl (pc0 := 1) (pc' := 13) rfl (hb hby d_jdk_31_m11_1) rfl (by decide) (by decide) k) ?_
  show own_Go p e below (s₁.setTop (mkF m 13 #[.val (.ref a1), .val (.ref a2)] [])) _
  refine own_go (fun _ k => XS.aloadN X0.here hx rfl (hb hby d_jdk_31_m11_13) rfl rfl k) ?_
  show own_Go p e below (s₁.setTop (mkF m 14 #[.val (.ref a1), .val (.ref a2)] [(.ref a1)])) _
  refine own_fin (v := (some (.ref a1))) X0 (fun h => by rw [hrt] at h; cases h) hlk (fun fs hr => retR X0 hx hrt (by rfl) rfl rfl (hb hby d_jdk_31_m11_14) hr) (QQ := QPure (some (.ref a1)) h0 n0) ?_ (by decide) (by decide)
  rw [e0]
  exact ⟨rfl, N0, rfl⟩

theorem d_jdk_31_m10_0 : decode jdk_31_method_10_code 0 = .ok (.aload_n 0, 1) := by decide +kernel
theorem d_jdk_31_m10_1 : decode jdk_31_method_10_code 1 = .ok (.ifnonnull 11, 3) := by decide +kernel
theorem d_jdk_31_m10_12 : decode jdk_31_method_10_code 12 = .ok (.aload_n 0, 1) := by decide +kernel
theorem d_jdk_31_m10_13 : decode jdk_31_method_10_code 13 = .ok (.areturn, 1) := by decide +kernel
theorem ef_rm_rnn1 (m : MethodId) (x0 : Addr) : entryFrame m #[(.ref x0)] 1 = mkF m 0 #[.val (.ref x0)] [] := by
   first | (simp [entryFrame, mkF, argsToLocals, Value.category]; done) | rfl
set_option maxRecDepth 65536 in
set_option maxHeartbeats 40000000 in
theorem rm_rnn1 (l : Launch) (Z : State) (a0 : Array Value) (hw : ∀ d ∈ tables_1, d.before a0 Z = true) (ws : List Jvm.Cond) (a1 : Addr) (h0 : Heap) (n0 : Nat) (O0 : Old Z n0 h0) :
    MetFree l (⟨"java/util/Objects", "requireNonNull", "(Ljava/lang/Object;)Ljava/lang/Object;"⟩ : MethodName) (head1 (Jvm.Cond.code (⟨"java/util/Objects", "requireNonNull", "(Ljava/lang/Object;)Ljava/lang/Object;"⟩ : MethodName) jdk_31_method_10_code 1 (some (.object "java/lang/Object")) :: ws) ({ frames := 0, cells := 0, slots := 0, locals := 0 } : Room)) (fun a U => a = #[(.ref a1)] ∧ Z.Warmed39 U.vm ∧ U.heap = h0) (fun _ _ _ _ _ => True) (fun _ U o U' => ∃ v L, o = .returned v ∧ QPure (some (.ref a1)) h0 n0 v U'.heap L ∧ FrameEnd U o U' L 0 0) := by
  refine MetFree.of_bodySF (plainFor_of_name pn_1) hisR ?_
  intro p e s m args below meth c s₁ Bd hml0 hP hK
  obtain ⟨rfl, hZ, hh⟩ := hP
  have hx := Bd.exec
  have hby := Bd.bytes
  have hml : c.maxLocals = 1 := hml0
  have hown : s.vm.findClass "java/util/Objects" = some m.cls := findClass_of_methodNamed Bd.named
  have hnm := (name_of_methodNamed Bd.named Bd.method).1
  have hrt := Bd.returns
  have hlk : meth.locks = false := Bd.notSynchronized
  have X0 : Stand p l e ({ frames := 0, cells := 0, slots := 0, locals := 0 } : Room) s m #[(.ref a1)] below meth c s₁ [] 0 0 := Stand.of_body Bd
  have e0 : s₁.heap = h0 := by rw [← hh, Bd.state]; rfl
  have N0 := Fr.nil n0
  have Z0 : n0 ≤ h0.size := O0.1 ▸ O0.2.1
  show own_Go p e below (s₁.setTop (entryFrame m #[(.ref a1)] 1)) (fun o U' => ∃ v L, o = .returned v ∧ QPure (some (.ref a1)) h0 n0 v U'.heap L ∧ FrameEnd s o U' L 0 0)
  refine own_go (fun _ k => castTop (ef_rm_rnn1 m a1) k) ?_
  show own_Go p e below (s₁.setTop (mkF m 0 #[.val (.ref a1)] [])) _
  refine own_go (fun _ k => XS.aloadN X0.here hx rfl (hb hby d_jdk_31_m10_0) rfl rfl k) ?_
  show own_Go p e below (s₁.setTop (mkF m 1 #[.val (.ref a1)] [(.ref a1)])) _
  refine own_go (fun _ k => XS.ifnonnullYes X0.here hx rfl (pc0 := 1) (pc' := 12) rfl (hb hby d_jdk_31_m10_1) rfl (by decide) (by decide) k) ?_
  show own_Go p e below (s₁.setTop (mkF m 12 #[.val (.ref a1)] [])) _
  refine own_go (fun _ k => XS.aloadN X0.here hx rfl (hb hby d_jdk_31_m10_12) rfl rfl k) ?_
  show own_Go p e below (s₁.setTop (mkF m 13 #[.val (.ref a1)] [(.ref a1)])) _
  refine own_fin (v := (some (.ref a1))) X0 (fun h => by rw [hrt] at h; cases h) hlk (fun fs hr => retR X0 hx hrt (by rfl) rfl rfl (hb hby d_jdk_31_m10_13) hr) (QQ := QPure (some (.ref a1)) h0 n0) ?_ (by decide) (by decide)
  rw [e0]
  exact ⟨rfl, N0, rfl⟩

theorem d_jdk_22_m1_0 : decode jdk_22_method_1_code 0 = .ok (.aload_n 0, 1) := by decide +kernel
theorem d_jdk_22_m1_1 : decode jdk_22_method_1_code 1 = .ok (.invokespecial 1, 3) := by decide +kernel
theorem d_jdk_22_m1_4 : decode jdk_22_method_1_code 4 = .ok (.return_, 1) := by decide +kernel
theorem pn_2 : plainName "java/util/AbstractCollection" = true := by first | (simp [plainName, overriddenIn]; done) | decide +kernel
theorem ef_rm_ac (m : MethodId) (x0 : Addr) : entryFrame m #[(.ref x0)] 1 = mkF m 0 #[.val (.ref x0)] [] := by
   first | (simp [entryFrame, mkF, argsToLocals, Value.category]; done) | rfl
set_option maxRecDepth 65536 in
set_option maxHeartbeats 40000000 in
theorem rm_ac (l : Launch) (Z : State) (a0 : Array Value) (hw : ∀ d ∈ tables_1, d.before a0 Z = true) (ws : List Jvm.Cond) (a1 : Addr) (h0 : Heap) (n0 : Nat) (O0 : Old Z n0 h0) :
    MetFree l (⟨"java/util/AbstractCollection", "<init>", "()V"⟩ : MethodName) (head1 (Jvm.Cond.code (⟨"java/util/AbstractCollection", "<init>", "()V"⟩ : MethodName) jdk_22_method_1_code 1 none :: ws) ({ frames := 1, cells := 0, slots := 0, locals := 12 } : Room)) (fun a U => a = #[(.ref a1)] ∧ Z.Warmed39 U.vm ∧ U.heap = h0) (fun _ _ _ _ _ => True) (fun _ U o U' => ∃ v L, o = .returned v ∧ QPure (none) h0 n0 v U'.heap L ∧ FrameEnd U o U' L 0 0) := by
  refine MetFree.of_bodySF (plainFor_of_name pn_2) hisR ?_
  intro p e s m args below meth c s₁ Bd hml0 hP hK
  obtain ⟨rfl, hZ, hh⟩ := hP
  have hx := Bd.exec
  have hby := Bd.bytes
  have hml : c.maxLocals = 1 := hml0
  have hown : s.vm.findClass "java/util/AbstractCollection" = some m.cls := findClass_of_methodNamed Bd.named
  have hnm := (name_of_methodNamed Bd.named Bd.method).1
  have hrt := Bd.returns
  have hlk : meth.locks = false := Bd.notSynchronized
  have X0 : Stand p l e ({ frames := 1, cells := 0, slots := 0, locals := 12 } : Room) s m #[(.ref a1)] below meth c s₁ [] 0 0 := Stand.of_body Bd
  have e0 : s₁.heap = h0 := by rw [← hh, Bd.state]; rfl
  have N0 := Fr.nil n0
  have Z0 : n0 ≤ h0.size := O0.1 ▸ O0.2.1
  show own_Go p e below (s₁.setTop (entryFrame m #[(.ref a1)] 1)) (fun o U' => ∃ v L, o = .returned v ∧ QPure (none) h0 n0 v U'.heap L ∧ FrameEnd s o U' L 0 0)
  refine own_go (fun _ k => castTop (ef_rm_ac m a1) k) ?_
  show own_Go p e below (s₁.setTop (mkF m 0 #[.val (.ref a1)] [])) _
  refine own_go (fun _ k => XS.aloadN X0.here hx rfl (hb hby d_jdk_22_m1_0) rfl rfl k) ?_
  show own_Go p e below (s₁.setTop (mkF m 1 #[.val (.ref a1)] [(.ref a1)])) _
  obtain ⟨T2, X2, e2, st2⟩ := initO X0 hx hZ hown (hw _ (List.mem_of_getElem? (i := 104) rfl)) (hw _ (List.mem_of_getElem? (i := 12) rfl)) (hw _ (List.mem_of_getElem? (i := 13) rfl)) e0 (g := (mkF m 1 #[.val (.ref a1)] [(.ref a1)])) rfl (by rw [hml]; rfl) rfl (hb hby d_jdk_22_m1_1) (by decide) (W := 0) (by show 2 * 0 + _ ≤ _; exact Nat.le_of_eq rfl) (by decide)
  refine own_go st2 ?_
  show own_Go p e below (T2.setTop (mkF m 4 #[.val (.ref a1)] [])) _
  refine own_fin (v := none) X2 (fun _ => rfl) hlk (fun fs hr => X2.returnOut hx hrt (hb hby d_jdk_22_m1_4) hr) (QQ := QPure (none) h0 n0) ?_ (by decide) (by decide)
  rw [e2]
  exact ⟨rfl, N0, rfl⟩

theorem d_jdk_47_m1_0 : decode jdk_47_method_1_code 0 = .ok (.aload_n 0, 1) := by decide +kernel
theorem d_jdk_47_m1_1 : decode jdk_47_method_1_code 1 = .ok (.invokespecial 1, 3) := by decide +kernel
theorem pd_0 : parseMethodDescriptor "()V" = some ⟨[], none⟩ := by decide +kernel
theorem d_jdk_47_m1_4 : decode jdk_47_method_1_code 4 = .ok (.return_, 1) := by decide +kernel
theorem pn_3 : plainName "java/util/ImmutableCollections$AbstractImmutableCollection" = true := by first | (simp [plainName, overriddenIn]; done) | decide +kernel
theorem ef_rm_aic (m : MethodId) (x0 : Addr) : entryFrame m #[(.ref x0)] 1 = mkF m 0 #[.val (.ref x0)] [] := by
   first | (simp [entryFrame, mkF, argsToLocals, Value.category]; done) | rfl
set_option maxRecDepth 65536 in
set_option maxHeartbeats 40000000 in
theorem rm_aic (l : Launch) (Z : State) (a0 : Array Value) (hw : ∀ d ∈ tables_1, d.before a0 Z = true) (ws : List Jvm.Cond) (a1 : Addr) (h0 : Heap) (n0 : Nat) (O0 : Old Z n0 h0) :
    MetFree l (⟨"java/util/ImmutableCollections$AbstractImmutableCollection", "<init>", "()V"⟩ : MethodName) (head1 (Jvm.Cond.code (⟨"java/util/ImmutableCollections$AbstractImmutableCollection", "<init>", "()V"⟩ : MethodName) jdk_47_method_1_code 1 none :: ws) ({ frames := 2, cells := 0, slots := 0, locals := 24 } : Room)) (fun a U => a = #[(.ref a1)] ∧ Z.Warmed39 U.vm ∧ U.heap = h0) (fun _ _ _ _ _ => True) (fun _ U o U' => ∃ v L, o = .returned v ∧ QPure (none) h0 n0 v U'.heap L ∧ FrameEnd U o U' L 0 0) := by
  refine MetFree.of_bodySF (plainFor_of_name pn_3) hisR ?_
  intro p e s m args below meth c s₁ Bd hml0 hP hK
  obtain ⟨rfl, hZ, hh⟩ := hP
  have hx := Bd.exec
  have hby := Bd.bytes
  have hml : c.maxLocals = 1 := hml0
  have hown : s.vm.findClass "java/util/ImmutableCollections$AbstractImmutableCollection" = some m.cls := findClass_of_methodNamed Bd.named
  have hnm := (name_of_methodNamed Bd.named Bd.method).1
  have hrt := Bd.returns
  have hlk : meth.locks = false := Bd.notSynchronized
  have X0 : Stand p l e ({ frames := 2, cells := 0, slots := 0, locals := 24 } : Room) s m #[(.ref a1)] below meth c s₁ [] 0 0 := Stand.of_body Bd
  have e0 : s₁.heap = h0 := by rw [← hh, Bd.state]; rfl
  have N0 := Fr.nil n0
  have Z0 : n0 ≤ h0.size := O0.1 ▸ O0.2.1
  show own_Go p e below (s₁.setTop (entryFrame m #[(.ref a1)] 1)) (fun o U' => ∃ v L, o = .returned v ∧ QPure (none) h0 n0 v U'.heap L ∧ FrameEnd s o U' L 0 0)
  refine own_go (fun _ k => castTop (ef_rm_aic m a1) k) ?_
  show own_Go p e below (s₁.setTop (mkF m 0 #[.val (.ref a1)] [])) _
  refine own_go (fun _ k => XS.aloadN X0.here hx rfl (hb hby d_jdk_47_m1_0) rfl rfl k) ?_
  show own_Go p e below (s₁.setTop (mkF m 1 #[.val (.ref a1)] [(.ref a1)])) _
  obtain ⟨v3, _, ⟨T3, L3, k3, n3⟩, -, X3, ⟨Lc3, hQ3, l3, y3, z3⟩, st3⟩ := X0.specialBack hx (y := (⟨"java/util/AbstractCollection", "<init>", "()V"⟩ : MethodName)) rfl hown (mvT hZ (hw _ (List.mem_of_getElem? (i := 98) rfl))) (mvT hZ (hw _ (List.mem_of_getElem? (i := 99) rfl))) (mvT hZ (hw _ (List.mem_of_getElem? (i := 103) rfl))) (by decide) (backOf (W := 0) (rm_ac l Z a0 hw [] a1 h0 n0 O0 ) hZ (hw _ (List.mem_of_getElem? (i := 103) rfl)) (hw _ (List.mem_of_getElem? (i := 102) rfl)) (by decide) (by decide)) (g := (mkF m 1 #[.val (.ref a1)] [(.ref a1)])) rfl (by rw [hml]; rfl) (Steps.refl _) (a := a1) (argsL := []) (rest := []) (lenOf pd_0 rfl) rfl (by show 2 * 0 + _ ≤ _; exact Nat.le_of_eq rfl) (hb hby d_jdk_47_m1_1) (fun _ _ => ⟨rfl, e0, (by decide : 0 + 0 ≤ _), (by decide : 0 + 0 ≤ _)⟩)
  dsimp only [Pt.U, Pt.locs, Pt.cells, Pt.slots] at X3 l3 y3 z3 st3 hQ3
  subst l3 y3 z3
  refine own_gos st3 ?_
  obtain ⟨rfl, Nq3, e3⟩ := hQ3
  have N3 := Fr.app N0 Nq3
  show own_Go p e below (T3.setTop (mkF m 4 #[.val (.ref a1)] [])) _
  refine own_fin (v := none) X3 (fun _ => rfl) hlk (fun fs hr => X3.returnOut hx hrt (hb hby d_jdk_47_m1_4) hr) (QQ := QPure (none) h0 n0) ?_ (by decide) (by decide)
  rw [e3]
  exact ⟨rfl, N3, rfl⟩

theorem d_jdk_46_m1_0 : decode jdk_46_method_1_code 0 = .ok (.aload_n 0, 1) := by decide +kernel
theorem d_jdk_46_m1_1 : decode jdk_46_method_1_code 1 = .ok (.invokespecial 1, 3) := by decide +kernel
theorem d_jdk_46_m1_4 : decode jdk_46_method_1_code 4 = .ok (.return_, 1) := by decide +kernel
theorem pn_4 : plainName "java/util/ImmutableCollections$AbstractImmutableList" = true := by first | (simp [plainName, overriddenIn]; done) | decide +kernel
theorem ef_rm_ail (m : MethodId) (x0 : Addr) : entryFrame m #[(.ref x0)] 1 = mkF m 0 #[.val (.ref x0)] [] := by
   first | (simp [entryFrame, mkF, argsToLocals, Value.category]; done) | rfl
set_option maxRecDepth 65536 in
set_option maxHeartbeats 40000000 in
theorem rm_ail (l : Launch) (Z : State) (a0 : Array Value) (hw : ∀ d ∈ tables_1, d.before a0 Z = true) (ws : List Jvm.Cond) (a1 : Addr) (h0 : Heap) (n0 : Nat) (O0 : Old Z n0 h0) :
    MetFree l (⟨"java/util/ImmutableCollections$AbstractImmutableList", "<init>", "()V"⟩ : MethodName) (head1 (Jvm.Cond.code (⟨"java/util/ImmutableCollections$AbstractImmutableList", "<init>", "()V"⟩ : MethodName) jdk_46_method_1_code 1 none :: ws) ({ frames := 3, cells := 0, slots := 0, locals := 36 } : Room)) (fun a U => a = #[(.ref a1)] ∧ Z.Warmed39 U.vm ∧ U.heap = h0) (fun _ _ _ _ _ => True) (fun _ U o U' => ∃ v L, o = .returned v ∧ QPure (none) h0 n0 v U'.heap L ∧ FrameEnd U o U' L 0 0) := by
  refine MetFree.of_bodySF (plainFor_of_name pn_4) hisR ?_
  intro p e s m args below meth c s₁ Bd hml0 hP hK
  obtain ⟨rfl, hZ, hh⟩ := hP
  have hx := Bd.exec
  have hby := Bd.bytes
  have hml : c.maxLocals = 1 := hml0
  have hown : s.vm.findClass "java/util/ImmutableCollections$AbstractImmutableList" = some m.cls := findClass_of_methodNamed Bd.named
  have hnm := (name_of_methodNamed Bd.named Bd.method).1
  have hrt := Bd.returns
  have hlk : meth.locks = false := Bd.notSynchronized
  have X0 : Stand p l e ({ frames := 3, cells := 0, slots := 0, locals := 36 } : Room) s m #[(.ref a1)] below meth c s₁ [] 0 0 := Stand.of_body Bd
  have e0 : s₁.heap = h0 := by rw [← hh, Bd.state]; rfl
  have N0 := Fr.nil n0
  have Z0 : n0 ≤ h0.size := O0.1 ▸ O0.2.1
  show own_Go p e below (s₁.setTop (entryFrame m #[(.ref a1)] 1)) (fun o U' => ∃ v L, o = .returned v ∧ QPure (none) h0 n0 v U'.heap L ∧ FrameEnd s o U' L 0 0)
  refine own_go (fun _ k => castTop (ef_rm_ail m a1) k) ?_
  show own_Go p e below (s₁.setTop (mkF m 0 #[.val (.ref a1)] [])) _
  refine own_go (fun _ k => XS.aloadN X0.here hx rfl (hb hby d_jdk_46_m1_0) rfl rfl k) ?_
  show own_Go p e below (s₁.setTop (mkF m 1 #[.val (.ref a1)] [(.ref a1)])) _
  obtain ⟨v4, _, ⟨T4, L4, k4, n4⟩, -, X4, ⟨Lc4, hQ4, l4, y4, z4⟩, st4⟩ := X0.specialBack hx (y := (⟨"java/util/ImmutableCollections$AbstractImmutableCollection", "<init>", "()V"⟩ : MethodName)) rfl hown (mvT hZ (hw _ (List.mem_of_getElem? (i := 92) rfl))) (mvT hZ (hw _ (List.mem_of_getElem? (i := 93) rfl))) (mvT hZ (hw _ (List.mem_of_getElem? (i := 97) rfl))) (by decide) (backOf (W := 0) (rm_aic l Z a0 hw [] a1 h0 n0 O0 ) hZ (hw _ (List.mem_of_getElem? (i := 97) rfl)) (hw _ (List.mem_of_getElem? (i := 96) rfl)) (by decide) (by decide)) (g := (mkF m 1 #[.val (.ref a1)] [(.ref a1)])) rfl (by rw [hml]; rfl) (Steps.refl _) (a := a1) (argsL := []) (rest := []) (lenOf pd_0 rfl) rfl (by show 2 * 0 + _ ≤ _; exact Nat.le_of_eq rfl) (hb hby d_jdk_46_m1_1) (fun _ _ => ⟨rfl, e0, (by decide : 0 + 0 ≤ _), (by decide : 0 + 0 ≤ _)⟩)
  dsimp only [Pt.U, Pt.locs, Pt.cells, Pt.slots] at X4 l4 y4 z4 st4 hQ4
  subst l4 y4 z4
  refine own_gos st4 ?_
  obtain ⟨rfl, Nq4, e4⟩ := hQ4
  have N4 := Fr.app N0 Nq4
  show own_Go p e below (T4.setTop (mkF m 4 #[.val (.ref a1)] [])) _
  refine own_fin (v := none) X4 (fun _ => rfl) hlk (fun fs hr => X4.returnOut hx hrt (hb hby d_jdk_46_m1_4) hr) (QQ := QPure (none) h0 n0) ?_ (by decide) (by decide)
  rw [e4]
  exact ⟨rfl, N4, rfl⟩

def Q_rm_var (Z : State) (a1 : Addr) (a2 : Addr) (h0 : Heap) (n0 : Nat) (v : Option Value) (h : Heap) (L : List Loc) : Prop := v = none ∧ Fr n0 L ∧ Keep h0 h [a1] ∧ Fld Z h a1 "com/example/rederive/rederive/Variable" "name" "Ljava/lang/String;" (.ref a2)
theorem d_prog_77_m1_0 : decode prog_77_method_1_code 0 = .ok (.aload_n 0, 1) := by decide +kernel
theorem d_prog_77_m1_1 : decode prog_77_method_1_code 1 = .ok (.invokespecial 1, 3) := by decide +kernel
theorem d_prog_77_m1_4 : decode prog_77_method_1_code 4 = .ok (.aload_n 1, 1) := by decide +kernel
theorem d_prog_77_m1_5 : decode prog_77_method_1_code 5 = .ok (.ldc 7, 2) := by decide +kernel
theorem d_prog_77_m1_7 : decode prog_77_method_1_code 7 = .ok (.invokestatic 9, 3) := by decide +kernel
theorem pd_1 : parseMethodDescriptor "(Ljava/lang/Object;Ljava/lang/String;)Ljava/lang/Object;" = some ⟨[(.object "java/lang/Object"), (.object "java/lang/String")], some (.object "java/lang/Object")⟩ := by decide +kernel
theorem d_prog_77_m1_10 : decode prog_77_method_1_code 10 = .ok (.pop, 1) := by decide +kernel
theorem d_prog_77_m1_11 : decode prog_77_method_1_code 11 = .ok (.aload_n 0, 1) := by decide +kernel
theorem d_prog_77_m1_12 : decode prog_77_method_1_code 12 = .ok (.aload_n 1, 1) := by decide +kernel
theorem d_prog_77_m1_13 : decode prog_77_method_1_code 13 = .ok (.putfield 15, 3) := by decide +kernel
theorem d_prog_77_m1_16 : decode prog_77_method_1_code 16 = .ok (.return_, 1) := by decide +kernel
theorem pn_5 : plainName "com/example/rederive/rederive/Variable" = true := by first | (simp [plainName, overriddenIn]; done) | decide +kernel
theorem ef_rm_var (m : MethodId) (x0 : Addr) (x1 : Addr) : entryFrame m #[(.ref x0), (.ref x1)] 2 = mkF m 0 #[.val (.ref x0), .val (.ref x1)] [] := by
   first | (simp [entryFrame, mkF, argsToLocals, Value.category]; done) | rfl
set_option maxRecDepth 65536 in
set_option maxHeartbeats 40000000 in
theorem rm_var (l : Launch) (Z : State) (a0 : Array Value) (hw : ∀ d ∈ tables_1, d.before a0 Z = true) (ws : List Jvm.Cond) (a1 : Addr) (a2 : Addr) (h0 : Heap) (n0 : Nat) (O0 : Old Z n0 h0) (E_a : Exa Z h0 a1 "com/example/rederive/rederive/Variable") (F_name : Fld Z h0 a1 "com/example/rederive/rederive/Variable" "name" "Ljava/lang/String;" .null) (g_a : n0 ≤ a1) :
    MetFree l (⟨"com/example/rederive/rederive/Variable", "<init>", "(Ljava/lang/String;)V"⟩ : MethodName) (head1 (Jvm.Cond.code (⟨"com/example/rederive/rederive/Variable", "<init>", "(Ljava/lang/String;)V"⟩ : MethodName) prog_77_method_1_code 2 none :: ws) ({ frames := 2, cells := 2, slots := 20, locals := 24 } : Room)) (fun a U => a = #[(.ref a1), (.ref a2)] ∧ Z.Warmed39 U.vm ∧ U.heap = h0 ∧ CHv Z own_EL U.vm h0) (fun _ _ _ _ _ => True) (fun _ U o U' => ∃ v L, o = .returned v ∧ Q_rm_var Z a1 a2 h0 n0 v U'.heap L ∧ CHr Z own_EL U.vm U.heap U'.vm U'.heap ∧ ReturnedEndW U o U' L 2 20) := by
  refine MetFree.of_bodySF (plainFor_of_name pn_5) hisR ?_
  intro p e s m args below meth c s₁ Bd hml0 hP hK
  obtain ⟨rfl, hZ, hh, hC0⟩ := hP
  have hx := Bd.exec
  have hby := Bd.bytes
  have hml : c.maxLocals = 2 := hml0
  have hown : s.vm.findClass "com/example/rederive/rederive/Variable" = some m.cls := findClass_of_methodNamed Bd.named
  have hnm := (name_of_methodNamed Bd.named Bd.method).1
  have hrt := Bd.returns
  have hlk : meth.locks = false := Bd.notSynchronized
  have X0 : Stand p l e ({ frames := 2, cells := 2, slots := 20, locals := 24 } : Room) (s.setVm s.vm) m #[(.ref a1), (.ref a2)] below meth c s₁ [] 0 0 := Stand.of_body Bd
  have e0 : s₁.heap = h0 := by rw [← hh, Bd.state]; rfl
  have N0 := Fr.nil n0
  have Z0 : n0 ≤ h0.size := O0.1 ▸ O0.2.1
  have hS0 : s.Since s.vm 0 := (State.WarmedH.refl s).since 0
  have C0 : CHr Z own_EL s.vm h0 s.vm h0 := CHr.refl hC0
  have own_wS := own_wSt hw
  have own_hEL := own_hELt hw
  show own_Go p e below (s₁.setTop (entryFrame m #[(.ref a1), (.ref a2)] 2)) (fun o U' => ∃ v L, o = .returned v ∧ Q_rm_var Z a1 a2 h0 n0 v U'.heap L ∧ CHr Z own_EL s.vm s.heap U'.vm U'.heap ∧ ReturnedEndW s o U' L 2 20)
  refine own_go (fun _ k => castTop (ef_rm_var m a1 a2) k) ?_
  show own_Go p e below (s₁.setTop (mkF m 0 #[.val (.ref a1), .val (.ref a2)] [])) _
  refine own_go (fun _ k => XS.aloadN X0.here hx rfl (hb hby d_prog_77_m1_0) rfl rfl k) ?_
  show own_Go p e below (s₁.setTop (mkF m 1 #[.val (.ref a1), .val (.ref a2)] [(.ref a1)])) _
  obtain ⟨v5, _, ⟨T5, L5, k5, n5⟩, -, X5, ⟨Lc5, hQ5, l5, y5, z5⟩, st5⟩ := X0.specialBack hx (y := (⟨"java/lang/Record", "<init>", "()V"⟩ : MethodName)) rfl hown (mvT hZ (hw _ (List.mem_of_getElem? (i := 36) rfl))) (mvT hZ (hw _ (List.mem_of_getElem? (i := 37) rfl))) (mvT hZ (hw _ (List.mem_of_getElem? (i := 40) rfl))) (by decide) (backOf (W := 0) (rm_rec l Z a0 hw [] a1 h0 n0 O0 ) hZ (hw _ (List.mem_of_getElem? (i := 40) rfl)) (hw _ (List.mem_of_getElem? (i := 39) rfl)) (by decide) (by decide)) (g := (mkF m 1 #[.val (.ref a1), .val (.ref a2)] [(.ref a1)])) rfl (by rw [hml]; rfl) (Steps.refl _) (a := a1) (argsL := []) (rest := []) (lenOf pd_0 rfl) rfl (by show 2 * 0 + _ ≤ _; exact Nat.le_of_eq rfl) (hb hby d_prog_77_m1_1) (fun _ _ => ⟨rfl, e0, (by decide : 0 + 0 ≤ _), (by decide : 0 + 0 ≤ _)⟩)
  dsimp only [Pt.U, Pt.locs, Pt.cells, Pt.slots] at X5 l5 y5 z5 st5 hQ5
  subst l5 y5 z5
  refine own_gos st5 ?_
  obtain ⟨rfl, Nq5, e5⟩ := hQ5
  have N5 := Fr.app N0 Nq5
  show own_Go p e below (T5.setTop (mkF m 4 #[.val (.ref a1), .val (.ref a2)] [])) _
  refine own_go (fun _ k => XS.aloadN X5.here hx rfl (hb hby d_prog_77_m1_4) rfl rfl k) ?_
  show own_Go p e below (T5.setTop (mkF m 5 #[.val (.ref a1), .val (.ref a2)] [(.ref a2)])) _
  obtain ⟨a6, T6, h6, k16, X6, e6, E6, hS6, hk6, hZ6, hown6, A6, Li6, st6⟩ := ldcOH X5 hx hZ hown (hw _ (List.mem_of_getElem? (i := 42) rfl)) own_wS e5 hS0 (Nat.zero_le _) own_hEL own_chv0 (g := (mkF m 5 #[.val (.ref a1), .val (.ref a2)] [(.ref a2)])) rfl (hb hby d_prog_77_m1_5) (n := 16) (by decide) (by decide) (by decide) (by decide)
  refine own_go st6 ?_
  show own_Go p e below (T6.setTop (mkF m 7 #[.val (.ref a1), .val (.ref a2)] [(.ref a6), (.ref a2)])) _
  obtain ⟨v7, _, ⟨T7, L7, k7, n7⟩, -, X7, ⟨Lc7, hQ7, l7, y7, z7⟩, st7⟩ := Jvm.LawKit.callS X6 hx (y := (⟨"java/util/Objects", "requireNonNull", "(Ljava/lang/Object;Ljava/lang/String;)Ljava/lang/Object;"⟩ : MethodName)) hown6 (mvT hZ6 (hw _ (List.mem_of_getElem? (i := 45) rfl))) (mvT hZ6 (hw _ (List.mem_of_getElem? (i := 46) rfl))) (mvT hZ6 (hw _ (List.mem_of_getElem? (i := 47) rfl))) (mvT hZ6 (hw _ (List.mem_of_getElem? (i := 48) rfl))) (by decide) (backOf (W := 0) (rm_rnn2 l Z a0 hw [] a2 a6 h6 n0 (O0.ext E6) ) hZ6 (hw _ (List.mem_of_getElem? (i := 48) rfl)) (hw _ (List.mem_of_getElem? (i := 47) rfl)) (by decide) (by decide)) (g := (mkF m 7 #[.val (.ref a1), .val (.ref a2)] [(.ref a6), (.ref a2)])) rfl (by rw [hml]; rfl) (argsL := [(.ref a2), (.ref a6)]) (rest := []) (lenOf pd_1 rfl) rfl (by show 2 * 0 + _ ≤ _; exact Nat.le_of_eq rfl) (hb hby d_prog_77_m1_7) (fun _ _ => ⟨rfl, e6, (by decide : 2 + 0 ≤ _), (by decide : 20 + 0 ≤ _)⟩)
  dsimp only [Pt.U, Pt.locs, Pt.cells, Pt.slots] at X7 l7 y7 z7 st7 hQ7
  subst l7 y7 z7
  refine own_go st7 ?_
  obtain ⟨rfl, Nq7, e7⟩ := hQ7
  have N7 := Fr.app N5 Nq7
  show own_Go p e below (T7.setTop (mkF m 10 #[.val (.ref a1), .val (.ref a2)] [(.ref a2)])) _
  refine own_go (fun _ k => XS.pop X7.here hx rfl (hb hby d_prog_77_m1_10) rfl rfl k) ?_
  show own_Go p e below (T7.setTop (mkF m 11 #[.val (.ref a1), .val (.ref a2)] [])) _
  refine own_go (fun _ k => XS.aloadN X7.here hx rfl (hb hby d_prog_77_m1_11) rfl rfl k) ?_
  show own_Go p e below (T7.setTop (mkF m 12 #[.val (.ref a1), .val (.ref a2)] [(.ref a1)])) _
  refine own_go (fun _ k => XS.aloadN X7.here hx rfl (hb hby d_prog_77_m1_12) rfl rfl k) ?_
  show own_Go p e below (T7.setTop (mkF m 13 #[.val (.ref a1), .val (.ref a2)] [(.ref a2), (.ref a1)])) _
  obtain ⟨T8, h8, X8, e8, W8, st8⟩ := putF X7 hx hZ6 hown6 (host := "") (Or.inl (hw _ (List.mem_of_getElem? (i := 49) rfl))) Via.refl e7 (F_name.ext E6) (E_a.ext E6) (Or.inr ⟨(hw _ (List.mem_of_getElem? (i := 50) rfl)), rfl, hnm⟩) (hw _ (List.mem_of_getElem? (i := 31) rfl)) (ty := (.object "java/lang/String")) (by decide) rfl rfl (g := (mkF m 13 #[.val (.ref a1), .val (.ref a2)] [(.ref a2), (.ref a1)])) rfl rfl (hb hby d_prog_77_m1_13)
  refine own_go st8 ?_
  have N8 := Fr.snoc X8 N7 g_a
  have Fw8 := (F_name.ext E6).same W8
  show own_Go p e below (T8.setTop (mkF m 16 #[.val (.ref a1), .val (.ref a2)] [])) _
  have f9 := (((Keep.refl h0 [a1]).ext E6).wr W8 (Or.inl (List.mem_of_getElem? (i := 0) rfl)))
  refine own_finW (v := none) X8 hh hZ6 hS6 (by rw [e8]; exact (Nat.le_trans hk6 (Keep.of_wr W8).1)) (fun _ => rfl) hlk (fun fs hr => X8.returnOut hx hrt (hb hby d_prog_77_m1_16) hr) (QQ := Q_rm_var Z a1 a2 h0 n0) ?_ own_hEL e8 (own_chr0 (Nat.le_trans E6.1 (Keep.of_wr W8).1)) (by decide) (by decide)
  rw [e8]
  exact ⟨rfl, N8, f9, Fw8⟩

def Q_rm_cc (Z : State) (a1 : Addr) (a2 : Addr) (a3 : Addr) (a4 : Addr) (p5 : Int32) (h0 : Heap) (n0 : Nat) (v : Option Value) (h : Heap) (L : List Loc) : Prop := v = none ∧ Fr n0 L ∧ Keep h0 h [a1] ∧ Fld Z h a1 "com/example/rederive/rederive/Constraint$ClosureCall" "from" "Lcom/example/rederive/rederive/Variable;" (.ref a3) ∧ Fld Z h a1 "com/example/rederive/rederive/Constraint$ClosureCall" "to" "Lcom/example/rederive/rederive/Variable;" (.ref a4)
theorem d_prog_34_m1_0 : decode prog_34_method_1_code 0 = .ok (.aload_n 0, 1) := by decide +kernel
theorem d_prog_34_m1_1 : decode prog_34_method_1_code 1 = .ok (.invokespecial 1, 3) := by decide +kernel
theorem d_prog_34_m1_4 : decode prog_34_method_1_code 4 = .ok (.aload_n 1, 1) := by decide +kernel
theorem d_prog_34_m1_5 : decode prog_34_method_1_code 5 = .ok (.ldc 7, 2) := by decide +kernel
theorem d_prog_34_m1_7 : decode prog_34_method_1_code 7 = .ok (.invokestatic 9, 3) := by decide +kernel
theorem d_prog_34_m1_10 : decode prog_34_method_1_code 10 = .ok (.pop, 1) := by decide +kernel
theorem d_prog_34_m1_11 : decode prog_34_method_1_code 11 = .ok (.aload_n 2, 1) := by decide +kernel
theorem d_prog_34_m1_12 : decode prog_34_method_1_code 12 = .ok (.ldc 15, 2) := by decide +kernel
theorem d_prog_34_m1_14 : decode prog_34_method_1_code 14 = .ok (.invokestatic 9, 3) := by decide +kernel
theorem d_prog_34_m1_17 : decode prog_34_method_1_code 17 = .ok (.pop, 1) := by decide +kernel
theorem d_prog_34_m1_18 : decode prog_34_method_1_code 18 = .ok (.aload_n 3, 1) := by decide +kernel
theorem d_prog_34_m1_19 : decode prog_34_method_1_code 19 = .ok (.ldc 17, 2) := by decide +kernel
theorem d_prog_34_m1_21 : decode prog_34_method_1_code 21 = .ok (.invokestatic 9, 3) := by decide +kernel
theorem d_prog_34_m1_24 : decode prog_34_method_1_code 24 = .ok (.pop, 1) := by decide +kernel
theorem d_prog_34_m1_25 : decode prog_34_method_1_code 25 = .ok (.aload_n 0, 1) := by decide +kernel
theorem d_prog_34_m1_26 : decode prog_34_method_1_code 26 = .ok (.aload_n 1, 1) := by decide +kernel
theorem d_prog_34_m1_27 : decode prog_34_method_1_code 27 = .ok (.putfield 19, 3) := by decide +kernel
theorem d_prog_34_m1_30 : decode prog_34_method_1_code 30 = .ok (.aload_n 0, 1) := by decide +kernel
theorem d_prog_34_m1_31 : decode prog_34_method_1_code 31 = .ok (.aload_n 2, 1) := by decide +kernel
theorem d_prog_34_m1_32 : decode prog_34_method_1_code 32 = .ok (.putfield 24, 3) := by decide +kernel
theorem d_prog_34_m1_35 : decode prog_34_method_1_code 35 = .ok (.aload_n 0, 1) := by decide +kernel
theorem d_prog_34_m1_36 : decode prog_34_method_1_code 36 = .ok (.aload_n 3, 1) := by decide +kernel
theorem d_prog_34_m1_37 : decode prog_34_method_1_code 37 = .ok (.putfield 27, 3) := by decide +kernel
theorem d_prog_34_m1_40 : decode prog_34_method_1_code 40 = .ok (.aload_n 0, 1) := by decide +kernel
theorem d_prog_34_m1_41 : decode prog_34_method_1_code 41 = .ok (.iload 4, 2) := by decide +kernel
theorem d_prog_34_m1_43 : decode prog_34_method_1_code 43 = .ok (.putfield 29, 3) := by decide +kernel
theorem d_prog_34_m1_46 : decode prog_34_method_1_code 46 = .ok (.return_, 1) := by decide +kernel
theorem pn_6 : plainName "com/example/rederive/rederive/Constraint$ClosureCall" = true := by first | (simp [plainName, overriddenIn]; done) | decide +kernel
theorem ef_rm_cc (m : MethodId) (x0 : Addr) (x1 : Addr) (x2 : Addr) (x3 : Addr) (x4 : Int32) : entryFrame m #[(.ref x0), (.ref x1), (.ref x2), (.ref x3), (.int x4)] 5 = mkF m 0 #[.val (.ref x0), .val (.ref x1), .val (.ref x2), .val (.ref x3), .val (.int x4)] [] := by
   first | (simp [entryFrame, mkF, argsToLocals, Value.category]; done) | rfl
set_option maxRecDepth 65536 in
set_option maxHeartbeats 40000000 in
theorem rm_cc (l : Launch) (Z : State) (a0 : Array Value) (hw : ∀ d ∈ tables_1, d.before a0 Z = true) (ws : List Jvm.Cond) (a1 : Addr) (a2 : Addr) (a3 : Addr) (a4 : Addr) (p5 : Int32) (h0 : Heap) (n0 : Nat) (O0 : Old Z n0 h0) (E_a : Exa Z h0 a1 "com/example/rederive/rederive/Constraint$ClosureCall") (F_pattern : Fld Z h0 a1 "com/example/rederive/rederive/Constraint$ClosureCall" "pattern" "Ljava/lang/String;" .null) (F_from : Fld Z h0 a1 "com/example/rederive/rederive/Constraint$ClosureCall" "from" "Lcom/example/rederive/rederive/Variable;" .null) (F_to : Fld Z h0 a1 "com/example/rederive/rederive/Constraint$ClosureCall" "to" "Lcom/example/rederive/rederive/Variable;" .null) (F_reflexive : Fld Z h0 a1 "com/example/rederive/rederive/Constraint$ClosureCall" "reflexive" "Z" (.int (0 : Int32))) (g_a : n0 ≤ a1) :
    MetFree l (⟨"com/example/rederive/rederive/Constraint$ClosureCall", "<init>", "(Ljava/lang/String;Lcom/example/rederive/rederive/Variable;Lcom/example/rederive/rederive/Variable;Z)V"⟩ : MethodName) (head1 (Jvm.Cond.code (⟨"com/example/rederive/rederive/Constraint$ClosureCall", "<init>", "(Ljava/lang/String;Lcom/example/rederive/rederive/Variable;Lcom/example/rederive/rederive/Variable;Z)V"⟩ : MethodName) prog_34_method_1_code 5 none :: ws) ({ frames := 2, cells := 6, slots := 64, locals := 24 } : Room)) (fun a U => a = #[(.ref a1), (.ref a2), (.ref a3), (.ref a4), (.int p5)] ∧ Z.Warmed39 U.vm ∧ U.heap = h0 ∧ CHv Z own_EL U.vm h0) (fun _ _ _ _ _ => True) (fun _ U o U' => ∃ v L, o = .returned v ∧ Q_rm_cc Z a1 a2 a3 a4 p5 h0 n0 v U'.heap L ∧ CHr Z own_EL U.vm U.heap U'.vm U'.heap ∧ ReturnedEndW U o U' L 6 64) := by
  refine MetFree.of_bodySF (plainFor_of_name pn_6) hisR ?_
  intro p e s m args below meth c s₁ Bd hml0 hP hK
  obtain ⟨rfl, hZ, hh, hC0⟩ := hP
  have hx := Bd.exec
  have hby := Bd.bytes
  have hml : c.maxLocals = 5 := hml0
  have hown : s.vm.findClass "com/example/rederive/rederive/Constraint$ClosureCall" = some m.cls := findClass_of_methodNamed Bd.named
  have hnm := (name_of_methodNamed Bd.named Bd.method).1
  have hrt := Bd.returns
  have hlk : meth.locks = false := Bd.notSynchronized
  have X0 : Stand p l e ({ frames := 2, cells := 6, slots := 64, locals := 24 } : Room) (s.setVm s.vm) m #[(.ref a1), (.ref a2), (.ref a3), (.ref a4), (.int p5)] below meth c s₁ [] 0 0 := Stand.of_body Bd
  have e0 : s₁.heap = h0 := by rw [← hh, Bd.state]; rfl
  have N0 := Fr.nil n0
  have Z0 : n0 ≤ h0.size := O0.1 ▸ O0.2.1
  have hS0 : s.Since s.vm 0 := (State.WarmedH.refl s).since 0
  have C0 : CHr Z own_EL s.vm h0 s.vm h0 := CHr.refl hC0
  have own_wS := own_wSt hw
  have own_hEL := own_hELt hw
  show own_Go p e below (s₁.setTop (entryFrame m #[(.ref a1), (.ref a2), (.ref a3), (.ref a4), (.int p5)] 5)) (fun o U' => ∃ v L, o = .returned v ∧ Q_rm_cc Z a1 a2 a3 a4 p5 h0 n0 v U'.heap L ∧ CHr Z own_EL s.vm s.heap U'.vm U'.heap ∧ ReturnedEndW s o U' L 6 64)
  refine own_go (fun _ k => castTop (ef_rm_cc m a1 a2 a3 a4 p5) k) ?_
  show own_Go p e below (s₁.setTop (mkF m 0 #[.val (.ref a1), .val (.ref a2), .val (.ref a3), .val (.ref a4), .val (.int p5)] [])) _
  refine own_go (fun _ k => XS.aloadN X0.here hx rfl (hb hby d_prog_34_m1_0) rfl rfl k) ?_
  show own_Go p e below (s₁.setTop (mkF m 1 #[.val (.ref a1), .val (.ref a2), .val (.ref a3), .val (.ref a4), .val (.int p5)] [(.ref a1)])) _
  obtain ⟨v10, _, ⟨T10, L10, k10, n10⟩, -, X10, ⟨Lc10, hQ10, l10, y10, z10⟩, st10⟩ := X0.specialBack hx (y := (⟨"java/lang/Record", "<init>", "()V"⟩ : MethodName)) rfl hown (mvT hZ (hw _ (List.mem_of_getElem? (i := 57) rfl))) (mvT hZ (hw _ (List.mem_of_getElem? (i := 37) rfl))) (mvT hZ (hw _ (List.mem_of_getElem? (i := 40) rfl))) (by decide) (backOf (W := 0) (rm_rec l Z a0 hw [] a1 h0 n0 O0 ) hZ (hw _ (List.mem_of_getElem? (i := 40) rfl)) (hw _ (List.mem_of_getElem? (i := 39) rfl)) (by decide) (by decide)) (g := (mkF m 1 #[.val (.ref a1), .val (.ref a2), .val (.ref a3), .val (.ref a4), .val (.int p5)] [(.ref a1)])) rfl (by rw [hml]; rfl) (Steps.refl _) (a := a1) (argsL := []) (rest := []) (lenOf pd_0 rfl) rfl (by show 2 * 0 + _ ≤ _; exact Nat.le_of_eq rfl) (hb hby d_prog_34_m1_1) (fun _ _ => ⟨rfl, e0, (by decide : 0 + 0 ≤ _), (by decide : 0 + 0 ≤ _)⟩)
  dsimp only [Pt.U, Pt.locs, Pt.cells, Pt.slots] at X10 l10 y10 z10 st10 hQ10
  subst l10 y10 z10
  refine own_gos st10 ?_
  obtain ⟨rfl, Nq10, e10⟩ := hQ10
  have N10 := Fr.app N0 Nq10
  show own_Go p e below (T10.setTop (mkF m 4 #[.val (.ref a1), .val (.ref a2), .val (.ref a3), .val (.ref a4), .val (.int p5)] [])) _
  refine own_go (fun _ k => XS.aloadN X10.here hx rfl (hb hby d_prog_34_m1_4) rfl rfl k) ?_
  show own_Go p e below (T10.setTop (mkF m 5 #[.val (.ref a1), .val (.ref a2), .val (.ref a3), .val (.ref a4), .val (.int p5)] [(.ref a2)])) _
  obtain ⟨a11, T11, h11, k111, X11, e11, E11, hS11, hk11, hZ11, hown11, A11, Li11, st11⟩ := ldcOH X10 hx hZ hown (hw _ (List.mem_of_getElem? (i := 58) rfl)) own_wS e10 hS0 (Nat.zero_le _) own_hEL own_chv0 (g := (mkF m 5 #[.val (.ref a1), .val (.ref a2), .val (.ref a3), .val (.ref a4), .val (.int p5)] [(.ref a2)])) rfl (hb hby d_prog_34_m1_5) (n := 28) (by decide) (by decide) (by decide) (by decide)
  refine own_go st11 ?_
  show own_Go p e below (T11.setTop (mkF m 7 #[.val (.ref a1), .val (.ref a2), .val (.ref a3), .val (.ref a4), .val (.int p5)] [(.ref a11), (.ref a2)])) _
  obtain ⟨v12, _, ⟨T12, L12, k12, n12⟩, -, X12, ⟨Lc12, hQ12, l12, y12, z12⟩, st12⟩ := Jvm.LawKit.callS X11 hx (y := (⟨"java/util/Objects", "requireNonNull", "(Ljava/lang/Object;Ljava/lang/String;)Ljava/lang/Object;"⟩ : MethodName)) hown11 (mvT hZ11 (hw _ (List.mem_of_getElem? (i := 59) rfl))) (mvT hZ11 (hw _ (List.mem_of_getElem? (i := 46) rfl))) (mvT hZ11 (hw _ (List.mem_of_getElem? (i := 47) rfl))) (mvT hZ11 (hw _ (List.mem_of_getElem? (i := 48) rfl))) (by decide) (backOf (W := 0) (rm_rnn2 l Z a0 hw [] a2 a11 h11 n0 (O0.ext E11) ) hZ11 (hw _ (List.mem_of_getElem? (i := 48) rfl)) (hw _ (List.mem_of_getElem? (i := 47) rfl)) (by decide) (by decide)) (g := (mkF m 7 #[.val (.ref a1), .val (.ref a2), .val (.ref a3), .val (.ref a4), .val (.int p5)] [(.ref a11), (.ref a2)])) rfl (by rw [hml]; rfl) (argsL := [(.ref a2), (.ref a11)]) (rest := []) (lenOf pd_1 rfl) rfl (by show 2 * 0 + _ ≤ _; exact Nat.le_of_eq rfl) (hb hby d_prog_34_m1_7) (fun _ _ => ⟨rfl, e11, (by decide : 2 + 0 ≤ _), (by decide : 32 + 0 ≤ _)⟩)
  dsimp only [Pt.U, Pt.locs, Pt.cells, Pt.slots] at X12 l12 y12 z12 st12 hQ12
  subst l12 y12 z12
  refine own_go st12 ?_
  obtain ⟨rfl, Nq12, e12⟩ := hQ12
  have N12 := Fr.app N10 Nq12
  show own_Go p e below (T12.setTop (mkF m 10 #[.val (.ref a1), .val (.ref a2), .val (.ref a3), .val (.ref a4), .val (.int p5)] [(.ref a2)])) _
  refine own_go (fun _ k => XS.pop X12.here hx rfl (hb hby d_prog_34_m1_10) rfl rfl k) ?_
  show own_Go p e below (T12.setTop (mkF m 11 #[.val (.ref a1), .val (.ref a2), .val (.ref a3), .val (.ref a4), .val (.int p5)] [])) _
  refine own_go (fun _ k => XS.aloadN X12.here hx rfl (hb hby d_prog_34_m1_11) rfl rfl k) ?_
  show own_Go p e below (T12.setTop (mkF m 12 #[.val (.ref a1), .val (.ref a2), .val (.ref a3), .val (.ref a4), .val (.int p5)] [(.ref a3)])) _
  obtain ⟨a13, T13, h13, k113, X13, e13, E13, hS13, hk13, hZ13, hown13, A13, Li13, st13⟩ := ldcOH X12 hx hZ11 hown11 (hw _ (List.mem_of_getElem? (i := 60) rfl)) own_wS e12 hS11 hk11 own_hEL own_chv0 (g := (mkF m 12 #[.val (.ref a1), .val (.ref a2), .val (.ref a3), .val (.ref a4), .val (.int p5)] [(.ref a3)])) rfl (hb hby d_prog_34_m1_12) (n := 16) (by decide) (by decide) (by decide) (by decide)
  refine own_go st13 ?_
  show own_Go p e below (T13.setTop (mkF m 14 #[.val (.ref a1), .val (.ref a2), .val (.ref a3), .val (.ref a4), .val (.int p5)] [(.ref a13), (.ref a3)])) _
  obtain ⟨v14, _, ⟨T14, L14, k14, n14⟩, -, X14, ⟨Lc14, hQ14, l14, y14, z14⟩, st14⟩ := Jvm.LawKit.callS X13 hx (y := (⟨"java/util/Objects", "requireNonNull", "(Ljava/lang/Object;Ljava/lang/String;)Ljava/lang/Object;"⟩ : MethodName)) hown13 (mvT hZ13 (hw _ (List.mem_of_getElem? (i := 59) rfl))) (mvT hZ13 (hw _ (List.mem_of_getElem? (i := 46) rfl))) (mvT hZ13 (hw _ (List.mem_of_getElem? (i := 47) rfl))) (mvT hZ13 (hw _ (List.mem_of_getElem? (i := 48) rfl))) (by decide) (backOf (W := 0) (rm_rnn2 l Z a0 hw [] a3 a13 h13 n0 ((O0.ext E11).ext E13) ) hZ13 (hw _ (List.mem_of_getElem? (i := 48) rfl)) (hw _ (List.mem_of_getElem? (i := 47) rfl)) (by decide) (by decide)) (g := (mkF m 14 #[.val (.ref a1), .val (.ref a2), .val (.ref a3), .val (.ref a4), .val (.int p5)] [(.ref a13), (.ref a3)])) rfl (by rw [hml]; rfl) (argsL := [(.ref a3), (.ref a13)]) (rest := []) (lenOf pd_1 rfl) rfl (by show 2 * 0 + _ ≤ _; exact Nat.le_of_eq rfl) (hb hby d_prog_34_m1_14) (fun _ _ => ⟨rfl, e13, (by decide : 4 + 0 ≤ _), (by decide : 52 + 0 ≤ _)⟩)
  dsimp only [Pt.U, Pt.locs, Pt.cells, Pt.slots] at X14 l14 y14 z14 st14 hQ14
  subst l14 y14 z14
  refine own_go st14 ?_
  obtain ⟨rfl, Nq14, e14⟩ := hQ14
  have N14 := Fr.app N12 Nq14
  show own_Go p e below (T14.setTop (mkF m 17 #[.val (.ref a1), .val (.ref a2), .val (.ref a3), .val (.ref a4), .val (.int p5)] [(.ref a3)])) _
  refine own_go (fun _ k => XS.pop X14.here hx rfl (hb hby d_prog_34_m1_17) rfl rfl k) ?_
  show own_Go p e below (T14.setTop (mkF m 18 #[.val (.ref a1), .val (.ref a2), .val (.ref a3), .val (.ref a4), .val (.int p5)] [])) _
  refine own_go (fun _ k => XS.aloadN X14.here hx rfl (hb hby d_prog_34_m1_18) rfl rfl k) ?_
  show own_Go p e below (T14.setTop (mkF m 19 #[.val (.ref a1), .val (.ref a2), .val (.ref a3), .val (.ref a4), .val (.int p5)] [(.ref a4)])) _
  obtain ⟨a15, T15, h15, k115, X15, e15, E15, hS15, hk15, hZ15, hown15, A15, Li15, st15⟩ := ldcOH X14 hx hZ13 hown13 (hw _ (List.mem_of_getElem? (i := 61) rfl)) own_wS e14 hS13 hk13 own_hEL own_chv0 (g := (mkF m 19 #[.val (.ref a1), .val (.ref a2), .val (.ref a3), .val (.ref a4), .val (.int p5)] [(.ref a4)])) rfl (hb hby d_prog_34_m1_19) (n := 8) (by decide) (by decide) (by decide) (by decide)
  refine own_go st15 ?_
  show own_Go p e below (T15.setTop (mkF m 21 #[.val (.ref a1), .val (.ref a2), .val (.ref a3), .val (.ref a4), .val (.int p5)] [(.ref a15), (.ref a4)])) _
  have f16 := (((O0.ext E11).ext E13).ext E15)
  obtain ⟨v17, _, ⟨T17, L17, k17, n17⟩, -, X17, ⟨Lc17, hQ17, l17, y17, z17⟩, st17⟩ := Jvm.LawKit.callS X15 hx (y := (⟨"java/util/Objects", "requireNonNull", "(Ljava/lang/Object;Ljava/lang/String;)Ljava/lang/Object;"⟩ : MethodName)) hown15 (mvT hZ15 (hw _ (List.mem_of_getElem? (i := 59) rfl))) (mvT hZ15 (hw _ (List.mem_of_getElem? (i := 46) rfl))) (mvT hZ15 (hw _ (List.mem_of_getElem? (i := 47) rfl))) (mvT hZ15 (hw _ (List.mem_of_getElem? (i := 48) rfl))) (by decide) (backOf (W := 0) (rm_rnn2 l Z a0 hw [] a4 a15 h15 n0 f16 ) hZ15 (hw _ (List.mem_of_getElem? (i := 48) rfl)) (hw _ (List.mem_of_getElem? (i := 47) rfl)) (by decide) (by decide)) (g := (mkF m 21 #[.val (.ref a1), .val (.ref a2), .val (.ref a3), .val (.ref a4), .val (.int p5)] [(.ref a15), (.ref a4)])) rfl (by rw [hml]; rfl) (argsL := [(.ref a4), (.ref a15)]) (rest := []) (lenOf pd_1 rfl) rfl (by show 2 * 0 + _ ≤ _; exact Nat.le_of_eq rfl) (hb hby d_prog_34_m1_21) (fun _ _ => ⟨rfl, e15, (by decide : 6 + 0 ≤ _), (by decide : 64 + 0 ≤ _)⟩)
  dsimp only [Pt.U, Pt.locs, Pt.cells, Pt.slots] at X17 l17 y17 z17 st17 hQ17
  subst l17 y17 z17
  refine own_go st17 ?_
  obtain ⟨rfl, Nq17, e17⟩ := hQ17
  have N17 := Fr.app N14 Nq17
  show own_Go p e below (T17.setTop (mkF m 24 #[.val (.ref a1), .val (.ref a2), .val (.ref a3), .val (.ref a4), .val (.int p5)] [(.ref a4)])) _
  refine own_go (fun _ k => XS.pop X17.here hx rfl (hb hby d_prog_34_m1_24) rfl rfl k) ?_
  show own_Go p e below (T17.setTop (mkF m 25 #[.val (.ref a1), .val (.ref a2), .val (.ref a3), .val (.ref a4), .val (.int p5)] [])) _
  refine own_go (fun _ k => XS.aloadN X17.here hx rfl (hb hby d_prog_34_m1_25) rfl rfl k) ?_
  show own_Go p e below (T17.setTop (mkF m 26 #[.val (.ref a1), .val (.ref a2), .val (.ref a3), .val (.ref a4), .val (.int p5)] [(.ref a1)])) _
  refine own_go (fun _ k => XS.aloadN X17.here hx rfl (hb hby d_prog_34_m1_26) rfl rfl k) ?_
  show own_Go p e below (T17.setTop (mkF m 27 #[.val (.ref a1), .val (.ref a2), .val (.ref a3), .val (.ref a4), .val (.int p5)] [(.ref a2), (.ref a1)])) _
  have f18 := (((F_pattern.ext E11).ext E13).ext E15)
  have f19 := (((E_a.ext E11).ext E13).ext E15)
  obtain ⟨T20, h20, X20, e20, W20, st20⟩ := putF X17 hx hZ15 hown15 (host := "") (Or.inl (hw _ (List.mem_of_getElem? (i := 62) rfl))) Via.refl e17 f18 f19 (Or.inr ⟨(hw _ (List.mem_of_getElem? (i := 63) rfl)), rfl, hnm⟩) (hw _ (List.mem_of_getElem? (i := 52) rfl)) (ty := (.object "java/lang/String")) (by decide) rfl rfl (g := (mkF m 27 #[.val (.ref a1), .val (.ref a2), .val (.ref a3), .val (.ref a4), .val (.int p5)] [(.ref a2), (.ref a1)])) rfl rfl (hb hby d_prog_34_m1_27)
  refine own_go st20 ?_
  have N20 := Fr.snoc X20 N17 g_a
  have Fw20 := f18.same W20
  show own_Go p e below (T20.setTop (mkF m 30 #[.val (.ref a1), .val (.ref a2), .val (.ref a3), .val (.ref a4), .val (.int p5)] [])) _
  refine own_go (fun _ k => XS.aloadN X20.here hx rfl (hb hby d_prog_34_m1_30) rfl rfl k) ?_
  show own_Go p e below (T20.setTop (mkF m 31 #[.val (.ref a1), .val (.ref a2), .val (.ref a3), .val (.ref a4), .val (.int p5)] [(.ref a1)])) _
  refine own_go (fun _ k => XS.aloadN X20.here hx rfl (hb hby d_prog_34_m1_31) rfl rfl k) ?_
  show own_Go p e below (T20.setTop (mkF m 32 #[.val (.ref a1), .val (.ref a2), .val (.ref a3), .val (.ref a4), .val (.int p5)] [(.ref a3), (.ref a1)])) _
  have f21 := ((((F_from.ext E11).ext E13).ext E15).other W20 (Or.inr (slot_ne (Or.inr (hw _ (List.mem_of_getElem? (i := 65) rfl))) (Or.inr (hw _ (List.mem_of_getElem? (i := 63) rfl))) (by decide) (t := (.object "com/example/rederive/rederive/Variable")) (t' := (.object "java/lang/String")) (by decide) (by decide))))
  obtain ⟨T22, h22, X22, e22, W22, st22⟩ := putF X20 hx hZ15 hown15 (host := "") (Or.inl (hw _ (List.mem_of_getElem? (i := 64) rfl))) Via.refl e20 f21 (f19.wr W20) (Or.inr ⟨(hw _ (List.mem_of_getElem? (i := 65) rfl)), rfl, hnm⟩) (hw _ (List.mem_of_getElem? (i := 52) rfl)) (ty := (.object "com/example/rederive/rederive/Variable")) (by decide) rfl rfl (g := (mkF m 32 #[.val (.ref a1), .val (.ref a2), .val (.ref a3), .val (.ref a4), .val (.int p5)] [(.ref a3), (.ref a1)])) rfl rfl (hb hby d_prog_34_m1_32)
  refine own_go st22 ?_
  have N22 := Fr.snoc X22 N20 g_a
  have Fw22 := f21.same W22
  show own_Go p e below (T22.setTop (mkF m 35 #[.val (.ref a1), .val (.ref a2), .val (.ref a3), .val (.ref a4), .val (.int p5)] [])) _
  refine own_go (fun _ k => XS.aloadN X22.here hx rfl (hb hby d_prog_34_m1_35) rfl rfl k) ?_
  show own_Go p e below (T22.setTop (mkF m 36 #[.val (.ref a1), .val (.ref a2), .val (.ref a3), .val (.ref a4), .val (.int p5)] [(.ref a1)])) _
  refine own_go (fun _ k => XS.aloadN X22.here hx rfl (hb hby d_prog_34_m1_36) rfl rfl k) ?_
  show own_Go p e below (T22.setTop (mkF m 37 #[.val (.ref a1), .val (.ref a2), .val (.ref a3), .val (.ref a4), .val (.int p5)] [(.ref a4), (.ref a1)])) _
  have f23 := (((((F_to.ext E11).ext E13).ext E15).other W20 (Or.inr (slot_ne (Or.inr (hw _ (List.mem_of_getElem? (i := 67) rfl))) (Or.inr (hw _ (List.mem_of_getElem? (i := 63) rfl))) (by decide) (t := (.object "com/example/rederive/rederive/Variable")) (t' := (.object "java/lang/String")) (by decide) (by decide)))).other W22 (Or.inr (slot_ne (Or.inr (hw _ (List.mem_of_getElem? (i := 67) rfl))) (Or.inr (hw _ (List.mem_of_getElem? (i := 65) rfl))) (by decide) (t := (.object "com/example/rederive/rederive/Variable")) (t' := (.object "com/example/rederive/rederive/Variable")) (by decide) (by decide))))
  obtain ⟨T24, h24, X24, e24, W24, st24⟩ := putF X22 hx hZ15 hown15 (host := "") (Or.inl (hw _ (List.mem_of_getElem? (i := 66) rfl))) Via.refl e22 f23 ((f19.wr W20).wr W22) (Or.inr ⟨(hw _ (List.mem_of_getElem? (i := 67) rfl)), rfl, hnm⟩) (hw _ (List.mem_of_getElem? (i := 52) rfl)) (ty := (.object "com/example/rederive/rederive/Variable")) (by decide) rfl rfl (g := (mkF m 37 #[.val (.ref a1), .val (.ref a2), .val (.ref a3), .val (.ref a4), .val (.int p5)] [(.ref a4), (.ref a1)])) rfl rfl (hb hby d_prog_34_m1_37)
  refine own_go st24 ?_
  have N24 := Fr.snoc X24 N22 g_a
  have Fw24 := f23.same W24
  show own_Go p e below (T24.setTop (mkF m 40 #[.val (.ref a1), .val (.ref a2), .val (.ref a3), .val (.ref a4), .val (.int p5)] [])) _
  refine own_go (fun _ k => XS.aloadN X24.here hx rfl (hb hby d_prog_34_m1_40) rfl rfl k) ?_
  show own_Go p e below (T24.setTop (mkF m 41 #[.val (.ref a1), .val (.ref a2), .val (.ref a3), .val (.ref a4), .val (.int p5)] [(.ref a1)])) _
  refine own_go (fun _ k => XS.iload X24.here hx rfl (hb hby d_prog_34_m1_41) rfl k) ?_
  show own_Go p e below (T24.setTop (mkF m 43 #[.val (.ref a1), .val (.ref a2), .val (.ref a3), .val (.ref a4), .val (.int p5)] [(.int p5), (.ref a1)])) _
  have f25 := ((((((F_reflexive.ext E11).ext E13).ext E15).other W20 (Or.inr (slot_ne (Or.inr (hw _ (List.mem_of_getElem? (i := 69) rfl))) (Or.inr (hw _ (List.mem_of_getElem? (i := 63) rfl))) (by decide) (t := .boolean) (t' := (.object "java/lang/String")) (by decide) (by decide)))).other W22 (Or.inr (slot_ne (Or.inr (hw _ (List.mem_of_getElem? (i := 69) rfl))) (Or.inr (hw _ (List.mem_of_getElem? (i := 65) rfl))) (by decide) (t := .boolean) (t' := (.object "com/example/rederive/rederive/Variable")) (by decide) (by decide)))).other W24 (Or.inr (slot_ne (Or.inr (hw _ (List.mem_of_getElem? (i := 69) rfl))) (Or.inr (hw _ (List.mem_of_getElem? (i := 67) rfl))) (by decide) (t := .boolean) (t' := (.object "com/example/rederive/rederive/Variable")) (by decide) (by decide))))
  have f26 := (((f19.wr W20).wr W22).wr W24)
  obtain ⟨T27, h27, X27, e27, W27, st27⟩ := putFN X24 hx hZ15 hown15 (hw _ (List.mem_of_getElem? (i := 68) rfl)) Via.refl e24 f25 f26 (Or.inr ⟨(hw _ (List.mem_of_getElem? (i := 69) rfl)), rfl, hnm⟩) (hw _ (List.mem_of_getElem? (i := 52) rfl)) (ty := .boolean) (v' := (.int (nar .boolean p5))) (by decide) rfl (fits_nar_bool _) (g := (mkF m 43 #[.val (.ref a1), .val (.ref a2), .val (.ref a3), .val (.ref a4), .val (.int p5)] [(.int p5), (.ref a1)])) rfl rfl (hb hby d_prog_34_m1_43)
  refine own_go st27 ?_
  have N27 := Fr.snoc X27 N24 g_a
  have Fw27 := f25.same W27
  show own_Go p e below (T27.setTop (mkF m 46 #[.val (.ref a1), .val (.ref a2), .val (.ref a3), .val (.ref a4), .val (.int p5)] [])) _
  have f28 := ((((((((Keep.refl h0 [a1]).ext E11).ext E13).ext E15).wr W20 (Or.inl (List.mem_of_getElem? (i := 0) rfl))).wr W22 (Or.inl (List.mem_of_getElem? (i := 0) rfl))).wr W24 (Or.inl (List.mem_of_getElem? (i := 0) rfl))).wr W27 (Or.inl (List.mem_of_getElem? (i := 0) rfl)))
  have f29 := ((Fw22.other W24 (Or.inr (slot_ne (Or.inr (hw _ (List.mem_of_getElem? (i := 65) rfl))) (Or.inr (hw _ (List.mem_of_getElem? (i := 67) rfl))) (by decide) (t := (.object "com/example/rederive/rederive/Variable")) (t' := (.object "com/example/rederive/rederive/Variable")) (by decide) (by decide)))).other W27 (Or.inr (slot_ne (Or.inr (hw _ (List.mem_of_getElem? (i := 65) rfl))) (Or.inr (hw _ (List.mem_of_getElem? (i := 69) rfl))) (by decide) (t := (.object "com/example/rederive/rederive/Variable")) (t' := .boolean) (by decide) (by decide))))
  have f30 := (Fw24.other W27 (Or.inr (slot_ne (Or.inr (hw _ (List.mem_of_getElem? (i := 67) rfl))) (Or.inr (hw _ (List.mem_of_getElem? (i := 69) rfl))) (by decide) (t := (.object "com/example/rederive/rederive/Variable")) (t' := .boolean) (by decide) (by decide))))
  have z31 := (Nat.le_trans (Nat.le_trans (Nat.le_trans (Keep.of_wr W20).1 (Keep.of_wr W22).1) (Keep.of_wr W24).1) (Keep.of_wr W27).1)
  have z32 := (Nat.le_trans (Nat.le_trans (Nat.le_trans (Nat.le_trans (Nat.le_trans (Nat.le_trans E11.1 E13.1) E15.1) (Keep.of_wr W20).1) (Keep.of_wr W22).1) (Keep.of_wr W24).1) (Keep.of_wr W27).1)
  refine own_finW (v := none) X27 hh hZ15 hS15 (by rw [e27]; exact (Nat.le_trans hk15 z31)) (fun _ => rfl) hlk (fun fs hr => X27.returnOut hx hrt (hb hby d_prog_34_m1_46) hr) (QQ := Q_rm_cc Z a1 a2 a3 a4 p5 h0 n0) ?_ own_hEL e27 (own_chr0 z32) (by decide) (by decide)
  rw [e27]
  exact ⟨rfl, N27, f28, f29, f30⟩

def Q_rm_l12 (Z : State) (a1 : Addr) (a2 : Addr) (a3 : Addr) (h0 : Heap) (n0 : Nat) (v : Option Value) (h : Heap) (L : List Loc) : Prop := v = none ∧ Fr n0 L ∧ Keep h0 h [a1] ∧ Fld Z h a1 "java/util/ImmutableCollections$List12" "e0" "Ljava/lang/Object;" (.ref a2) ∧ Fld Z h a1 "java/util/ImmutableCollections$List12" "e1" "Ljava/lang/Object;" (.ref a3)
theorem d_jdk_44_m2_0 : decode jdk_44_method_2_code 0 = .ok (.aload_n 0, 1) := by decide +kernel
theorem d_jdk_44_m2_1 : decode jdk_44_method_2_code 1 = .ok (.invokespecial 1, 3) := by decide +kernel
theorem d_jdk_44_m2_4 : decode jdk_44_method_2_code 4 = .ok (.aload_n 0, 1) := by decide +kernel
theorem d_jdk_44_m2_5 : decode jdk_44_method_2_code 5 = .ok (.aload_n 1, 1) := by decide +kernel
theorem d_jdk_44_m2_6 : decode jdk_44_method_2_code 6 = .ok (.invokestatic 7, 3) := by decide +kernel
theorem pd_2 : parseMethodDescriptor "(Ljava/lang/Object;)Ljava/lang/Object;" = some ⟨[(.object "java/lang/Object")], some (.object "java/lang/Object")⟩ := by decide +kernel
theorem d_jdk_44_m2_9 : decode jdk_44_method_2_code 9 = .ok (.putfield 13, 3) := by decide +kernel
theorem d_jdk_44_m2_12 : decode jdk_44_method_2_code 12 = .ok (.aload_n 0, 1) := by decide +kernel
theorem d_jdk_44_m2_13 : decode jdk_44_method_2_code 13 = .ok (.aload_n 2, 1) := by decide +kernel
theorem d_jdk_44_m2_14 : decode jdk_44_method_2_code 14 = .ok (.invokestatic 7, 3) := by decide +kernel
theorem d_jdk_44_m2_17 : decode jdk_44_method_2_code 17 = .ok (.putfield 24, 3) := by decide +kernel
theorem d_jdk_44_m2_20 : decode jdk_44_method_2_code 20 = .ok (.return_, 1) := by decide +kernel
theorem pn_7 : plainName "java/util/ImmutableCollections$List12" = true := by first | (simp [plainName, overriddenIn]; done) | decide +kernel
theorem ef_rm_l12 (m : MethodId) (x0 : Addr) (x1 : Addr) (x2 : Addr) : entryFrame m #[(.ref x0), (.ref x1), (.ref x2)] 3 = mkF m 0 #[.val (.ref x0), .val (.ref x1), .val (.ref x2)] [] := by
   first | (simp [entryFrame, mkF, argsToLocals, Value.category]; done) | rfl
set_option maxRecDepth 65536 in
set_option maxHeartbeats 40000000 in
theorem rm_l12 (l : Launch) (Z : State) (a0 : Array Value) (hw : ∀ d ∈ tables_1, d.before a0 Z = true) (ws : List Jvm.Cond) (a1 : Addr) (a2 : Addr) (a3 : Addr) (h0 : Heap) (n0 : Nat) (O0 : Old Z n0 h0) (E_a : Exa Z h0 a1 "java/util/ImmutableCollections$List12") (F_e0 : Fld Z h0 a1 "java/util/ImmutableCollections$List12" "e0" "Ljava/lang/Object;" .null) (F_e1 : Fld Z h0 a1 "java/util/ImmutableCollections$List12" "e1" "Ljava/lang/Object;" .null) (g_a : n0 ≤ a1) :
    MetFree l (⟨"java/util/ImmutableCollections$List12", "<init>", "(Ljava/lang/Object;Ljava/lang/Object;)V"⟩ : MethodName) (head1 (Jvm.Cond.code (⟨"java/util/ImmutableCollections$List12", "<init>", "(Ljava/lang/Object;Ljava/lang/Object;)V"⟩ : MethodName) jdk_44_method_2_code 3 none :: ws) ({ frames := 4, cells := 0, slots := 0, locals := 48 } : Room)) (fun a U => a = #[(.ref a1), (.ref a2), (.ref a3)] ∧ Z.Warmed39 U.vm ∧ U.heap = h0) (fun _ _ _ _ _ => True) (fun _ U o U' => ∃ v L, o = .returned v ∧ Q_rm_l12 Z a1 a2 a3 h0 n0 v U'.heap L ∧ FrameEnd U o U' L 0 0) := by
  refine MetFree.of_bodySF (plainFor_of_name pn_7) hisR ?_
  intro p e s m args below meth c s₁ Bd hml0 hP hK
  obtain ⟨rfl, hZ, hh⟩ := hP
  have hx := Bd.exec
  have hby := Bd.bytes
  have hml : c.maxLocals = 3 := hml0
  have hown : s.vm.findClass "java/util/ImmutableCollections$List12" = some m.cls := findClass_of_methodNamed Bd.named
  have hnm := (name_of_methodNamed Bd.named Bd.method).1
  have hrt := Bd.returns
  have hlk : meth.locks = false := Bd.notSynchronized
  have X0 : Stand p l e ({ frames := 4, cells := 0, slots := 0, locals := 48 } : Room) s m #[(.ref a1), (.ref a2), (.ref a3)] below meth c s₁ [] 0 0 := Stand.of_body Bd
  have e0 : s₁.heap = h0 := by rw [← hh, Bd.state]; rfl
  have N0 := Fr.nil n0
  have Z0 : n0 ≤ h0.size := O0.1 ▸ O0.2.1
  show own_Go p e below (s₁.setTop (entryFrame m #[(.ref a1), (.ref a2), (.ref a3)] 3)) (fun o U' => ∃ v L, o = .returned v ∧ Q_rm_l12 Z a1 a2 a3 h0 n0 v U'.heap L ∧ FrameEnd s o U' L 0 0)
  refine own_go (fun _ k => castTop (ef_rm_l12 m a1 a2 a3) k) ?_
  show own_Go p e below (s₁.setTop (mkF m 0 #[.val (.ref a1), .val (.ref a2), .val (.ref a3)] [])) _
  refine own_go (fun _ k => XS.aloadN X0.here hx rfl (hb hby d_jdk_44_m2_0) rfl rfl k) ?_
  show own_Go p e below (s₁.setTop (mkF m 1 #[.val (.ref a1), .val (.ref a2), .val (.ref a3)] [(.ref a1)])) _
  obtain ⟨v33, _, ⟨T33, L33, k33, n33⟩, -, X33, ⟨Lc33, hQ33, l33, y33, z33⟩, st33⟩ := X0.specialBack hx (y := (⟨"java/util/ImmutableCollections$AbstractImmutableList", "<init>", "()V"⟩ : MethodName)) rfl hown (mvT hZ (hw _ (List.mem_of_getElem? (i := 86) rfl))) (mvT hZ (hw _ (List.mem_of_getElem? (i := 87) rfl))) (mvT hZ (hw _ (List.mem_of_getElem? (i := 91) rfl))) (by decide) (backOf (W := 0) (rm_ail l Z a0 hw [] a1 h0 n0 O0 ) hZ (hw _ (List.mem_of_getElem? (i := 91) rfl)) (hw _ (List.mem_of_getElem? (i := 90) rfl)) (by decide) (by decide)) (g := (mkF m 1 #[.val (.ref a1), .val (.ref a2), .val (.ref a3)] [(.ref a1)])) rfl (by rw [hml]; rfl) (Steps.refl _) (a := a1) (argsL := []) (rest := []) (lenOf pd_0 rfl) rfl (by show 2 * 0 + _ ≤ _; exact Nat.le_of_eq rfl) (hb hby d_jdk_44_m2_1) (fun _ _ => ⟨rfl, e0, (by decide : 0 + 0 ≤ _), (by decide : 0 + 0 ≤ _)⟩)
  dsimp only [Pt.U, Pt.locs, Pt.cells, Pt.slots] at X33 l33 y33 z33 st33 hQ33
  subst l33 y33 z33
  refine own_gos st33 ?_
  obtain ⟨rfl, Nq33, e33⟩ := hQ33
  have N33 := Fr.app N0 Nq33
  show own_Go p e below (T33.setTop (mkF m 4 #[.val (.ref a1), .val (.ref a2), .val (.ref a3)] [])) _
  refine own_go (fun _ k => XS.aloadN X33.here hx rfl (hb hby d_jdk_44_m2_4) rfl rfl k) ?_
  show own_Go p e below (T33.setTop (mkF m 5 #[.val (.ref a1), .val (.ref a2), .val (.ref a3)] [(.ref a1)])) _
  refine own_go (fun _ k => XS.aloadN X33.here hx rfl (hb hby d_jdk_44_m2_5) rfl rfl k) ?_
  show own_Go p e below (T33.setTop (mkF m 6 #[.val (.ref a1), .val (.ref a2), .val (.ref a3)] [(.ref a2), (.ref a1)])) _
  obtain ⟨v34, _, ⟨T34, L34, k34, n34⟩, -, X34, ⟨Lc34, hQ34, l34, y34, z34⟩, st34⟩ := Jvm.LawKit.callS X33 hx (y := (⟨"java/util/Objects", "requireNonNull", "(Ljava/lang/Object;)Ljava/lang/Object;"⟩ : MethodName)) hown (mvT hZ (hw _ (List.mem_of_getElem? (i := 105) rfl))) (mvT hZ (hw _ (List.mem_of_getElem? (i := 106) rfl))) (mvT hZ (hw _ (List.mem_of_getElem? (i := 47) rfl))) (mvT hZ (hw _ (List.mem_of_getElem? (i := 107) rfl))) (by decide) (backOf (W := 1) (rm_rnn1 l Z a0 hw [] a2 h0 n0 O0 ) hZ (hw _ (List.mem_of_getElem? (i := 107) rfl)) (hw _ (List.mem_of_getElem? (i := 47) rfl)) (by decide) (by decide)) (g := (mkF m 6 #[.val (.ref a1), .val (.ref a2), .val (.ref a3)] [(.ref a2), (.ref a1)])) rfl (by rw [hml]; rfl) (argsL := [(.ref a2)]) (rest := [(.ref a1)]) (lenOf pd_2 rfl) rfl (by show 2 * 0 + _ ≤ _; exact Nat.le_of_eq rfl) (hb hby d_jdk_44_m2_6) (fun _ _ => ⟨rfl, e33, (by decide : 0 + 0 ≤ _), (by decide : 0 + 0 ≤ _)⟩)
  dsimp only [Pt.U, Pt.locs, Pt.cells, Pt.slots] at X34 l34 y34 z34 st34 hQ34
  subst l34 y34 z34
  refine own_go st34 ?_
  obtain ⟨rfl, Nq34, e34⟩ := hQ34
  have N34 := Fr.app N33 Nq34
  show own_Go p e below (T34.setTop (mkF m 9 #[.val (.ref a1), .val (.ref a2), .val (.ref a3)] [(.ref a2), (.ref a1)])) _
  obtain ⟨T35, h35, X35, e35, W35, st35⟩ := putF X34 hx hZ hown (host := "") (Or.inl (hw _ (List.mem_of_getElem? (i := 108) rfl))) Via.refl e34 F_e0 E_a (Or.inr ⟨(hw _ (List.mem_of_getElem? (i := 109) rfl)), rfl, hnm⟩) (hw _ (List.mem_of_getElem? (i := 80) rfl)) (ty := (.object "java/lang/Object")) (by decide) rfl rfl (g := (mkF m 9 #[.val (.ref a1), .val (.ref a2), .val (.ref a3)] [(.ref a2), (.ref a1)])) rfl rfl (hb hby d_jdk_44_m2_9)
  refine own_go st35 ?_
  have N35 := Fr.snoc X35 N34 g_a
  have Fw35 := F_e0.same W35
  show own_Go p e below (T35.setTop (mkF m 12 #[.val (.ref a1), .val (.ref a2), .val (.ref a3)] [])) _
  refine own_go (fun _ k => XS.aloadN X35.here hx rfl (hb hby d_jdk_44_m2_12) rfl rfl k) ?_
  show own_Go p e below (T35.setTop (mkF m 13 #[.val (.ref a1), .val (.ref a2), .val (.ref a3)] [(.ref a1)])) _
  refine own_go (fun _ k => XS.aloadN X35.here hx rfl (hb hby d_jdk_44_m2_13) rfl rfl k) ?_
  show own_Go p e below (T35.setTop (mkF m 14 #[.val (.ref a1), .val (.ref a2), .val (.ref a3)] [(.ref a3), (.ref a1)])) _
  obtain ⟨v36, _, ⟨T36, L36, k36, n36⟩, -, X36, ⟨Lc36, hQ36, l36, y36, z36⟩, st36⟩ := Jvm.LawKit.callS X35 hx (y := (⟨"java/util/Objects", "requireNonNull", "(Ljava/lang/Object;)Ljava/lang/Object;"⟩ : MethodName)) hown (mvT hZ (hw _ (List.mem_of_getElem? (i := 105) rfl))) (mvT hZ (hw _ (List.mem_of_getElem? (i := 106) rfl))) (mvT hZ (hw _ (List.mem_of_getElem? (i := 47) rfl))) (mvT hZ (hw _ (List.mem_of_getElem? (i := 107) rfl))) (by decide) (backOf (W := 1) (rm_rnn1 l Z a0 hw [] a3 h35 n0 (O0.wr W35 g_a) ) hZ (hw _ (List.mem_of_getElem? (i := 107) rfl)) (hw _ (List.mem_of_getElem? (i := 47) rfl)) (by decide) (by decide)) (g := (mkF m 14 #[.val (.ref a1), .val (.ref a2), .val (.ref a3)] [(.ref a3), (.ref a1)])) rfl (by rw [hml]; rfl) (argsL := [(.ref a3)]) (rest := [(.ref a1)]) (lenOf pd_2 rfl) rfl (by show 2 * 0 + _ ≤ _; exact Nat.le_of_eq rfl) (hb hby d_jdk_44_m2_14) (fun _ _ => ⟨rfl, e35, (by decide : 0 + 0 ≤ _), (by decide : 0 + 0 ≤ _)⟩)
  dsimp only [Pt.U, Pt.locs, Pt.cells, Pt.slots] at X36 l36 y36 z36 st36 hQ36
  subst l36 y36 z36
  refine own_go st36 ?_
  obtain ⟨rfl, Nq36, e36⟩ := hQ36
  have N36 := Fr.app N35 Nq36
  show own_Go p e below (T36.setTop (mkF m 17 #[.val (.ref a1), .val (.ref a2), .val (.ref a3)] [(.ref a3), (.ref a1)])) _
  have f37 := (F_e1.other W35 (Or.inr (slot_ne (Or.inr (hw _ (List.mem_of_getElem? (i := 111) rfl))) (Or.inr (hw _ (List.mem_of_getElem? (i := 109) rfl))) (by decide) (t := (.object "java/lang/Object")) (t' := (.object "java/lang/Object")) (by decide) (by decide))))
  obtain ⟨T38, h38, X38, e38, W38, st38⟩ := putF X36 hx hZ hown (host := "") (Or.inl (hw _ (List.mem_of_getElem? (i := 110) rfl))) Via.refl e36 f37 (E_a.wr W35) (Or.inr ⟨(hw _ (List.mem_of_getElem? (i := 111) rfl)), rfl, hnm⟩) (hw _ (List.mem_of_getElem? (i := 80) rfl)) (ty := (.object "java/lang/Object")) (by decide) rfl rfl (g := (mkF m 17 #[.val (.ref a1), .val (.ref a2), .val (.ref a3)] [(.ref a3), (.ref a1)])) rfl rfl (hb hby d_jdk_44_m2_17)
  refine own_go st38 ?_
  have N38 := Fr.snoc X38 N36 g_a
  have Fw38 := f37.same W38
  show own_Go p e below (T38.setTop (mkF m 20 #[.val (.ref a1), .val (.ref a2), .val (.ref a3)] [])) _
  have f39 := (((Keep.refl h0 [a1]).wr W35 (Or.inl (List.mem_of_getElem? (i := 0) rfl))).wr W38 (Or.inl (List.mem_of_getElem? (i := 0) rfl)))
  have f40 := (Fw35.other W38 (Or.inr (slot_ne (Or.inr (hw _ (List.mem_of_getElem? (i := 109) rfl))) (Or.inr (hw _ (List.mem_of_getElem? (i := 111) rfl))) (by decide) (t := (.object "java/lang/Object")) (t' := (.object "java/lang/Object")) (by decide) (by decide))))
  refine own_fin (v := none) X38 (fun _ => rfl) hlk (fun fs hr => X38.returnOut hx hrt (hb hby d_jdk_44_m2_20) hr) (QQ := Q_rm_l12 Z a1 a2 a3 h0 n0) ?_ (by decide) (by decide)
  rw [e38]
  exact ⟨rfl, N38, f39, f40, Fw38⟩

def QL (Z : State) (a b : Addr) (h0 : Heap) (n0 : Nat) (v : Option Value) (h : Heap) (L : List Loc) : Prop := ∃ x : Addr, v = some (.ref x) ∧ Fr n0 L ∧ Keep h0 h [] ∧ h0.size ≤ x ∧ Exa Z h x "java/util/ImmutableCollections$List12" ∧ Fld Z h x "java/util/ImmutableCollections$List12" "e0" "Ljava/lang/Object;" (.ref a) ∧ Fld Z h x "java/util/ImmutableCollections$List12" "e1" "Ljava/lang/Object;" (.ref b)
theorem d_jdk_40_m38_0 : decode jdk_40_method_38_code 0 = .ok (.new 96, 3) := by decide +kernel
theorem d_jdk_40_m38_3 : decode jdk_40_method_38_code 3 = .ok (.dup, 1) := by decide +kernel
theorem d_jdk_40_m38_4 : decode jdk_40_method_38_code 4 = .ok (.aload_n 0, 1) := by decide +kernel
theorem d_jdk_40_m38_5 : decode jdk_40_method_38_code 5 = .ok (.aload_n 1, 1) := by decide +kernel
theorem d_jdk_40_m38_6 : decode jdk_40_method_38_code 6 = .ok (.invokespecial 100, 3) := by decide +kernel
theorem pd_3 : parseMethodDescriptor "(Ljava/lang/Object;Ljava/lang/Object;)V" = some ⟨[(.object "java/lang/Object"), (.object "java/lang/Object")], none⟩ := by decide +kernel
theorem d_jdk_40_m38_9 : decode jdk_40_method_38_code 9 = .ok (.areturn, 1) := by decide +kernel
theorem pn_8 : plainName "java/util/List" = true := by first | (simp [plainName, overriddenIn]; done) | decide +kernel
theorem ef_rm_of (m : MethodId) (x0 : Addr) (x1 : Addr) : entryFrame m #[(.ref x0), (.ref x1)] 2 = mkF m 0 #[.val (.ref x0), .val (.ref x1)] [] := by
   first | (simp [entryFrame, mkF, argsToLocals, Value.category]; done) | rfl
set_option maxRecDepth 65536 in
set_option maxHeartbeats 40000000 in
theorem rm_of (l : Launch) (Z : State) (a0 : Array Value) (hw : ∀ d ∈ tables_1, d.before a0 Z = true) (ws : List Jvm.Cond) (a1 : Addr) (a2 : Addr) (h0 : Heap) (n0 : Nat) (O0 : Old Z n0 h0) :
    MetFree l (⟨"java/util/List", "of", "(Ljava/lang/Object;Ljava/lang/Object;)Ljava/util/List;"⟩ : MethodName) (head1 (Jvm.Cond.code (⟨"java/util/List", "of", "(Ljava/lang/Object;Ljava/lang/Object;)Ljava/util/List;"⟩ : MethodName) jdk_40_method_38_code 2 (some (.object "java/util/List")) :: ws) ({ frames := 5, cells := 1, slots := 2, locals := 63 } : Room)) (fun a U => a = #[(.ref a1), (.ref a2)] ∧ Z.Warmed39 U.vm ∧ U.heap = h0) (fun _ _ _ _ _ => True) (fun _ U o U' => ∃ v L, o = .returned v ∧ QL Z a1 a2 h0 n0 v U'.heap L ∧ FrameEnd U o U' L 1 2) := by
  refine MetFree.of_bodySF (plainFor_of_name pn_8) hisR ?_
  intro p e s m args below meth c s₁ Bd hml0 hP hK
  obtain ⟨rfl, hZ, hh⟩ := hP
  have hx := Bd.exec
  have hby := Bd.bytes
  have hml : c.maxLocals = 2 := hml0
  have hown : s.vm.findClass "java/util/List" = some m.cls := findClass_of_methodNamed Bd.named
  have hnm := (name_of_methodNamed Bd.named Bd.method).1
  have hrt := Bd.returns
  have hlk : meth.locks = false := Bd.notSynchronized
  have X0 : Stand p l e ({ frames := 5, cells := 1, slots := 2, locals := 63 } : Room) s m #[(.ref a1), (.ref a2)] below meth c s₁ [] 0 0 := Stand.of_body Bd
  have e0 : s₁.heap = h0 := by rw [← hh, Bd.state]; rfl
  have N0 := Fr.nil n0
  have Z0 : n0 ≤ h0.size := O0.1 ▸ O0.2.1
  show own_Go p e below (s₁.setTop (entryFrame m #[(.ref a1), (.ref a2)] 2)) (fun o U' => ∃ v L, o = .returned v ∧ QL Z a1 a2 h0 n0 v U'.heap L ∧ FrameEnd s o U' L 1 2)
  refine own_go (fun _ k => castTop (ef_rm_of m a1 a2) k) ?_
  show own_Go p e below (s₁.setTop (mkF m 0 #[.val (.ref a1), .val (.ref a2)] [])) _
  obtain ⟨T41, h41, X41, e41, E41, A41, D41, U41, st41⟩ := newO X0 hx hZ hown (hw _ (List.mem_of_getElem? (i := 79) rfl)) (hw _ (List.mem_of_getElem? (i := 80) rfl)) (hw _ (List.mem_of_getElem? (i := 81) rfl)) e0 (g := (mkF m 0 #[.val (.ref a1), .val (.ref a2)] [])) rfl (hb hby d_jdk_40_m38_0) (by decide) (by decide)
  obtain ⟨b41, g41⟩ : ∃ z, z = h0.size := ⟨_, rfl⟩
  rw [← g41] at A41 D41 U41 st41
  refine own_go st41 ?_
  have F41_e0 : Fld Z h41 b41 "java/util/ImmutableCollections$List12" "e0" "Ljava/lang/Object;" .null := D41 (Or.inr (hw _ (List.mem_of_getElem? (i := 109) rfl))) (ty := (.object "java/lang/Object")) (by decide)
  have F41_e1 : Fld Z h41 b41 "java/util/ImmutableCollections$List12" "e1" "Ljava/lang/Object;" .null := D41 (Or.inr (hw _ (List.mem_of_getElem? (i := 111) rfl))) (ty := (.object "java/lang/Object")) (by decide)
  show own_Go p e below (T41.setTop (mkF m 3 #[.val (.ref a1), .val (.ref a2)] [(.ref b41)])) _
  refine own_go (fun _ k => XS.dup X41.here hx rfl (hb hby d_jdk_40_m38_3) rfl rfl k) ?_
  show own_Go p e below (T41.setTop (mkF m 4 #[.val (.ref a1), .val (.ref a2)] [(.ref b41), (.ref b41)])) _
  refine own_go (fun _ k => XS.aloadN X41.here hx rfl (hb hby d_jdk_40_m38_4) rfl rfl k) ?_
  show own_Go p e below (T41.setTop (mkF m 5 #[.val (.ref a1), .val (.ref a2)] [(.ref a1), (.ref b41), (.ref b41)])) _
  refine own_go (fun _ k => XS.aloadN X41.here hx rfl (hb hby d_jdk_40_m38_5) rfl rfl k) ?_
  show own_Go p e below (T41.setTop (mkF m 6 #[.val (.ref a1), .val (.ref a2)] [(.ref a2), (.ref a1), (.ref b41), (.ref b41)])) _
  obtain ⟨v42, _, ⟨T42, L42, k42, n42⟩, -, X42, ⟨Lc42, hQ42, l42, y42, z42⟩, st42⟩ := X41.specialBack hx (y := (⟨"java/util/ImmutableCollections$List12", "<init>", "(Ljava/lang/Object;Ljava/lang/Object;)V"⟩ : MethodName)) rfl hown (mvT hZ (hw _ (List.mem_of_getElem? (i := 82) rfl))) (mvT hZ (hw _ (List.mem_of_getElem? (i := 83) rfl))) (mvT hZ (hw _ (List.mem_of_getElem? (i := 85) rfl))) (by decide) (backOf (W := 1) (rm_l12 l Z a0 hw [] b41 a1 a2 h41 n0 (O0.ext E41) A41 F41_e0 F41_e1 (Nat.le_trans Z0 (Nat.le_of_eq g41.symm))) hZ (hw _ (List.mem_of_getElem? (i := 85) rfl)) (hw _ (List.mem_of_getElem? (i := 81) rfl)) (by decide) (by decide)) (g := (mkF m 6 #[.val (.ref a1), .val (.ref a2)] [(.ref a2), (.ref a1), (.ref b41), (.ref b41)])) rfl (by rw [hml]; rfl) (Steps.refl _) (a := b41) (argsL := [(.ref a1), (.ref a2)]) (rest := [(.ref b41)]) (lenOf pd_3 rfl) rfl (by show 2 * 0 + _ ≤ _; exact Nat.le_of_eq rfl) (hb hby d_jdk_40_m38_6) (fun _ _ => ⟨rfl, e41, (by decide : 1 + 0 ≤ _), (by decide : 2 + 0 ≤ _)⟩)
  dsimp only [Pt.U, Pt.locs, Pt.cells, Pt.slots] at X42 l42 y42 z42 st42 hQ42
  subst l42 y42 z42
  refine own_gos st42 ?_
  obtain ⟨rfl, Nq42, K42, Fk0_42, Fk1_42⟩ := hQ42
  have N42 := Fr.app N0 Nq42
  show own_Go p e below (T42.setTop (mkF m 9 #[.val (.ref a1), .val (.ref a2)] [(.ref b41)])) _
  have f43 := (((Keep.refl h0 []).ext E41).trans K42 (allS (Or.inr (Nat.le_of_eq g41.symm)) all0))
  refine own_fin (v := (some (.ref b41))) X42 (fun h => by rw [hrt] at h; cases h) hlk (fun fs hr => retR X42 hx hrt (by rfl) rfl rfl (hb hby d_jdk_40_m38_9) hr) (QQ := QL Z a1 a2 h0 n0) ?_ (by decide) (by decide)
  exact ⟨b41, rfl, N42, f43, (Nat.le_of_eq g41.symm), (A41.keep K42), Fk0_42, Fk1_42⟩

theorem d_prog_34_m2_0 : decode prog_34_method_2_code 0 = .ok (.aload_n 0, 1) := by decide +kernel
theorem d_prog_34_m2_1 : decode prog_34_method_2_code 1 = .ok (.getfield 24, 3) := by decide +kernel
theorem d_prog_34_m2_4 : decode prog_34_method_2_code 4 = .ok (.aload_n 0, 1) := by decide +kernel
theorem d_prog_34_m2_5 : decode prog_34_method_2_code 5 = .ok (.getfield 27, 3) := by decide +kernel
theorem d_prog_34_m2_8 : decode prog_34_method_2_code 8 = .ok (.invokestatic 33, 3) := by decide +kernel
theorem pd_4 : parseMethodDescriptor "(Ljava/lang/Object;Ljava/lang/Object;)Ljava/util/List;" = some ⟨[(.object "java/lang/Object"), (.object "java/lang/Object")], some (.object "java/util/List")⟩ := by decide +kernel
theorem d_prog_34_m2_11 : decode prog_34_method_2_code 11 = .ok (.areturn, 1) := by decide +kernel
theorem ef_rm_vars (m : MethodId) (x0 : Addr) : entryFrame m #[(.ref x0)] 1 = mkF m 0 #[.val (.ref x0)] [] := by
   first | (simp [entryFrame, mkF, argsToLocals, Value.category]; done) | rfl
set_option maxRecDepth 65536 in
set_option maxHeartbeats 40000000 in
theorem rm_vars (l : Launch) (Z : State) (a0 : Array Value) (hw : ∀ d ∈ tables_1, d.before a0 Z = true) (ws : List Jvm.Cond) (a1 : Addr) (a2 : Addr) (a3 : Addr) (h0 : Heap) (n0 : Nat) (O0 : Old Z n0 h0) (E_a : Exa Z h0 a1 "com/example/rederive/rederive/Constraint$ClosureCall") (F_f : Fld Z h0 a1 "com/example/rederive/rederive/Constraint$ClosureCall" "from" "Lcom/example/rederive/rederive/Variable;" (.ref a2)) (F_t : Fld Z h0 a1 "com/example/rederive/rederive/Constraint$ClosureCall" "to" "Lcom/example/rederive/rederive/Variable;" (.ref a3)) :
    MetFree l (⟨"com/example/rederive/rederive/Constraint$ClosureCall", "variables", "()Ljava/util/List;"⟩ : MethodName) (head1 (Jvm.Cond.code (⟨"com/example/rederive/rederive/Constraint$ClosureCall", "variables", "()Ljava/util/List;"⟩ : MethodName) prog_34_method_2_code 1 (some (.object "java/util/List")) :: ws) ({ frames := 6, cells := 1, slots := 2, locals := 76 } : Room)) (fun a U => a = #[(.ref a1)] ∧ Z.Warmed39 U.vm ∧ U.heap = h0) (fun _ _ _ _ _ => True) (fun _ U o U' => ∃ v L, o = .returned v ∧ QL Z a2 a3 h0 n0 v U'.heap L ∧ FrameEnd U o U' L 1 2) := by
  refine MetFree.of_bodySF (plainFor_of_name pn_6) hisR ?_
  intro p e s m args below meth c s₁ Bd hml0 hP hK
  obtain ⟨rfl, hZ, hh⟩ := hP
  have hx := Bd.exec
  have hby := Bd.bytes
  have hml : c.maxLocals = 1 := hml0
  have hown : s.vm.findClass "com/example/rederive/rederive/Constraint$ClosureCall" = some m.cls := findClass_of_methodNamed Bd.named
  have hnm := (name_of_methodNamed Bd.named Bd.method).1
  have hrt := Bd.returns
  have hlk : meth.locks = false := Bd.notSynchronized
  have X0 : Stand p l e ({ frames := 6, cells := 1, slots := 2, locals := 76 } : Room) s m #[(.ref a1)] below meth c s₁ [] 0 0 := Stand.of_body Bd
  have e0 : s₁.heap = h0 := by rw [← hh, Bd.state]; rfl
  have N0 := Fr.nil n0
  have Z0 : n0 ≤ h0.size := O0.1 ▸ O0.2.1
  show own_Go p e below (s₁.setTop (entryFrame m #[(.ref a1)] 1)) (fun o U' => ∃ v L, o = .returned v ∧ QL Z a2 a3 h0 n0 v U'.heap L ∧ FrameEnd s o U' L 1 2)
  refine own_go (fun _ k => castTop (ef_rm_vars m a1) k) ?_
  show own_Go p e below (s₁.setTop (mkF m 0 #[.val (.ref a1)] [])) _
  refine own_go (fun _ k => XS.aloadN X0.here hx rfl (hb hby d_prog_34_m2_0) rfl rfl k) ?_
  show own_Go p e below (s₁.setTop (mkF m 1 #[.val (.ref a1)] [(.ref a1)])) _
  obtain ⟨T44, X44, e44, st44⟩ := getF X0 hx hZ hown (host := "") (Or.inl (hw _ (List.mem_of_getElem? (i := 64) rfl))) Via.refl e0 F_f (g := (mkF m 1 #[.val (.ref a1)] [(.ref a1)])) rfl rfl (hb hby d_prog_34_m2_1)
  refine own_go st44 ?_
  show own_Go p e below (T44.setTop (mkF m 4 #[.val (.ref a1)] [(.ref a2)])) _
  refine own_go (fun _ k => XS.aloadN X44.here hx rfl (hb hby d_prog_34_m2_4) rfl rfl k) ?_
  show own_Go p e below (T44.setTop (mkF m 5 #[.val (.ref a1)] [(.ref a1), (.ref a2)])) _
  obtain ⟨T45, X45, e45, st45⟩ := getF X44 hx hZ hown (host := "") (Or.inl (hw _ (List.mem_of_getElem? (i := 66) rfl))) Via.refl e44 F_t (g := (mkF m 5 #[.val (.ref a1)] [(.ref a1), (.ref a2)])) rfl rfl (hb hby d_prog_34_m2_5)
  refine own_go st45 ?_
  show own_Go p e below (T45.setTop (mkF m 8 #[.val (.ref a1)] [(.ref a3), (.ref a2)])) _
  obtain ⟨v46, _, ⟨T46, L46, k46, n46⟩, -, X46, ⟨Lc46, hQ46, l46, y46, z46⟩, st46⟩ := Jvm.LawKit.callS X45 hx (y := (⟨"java/util/List", "of", "(Ljava/lang/Object;Ljava/lang/Object;)Ljava/util/List;"⟩ : MethodName)) hown (mvT hZ (hw _ (List.mem_of_getElem? (i := 75) rfl))) (mvT hZ (hw _ (List.mem_of_getElem? (i := 76) rfl))) (mvT hZ (hw _ (List.mem_of_getElem? (i := 77) rfl))) (mvT hZ (hw _ (List.mem_of_getElem? (i := 78) rfl))) (by decide) (backOf (W := 0) (rm_of l Z a0 hw [] a2 a3 h0 n0 O0 ) hZ (hw _ (List.mem_of_getElem? (i := 78) rfl)) (hw _ (List.mem_of_getElem? (i := 77) rfl)) (by decide) (by decide)) (g := (mkF m 8 #[.val (.ref a1)] [(.ref a3), (.ref a2)])) rfl (by rw [hml]; rfl) (argsL := [(.ref a2), (.ref a3)]) (rest := []) (lenOf pd_4 rfl) rfl (by show 2 * 0 + _ ≤ _; exact Nat.le_of_eq rfl) (hb hby d_prog_34_m2_8) (fun _ _ => ⟨rfl, e45, (by decide : 0 + 1 ≤ _), (by decide : 0 + 2 ≤ _)⟩)
  dsimp only [Pt.U, Pt.locs, Pt.cells, Pt.slots] at X46 l46 y46 z46 st46 hQ46
  subst l46 y46 z46
  refine own_go st46 ?_
  obtain ⟨x46, rfl, Nq46, K46, xg46, Ex46, F046, F146⟩ := hQ46
  have N46 := Fr.app N0 Nq46
  show own_Go p e below (T46.setTop (mkF m 11 #[.val (.ref a1)] [(.ref x46)])) _
  have f47 := ((Keep.refl h0 []).trans K46 all0)
  refine own_fin (v := (some (.ref x46))) X46 (fun h => by rw [hrt] at h; cases h) hlk (fun fs hr => retR X46 hx hrt (by rfl) rfl rfl (hb hby d_prog_34_m2_11) hr) (QQ := QL Z a2 a3 h0 n0) ?_ (by decide) (by decide)
  exact ⟨x46, rfl, N46, f47, xg46, Ex46, F046, F146⟩

theorem d_jdk_44_m3_0 : decode jdk_44_method_3_code 0 = .ok (.aload_n 0, 1) := by decide +kernel
theorem d_jdk_44_m3_1 : decode jdk_44_method_3_code 1 = .ok (.getfield 24, 3) := by decide +kernel
theorem d_jdk_44_m3_4 : decode jdk_44_method_3_code 4 = .ok (.getstatic 19, 3) := by decide +kernel
theorem d_jdk_44_m3_7 : decode jdk_44_method_3_code 7 = .ok (.if_acmp .eq 7, 3) := by decide +kernel
theorem d_jdk_44_m3_10 : decode jdk_44_method_3_code 10 = .ok (.iconst 2, 1) := by decide +kernel
theorem d_jdk_44_m3_11 : decode jdk_44_method_3_code 11 = .ok (.goto 4, 3) := by decide +kernel
theorem d_jdk_44_m3_15 : decode jdk_44_method_3_code 15 = .ok (.ireturn, 1) := by decide +kernel
theorem ef_rm_lsize (m : MethodId) (x0 : Addr) : entryFrame m #[(.ref x0)] 1 = mkF m 0 #[.val (.ref x0)] [] := by
   first | (simp [entryFrame, mkF, argsToLocals, Value.category]; done) | rfl
set_option maxRecDepth 65536 in
set_option maxHeartbeats 40000000 in
theorem rm_lsize (l : Launch) (Z : State) (a0 : Array Value) (hw : ∀ d ∈ tables_1, d.before a0 Z = true) (ws : List Jvm.Cond) (a1 : Addr) (a2 : Addr) (a3 : Addr) (zE : Addr) (h0 : Heap) (n0 : Nat) (O0 : Old Z n0 h0) (E_a : Exa Z h0 a1 "java/util/ImmutableCollections$List12") (F_0 : Fld Z h0 a1 "java/util/ImmutableCollections$List12" "e0" "Ljava/lang/Object;" (.ref a2)) (F_1 : Fld Z h0 a1 "java/util/ImmutableCollections$List12" "e1" "Ljava/lang/Object;" (.ref a3)) (OE : Sta Z Z.heap "java/util/ImmutableCollections" "EMPTY" "Ljava/lang/Object;" (.ref zE)) (hne : a3 ≠ zE) :
    MetFree l (⟨"java/util/ImmutableCollections$List12", "size", "()I"⟩ : MethodName) (head1 (Jvm.Cond.code (⟨"java/util/ImmutableCollections$List12", "size", "()I"⟩ : MethodName) jdk_44_method_3_code 1 (some .int) :: ws) ({ frames := 0, cells := 0, slots := 0, locals := 0 } : Room)) (fun a U => a = #[(.ref a1)] ∧ Z.Warmed39 U.vm ∧ U.heap = h0) (fun _ _ _ _ _ => True) (fun _ U o U' => ∃ v L, o = .returned v ∧ QPure (some (.int (2 : Int32))) h0 n0 v U'.heap L ∧ FrameEnd U o U' L 0 0) := by
  refine MetFree.of_bodySF (plainFor_of_name pn_7) hisR ?_
  intro p e s m args below meth c s₁ Bd hml0 hP hK
  obtain ⟨rfl, hZ, hh⟩ := hP
  have hx := Bd.exec
  have hby := Bd.bytes
  have hml : c.maxLocals = 1 := hml0
  have hown : s.vm.findClass "java/util/ImmutableCollections$List12" = some m.cls := findClass_of_methodNamed Bd.named
  have hnm := (name_of_methodNamed Bd.named Bd.method).1
  have hrt := Bd.returns
  have hlk : meth.locks = false := Bd.notSynchronized
  have X0 : Stand p l e ({ frames := 0, cells := 0, slots := 0, locals := 0 } : Room) s m #[(.ref a1)] below meth c s₁ [] 0 0 := Stand.of_body Bd
  have e0 : s₁.heap = h0 := by rw [← hh, Bd.state]; rfl
  have N0 := Fr.nil n0
  have Z0 : n0 ≤ h0.size := O0.1 ▸ O0.2.1
  show own_Go p e below (s₁.setTop (entryFrame m #[(.ref a1)] 1)) (fun o U' => ∃ v L, o = .returned v ∧ QPure (some (.int (2 : Int32))) h0 n0 v U'.heap L ∧ FrameEnd s o U' L 0 0)
  refine own_go (fun _ k => castTop (ef_rm_lsize m a1) k) ?_
  show own_Go p e below (s₁.setTop (mkF m 0 #[.val (.ref a1)] [])) _
  refine own_go (fun _ k => XS.aloadN X0.here hx rfl (hb hby d_jdk_44_m3_0) rfl rfl k) ?_
  show own_Go p e below (s₁.setTop (mkF m 1 #[.val (.ref a1)] [(.ref a1)])) _
  obtain ⟨T48, X48, e48, st48⟩ := getF X0 hx hZ hown (host := "") (Or.inl (hw _ (List.mem_of_getElem? (i := 110) rfl))) Via.refl e0 F_1 (g := (mkF m 1 #[.val (.ref a1)] [(.ref a1)])) rfl rfl (hb hby d_jdk_44_m3_1)
  refine own_go st48 ?_
  show own_Go p e below (T48.setTop (mkF m 4 #[.val (.ref a1)] [(.ref a3)])) _
  obtain ⟨T49, X49, e49, st49⟩ := getS2 X48 hx hZ hown (Or.inr (hw _ (List.mem_of_getElem? (i := 121) rfl))) Via.refl e48 (OE.ext O0.2) (g := (mkF m 4 #[.val (.ref a1)] [(.ref a3)])) rfl (hb hby d_jdk_44_m3_4)
  refine own_go st49 ?_
  show own_Go p e below (T49.setTop (mkF m 7 #[.val (.ref a1)] [(.ref zE), (.ref a3)])) _
  refine own_go (fun _ k => Jvm.RoadKit.acmp (g := (mkF m 7 #[.val (.ref a1)] [(.ref zE), (.ref a3)])) X49 hx rfl rfl rfl (pc0 := 7) (pc' := 10) (same := false) rfl (hb hby d_jdk_44_m3_7) rfl (decide_eq_false fun q => hne (Value.ref.inj q)) (by decide) (by decide) k) ?_
  show own_Go p e below (T49.setTop (mkF m 10 #[.val (.ref a1)] [])) _
  refine own_go (fun _ k => XS.iconst X49.here hx rfl (hb hby d_jdk_44_m3_10) k) ?_
  show own_Go p e below (T49.setTop (mkF m 11 #[.val (.ref a1)] [(.int (2 : Int32))])) _
  refine own_go (fun _ k => XS.goto X49.here hx rfl (pc0 := 11) (pc' := 15) rfl (hb hby d_jdk_44_m3_11) (by decide) (by decide) k) ?_
  show own_Go p e below (T49.setTop (mkF m 15 #[.val (.ref a1)] [(.int (2 : Int32))])) _
  refine own_fin (v := (some (.int (2 : Int32)))) X49 (fun h => by rw [hrt] at h; cases h) hlk (fun fs hr => retI X49 hx hrt (hb hby d_jdk_44_m3_15) hr) (QQ := QPure (some (.int (2 : Int32))) h0 n0) ?_ (by decide) (by decide)
  rw [e49]
  exact ⟨rfl, N0, rfl⟩

theorem d_jdk_44_m5_0 : decode jdk_44_method_5_code 0 = .ok (.iload_n 1, 1) := by decide +kernel
theorem d_jdk_44_m5_1 : decode jdk_44_method_5_code 1 = .ok (.ifCond .ne 8, 3) := by decide +kernel
theorem d_jdk_44_m5_4 : decode jdk_44_method_5_code 4 = .ok (.aload_n 0, 1) := by decide +kernel
theorem d_jdk_44_m5_5 : decode jdk_44_method_5_code 5 = .ok (.getfield 13, 3) := by decide +kernel
theorem d_jdk_44_m5_8 : decode jdk_44_method_5_code 8 = .ok (.areturn, 1) := by decide +kernel
theorem ef_rm_lget0 (m : MethodId) (x0 : Addr) (x1 : Int32) : entryFrame m #[(.ref x0), (.int x1)] 2 = mkF m 0 #[.val (.ref x0), .val (.int x1)] [] := by
   first | (simp [entryFrame, mkF, argsToLocals, Value.category]; done) | rfl
set_option maxRecDepth 65536 in
set_option maxHeartbeats 40000000 in
theorem rm_lget0 (l : Launch) (Z : State) (a0 : Array Value) (hw : ∀ d ∈ tables_1, d.before a0 Z = true) (ws : List Jvm.Cond) (a1 : Addr) (a2 : Addr) (a3 : Addr) (zE : Addr) (h0 : Heap) (n0 : Nat) (O0 : Old Z n0 h0) (E_a : Exa Z h0 a1 "java/util/ImmutableCollections$List12") (F_0 : Fld Z h0 a1 "java/util/ImmutableCollections$List12" "e0" "Ljava/lang/Object;" (.ref a2)) (F_1 : Fld Z h0 a1 "java/util/ImmutableCollections$List12" "e1" "Ljava/lang/Object;" (.ref a3)) (OE : Sta Z Z.heap "java/util/ImmutableCollections" "EMPTY" "Ljava/lang/Object;" (.ref zE)) (hne : a3 ≠ zE) :
    MetFree l (⟨"java/util/ImmutableCollections$List12", "get", "(I)Ljava/lang/Object;"⟩ : MethodName) (head1 (Jvm.Cond.code (⟨"java/util/ImmutableCollections$List12", "get", "(I)Ljava/lang/Object;"⟩ : MethodName) jdk_44_method_5_code 2 (some (.object "java/lang/Object")) :: ws) ({ frames := 0, cells := 0, slots := 0, locals := 0 } : Room)) (fun a U => a = #[(.ref a1), (.int (0 : Int32))] ∧ Z.Warmed39 U.vm ∧ U.heap = h0) (fun _ _ _ _ _ => True) (fun _ U o U' => ∃ v L, o = .returned v ∧ QPure (some (.ref a2)) h0 n0 v U'.heap L ∧ FrameEnd U o U' L 0 0) := by
  refine MetFree.of_bodySF (plainFor_of_name pn_7) hisR ?_
  intro p e s m args below meth c s₁ Bd hml0 hP hK
  obtain ⟨rfl, hZ, hh⟩ := hP
  have hx := Bd.exec
  have hby := Bd.bytes
  have hml : c.maxLocals = 2 := hml0
  have hown : s.vm.findClass "java/util/ImmutableCollections$List12" = some m.cls := findClass_of_methodNamed Bd.named
  have hnm := (name_of_methodNamed Bd.named Bd.method).1
  have hrt := Bd.returns
  have hlk : meth.locks = false := Bd.notSynchronized
  have X0 : Stand p l e ({ frames := 0, cells := 0, slots := 0, locals := 0 } : Room) s m #[(.ref a1), (.int (0 : Int32))] below meth c s₁ [] 0 0 := Stand.of_body Bd
  have e0 : s₁.heap = h0 := by rw [← hh, Bd.state]; rfl
  have N0 := Fr.nil n0
  have Z0 : n0 ≤ h0.size := O0.1 ▸ O0.2.1
  show own_Go p e below (s₁.setTop (entryFrame m #[(.ref a1), (.int (0 : Int32))] 2)) (fun o U' => ∃ v L, o = .returned v ∧ QPure (some (.ref a2)) h0 n0 v U'.heap L ∧ FrameEnd s o U' L 0 0)
  refine own_go (fun _ k => castTop (ef_rm_lget0 m a1 _) k) ?_
  show own_Go p e below (s₁.setTop (mkF m 0 #[.val (.ref a1), .val (.int (0 : Int32))] [])) _
  refine own_go (fun _ k => XS.iloadN X0.here hx rfl (hb hby d_jdk_44_m5_0) rfl k) ?_
  show own_Go p e below (s₁.setTop (mkF m 1 #[.val (.ref a1), .val (.int (0 : Int32))] [(.int (0 : Int32))])) _
  refine own_go (fun _ k => XS.ifNo X0.here hx rfl (hb hby d_jdk_44_m5_1) rfl ((if0 _ _).trans (teq (by decide : (0 : Int32) = (0 : Int32))).2) k) ?_
  show own_Go p e below (s₁.setTop (mkF m 4 #[.val (.ref a1), .val (.int (0 : Int32))] [])) _
  refine own_go (fun _ k => XS.aloadN X0.here hx rfl (hb hby d_jdk_44_m5_4) rfl rfl k) ?_
  show own_Go p e below (s₁.setTop (mkF m 5 #[.val (.ref a1), .val (.int (0 : Int32))] [(.ref a1)])) _
  obtain ⟨T50, X50, e50, st50⟩ := getF X0 hx hZ hown (host := "") (Or.inl (hw _ (List.mem_of_getElem? (i := 108) rfl))) Via.refl e0 F_0 (g := (mkF m 5 #[.val (.ref a1), .val (.int (0 : Int32))] [(.ref a1)])) rfl rfl (hb hby d_jdk_44_m5_5)
  refine own_go st50 ?_
  show own_Go p e below (T50.setTop (mkF m 8 #[.val (.ref a1), .val (.int (0 : Int32))] [(.ref a2)])) _
  refine own_fin (v := (some (.ref a2))) X50 (fun h => by rw [hrt] at h; cases h) hlk (fun fs hr => retR X50 hx hrt (by rfl) rfl rfl (hb hby d_jdk_44_m5_8) hr) (QQ := QPure (some (.ref a2)) h0 n0) ?_ (by decide) (by decide)
  rw [e50]
  exact ⟨rfl, N0, rfl⟩

theorem d_jdk_44_m5_9 : decode jdk_44_method_5_code 9 = .ok (.iload_n 1, 1) := by decide +kernel
theorem d_jdk_44_m5_10 : decode jdk_44_method_5_code 10 = .ok (.iconst 1, 1) := by decide +kernel
theorem d_jdk_44_m5_11 : decode jdk_44_method_5_code 11 = .ok (.if_icmp .ne 18, 3) := by decide +kernel
theorem d_jdk_44_m5_14 : decode jdk_44_method_5_code 14 = .ok (.aload_n 0, 1) := by decide +kernel
theorem d_jdk_44_m5_15 : decode jdk_44_method_5_code 15 = .ok (.getfield 24, 3) := by decide +kernel
theorem d_jdk_44_m5_18 : decode jdk_44_method_5_code 18 = .ok (.getstatic 19, 3) := by decide +kernel
theorem d_jdk_44_m5_21 : decode jdk_44_method_5_code 21 = .ok (.if_acmp .eq 8, 3) := by decide +kernel
theorem d_jdk_44_m5_24 : decode jdk_44_method_5_code 24 = .ok (.aload_n 0, 1) := by decide +kernel
theorem d_jdk_44_m5_25 : decode jdk_44_method_5_code 25 = .ok (.getfield 24, 3) := by decide +kernel
theorem d_jdk_44_m5_28 : decode jdk_44_method_5_code 28 = .ok (.areturn, 1) := by decide +kernel
theorem ef_rm_lget1 (m : MethodId) (x0 : Addr) (x1 : Int32) : entryFrame m #[(.ref x0), (.int x1)] 2 = mkF m 0 #[.val (.ref x0), .val (.int x1)] [] := by
   first | (simp [entryFrame, mkF, argsToLocals, Value.category]; done) | rfl
set_option maxRecDepth 65536 in
set_option maxHeartbeats 40000000 in
theorem rm_lget1 (l : Launch) (Z : State) (a0 : Array Value) (hw : ∀ d ∈ tables_1, d.before a0 Z = true) (ws : List Jvm.Cond) (a1 : Addr) (a2 : Addr) (a3 : Addr) (zE : Addr) (h0 : Heap) (n0 : Nat) (O0 : Old Z n0 h0) (E_a : Exa Z h0 a1 "java/util/ImmutableCollections$List12") (F_0 : Fld Z h0 a1 "java/util/ImmutableCollections$List12" "e0" "Ljava/lang/Object;" (.ref a2)) (F_1 : Fld Z h0 a1 "java/util/ImmutableCollections$List12" "e1" "Ljava/lang/Object;" (.ref a3)) (OE : Sta Z Z.heap "java/util/ImmutableCollections" "EMPTY" "Ljava/lang/Object;" (.ref zE)) (hne : a3 ≠ zE) :
    MetFree l (⟨"java/util/ImmutableCollections$List12", "get", "(I)Ljava/lang/Object;"⟩ : MethodName) (head1 (Jvm.Cond.code (⟨"java/util/ImmutableCollections$List12", "get", "(I)Ljava/lang/Object;"⟩ : MethodName) jdk_44_method_5_code 2 (some (.object "java/lang/Object")) :: ws) ({ frames := 0, cells := 0, slots := 0, locals := 0 } : Room)) (fun a U => a = #[(.ref a1), (.int (1 : Int32))] ∧ Z.Warmed39 U.vm ∧ U.heap = h0) (fun _ _ _ _ _ => True) (fun _ U o U' => ∃ v L, o = .returned v ∧ QPure (some (.ref a3)) h0 n0 v U'.heap L ∧ FrameEnd U o U' L 0 0) := by
  refine MetFree.of_bodySF (plainFor_of_name pn_7) hisR ?_
  intro p e s m args below meth c s₁ Bd hml0 hP hK
  obtain ⟨rfl, hZ, hh⟩ := hP
  have hx := Bd.exec
  have hby := Bd.bytes
  have hml : c.maxLocals = 2 := hml0
  have hown : s.vm.findClass "java/util/ImmutableCollections$List12" = some m.cls := findClass_of_methodNamed Bd.named
  have hnm := (name_of_methodNamed Bd.named Bd.method).1
  have hrt := Bd.returns
  have hlk : meth.locks = false := Bd.notSynchronized
  have X0 : Stand p l e ({ frames := 0, cells := 0, slots := 0, locals := 0 } : Room) s m #[(.ref a1), (.int (1 : Int32))] below meth c s₁ [] 0 0 := Stand.of_body Bd
  have e0 : s₁.heap = h0 := by rw [← hh, Bd.state]; rfl
  have N0 := Fr.nil n0
  have Z0 : n0 ≤ h0.size := O0.1 ▸ O0.2.1
  show own_Go p e below (s₁.setTop (entryFrame m #[(.ref a1), (.int (1 : Int32))] 2)) (fun o U' => ∃ v L, o = .returned v ∧ QPure (some (.ref a3)) h0 n0 v U'.heap L ∧ FrameEnd s o U' L 0 0)
  refine own_go (fun _ k => castTop (ef_rm_lget1 m a1 _) k) ?_
  show own_Go p e below (s₁.setTop (mkF m 0 #[.val (.ref a1), .val (.int (1 : Int32))] [])) _
  refine own_go (fun _ k => XS.iloadN X0.here hx rfl (hb hby d_jdk_44_m5_0) rfl k) ?_
  show own_Go p e below (s₁.setTop (mkF m 1 #[.val (.ref a1), .val (.int (1 : Int32))] [(.int (1 : Int32))])) _
  refine own_go (fun _ k => XS.ifYes X0.here hx rfl (pc0 := 1) (pc' := 9) rfl (hb hby d_jdk_44_m5_1) rfl ((if0 _ _).trans (feq (by decide : ¬ ((1 : Int32) = (0 : Int32)))).2) (by decide) (by decide) k) ?_
  show own_Go p e below (s₁.setTop (mkF m 9 #[.val (.ref a1), .val (.int (1 : Int32))] [])) _
  refine own_go (fun _ k => XS.iloadN X0.here hx rfl (hb hby d_jdk_44_m5_9) rfl k) ?_
  show own_Go p e below (s₁.setTop (mkF m 10 #[.val (.ref a1), .val (.int (1 : Int32))] [(.int (1 : Int32))])) _
  refine own_go (fun _ k => XS.iconst X0.here hx rfl (hb hby d_jdk_44_m5_10) k) ?_
  show own_Go p e below (s₁.setTop (mkF m 11 #[.val (.ref a1), .val (.int (1 : Int32))] [(.int (1 : Int32)), (.int (1 : Int32))])) _
  refine own_go (fun _ k => XS.icmpNo X0.here hx rfl (hb hby d_jdk_44_m5_11) rfl (teq (by decide : (1 : Int32) = (1 : Int32))).2 k) ?_
  show own_Go p e below (s₁.setTop (mkF m 14 #[.val (.ref a1), .val (.int (1 : Int32))] [])) _
  refine own_go (fun _ k => XS.aloadN X0.here hx rfl (hb hby d_jdk_44_m5_14) rfl rfl k) ?_
  show own_Go p e below (s₁.setTop (mkF m 15 #[.val (.ref a1), .val (.int (1 : Int32))] [(.ref a1)])) _
  obtain ⟨T51, X51, e51, st51⟩ := getF X0 hx hZ hown (host := "") (Or.inl (hw _ (List.mem_of_getElem? (i := 110) rfl))) Via.refl e0 F_1 (g := (mkF m 15 #[.val (.ref a1), .val (.int (1 : Int32))] [(.ref a1)])) rfl rfl (hb hby d_jdk_44_m5_15)
  refine own_go st51 ?_
  show own_Go p e below (T51.setTop (mkF m 18 #[.val (.ref a1), .val (.int (1 : Int32))] [(.ref a3)])) _
  obtain ⟨T52, X52, e52, st52⟩ := getS2 X51 hx hZ hown (Or.inr (hw _ (List.mem_of_getElem? (i := 121) rfl))) Via.refl e51 (OE.ext O0.2) (g := (mkF m 18 #[.val (.ref a1), .val (.int (1 : Int32))] [(.ref a3)])) rfl (hb hby d_jdk_44_m5_18)
  refine own_go st52 ?_
  show own_Go p e below (T52.setTop (mkF m 21 #[.val (.ref a1), .val (.int (1 : Int32))] [(.ref zE), (.ref a3)])) _
  refine own_go (fun _ k => Jvm.RoadKit.acmp (g := (mkF m 21 #[.val (.ref a1), .val (.int (1 : Int32))] [(.ref zE), (.ref a3)])) X52 hx rfl rfl rfl (pc0 := 21) (pc' := 24) (same := false) rfl (hb hby d_jdk_44_m5_21) rfl (decide_eq_false fun q => hne (Value.ref.inj q)) (by decide) (by decide) k) ?_
  show own_Go p e below (T52.setTop (mkF m 24 #[.val (.ref a1), .val (.int (1 : Int32))] [])) _
  refine own_go (fun _ k => XS.aloadN X52.here hx rfl (hb hby d_jdk_44_m5_24) rfl rfl k) ?_
  show own_Go p e below (T52.setTop (mkF m 25 #[.val (.ref a1), .val (.int (1 : Int32))] [(.ref a1)])) _
  obtain ⟨T53, X53, e53, st53⟩ := getF X52 hx hZ hown (host := "") (Or.inl (hw _ (List.mem_of_getElem? (i := 110) rfl))) Via.refl e52 F_1 (g := (mkF m 25 #[.val (.ref a1), .val (.int (1 : Int32))] [(.ref a1)])) rfl rfl (hb hby d_jdk_44_m5_25)
  refine own_go st53 ?_
  show own_Go p e below (T53.setTop (mkF m 28 #[.val (.ref a1), .val (.int (1 : Int32))] [(.ref a3)])) _
  refine own_fin (v := (some (.ref a3))) X53 (fun h => by rw [hrt] at h; cases h) hlk (fun fs hr => retR X53 hx hrt (by rfl) rfl rfl (hb hby d_jdk_44_m5_28) hr) (QQ := QPure (some (.ref a3)) h0 n0) ?_ (by decide) (by decide)
  rw [e53]
  exact ⟨rfl, N0, rfl⟩

theorem d_prog_77_m7_0 : decode prog_77_method_7_code 0 = .ok (.aload_n 0, 1) := by decide +kernel
theorem d_prog_77_m7_1 : decode prog_77_method_7_code 1 = .ok (.getfield 15, 3) := by decide +kernel
theorem d_prog_77_m7_4 : decode prog_77_method_7_code 4 = .ok (.areturn, 1) := by decide +kernel
theorem ef_rm_name (m : MethodId) (x0 : Addr) : entryFrame m #[(.ref x0)] 1 = mkF m 0 #[.val (.ref x0)] [] := by
   first | (simp [entryFrame, mkF, argsToLocals, Value.category]; done) | rfl
set_option maxRecDepth 65536 in
set_option maxHeartbeats 40000000 in
theorem rm_name (l : Launch) (Z : State) (a0 : Array Value) (hw : ∀ d ∈ tables_1, d.before a0 Z = true) (ws : List Jvm.Cond) (a1 : Addr) (a2 : Addr) (h0 : Heap) (n0 : Nat) (O0 : Old Z n0 h0) (E_a : Exa Z h0 a1 "com/example/rederive/rederive/Variable") (F_n : Fld Z h0 a1 "com/example/rederive/rederive/Variable" "name" "Ljava/lang/String;" (.ref a2)) :
    MetFree l (⟨"com/example/rederive/rederive/Variable", "name", "()Ljava/lang/String;"⟩ : MethodName) (head1 (Jvm.Cond.code (⟨"com/example/rederive/rederive/Variable", "name", "()Ljava/lang/String;"⟩ : MethodName) prog_77_method_7_code 1 (some (.object "java/lang/String")) :: ws) ({ frames := 0, cells := 0, slots := 0, locals := 0 } : Room)) (fun a U => a = #[(.ref a1)] ∧ Z.Warmed39 U.vm ∧ U.heap = h0) (fun _ _ _ _ _ => True) (fun _ U o U' => ∃ v L, o = .returned v ∧ QPure (some (.ref a2)) h0 n0 v U'.heap L ∧ FrameEnd U o U' L 0 0) := by
  refine MetFree.of_bodySF (plainFor_of_name pn_5) hisR ?_
  intro p e s m args below meth c s₁ Bd hml0 hP hK
  obtain ⟨rfl, hZ, hh⟩ := hP
  have hx := Bd.exec
  have hby := Bd.bytes
  have hml : c.maxLocals = 1 := hml0
  have hown : s.vm.findClass "com/example/rederive/rederive/Variable" = some m.cls := findClass_of_methodNamed Bd.named
  have hnm := (name_of_methodNamed Bd.named Bd.method).1
  have hrt := Bd.returns
  have hlk : meth.locks = false := Bd.notSynchronized
  have X0 : Stand p l e ({ frames := 0, cells := 0, slots := 0, locals := 0 } : Room) s m #[(.ref a1)] below meth c s₁ [] 0 0 := Stand.of_body Bd
  have e0 : s₁.heap = h0 := by rw [← hh, Bd.state]; rfl
  have N0 := Fr.nil n0
  have Z0 : n0 ≤ h0.size := O0.1 ▸ O0.2.1
  show own_Go p e below (s₁.setTop (entryFrame m #[(.ref a1)] 1)) (fun o U' => ∃ v L, o = .returned v ∧ QPure (some (.ref a2)) h0 n0 v U'.heap L ∧ FrameEnd s o U' L 0 0)
  refine own_go (fun _ k => castTop (ef_rm_name m a1) k) ?_
  show own_Go p e below (s₁.setTop (mkF m 0 #[.val (.ref a1)] [])) _
  refine own_go (fun _ k => XS.aloadN X0.here hx rfl (hb hby d_prog_77_m7_0) rfl rfl k) ?_
  show own_Go p e below (s₁.setTop (mkF m 1 #[.val (.ref a1)] [(.ref a1)])) _
  obtain ⟨T54, X54, e54, st54⟩ := getF X0 hx hZ hown (host := "") (Or.inl (hw _ (List.mem_of_getElem? (i := 49) rfl))) Via.refl e0 F_n (g := (mkF m 1 #[.val (.ref a1)] [(.ref a1)])) rfl rfl (hb hby d_prog_77_m7_1)
  refine own_go st54 ?_
  show own_Go p e below (T54.setTop (mkF m 4 #[.val (.ref a1)] [(.ref a2)])) _
  refine own_fin (v := (some (.ref a2))) X54 (fun h => by rw [hrt] at h; cases h) hlk (fun fs hr => retR X54 hx hrt (by rfl) rfl rfl (hb hby d_prog_77_m7_4) hr) (QQ := QPure (some (.ref a2)) h0 n0) ?_ (by decide) (by decide)
  rw [e54]
  exact ⟨rfl, N0, rfl⟩

theorem d_jdk_42_m66_0 : decode jdk_42_method_66_code 0 = .ok (.aload_n 0, 1) := by decide +kernel
theorem d_jdk_42_m66_1 : decode jdk_42_method_66_code 1 = .ok (.aload_n 1, 1) := by decide +kernel
theorem d_jdk_42_m66_2 : decode jdk_42_method_66_code 2 = .ok (.if_acmp .ne 5, 3) := by decide +kernel
theorem d_jdk_42_m66_5 : decode jdk_42_method_66_code 5 = .ok (.iconst 1, 1) := by decide +kernel
theorem d_jdk_42_m66_6 : decode jdk_42_method_66_code 6 = .ok (.ireturn, 1) := by decide +kernel
theorem pn_9 : plainName "java/lang/String" = true := by first | (simp [plainName, overriddenIn]; done) | decide +kernel
theorem ef_rm_eq (m : MethodId) (x0 : Addr) (x1 : Addr) : entryFrame m #[(.ref x0), (.ref x1)] 3 = mkF m 0 #[.val (.ref x0), .val (.ref x1), .unset] [] := by
   first | (simp [entryFrame, mkF, argsToLocals, Value.category]; done) | rfl
set_option maxRecDepth 65536 in
set_option maxHeartbeats 40000000 in
theorem rm_eq (l : Launch) (Z : State) (a0 : Array Value) (hw : ∀ d ∈ tables_1, d.before a0 Z = true) (ws : List Jvm.Cond) (a1 : Addr) (h0 : Heap) (n0 : Nat) (O0 : Old Z n0 h0) :
    MetFree l (⟨"java/lang/String", "equals", "(Ljava/lang/Object;)Z"⟩ : MethodName) (head1 (Jvm.Cond.code (⟨"java/lang/String", "equals", "(Ljava/lang/Object;)Z"⟩ : MethodName) jdk_42_method_66_code 3 (some .boolean) :: ws) ({ frames := 0, cells := 0, slots := 0, locals := 0 } : Room)) (fun a U => a = #[(.ref a1), (.ref a1)] ∧ Z.Warmed39 U.vm ∧ U.heap = h0) (fun _ _ _ _ _ => True) (fun _ U o U' => ∃ v L, o = .returned v ∧ QPure (some (.int (1 : Int32))) h0 n0 v U'.heap L ∧ FrameEnd U o U' L 0 0) := by
  refine MetFree.of_bodySF (plainFor_of_name pn_9) hisR ?_
  intro p e s m args below meth c s₁ Bd hml0 hP hK
  obtain ⟨rfl, hZ, hh⟩ := hP
  have hx := Bd.exec
  have hby := Bd.bytes
  have hml : c.maxLocals = 3 := hml0
  have hown : s.vm.findClass "java/lang/String" = some m.cls := findClass_of_methodNamed Bd.named
  have hnm := (name_of_methodNamed Bd.named Bd.method).1
  have hrt := Bd.returns
  have hlk : meth.locks = false := Bd.notSynchronized
  have X0 : Stand p l e ({ frames := 0, cells := 0, slots := 0, locals := 0 } : Room) s m #[(.ref a1), (.ref a1)] below meth c s₁ [] 0 0 := Stand.of_body Bd
  have e0 : s₁.heap = h0 := by rw [← hh, Bd.state]; rfl
  have N0 := Fr.nil n0
  have Z0 : n0 ≤ h0.size := O0.1 ▸ O0.2.1
  show own_Go p e below (s₁.setTop (entryFrame m #[(.ref a1), (.ref a1)] 3)) (fun o U' => ∃ v L, o = .returned v ∧ QPure (some (.int (1 : Int32))) h0 n0 v U'.heap L ∧ FrameEnd s o U' L 0 0)
  refine own_go (fun _ k => castTop (ef_rm_eq m a1 a1) k) ?_
  show own_Go p e below (s₁.setTop (mkF m 0 #[.val (.ref a1), .val (.ref a1), .unset] [])) _
  refine own_go (fun _ k => XS.aloadN X0.here hx rfl (hb hby d_jdk_42_m66_0) rfl rfl k) ?_
  show own_Go p e below (s₁.setTop (mkF m 1 #[.val (.ref a1), .val (.ref a1), .unset] [(.ref a1)])) _
  refine own_go (fun _ k => XS.aloadN X0.here hx rfl (hb hby d_jdk_42_m66_1) rfl rfl k) ?_
  show own_Go p e below (s₁.setTop (mkF m 2 #[.val (.ref a1), .val (.ref a1), .unset] [(.ref a1), (.ref a1)])) _
  refine own_go (fun _ k => Jvm.RoadKit.acmp (g := (mkF m 2 #[.val (.ref a1), .val (.ref a1), .unset] [(.ref a1), (.ref a1)])) X0 hx rfl rfl rfl (pc0 := 2) (pc' := 5) (same := true) rfl (hb hby d_jdk_42_m66_2) rfl (decide_eq_true rfl) (by decide) (by decide) k) ?_
  show own_Go p e below (s₁.setTop (mkF m 5 #[.val (.ref a1), .val (.ref a1), .unset] [])) _
  refine own_go (fun _ k => XS.iconst X0.here hx rfl (hb hby d_jdk_42_m66_5) k) ?_
  show own_Go p e below (s₁.setTop (mkF m 6 #[.val (.ref a1), .val (.ref a1), .unset] [(.int (1 : Int32))])) _
  refine own_fin (v := (some (.int (nar .boolean (1 : Int32))))) X0 (fun h => by rw [hrt] at h; cases h) hlk (fun fs hr => retN X0 hx (t := .boolean) hrt (by simp) (hb hby d_jdk_42_m66_6) hr) (QQ := QPure (some (.int (1 : Int32))) h0 n0) ?_ (by decide) (by decide)
  rw [e0]
  exact ⟨rfl, N0, rfl⟩

theorem own_wStr {Z : State} {a0 : Array Value} (hw : ∀ d ∈ tables_1, d.before a0 Z = true) : ∀ d ∈ StrChars.Road.words, d.before a0 Z = true := fun d hd => hw d ((by decide +kernel : ∀ d ∈ StrChars.Road.words, d ∈ tables_1) d hd)
def QQ0 (n0 : Nat) (v : Option Value) (h : Heap) (L : List Loc) : Prop := v = some (.int 1) ∧ Fr n0 L
theorem pd_5 : parseMethodDescriptor "([C)V" = some ⟨[(.array .char)], none⟩ := by decide +kernel
theorem pd_6 : parseMethodDescriptor "(Ljava/lang/String;)V" = some ⟨[(.object "java/lang/String")], none⟩ := by decide +kernel
theorem pd_7 : parseMethodDescriptor "(Ljava/lang/String;Lcom/example/rederive/rederive/Variable;Lcom/example/rederive/rederive/Variable;Z)V" = some ⟨[(.object "java/lang/String"), (.object "com/example/rederive/rederive/Variable"), (.object "com/example/rederive/rederive/Variable"), .boolean], none⟩ := by decide +kernel
theorem pd_8 : parseMethodDescriptor "()Ljava/util/List;" = some ⟨[], some (.object "java/util/List")⟩ := by decide +kernel
theorem pd_9 : parseMethodDescriptor "()I" = some ⟨[], some .int⟩ := by decide +kernel
theorem pd_10 : parseMethodDescriptor "(I)Ljava/lang/Object;" = some ⟨[.int], some (.object "java/lang/Object")⟩ := by decide +kernel
theorem pd_11 : parseMethodDescriptor "()Ljava/lang/String;" = some ⟨[], some (.object "java/lang/String")⟩ := by decide +kernel
theorem pd_12 : parseMethodDescriptor "(Ljava/lang/Object;)Z" = some ⟨[(.object "java/lang/Object")], some .boolean⟩ := by decide +kernel
theorem pn_10 : plainName "com/example/rederive/rederive/ClosureCallVariablesPinLaw" = true := by first | (simp [plainName, overriddenIn]; done) | decide +kernel
theorem ef_rm_law (m : MethodId) (x0 : Int32) (x1 : Int32) (x2 : Int32) (x3 : Int32) : entryFrame m #[(.int x0), (.int x1), (.int x2), (.int x3)] maxLocals = mkF m 0 #[.val (.int x0), .val (.int x1), .val (.int x2), .val (.int x3), .unset, .unset, .unset, .unset, .unset, .unset, .unset, .unset, .unset, .unset] [] := by
   first | (simp [entryFrame, mkF, argsToLocals, Value.category, maxLocals]; done) | rfl
set_option maxRecDepth 65536 in
set_option maxHeartbeats 40000000 in
theorem rm_law (l : Launch) (Z : State) (a0 : Array Value) (hw : ∀ d ∈ tables_1, d.before a0 Z = true) (ws : List Jvm.Cond) (p1 : Int32) (p2 : Int32) (p3 : Int32) (p4 : Int32) (G1 : Int32) (zE : Addr) (h0 : Heap) (n0 : Nat) (O0 : Old Z n0 h0) (O2 : Sta Z Z.heap "java/lang/String" "COMPACT_STRINGS" "Z" (.int G1)) (P5 : ¬ (G1 = (0 : Int32))) (OE : Sta Z Z.heap "java/util/ImmutableCollections" "EMPTY" "Ljava/lang/Object;" (.ref zE)) (hzE : zE < Z.heap.size) :
    MetFree l x (head1 (Jvm.Cond.code x code maxLocals ret :: ws) room_1) (fun a U => a = #[(.int p1), (.int p2), (.int p3), (.int p4)] ∧ Z.Warmed39 U.vm ∧ U.heap = h0 ∧ CHv Z own_EL U.vm h0) (fun _ _ _ _ _ => True) (fun _ U o U' => ∃ v L, o = .returned v ∧ QQ0 n0 v U'.heap L ∧ CHr Z own_EL U.vm U.heap U'.vm U'.heap ∧ ReturnedEndW U o U' L 48 4288) := by
  refine MetFree.of_bodySF (plainFor_of_name pn_10) hisR ?_
  intro p e s m args below meth c s₁ Bd hml0 hP hK
  obtain ⟨rfl, hZ, hh, hC0⟩ := hP
  have hx := Bd.exec
  have hby := Bd.bytes
  have hml : c.maxLocals = maxLocals := hml0
  have hown : s.vm.findClass "com/example/rederive/rederive/ClosureCallVariablesPinLaw" = some m.cls := findClass_of_methodNamed Bd.named
  have hnm := (name_of_methodNamed Bd.named Bd.method).1
  have hrt := Bd.returns
  have hlk : meth.locks = false := Bd.notSynchronized
  have X0 : Stand p l e room_1 (s.setVm s.vm) m #[(.int p1), (.int p2), (.int p3), (.int p4)] below meth c s₁ [] 0 0 := Stand.of_body Bd
  have e0 : s₁.heap = h0 := by rw [← hh, Bd.state]; rfl
  have N0 := Fr.nil n0
  have Z0 : n0 ≤ h0.size := O0.1 ▸ O0.2.1
  have hS0 : s.Since s.vm 0 := (State.WarmedH.refl s).since 0
  have C0 : CHr Z own_EL s.vm h0 s.vm h0 := CHr.refl hC0
  have own_wS := own_wSt hw
  have own_hEL := own_hELt hw
  show own_Go p e below (s₁.setTop (entryFrame m #[(.int p1), (.int p2), (.int p3), (.int p4)] maxLocals)) (fun o U' => ∃ v L, o = .returned v ∧ QQ0 n0 v U'.heap L ∧ CHr Z own_EL s.vm s.heap U'.vm U'.heap ∧ ReturnedEndW s o U' L 48 4288)
  refine own_go (fun _ k => castTop (ef_rm_law m p1 p2 p3 p4) k) ?_
  show own_Go p e below (s₁.setTop (mkF m 0 #[.val (.int p1), .val (.int p2), .val (.int p3), .val (.int p4), .unset, .unset, .unset, .unset, .unset, .unset, .unset, .unset, .unset, .unset] [])) _
  refine own_go (fun _ k => XS.iconst X0.here hx rfl (hb hby at_0) k) ?_
  show own_Go p e below (s₁.setTop (mkF m 1 #[.val (.int p1), .val (.int p2), .val (.int p3), .val (.int p4), .unset, .unset, .unset, .unset, .unset, .unset, .unset, .unset, .unset, .unset] [(.int (2 : Int32))])) _
  obtain ⟨T55, h55, k55, X55, e55, E55, A55, st55⟩ := newP X0 hx hZ (hw _ (List.mem_of_getElem? (i := 0) rfl)) e0 (g := (mkF m 1 #[.val (.int p1), .val (.int p2), .val (.int p3), .val (.int p4), .unset, .unset, .unset, .unset, .unset, .unset, .unset, .unset, .unset, .unset] [(.int (2 : Int32))])) rfl (hb hby at_1) rfl (by decide) (cap := 2) (by decide) (by decide) (by decide) (by decide)
  obtain ⟨b55, g55⟩ : ∃ z, z = h0.size := ⟨_, rfl⟩
  rw [← g55] at A55 st55
  refine own_go st55 ?_
  have V55 : Arv Z h55 b55 k55 .char (2 : Int32) [(.int (0 : Int32)), (.int (0 : Int32))] (.int (0 : Int32)) := (Arv.new A55 (by decide)).pad (pad_rep [] (.int (0 : Int32)) 2)
  show own_Go p e below (T55.setTop (mkF m 3 #[.val (.int p1), .val (.int p2), .val (.int p3), .val (.int p4), .unset, .unset, .unset, .unset, .unset, .unset, .unset, .unset, .unset, .unset] [(.ref b55)])) _
  refine own_go (fun _ k => XS.dup X55.here hx rfl (hb hby at_3) rfl rfl k) ?_
  show own_Go p e below (T55.setTop (mkF m 4 #[.val (.int p1), .val (.int p2), .val (.int p3), .val (.int p4), .unset, .unset, .unset, .unset, .unset, .unset, .unset, .unset, .unset, .unset] [(.ref b55), (.ref b55)])) _
  refine own_go (fun _ k => XS.iconst X55.here hx rfl (hb hby at_4) k) ?_
  show own_Go p e below (T55.setTop (mkF m 5 #[.val (.int p1), .val (.int p2), .val (.int p3), .val (.int p4), .unset, .unset, .unset, .unset, .unset, .unset, .unset, .unset, .unset, .unset] [(.int (0 : Int32)), (.ref b55), (.ref b55)])) _
  refine own_go (fun _ k => XS.iloadN X55.here hx rfl (hb hby at_5) rfl k) ?_
  show own_Go p e below (T55.setTop (mkF m 6 #[.val (.int p1), .val (.int p2), .val (.int p3), .val (.int p4), .unset, .unset, .unset, .unset, .unset, .unset, .unset, .unset, .unset, .unset] [(.int p1), (.int (0 : Int32)), (.ref b55), (.ref b55)])) _
  refine own_go (fun _ k => XS.sipush X55.here hx rfl (hb hby at_6) k) ?_
  show own_Go p e below (T55.setTop (mkF m 9 #[.val (.int p1), .val (.int p2), .val (.int p3), .val (.int p4), .unset, .unset, .unset, .unset, .unset, .unset, .unset, .unset, .unset, .unset] [(.int (255 : Int32)), (.int p1), (.int (0 : Int32)), (.ref b55), (.ref b55)])) _
  refine own_go (fun _ k => XS.iand X55.here hx rfl (hb hby at_9) rfl k) ?_
  show own_Go p e below (T55.setTop (mkF m 10 #[.val (.int p1), .val (.int p2), .val (.int p3), .val (.int p4), .unset, .unset, .unset, .unset, .unset, .unset, .unset, .unset, .unset, .unset] [(.int (p1 &&& (255 : Int32))), (.int (0 : Int32)), (.ref b55), (.ref b55)])) _
  refine own_go (fun _ k => XS.i2c X55.here hx rfl (hb hby at_10) rfl k) ?_
  show own_Go p e below (T55.setTop (mkF m 11 #[.val (.int p1), .val (.int p2), .val (.int p3), .val (.int p4), .unset, .unset, .unset, .unset, .unset, .unset, .unset, .unset, .unset, .unset] [(.int ((p1 &&& (255 : Int32)).toUInt32.toUInt16.toUInt32.toInt32)), (.int (0 : Int32)), (.ref b55), (.ref b55)])) _
  obtain ⟨c56, A56, q56, S56, M56, Hs56, Gs56⟩ := id V55
  obtain ⟨T57, h57, X57, e57, W57, st57⟩ := stC X55 hx hZ e55 A56 (j := (0 : Int32)) (inb_of S56 ⟨by decide, by decide⟩) (g := (mkF m 11 #[.val (.int p1), .val (.int p2), .val (.int p3), .val (.int p4), .unset, .unset, .unset, .unset, .unset, .unset, .unset, .unset, .unset, .unset] [(.int ((p1 &&& (255 : Int32)).toUInt32.toUInt16.toUInt32.toInt32)), (.int (0 : Int32)), (.ref b55), (.ref b55)])) rfl rfl (hb hby at_11)
  refine own_go st57 ?_
  have N57 := Fr.snoc X57 N0 (Nat.le_trans Z0 (Nat.le_of_eq g55.symm))
  have V57 : Arv Z h57 b55 k55 .char (2 : Int32) [(.int (nar .char ((p1 &&& (255 : Int32)).toUInt32.toUInt16.toUInt32.toInt32))), (.int (0 : Int32))] (.int (0 : Int32)) := Arv.set A56 q56 S56 M56 Hs56 Gs56 (fits_nar_char _) W57 0 rfl (Nat.le_of_ble_eq_true rfl)
  show own_Go p e below (T57.setTop (mkF m 12 #[.val (.int p1), .val (.int p2), .val (.int p3), .val (.int p4), .unset, .unset, .unset, .unset, .unset, .unset, .unset, .unset, .unset, .unset] [(.ref b55)])) _
  refine own_go (fun _ k => XS.dup X57.here hx rfl (hb hby at_12) rfl rfl k) ?_
  show own_Go p e below (T57.setTop (mkF m 13 #[.val (.int p1), .val (.int p2), .val (.int p3), .val (.int p4), .unset, .unset, .unset, .unset, .unset, .unset, .unset, .unset, .unset, .unset] [(.ref b55), (.ref b55)])) _
  refine own_go (fun _ k => XS.iconst X57.here hx rfl (hb hby at_13) k) ?_
  show own_Go p e below (T57.setTop (mkF m 14 #[.val (.int p1), .val (.int p2), .val (.int p3), .val (.int p4), .unset, .unset, .unset, .unset, .unset, .unset, .unset, .unset, .unset, .unset] [(.int (1 : Int32)), (.ref b55), (.ref b55)])) _
  refine own_go (fun _ k => XS.iloadN X57.here hx rfl (hb hby at_14) rfl k) ?_
  show own_Go p e below (T57.setTop (mkF m 15 #[.val (.int p1), .val (.int p2), .val (.int p3), .val (.int p4), .unset, .unset, .unset, .unset, .unset, .unset, .unset, .unset, .unset, .unset] [(.int p1), (.int (1 : Int32)), (.ref b55), (.ref b55)])) _
  refine own_go (fun _ k => XS.bipush X57.here hx rfl (hb hby at_15) k) ?_
  show own_Go p e below (T57.setTop (mkF m 17 #[.val (.int p1), .val (.int p2), .val (.int p3), .val (.int p4), .unset, .unset, .unset, .unset, .unset, .unset, .unset, .unset, .unset, .unset] [(.int (8 : Int32)), (.int p1), (.int (1 : Int32)), (.ref b55), (.ref b55)])) _
  refine own_go (fun _ k => XS.iushr X57.here hx rfl (hb hby at_17) rfl k) ?_
  show own_Go p e below (T57.setTop (mkF m 18 #[.val (.int p1), .val (.int p2), .val (.int p3), .val (.int p4), .unset, .unset, .unset, .unset, .unset, .unset, .unset, .unset, .unset, .unset] [(.int ((p1.toUInt32 >>> ((8 : Int32) &&& 31).toUInt32).toInt32)), (.int (1 : Int32)), (.ref b55), (.ref b55)])) _
  refine own_go (fun _ k => XS.sipush X57.here hx rfl (hb hby at_18) k) ?_
  show own_Go p e below (T57.setTop (mkF m 21 #[.val (.int p1), .val (.int p2), .val (.int p3), .val (.int p4), .unset, .unset, .unset, .unset, .unset, .unset, .unset, .unset, .unset, .unset] [(.int (255 : Int32)), (.int ((p1.toUInt32 >>> ((8 : Int32) &&& 31).toUInt32).toInt32)), (.int (1 : Int32)), (.ref b55), (.ref b55)])) _
  refine own_go (fun _ k => XS.iand X57.here hx rfl (hb hby at_21) rfl k) ?_
  show own_Go p e below (T57.setTop (mkF m 22 #[.val (.int p1), .val (.int p2), .val (.int p3), .val (.int p4), .unset, .unset, .unset, .unset, .unset, .unset, .unset, .unset, .unset, .unset] [(.int (((p1.toUInt32 >>> ((8 : Int32) &&& 31).toUInt32).toInt32) &&& (255 : Int32))), (.int (1 : Int32)), (.ref b55), (.ref b55)])) _
  refine own_go (fun _ k => XS.i2c X57.here hx rfl (hb hby at_22) rfl k) ?_
  show own_Go p e below (T57.setTop (mkF m 23 #[.val (.int p1), .val (.int p2), .val (.int p3), .val (.int p4), .unset, .unset, .unset, .unset, .unset, .unset, .unset, .unset, .unset, .unset] [(.int ((((p1.toUInt32 >>> ((8 : Int32) &&& 31).toUInt32).toInt32) &&& (255 : Int32)).toUInt32.toUInt16.toUInt32.toInt32)), (.int (1 : Int32)), (.ref b55), (.ref b55)])) _
  obtain ⟨c58, A58, q58, S58, M58, Hs58, Gs58⟩ := id V57
  obtain ⟨T59, h59, X59, e59, W59, st59⟩ := stC X57 hx hZ e57 A58 (j := (1 : Int32)) (inb_of S58 ⟨by decide, by decide⟩) (g := (mkF m 23 #[.val (.int p1), .val (.int p2), .val (.int p3), .val (.int p4), .unset, .unset, .unset, .unset, .unset, .unset, .unset, .unset, .unset, .unset] [(.int ((((p1.toUInt32 >>> ((8 : Int32) &&& 31).toUInt32).toInt32) &&& (255 : Int32)).toUInt32.toUInt16.toUInt32.toInt32)), (.int (1 : Int32)), (.ref b55), (.ref b55)])) rfl rfl (hb hby at_23)
  refine own_go st59 ?_
  have N59 := Fr.snoc X59 N57 (Nat.le_trans Z0 (Nat.le_of_eq g55.symm))
  have V59 : Arv Z h59 b55 k55 .char (2 : Int32) [(.int (nar .char ((p1 &&& (255 : Int32)).toUInt32.toUInt16.toUInt32.toInt32))), (.int (nar .char ((((p1.toUInt32 >>> ((8 : Int32) &&& 31).toUInt32).toInt32) &&& (255 : Int32)).toUInt32.toUInt16.toUInt32.toInt32)))] (.int (0 : Int32)) := Arv.set A58 q58 S58 M58 Hs58 Gs58 (fits_nar_char _) W59 1 rfl (Nat.le_of_ble_eq_true rfl)
  show own_Go p e below (T59.setTop (mkF m 24 #[.val (.int p1), .val (.int p2), .val (.int p3), .val (.int p4), .unset, .unset, .unset, .unset, .unset, .unset, .unset, .unset, .unset, .unset] [(.ref b55)])) _
  refine own_go (fun _ k => XS.astore X59.here hx rfl (hb hby at_24) rfl rfl (l' := #[.val (.int p1), .val (.int p2), .val (.int p3), .val (.int p4), .val (.ref b55), .unset, .unset, .unset, .unset, .unset, .unset, .unset, .unset, .unset]) rfl k) ?_
  show own_Go p e below (T59.setTop (mkF m 26 #[.val (.int p1), .val (.int p2), .val (.int p3), .val (.int p4), .val (.ref b55), .unset, .unset, .unset, .unset, .unset, .unset, .unset, .unset, .unset] [])) _
  refine own_go (fun _ k => XS.iconst X59.here hx rfl (hb hby at_26) k) ?_
  show own_Go p e below (T59.setTop (mkF m 27 #[.val (.int p1), .val (.int p2), .val (.int p3), .val (.int p4), .val (.ref b55), .unset, .unset, .unset, .unset, .unset, .unset, .unset, .unset, .unset] [(.int (2 : Int32))])) _
  obtain ⟨T60, h60, k60, X60, e60, E60, A60, st60⟩ := newP X59 hx hZ (hw _ (List.mem_of_getElem? (i := 0) rfl)) e59 (g := (mkF m 27 #[.val (.int p1), .val (.int p2), .val (.int p3), .val (.int p4), .val (.ref b55), .unset, .unset, .unset, .unset, .unset, .unset, .unset, .unset, .unset] [(.int (2 : Int32))])) rfl (hb hby at_27) rfl (by decide) (cap := 2) (by decide) (by decide) (by decide) (by decide)
  obtain ⟨b60, g60⟩ : ∃ z, z = h59.size := ⟨_, rfl⟩
  rw [← g60] at A60 st60
  refine own_go st60 ?_
  have V60 : Arv Z h60 b60 k60 .char (2 : Int32) [(.int (0 : Int32)), (.int (0 : Int32))] (.int (0 : Int32)) := (Arv.new A60 (by decide)).pad (pad_rep [] (.int (0 : Int32)) 2)
  show own_Go p e below (T60.setTop (mkF m 29 #[.val (.int p1), .val (.int p2), .val (.int p3), .val (.int p4), .val (.ref b55), .unset, .unset, .unset, .unset, .unset, .unset, .unset, .unset, .unset] [(.ref b60)])) _
  refine own_go (fun _ k => XS.dup X60.here hx rfl (hb hby at_29) rfl rfl k) ?_
  show own_Go p e below (T60.setTop (mkF m 30 #[.val (.int p1), .val (.int p2), .val (.int p3), .val (.int p4), .val (.ref b55), .unset, .unset, .unset, .unset, .unset, .unset, .unset, .unset, .unset] [(.ref b60), (.ref b60)])) _
  refine own_go (fun _ k => XS.iconst X60.here hx rfl (hb hby at_30) k) ?_
  show own_Go p e below (T60.setTop (mkF m 31 #[.val (.int p1), .val (.int p2), .val (.int p3), .val (.int p4), .val (.ref b55), .unset, .unset, .unset, .unset, .unset, .unset, .unset, .unset, .unset] [(.int (0 : Int32)), (.ref b60), (.ref b60)])) _
  refine own_go (fun _ k => XS.iloadN X60.here hx rfl (hb hby at_31) rfl k) ?_
  show own_Go p e below (T60.setTop (mkF m 32 #[.val (.int p1), .val (.int p2), .val (.int p3), .val (.int p4), .val (.ref b55), .unset, .unset, .unset, .unset, .unset, .unset, .unset, .unset, .unset] [(.int p2), (.int (0 : Int32)), (.ref b60), (.ref b60)])) _
  refine own_go (fun _ k => XS.sipush X60.here hx rfl (hb hby at_32) k) ?_
  show own_Go p e below (T60.setTop (mkF m 35 #[.val (.int p1), .val (.int p2), .val (.int p3), .val (.int p4), .val (.ref b55), .unset, .unset, .unset, .unset, .unset, .unset, .unset, .unset, .unset] [(.int (255 : Int32)), (.int p2), (.int (0 : Int32)), (.ref b60), (.ref b60)])) _
  refine own_go (fun _ k => XS.iand X60.here hx rfl (hb hby at_35) rfl k) ?_
  show own_Go p e below (T60.setTop (mkF m 36 #[.val (.int p1), .val (.int p2), .val (.int p3), .val (.int p4), .val (.ref b55), .unset, .unset, .unset, .unset, .unset, .unset, .unset, .unset, .unset] [(.int (p2 &&& (255 : Int32))), (.int (0 : Int32)), (.ref b60), (.ref b60)])) _
  refine own_go (fun _ k => XS.i2c X60.here hx rfl (hb hby at_36) rfl k) ?_
  show own_Go p e below (T60.setTop (mkF m 37 #[.val (.int p1), .val (.int p2), .val (.int p3), .val (.int p4), .val (.ref b55), .unset, .unset, .unset, .unset, .unset, .unset, .unset, .unset, .unset] [(.int ((p2 &&& (255 : Int32)).toUInt32.toUInt16.toUInt32.toInt32)), (.int (0 : Int32)), (.ref b60), (.ref b60)])) _
  obtain ⟨c61, A61, q61, S61, M61, Hs61, Gs61⟩ := id V60
  obtain ⟨T62, h62, X62, e62, W62, st62⟩ := stC X60 hx hZ e60 A61 (j := (0 : Int32)) (inb_of S61 ⟨by decide, by decide⟩) (g := (mkF m 37 #[.val (.int p1), .val (.int p2), .val (.int p3), .val (.int p4), .val (.ref b55), .unset, .unset, .unset, .unset, .unset, .unset, .unset, .unset, .unset] [(.int ((p2 &&& (255 : Int32)).toUInt32.toUInt16.toUInt32.toInt32)), (.int (0 : Int32)), (.ref b60), (.ref b60)])) rfl rfl (hb hby at_37)
  have z63 := (Nat.le_trans (Nat.le_trans E55.1 (Keep.of_wr W57).1) (Keep.of_wr W59).1)
  refine own_go st62 ?_
  have N62 := Fr.snoc X62 N59 (Nat.le_trans Z0 (Nat.le_trans z63 (Nat.le_of_eq g60.symm)))
  have V62 : Arv Z h62 b60 k60 .char (2 : Int32) [(.int (nar .char ((p2 &&& (255 : Int32)).toUInt32.toUInt16.toUInt32.toInt32))), (.int (0 : Int32))] (.int (0 : Int32)) := Arv.set A61 q61 S61 M61 Hs61 Gs61 (fits_nar_char _) W62 0 rfl (Nat.le_of_ble_eq_true rfl)
  show own_Go p e below (T62.setTop (mkF m 38 #[.val (.int p1), .val (.int p2), .val (.int p3), .val (.int p4), .val (.ref b55), .unset, .unset, .unset, .unset, .unset, .unset, .unset, .unset, .unset] [(.ref b60)])) _
  refine own_go (fun _ k => XS.dup X62.here hx rfl (hb hby at_38) rfl rfl k) ?_
  show own_Go p e below (T62.setTop (mkF m 39 #[.val (.int p1), .val (.int p2), .val (.int p3), .val (.int p4), .val (.ref b55), .unset, .unset, .unset, .unset, .unset, .unset, .unset, .unset, .unset] [(.ref b60), (.ref b60)])) _
  refine own_go (fun _ k => XS.iconst X62.here hx rfl (hb hby at_39) k) ?_
  show own_Go p e below (T62.setTop (mkF m 40 #[.val (.int p1), .val (.int p2), .val (.int p3), .val (.int p4), .val (.ref b55), .unset, .unset, .unset, .unset, .unset, .unset, .unset, .unset, .unset] [(.int (1 : Int32)), (.ref b60), (.ref b60)])) _
  refine own_go (fun _ k => XS.iloadN X62.here hx rfl (hb hby at_40) rfl k) ?_
  show own_Go p e below (T62.setTop (mkF m 41 #[.val (.int p1), .val (.int p2), .val (.int p3), .val (.int p4), .val (.ref b55), .unset, .unset, .unset, .unset, .unset, .unset, .unset, .unset, .unset] [(.int p2), (.int (1 : Int32)), (.ref b60), (.ref b60)])) _
  refine own_go (fun _ k => XS.bipush X62.here hx rfl (hb hby at_41) k) ?_
  show own_Go p e below (T62.setTop (mkF m 43 #[.val (.int p1), .val (.int p2), .val (.int p3), .val (.int p4), .val (.ref b55), .unset, .unset, .unset, .unset, .unset, .unset, .unset, .unset, .unset] [(.int (8 : Int32)), (.int p2), (.int (1 : Int32)), (.ref b60), (.ref b60)])) _
  refine own_go (fun _ k => XS.iushr X62.here hx rfl (hb hby at_43) rfl k) ?_
  show own_Go p e below (T62.setTop (mkF m 44 #[.val (.int p1), .val (.int p2), .val (.int p3), .val (.int p4), .val (.ref b55), .unset, .unset, .unset, .unset, .unset, .unset, .unset, .unset, .unset] [(.int ((p2.toUInt32 >>> ((8 : Int32) &&& 31).toUInt32).toInt32)), (.int (1 : Int32)), (.ref b60), (.ref b60)])) _
  refine own_go (fun _ k => XS.sipush X62.here hx rfl (hb hby at_44) k) ?_
  show own_Go p e below (T62.setTop (mkF m 47 #[.val (.int p1), .val (.int p2), .val (.int p3), .val (.int p4), .val (.ref b55), .unset, .unset, .unset, .unset, .unset, .unset, .unset, .unset, .unset] [(.int (255 : Int32)), (.int ((p2.toUInt32 >>> ((8 : Int32) &&& 31).toUInt32).toInt32)), (.int (1 : Int32)), (.ref b60), (.ref b60)])) _
  refine own_go (fun _ k => XS.iand X62.here hx rfl (hb hby at_47) rfl k) ?_
  show own_Go p e below (T62.setTop (mkF m 48 #[.val (.int p1), .val (.int p2), .val (.int p3), .val (.int p4), .val (.ref b55), .unset, .unset, .unset, .unset, .unset, .unset, .unset, .unset, .unset] [(.int (((p2.toUInt32 >>> ((8 : Int32) &&& 31).toUInt32).toInt32) &&& (255 : Int32))), (.int (1 : Int32)), (.ref b60), (.ref b60)])) _
  refine own_go (fun _ k => XS.i2c X62.here hx rfl (hb hby at_48) rfl k) ?_
  show own_Go p e below (T62.setTop (mkF m 49 #[.val (.int p1), .val (.int p2), .val (.int p3), .val (.int p4), .val (.ref b55), .unset, .unset, .unset, .unset, .unset, .unset, .unset, .unset, .unset] [(.int ((((p2.toUInt32 >>> ((8 : Int32) &&& 31).toUInt32).toInt32) &&& (255 : Int32)).toUInt32.toUInt16.toUInt32.toInt32)), (.int (1 : Int32)), (.ref b60), (.ref b60)])) _
  obtain ⟨c64, A64, q64, S64, M64, Hs64, Gs64⟩ := id V62
  obtain ⟨T65, h65, X65, e65, W65, st65⟩ := stC X62 hx hZ e62 A64 (j := (1 : Int32)) (inb_of S64 ⟨by decide, by decide⟩) (g := (mkF m 49 #[.val (.int p1), .val (.int p2), .val (.int p3), .val (.int p4), .val (.ref b55), .unset, .unset, .unset, .unset, .unset, .unset, .unset, .unset, .unset] [(.int ((((p2.toUInt32 >>> ((8 : Int32) &&& 31).toUInt32).toInt32) &&& (255 : Int32)).toUInt32.toUInt16.toUInt32.toInt32)), (.int (1 : Int32)), (.ref b60), (.ref b60)])) rfl rfl (hb hby at_49)
  refine own_go st65 ?_
  have N65 := Fr.snoc X65 N62 (Nat.le_trans Z0 (Nat.le_trans z63 (Nat.le_of_eq g60.symm)))
  have V65 : Arv Z h65 b60 k60 .char (2 : Int32) [(.int (nar .char ((p2 &&& (255 : Int32)).toUInt32.toUInt16.toUInt32.toInt32))), (.int (nar .char ((((p2.toUInt32 >>> ((8 : Int32) &&& 31).toUInt32).toInt32) &&& (255 : Int32)).toUInt32.toUInt16.toUInt32.toInt32)))] (.int (0 : Int32)) := Arv.set A64 q64 S64 M64 Hs64 Gs64 (fits_nar_char _) W65 1 rfl (Nat.le_of_ble_eq_true rfl)
  show own_Go p e below (T65.setTop (mkF m 50 #[.val (.int p1), .val (.int p2), .val (.int p3), .val (.int p4), .val (.ref b55), .unset, .unset, .unset, .unset, .unset, .unset, .unset, .unset, .unset] [(.ref b60)])) _
  refine own_go (fun _ k => XS.astore X65.here hx rfl (hb hby at_50) rfl rfl (l' := #[.val (.int p1), .val (.int p2), .val (.int p3), .val (.int p4), .val (.ref b55), .val (.ref b60), .unset, .unset, .unset, .unset, .unset, .unset, .unset, .unset]) rfl k) ?_
  show own_Go p e below (T65.setTop (mkF m 52 #[.val (.int p1), .val (.int p2), .val (.int p3), .val (.int p4), .val (.ref b55), .val (.ref b60), .unset, .unset, .unset, .unset, .unset, .unset, .unset, .unset] [])) _
  refine own_go (fun _ k => XS.iconst X65.here hx rfl (hb hby at_52) k) ?_
  show own_Go p e below (T65.setTop (mkF m 53 #[.val (.int p1), .val (.int p2), .val (.int p3), .val (.int p4), .val (.ref b55), .val (.ref b60), .unset, .unset, .unset, .unset, .unset, .unset, .unset, .unset] [(.int (2 : Int32))])) _
  obtain ⟨T66, h66, k66, X66, e66, E66, A66, st66⟩ := newP X65 hx hZ (hw _ (List.mem_of_getElem? (i := 0) rfl)) e65 (g := (mkF m 53 #[.val (.int p1), .val (.int p2), .val (.int p3), .val (.int p4), .val (.ref b55), .val (.ref b60), .unset, .unset, .unset, .unset, .unset, .unset, .unset, .unset] [(.int (2 : Int32))])) rfl (hb hby at_53) rfl (by decide) (cap := 2) (by decide) (by decide) (by decide) (by decide)
  obtain ⟨b66, g66⟩ : ∃ z, z = h65.size := ⟨_, rfl⟩
  rw [← g66] at A66 st66
  refine own_go st66 ?_
  have V66 : Arv Z h66 b66 k66 .char (2 : Int32) [(.int (0 : Int32)), (.int (0 : Int32))] (.int (0 : Int32)) := (Arv.new A66 (by decide)).pad (pad_rep [] (.int (0 : Int32)) 2)
  show own_Go p e below (T66.setTop (mkF m 55 #[.val (.int p1), .val (.int p2), .val (.int p3), .val (.int p4), .val (.ref b55), .val (.ref b60), .unset, .unset, .unset, .unset, .unset, .unset, .unset, .unset] [(.ref b66)])) _
  refine own_go (fun _ k => XS.dup X66.here hx rfl (hb hby at_55) rfl rfl k) ?_
  show own_Go p e below (T66.setTop (mkF m 56 #[.val (.int p1), .val (.int p2), .val (.int p3), .val (.int p4), .val (.ref b55), .val (.ref b60), .unset, .unset, .unset, .unset, .unset, .unset, .unset, .unset] [(.ref b66), (.ref b66)])) _
  refine own_go (fun _ k => XS.iconst X66.here hx rfl (hb hby at_56) k) ?_
  show own_Go p e below (T66.setTop (mkF m 57 #[.val (.int p1), .val (.int p2), .val (.int p3), .val (.int p4), .val (.ref b55), .val (.ref b60), .unset, .unset, .unset, .unset, .unset, .unset, .unset, .unset] [(.int (0 : Int32)), (.ref b66), (.ref b66)])) _
  refine own_go (fun _ k => XS.iloadN X66.here hx rfl (hb hby at_57) rfl k) ?_
  show own_Go p e below (T66.setTop (mkF m 58 #[.val (.int p1), .val (.int p2), .val (.int p3), .val (.int p4), .val (.ref b55), .val (.ref b60), .unset, .unset, .unset, .unset, .unset, .unset, .unset, .unset] [(.int p3), (.int (0 : Int32)), (.ref b66), (.ref b66)])) _
  refine own_go (fun _ k => XS.sipush X66.here hx rfl (hb hby at_58) k) ?_
  show own_Go p e below (T66.setTop (mkF m 61 #[.val (.int p1), .val (.int p2), .val (.int p3), .val (.int p4), .val (.ref b55), .val (.ref b60), .unset, .unset, .unset, .unset, .unset, .unset, .unset, .unset] [(.int (255 : Int32)), (.int p3), (.int (0 : Int32)), (.ref b66), (.ref b66)])) _
  refine own_go (fun _ k => XS.iand X66.here hx rfl (hb hby at_61) rfl k) ?_
  show own_Go p e below (T66.setTop (mkF m 62 #[.val (.int p1), .val (.int p2), .val (.int p3), .val (.int p4), .val (.ref b55), .val (.ref b60), .unset, .unset, .unset, .unset, .unset, .unset, .unset, .unset] [(.int (p3 &&& (255 : Int32))), (.int (0 : Int32)), (.ref b66), (.ref b66)])) _
  refine own_go (fun _ k => XS.i2c X66.here hx rfl (hb hby at_62) rfl k) ?_
  show own_Go p e below (T66.setTop (mkF m 63 #[.val (.int p1), .val (.int p2), .val (.int p3), .val (.int p4), .val (.ref b55), .val (.ref b60), .unset, .unset, .unset, .unset, .unset, .unset, .unset, .unset] [(.int ((p3 &&& (255 : Int32)).toUInt32.toUInt16.toUInt32.toInt32)), (.int (0 : Int32)), (.ref b66), (.ref b66)])) _
  obtain ⟨c67, A67, q67, S67, M67, Hs67, Gs67⟩ := id V66
  obtain ⟨T68, h68, X68, e68, W68, st68⟩ := stC X66 hx hZ e66 A67 (j := (0 : Int32)) (inb_of S67 ⟨by decide, by decide⟩) (g := (mkF m 63 #[.val (.int p1), .val (.int p2), .val (.int p3), .val (.int p4), .val (.ref b55), .val (.ref b60), .unset, .unset, .unset, .unset, .unset, .unset, .unset, .unset] [(.int ((p3 &&& (255 : Int32)).toUInt32.toUInt16.toUInt32.toInt32)), (.int (0 : Int32)), (.ref b66), (.ref b66)])) rfl rfl (hb hby at_63)
  have z69 := (Nat.le_trans (Nat.le_trans (Nat.le_trans z63 E60.1) (Keep.of_wr W62).1) (Keep.of_wr W65).1)
  refine own_go st68 ?_
  have N68 := Fr.snoc X68 N65 (Nat.le_trans Z0 (Nat.le_trans z69 (Nat.le_of_eq g66.symm)))
  have V68 : Arv Z h68 b66 k66 .char (2 : Int32) [(.int (nar .char ((p3 &&& (255 : Int32)).toUInt32.toUInt16.toUInt32.toInt32))), (.int (0 : Int32))] (.int (0 : Int32)) := Arv.set A67 q67 S67 M67 Hs67 Gs67 (fits_nar_char _) W68 0 rfl (Nat.le_of_ble_eq_true rfl)
  show own_Go p e below (T68.setTop (mkF m 64 #[.val (.int p1), .val (.int p2), .val (.int p3), .val (.int p4), .val (.ref b55), .val (.ref b60), .unset, .unset, .unset, .unset, .unset, .unset, .unset, .unset] [(.ref b66)])) _
  refine own_go (fun _ k => XS.dup X68.here hx rfl (hb hby at_64) rfl rfl k) ?_
  show own_Go p e below (T68.setTop (mkF m 65 #[.val (.int p1), .val (.int p2), .val (.int p3), .val (.int p4), .val (.ref b55), .val (.ref b60), .unset, .unset, .unset, .unset, .unset, .unset, .unset, .unset] [(.ref b66), (.ref b66)])) _
  refine own_go (fun _ k => XS.iconst X68.here hx rfl (hb hby at_65) k) ?_
  show own_Go p e below (T68.setTop (mkF m 66 #[.val (.int p1), .val (.int p2), .val (.int p3), .val (.int p4), .val (.ref b55), .val (.ref b60), .unset, .unset, .unset, .unset, .unset, .unset, .unset, .unset] [(.int (1 : Int32)), (.ref b66), (.ref b66)])) _
  refine own_go (fun _ k => XS.iloadN X68.here hx rfl (hb hby at_66) rfl k) ?_
  show own_Go p e below (T68.setTop (mkF m 67 #[.val (.int p1), .val (.int p2), .val (.int p3), .val (.int p4), .val (.ref b55), .val (.ref b60), .unset, .unset, .unset, .unset, .unset, .unset, .unset, .unset] [(.int p3), (.int (1 : Int32)), (.ref b66), (.ref b66)])) _
  refine own_go (fun _ k => XS.bipush X68.here hx rfl (hb hby at_67) k) ?_
  show own_Go p e below (T68.setTop (mkF m 69 #[.val (.int p1), .val (.int p2), .val (.int p3), .val (.int p4), .val (.ref b55), .val (.ref b60), .unset, .unset, .unset, .unset, .unset, .unset, .unset, .unset] [(.int (8 : Int32)), (.int p3), (.int (1 : Int32)), (.ref b66), (.ref b66)])) _
  refine own_go (fun _ k => XS.iushr X68.here hx rfl (hb hby at_69) rfl k) ?_
  show own_Go p e below (T68.setTop (mkF m 70 #[.val (.int p1), .val (.int p2), .val (.int p3), .val (.int p4), .val (.ref b55), .val (.ref b60), .unset, .unset, .unset, .unset, .unset, .unset, .unset, .unset] [(.int ((p3.toUInt32 >>> ((8 : Int32) &&& 31).toUInt32).toInt32)), (.int (1 : Int32)), (.ref b66), (.ref b66)])) _
  refine own_go (fun _ k => XS.sipush X68.here hx rfl (hb hby at_70) k) ?_
  show own_Go p e below (T68.setTop (mkF m 73 #[.val (.int p1), .val (.int p2), .val (.int p3), .val (.int p4), .val (.ref b55), .val (.ref b60), .unset, .unset, .unset, .unset, .unset, .unset, .unset, .unset] [(.int (255 : Int32)), (.int ((p3.toUInt32 >>> ((8 : Int32) &&& 31).toUInt32).toInt32)), (.int (1 : Int32)), (.ref b66), (.ref b66)])) _
  refine own_go (fun _ k => XS.iand X68.here hx rfl (hb hby at_73) rfl k) ?_
  show own_Go p e below (T68.setTop (mkF m 74 #[.val (.int p1), .val (.int p2), .val (.int p3), .val (.int p4), .val (.ref b55), .val (.ref b60), .unset, .unset, .unset, .unset, .unset, .unset, .unset, .unset] [(.int (((p3.toUInt32 >>> ((8 : Int32) &&& 31).toUInt32).toInt32) &&& (255 : Int32))), (.int (1 : Int32)), (.ref b66), (.ref b66)])) _
  refine own_go (fun _ k => XS.i2c X68.here hx rfl (hb hby at_74) rfl k) ?_
  show own_Go p e below (T68.setTop (mkF m 75 #[.val (.int p1), .val (.int p2), .val (.int p3), .val (.int p4), .val (.ref b55), .val (.ref b60), .unset, .unset, .unset, .unset, .unset, .unset, .unset, .unset] [(.int ((((p3.toUInt32 >>> ((8 : Int32) &&& 31).toUInt32).toInt32) &&& (255 : Int32)).toUInt32.toUInt16.toUInt32.toInt32)), (.int (1 : Int32)), (.ref b66), (.ref b66)])) _
  obtain ⟨c70, A70, q70, S70, M70, Hs70, Gs70⟩ := id V68
  obtain ⟨T71, h71, X71, e71, W71, st71⟩ := stC X68 hx hZ e68 A70 (j := (1 : Int32)) (inb_of S70 ⟨by decide, by decide⟩) (g := (mkF m 75 #[.val (.int p1), .val (.int p2), .val (.int p3), .val (.int p4), .val (.ref b55), .val (.ref b60), .unset, .unset, .unset, .unset, .unset, .unset, .unset, .unset] [(.int ((((p3.toUInt32 >>> ((8 : Int32) &&& 31).toUInt32).toInt32) &&& (255 : Int32)).toUInt32.toUInt16.toUInt32.toInt32)), (.int (1 : Int32)), (.ref b66), (.ref b66)])) rfl rfl (hb hby at_75)
  refine own_go st71 ?_
  have N71 := Fr.snoc X71 N68 (Nat.le_trans Z0 (Nat.le_trans z69 (Nat.le_of_eq g66.symm)))
  have V71 : Arv Z h71 b66 k66 .char (2 : Int32) [(.int (nar .char ((p3 &&& (255 : Int32)).toUInt32.toUInt16.toUInt32.toInt32))), (.int (nar .char ((((p3.toUInt32 >>> ((8 : Int32) &&& 31).toUInt32).toInt32) &&& (255 : Int32)).toUInt32.toUInt16.toUInt32.toInt32)))] (.int (0 : Int32)) := Arv.set A70 q70 S70 M70 Hs70 Gs70 (fits_nar_char _) W71 1 rfl (Nat.le_of_ble_eq_true rfl)
  show own_Go p e below (T71.setTop (mkF m 76 #[.val (.int p1), .val (.int p2), .val (.int p3), .val (.int p4), .val (.ref b55), .val (.ref b60), .unset, .unset, .unset, .unset, .unset, .unset, .unset, .unset] [(.ref b66)])) _
  refine own_go (fun _ k => XS.astore X71.here hx rfl (hb hby at_76) rfl rfl (l' := #[.val (.int p1), .val (.int p2), .val (.int p3), .val (.int p4), .val (.ref b55), .val (.ref b60), .val (.ref b66), .unset, .unset, .unset, .unset, .unset, .unset, .unset]) rfl k) ?_
  show own_Go p e below (T71.setTop (mkF m 78 #[.val (.int p1), .val (.int p2), .val (.int p3), .val (.int p4), .val (.ref b55), .val (.ref b60), .val (.ref b66), .unset, .unset, .unset, .unset, .unset, .unset, .unset] [])) _
  obtain ⟨T72, h72, X72, e72, E72, A72, D72, U72, st72⟩ := newO X71 hx hZ hown (hw _ (List.mem_of_getElem? (i := 1) rfl)) (hw _ (List.mem_of_getElem? (i := 2) rfl)) (hw _ (List.mem_of_getElem? (i := 3) rfl)) e71 (g := (mkF m 78 #[.val (.int p1), .val (.int p2), .val (.int p3), .val (.int p4), .val (.ref b55), .val (.ref b60), .val (.ref b66), .unset, .unset, .unset, .unset, .unset, .unset, .unset] [])) rfl (hb hby at_78) (by decide) (by decide)
  obtain ⟨b72, g72⟩ : ∃ z, z = h71.size := ⟨_, rfl⟩
  rw [← g72] at A72 D72 U72 st72
  refine own_go st72 ?_
  have F72_coder : Fld Z h72 b72 "java/lang/String" "coder" "B" (.int (0 : Int32)) := D72 (Or.inr (hw _ (List.mem_of_getElem? (i := 27) rfl))) (ty := .byte) (by decide)
  have F72_value : Fld Z h72 b72 "java/lang/String" "value" "[B" .null := D72 (Or.inr (hw _ (List.mem_of_getElem? (i := 29) rfl))) (ty := (.array .byte)) (by decide)
  show own_Go p e below (T72.setTop (mkF m 81 #[.val (.int p1), .val (.int p2), .val (.int p3), .val (.int p4), .val (.ref b55), .val (.ref b60), .val (.ref b66), .unset, .unset, .unset, .unset, .unset, .unset, .unset] [(.ref b72)])) _
  refine own_go (fun _ k => XS.dup X72.here hx rfl (hb hby at_81) rfl rfl k) ?_
  show own_Go p e below (T72.setTop (mkF m 82 #[.val (.int p1), .val (.int p2), .val (.int p3), .val (.int p4), .val (.ref b55), .val (.ref b60), .val (.ref b66), .unset, .unset, .unset, .unset, .unset, .unset, .unset] [(.ref b72), (.ref b72)])) _
  refine own_go (fun _ k => XS.aload X72.here hx rfl (hb hby at_82) rfl rfl k) ?_
  show own_Go p e below (T72.setTop (mkF m 84 #[.val (.int p1), .val (.int p2), .val (.int p3), .val (.int p4), .val (.ref b55), .val (.ref b60), .val (.ref b66), .unset, .unset, .unset, .unset, .unset, .unset, .unset] [(.ref b55), (.ref b72), (.ref b72)])) _
  have f73 := ((((((((((O0.ext E55).wr W57 (Nat.le_trans Z0 (Nat.le_of_eq g55.symm))).wr W59 (Nat.le_trans Z0 (Nat.le_of_eq g55.symm))).ext E60).wr W62 (Nat.le_trans Z0 (Nat.le_trans z63 (Nat.le_of_eq g60.symm)))).wr W65 (Nat.le_trans Z0 (Nat.le_trans z63 (Nat.le_of_eq g60.symm)))).ext E66).wr W68 (Nat.le_trans Z0 (Nat.le_trans z69 (Nat.le_of_eq g66.symm)))).wr W71 (Nat.le_trans Z0 (Nat.le_trans z69 (Nat.le_of_eq g66.symm)))).ext E72)
  have z74 := (Nat.le_trans (Nat.le_trans (Nat.le_trans z69 E66.1) (Keep.of_wr W68).1) (Keep.of_wr W71).1)
  have z76 := (Nat.le_trans (Keep.of_wr W57).1 (Keep.of_wr W59).1)
  have ne75 : b55 ≠ b60 := Nat.ne_of_lt (Nat.lt_of_lt_of_le (Nat.lt_of_lt_of_le V55.lt z76) (Nat.le_of_eq g60.symm))
  have z78 := (Nat.le_trans (Nat.le_trans (Nat.le_trans z76 E60.1) (Keep.of_wr W62).1) (Keep.of_wr W65).1)
  have ne77 : b55 ≠ b66 := Nat.ne_of_lt (Nat.lt_of_lt_of_le (Nat.lt_of_lt_of_le V55.lt z78) (Nat.le_of_eq g66.symm))
  have f79 := (((((((V59.ext E60).other W62 ne75).other W65 ne75).ext E66).other W68 ne77).other W71 ne77).ext E72)
  obtain ⟨v80, _, ⟨T80, L80, k80, n80⟩, -, X80, ⟨Lc80, hQ80, l80, y80, z80⟩, st80⟩ := X72.specialBack hx (y := (⟨"java/lang/String", "<init>", "([C)V"⟩ : MethodName)) rfl hown (mvT hZ (hw _ (List.mem_of_getElem? (i := 4) rfl))) (mvT hZ (hw _ (List.mem_of_getElem? (i := 5) rfl))) (mvT hZ (hw _ (List.mem_of_getElem? (i := 6) rfl))) (by decide) (StrChars.Road.backV (W := 1) hZ (own_wStr hw) (kI := 4) (hw _ (List.mem_of_getElem? (i := 2) rfl)) (cs := ([(nar .char ((p1 &&& (255 : Int32)).toUInt32.toUInt16.toUInt32.toInt32)), (nar .char ((((p1.toUInt32 >>> ((8 : Int32) &&& 31).toUInt32).toInt32) &&& (255 : Int32)).toUInt32.toUInt16.toUInt32.toInt32))] : List Int32)) (bs := (([(nar .char ((p1 &&& (255 : Int32)).toUInt32.toUInt16.toUInt32.toInt32)), (nar .char ((((p1.toUInt32 >>> ((8 : Int32) &&& 31).toUInt32).toInt32) &&& (255 : Int32)).toUInt32.toUInt16.toUInt32.toInt32))] : List Int32)).map (fun c => c.toInt8.toInt32)) (n := 2) (Nat.le_trans Z0 (Nat.le_trans z74 (Nat.le_of_eq g72.symm))) (Nat.le_trans Z0 (Nat.le_trans z74 E72.1)) A72 F72_value F72_coder f79 (O2.ext f73.2) P5 rfl rfl (by decide) (by decide) (fun c hc => by simp only [List.mem_cons, List.not_mem_nil, or_false] at hc; rcases hc with rfl | rfl <;> exact own_and255 _) rfl (by decide) (by decide)) (g := (mkF m 84 #[.val (.int p1), .val (.int p2), .val (.int p3), .val (.int p4), .val (.ref b55), .val (.ref b60), .val (.ref b66), .unset, .unset, .unset, .unset, .unset, .unset, .unset] [(.ref b55), (.ref b72), (.ref b72)])) rfl (by rw [hml]; rfl) (Steps.refl _) (a := b72) (argsL := [(.ref b55)]) (rest := [(.ref b72)]) (lenOf pd_5 rfl) rfl (by show 2 * 0 + _ ≤ _; exact Nat.le_of_eq rfl) (hb hby at_84) (fun _ _ => ⟨rfl, e72, (by decide : 4 + 1 ≤ _), (by decide : 10 + 2 ≤ _)⟩)
  dsimp only [Pt.U, Pt.locs, Pt.cells, Pt.slots] at X80 l80 y80 z80 st80 hQ80
  subst l80 y80 z80
  refine own_gos st80 ?_
  obtain ⟨rfl, Nq80, K80, Eq80, Fc80, t80, kt80, -, tg80, tn80, Fv80, Vt80⟩ := hQ80
  have N80 := Fr.app N71 Nq80
  show own_Go p e below (T80.setTop (mkF m 87 #[.val (.int p1), .val (.int p2), .val (.int p3), .val (.int p4), .val (.ref b55), .val (.ref b60), .val (.ref b66), .unset, .unset, .unset, .unset, .unset, .unset, .unset] [(.ref b72)])) _
  refine own_go (fun _ k => XS.astore X80.here hx rfl (hb hby at_87) rfl rfl (l' := #[.val (.int p1), .val (.int p2), .val (.int p3), .val (.int p4), .val (.ref b55), .val (.ref b60), .val (.ref b66), .val (.ref b72), .unset, .unset, .unset, .unset, .unset, .unset]) rfl k) ?_
  show own_Go p e below (T80.setTop (mkF m 89 #[.val (.int p1), .val (.int p2), .val (.int p3), .val (.int p4), .val (.ref b55), .val (.ref b60), .val (.ref b66), .val (.ref b72), .unset, .unset, .unset, .unset, .unset, .unset] [])) _
  refine own_go (fun _ k => XS.iloadN X80.here hx rfl (hb hby at_89) rfl k) ?_
  show own_Go p e below (T80.setTop (mkF m 90 #[.val (.int p1), .val (.int p2), .val (.int p3), .val (.int p4), .val (.ref b55), .val (.ref b60), .val (.ref b66), .val (.ref b72), .unset, .unset, .unset, .unset, .unset, .unset] [(.int p4)])) _
  refine own_go (fun _ k => XS.iconst X80.here hx rfl (hb hby at_90) k) ?_
  show own_Go p e below (T80.setTop (mkF m 91 #[.val (.int p1), .val (.int p2), .val (.int p3), .val (.int p4), .val (.ref b55), .val (.ref b60), .val (.ref b66), .val (.ref b72), .unset, .unset, .unset, .unset, .unset, .unset] [(.int (2 : Int32)), (.int p4)])) _
  refine own_go (fun _ k => XS.iand X80.here hx rfl (hb hby at_91) rfl k) ?_
  show own_Go p e below (T80.setTop (mkF m 92 #[.val (.int p1), .val (.int p2), .val (.int p3), .val (.int p4), .val (.ref b55), .val (.ref b60), .val (.ref b66), .val (.ref b72), .unset, .unset, .unset, .unset, .unset, .unset] [(.int (p4 &&& (2 : Int32)))])) _
  by_cases hc81 : (p4 &&& (2 : Int32)) = (0 : Int32)
  · skip
    refine own_go (fun _ k => XS.ifYes X80.here hx rfl (pc0 := 92) (pc' := 100) rfl (hb hby at_92) rfl ((if0 _ _).trans (teq hc81).1) (by decide) (by decide) k) ?_
    show own_Go p e below (T80.setTop (mkF m 100 #[.val (.int p1), .val (.int p2), .val (.int p3), .val (.int p4), .val (.ref b55), .val (.ref b60), .val (.ref b66), .val (.ref b72), .unset, .unset, .unset, .unset, .unset, .unset] [])) _
    obtain ⟨T82, h82, X82, e82, E82, A82, D82, U82, st82⟩ := newO X80 hx hZ hown (hw _ (List.mem_of_getElem? (i := 1) rfl)) (hw _ (List.mem_of_getElem? (i := 2) rfl)) (hw _ (List.mem_of_getElem? (i := 3) rfl)) (rfl : T80.heap = T80.heap) (g := (mkF m 100 #[.val (.int p1), .val (.int p2), .val (.int p3), .val (.int p4), .val (.ref b55), .val (.ref b60), .val (.ref b66), .val (.ref b72), .unset, .unset, .unset, .unset, .unset, .unset] [])) rfl (hb hby at_100) (by decide) (by decide)
    obtain ⟨b82, g82⟩ : ∃ z, z = T80.heap.size := ⟨_, rfl⟩
    rw [← g82] at A82 D82 U82 st82
    refine own_go st82 ?_
    have F82_coder : Fld Z h82 b82 "java/lang/String" "coder" "B" (.int (0 : Int32)) := D82 (Or.inr (hw _ (List.mem_of_getElem? (i := 27) rfl))) (ty := .byte) (by decide)
    have F82_value : Fld Z h82 b82 "java/lang/String" "value" "[B" .null := D82 (Or.inr (hw _ (List.mem_of_getElem? (i := 29) rfl))) (ty := (.array .byte)) (by decide)
    show own_Go p e below (T82.setTop (mkF m 103 #[.val (.int p1), .val (.int p2), .val (.int p3), .val (.int p4), .val (.ref b55), .val (.ref b60), .val (.ref b66), .val (.ref b72), .unset, .unset, .unset, .unset, .unset, .unset] [(.ref b82)])) _
    refine own_go (fun _ k => XS.dup X82.here hx rfl (hb hby at_103) rfl rfl k) ?_
    show own_Go p e below (T82.setTop (mkF m 104 #[.val (.int p1), .val (.int p2), .val (.int p3), .val (.int p4), .val (.ref b55), .val (.ref b60), .val (.ref b66), .val (.ref b72), .unset, .unset, .unset, .unset, .unset, .unset] [(.ref b82), (.ref b82)])) _
    refine own_go (fun _ k => XS.aload X82.here hx rfl (hb hby at_104) rfl rfl k) ?_
    show own_Go p e below (T82.setTop (mkF m 106 #[.val (.int p1), .val (.int p2), .val (.int p3), .val (.int p4), .val (.ref b55), .val (.ref b60), .val (.ref b66), .val (.ref b72), .unset, .unset, .unset, .unset, .unset, .unset] [(.ref b60), (.ref b82), (.ref b82)])) _
    have f83 := ((f73.keep K80 (allS (Nat.le_trans Z0 (Nat.le_trans z74 (Nat.le_of_eq g72.symm))) all0)).ext E82)
    have z84 := (Nat.le_trans (Nat.le_trans z74 E72.1) K80.1)
    have z86 := (Nat.le_trans (Keep.of_wr W62).1 (Keep.of_wr W65).1)
    have ne85 : b60 ≠ b66 := Nat.ne_of_lt (Nat.lt_of_lt_of_le (Nat.lt_of_lt_of_le V60.lt z86) (Nat.le_of_eq g66.symm))
    have z88 := (Nat.le_trans (Nat.le_trans (Nat.le_trans z86 E66.1) (Keep.of_wr W68).1) (Keep.of_wr W71).1)
    have ne87 : b60 ≠ b72 := Nat.ne_of_lt (Nat.lt_of_lt_of_le (Nat.lt_of_lt_of_le V60.lt z88) (Nat.le_of_eq g72.symm))
    have f89 := ((((((V65.ext E66).other W68 ne85).other W71 ne85).ext E72).keep K80 (ninS ne87 nin0)).ext E82)
    obtain ⟨v90, _, ⟨T90, L90, k90, n90⟩, -, X90, ⟨Lc90, hQ90, l90, y90, z90⟩, st90⟩ := X82.specialBack hx (y := (⟨"java/lang/String", "<init>", "([C)V"⟩ : MethodName)) rfl hown (mvT hZ (hw _ (List.mem_of_getElem? (i := 4) rfl))) (mvT hZ (hw _ (List.mem_of_getElem? (i := 5) rfl))) (mvT hZ (hw _ (List.mem_of_getElem? (i := 6) rfl))) (by decide) (StrChars.Road.backV (W := 1) hZ (own_wStr hw) (kI := 4) (hw _ (List.mem_of_getElem? (i := 2) rfl)) (cs := ([(nar .char ((p2 &&& (255 : Int32)).toUInt32.toUInt16.toUInt32.toInt32)), (nar .char ((((p2.toUInt32 >>> ((8 : Int32) &&& 31).toUInt32).toInt32) &&& (255 : Int32)).toUInt32.toUInt16.toUInt32.toInt32))] : List Int32)) (bs := (([(nar .char ((p2 &&& (255 : Int32)).toUInt32.toUInt16.toUInt32.toInt32)), (nar .char ((((p2.toUInt32 >>> ((8 : Int32) &&& 31).toUInt32).toInt32) &&& (255 : Int32)).toUInt32.toUInt16.toUInt32.toInt32))] : List Int32)).map (fun c => c.toInt8.toInt32)) (n := 2) (Nat.le_trans Z0 (Nat.le_trans z84 (Nat.le_of_eq g82.symm))) (Nat.le_trans Z0 (Nat.le_trans z84 E82.1)) A82 F82_value F82_coder f89 (O2.ext f83.2) P5 rfl rfl (by decide) (by decide) (fun c hc => by simp only [List.mem_cons, List.not_mem_nil, or_false] at hc; rcases hc with rfl | rfl <;> exact own_and255 _) rfl (by decide) (by decide)) (g := (mkF m 106 #[.val (.int p1), .val (.int p2), .val (.int p3), .val (.int p4), .val (.ref b55), .val (.ref b60), .val (.ref b66), .val (.ref b72), .unset, .unset, .unset, .unset, .unset, .unset] [(.ref b60), (.ref b82), (.ref b82)])) rfl (by rw [hml]; rfl) (Steps.refl _) (a := b82) (argsL := [(.ref b60)]) (rest := [(.ref b82)]) (lenOf pd_5 rfl) rfl (by show 2 * 0 + _ ≤ _; exact Nat.le_of_eq rfl) (hb hby at_106) (fun _ _ => ⟨rfl, e82, (by decide : 6 + 1 ≤ _), (by decide : 16 + 2 ≤ _)⟩)
    dsimp only [Pt.U, Pt.locs, Pt.cells, Pt.slots] at X90 l90 y90 z90 st90 hQ90
    subst l90 y90 z90
    refine own_gos st90 ?_
    obtain ⟨rfl, Nq90, K90, Eq90, Fc90, t90, kt90, -, tg90, tn90, Fv90, Vt90⟩ := hQ90
    have N90 := Fr.app N80 Nq90
    show own_Go p e below (T90.setTop (mkF m 109 #[.val (.int p1), .val (.int p2), .val (.int p3), .val (.int p4), .val (.ref b55), .val (.ref b60), .val (.ref b66), .val (.ref b72), .unset, .unset, .unset, .unset, .unset, .unset] [(.ref b82)])) _
    refine own_go (fun _ k => XS.astore X90.here hx rfl (hb hby at_109) rfl rfl (l' := #[.val (.int p1), .val (.int p2), .val (.int p3), .val (.int p4), .val (.ref b55), .val (.ref b60), .val (.ref b66), .val (.ref b72), .val (.ref b82), .unset, .unset, .unset, .unset, .unset]) rfl k) ?_
    show own_Go p e below (T90.setTop (mkF m 111 #[.val (.int p1), .val (.int p2), .val (.int p3), .val (.int p4), .val (.ref b55), .val (.ref b60), .val (.ref b66), .val (.ref b72), .val (.ref b82), .unset, .unset, .unset, .unset, .unset] [])) _
    refine own_go (fun _ k => XS.iloadN X90.here hx rfl (hb hby at_111) rfl k) ?_
    show own_Go p e below (T90.setTop (mkF m 112 #[.val (.int p1), .val (.int p2), .val (.int p3), .val (.int p4), .val (.ref b55), .val (.ref b60), .val (.ref b66), .val (.ref b72), .val (.ref b82), .unset, .unset, .unset, .unset, .unset] [(.int p4)])) _
    refine own_go (fun _ k => XS.iconst X90.here hx rfl (hb hby at_112) k) ?_
    show own_Go p e below (T90.setTop (mkF m 113 #[.val (.int p1), .val (.int p2), .val (.int p3), .val (.int p4), .val (.ref b55), .val (.ref b60), .val (.ref b66), .val (.ref b72), .val (.ref b82), .unset, .unset, .unset, .unset, .unset] [(.int (1 : Int32)), (.int p4)])) _
    refine own_go (fun _ k => XS.iand X90.here hx rfl (hb hby at_113) rfl k) ?_
    show own_Go p e below (T90.setTop (mkF m 114 #[.val (.int p1), .val (.int p2), .val (.int p3), .val (.int p4), .val (.ref b55), .val (.ref b60), .val (.ref b66), .val (.ref b72), .val (.ref b82), .unset, .unset, .unset, .unset, .unset] [(.int (p4 &&& (1 : Int32)))])) _
    by_cases hc91 : (p4 &&& (1 : Int32)) = (0 : Int32)
    · skip
      refine own_go (fun _ k => XS.ifYes X90.here hx rfl (pc0 := 114) (pc' := 121) rfl (hb hby at_114) rfl ((if0 _ _).trans (teq hc91).1) (by decide) (by decide) k) ?_
      show own_Go p e below (T90.setTop (mkF m 121 #[.val (.int p1), .val (.int p2), .val (.int p3), .val (.int p4), .val (.ref b55), .val (.ref b60), .val (.ref b66), .val (.ref b72), .val (.ref b82), .unset, .unset, .unset, .unset, .unset] [])) _
      refine own_go (fun _ k => XS.iconst X90.here hx rfl (hb hby at_121) k) ?_
      show own_Go p e below (T90.setTop (mkF m 122 #[.val (.int p1), .val (.int p2), .val (.int p3), .val (.int p4), .val (.ref b55), .val (.ref b60), .val (.ref b66), .val (.ref b72), .val (.ref b82), .unset, .unset, .unset, .unset, .unset] [(.int (0 : Int32))])) _
      refine own_go (fun _ k => XS.istore X90.here hx rfl (hb hby at_122) rfl (l' := #[.val (.int p1), .val (.int p2), .val (.int p3), .val (.int p4), .val (.ref b55), .val (.ref b60), .val (.ref b66), .val (.ref b72), .val (.ref b82), .val (.int (0 : Int32)), .unset, .unset, .unset, .unset]) rfl k) ?_
      show own_Go p e below (T90.setTop (mkF m 124 #[.val (.int p1), .val (.int p2), .val (.int p3), .val (.int p4), .val (.ref b55), .val (.ref b60), .val (.ref b66), .val (.ref b72), .val (.ref b82), .val (.int (0 : Int32)), .unset, .unset, .unset, .unset] [])) _
      obtain ⟨T92, h92, X92, e92, E92, A92, D92, U92, st92⟩ := newO X90 hx hZ hown (hw _ (List.mem_of_getElem? (i := 30) rfl)) (hw _ (List.mem_of_getElem? (i := 31) rfl)) (hw _ (List.mem_of_getElem? (i := 32) rfl)) (rfl : T90.heap = T90.heap) (g := (mkF m 124 #[.val (.int p1), .val (.int p2), .val (.int p3), .val (.int p4), .val (.ref b55), .val (.ref b60), .val (.ref b66), .val (.ref b72), .val (.ref b82), .val (.int (0 : Int32)), .unset, .unset, .unset, .unset] [])) rfl (hb hby at_124) (by decide) (by decide)
      obtain ⟨b92, g92⟩ : ∃ z, z = T90.heap.size := ⟨_, rfl⟩
      rw [← g92] at A92 D92 U92 st92
      refine own_go st92 ?_
      have F92_name : Fld Z h92 b92 "com/example/rederive/rederive/Variable" "name" "Ljava/lang/String;" .null := D92 (Or.inr (hw _ (List.mem_of_getElem? (i := 50) rfl))) (ty := (.object "java/lang/String")) (by decide)
      show own_Go p e below (T92.setTop (mkF m 127 #[.val (.int p1), .val (.int p2), .val (.int p3), .val (.int p4), .val (.ref b55), .val (.ref b60), .val (.ref b66), .val (.ref b72), .val (.ref b82), .val (.int (0 : Int32)), .unset, .unset, .unset, .unset] [(.ref b92)])) _
      refine own_go (fun _ k => XS.dup X92.here hx rfl (hb hby at_127) rfl rfl k) ?_
      show own_Go p e below (T92.setTop (mkF m 128 #[.val (.int p1), .val (.int p2), .val (.int p3), .val (.int p4), .val (.ref b55), .val (.ref b60), .val (.ref b66), .val (.ref b72), .val (.ref b82), .val (.int (0 : Int32)), .unset, .unset, .unset, .unset] [(.ref b92), (.ref b92)])) _
      refine own_go (fun _ k => XS.aload X92.here hx rfl (hb hby at_128) rfl rfl k) ?_
      show own_Go p e below (T92.setTop (mkF m 130 #[.val (.int p1), .val (.int p2), .val (.int p3), .val (.int p4), .val (.ref b55), .val (.ref b60), .val (.ref b66), .val (.ref b72), .val (.ref b82), .val (.int (0 : Int32)), .unset, .unset, .unset, .unset] [(.ref b72), (.ref b92), (.ref b92)])) _
      have z93 := (Nat.le_trans (Nat.le_trans z84 E82.1) K90.1)
      have f94 := ((f83.keep K90 (allS (Nat.le_trans Z0 (Nat.le_trans z84 (Nat.le_of_eq g82.symm))) all0)).ext E92)
      obtain ⟨v95, _, ⟨T95, L95, k95, n95⟩, -, X95, hS95, hg95, ⟨Lc95, hQ95, l95, y95, z95, A95⟩, st95⟩ := X92.specialBackS hx (y := (⟨"com/example/rederive/rederive/Variable", "<init>", "(Ljava/lang/String;)V"⟩ : MethodName)) rfl hown (mvT hZ (hw _ (List.mem_of_getElem? (i := 33) rfl))) (mvT hZ (hw _ (List.mem_of_getElem? (i := 34) rfl))) (mvT hZ (hw _ (List.mem_of_getElem? (i := 35) rfl))) (by decide) (backOfSH (W := 1) (rm_var l Z a0 hw [] b92 b72 h92 n0 f94 A92 F92_name (Nat.le_trans Z0 (Nat.le_trans z93 (Nat.le_of_eq g92.symm)))) hZ (hw _ (List.mem_of_getElem? (i := 35) rfl)) (hw _ (List.mem_of_getElem? (i := 32) rfl)) (by decide) (by decide) own_hEL own_chv0) (g := (mkF m 130 #[.val (.int p1), .val (.int p2), .val (.int p3), .val (.int p4), .val (.ref b55), .val (.ref b60), .val (.ref b66), .val (.ref b72), .val (.ref b82), .val (.int (0 : Int32)), .unset, .unset, .unset, .unset] [(.ref b72), (.ref b92), (.ref b92)])) rfl (by rw [hml]; rfl) (Steps.refl _) (a := b92) (argsL := [(.ref b72)]) (rest := [(.ref b92)]) (lenOf pd_6 rfl) rfl (by show 2 * 0 + _ ≤ _; exact Nat.le_of_eq rfl) (hb hby at_130) (fun _ _ => ⟨rfl, e92, (by decide : 8 + 2 ≤ _), (by decide : 19 + 20 ≤ _)⟩)
      dsimp only [Pt.U, Pt.locs, Pt.cells, Pt.slots] at X95 l95 y95 z95 st95 hQ95 hS95 hg95 A95
      subst l95 y95 z95
      refine own_gos st95 ?_
      obtain ⟨X95, hS95, hZ95, hown95⟩ := rebS hS0 (k0 := _) (n1 := T92.heap.size) (by rw [e92]; exact (Nat.zero_le _)) X95 hS95 hg95 hZ hown
      obtain ⟨rfl, Nq95, K95, Fk0_95⟩ := hQ95
      have N95 := Fr.app N90 Nq95
      show own_Go p e below (T95.setTop (mkF m 133 #[.val (.int p1), .val (.int p2), .val (.int p3), .val (.int p4), .val (.ref b55), .val (.ref b60), .val (.ref b66), .val (.ref b72), .val (.ref b82), .val (.int (0 : Int32)), .unset, .unset, .unset, .unset] [(.ref b92)])) _
      refine own_go (fun _ k => XS.astore X95.here hx rfl (hb hby at_133) rfl rfl (l' := #[.val (.int p1), .val (.int p2), .val (.int p3), .val (.int p4), .val (.ref b55), .val (.ref b60), .val (.ref b66), .val (.ref b72), .val (.ref b82), .val (.int (0 : Int32)), .val (.ref b92), .unset, .unset, .unset]) rfl k) ?_
      show own_Go p e below (T95.setTop (mkF m 135 #[.val (.int p1), .val (.int p2), .val (.int p3), .val (.int p4), .val (.ref b55), .val (.ref b60), .val (.ref b66), .val (.ref b72), .val (.ref b82), .val (.int (0 : Int32)), .val (.ref b92), .unset, .unset, .unset] [])) _
      obtain ⟨T96, h96, X96, e96, E96, A96, D96, U96, st96⟩ := newO X95 hx hZ95 hown95 (hw _ (List.mem_of_getElem? (i := 30) rfl)) (hw _ (List.mem_of_getElem? (i := 31) rfl)) (hw _ (List.mem_of_getElem? (i := 32) rfl)) (rfl : T95.heap = T95.heap) (g := (mkF m 135 #[.val (.int p1), .val (.int p2), .val (.int p3), .val (.int p4), .val (.ref b55), .val (.ref b60), .val (.ref b66), .val (.ref b72), .val (.ref b82), .val (.int (0 : Int32)), .val (.ref b92), .unset, .unset, .unset] [])) rfl (hb hby at_135) (by decide) (by decide)
      obtain ⟨b96, g96⟩ : ∃ z, z = T95.heap.size := ⟨_, rfl⟩
      rw [← g96] at A96 D96 U96 st96
      refine own_go st96 ?_
      have F96_name : Fld Z h96 b96 "com/example/rederive/rederive/Variable" "name" "Ljava/lang/String;" .null := D96 (Or.inr (hw _ (List.mem_of_getElem? (i := 50) rfl))) (ty := (.object "java/lang/String")) (by decide)
      show own_Go p e below (T96.setTop (mkF m 138 #[.val (.int p1), .val (.int p2), .val (.int p3), .val (.int p4), .val (.ref b55), .val (.ref b60), .val (.ref b66), .val (.ref b72), .val (.ref b82), .val (.int (0 : Int32)), .val (.ref b92), .unset, .unset, .unset] [(.ref b96)])) _
      refine own_go (fun _ k => XS.dup X96.here hx rfl (hb hby at_138) rfl rfl k) ?_
      show own_Go p e below (T96.setTop (mkF m 139 #[.val (.int p1), .val (.int p2), .val (.int p3), .val (.int p4), .val (.ref b55), .val (.ref b60), .val (.ref b66), .val (.ref b72), .val (.ref b82), .val (.int (0 : Int32)), .val (.ref b92), .unset, .unset, .unset] [(.ref b96), (.ref b96)])) _
      refine own_go (fun _ k => XS.aload X96.here hx rfl (hb hby at_139) rfl rfl k) ?_
      show own_Go p e below (T96.setTop (mkF m 141 #[.val (.int p1), .val (.int p2), .val (.int p3), .val (.int p4), .val (.ref b55), .val (.ref b60), .val (.ref b66), .val (.ref b72), .val (.ref b82), .val (.int (0 : Int32)), .val (.ref b92), .unset, .unset, .unset] [(.ref b82), (.ref b96), (.ref b96)])) _
      have z97 := (Nat.le_trans (Nat.le_trans z93 E92.1) K95.1)
      have f98 := ((f94.keep K95 (allS (Nat.le_trans Z0 (Nat.le_trans z93 (Nat.le_of_eq g92.symm))) all0)).ext E96)
      obtain ⟨v99, _, ⟨T99, L99, k99, n99⟩, -, X99, hS99, hg99, ⟨Lc99, hQ99, l99, y99, z99, A99⟩, st99⟩ := X96.specialBackS hx (y := (⟨"com/example/rederive/rederive/Variable", "<init>", "(Ljava/lang/String;)V"⟩ : MethodName)) rfl hown95 (mvT hZ95 (hw _ (List.mem_of_getElem? (i := 33) rfl))) (mvT hZ95 (hw _ (List.mem_of_getElem? (i := 34) rfl))) (mvT hZ95 (hw _ (List.mem_of_getElem? (i := 35) rfl))) (by decide) (backOfSH (W := 1) (rm_var l Z a0 hw [] b96 b82 h96 n0 f98 A96 F96_name (Nat.le_trans Z0 (Nat.le_trans z97 (Nat.le_of_eq g96.symm)))) hZ95 (hw _ (List.mem_of_getElem? (i := 35) rfl)) (hw _ (List.mem_of_getElem? (i := 32) rfl)) (by decide) (by decide) own_hEL own_chv0) (g := (mkF m 141 #[.val (.int p1), .val (.int p2), .val (.int p3), .val (.int p4), .val (.ref b55), .val (.ref b60), .val (.ref b66), .val (.ref b72), .val (.ref b82), .val (.int (0 : Int32)), .val (.ref b92), .unset, .unset, .unset] [(.ref b82), (.ref b96), (.ref b96)])) rfl (by rw [hml]; rfl) (Steps.refl _) (a := b96) (argsL := [(.ref b82)]) (rest := [(.ref b96)]) (lenOf pd_6 rfl) rfl (by show 2 * 0 + _ ≤ _; exact Nat.le_of_eq rfl) (hb hby at_141) (fun _ _ => ⟨rfl, e96, (by decide : 11 + 2 ≤ _), (by decide : 40 + 20 ≤ _)⟩)
      dsimp only [Pt.U, Pt.locs, Pt.cells, Pt.slots] at X99 l99 y99 z99 st99 hQ99 hS99 hg99 A99
      subst l99 y99 z99
      refine own_gos st99 ?_
      obtain ⟨X99, hS99, hZ99, hown99⟩ := rebS hS95 (k0 := _) (n1 := T96.heap.size) (by rw [e96]; exact (Nat.le_trans (Nat.le_refl _) E96.1)) X99 hS99 hg99 hZ95 hown95
      obtain ⟨rfl, Nq99, K99, Fk0_99⟩ := hQ99
      have N99 := Fr.app N95 Nq99
      show own_Go p e below (T99.setTop (mkF m 144 #[.val (.int p1), .val (.int p2), .val (.int p3), .val (.int p4), .val (.ref b55), .val (.ref b60), .val (.ref b66), .val (.ref b72), .val (.ref b82), .val (.int (0 : Int32)), .val (.ref b92), .unset, .unset, .unset] [(.ref b96)])) _
      refine own_go (fun _ k => XS.astore X99.here hx rfl (hb hby at_144) rfl rfl (l' := #[.val (.int p1), .val (.int p2), .val (.int p3), .val (.int p4), .val (.ref b55), .val (.ref b60), .val (.ref b66), .val (.ref b72), .val (.ref b82), .val (.int (0 : Int32)), .val (.ref b92), .val (.ref b96), .unset, .unset]) rfl k) ?_
      show own_Go p e below (T99.setTop (mkF m 146 #[.val (.int p1), .val (.int p2), .val (.int p3), .val (.int p4), .val (.ref b55), .val (.ref b60), .val (.ref b66), .val (.ref b72), .val (.ref b82), .val (.int (0 : Int32)), .val (.ref b92), .val (.ref b96), .unset, .unset] [])) _
      obtain ⟨T100, h100, X100, e100, E100, A100, D100, U100, st100⟩ := newO X99 hx hZ99 hown99 (hw _ (List.mem_of_getElem? (i := 51) rfl)) (hw _ (List.mem_of_getElem? (i := 52) rfl)) (hw _ (List.mem_of_getElem? (i := 53) rfl)) (rfl : T99.heap = T99.heap) (g := (mkF m 146 #[.val (.int p1), .val (.int p2), .val (.int p3), .val (.int p4), .val (.ref b55), .val (.ref b60), .val (.ref b66), .val (.ref b72), .val (.ref b82), .val (.int (0 : Int32)), .val (.ref b92), .val (.ref b96), .unset, .unset] [])) rfl (hb hby at_146) (by decide) (by decide)
      obtain ⟨b100, g100⟩ : ∃ z, z = T99.heap.size := ⟨_, rfl⟩
      rw [← g100] at A100 D100 U100 st100
      refine own_go st100 ?_
      have F100_pattern : Fld Z h100 b100 "com/example/rederive/rederive/Constraint$ClosureCall" "pattern" "Ljava/lang/String;" .null := D100 (Or.inr (hw _ (List.mem_of_getElem? (i := 63) rfl))) (ty := (.object "java/lang/String")) (by decide)
      have F100_from : Fld Z h100 b100 "com/example/rederive/rederive/Constraint$ClosureCall" "from" "Lcom/example/rederive/rederive/Variable;" .null := D100 (Or.inr (hw _ (List.mem_of_getElem? (i := 65) rfl))) (ty := (.object "com/example/rederive/rederive/Variable")) (by decide)
      have F100_to : Fld Z h100 b100 "com/example/rederive/rederive/Constraint$ClosureCall" "to" "Lcom/example/rederive/rederive/Variable;" .null := D100 (Or.inr (hw _ (List.mem_of_getElem? (i := 67) rfl))) (ty := (.object "com/example/rederive/rederive/Variable")) (by decide)
      have F100_reflexive : Fld Z h100 b100 "com/example/rederive/rederive/Constraint$ClosureCall" "reflexive" "Z" (.int (0 : Int32)) := D100 (Or.inr (hw _ (List.mem_of_getElem? (i := 69) rfl))) (ty := .boolean) (by decide)
      show own_Go p e below (T100.setTop (mkF m 149 #[.val (.int p1), .val (.int p2), .val (.int p3), .val (.int p4), .val (.ref b55), .val (.ref b60), .val (.ref b66), .val (.ref b72), .val (.ref b82), .val (.int (0 : Int32)), .val (.ref b92), .val (.ref b96), .unset, .unset] [(.ref b100)])) _
      refine own_go (fun _ k => XS.dup X100.here hx rfl (hb hby at_149) rfl rfl k) ?_
      show own_Go p e below (T100.setTop (mkF m 150 #[.val (.int p1), .val (.int p2), .val (.int p3), .val (.int p4), .val (.ref b55), .val (.ref b60), .val (.ref b66), .val (.ref b72), .val (.ref b82), .val (.int (0 : Int32)), .val (.ref b92), .val (.ref b96), .unset, .unset] [(.ref b100), (.ref b100)])) _
      obtain ⟨T101, h101, X101, e101, E101, A101, D101, U101, st101⟩ := newO X100 hx hZ99 hown99 (hw _ (List.mem_of_getElem? (i := 1) rfl)) (hw _ (List.mem_of_getElem? (i := 2) rfl)) (hw _ (List.mem_of_getElem? (i := 3) rfl)) e100 (g := (mkF m 150 #[.val (.int p1), .val (.int p2), .val (.int p3), .val (.int p4), .val (.ref b55), .val (.ref b60), .val (.ref b66), .val (.ref b72), .val (.ref b82), .val (.int (0 : Int32)), .val (.ref b92), .val (.ref b96), .unset, .unset] [(.ref b100), (.ref b100)])) rfl (hb hby at_150) (by decide) (by decide)
      obtain ⟨b101, g101⟩ : ∃ z, z = h100.size := ⟨_, rfl⟩
      rw [← g101] at A101 D101 U101 st101
      refine own_go st101 ?_
      have F101_coder : Fld Z h101 b101 "java/lang/String" "coder" "B" (.int (0 : Int32)) := D101 (Or.inr (hw _ (List.mem_of_getElem? (i := 27) rfl))) (ty := .byte) (by decide)
      have F101_value : Fld Z h101 b101 "java/lang/String" "value" "[B" .null := D101 (Or.inr (hw _ (List.mem_of_getElem? (i := 29) rfl))) (ty := (.array .byte)) (by decide)
      show own_Go p e below (T101.setTop (mkF m 153 #[.val (.int p1), .val (.int p2), .val (.int p3), .val (.int p4), .val (.ref b55), .val (.ref b60), .val (.ref b66), .val (.ref b72), .val (.ref b82), .val (.int (0 : Int32)), .val (.ref b92), .val (.ref b96), .unset, .unset] [(.ref b101), (.ref b100), (.ref b100)])) _
      refine own_go (fun _ k => XS.dup X101.here hx rfl (hb hby at_153) rfl rfl k) ?_
      show own_Go p e below (T101.setTop (mkF m 154 #[.val (.int p1), .val (.int p2), .val (.int p3), .val (.int p4), .val (.ref b55), .val (.ref b60), .val (.ref b66), .val (.ref b72), .val (.ref b82), .val (.int (0 : Int32)), .val (.ref b92), .val (.ref b96), .unset, .unset] [(.ref b101), (.ref b101), (.ref b100), (.ref b100)])) _
      refine own_go (fun _ k => XS.aload X101.here hx rfl (hb hby at_154) rfl rfl k) ?_
      show own_Go p e below (T101.setTop (mkF m 156 #[.val (.int p1), .val (.int p2), .val (.int p3), .val (.int p4), .val (.ref b55), .val (.ref b60), .val (.ref b66), .val (.ref b72), .val (.ref b82), .val (.int (0 : Int32)), .val (.ref b92), .val (.ref b96), .unset, .unset] [(.ref b66), (.ref b101), (.ref b101), (.ref b100), (.ref b100)])) _
      have f102 := (((f98.keep K99 (allS (Nat.le_trans Z0 (Nat.le_trans z97 (Nat.le_of_eq g96.symm))) all0)).ext E100).ext E101)
      have z103 := (Nat.le_trans (Nat.le_trans (Nat.le_trans z97 E96.1) K99.1) E100.1)
      have z105 := (Nat.le_trans (Keep.of_wr W68).1 (Keep.of_wr W71).1)
      have ne104 : b66 ≠ b72 := Nat.ne_of_lt (Nat.lt_of_lt_of_le (Nat.lt_of_lt_of_le V66.lt z105) (Nat.le_of_eq g72.symm))
      have z107 := (Nat.le_trans (Nat.le_trans z105 E72.1) K80.1)
      have ne106 : b66 ≠ b82 := Nat.ne_of_lt (Nat.lt_of_lt_of_le (Nat.lt_of_lt_of_le V66.lt z107) (Nat.le_of_eq g82.symm))
      have z109 := (Nat.le_trans (Nat.le_trans z107 E82.1) K90.1)
      have ne108 : b66 ≠ b92 := Nat.ne_of_lt (Nat.lt_of_lt_of_le (Nat.lt_of_lt_of_le V66.lt z109) (Nat.le_of_eq g92.symm))
      have z111 := (Nat.le_trans (Nat.le_trans z109 E92.1) K95.1)
      have ne110 : b66 ≠ b96 := Nat.ne_of_lt (Nat.lt_of_lt_of_le (Nat.lt_of_lt_of_le V66.lt z111) (Nat.le_of_eq g96.symm))
      have f112 := ((((((((((V71.ext E72).keep K80 (ninS ne104 nin0)).ext E82).keep K90 (ninS ne106 nin0)).ext E92).keep K95 (ninS ne108 nin0)).ext E96).keep K99 (ninS ne110 nin0)).ext E100).ext E101)
      obtain ⟨v113, _, ⟨T113, L113, k113, n113⟩, -, X113, ⟨Lc113, hQ113, l113, y113, z113⟩, st113⟩ := X101.specialBack hx (y := (⟨"java/lang/String", "<init>", "([C)V"⟩ : MethodName)) rfl hown99 (mvT hZ99 (hw _ (List.mem_of_getElem? (i := 4) rfl))) (mvT hZ99 (hw _ (List.mem_of_getElem? (i := 5) rfl))) (mvT hZ99 (hw _ (List.mem_of_getElem? (i := 6) rfl))) (by decide) (StrChars.Road.backV (W := 3) hZ99 (own_wStr hw) (kI := 4) (hw _ (List.mem_of_getElem? (i := 2) rfl)) (cs := ([(nar .char ((p3 &&& (255 : Int32)).toUInt32.toUInt16.toUInt32.toInt32)), (nar .char ((((p3.toUInt32 >>> ((8 : Int32) &&& 31).toUInt32).toInt32) &&& (255 : Int32)).toUInt32.toUInt16.toUInt32.toInt32))] : List Int32)) (bs := (([(nar .char ((p3 &&& (255 : Int32)).toUInt32.toUInt16.toUInt32.toInt32)), (nar .char ((((p3.toUInt32 >>> ((8 : Int32) &&& 31).toUInt32).toInt32) &&& (255 : Int32)).toUInt32.toUInt16.toUInt32.toInt32))] : List Int32)).map (fun c => c.toInt8.toInt32)) (n := 2) (Nat.le_trans Z0 (Nat.le_trans z103 (Nat.le_of_eq g101.symm))) (Nat.le_trans Z0 (Nat.le_trans z103 E101.1)) A101 F101_value F101_coder f112 (O2.ext f102.2) P5 rfl rfl (by decide) (by decide) (fun c hc => by simp only [List.mem_cons, List.not_mem_nil, or_false] at hc; rcases hc with rfl | rfl <;> exact own_and255 _) rfl (by decide) (by decide)) (g := (mkF m 156 #[.val (.int p1), .val (.int p2), .val (.int p3), .val (.int p4), .val (.ref b55), .val (.ref b60), .val (.ref b66), .val (.ref b72), .val (.ref b82), .val (.int (0 : Int32)), .val (.ref b92), .val (.ref b96), .unset, .unset] [(.ref b66), (.ref b101), (.ref b101), (.ref b100), (.ref b100)])) rfl (by rw [hml]; rfl) (Steps.refl _) (a := b101) (argsL := [(.ref b66)]) (rest := [(.ref b101), (.ref b100), (.ref b100)]) (lenOf pd_5 rfl) rfl (by show 2 * 0 + _ ≤ _; exact Nat.le_of_eq rfl) (hb hby at_156) (fun _ _ => ⟨rfl, e101, (by decide : 15 + 1 ≤ _), (by decide : 68 + 2 ≤ _)⟩)
      dsimp only [Pt.U, Pt.locs, Pt.cells, Pt.slots] at X113 l113 y113 z113 st113 hQ113
      subst l113 y113 z113
      refine own_gos st113 ?_
      obtain ⟨rfl, Nq113, K113, Eq113, Fc113, t113, kt113, -, tg113, tn113, Fv113, Vt113⟩ := hQ113
      have N113 := Fr.app N99 Nq113
      show own_Go p e below (T113.setTop (mkF m 159 #[.val (.int p1), .val (.int p2), .val (.int p3), .val (.int p4), .val (.ref b55), .val (.ref b60), .val (.ref b66), .val (.ref b72), .val (.ref b82), .val (.int (0 : Int32)), .val (.ref b92), .val (.ref b96), .unset, .unset] [(.ref b101), (.ref b100), (.ref b100)])) _
      refine own_go (fun _ k => XS.aload X113.here hx rfl (hb hby at_159) rfl rfl k) ?_
      show own_Go p e below (T113.setTop (mkF m 161 #[.val (.int p1), .val (.int p2), .val (.int p3), .val (.int p4), .val (.ref b55), .val (.ref b60), .val (.ref b66), .val (.ref b72), .val (.ref b82), .val (.int (0 : Int32)), .val (.ref b92), .val (.ref b96), .unset, .unset] [(.ref b92), (.ref b101), (.ref b100), (.ref b100)])) _
      refine own_go (fun _ k => XS.aload X113.here hx rfl (hb hby at_161) rfl rfl k) ?_
      show own_Go p e below (T113.setTop (mkF m 163 #[.val (.int p1), .val (.int p2), .val (.int p3), .val (.int p4), .val (.ref b55), .val (.ref b60), .val (.ref b66), .val (.ref b72), .val (.ref b82), .val (.int (0 : Int32)), .val (.ref b92), .val (.ref b96), .unset, .unset] [(.ref b96), (.ref b92), (.ref b101), (.ref b100), (.ref b100)])) _
      refine own_go (fun _ k => XS.iload X113.here hx rfl (hb hby at_163) rfl k) ?_
      show own_Go p e below (T113.setTop (mkF m 165 #[.val (.int p1), .val (.int p2), .val (.int p3), .val (.int p4), .val (.ref b55), .val (.ref b60), .val (.ref b66), .val (.ref b72), .val (.ref b82), .val (.int (0 : Int32)), .val (.ref b92), .val (.ref b96), .unset, .unset] [(.int (0 : Int32)), (.ref b96), (.ref b92), (.ref b101), (.ref b100), (.ref b100)])) _
      have f114 := ((A100.ext E101).keep K113)
      have ne115 : b100 ≠ b101 := Nat.ne_of_lt (Nat.lt_of_lt_of_le A100.lt (Nat.le_of_eq g101.symm))
      have f116 := ((F100_pattern.ext E101).keep K113 (ninS ne115 nin0))
      have f117 := ((F100_from.ext E101).keep K113 (ninS ne115 nin0))
      have f118 := ((F100_to.ext E101).keep K113 (ninS ne115 nin0))
      have f119 := ((F100_reflexive.ext E101).keep K113 (ninS ne115 nin0))
      have z120 := (Nat.le_trans (Nat.le_trans z97 E96.1) K99.1)
      have f121 := (f102.keep K113 (allS (Nat.le_trans Z0 (Nat.le_trans z103 (Nat.le_of_eq g101.symm))) all0))
      obtain ⟨v122, _, ⟨T122, L122, k122, n122⟩, -, X122, hS122, hg122, ⟨Lc122, hQ122, l122, y122, z122, A122⟩, st122⟩ := X113.specialBackS hx (y := (⟨"com/example/rederive/rederive/Constraint$ClosureCall", "<init>", "(Ljava/lang/String;Lcom/example/rederive/rederive/Variable;Lcom/example/rederive/rederive/Variable;Z)V"⟩ : MethodName)) rfl hown99 (mvT hZ99 (hw _ (List.mem_of_getElem? (i := 54) rfl))) (mvT hZ99 (hw _ (List.mem_of_getElem? (i := 55) rfl))) (mvT hZ99 (hw _ (List.mem_of_getElem? (i := 56) rfl))) (by decide) (backOfSH (W := 1) (rm_cc l Z a0 hw [] b100 b101 b92 b96 (0 : Int32) T113.heap n0 f121 f114 f116 f117 f118 f119 (Nat.le_trans Z0 (Nat.le_trans z120 (Nat.le_of_eq g100.symm)))) hZ99 (hw _ (List.mem_of_getElem? (i := 56) rfl)) (hw _ (List.mem_of_getElem? (i := 53) rfl)) (by decide) (by decide) own_hEL own_chv0) (g := (mkF m 165 #[.val (.int p1), .val (.int p2), .val (.int p3), .val (.int p4), .val (.ref b55), .val (.ref b60), .val (.ref b66), .val (.ref b72), .val (.ref b82), .val (.int (0 : Int32)), .val (.ref b92), .val (.ref b96), .unset, .unset] [(.int (0 : Int32)), (.ref b96), (.ref b92), (.ref b101), (.ref b100), (.ref b100)])) rfl (by rw [hml]; rfl) (Steps.refl _) (a := b100) (argsL := [(.ref b101), (.ref b92), (.ref b96), (.int (0 : Int32))]) (rest := [(.ref b100)]) (lenOf pd_7 rfl) rfl (by show 2 * 0 + _ ≤ _; exact Nat.le_of_eq rfl) (hb hby at_165) (fun _ _ => ⟨rfl, (rfl : T113.heap = T113.heap), (by decide : 16 + 6 ≤ _), (by decide : 70 + 64 ≤ _)⟩)
      dsimp only [Pt.U, Pt.locs, Pt.cells, Pt.slots] at X122 l122 y122 z122 st122 hQ122 hS122 hg122 A122
      subst l122 y122 z122
      refine own_gos st122 ?_
      have z123 := (Nat.le_trans (Nat.le_trans E100.1 E101.1) K113.1)
      obtain ⟨X122, hS122, hZ122, hown122⟩ := rebS hS99 (k0 := _) (n1 := T113.heap.size) (by rw [(rfl : T113.heap = T113.heap)]; exact (Nat.le_trans (Nat.le_refl _) z123)) X122 hS122 hg122 hZ99 hown99
      obtain ⟨rfl, Nq122, K122, Fk0_122, Fk1_122⟩ := hQ122
      have N122 := Fr.app N113 Nq122
      show own_Go p e below (T122.setTop (mkF m 168 #[.val (.int p1), .val (.int p2), .val (.int p3), .val (.int p4), .val (.ref b55), .val (.ref b60), .val (.ref b66), .val (.ref b72), .val (.ref b82), .val (.int (0 : Int32)), .val (.ref b92), .val (.ref b96), .unset, .unset] [(.ref b100)])) _
      refine own_go (fun _ k => XS.astore X122.here hx rfl (hb hby at_168) rfl rfl (l' := #[.val (.int p1), .val (.int p2), .val (.int p3), .val (.int p4), .val (.ref b55), .val (.ref b60), .val (.ref b66), .val (.ref b72), .val (.ref b82), .val (.int (0 : Int32)), .val (.ref b92), .val (.ref b96), .val (.ref b100), .unset]) rfl k) ?_
      show own_Go p e below (T122.setTop (mkF m 170 #[.val (.int p1), .val (.int p2), .val (.int p3), .val (.int p4), .val (.ref b55), .val (.ref b60), .val (.ref b66), .val (.ref b72), .val (.ref b82), .val (.int (0 : Int32)), .val (.ref b92), .val (.ref b96), .val (.ref b100), .unset] [])) _
      refine own_go (fun _ k => XS.aload X122.here hx rfl (hb hby at_170) rfl rfl k) ?_
      show own_Go p e below (T122.setTop (mkF m 172 #[.val (.int p1), .val (.int p2), .val (.int p3), .val (.int p4), .val (.ref b55), .val (.ref b60), .val (.ref b66), .val (.ref b72), .val (.ref b82), .val (.int (0 : Int32)), .val (.ref b92), .val (.ref b96), .val (.ref b100), .unset] [(.ref b100)])) _
      have f124 := (f121.keep K122 (allS (Nat.le_trans Z0 (Nat.le_trans z120 (Nat.le_of_eq g100.symm))) all0))
      obtain ⟨cq125, kq125, q125a, q125b, q125c⟩ := isOf hZ122 (rfl : T122.heap = T122.heap) (f114.keep K122)
      obtain ⟨v125, _, ⟨T125, L125, k125, n125⟩, -, X125, ⟨Lc125, hQ125, l125, y125, z125⟩, st125⟩ := X122.virtualBack hx (y := (⟨"com/example/rederive/rederive/Constraint$ClosureCall", "variables", "()Ljava/util/List;"⟩ : MethodName)) (z := (⟨"com/example/rederive/rederive/Constraint$ClosureCall", "variables", "()Ljava/util/List;"⟩ : MethodName)) hown122 (mvT hZ122 (hw _ (List.mem_of_getElem? (i := 70) rfl))) (mvT hZ122 (hw _ (List.mem_of_getElem? (i := 71) rfl))) (notFace_of_selects (args := #[]) (mvT hZ122 (hw _ (List.mem_of_getElem? (i := 73) rfl)))) (mvT hZ122 (hw _ (List.mem_of_getElem? (i := 73) rfl))) (mvT hZ122 (hw _ (List.mem_of_getElem? (i := 72) rfl))) (by decide) (backOf (W := 0) (rm_vars l Z a0 hw [] b100 b92 b96 T122.heap n0 f124 (f114.keep K122) Fk0_122 Fk1_122) hZ122 (hw _ (List.mem_of_getElem? (i := 74) rfl)) (hw _ (List.mem_of_getElem? (i := 53) rfl)) (by decide) (by decide)) q125a q125c (g := (mkF m 172 #[.val (.int p1), .val (.int p2), .val (.int p3), .val (.int p4), .val (.ref b55), .val (.ref b60), .val (.ref b66), .val (.ref b72), .val (.ref b82), .val (.int (0 : Int32)), .val (.ref b92), .val (.ref b96), .val (.ref b100), .unset] [(.ref b100)])) rfl (by rw [hml]; rfl) (Steps.refl _) (argsL := []) (rest := []) (lenOf pd_8 rfl) rfl (by show 2 * 0 + _ ≤ _; exact Nat.le_of_eq rfl) (hb hby at_172) (fun _ _ => ⟨rfl, (rfl : T122.heap = T122.heap), (by decide : 22 + 1 ≤ _), (by decide : 134 + 2 ≤ _)⟩)
      dsimp only [Pt.U, Pt.locs, Pt.cells, Pt.slots] at X125 l125 y125 z125 st125 hQ125
      subst l125 y125 z125
      refine own_gos st125 ?_
      obtain ⟨x125, rfl, Nq125, K125, xg125, Ex125, F0125, F1125⟩ := hQ125
      have N125 := Fr.app N122 Nq125
      show own_Go p e below (T125.setTop (mkF m 175 #[.val (.int p1), .val (.int p2), .val (.int p3), .val (.int p4), .val (.ref b55), .val (.ref b60), .val (.ref b66), .val (.ref b72), .val (.ref b82), .val (.int (0 : Int32)), .val (.ref b92), .val (.ref b96), .val (.ref b100), .unset] [(.ref x125)])) _
      refine own_go (fun _ k => XS.astore X125.here hx rfl (hb hby at_175) rfl rfl (l' := #[.val (.int p1), .val (.int p2), .val (.int p3), .val (.int p4), .val (.ref b55), .val (.ref b60), .val (.ref b66), .val (.ref b72), .val (.ref b82), .val (.int (0 : Int32)), .val (.ref b92), .val (.ref b96), .val (.ref b100), .val (.ref x125)]) rfl k) ?_
      show own_Go p e below (T125.setTop (mkF m 177 #[.val (.int p1), .val (.int p2), .val (.int p3), .val (.int p4), .val (.ref b55), .val (.ref b60), .val (.ref b66), .val (.ref b72), .val (.ref b82), .val (.int (0 : Int32)), .val (.ref b92), .val (.ref b96), .val (.ref b100), .val (.ref x125)] [])) _
      refine own_go (fun _ k => XS.aload X125.here hx rfl (hb hby at_177) rfl rfl k) ?_
      show own_Go p e below (T125.setTop (mkF m 179 #[.val (.int p1), .val (.int p2), .val (.int p3), .val (.int p4), .val (.ref b55), .val (.ref b60), .val (.ref b66), .val (.ref b72), .val (.ref b82), .val (.int (0 : Int32)), .val (.ref b92), .val (.ref b96), .val (.ref b100), .val (.ref x125)] [(.ref x125)])) _
      obtain ⟨cq126, kq126, q126a, q126b, q126c⟩ := isOf hZ122 (rfl : T125.heap = T125.heap) Ex125
      obtain ⟨v126, _, ⟨T126, L126, k126, n126⟩, -, X126, ⟨Lc126, hQ126, l126, y126, z126⟩, st126⟩ := X125.interfaceBack hx (xi := (⟨"java/util/List", "size", "()I"⟩ : MethodName)) (y := (⟨"java/util/ImmutableCollections$List12", "size", "()I"⟩ : MethodName)) hown122 (mvT hZ122 (hw _ (List.mem_of_getElem? (i := 112) rfl))) (mvT hZ122 (hw _ (List.mem_of_getElem? (i := 113) rfl))) (mvT hZ122 (hw _ (List.mem_of_getElem? (i := 114) rfl))) (mvT hZ122 (hw _ (List.mem_of_getElem? (i := 115) rfl))) (mvT hZ122 (hw _ (List.mem_of_getElem? (i := 116) rfl))) (mvT hZ122 (hw _ (List.mem_of_getElem? (i := 117) rfl))) (mvT hZ122 (hw _ (List.mem_of_getElem? (i := 118) rfl))) (mvT hZ122 (hw _ (List.mem_of_getElem? (i := 119) rfl))) (by decide) (backOf (W := 0) (rm_lsize l Z a0 hw [] x125 b92 b96 zE T125.heap n0 (f124.keep K125 all0) Ex125 F0125 F1125 OE (Ne.symm ((f124.keep K125 all0).ne hzE (Nat.le_trans Z0 (Nat.le_trans z97 (Nat.le_of_eq g96.symm)))))) hZ122 (hw _ (List.mem_of_getElem? (i := 120) rfl)) (hw _ (List.mem_of_getElem? (i := 81) rfl)) (by decide) (by decide)) q126a q126b q126c (g := (mkF m 179 #[.val (.int p1), .val (.int p2), .val (.int p3), .val (.int p4), .val (.ref b55), .val (.ref b60), .val (.ref b66), .val (.ref b72), .val (.ref b82), .val (.int (0 : Int32)), .val (.ref b92), .val (.ref b96), .val (.ref b100), .val (.ref x125)] [(.ref x125)])) rfl (by rw [hml]; rfl) (Steps.refl _) (argsL := []) (rest := []) (lenOf pd_9 rfl) rfl (by show 2 * 0 + _ ≤ _; exact Nat.le_of_eq rfl) (hb hby at_179) (fun _ _ => ⟨rfl, (rfl : T125.heap = T125.heap), (by decide : 23 + 0 ≤ _), (by decide : 136 + 0 ≤ _)⟩)
      dsimp only [Pt.U, Pt.locs, Pt.cells, Pt.slots] at X126 l126 y126 z126 st126 hQ126
      subst l126 y126 z126
      refine own_gos st126 ?_
      obtain ⟨rfl, Nq126, e126⟩ := hQ126
      have N126 := Fr.app N125 Nq126
      show own_Go p e below (T126.setTop (mkF m 184 #[.val (.int p1), .val (.int p2), .val (.int p3), .val (.int p4), .val (.ref b55), .val (.ref b60), .val (.ref b66), .val (.ref b72), .val (.ref b82), .val (.int (0 : Int32)), .val (.ref b92), .val (.ref b96), .val (.ref b100), .val (.ref x125)] [(.int (2 : Int32))])) _
      refine own_go (fun _ k => XS.iconst X126.here hx rfl (hb hby at_184) k) ?_
      show own_Go p e below (T126.setTop (mkF m 185 #[.val (.int p1), .val (.int p2), .val (.int p3), .val (.int p4), .val (.ref b55), .val (.ref b60), .val (.ref b66), .val (.ref b72), .val (.ref b82), .val (.int (0 : Int32)), .val (.ref b92), .val (.ref b96), .val (.ref b100), .val (.ref x125)] [(.int (2 : Int32)), (.int (2 : Int32))])) _
      refine own_go (fun _ k => XS.icmpYes X126.here hx rfl (pc0 := 185) (pc' := 190) rfl (hb hby at_185) rfl (teq (by decide : (2 : Int32) = (2 : Int32))).1 (by decide) (by decide) k) ?_
      show own_Go p e below (T126.setTop (mkF m 190 #[.val (.int p1), .val (.int p2), .val (.int p3), .val (.int p4), .val (.ref b55), .val (.ref b60), .val (.ref b66), .val (.ref b72), .val (.ref b82), .val (.int (0 : Int32)), .val (.ref b92), .val (.ref b96), .val (.ref b100), .val (.ref x125)] [])) _
      refine own_go (fun _ k => XS.aload X126.here hx rfl (hb hby at_190) rfl rfl k) ?_
      show own_Go p e below (T126.setTop (mkF m 192 #[.val (.int p1), .val (.int p2), .val (.int p3), .val (.int p4), .val (.ref b55), .val (.ref b60), .val (.ref b66), .val (.ref b72), .val (.ref b82), .val (.int (0 : Int32)), .val (.ref b92), .val (.ref b96), .val (.ref b100), .val (.ref x125)] [(.ref x125)])) _
      refine own_go (fun _ k => XS.iconst X126.here hx rfl (hb hby at_192) k) ?_
      show own_Go p e below (T126.setTop (mkF m 193 #[.val (.int p1), .val (.int p2), .val (.int p3), .val (.int p4), .val (.ref b55), .val (.ref b60), .val (.ref b66), .val (.ref b72), .val (.ref b82), .val (.int (0 : Int32)), .val (.ref b92), .val (.ref b96), .val (.ref b100), .val (.ref x125)] [(.int (0 : Int32)), (.ref x125)])) _
      obtain ⟨cq127, kq127, q127a, q127b, q127c⟩ := isOf hZ122 e126 Ex125
      obtain ⟨v127, _, ⟨T127, L127, k127, n127⟩, -, X127, ⟨Lc127, hQ127, l127, y127, z127⟩, st127⟩ := X126.interfaceBack hx (xi := (⟨"java/util/List", "get", "(I)Ljava/lang/Object;"⟩ : MethodName)) (y := (⟨"java/util/ImmutableCollections$List12", "get", "(I)Ljava/lang/Object;"⟩ : MethodName)) hown122 (mvT hZ122 (hw _ (List.mem_of_getElem? (i := 123) rfl))) (mvT hZ122 (hw _ (List.mem_of_getElem? (i := 124) rfl))) (mvT hZ122 (hw _ (List.mem_of_getElem? (i := 125) rfl))) (mvT hZ122 (hw _ (List.mem_of_getElem? (i := 126) rfl))) (mvT hZ122 (hw _ (List.mem_of_getElem? (i := 127) rfl))) (mvT hZ122 (hw _ (List.mem_of_getElem? (i := 128) rfl))) (mvT hZ122 (hw _ (List.mem_of_getElem? (i := 129) rfl))) (mvT hZ122 (hw _ (List.mem_of_getElem? (i := 119) rfl))) (by decide) (backOf (W := 0) (rm_lget0 l Z a0 hw [] x125 b92 b96 zE T125.heap n0 (f124.keep K125 all0) Ex125 F0125 F1125 OE (Ne.symm ((f124.keep K125 all0).ne hzE (Nat.le_trans Z0 (Nat.le_trans z97 (Nat.le_of_eq g96.symm)))))) hZ122 (hw _ (List.mem_of_getElem? (i := 130) rfl)) (hw _ (List.mem_of_getElem? (i := 81) rfl)) (by decide) (by decide)) q127a q127b q127c (g := (mkF m 193 #[.val (.int p1), .val (.int p2), .val (.int p3), .val (.int p4), .val (.ref b55), .val (.ref b60), .val (.ref b66), .val (.ref b72), .val (.ref b82), .val (.int (0 : Int32)), .val (.ref b92), .val (.ref b96), .val (.ref b100), .val (.ref x125)] [(.int (0 : Int32)), (.ref x125)])) rfl (by rw [hml]; rfl) (Steps.refl _) (argsL := [(.int (0 : Int32))]) (rest := []) (lenOf pd_10 rfl) rfl (by show 2 * 0 + _ ≤ _; exact Nat.le_of_eq rfl) (hb hby at_193) (fun _ _ => ⟨rfl, e126, (by decide : 23 + 0 ≤ _), (by decide : 136 + 0 ≤ _)⟩)
      dsimp only [Pt.U, Pt.locs, Pt.cells, Pt.slots] at X127 l127 y127 z127 st127 hQ127
      subst l127 y127 z127
      refine own_gos st127 ?_
      obtain ⟨rfl, Nq127, e127⟩ := hQ127
      have N127 := Fr.app N126 Nq127
      show own_Go p e below (T127.setTop (mkF m 198 #[.val (.int p1), .val (.int p2), .val (.int p3), .val (.int p4), .val (.ref b55), .val (.ref b60), .val (.ref b66), .val (.ref b72), .val (.ref b82), .val (.int (0 : Int32)), .val (.ref b92), .val (.ref b96), .val (.ref b100), .val (.ref x125)] [(.ref b92)])) _
      have f128 := ((((((((A92.keep K95).ext E96).keep K99).ext E100).ext E101).keep K113).keep K122).keep K125)
      obtain ⟨T129, X129, e129, st129⟩ := castY X127 hx hZ122 hown122 (hw _ (List.mem_of_getElem? (i := 30) rfl)) e127 (Ins.self f128) (g := (mkF m 198 #[.val (.int p1), .val (.int p2), .val (.int p3), .val (.int p4), .val (.ref b55), .val (.ref b60), .val (.ref b66), .val (.ref b72), .val (.ref b82), .val (.int (0 : Int32)), .val (.ref b92), .val (.ref b96), .val (.ref b100), .val (.ref x125)] [(.ref b92)])) rfl rfl (hb hby at_198)
      refine own_go st129 ?_
      show own_Go p e below (T129.setTop (mkF m 201 #[.val (.int p1), .val (.int p2), .val (.int p3), .val (.int p4), .val (.ref b55), .val (.ref b60), .val (.ref b66), .val (.ref b72), .val (.ref b82), .val (.int (0 : Int32)), .val (.ref b92), .val (.ref b96), .val (.ref b100), .val (.ref x125)] [(.ref b92)])) _
      have ne130 : b92 ≠ b96 := Nat.ne_of_lt (Nat.lt_of_lt_of_le (Nat.lt_of_lt_of_le A92.lt K95.1) (Nat.le_of_eq g96.symm))
      have z132 := (Nat.le_trans (Nat.le_trans (Nat.le_trans K95.1 E96.1) K99.1) E100.1)
      have ne131 : b92 ≠ b101 := Nat.ne_of_lt (Nat.lt_of_lt_of_le (Nat.lt_of_lt_of_le A92.lt z132) (Nat.le_of_eq g101.symm))
      have z134 := (Nat.le_trans (Nat.le_trans K95.1 E96.1) K99.1)
      have ne133 : b92 ≠ b100 := Nat.ne_of_lt (Nat.lt_of_lt_of_le (Nat.lt_of_lt_of_le A92.lt z134) (Nat.le_of_eq g100.symm))
      have f135 := (((((((Fk0_95.ext E96).keep K99 (ninS ne130 nin0)).ext E100).ext E101).keep K113 (ninS ne131 nin0)).keep K122 (ninS ne133 nin0)).keep K125 nin0)
      obtain ⟨cq136, kq136, q136a, q136b, q136c⟩ := isOf hZ122 e129 f128
      obtain ⟨v136, _, ⟨T136, L136, k136, n136⟩, -, X136, ⟨Lc136, hQ136, l136, y136, z136⟩, st136⟩ := X129.virtualBack hx (y := (⟨"com/example/rederive/rederive/Variable", "name", "()Ljava/lang/String;"⟩ : MethodName)) (z := (⟨"com/example/rederive/rederive/Variable", "name", "()Ljava/lang/String;"⟩ : MethodName)) hown122 (mvT hZ122 (hw _ (List.mem_of_getElem? (i := 132) rfl))) (mvT hZ122 (hw _ (List.mem_of_getElem? (i := 133) rfl))) (notFace_of_selects (args := #[]) (mvT hZ122 (hw _ (List.mem_of_getElem? (i := 135) rfl)))) (mvT hZ122 (hw _ (List.mem_of_getElem? (i := 135) rfl))) (mvT hZ122 (hw _ (List.mem_of_getElem? (i := 134) rfl))) (by decide) (backOf (W := 0) (rm_name l Z a0 hw [] b92 b72 T125.heap n0 (f124.keep K125 all0) f128 f135) hZ122 (hw _ (List.mem_of_getElem? (i := 136) rfl)) (hw _ (List.mem_of_getElem? (i := 32) rfl)) (by decide) (by decide)) q136a q136c (g := (mkF m 201 #[.val (.int p1), .val (.int p2), .val (.int p3), .val (.int p4), .val (.ref b55), .val (.ref b60), .val (.ref b66), .val (.ref b72), .val (.ref b82), .val (.int (0 : Int32)), .val (.ref b92), .val (.ref b96), .val (.ref b100), .val (.ref x125)] [(.ref b92)])) rfl (by rw [hml]; rfl) (Steps.refl _) (argsL := []) (rest := []) (lenOf pd_11 rfl) rfl (by show 2 * 0 + _ ≤ _; exact Nat.le_of_eq rfl) (hb hby at_201) (fun _ _ => ⟨rfl, e129, (by decide : 23 + 0 ≤ _), (by decide : 136 + 0 ≤ _)⟩)
      dsimp only [Pt.U, Pt.locs, Pt.cells, Pt.slots] at X136 l136 y136 z136 st136 hQ136
      subst l136 y136 z136
      refine own_gos st136 ?_
      obtain ⟨rfl, Nq136, e136⟩ := hQ136
      have N136 := Fr.app N127 Nq136
      show own_Go p e below (T136.setTop (mkF m 204 #[.val (.int p1), .val (.int p2), .val (.int p3), .val (.int p4), .val (.ref b55), .val (.ref b60), .val (.ref b66), .val (.ref b72), .val (.ref b82), .val (.int (0 : Int32)), .val (.ref b92), .val (.ref b96), .val (.ref b100), .val (.ref x125)] [(.ref b72)])) _
      refine own_go (fun _ k => XS.aload X136.here hx rfl (hb hby at_204) rfl rfl k) ?_
      show own_Go p e below (T136.setTop (mkF m 206 #[.val (.int p1), .val (.int p2), .val (.int p3), .val (.int p4), .val (.ref b55), .val (.ref b60), .val (.ref b66), .val (.ref b72), .val (.ref b82), .val (.int (0 : Int32)), .val (.ref b92), .val (.ref b96), .val (.ref b100), .val (.ref x125)] [(.ref b72), (.ref b72)])) _
      have f138 := (((((((((((Eq80.ext E82).keep K90).ext E92).keep K95).ext E96).keep K99).ext E100).ext E101).keep K113).keep K122).keep K125)
      obtain ⟨cq137, kq137, q137a, q137b, q137c⟩ := isOf hZ122 e136 f138
      obtain ⟨v137, _, ⟨T137, L137, k137, n137⟩, -, X137, ⟨Lc137, hQ137, l137, y137, z137⟩, st137⟩ := X136.virtualBack hx (y := (⟨"java/lang/String", "equals", "(Ljava/lang/Object;)Z"⟩ : MethodName)) (z := (⟨"java/lang/String", "equals", "(Ljava/lang/Object;)Z"⟩ : MethodName)) hown122 (mvT hZ122 (hw _ (List.mem_of_getElem? (i := 137) rfl))) (mvT hZ122 (hw _ (List.mem_of_getElem? (i := 138) rfl))) (notFace_of_selects (args := #[]) (mvT hZ122 (hw _ (List.mem_of_getElem? (i := 140) rfl)))) (mvT hZ122 (hw _ (List.mem_of_getElem? (i := 140) rfl))) (mvT hZ122 (hw _ (List.mem_of_getElem? (i := 139) rfl))) (by decide) (backOf (W := 0) (rm_eq l Z a0 hw [] b72 T125.heap n0 (f124.keep K125 all0) ) hZ122 (hw _ (List.mem_of_getElem? (i := 141) rfl)) (hw _ (List.mem_of_getElem? (i := 3) rfl)) (by decide) (by decide)) q137a q137c (g := (mkF m 206 #[.val (.int p1), .val (.int p2), .val (.int p3), .val (.int p4), .val (.ref b55), .val (.ref b60), .val (.ref b66), .val (.ref b72), .val (.ref b82), .val (.int (0 : Int32)), .val (.ref b92), .val (.ref b96), .val (.ref b100), .val (.ref x125)] [(.ref b72), (.ref b72)])) rfl (by rw [hml]; rfl) (Steps.refl _) (argsL := [(.ref b72)]) (rest := []) (lenOf pd_12 rfl) rfl (by show 2 * 0 + _ ≤ _; exact Nat.le_of_eq rfl) (hb hby at_206) (fun _ _ => ⟨rfl, e136, (by decide : 23 + 0 ≤ _), (by decide : 136 + 0 ≤ _)⟩)
      dsimp only [Pt.U, Pt.locs, Pt.cells, Pt.slots] at X137 l137 y137 z137 st137 hQ137
      subst l137 y137 z137
      refine own_gos st137 ?_
      obtain ⟨rfl, Nq137, e137⟩ := hQ137
      have N137 := Fr.app N136 Nq137
      show own_Go p e below (T137.setTop (mkF m 209 #[.val (.int p1), .val (.int p2), .val (.int p3), .val (.int p4), .val (.ref b55), .val (.ref b60), .val (.ref b66), .val (.ref b72), .val (.ref b82), .val (.int (0 : Int32)), .val (.ref b92), .val (.ref b96), .val (.ref b100), .val (.ref x125)] [(.int (1 : Int32))])) _
      refine own_go (fun _ k => XS.ifNo X137.here hx rfl (hb hby at_209) rfl ((if0 _ _).trans (feq (by decide : ¬ ((1 : Int32) = (0 : Int32)))).1) k) ?_
      show own_Go p e below (T137.setTop (mkF m 212 #[.val (.int p1), .val (.int p2), .val (.int p3), .val (.int p4), .val (.ref b55), .val (.ref b60), .val (.ref b66), .val (.ref b72), .val (.ref b82), .val (.int (0 : Int32)), .val (.ref b92), .val (.ref b96), .val (.ref b100), .val (.ref x125)] [])) _
      refine own_go (fun _ k => XS.aload X137.here hx rfl (hb hby at_212) rfl rfl k) ?_
      show own_Go p e below (T137.setTop (mkF m 214 #[.val (.int p1), .val (.int p2), .val (.int p3), .val (.int p4), .val (.ref b55), .val (.ref b60), .val (.ref b66), .val (.ref b72), .val (.ref b82), .val (.int (0 : Int32)), .val (.ref b92), .val (.ref b96), .val (.ref b100), .val (.ref x125)] [(.ref x125)])) _
      refine own_go (fun _ k => XS.iconst X137.here hx rfl (hb hby at_214) k) ?_
      show own_Go p e below (T137.setTop (mkF m 215 #[.val (.int p1), .val (.int p2), .val (.int p3), .val (.int p4), .val (.ref b55), .val (.ref b60), .val (.ref b66), .val (.ref b72), .val (.ref b82), .val (.int (0 : Int32)), .val (.ref b92), .val (.ref b96), .val (.ref b100), .val (.ref x125)] [(.int (1 : Int32)), (.ref x125)])) _
      obtain ⟨cq139, kq139, q139a, q139b, q139c⟩ := isOf hZ122 e137 Ex125
      obtain ⟨v139, _, ⟨T139, L139, k139, n139⟩, -, X139, ⟨Lc139, hQ139, l139, y139, z139⟩, st139⟩ := X137.interfaceBack hx (xi := (⟨"java/util/List", "get", "(I)Ljava/lang/Object;"⟩ : MethodName)) (y := (⟨"java/util/ImmutableCollections$List12", "get", "(I)Ljava/lang/Object;"⟩ : MethodName)) hown122 (mvT hZ122 (hw _ (List.mem_of_getElem? (i := 123) rfl))) (mvT hZ122 (hw _ (List.mem_of_getElem? (i := 124) rfl))) (mvT hZ122 (hw _ (List.mem_of_getElem? (i := 125) rfl))) (mvT hZ122 (hw _ (List.mem_of_getElem? (i := 126) rfl))) (mvT hZ122 (hw _ (List.mem_of_getElem? (i := 127) rfl))) (mvT hZ122 (hw _ (List.mem_of_getElem? (i := 128) rfl))) (mvT hZ122 (hw _ (List.mem_of_getElem? (i := 129) rfl))) (mvT hZ122 (hw _ (List.mem_of_getElem? (i := 119) rfl))) (by decide) (backOf (W := 0) (rm_lget1 l Z a0 hw [] x125 b92 b96 zE T125.heap n0 (f124.keep K125 all0) Ex125 F0125 F1125 OE (Ne.symm ((f124.keep K125 all0).ne hzE (Nat.le_trans Z0 (Nat.le_trans z97 (Nat.le_of_eq g96.symm)))))) hZ122 (hw _ (List.mem_of_getElem? (i := 130) rfl)) (hw _ (List.mem_of_getElem? (i := 81) rfl)) (by decide) (by decide)) q139a q139b q139c (g := (mkF m 215 #[.val (.int p1), .val (.int p2), .val (.int p3), .val (.int p4), .val (.ref b55), .val (.ref b60), .val (.ref b66), .val (.ref b72), .val (.ref b82), .val (.int (0 : Int32)), .val (.ref b92), .val (.ref b96), .val (.ref b100), .val (.ref x125)] [(.int (1 : Int32)), (.ref x125)])) rfl (by rw [hml]; rfl) (Steps.refl _) (argsL := [(.int (1 : Int32))]) (rest := []) (lenOf pd_10 rfl) rfl (by show 2 * 0 + _ ≤ _; exact Nat.le_of_eq rfl) (hb hby at_215) (fun _ _ => ⟨rfl, e137, (by decide : 23 + 0 ≤ _), (by decide : 136 + 0 ≤ _)⟩)
      dsimp only [Pt.U, Pt.locs, Pt.cells, Pt.slots] at X139 l139 y139 z139 st139 hQ139
      subst l139 y139 z139
      refine own_gos st139 ?_
      obtain ⟨rfl, Nq139, e139⟩ := hQ139
      have N139 := Fr.app N137 Nq139
      show own_Go p e below (T139.setTop (mkF m 220 #[.val (.int p1), .val (.int p2), .val (.int p3), .val (.int p4), .val (.ref b55), .val (.ref b60), .val (.ref b66), .val (.ref b72), .val (.ref b82), .val (.int (0 : Int32)), .val (.ref b92), .val (.ref b96), .val (.ref b100), .val (.ref x125)] [(.ref b96)])) _
      have f140 := ((((((A96.keep K99).ext E100).ext E101).keep K113).keep K122).keep K125)
      obtain ⟨T141, X141, e141, st141⟩ := castY X139 hx hZ122 hown122 (hw _ (List.mem_of_getElem? (i := 30) rfl)) e139 (Ins.self f140) (g := (mkF m 220 #[.val (.int p1), .val (.int p2), .val (.int p3), .val (.int p4), .val (.ref b55), .val (.ref b60), .val (.ref b66), .val (.ref b72), .val (.ref b82), .val (.int (0 : Int32)), .val (.ref b92), .val (.ref b96), .val (.ref b100), .val (.ref x125)] [(.ref b96)])) rfl rfl (hb hby at_220)
      refine own_go st141 ?_
      show own_Go p e below (T141.setTop (mkF m 223 #[.val (.int p1), .val (.int p2), .val (.int p3), .val (.int p4), .val (.ref b55), .val (.ref b60), .val (.ref b66), .val (.ref b72), .val (.ref b82), .val (.int (0 : Int32)), .val (.ref b92), .val (.ref b96), .val (.ref b100), .val (.ref x125)] [(.ref b96)])) _
      have ne142 : b96 ≠ b101 := Nat.ne_of_lt (Nat.lt_of_lt_of_le (Nat.lt_of_lt_of_le A96.lt (Nat.le_trans K99.1 E100.1)) (Nat.le_of_eq g101.symm))
      have ne143 : b96 ≠ b100 := Nat.ne_of_lt (Nat.lt_of_lt_of_le (Nat.lt_of_lt_of_le A96.lt K99.1) (Nat.le_of_eq g100.symm))
      have f144 := (((((Fk0_99.ext E100).ext E101).keep K113 (ninS ne142 nin0)).keep K122 (ninS ne143 nin0)).keep K125 nin0)
      obtain ⟨cq145, kq145, q145a, q145b, q145c⟩ := isOf hZ122 e141 f140
      obtain ⟨v145, _, ⟨T145, L145, k145, n145⟩, -, X145, ⟨Lc145, hQ145, l145, y145, z145⟩, st145⟩ := X141.virtualBack hx (y := (⟨"com/example/rederive/rederive/Variable", "name", "()Ljava/lang/String;"⟩ : MethodName)) (z := (⟨"com/example/rederive/rederive/Variable", "name", "()Ljava/lang/String;"⟩ : MethodName)) hown122 (mvT hZ122 (hw _ (List.mem_of_getElem? (i := 132) rfl))) (mvT hZ122 (hw _ (List.mem_of_getElem? (i := 133) rfl))) (notFace_of_selects (args := #[]) (mvT hZ122 (hw _ (List.mem_of_getElem? (i := 135) rfl)))) (mvT hZ122 (hw _ (List.mem_of_getElem? (i := 135) rfl))) (mvT hZ122 (hw _ (List.mem_of_getElem? (i := 134) rfl))) (by decide) (backOf (W := 0) (rm_name l Z a0 hw [] b96 b82 T125.heap n0 (f124.keep K125 all0) f140 f144) hZ122 (hw _ (List.mem_of_getElem? (i := 136) rfl)) (hw _ (List.mem_of_getElem? (i := 32) rfl)) (by decide) (by decide)) q145a q145c (g := (mkF m 223 #[.val (.int p1), .val (.int p2), .val (.int p3), .val (.int p4), .val (.ref b55), .val (.ref b60), .val (.ref b66), .val (.ref b72), .val (.ref b82), .val (.int (0 : Int32)), .val (.ref b92), .val (.ref b96), .val (.ref b100), .val (.ref x125)] [(.ref b96)])) rfl (by rw [hml]; rfl) (Steps.refl _) (argsL := []) (rest := []) (lenOf pd_11 rfl) rfl (by show 2 * 0 + _ ≤ _; exact Nat.le_of_eq rfl) (hb hby at_223) (fun _ _ => ⟨rfl, e141, (by decide : 23 + 0 ≤ _), (by decide : 136 + 0 ≤ _)⟩)
      dsimp only [Pt.U, Pt.locs, Pt.cells, Pt.slots] at X145 l145 y145 z145 st145 hQ145
      subst l145 y145 z145
      refine own_gos st145 ?_
      obtain ⟨rfl, Nq145, e145⟩ := hQ145
      have N145 := Fr.app N139 Nq145
      show own_Go p e below (T145.setTop (mkF m 226 #[.val (.int p1), .val (.int p2), .val (.int p3), .val (.int p4), .val (.ref b55), .val (.ref b60), .val (.ref b66), .val (.ref b72), .val (.ref b82), .val (.int (0 : Int32)), .val (.ref b92), .val (.ref b96), .val (.ref b100), .val (.ref x125)] [(.ref b82)])) _
      refine own_go (fun _ k => XS.aload X145.here hx rfl (hb hby at_226) rfl rfl k) ?_
      show own_Go p e below (T145.setTop (mkF m 228 #[.val (.int p1), .val (.int p2), .val (.int p3), .val (.int p4), .val (.ref b55), .val (.ref b60), .val (.ref b66), .val (.ref b72), .val (.ref b82), .val (.int (0 : Int32)), .val (.ref b92), .val (.ref b96), .val (.ref b100), .val (.ref x125)] [(.ref b82), (.ref b82)])) _
      have f147 := (((((((((Eq90.ext E92).keep K95).ext E96).keep K99).ext E100).ext E101).keep K113).keep K122).keep K125)
      obtain ⟨cq146, kq146, q146a, q146b, q146c⟩ := isOf hZ122 e145 f147
      obtain ⟨v146, _, ⟨T146, L146, k146, n146⟩, -, X146, ⟨Lc146, hQ146, l146, y146, z146⟩, st146⟩ := X145.virtualBack hx (y := (⟨"java/lang/String", "equals", "(Ljava/lang/Object;)Z"⟩ : MethodName)) (z := (⟨"java/lang/String", "equals", "(Ljava/lang/Object;)Z"⟩ : MethodName)) hown122 (mvT hZ122 (hw _ (List.mem_of_getElem? (i := 137) rfl))) (mvT hZ122 (hw _ (List.mem_of_getElem? (i := 138) rfl))) (notFace_of_selects (args := #[]) (mvT hZ122 (hw _ (List.mem_of_getElem? (i := 140) rfl)))) (mvT hZ122 (hw _ (List.mem_of_getElem? (i := 140) rfl))) (mvT hZ122 (hw _ (List.mem_of_getElem? (i := 139) rfl))) (by decide) (backOf (W := 0) (rm_eq l Z a0 hw [] b82 T125.heap n0 (f124.keep K125 all0) ) hZ122 (hw _ (List.mem_of_getElem? (i := 141) rfl)) (hw _ (List.mem_of_getElem? (i := 3) rfl)) (by decide) (by decide)) q146a q146c (g := (mkF m 228 #[.val (.int p1), .val (.int p2), .val (.int p3), .val (.int p4), .val (.ref b55), .val (.ref b60), .val (.ref b66), .val (.ref b72), .val (.ref b82), .val (.int (0 : Int32)), .val (.ref b92), .val (.ref b96), .val (.ref b100), .val (.ref x125)] [(.ref b82), (.ref b82)])) rfl (by rw [hml]; rfl) (Steps.refl _) (argsL := [(.ref b82)]) (rest := []) (lenOf pd_12 rfl) rfl (by show 2 * 0 + _ ≤ _; exact Nat.le_of_eq rfl) (hb hby at_228) (fun _ _ => ⟨rfl, e145, (by decide : 23 + 0 ≤ _), (by decide : 136 + 0 ≤ _)⟩)
      dsimp only [Pt.U, Pt.locs, Pt.cells, Pt.slots] at X146 l146 y146 z146 st146 hQ146
      subst l146 y146 z146
      refine own_gos st146 ?_
      obtain ⟨rfl, Nq146, e146⟩ := hQ146
      have N146 := Fr.app N145 Nq146
      show own_Go p e below (T146.setTop (mkF m 231 #[.val (.int p1), .val (.int p2), .val (.int p3), .val (.int p4), .val (.ref b55), .val (.ref b60), .val (.ref b66), .val (.ref b72), .val (.ref b82), .val (.int (0 : Int32)), .val (.ref b92), .val (.ref b96), .val (.ref b100), .val (.ref x125)] [(.int (1 : Int32))])) _
      refine own_go (fun _ k => XS.ifNo X146.here hx rfl (hb hby at_231) rfl ((if0 _ _).trans (feq (by decide : ¬ ((1 : Int32) = (0 : Int32)))).1) k) ?_
      show own_Go p e below (T146.setTop (mkF m 234 #[.val (.int p1), .val (.int p2), .val (.int p3), .val (.int p4), .val (.ref b55), .val (.ref b60), .val (.ref b66), .val (.ref b72), .val (.ref b82), .val (.int (0 : Int32)), .val (.ref b92), .val (.ref b96), .val (.ref b100), .val (.ref x125)] [])) _
      refine own_go (fun _ k => XS.iconst X146.here hx rfl (hb hby at_234) k) ?_
      show own_Go p e below (T146.setTop (mkF m 235 #[.val (.int p1), .val (.int p2), .val (.int p3), .val (.int p4), .val (.ref b55), .val (.ref b60), .val (.ref b66), .val (.ref b72), .val (.ref b82), .val (.int (0 : Int32)), .val (.ref b92), .val (.ref b96), .val (.ref b100), .val (.ref x125)] [(.int (1 : Int32))])) _
      refine own_go (fun _ k => XS.goto X146.here hx rfl (pc0 := 235) (pc' := 239) rfl (hb hby at_235) (by decide) (by decide) k) ?_
      show own_Go p e below (T146.setTop (mkF m 239 #[.val (.int p1), .val (.int p2), .val (.int p3), .val (.int p4), .val (.ref b55), .val (.ref b60), .val (.ref b66), .val (.ref b72), .val (.ref b82), .val (.int (0 : Int32)), .val (.ref b92), .val (.ref b96), .val (.ref b100), .val (.ref x125)] [(.int (1 : Int32))])) _
      have z148 := (Nat.le_trans (Nat.le_trans (Nat.le_trans (Nat.le_trans z103 E101.1) K113.1) K122.1) K125.1)
      refine own_finW (v := (some (.int (nar .boolean (1 : Int32))))) X146 hh hZ122 hS122 (by rw [e146]; exact (Nat.le_trans (Nat.le_refl _) K125.1)) (fun h => by rw [hrt] at h; cases h) hlk (fun fs hr => retN X146 hx (t := .boolean) hrt (by simp) (hb hby at_239) hr) (QQ := QQ0 n0) ?_ own_hEL e146 (own_chr0 z148) (by decide) (by decide)
      rw [e146]
      exact ⟨rfl, N146⟩
    · skip
      refine own_go (fun _ k => XS.ifNo X90.here hx rfl (hb hby at_114) rfl ((if0 _ _).trans (feq hc91).1) k) ?_
      show own_Go p e below (T90.setTop (mkF m 117 #[.val (.int p1), .val (.int p2), .val (.int p3), .val (.int p4), .val (.ref b55), .val (.ref b60), .val (.ref b66), .val (.ref b72), .val (.ref b82), .unset, .unset, .unset, .unset, .unset] [])) _
      refine own_go (fun _ k => XS.iconst X90.here hx rfl (hb hby at_117) k) ?_
      show own_Go p e below (T90.setTop (mkF m 118 #[.val (.int p1), .val (.int p2), .val (.int p3), .val (.int p4), .val (.ref b55), .val (.ref b60), .val (.ref b66), .val (.ref b72), .val (.ref b82), .unset, .unset, .unset, .unset, .unset] [(.int (1 : Int32))])) _
      refine own_go (fun _ k => XS.goto X90.here hx rfl (pc0 := 118) (pc' := 122) rfl (hb hby at_118) (by decide) (by decide) k) ?_
      show own_Go p e below (T90.setTop (mkF m 122 #[.val (.int p1), .val (.int p2), .val (.int p3), .val (.int p4), .val (.ref b55), .val (.ref b60), .val (.ref b66), .val (.ref b72), .val (.ref b82), .unset, .unset, .unset, .unset, .unset] [(.int (1 : Int32))])) _
      refine own_go (fun _ k => XS.istore X90.here hx rfl (hb hby at_122) rfl (l' := #[.val (.int p1), .val (.int p2), .val (.int p3), .val (.int p4), .val (.ref b55), .val (.ref b60), .val (.ref b66), .val (.ref b72), .val (.ref b82), .val (.int (1 : Int32)), .unset, .unset, .unset, .unset]) rfl k) ?_
      show own_Go p e below (T90.setTop (mkF m 124 #[.val (.int p1), .val (.int p2), .val (.int p3), .val (.int p4), .val (.ref b55), .val (.ref b60), .val (.ref b66), .val (.ref b72), .val (.ref b82), .val (.int (1 : Int32)), .unset, .unset, .unset, .unset] [])) _
      obtain ⟨T149, h149, X149, e149, E149, A149, D149, U149, st149⟩ := newO X90 hx hZ hown (hw _ (List.mem_of_getElem? (i := 30) rfl)) (hw _ (List.mem_of_getElem? (i := 31) rfl)) (hw _ (List.mem_of_getElem? (i := 32) rfl)) (rfl : T90.heap = T90.heap) (g := (mkF m 124 #[.val (.int p1), .val (.int p2), .val (.int p3), .val (.int p4), .val (.ref b55), .val (.ref b60), .val (.ref b66), .val (.ref b72), .val (.ref b82), .val (.int (1 : Int32)), .unset, .unset, .unset, .unset] [])) rfl (hb hby at_124) (by decide) (by decide)
      obtain ⟨b149, g149⟩ : ∃ z, z = T90.heap.size := ⟨_, rfl⟩
      rw [← g149] at A149 D149 U149 st149
      refine own_go st149 ?_
      have F149_name : Fld Z h149 b149 "com/example/rederive/rederive/Variable" "name" "Ljava/lang/String;" .null := D149 (Or.inr (hw _ (List.mem_of_getElem? (i := 50) rfl))) (ty := (.object "java/lang/String")) (by decide)
      show own_Go p e below (T149.setTop (mkF m 127 #[.val (.int p1), .val (.int p2), .val (.int p3), .val (.int p4), .val (.ref b55), .val (.ref b60), .val (.ref b66), .val (.ref b72), .val (.ref b82), .val (.int (1 : Int32)), .unset, .unset, .unset, .unset] [(.ref b149)])) _
      refine own_go (fun _ k => XS.dup X149.here hx rfl (hb hby at_127) rfl rfl k) ?_
      show own_Go p e below (T149.setTop (mkF m 128 #[.val (.int p1), .val (.int p2), .val (.int p3), .val (.int p4), .val (.ref b55), .val (.ref b60), .val (.ref b66), .val (.ref b72), .val (.ref b82), .val (.int (1 : Int32)), .unset, .unset, .unset, .unset] [(.ref b149), (.ref b149)])) _
      refine own_go (fun _ k => XS.aload X149.here hx rfl (hb hby at_128) rfl rfl k) ?_
      show own_Go p e below (T149.setTop (mkF m 130 #[.val (.int p1), .val (.int p2), .val (.int p3), .val (.int p4), .val (.ref b55), .val (.ref b60), .val (.ref b66), .val (.ref b72), .val (.ref b82), .val (.int (1 : Int32)), .unset, .unset, .unset, .unset] [(.ref b72), (.ref b149), (.ref b149)])) _
      have z150 := (Nat.le_trans (Nat.le_trans z84 E82.1) K90.1)
      have f151 := ((f83.keep K90 (allS (Nat.le_trans Z0 (Nat.le_trans z84 (Nat.le_of_eq g82.symm))) all0)).ext E149)
      obtain ⟨v152, _, ⟨T152, L152, k152, n152⟩, -, X152, hS152, hg152, ⟨Lc152, hQ152, l152, y152, z152, A152⟩, st152⟩ := X149.specialBackS hx (y := (⟨"com/example/rederive/rederive/Variable", "<init>", "(Ljava/lang/String;)V"⟩ : MethodName)) rfl hown (mvT hZ (hw _ (List.mem_of_getElem? (i := 33) rfl))) (mvT hZ (hw _ (List.mem_of_getElem? (i := 34) rfl))) (mvT hZ (hw _ (List.mem_of_getElem? (i := 35) rfl))) (by decide) (backOfSH (W := 1) (rm_var l Z a0 hw [] b149 b72 h149 n0 f151 A149 F149_name (Nat.le_trans Z0 (Nat.le_trans z150 (Nat.le_of_eq g149.symm)))) hZ (hw _ (List.mem_of_getElem? (i := 35) rfl)) (hw _ (List.mem_of_getElem? (i := 32) rfl)) (by decide) (by decide) own_hEL own_chv0) (g := (mkF m 130 #[.val (.int p1), .val (.int p2), .val (.int p3), .val (.int p4), .val (.ref b55), .val (.ref b60), .val (.ref b66), .val (.ref b72), .val (.ref b82), .val (.int (1 : Int32)), .unset, .unset, .unset, .unset] [(.ref b72), (.ref b149), (.ref b149)])) rfl (by rw [hml]; rfl) (Steps.refl _) (a := b149) (argsL := [(.ref b72)]) (rest := [(.ref b149)]) (lenOf pd_6 rfl) rfl (by show 2 * 0 + _ ≤ _; exact Nat.le_of_eq rfl) (hb hby at_130) (fun _ _ => ⟨rfl, e149, (by decide : 8 + 2 ≤ _), (by decide : 19 + 20 ≤ _)⟩)
      dsimp only [Pt.U, Pt.locs, Pt.cells, Pt.slots] at X152 l152 y152 z152 st152 hQ152 hS152 hg152 A152
      subst l152 y152 z152
      refine own_gos st152 ?_
      obtain ⟨X152, hS152, hZ152, hown152⟩ := rebS hS0 (k0 := _) (n1 := T149.heap.size) (by rw [e149]; exact (Nat.zero_le _)) X152 hS152 hg152 hZ hown
      obtain ⟨rfl, Nq152, K152, Fk0_152⟩ := hQ152
      have N152 := Fr.app N90 Nq152
      show own_Go p e below (T152.setTop (mkF m 133 #[.val (.int p1), .val (.int p2), .val (.int p3), .val (.int p4), .val (.ref b55), .val (.ref b60), .val (.ref b66), .val (.ref b72), .val (.ref b82), .val (.int (1 : Int32)), .unset, .unset, .unset, .unset] [(.ref b149)])) _
      refine own_go (fun _ k => XS.astore X152.here hx rfl (hb hby at_133) rfl rfl (l' := #[.val (.int p1), .val (.int p2), .val (.int p3), .val (.int p4), .val (.ref b55), .val (.ref b60), .val (.ref b66), .val (.ref b72), .val (.ref b82), .val (.int (1 : Int32)), .val (.ref b149), .unset, .unset, .unset]) rfl k) ?_
      show own_Go p e below (T152.setTop (mkF m 135 #[.val (.int p1), .val (.int p2), .val (.int p3), .val (.int p4), .val (.ref b55), .val (.ref b60), .val (.ref b66), .val (.ref b72), .val (.ref b82), .val (.int (1 : Int32)), .val (.ref b149), .unset, .unset, .unset] [])) _
      obtain ⟨T153, h153, X153, e153, E153, A153, D153, U153, st153⟩ := newO X152 hx hZ152 hown152 (hw _ (List.mem_of_getElem? (i := 30) rfl)) (hw _ (List.mem_of_getElem? (i := 31) rfl)) (hw _ (List.mem_of_getElem? (i := 32) rfl)) (rfl : T152.heap = T152.heap) (g := (mkF m 135 #[.val (.int p1), .val (.int p2), .val (.int p3), .val (.int p4), .val (.ref b55), .val (.ref b60), .val (.ref b66), .val (.ref b72), .val (.ref b82), .val (.int (1 : Int32)), .val (.ref b149), .unset, .unset, .unset] [])) rfl (hb hby at_135) (by decide) (by decide)
      obtain ⟨b153, g153⟩ : ∃ z, z = T152.heap.size := ⟨_, rfl⟩
      rw [← g153] at A153 D153 U153 st153
      refine own_go st153 ?_
      have F153_name : Fld Z h153 b153 "com/example/rederive/rederive/Variable" "name" "Ljava/lang/String;" .null := D153 (Or.inr (hw _ (List.mem_of_getElem? (i := 50) rfl))) (ty := (.object "java/lang/String")) (by decide)
      show own_Go p e below (T153.setTop (mkF m 138 #[.val (.int p1), .val (.int p2), .val (.int p3), .val (.int p4), .val (.ref b55), .val (.ref b60), .val (.ref b66), .val (.ref b72), .val (.ref b82), .val (.int (1 : Int32)), .val (.ref b149), .unset, .unset, .unset] [(.ref b153)])) _
      refine own_go (fun _ k => XS.dup X153.here hx rfl (hb hby at_138) rfl rfl k) ?_
      show own_Go p e below (T153.setTop (mkF m 139 #[.val (.int p1), .val (.int p2), .val (.int p3), .val (.int p4), .val (.ref b55), .val (.ref b60), .val (.ref b66), .val (.ref b72), .val (.ref b82), .val (.int (1 : Int32)), .val (.ref b149), .unset, .unset, .unset] [(.ref b153), (.ref b153)])) _
      refine own_go (fun _ k => XS.aload X153.here hx rfl (hb hby at_139) rfl rfl k) ?_
      show own_Go p e below (T153.setTop (mkF m 141 #[.val (.int p1), .val (.int p2), .val (.int p3), .val (.int p4), .val (.ref b55), .val (.ref b60), .val (.ref b66), .val (.ref b72), .val (.ref b82), .val (.int (1 : Int32)), .val (.ref b149), .unset, .unset, .unset] [(.ref b82), (.ref b153), (.ref b153)])) _
      have z154 := (Nat.le_trans (Nat.le_trans z150 E149.1) K152.1)
      have f155 := ((f151.keep K152 (allS (Nat.le_trans Z0 (Nat.le_trans z150 (Nat.le_of_eq g149.symm))) all0)).ext E153)
      obtain ⟨v156, _, ⟨T156, L156, k156, n156⟩, -, X156, hS156, hg156, ⟨Lc156, hQ156, l156, y156, z156, A156⟩, st156⟩ := X153.specialBackS hx (y := (⟨"com/example/rederive/rederive/Variable", "<init>", "(Ljava/lang/String;)V"⟩ : MethodName)) rfl hown152 (mvT hZ152 (hw _ (List.mem_of_getElem? (i := 33) rfl))) (mvT hZ152 (hw _ (List.mem_of_getElem? (i := 34) rfl))) (mvT hZ152 (hw _ (List.mem_of_getElem? (i := 35) rfl))) (by decide) (backOfSH (W := 1) (rm_var l Z a0 hw [] b153 b82 h153 n0 f155 A153 F153_name (Nat.le_trans Z0 (Nat.le_trans z154 (Nat.le_of_eq g153.symm)))) hZ152 (hw _ (List.mem_of_getElem? (i := 35) rfl)) (hw _ (List.mem_of_getElem? (i := 32) rfl)) (by decide) (by decide) own_hEL own_chv0) (g := (mkF m 141 #[.val (.int p1), .val (.int p2), .val (.int p3), .val (.int p4), .val (.ref b55), .val (.ref b60), .val (.ref b66), .val (.ref b72), .val (.ref b82), .val (.int (1 : Int32)), .val (.ref b149), .unset, .unset, .unset] [(.ref b82), (.ref b153), (.ref b153)])) rfl (by rw [hml]; rfl) (Steps.refl _) (a := b153) (argsL := [(.ref b82)]) (rest := [(.ref b153)]) (lenOf pd_6 rfl) rfl (by show 2 * 0 + _ ≤ _; exact Nat.le_of_eq rfl) (hb hby at_141) (fun _ _ => ⟨rfl, e153, (by decide : 11 + 2 ≤ _), (by decide : 40 + 20 ≤ _)⟩)
      dsimp only [Pt.U, Pt.locs, Pt.cells, Pt.slots] at X156 l156 y156 z156 st156 hQ156 hS156 hg156 A156
      subst l156 y156 z156
      refine own_gos st156 ?_
      obtain ⟨X156, hS156, hZ156, hown156⟩ := rebS hS152 (k0 := _) (n1 := T153.heap.size) (by rw [e153]; exact (Nat.le_trans (Nat.le_refl _) E153.1)) X156 hS156 hg156 hZ152 hown152
      obtain ⟨rfl, Nq156, K156, Fk0_156⟩ := hQ156
      have N156 := Fr.app N152 Nq156
      show own_Go p e below (T156.setTop (mkF m 144 #[.val (.int p1), .val (.int p2), .val (.int p3), .val (.int p4), .val (.ref b55), .val (.ref b60), .val (.ref b66), .val (.ref b72), .val (.ref b82), .val (.int (1 : Int32)), .val (.ref b149), .unset, .unset, .unset] [(.ref b153)])) _
      refine own_go (fun _ k => XS.astore X156.here hx rfl (hb hby at_144) rfl rfl (l' := #[.val (.int p1), .val (.int p2), .val (.int p3), .val (.int p4), .val (.ref b55), .val (.ref b60), .val (.ref b66), .val (.ref b72), .val (.ref b82), .val (.int (1 : Int32)), .val (.ref b149), .val (.ref b153), .unset, .unset]) rfl k) ?_
      show own_Go p e below (T156.setTop (mkF m 146 #[.val (.int p1), .val (.int p2), .val (.int p3), .val (.int p4), .val (.ref b55), .val (.ref b60), .val (.ref b66), .val (.ref b72), .val (.ref b82), .val (.int (1 : Int32)), .val (.ref b149), .val (.ref b153), .unset, .unset] [])) _
      obtain ⟨T157, h157, X157, e157, E157, A157, D157, U157, st157⟩ := newO X156 hx hZ156 hown156 (hw _ (List.mem_of_getElem? (i := 51) rfl)) (hw _ (List.mem_of_getElem? (i := 52) rfl)) (hw _ (List.mem_of_getElem? (i := 53) rfl)) (rfl : T156.heap = T156.heap) (g := (mkF m 146 #[.val (.int p1), .val (.int p2), .val (.int p3), .val (.int p4), .val (.ref b55), .val (.ref b60), .val (.ref b66), .val (.ref b72), .val (.ref b82), .val (.int (1 : Int32)), .val (.ref b149), .val (.ref b153), .unset, .unset] [])) rfl (hb hby at_146) (by decide) (by decide)
      obtain ⟨b157, g157⟩ : ∃ z, z = T156.heap.size := ⟨_, rfl⟩
      rw [← g157] at A157 D157 U157 st157
      refine own_go st157 ?_
      have F157_pattern : Fld Z h157 b157 "com/example/rederive/rederive/Constraint$ClosureCall" "pattern" "Ljava/lang/String;" .null := D157 (Or.inr (hw _ (List.mem_of_getElem? (i := 63) rfl))) (ty := (.object "java/lang/String")) (by decide)
      have F157_from : Fld Z h157 b157 "com/example/rederive/rederive/Constraint$ClosureCall" "from" "Lcom/example/rederive/rederive/Variable;" .null := D157 (Or.inr (hw _ (List.mem_of_getElem? (i := 65) rfl))) (ty := (.object "com/example/rederive/rederive/Variable")) (by decide)
      have F157_to : Fld Z h157 b157 "com/example/rederive/rederive/Constraint$ClosureCall" "to" "Lcom/example/rederive/rederive/Variable;" .null := D157 (Or.inr (hw _ (List.mem_of_getElem? (i := 67) rfl))) (ty := (.object "com/example/rederive/rederive/Variable")) (by decide)
      have F157_reflexive : Fld Z h157 b157 "com/example/rederive/rederive/Constraint$ClosureCall" "reflexive" "Z" (.int (0 : Int32)) := D157 (Or.inr (hw _ (List.mem_of_getElem? (i := 69) rfl))) (ty := .boolean) (by decide)
      show own_Go p e below (T157.setTop (mkF m 149 #[.val (.int p1), .val (.int p2), .val (.int p3), .val (.int p4), .val (.ref b55), .val (.ref b60), .val (.ref b66), .val (.ref b72), .val (.ref b82), .val (.int (1 : Int32)), .val (.ref b149), .val (.ref b153), .unset, .unset] [(.ref b157)])) _
      refine own_go (fun _ k => XS.dup X157.here hx rfl (hb hby at_149) rfl rfl k) ?_
      show own_Go p e below (T157.setTop (mkF m 150 #[.val (.int p1), .val (.int p2), .val (.int p3), .val (.int p4), .val (.ref b55), .val (.ref b60), .val (.ref b66), .val (.ref b72), .val (.ref b82), .val (.int (1 : Int32)), .val (.ref b149), .val (.ref b153), .unset, .unset] [(.ref b157), (.ref b157)])) _
      obtain ⟨T158, h158, X158, e158, E158, A158, D158, U158, st158⟩ := newO X157 hx hZ156 hown156 (hw _ (List.mem_of_getElem? (i := 1) rfl)) (hw _ (List.mem_of_getElem? (i := 2) rfl)) (hw _ (List.mem_of_getElem? (i := 3) rfl)) e157 (g := (mkF m 150 #[.val (.int p1), .val (.int p2), .val (.int p3), .val (.int p4), .val (.ref b55), .val (.ref b60), .val (.ref b66), .val (.ref b72), .val (.ref b82), .val (.int (1 : Int32)), .val (.ref b149), .val (.ref b153), .unset, .unset] [(.ref b157), (.ref b157)])) rfl (hb hby at_150) (by decide) (by decide)
      obtain ⟨b158, g158⟩ : ∃ z, z = h157.size := ⟨_, rfl⟩
      rw [← g158] at A158 D158 U158 st158
      refine own_go st158 ?_
      have F158_coder : Fld Z h158 b158 "java/lang/String" "coder" "B" (.int (0 : Int32)) := D158 (Or.inr (hw _ (List.mem_of_getElem? (i := 27) rfl))) (ty := .byte) (by decide)
      have F158_value : Fld Z h158 b158 "java/lang/String" "value" "[B" .null := D158 (Or.inr (hw _ (List.mem_of_getElem? (i := 29) rfl))) (ty := (.array .byte)) (by decide)
      show own_Go p e below (T158.setTop (mkF m 153 #[.val (.int p1), .val (.int p2), .val (.int p3), .val (.int p4), .val (.ref b55), .val (.ref b60), .val (.ref b66), .val (.ref b72), .val (.ref b82), .val (.int (1 : Int32)), .val (.ref b149), .val (.ref b153), .unset, .unset] [(.ref b158), (.ref b157), (.ref b157)])) _
      refine own_go (fun _ k => XS.dup X158.here hx rfl (hb hby at_153) rfl rfl k) ?_
      show own_Go p e below (T158.setTop (mkF m 154 #[.val (.int p1), .val (.int p2), .val (.int p3), .val (.int p4), .val (.ref b55), .val (.ref b60), .val (.ref b66), .val (.ref b72), .val (.ref b82), .val (.int (1 : Int32)), .val (.ref b149), .val (.ref b153), .unset, .unset] [(.ref b158), (.ref b158), (.ref b157), (.ref b157)])) _
      refine own_go (fun _ k => XS.aload X158.here hx rfl (hb hby at_154) rfl rfl k) ?_
      show own_Go p e below (T158.setTop (mkF m 156 #[.val (.int p1), .val (.int p2), .val (.int p3), .val (.int p4), .val (.ref b55), .val (.ref b60), .val (.ref b66), .val (.ref b72), .val (.ref b82), .val (.int (1 : Int32)), .val (.ref b149), .val (.ref b153), .unset, .unset] [(.ref b66), (.ref b158), (.ref b158), (.ref b157), (.ref b157)])) _
      have f159 := (((f155.keep K156 (allS (Nat.le_trans Z0 (Nat.le_trans z154 (Nat.le_of_eq g153.symm))) all0)).ext E157).ext E158)
      have z160 := (Nat.le_trans (Nat.le_trans (Nat.le_trans z154 E153.1) K156.1) E157.1)
      have z162 := (Nat.le_trans (Keep.of_wr W68).1 (Keep.of_wr W71).1)
      have ne161 : b66 ≠ b72 := Nat.ne_of_lt (Nat.lt_of_lt_of_le (Nat.lt_of_lt_of_le V66.lt z162) (Nat.le_of_eq g72.symm))
      have z164 := (Nat.le_trans (Nat.le_trans z162 E72.1) K80.1)
      have ne163 : b66 ≠ b82 := Nat.ne_of_lt (Nat.lt_of_lt_of_le (Nat.lt_of_lt_of_le V66.lt z164) (Nat.le_of_eq g82.symm))
      have z166 := (Nat.le_trans (Nat.le_trans z164 E82.1) K90.1)
      have ne165 : b66 ≠ b149 := Nat.ne_of_lt (Nat.lt_of_lt_of_le (Nat.lt_of_lt_of_le V66.lt z166) (Nat.le_of_eq g149.symm))
      have z168 := (Nat.le_trans (Nat.le_trans z166 E149.1) K152.1)
      have ne167 : b66 ≠ b153 := Nat.ne_of_lt (Nat.lt_of_lt_of_le (Nat.lt_of_lt_of_le V66.lt z168) (Nat.le_of_eq g153.symm))
      have f169 := ((((((((((V71.ext E72).keep K80 (ninS ne161 nin0)).ext E82).keep K90 (ninS ne163 nin0)).ext E149).keep K152 (ninS ne165 nin0)).ext E153).keep K156 (ninS ne167 nin0)).ext E157).ext E158)
      obtain ⟨v170, _, ⟨T170, L170, k170, n170⟩, -, X170, ⟨Lc170, hQ170, l170, y170, z170⟩, st170⟩ := X158.specialBack hx (y := (⟨"java/lang/String", "<init>", "([C)V"⟩ : MethodName)) rfl hown156 (mvT hZ156 (hw _ (List.mem_of_getElem? (i := 4) rfl))) (mvT hZ156 (hw _ (List.mem_of_getElem? (i := 5) rfl))) (mvT hZ156 (hw _ (List.mem_of_getElem? (i := 6) rfl))) (by decide) (StrChars.Road.backV (W := 3) hZ156 (own_wStr hw) (kI := 4) (hw _ (List.mem_of_getElem? (i := 2) rfl)) (cs := ([(nar .char ((p3 &&& (255 : Int32)).toUInt32.toUInt16.toUInt32.toInt32)), (nar .char ((((p3.toUInt32 >>> ((8 : Int32) &&& 31).toUInt32).toInt32) &&& (255 : Int32)).toUInt32.toUInt16.toUInt32.toInt32))] : List Int32)) (bs := (([(nar .char ((p3 &&& (255 : Int32)).toUInt32.toUInt16.toUInt32.toInt32)), (nar .char ((((p3.toUInt32 >>> ((8 : Int32) &&& 31).toUInt32).toInt32) &&& (255 : Int32)).toUInt32.toUInt16.toUInt32.toInt32))] : List Int32)).map (fun c => c.toInt8.toInt32)) (n := 2) (Nat.le_trans Z0 (Nat.le_trans z160 (Nat.le_of_eq g158.symm))) (Nat.le_trans Z0 (Nat.le_trans z160 E158.1)) A158 F158_value F158_coder f169 (O2.ext f159.2) P5 rfl rfl (by decide) (by decide) (fun c hc => by simp only [List.mem_cons, List.not_mem_nil, or_false] at hc; rcases hc with rfl | rfl <;> exact own_and255 _) rfl (by decide) (by decide)) (g := (mkF m 156 #[.val (.int p1), .val (.int p2), .val (.int p3), .val (.int p4), .val (.ref b55), .val (.ref b60), .val (.ref b66), .val (.ref b72), .val (.ref b82), .val (.int (1 : Int32)), .val (.ref b149), .val (.ref b153), .unset, .unset] [(.ref b66), (.ref b158), (.ref b158), (.ref b157), (.ref b157)])) rfl (by rw [hml]; rfl) (Steps.refl _) (a := b158) (argsL := [(.ref b66)]) (rest := [(.ref b158), (.ref b157), (.ref b157)]) (lenOf pd_5 rfl) rfl (by show 2 * 0 + _ ≤ _; exact Nat.le_of_eq rfl) (hb hby at_156) (fun _ _ => ⟨rfl, e158, (by decide : 15 + 1 ≤ _), (by decide : 68 + 2 ≤ _)⟩)
      dsimp only [Pt.U, Pt.locs, Pt.cells, Pt.slots] at X170 l170 y170 z170 st170 hQ170
      subst l170 y170 z170
      refine own_gos st170 ?_
      obtain ⟨rfl, Nq170, K170, Eq170, Fc170, t170, kt170, -, tg170, tn170, Fv170, Vt170⟩ := hQ170
      have N170 := Fr.app N156 Nq170
      show own_Go p e below (T170.setTop (mkF m 159 #[.val (.int p1), .val (.int p2), .val (.int p3), .val (.int p4), .val (.ref b55), .val (.ref b60), .val (.ref b66), .val (.ref b72), .val (.ref b82), .val (.int (1 : Int32)), .val (.ref b149), .val (.ref b153), .unset, .unset] [(.ref b158), (.ref b157), (.ref b157)])) _
      refine own_go (fun _ k => XS.aload X170.here hx rfl (hb hby at_159) rfl rfl k) ?_
      show own_Go p e below (T170.setTop (mkF m 161 #[.val (.int p1), .val (.int p2), .val (.int p3), .val (.int p4), .val (.ref b55), .val (.ref b60), .val (.ref b66), .val (.ref b72), .val (.ref b82), .val (.int (1 : Int32)), .val (.ref b149), .val (.ref b153), .unset, .unset] [(.ref b149), (.ref b158), (.ref b157), (.ref b157)])) _
      refine own_go (fun _ k => XS.aload X170.here hx rfl (hb hby at_161) rfl rfl k) ?_
      show own_Go p e below (T170.setTop (mkF m 163 #[.val (.int p1), .val (.int p2), .val (.int p3), .val (.int p4), .val (.ref b55), .val (.ref b60), .val (.ref b66), .val (.ref b72), .val (.ref b82), .val (.int (1 : Int32)), .val (.ref b149), .val (.ref b153), .unset, .unset] [(.ref b153), (.ref b149), (.ref b158), (.ref b157), (.ref b157)])) _
      refine own_go (fun _ k => XS.iload X170.here hx rfl (hb hby at_163) rfl k) ?_
      show own_Go p e below (T170.setTop (mkF m 165 #[.val (.int p1), .val (.int p2), .val (.int p3), .val (.int p4), .val (.ref b55), .val (.ref b60), .val (.ref b66), .val (.ref b72), .val (.ref b82), .val (.int (1 : Int32)), .val (.ref b149), .val (.ref b153), .unset, .unset] [(.int (1 : Int32)), (.ref b153), (.ref b149), (.ref b158), (.ref b157), (.ref b157)])) _
      have f171 := ((A157.ext E158).keep K170)
      have ne172 : b157 ≠ b158 := Nat.ne_of_lt (Nat.lt_of_lt_of_le A157.lt (Nat.le_of_eq g158.symm))
      have f173 := ((F157_pattern.ext E158).keep K170 (ninS ne172 nin0))
      have f174 := ((F157_from.ext E158).keep K170 (ninS ne172 nin0))
      have f175 := ((F157_to.ext E158).keep K170 (ninS ne172 nin0))
      have f176 := ((F157_reflexive.ext E158).keep K170 (ninS ne172 nin0))
      have z177 := (Nat.le_trans (Nat.le_trans z154 E153.1) K156.1)
      have f178 := (f159.keep K170 (allS (Nat.le_trans Z0 (Nat.le_trans z160 (Nat.le_of_eq g158.symm))) all0))
      obtain ⟨v179, _, ⟨T179, L179, k179, n179⟩, -, X179, hS179, hg179, ⟨Lc179, hQ179, l179, y179, z179, A179⟩, st179⟩ := X170.specialBackS hx (y := (⟨"com/example/rederive/rederive/Constraint$ClosureCall", "<init>", "(Ljava/lang/String;Lcom/example/rederive/rederive/Variable;Lcom/example/rederive/rederive/Variable;Z)V"⟩ : MethodName)) rfl hown156 (mvT hZ156 (hw _ (List.mem_of_getElem? (i := 54) rfl))) (mvT hZ156 (hw _ (List.mem_of_getElem? (i := 55) rfl))) (mvT hZ156 (hw _ (List.mem_of_getElem? (i := 56) rfl))) (by decide) (backOfSH (W := 1) (rm_cc l Z a0 hw [] b157 b158 b149 b153 (1 : Int32) T170.heap n0 f178 f171 f173 f174 f175 f176 (Nat.le_trans Z0 (Nat.le_trans z177 (Nat.le_of_eq g157.symm)))) hZ156 (hw _ (List.mem_of_getElem? (i := 56) rfl)) (hw _ (List.mem_of_getElem? (i := 53) rfl)) (by decide) (by decide) own_hEL own_chv0) (g := (mkF m 165 #[.val (.int p1), .val (.int p2), .val (.int p3), .val (.int p4), .val (.ref b55), .val (.ref b60), .val (.ref b66), .val (.ref b72), .val (.ref b82), .val (.int (1 : Int32)), .val (.ref b149), .val (.ref b153), .unset, .unset] [(.int (1 : Int32)), (.ref b153), (.ref b149), (.ref b158), (.ref b157), (.ref b157)])) rfl (by rw [hml]; rfl) (Steps.refl _) (a := b157) (argsL := [(.ref b158), (.ref b149), (.ref b153), (.int (1 : Int32))]) (rest := [(.ref b157)]) (lenOf pd_7 rfl) rfl (by show 2 * 0 + _ ≤ _; exact Nat.le_of_eq rfl) (hb hby at_165) (fun _ _ => ⟨rfl, (rfl : T170.heap = T170.heap), (by decide : 16 + 6 ≤ _), (by decide : 70 + 64 ≤ _)⟩)
      dsimp only [Pt.U, Pt.locs, Pt.cells, Pt.slots] at X179 l179 y179 z179 st179 hQ179 hS179 hg179 A179
      subst l179 y179 z179
      refine own_gos st179 ?_
      have z180 := (Nat.le_trans (Nat.le_trans E157.1 E158.1) K170.1)
      obtain ⟨X179, hS179, hZ179, hown179⟩ := rebS hS156 (k0 := _) (n1 := T170.heap.size) (by rw [(rfl : T170.heap = T170.heap)]; exact (Nat.le_trans (Nat.le_refl _) z180)) X179 hS179 hg179 hZ156 hown156
      obtain ⟨rfl, Nq179, K179, Fk0_179, Fk1_179⟩ := hQ179
      have N179 := Fr.app N170 Nq179
      show own_Go p e below (T179.setTop (mkF m 168 #[.val (.int p1), .val (.int p2), .val (.int p3), .val (.int p4), .val (.ref b55), .val (.ref b60), .val (.ref b66), .val (.ref b72), .val (.ref b82), .val (.int (1 : Int32)), .val (.ref b149), .val (.ref b153), .unset, .unset] [(.ref b157)])) _
      refine own_go (fun _ k => XS.astore X179.here hx rfl (hb hby at_168) rfl rfl (l' := #[.val (.int p1), .val (.int p2), .val (.int p3), .val (.int p4), .val (.ref b55), .val (.ref b60), .val (.ref b66), .val (.ref b72), .val (.ref b82), .val (.int (1 : Int32)), .val (.ref b149), .val (.ref b153), .val (.ref b157), .unset]) rfl k) ?_
      show own_Go p e below (T179.setTop (mkF m 170 #[.val (.int p1), .val (.int p2), .val (.int p3), .val (.int p4), .val (.ref b55), .val (.ref b60), .val (.ref b66), .val (.ref b72), .val (.ref b82), .val (.int (1 : Int32)), .val (.ref b149), .val (.ref b153), .val (.ref b157), .unset] [])) _
      refine own_go (fun _ k => XS.aload X179.here hx rfl (hb hby at_170) rfl rfl k) ?_
      show own_Go p e below (T179.setTop (mkF m 172 #[.val (.int p1), .val (.int p2), .val (.int p3), .val (.int p4), .val (.ref b55), .val (.ref b60), .val (.ref b66), .val (.ref b72), .val (.ref b82), .val (.int (1 : Int32)), .val (.ref b149), .val (.ref b153), .val (.ref b157), .unset] [(.ref b157)])) _
      have f181 := (f178.keep K179 (allS (Nat.le_trans Z0 (Nat.le_trans z177 (Nat.le_of_eq g157.symm))) all0))
      obtain ⟨cq182, kq182, q182a, q182b, q182c⟩ := isOf hZ179 (rfl : T179.heap = T179.heap) (f171.keep K179)
      obtain ⟨v182, _, ⟨T182, L182, k182, n182⟩, -, X182, ⟨Lc182, hQ182, l182, y182, z182⟩, st182⟩ := X179.virtualBack hx (y := (⟨"com/example/rederive/rederive/Constraint$ClosureCall", "variables", "()Ljava/util/List;"⟩ : MethodName)) (z := (⟨"com/example/rederive/rederive/Constraint$ClosureCall", "variables", "()Ljava/util/List;"⟩ : MethodName)) hown179 (mvT hZ179 (hw _ (List.mem_of_getElem? (i := 70) rfl))) (mvT hZ179 (hw _ (List.mem_of_getElem? (i := 71) rfl))) (notFace_of_selects (args := #[]) (mvT hZ179 (hw _ (List.mem_of_getElem? (i := 73) rfl)))) (mvT hZ179 (hw _ (List.mem_of_getElem? (i := 73) rfl))) (mvT hZ179 (hw _ (List.mem_of_getElem? (i := 72) rfl))) (by decide) (backOf (W := 0) (rm_vars l Z a0 hw [] b157 b149 b153 T179.heap n0 f181 (f171.keep K179) Fk0_179 Fk1_179) hZ179 (hw _ (List.mem_of_getElem? (i := 74) rfl)) (hw _ (List.mem_of_getElem? (i := 53) rfl)) (by decide) (by decide)) q182a q182c (g := (mkF m 172 #[.val (.int p1), .val (.int p2), .val (.int p3), .val (.int p4), .val (.ref b55), .val (.ref b60), .val (.ref b66), .val (.ref b72), .val (.ref b82), .val (.int (1 : Int32)), .val (.ref b149), .val (.ref b153), .val (.ref b157), .unset] [(.ref b157)])) rfl (by rw [hml]; rfl) (Steps.refl _) (argsL := []) (rest := []) (lenOf pd_8 rfl) rfl (by show 2 * 0 + _ ≤ _; exact Nat.le_of_eq rfl) (hb hby at_172) (fun _ _ => ⟨rfl, (rfl : T179.heap = T179.heap), (by decide : 22 + 1 ≤ _), (by decide : 134 + 2 ≤ _)⟩)
      dsimp only [Pt.U, Pt.locs, Pt.cells, Pt.slots] at X182 l182 y182 z182 st182 hQ182
      subst l182 y182 z182
      refine own_gos st182 ?_
      obtain ⟨x182, rfl, Nq182, K182, xg182, Ex182, F0182, F1182⟩ := hQ182
      have N182 := Fr.app N179 Nq182
      show own_Go p e below (T182.setTop (mkF m 175 #[.val (.int p1), .val (.int p2), .val (.int p3), .val (.int p4), .val (.ref b55), .val (.ref b60), .val (.ref b66), .val (.ref b72), .val (.ref b82), .val (.int (1 : Int32)), .val (.ref b149), .val (.ref b153), .val (.ref b157), .unset] [(.ref x182)])) _
      refine own_go (fun _ k => XS.astore X182.here hx rfl (hb hby at_175) rfl rfl (l' := #[.val (.int p1), .val (.int p2), .val (.int p3), .val (.int p4), .val (.ref b55), .val (.ref b60), .val (.ref b66), .val (.ref b72), .val (.ref b82), .val (.int (1 : Int32)), .val (.ref b149), .val (.ref b153), .val (.ref b157), .val (.ref x182)]) rfl k) ?_
      show own_Go p e below (T182.setTop (mkF m 177 #[.val (.int p1), .val (.int p2), .val (.int p3), .val (.int p4), .val (.ref b55), .val (.ref b60), .val (.ref b66), .val (.ref b72), .val (.ref b82), .val (.int (1 : Int32)), .val (.ref b149), .val (.ref b153), .val (.ref b157), .val (.ref x182)] [])) _
      refine own_go (fun _ k => XS.aload X182.here hx rfl (hb hby at_177) rfl rfl k) ?_
      show own_Go p e below (T182.setTop (mkF m 179 #[.val (.int p1), .val (.int p2), .val (.int p3), .val (.int p4), .val (.ref b55), .val (.ref b60), .val (.ref b66), .val (.ref b72), .val (.ref b82), .val (.int (1 : Int32)), .val (.ref b149), .val (.ref b153), .val (.ref b157), .val (.ref x182)] [(.ref x182)])) _
      obtain ⟨cq183, kq183, q183a, q183b, q183c⟩ := isOf hZ179 (rfl : T182.heap = T182.heap) Ex182
      obtain ⟨v183, _, ⟨T183, L183, k183, n183⟩, -, X183, ⟨Lc183, hQ183, l183, y183, z183⟩, st183⟩ := X182.interfaceBack hx (xi := (⟨"java/util/List", "size", "()I"⟩ : MethodName)) (y := (⟨"java/util/ImmutableCollections$List12", "size", "()I"⟩ : MethodName)) hown179 (mvT hZ179 (hw _ (List.mem_of_getElem? (i := 112) rfl))) (mvT hZ179 (hw _ (List.mem_of_getElem? (i := 113) rfl))) (mvT hZ179 (hw _ (List.mem_of_getElem? (i := 114) rfl))) (mvT hZ179 (hw _ (List.mem_of_getElem? (i := 115) rfl))) (mvT hZ179 (hw _ (List.mem_of_getElem? (i := 116) rfl))) (mvT hZ179 (hw _ (List.mem_of_getElem? (i := 117) rfl))) (mvT hZ179 (hw _ (List.mem_of_getElem? (i := 118) rfl))) (mvT hZ179 (hw _ (List.mem_of_getElem? (i := 119) rfl))) (by decide) (backOf (W := 0) (rm_lsize l Z a0 hw [] x182 b149 b153 zE T182.heap n0 (f181.keep K182 all0) Ex182 F0182 F1182 OE (Ne.symm ((f181.keep K182 all0).ne hzE (Nat.le_trans Z0 (Nat.le_trans z154 (Nat.le_of_eq g153.symm)))))) hZ179 (hw _ (List.mem_of_getElem? (i := 120) rfl)) (hw _ (List.mem_of_getElem? (i := 81) rfl)) (by decide) (by decide)) q183a q183b q183c (g := (mkF m 179 #[.val (.int p1), .val (.int p2), .val (.int p3), .val (.int p4), .val (.ref b55), .val (.ref b60), .val (.ref b66), .val (.ref b72), .val (.ref b82), .val (.int (1 : Int32)), .val (.ref b149), .val (.ref b153), .val (.ref b157), .val (.ref x182)] [(.ref x182)])) rfl (by rw [hml]; rfl) (Steps.refl _) (argsL := []) (rest := []) (lenOf pd_9 rfl) rfl (by show 2 * 0 + _ ≤ _; exact Nat.le_of_eq rfl) (hb hby at_179) (fun _ _ => ⟨rfl, (rfl : T182.heap = T182.heap), (by decide : 23 + 0 ≤ _), (by decide : 136 + 0 ≤ _)⟩)
      dsimp only [Pt.U, Pt.locs, Pt.cells, Pt.slots] at X183 l183 y183 z183 st183 hQ183
      subst l183 y183 z183
      refine own_gos st183 ?_
      obtain ⟨rfl, Nq183, e183⟩ := hQ183
      have N183 := Fr.app N182 Nq183
      show own_Go p e below (T183.setTop (mkF m 184 #[.val (.int p1), .val (.int p2), .val (.int p3), .val (.int p4), .val (.ref b55), .val (.ref b60), .val (.ref b66), .val (.ref b72), .val (.ref b82), .val (.int (1 : Int32)), .val (.ref b149), .val (.ref b153), .val (.ref b157), .val (.ref x182)] [(.int (2 : Int32))])) _
      refine own_go (fun _ k => XS.iconst X183.here hx rfl (hb hby at_184) k) ?_
      show own_Go p e below (T183.setTop (mkF m 185 #[.val (.int p1), .val (.int p2), .val (.int p3), .val (.int p4), .val (.ref b55), .val (.ref b60), .val (.ref b66), .val (.ref b72), .val (.ref b82), .val (.int (1 : Int32)), .val (.ref b149), .val (.ref b153), .val (.ref b157), .val (.ref x182)] [(.int (2 : Int32)), (.int (2 : Int32))])) _
      refine own_go (fun _ k => XS.icmpYes X183.here hx rfl (pc0 := 185) (pc' := 190) rfl (hb hby at_185) rfl (teq (by decide : (2 : Int32) = (2 : Int32))).1 (by decide) (by decide) k) ?_
      show own_Go p e below (T183.setTop (mkF m 190 #[.val (.int p1), .val (.int p2), .val (.int p3), .val (.int p4), .val (.ref b55), .val (.ref b60), .val (.ref b66), .val (.ref b72), .val (.ref b82), .val (.int (1 : Int32)), .val (.ref b149), .val (.ref b153), .val (.ref b157), .val (.ref x182)] [])) _
      refine own_go (fun _ k => XS.aload X183.here hx rfl (hb hby at_190) rfl rfl k) ?_
      show own_Go p e below (T183.setTop (mkF m 192 #[.val (.int p1), .val (.int p2), .val (.int p3), .val (.int p4), .val (.ref b55), .val (.ref b60), .val (.ref b66), .val (.ref b72), .val (.ref b82), .val (.int (1 : Int32)), .val (.ref b149), .val (.ref b153), .val (.ref b157), .val (.ref x182)] [(.ref x182)])) _
      refine own_go (fun _ k => XS.iconst X183.here hx rfl (hb hby at_192) k) ?_
      show own_Go p e below (T183.setTop (mkF m 193 #[.val (.int p1), .val (.int p2), .val (.int p3), .val (.int p4), .val (.ref b55), .val (.ref b60), .val (.ref b66), .val (.ref b72), .val (.ref b82), .val (.int (1 : Int32)), .val (.ref b149), .val (.ref b153), .val (.ref b157), .val (.ref x182)] [(.int (0 : Int32)), (.ref x182)])) _
      obtain ⟨cq184, kq184, q184a, q184b, q184c⟩ := isOf hZ179 e183 Ex182
      obtain ⟨v184, _, ⟨T184, L184, k184, n184⟩, -, X184, ⟨Lc184, hQ184, l184, y184, z184⟩, st184⟩ := X183.interfaceBack hx (xi := (⟨"java/util/List", "get", "(I)Ljava/lang/Object;"⟩ : MethodName)) (y := (⟨"java/util/ImmutableCollections$List12", "get", "(I)Ljava/lang/Object;"⟩ : MethodName)) hown179 (mvT hZ179 (hw _ (List.mem_of_getElem? (i := 123) rfl))) (mvT hZ179 (hw _ (List.mem_of_getElem? (i := 124) rfl))) (mvT hZ179 (hw _ (List.mem_of_getElem? (i := 125) rfl))) (mvT hZ179 (hw _ (List.mem_of_getElem? (i := 126) rfl))) (mvT hZ179 (hw _ (List.mem_of_getElem? (i := 127) rfl))) (mvT hZ179 (hw _ (List.mem_of_getElem? (i := 128) rfl))) (mvT hZ179 (hw _ (List.mem_of_getElem? (i := 129) rfl))) (mvT hZ179 (hw _ (List.mem_of_getElem? (i := 119) rfl))) (by decide) (backOf (W := 0) (rm_lget0 l Z a0 hw [] x182 b149 b153 zE T182.heap n0 (f181.keep K182 all0) Ex182 F0182 F1182 OE (Ne.symm ((f181.keep K182 all0).ne hzE (Nat.le_trans Z0 (Nat.le_trans z154 (Nat.le_of_eq g153.symm)))))) hZ179 (hw _ (List.mem_of_getElem? (i := 130) rfl)) (hw _ (List.mem_of_getElem? (i := 81) rfl)) (by decide) (by decide)) q184a q184b q184c (g := (mkF m 193 #[.val (.int p1), .val (.int p2), .val (.int p3), .val (.int p4), .val (.ref b55), .val (.ref b60), .val (.ref b66), .val (.ref b72), .val (.ref b82), .val (.int (1 : Int32)), .val (.ref b149), .val (.ref b153), .val (.ref b157), .val (.ref x182)] [(.int (0 : Int32)), (.ref x182)])) rfl (by rw [hml]; rfl) (Steps.refl _) (argsL := [(.int (0 : Int32))]) (rest := []) (lenOf pd_10 rfl) rfl (by show 2 * 0 + _ ≤ _; exact Nat.le_of_eq rfl) (hb hby at_193) (fun _ _ => ⟨rfl, e183, (by decide : 23 + 0 ≤ _), (by decide : 136 + 0 ≤ _)⟩)
      dsimp only [Pt.U, Pt.locs, Pt.cells, Pt.slots] at X184 l184 y184 z184 st184 hQ184
      subst l184 y184 z184
      refine own_gos st184 ?_
      obtain ⟨rfl, Nq184, e184⟩ := hQ184
      have N184 := Fr.app N183 Nq184
      show own_Go p e below (T184.setTop (mkF m 198 #[.val (.int p1), .val (.int p2), .val (.int p3), .val (.int p4), .val (.ref b55), .val (.ref b60), .val (.ref b66), .val (.ref b72), .val (.ref b82), .val (.int (1 : Int32)), .val (.ref b149), .val (.ref b153), .val (.ref b157), .val (.ref x182)] [(.ref b149)])) _
      have f185 := ((((((((A149.keep K152).ext E153).keep K156).ext E157).ext E158).keep K170).keep K179).keep K182)
      obtain ⟨T186, X186, e186, st186⟩ := castY X184 hx hZ179 hown179 (hw _ (List.mem_of_getElem? (i := 30) rfl)) e184 (Ins.self f185) (g := (mkF m 198 #[.val (.int p1), .val (.int p2), .val (.int p3), .val (.int p4), .val (.ref b55), .val (.ref b60), .val (.ref b66), .val (.ref b72), .val (.ref b82), .val (.int (1 : Int32)), .val (.ref b149), .val (.ref b153), .val (.ref b157), .val (.ref x182)] [(.ref b149)])) rfl rfl (hb hby at_198)
      refine own_go st186 ?_
      show own_Go p e below (T186.setTop (mkF m 201 #[.val (.int p1), .val (.int p2), .val (.int p3), .val (.int p4), .val (.ref b55), .val (.ref b60), .val (.ref b66), .val (.ref b72), .val (.ref b82), .val (.int (1 : Int32)), .val (.ref b149), .val (.ref b153), .val (.ref b157), .val (.ref x182)] [(.ref b149)])) _
      have ne187 : b149 ≠ b153 := Nat.ne_of_lt (Nat.lt_of_lt_of_le (Nat.lt_of_lt_of_le A149.lt K152.1) (Nat.le_of_eq g153.symm))
      have z189 := (Nat.le_trans (Nat.le_trans (Nat.le_trans K152.1 E153.1) K156.1) E157.1)
      have ne188 : b149 ≠ b158 := Nat.ne_of_lt (Nat.lt_of_lt_of_le (Nat.lt_of_lt_of_le A149.lt z189) (Nat.le_of_eq g158.symm))
      have z191 := (Nat.le_trans (Nat.le_trans K152.1 E153.1) K156.1)
      have ne190 : b149 ≠ b157 := Nat.ne_of_lt (Nat.lt_of_lt_of_le (Nat.lt_of_lt_of_le A149.lt z191) (Nat.le_of_eq g157.symm))
      have f192 := (((((((Fk0_152.ext E153).keep K156 (ninS ne187 nin0)).ext E157).ext E158).keep K170 (ninS ne188 nin0)).keep K179 (ninS ne190 nin0)).keep K182 nin0)
      obtain ⟨cq193, kq193, q193a, q193b, q193c⟩ := isOf hZ179 e186 f185
      obtain ⟨v193, _, ⟨T193, L193, k193, n193⟩, -, X193, ⟨Lc193, hQ193, l193, y193, z193⟩, st193⟩ := X186.virtualBack hx (y := (⟨"com/example/rederive/rederive/Variable", "name", "()Ljava/lang/String;"⟩ : MethodName)) (z := (⟨"com/example/rederive/rederive/Variable", "name", "()Ljava/lang/String;"⟩ : MethodName)) hown179 (mvT hZ179 (hw _ (List.mem_of_getElem? (i := 132) rfl))) (mvT hZ179 (hw _ (List.mem_of_getElem? (i := 133) rfl))) (notFace_of_selects (args := #[]) (mvT hZ179 (hw _ (List.mem_of_getElem? (i := 135) rfl)))) (mvT hZ179 (hw _ (List.mem_of_getElem? (i := 135) rfl))) (mvT hZ179 (hw _ (List.mem_of_getElem? (i := 134) rfl))) (by decide) (backOf (W := 0) (rm_name l Z a0 hw [] b149 b72 T182.heap n0 (f181.keep K182 all0) f185 f192) hZ179 (hw _ (List.mem_of_getElem? (i := 136) rfl)) (hw _ (List.mem_of_getElem? (i := 32) rfl)) (by decide) (by decide)) q193a q193c (g := (mkF m 201 #[.val (.int p1), .val (.int p2), .val (.int p3), .val (.int p4), .val (.ref b55), .val (.ref b60), .val (.ref b66), .val (.ref b72), .val (.ref b82), .val (.int (1 : Int32)), .val (.ref b149), .val (.ref b153), .val (.ref b157), .val (.ref x182)] [(.ref b149)])) rfl (by rw [hml]; rfl) (Steps.refl _) (argsL := []) (rest := []) (lenOf pd_11 rfl) rfl (by show 2 * 0 + _ ≤ _; exact Nat.le_of_eq rfl) (hb hby at_201) (fun _ _ => ⟨rfl, e186, (by decide : 23 + 0 ≤ _), (by decide : 136 + 0 ≤ _)⟩)
      dsimp only [Pt.U, Pt.locs, Pt.cells, Pt.slots] at X193 l193 y193 z193 st193 hQ193
      subst l193 y193 z193
      refine own_gos st193 ?_
      obtain ⟨rfl, Nq193, e193⟩ := hQ193
      have N193 := Fr.app N184 Nq193
      show own_Go p e below (T193.setTop (mkF m 204 #[.val (.int p1), .val (.int p2), .val (.int p3), .val (.int p4), .val (.ref b55), .val (.ref b60), .val (.ref b66), .val (.ref b72), .val (.ref b82), .val (.int (1 : Int32)), .val (.ref b149), .val (.ref b153), .val (.ref b157), .val (.ref x182)] [(.ref b72)])) _
      refine own_go (fun _ k => XS.aload X193.here hx rfl (hb hby at_204) rfl rfl k) ?_
      show own_Go p e below (T193.setTop (mkF m 206 #[.val (.int p1), .val (.int p2), .val (.int p3), .val (.int p4), .val (.ref b55), .val (.ref b60), .val (.ref b66), .val (.ref b72), .val (.ref b82), .val (.int (1 : Int32)), .val (.ref b149), .val (.ref b153), .val (.ref b157), .val (.ref x182)] [(.ref b72), (.ref b72)])) _
      have f195 := (((((((((((Eq80.ext E82).keep K90).ext E149).keep K152).ext E153).keep K156).ext E157).ext E158).keep K170).keep K179).keep K182)
      obtain ⟨cq194, kq194, q194a, q194b, q194c⟩ := isOf hZ179 e193 f195
      obtain ⟨v194, _, ⟨T194, L194, k194, n194⟩, -, X194, ⟨Lc194, hQ194, l194, y194, z194⟩, st194⟩ := X193.virtualBack hx (y := (⟨"java/lang/String", "equals", "(Ljava/lang/Object;)Z"⟩ : MethodName)) (z := (⟨"java/lang/String", "equals", "(Ljava/lang/Object;)Z"⟩ : MethodName)) hown179 (mvT hZ179 (hw _ (List.mem_of_getElem? (i := 137) rfl))) (mvT hZ179 (hw _ (List.mem_of_getElem? (i := 138) rfl))) (notFace_of_selects (args := #[]) (mvT hZ179 (hw _ (List.mem_of_getElem? (i := 140) rfl)))) (mvT hZ179 (hw _ (List.mem_of_getElem? (i := 140) rfl))) (mvT hZ179 (hw _ (List.mem_of_getElem? (i := 139) rfl))) (by decide) (backOf (W := 0) (rm_eq l Z a0 hw [] b72 T182.heap n0 (f181.keep K182 all0) ) hZ179 (hw _ (List.mem_of_getElem? (i := 141) rfl)) (hw _ (List.mem_of_getElem? (i := 3) rfl)) (by decide) (by decide)) q194a q194c (g := (mkF m 206 #[.val (.int p1), .val (.int p2), .val (.int p3), .val (.int p4), .val (.ref b55), .val (.ref b60), .val (.ref b66), .val (.ref b72), .val (.ref b82), .val (.int (1 : Int32)), .val (.ref b149), .val (.ref b153), .val (.ref b157), .val (.ref x182)] [(.ref b72), (.ref b72)])) rfl (by rw [hml]; rfl) (Steps.refl _) (argsL := [(.ref b72)]) (rest := []) (lenOf pd_12 rfl) rfl (by show 2 * 0 + _ ≤ _; exact Nat.le_of_eq rfl) (hb hby at_206) (fun _ _ => ⟨rfl, e193, (by decide : 23 + 0 ≤ _), (by decide : 136 + 0 ≤ _)⟩)
      dsimp only [Pt.U, Pt.locs, Pt.cells, Pt.slots] at X194 l194 y194 z194 st194 hQ194
      subst l194 y194 z194
      refine own_gos st194 ?_
      obtain ⟨rfl, Nq194, e194⟩ := hQ194
      have N194 := Fr.app N193 Nq194
      show own_Go p e below (T194.setTop (mkF m 209 #[.val (.int p1), .val (.int p2), .val (.int p3), .val (.int p4), .val (.ref b55), .val (.ref b60), .val (.ref b66), .val (.ref b72), .val (.ref b82), .val (.int (1 : Int32)), .val (.ref b149), .val (.ref b153), .val (.ref b157), .val (.ref x182)] [(.int (1 : Int32))])) _
      refine own_go (fun _ k => XS.ifNo X194.here hx rfl (hb hby at_209) rfl ((if0 _ _).trans (feq (by decide : ¬ ((1 : Int32) = (0 : Int32)))).1) k) ?_
      show own_Go p e below (T194.setTop (mkF m 212 #[.val (.int p1), .val (.int p2), .val (.int p3), .val (.int p4), .val (.ref b55), .val (.ref b60), .val (.ref b66), .val (.ref b72), .val (.ref b82), .val (.int (1 : Int32)), .val (.ref b149), .val (.ref b153), .val (.ref b157), .val (.ref x182)] [])) _
      refine own_go (fun _ k => XS.aload X194.here hx rfl (hb hby at_212) rfl rfl k) ?_
      show own_Go p e below (T194.setTop (mkF m 214 #[.val (.int p1), .val (.int p2), .val (.int p3), .val (.int p4), .val (.ref b55), .val (.ref b60), .val (.ref b66), .val (.ref b72), .val (.ref b82), .val (.int (1 : Int32)), .val (.ref b149), .val (.ref b153), .val (.ref b157), .val (.ref x182)] [(.ref x182)])) _
      refine own_go (fun _ k => XS.iconst X194.here hx rfl (hb hby at_214) k) ?_
      show own_Go p e below (T194.setTop (mkF m 215 #[.val (.int p1), .val (.int p2), .val (.int p3), .val (.int p4), .val (.ref b55), .val (.ref b60), .val (.ref b66), .val (.ref b72), .val (.ref b82), .val (.int (1 : Int32)), .val (.ref b149), .val (.ref b153), .val (.ref b157), .val (.ref x182)] [(.int (1 : Int32)), (.ref x182)])) _
      obtain ⟨cq196, kq196, q196a, q196b, q196c⟩ := isOf hZ179 e194 Ex182
      obtain ⟨v196, _, ⟨T196, L196, k196, n196⟩, -, X196, ⟨Lc196, hQ196, l196, y196, z196⟩, st196⟩ := X194.interfaceBack hx (xi := (⟨"java/util/List", "get", "(I)Ljava/lang/Object;"⟩ : MethodName)) (y := (⟨"java/util/ImmutableCollections$List12", "get", "(I)Ljava/lang/Object;"⟩ : MethodName)) hown179 (mvT hZ179 (hw _ (List.mem_of_getElem? (i := 123) rfl))) (mvT hZ179 (hw _ (List.mem_of_getElem? (i := 124) rfl))) (mvT hZ179 (hw _ (List.mem_of_getElem? (i := 125) rfl))) (mvT hZ179 (hw _ (List.mem_of_getElem? (i := 126) rfl))) (mvT hZ179 (hw _ (List.mem_of_getElem? (i := 127) rfl))) (mvT hZ179 (hw _ (List.mem_of_getElem? (i := 128) rfl))) (mvT hZ179 (hw _ (List.mem_of_getElem? (i := 129) rfl))) (mvT hZ179 (hw _ (List.mem_of_getElem? (i := 119) rfl))) (by decide) (backOf (W := 0) (rm_lget1 l Z a0 hw [] x182 b149 b153 zE T182.heap n0 (f181.keep K182 all0) Ex182 F0182 F1182 OE (Ne.symm ((f181.keep K182 all0).ne hzE (Nat.le_trans Z0 (Nat.le_trans z154 (Nat.le_of_eq g153.symm)))))) hZ179 (hw _ (List.mem_of_getElem? (i := 130) rfl)) (hw _ (List.mem_of_getElem? (i := 81) rfl)) (by decide) (by decide)) q196a q196b q196c (g := (mkF m 215 #[.val (.int p1), .val (.int p2), .val (.int p3), .val (.int p4), .val (.ref b55), .val (.ref b60), .val (.ref b66), .val (.ref b72), .val (.ref b82), .val (.int (1 : Int32)), .val (.ref b149), .val (.ref b153), .val (.ref b157), .val (.ref x182)] [(.int (1 : Int32)), (.ref x182)])) rfl (by rw [hml]; rfl) (Steps.refl _) (argsL := [(.int (1 : Int32))]) (rest := []) (lenOf pd_10 rfl) rfl (by show 2 * 0 + _ ≤ _; exact Nat.le_of_eq rfl) (hb hby at_215) (fun _ _ => ⟨rfl, e194, (by decide : 23 + 0 ≤ _), (by decide : 136 + 0 ≤ _)⟩)
      dsimp only [Pt.U, Pt.locs, Pt.cells, Pt.slots] at X196 l196 y196 z196 st196 hQ196
      subst l196 y196 z196
      refine own_gos st196 ?_
      obtain ⟨rfl, Nq196, e196⟩ := hQ196
      have N196 := Fr.app N194 Nq196
      show own_Go p e below (T196.setTop (mkF m 220 #[.val (.int p1), .val (.int p2), .val (.int p3), .val (.int p4), .val (.ref b55), .val (.ref b60), .val (.ref b66), .val (.ref b72), .val (.ref b82), .val (.int (1 : Int32)), .val (.ref b149), .val (.ref b153), .val (.ref b157), .val (.ref x182)] [(.ref b153)])) _
      have f197 := ((((((A153.keep K156).ext E157).ext E158).keep K170).keep K179).keep K182)
      obtain ⟨T198, X198, e198, st198⟩ := castY X196 hx hZ179 hown179 (hw _ (List.mem_of_getElem? (i := 30) rfl)) e196 (Ins.self f197) (g := (mkF m 220 #[.val (.int p1), .val (.int p2), .val (.int p3), .val (.int p4), .val (.ref b55), .val (.ref b60), .val (.ref b66), .val (.ref b72), .val (.ref b82), .val (.int (1 : Int32)), .val (.ref b149), .val (.ref b153), .val (.ref b157), .val (.ref x182)] [(.ref b153)])) rfl rfl (hb hby at_220)
      refine own_go st198 ?_
      show own_Go p e below (T198.setTop (mkF m 223 #[.val (.int p1), .val (.int p2), .val (.int p3), .val (.int p4), .val (.ref b55), .val (.ref b60), .val (.ref b66), .val (.ref b72), .val (.ref b82), .val (.int (1 : Int32)), .val (.ref b149), .val (.ref b153), .val (.ref b157), .val (.ref x182)] [(.ref b153)])) _
      have ne199 : b153 ≠ b158 := Nat.ne_of_lt (Nat.lt_of_lt_of_le (Nat.lt_of_lt_of_le A153.lt (Nat.le_trans K156.1 E157.1)) (Nat.le_of_eq g158.symm))
      have ne200 : b153 ≠ b157 := Nat.ne_of_lt (Nat.lt_of_lt_of_le (Nat.lt_of_lt_of_le A153.lt K156.1) (Nat.le_of_eq g157.symm))
      have f201 := (((((Fk0_156.ext E157).ext E158).keep K170 (ninS ne199 nin0)).keep K179 (ninS ne200 nin0)).keep K182 nin0)
      obtain ⟨cq202, kq202, q202a, q202b, q202c⟩ := isOf hZ179 e198 f197
      obtain ⟨v202, _, ⟨T202, L202, k202, n202⟩, -, X202, ⟨Lc202, hQ202, l202, y202, z202⟩, st202⟩ := X198.virtualBack hx (y := (⟨"com/example/rederive/rederive/Variable", "name", "()Ljava/lang/String;"⟩ : MethodName)) (z := (⟨"com/example/rederive/rederive/Variable", "name", "()Ljava/lang/String;"⟩ : MethodName)) hown179 (mvT hZ179 (hw _ (List.mem_of_getElem? (i := 132) rfl))) (mvT hZ179 (hw _ (List.mem_of_getElem? (i := 133) rfl))) (notFace_of_selects (args := #[]) (mvT hZ179 (hw _ (List.mem_of_getElem? (i := 135) rfl)))) (mvT hZ179 (hw _ (List.mem_of_getElem? (i := 135) rfl))) (mvT hZ179 (hw _ (List.mem_of_getElem? (i := 134) rfl))) (by decide) (backOf (W := 0) (rm_name l Z a0 hw [] b153 b82 T182.heap n0 (f181.keep K182 all0) f197 f201) hZ179 (hw _ (List.mem_of_getElem? (i := 136) rfl)) (hw _ (List.mem_of_getElem? (i := 32) rfl)) (by decide) (by decide)) q202a q202c (g := (mkF m 223 #[.val (.int p1), .val (.int p2), .val (.int p3), .val (.int p4), .val (.ref b55), .val (.ref b60), .val (.ref b66), .val (.ref b72), .val (.ref b82), .val (.int (1 : Int32)), .val (.ref b149), .val (.ref b153), .val (.ref b157), .val (.ref x182)] [(.ref b153)])) rfl (by rw [hml]; rfl) (Steps.refl _) (argsL := []) (rest := []) (lenOf pd_11 rfl) rfl (by show 2 * 0 + _ ≤ _; exact Nat.le_of_eq rfl) (hb hby at_223) (fun _ _ => ⟨rfl, e198, (by decide : 23 + 0 ≤ _), (by decide : 136 + 0 ≤ _)⟩)
      dsimp only [Pt.U, Pt.locs, Pt.cells, Pt.slots] at X202 l202 y202 z202 st202 hQ202
      subst l202 y202 z202
      refine own_gos st202 ?_
      obtain ⟨rfl, Nq202, e202⟩ := hQ202
      have N202 := Fr.app N196 Nq202
      show own_Go p e below (T202.setTop (mkF m 226 #[.val (.int p1), .val (.int p2), .val (.int p3), .val (.int p4), .val (.ref b55), .val (.ref b60), .val (.ref b66), .val (.ref b72), .val (.ref b82), .val (.int (1 : Int32)), .val (.ref b149), .val (.ref b153), .val (.ref b157), .val (.ref x182)] [(.ref b82)])) _
      refine own_go (fun _ k => XS.aload X202.here hx rfl (hb hby at_226) rfl rfl k) ?_
      show own_Go p e below (T202.setTop (mkF m 228 #[.val (.int p1), .val (.int p2), .val (.int p3), .val (.int p4), .val (.ref b55), .val (.ref b60), .val (.ref b66), .val (.ref b72), .val (.ref b82), .val (.int (1 : Int32)), .val (.ref b149), .val (.ref b153), .val (.ref b157), .val (.ref x182)] [(.ref b82), (.ref b82)])) _
      have f204 := (((((((((Eq90.ext E149).keep K152).ext E153).keep K156).ext E157).ext E158).keep K170).keep K179).keep K182)
      obtain ⟨cq203, kq203, q203a, q203b, q203c⟩ := isOf hZ179 e202 f204
      obtain ⟨v203, _, ⟨T203, L203, k203, n203⟩, -, X203, ⟨Lc203, hQ203, l203, y203, z203⟩, st203⟩ := X202.virtualBack hx (y := (⟨"java/lang/String", "equals", "(Ljava/lang/Object;)Z"⟩ : MethodName)) (z := (⟨"java/lang/String", "equals", "(Ljava/lang/Object;)Z"⟩ : MethodName)) hown179 (mvT hZ179 (hw _ (List.mem_of_getElem? (i := 137) rfl))) (mvT hZ179 (hw _ (List.mem_of_getElem? (i := 138) rfl))) (notFace_of_selects (args := #[]) (mvT hZ179 (hw _ (List.mem_of_getElem? (i := 140) rfl)))) (mvT hZ179 (hw _ (List.mem_of_getElem? (i := 140) rfl))) (mvT hZ179 (hw _ (List.mem_of_getElem? (i := 139) rfl))) (by decide) (backOf (W := 0) (rm_eq l Z a0 hw [] b82 T182.heap n0 (f181.keep K182 all0) ) hZ179 (hw _ (List.mem_of_getElem? (i := 141) rfl)) (hw _ (List.mem_of_getElem? (i := 3) rfl)) (by decide) (by decide)) q203a q203c (g := (mkF m 228 #[.val (.int p1), .val (.int p2), .val (.int p3), .val (.int p4), .val (.ref b55), .val (.ref b60), .val (.ref b66), .val (.ref b72), .val (.ref b82), .val (.int (1 : Int32)), .val (.ref b149), .val (.ref b153), .val (.ref b157), .val (.ref x182)] [(.ref b82), (.ref b82)])) rfl (by rw [hml]; rfl) (Steps.refl _) (argsL := [(.ref b82)]) (rest := []) (lenOf pd_12 rfl) rfl (by show 2 * 0 + _ ≤ _; exact Nat.le_of_eq rfl) (hb hby at_228) (fun _ _ => ⟨rfl, e202, (by decide : 23 + 0 ≤ _), (by decide : 136 + 0 ≤ _)⟩)
      dsimp only [Pt.U, Pt.locs, Pt.cells, Pt.slots] at X203 l203 y203 z203 st203 hQ203
      subst l203 y203 z203
      refine own_gos st203 ?_
      obtain ⟨rfl, Nq203, e203⟩ := hQ203
      have N203 := Fr.app N202 Nq203
      show own_Go p e below (T203.setTop (mkF m 231 #[.val (.int p1), .val (.int p2), .val (.int p3), .val (.int p4), .val (.ref b55), .val (.ref b60), .val (.ref b66), .val (.ref b72), .val (.ref b82), .val (.int (1 : Int32)), .val (.ref b149), .val (.ref b153), .val (.ref b157), .val (.ref x182)] [(.int (1 : Int32))])) _
      refine own_go (fun _ k => XS.ifNo X203.here hx rfl (hb hby at_231) rfl ((if0 _ _).trans (feq (by decide : ¬ ((1 : Int32) = (0 : Int32)))).1) k) ?_
      show own_Go p e below (T203.setTop (mkF m 234 #[.val (.int p1), .val (.int p2), .val (.int p3), .val (.int p4), .val (.ref b55), .val (.ref b60), .val (.ref b66), .val (.ref b72), .val (.ref b82), .val (.int (1 : Int32)), .val (.ref b149), .val (.ref b153), .val (.ref b157), .val (.ref x182)] [])) _
      refine own_go (fun _ k => XS.iconst X203.here hx rfl (hb hby at_234) k) ?_
      show own_Go p e below (T203.setTop (mkF m 235 #[.val (.int p1), .val (.int p2), .val (.int p3), .val (.int p4), .val (.ref b55), .val (.ref b60), .val (.ref b66), .val (.ref b72), .val (.ref b82), .val (.int (1 : Int32)), .val (.ref b149), .val (.ref b153), .val (.ref b157), .val (.ref x182)] [(.int (1 : Int32))])) _
      refine own_go (fun _ k => XS.goto X203.here hx rfl (pc0 := 235) (pc' := 239) rfl (hb hby at_235) (by decide) (by decide) k) ?_
      show own_Go p e below (T203.setTop (mkF m 239 #[.val (.int p1), .val (.int p2), .val (.int p3), .val (.int p4), .val (.ref b55), .val (.ref b60), .val (.ref b66), .val (.ref b72), .val (.ref b82), .val (.int (1 : Int32)), .val (.ref b149), .val (.ref b153), .val (.ref b157), .val (.ref x182)] [(.int (1 : Int32))])) _
      have z205 := (Nat.le_trans (Nat.le_trans (Nat.le_trans (Nat.le_trans z160 E158.1) K170.1) K179.1) K182.1)
      refine own_finW (v := (some (.int (nar .boolean (1 : Int32))))) X203 hh hZ179 hS179 (by rw [e203]; exact (Nat.le_trans (Nat.le_refl _) K182.1)) (fun h => by rw [hrt] at h; cases h) hlk (fun fs hr => retN X203 hx (t := .boolean) hrt (by simp) (hb hby at_239) hr) (QQ := QQ0 n0) ?_ own_hEL e203 (own_chr0 z205) (by decide) (by decide)
      rw [e203]
      exact ⟨rfl, N203⟩
  · skip
    refine own_go (fun _ k => XS.ifNo X80.here hx rfl (hb hby at_92) rfl ((if0 _ _).trans (feq hc81).1) k) ?_
    show own_Go p e below (T80.setTop (mkF m 95 #[.val (.int p1), .val (.int p2), .val (.int p3), .val (.int p4), .val (.ref b55), .val (.ref b60), .val (.ref b66), .val (.ref b72), .unset, .unset, .unset, .unset, .unset, .unset] [])) _
    refine own_go (fun _ k => XS.aload X80.here hx rfl (hb hby at_95) rfl rfl k) ?_
    show own_Go p e below (T80.setTop (mkF m 97 #[.val (.int p1), .val (.int p2), .val (.int p3), .val (.int p4), .val (.ref b55), .val (.ref b60), .val (.ref b66), .val (.ref b72), .unset, .unset, .unset, .unset, .unset, .unset] [(.ref b72)])) _
    refine own_go (fun _ k => XS.goto X80.here hx rfl (pc0 := 97) (pc' := 109) rfl (hb hby at_97) (by decide) (by decide) k) ?_
    show own_Go p e below (T80.setTop (mkF m 109 #[.val (.int p1), .val (.int p2), .val (.int p3), .val (.int p4), .val (.ref b55), .val (.ref b60), .val (.ref b66), .val (.ref b72), .unset, .unset, .unset, .unset, .unset, .unset] [(.ref b72)])) _
    refine own_go (fun _ k => XS.astore X80.here hx rfl (hb hby at_109) rfl rfl (l' := #[.val (.int p1), .val (.int p2), .val (.int p3), .val (.int p4), .val (.ref b55), .val (.ref b60), .val (.ref b66), .val (.ref b72), .val (.ref b72), .unset, .unset, .unset, .unset, .unset]) rfl k) ?_
    show own_Go p e below (T80.setTop (mkF m 111 #[.val (.int p1), .val (.int p2), .val (.int p3), .val (.int p4), .val (.ref b55), .val (.ref b60), .val (.ref b66), .val (.ref b72), .val (.ref b72), .unset, .unset, .unset, .unset, .unset] [])) _
    refine own_go (fun _ k => XS.iloadN X80.here hx rfl (hb hby at_111) rfl k) ?_
    show own_Go p e below (T80.setTop (mkF m 112 #[.val (.int p1), .val (.int p2), .val (.int p3), .val (.int p4), .val (.ref b55), .val (.ref b60), .val (.ref b66), .val (.ref b72), .val (.ref b72), .unset, .unset, .unset, .unset, .unset] [(.int p4)])) _
    refine own_go (fun _ k => XS.iconst X80.here hx rfl (hb hby at_112) k) ?_
    show own_Go p e below (T80.setTop (mkF m 113 #[.val (.int p1), .val (.int p2), .val (.int p3), .val (.int p4), .val (.ref b55), .val (.ref b60), .val (.ref b66), .val (.ref b72), .val (.ref b72), .unset, .unset, .unset, .unset, .unset] [(.int (1 : Int32)), (.int p4)])) _
    refine own_go (fun _ k => XS.iand X80.here hx rfl (hb hby at_113) rfl k) ?_
    show own_Go p e below (T80.setTop (mkF m 114 #[.val (.int p1), .val (.int p2), .val (.int p3), .val (.int p4), .val (.ref b55), .val (.ref b60), .val (.ref b66), .val (.ref b72), .val (.ref b72), .unset, .unset, .unset, .unset, .unset] [(.int (p4 &&& (1 : Int32)))])) _
    by_cases hc206 : (p4 &&& (1 : Int32)) = (0 : Int32)
    · skip
      refine own_go (fun _ k => XS.ifYes X80.here hx rfl (pc0 := 114) (pc' := 121) rfl (hb hby at_114) rfl ((if0 _ _).trans (teq hc206).1) (by decide) (by decide) k) ?_
      show own_Go p e below (T80.setTop (mkF m 121 #[.val (.int p1), .val (.int p2), .val (.int p3), .val (.int p4), .val (.ref b55), .val (.ref b60), .val (.ref b66), .val (.ref b72), .val (.ref b72), .unset, .unset, .unset, .unset, .unset] [])) _
      refine own_go (fun _ k => XS.iconst X80.here hx rfl (hb hby at_121) k) ?_
      show own_Go p e below (T80.setTop (mkF m 122 #[.val (.int p1), .val (.int p2), .val (.int p3), .val (.int p4), .val (.ref b55), .val (.ref b60), .val (.ref b66), .val (.ref b72), .val (.ref b72), .unset, .unset, .unset, .unset, .unset] [(.int (0 : Int32))])) _
      refine own_go (fun _ k => XS.istore X80.here hx rfl (hb hby at_122) rfl (l' := #[.val (.int p1), .val (.int p2), .val (.int p3), .val (.int p4), .val (.ref b55), .val (.ref b60), .val (.ref b66), .val (.ref b72), .val (.ref b72), .val (.int (0 : Int32)), .unset, .unset, .unset, .unset]) rfl k) ?_
      show own_Go p e below (T80.setTop (mkF m 124 #[.val (.int p1), .val (.int p2), .val (.int p3), .val (.int p4), .val (.ref b55), .val (.ref b60), .val (.ref b66), .val (.ref b72), .val (.ref b72), .val (.int (0 : Int32)), .unset, .unset, .unset, .unset] [])) _
      obtain ⟨T207, h207, X207, e207, E207, A207, D207, U207, st207⟩ := newO X80 hx hZ hown (hw _ (List.mem_of_getElem? (i := 30) rfl)) (hw _ (List.mem_of_getElem? (i := 31) rfl)) (hw _ (List.mem_of_getElem? (i := 32) rfl)) (rfl : T80.heap = T80.heap) (g := (mkF m 124 #[.val (.int p1), .val (.int p2), .val (.int p3), .val (.int p4), .val (.ref b55), .val (.ref b60), .val (.ref b66), .val (.ref b72), .val (.ref b72), .val (.int (0 : Int32)), .unset, .unset, .unset, .unset] [])) rfl (hb hby at_124) (by decide) (by decide)
      obtain ⟨b207, g207⟩ : ∃ z, z = T80.heap.size := ⟨_, rfl⟩
      rw [← g207] at A207 D207 U207 st207
      refine own_go st207 ?_
      have F207_name : Fld Z h207 b207 "com/example/rederive/rederive/Variable" "name" "Ljava/lang/String;" .null := D207 (Or.inr (hw _ (List.mem_of_getElem? (i := 50) rfl))) (ty := (.object "java/lang/String")) (by decide)
      show own_Go p e below (T207.setTop (mkF m 127 #[.val (.int p1), .val (.int p2), .val (.int p3), .val (.int p4), .val (.ref b55), .val (.ref b60), .val (.ref b66), .val (.ref b72), .val (.ref b72), .val (.int (0 : Int32)), .unset, .unset, .unset, .unset] [(.ref b207)])) _
      refine own_go (fun _ k => XS.dup X207.here hx rfl (hb hby at_127) rfl rfl k) ?_
      show own_Go p e below (T207.setTop (mkF m 128 #[.val (.int p1), .val (.int p2), .val (.int p3), .val (.int p4), .val (.ref b55), .val (.ref b60), .val (.ref b66), .val (.ref b72), .val (.ref b72), .val (.int (0 : Int32)), .unset, .unset, .unset, .unset] [(.ref b207), (.ref b207)])) _
      refine own_go (fun _ k => XS.aload X207.here hx rfl (hb hby at_128) rfl rfl k) ?_
      show own_Go p e below (T207.setTop (mkF m 130 #[.val (.int p1), .val (.int p2), .val (.int p3), .val (.int p4), .val (.ref b55), .val (.ref b60), .val (.ref b66), .val (.ref b72), .val (.ref b72), .val (.int (0 : Int32)), .unset, .unset, .unset, .unset] [(.ref b72), (.ref b207), (.ref b207)])) _
      have z208 := (Nat.le_trans (Nat.le_trans z74 E72.1) K80.1)
      have f209 := ((f73.keep K80 (allS (Nat.le_trans Z0 (Nat.le_trans z74 (Nat.le_of_eq g72.symm))) all0)).ext E207)
      obtain ⟨v210, _, ⟨T210, L210, k210, n210⟩, -, X210, hS210, hg210, ⟨Lc210, hQ210, l210, y210, z210, A210⟩, st210⟩ := X207.specialBackS hx (y := (⟨"com/example/rederive/rederive/Variable", "<init>", "(Ljava/lang/String;)V"⟩ : MethodName)) rfl hown (mvT hZ (hw _ (List.mem_of_getElem? (i := 33) rfl))) (mvT hZ (hw _ (List.mem_of_getElem? (i := 34) rfl))) (mvT hZ (hw _ (List.mem_of_getElem? (i := 35) rfl))) (by decide) (backOfSH (W := 1) (rm_var l Z a0 hw [] b207 b72 h207 n0 f209 A207 F207_name (Nat.le_trans Z0 (Nat.le_trans z208 (Nat.le_of_eq g207.symm)))) hZ (hw _ (List.mem_of_getElem? (i := 35) rfl)) (hw _ (List.mem_of_getElem? (i := 32) rfl)) (by decide) (by decide) own_hEL own_chv0) (g := (mkF m 130 #[.val (.int p1), .val (.int p2), .val (.int p3), .val (.int p4), .val (.ref b55), .val (.ref b60), .val (.ref b66), .val (.ref b72), .val (.ref b72), .val (.int (0 : Int32)), .unset, .unset, .unset, .unset] [(.ref b72), (.ref b207), (.ref b207)])) rfl (by rw [hml]; rfl) (Steps.refl _) (a := b207) (argsL := [(.ref b72)]) (rest := [(.ref b207)]) (lenOf pd_6 rfl) rfl (by show 2 * 0 + _ ≤ _; exact Nat.le_of_eq rfl) (hb hby at_130) (fun _ _ => ⟨rfl, e207, (by decide : 6 + 2 ≤ _), (by decide : 13 + 20 ≤ _)⟩)
      dsimp only [Pt.U, Pt.locs, Pt.cells, Pt.slots] at X210 l210 y210 z210 st210 hQ210 hS210 hg210 A210
      subst l210 y210 z210
      refine own_gos st210 ?_
      obtain ⟨X210, hS210, hZ210, hown210⟩ := rebS hS0 (k0 := _) (n1 := T207.heap.size) (by rw [e207]; exact (Nat.zero_le _)) X210 hS210 hg210 hZ hown
      obtain ⟨rfl, Nq210, K210, Fk0_210⟩ := hQ210
      have N210 := Fr.app N80 Nq210
      show own_Go p e below (T210.setTop (mkF m 133 #[.val (.int p1), .val (.int p2), .val (.int p3), .val (.int p4), .val (.ref b55), .val (.ref b60), .val (.ref b66), .val (.ref b72), .val (.ref b72), .val (.int (0 : Int32)), .unset, .unset, .unset, .unset] [(.ref b207)])) _
      refine own_go (fun _ k => XS.astore X210.here hx rfl (hb hby at_133) rfl rfl (l' := #[.val (.int p1), .val (.int p2), .val (.int p3), .val (.int p4), .val (.ref b55), .val (.ref b60), .val (.ref b66), .val (.ref b72), .val (.ref b72), .val (.int (0 : Int32)), .val (.ref b207), .unset, .unset, .unset]) rfl k) ?_
      show own_Go p e below (T210.setTop (mkF m 135 #[.val (.int p1), .val (.int p2), .val (.int p3), .val (.int p4), .val (.ref b55), .val (.ref b60), .val (.ref b66), .val (.ref b72), .val (.ref b72), .val (.int (0 : Int32)), .val (.ref b207), .unset, .unset, .unset] [])) _
      obtain ⟨T211, h211, X211, e211, E211, A211, D211, U211, st211⟩ := newO X210 hx hZ210 hown210 (hw _ (List.mem_of_getElem? (i := 30) rfl)) (hw _ (List.mem_of_getElem? (i := 31) rfl)) (hw _ (List.mem_of_getElem? (i := 32) rfl)) (rfl : T210.heap = T210.heap) (g := (mkF m 135 #[.val (.int p1), .val (.int p2), .val (.int p3), .val (.int p4), .val (.ref b55), .val (.ref b60), .val (.ref b66), .val (.ref b72), .val (.ref b72), .val (.int (0 : Int32)), .val (.ref b207), .unset, .unset, .unset] [])) rfl (hb hby at_135) (by decide) (by decide)
      obtain ⟨b211, g211⟩ : ∃ z, z = T210.heap.size := ⟨_, rfl⟩
      rw [← g211] at A211 D211 U211 st211
      refine own_go st211 ?_
      have F211_name : Fld Z h211 b211 "com/example/rederive/rederive/Variable" "name" "Ljava/lang/String;" .null := D211 (Or.inr (hw _ (List.mem_of_getElem? (i := 50) rfl))) (ty := (.object "java/lang/String")) (by decide)
      show own_Go p e below (T211.setTop (mkF m 138 #[.val (.int p1), .val (.int p2), .val (.int p3), .val (.int p4), .val (.ref b55), .val (.ref b60), .val (.ref b66), .val (.ref b72), .val (.ref b72), .val (.int (0 : Int32)), .val (.ref b207), .unset, .unset, .unset] [(.ref b211)])) _
      refine own_go (fun _ k => XS.dup X211.here hx rfl (hb hby at_138) rfl rfl k) ?_
      show own_Go p e below (T211.setTop (mkF m 139 #[.val (.int p1), .val (.int p2), .val (.int p3), .val (.int p4), .val (.ref b55), .val (.ref b60), .val (.ref b66), .val (.ref b72), .val (.ref b72), .val (.int (0 : Int32)), .val (.ref b207), .unset, .unset, .unset] [(.ref b211), (.ref b211)])) _
      refine own_go (fun _ k => XS.aload X211.here hx rfl (hb hby at_139) rfl rfl k) ?_
      show own_Go p e below (T211.setTop (mkF m 141 #[.val (.int p1), .val (.int p2), .val (.int p3), .val (.int p4), .val (.ref b55), .val (.ref b60), .val (.ref b66), .val (.ref b72), .val (.ref b72), .val (.int (0 : Int32)), .val (.ref b207), .unset, .unset, .unset] [(.ref b72), (.ref b211), (.ref b211)])) _
      have z212 := (Nat.le_trans (Nat.le_trans z208 E207.1) K210.1)
      have f213 := ((f209.keep K210 (allS (Nat.le_trans Z0 (Nat.le_trans z208 (Nat.le_of_eq g207.symm))) all0)).ext E211)
      obtain ⟨v214, _, ⟨T214, L214, k214, n214⟩, -, X214, hS214, hg214, ⟨Lc214, hQ214, l214, y214, z214, A214⟩, st214⟩ := X211.specialBackS hx (y := (⟨"com/example/rederive/rederive/Variable", "<init>", "(Ljava/lang/String;)V"⟩ : MethodName)) rfl hown210 (mvT hZ210 (hw _ (List.mem_of_getElem? (i := 33) rfl))) (mvT hZ210 (hw _ (List.mem_of_getElem? (i := 34) rfl))) (mvT hZ210 (hw _ (List.mem_of_getElem? (i := 35) rfl))) (by decide) (backOfSH (W := 1) (rm_var l Z a0 hw [] b211 b72 h211 n0 f213 A211 F211_name (Nat.le_trans Z0 (Nat.le_trans z212 (Nat.le_of_eq g211.symm)))) hZ210 (hw _ (List.mem_of_getElem? (i := 35) rfl)) (hw _ (List.mem_of_getElem? (i := 32) rfl)) (by decide) (by decide) own_hEL own_chv0) (g := (mkF m 141 #[.val (.int p1), .val (.int p2), .val (.int p3), .val (.int p4), .val (.ref b55), .val (.ref b60), .val (.ref b66), .val (.ref b72), .val (.ref b72), .val (.int (0 : Int32)), .val (.ref b207), .unset, .unset, .unset] [(.ref b72), (.ref b211), (.ref b211)])) rfl (by rw [hml]; rfl) (Steps.refl _) (a := b211) (argsL := [(.ref b72)]) (rest := [(.ref b211)]) (lenOf pd_6 rfl) rfl (by show 2 * 0 + _ ≤ _; exact Nat.le_of_eq rfl) (hb hby at_141) (fun _ _ => ⟨rfl, e211, (by decide : 9 + 2 ≤ _), (by decide : 34 + 20 ≤ _)⟩)
      dsimp only [Pt.U, Pt.locs, Pt.cells, Pt.slots] at X214 l214 y214 z214 st214 hQ214 hS214 hg214 A214
      subst l214 y214 z214
      refine own_gos st214 ?_
      obtain ⟨X214, hS214, hZ214, hown214⟩ := rebS hS210 (k0 := _) (n1 := T211.heap.size) (by rw [e211]; exact (Nat.le_trans (Nat.le_refl _) E211.1)) X214 hS214 hg214 hZ210 hown210
      obtain ⟨rfl, Nq214, K214, Fk0_214⟩ := hQ214
      have N214 := Fr.app N210 Nq214
      show own_Go p e below (T214.setTop (mkF m 144 #[.val (.int p1), .val (.int p2), .val (.int p3), .val (.int p4), .val (.ref b55), .val (.ref b60), .val (.ref b66), .val (.ref b72), .val (.ref b72), .val (.int (0 : Int32)), .val (.ref b207), .unset, .unset, .unset] [(.ref b211)])) _
      refine own_go (fun _ k => XS.astore X214.here hx rfl (hb hby at_144) rfl rfl (l' := #[.val (.int p1), .val (.int p2), .val (.int p3), .val (.int p4), .val (.ref b55), .val (.ref b60), .val (.ref b66), .val (.ref b72), .val (.ref b72), .val (.int (0 : Int32)), .val (.ref b207), .val (.ref b211), .unset, .unset]) rfl k) ?_
      show own_Go p e below (T214.setTop (mkF m 146 #[.val (.int p1), .val (.int p2), .val (.int p3), .val (.int p4), .val (.ref b55), .val (.ref b60), .val (.ref b66), .val (.ref b72), .val (.ref b72), .val (.int (0 : Int32)), .val (.ref b207), .val (.ref b211), .unset, .unset] [])) _
      obtain ⟨T215, h215, X215, e215, E215, A215, D215, U215, st215⟩ := newO X214 hx hZ214 hown214 (hw _ (List.mem_of_getElem? (i := 51) rfl)) (hw _ (List.mem_of_getElem? (i := 52) rfl)) (hw _ (List.mem_of_getElem? (i := 53) rfl)) (rfl : T214.heap = T214.heap) (g := (mkF m 146 #[.val (.int p1), .val (.int p2), .val (.int p3), .val (.int p4), .val (.ref b55), .val (.ref b60), .val (.ref b66), .val (.ref b72), .val (.ref b72), .val (.int (0 : Int32)), .val (.ref b207), .val (.ref b211), .unset, .unset] [])) rfl (hb hby at_146) (by decide) (by decide)
      obtain ⟨b215, g215⟩ : ∃ z, z = T214.heap.size := ⟨_, rfl⟩
      rw [← g215] at A215 D215 U215 st215
      refine own_go st215 ?_
      have F215_pattern : Fld Z h215 b215 "com/example/rederive/rederive/Constraint$ClosureCall" "pattern" "Ljava/lang/String;" .null := D215 (Or.inr (hw _ (List.mem_of_getElem? (i := 63) rfl))) (ty := (.object "java/lang/String")) (by decide)
      have F215_from : Fld Z h215 b215 "com/example/rederive/rederive/Constraint$ClosureCall" "from" "Lcom/example/rederive/rederive/Variable;" .null := D215 (Or.inr (hw _ (List.mem_of_getElem? (i := 65) rfl))) (ty := (.object "com/example/rederive/rederive/Variable")) (by decide)
      have F215_to : Fld Z h215 b215 "com/example/rederive/rederive/Constraint$ClosureCall" "to" "Lcom/example/rederive/rederive/Variable;" .null := D215 (Or.inr (hw _ (List.mem_of_getElem? (i := 67) rfl))) (ty := (.object "com/example/rederive/rederive/Variable")) (by decide)
      have F215_reflexive : Fld Z h215 b215 "com/example/rederive/rederive/Constraint$ClosureCall" "reflexive" "Z" (.int (0 : Int32)) := D215 (Or.inr (hw _ (List.mem_of_getElem? (i := 69) rfl))) (ty := .boolean) (by decide)
      show own_Go p e below (T215.setTop (mkF m 149 #[.val (.int p1), .val (.int p2), .val (.int p3), .val (.int p4), .val (.ref b55), .val (.ref b60), .val (.ref b66), .val (.ref b72), .val (.ref b72), .val (.int (0 : Int32)), .val (.ref b207), .val (.ref b211), .unset, .unset] [(.ref b215)])) _
      refine own_go (fun _ k => XS.dup X215.here hx rfl (hb hby at_149) rfl rfl k) ?_
      show own_Go p e below (T215.setTop (mkF m 150 #[.val (.int p1), .val (.int p2), .val (.int p3), .val (.int p4), .val (.ref b55), .val (.ref b60), .val (.ref b66), .val (.ref b72), .val (.ref b72), .val (.int (0 : Int32)), .val (.ref b207), .val (.ref b211), .unset, .unset] [(.ref b215), (.ref b215)])) _
      obtain ⟨T216, h216, X216, e216, E216, A216, D216, U216, st216⟩ := newO X215 hx hZ214 hown214 (hw _ (List.mem_of_getElem? (i := 1) rfl)) (hw _ (List.mem_of_getElem? (i := 2) rfl)) (hw _ (List.mem_of_getElem? (i := 3) rfl)) e215 (g := (mkF m 150 #[.val (.int p1), .val (.int p2), .val (.int p3), .val (.int p4), .val (.ref b55), .val (.ref b60), .val (.ref b66), .val (.ref b72), .val (.ref b72), .val (.int (0 : Int32)), .val (.ref b207), .val (.ref b211), .unset, .unset] [(.ref b215), (.ref b215)])) rfl (hb hby at_150) (by decide) (by decide)
      obtain ⟨b216, g216⟩ : ∃ z, z = h215.size := ⟨_, rfl⟩
      rw [← g216] at A216 D216 U216 st216
      refine own_go st216 ?_
      have F216_coder : Fld Z h216 b216 "java/lang/String" "coder" "B" (.int (0 : Int32)) := D216 (Or.inr (hw _ (List.mem_of_getElem? (i := 27) rfl))) (ty := .byte) (by decide)
      have F216_value : Fld Z h216 b216 "java/lang/String" "value" "[B" .null := D216 (Or.inr (hw _ (List.mem_of_getElem? (i := 29) rfl))) (ty := (.array .byte)) (by decide)
      show own_Go p e below (T216.setTop (mkF m 153 #[.val (.int p1), .val (.int p2), .val (.int p3), .val (.int p4), .val (.ref b55), .val (.ref b60), .val (.ref b66), .val (.ref b72), .val (.ref b72), .val (.int (0 : Int32)), .val (.ref b207), .val (.ref b211), .unset, .unset] [(.ref b216), (.ref b215), (.ref b215)])) _
      refine own_go (fun _ k => XS.dup X216.here hx rfl (hb hby at_153) rfl rfl k) ?_
      show own_Go p e below (T216.setTop (mkF m 154 #[.val (.int p1), .val (.int p2), .val (.int p3), .val (.int p4), .val (.ref b55), .val (.ref b60), .val (.ref b66), .val (.ref b72), .val (.ref b72), .val (.int (0 : Int32)), .val (.ref b207), .val (.ref b211), .unset, .unset] [(.ref b216), (.ref b216), (.ref b215), (.ref b215)])) _
      refine own_go (fun _ k => XS.aload X216.here hx rfl (hb hby at_154) rfl rfl k) ?_
      show own_Go p e below (T216.setTop (mkF m 156 #[.val (.int p1), .val (.int p2), .val (.int p3), .val (.int p4), .val (.ref b55), .val (.ref b60), .val (.ref b66), .val (.ref b72), .val (.ref b72), .val (.int (0 : Int32)), .val (.ref b207), .val (.ref b211), .unset, .unset] [(.ref b66), (.ref b216), (.ref b216), (.ref b215), (.ref b215)])) _
      have f217 := (((f213.keep K214 (allS (Nat.le_trans Z0 (Nat.le_trans z212 (Nat.le_of_eq g211.symm))) all0)).ext E215).ext E216)
      have z218 := (Nat.le_trans (Nat.le_trans (Nat.le_trans z212 E211.1) K214.1) E215.1)
      have z220 := (Nat.le_trans (Keep.of_wr W68).1 (Keep.of_wr W71).1)
      have ne219 : b66 ≠ b72 := Nat.ne_of_lt (Nat.lt_of_lt_of_le (Nat.lt_of_lt_of_le V66.lt z220) (Nat.le_of_eq g72.symm))
      have z222 := (Nat.le_trans (Nat.le_trans z220 E72.1) K80.1)
      have ne221 : b66 ≠ b207 := Nat.ne_of_lt (Nat.lt_of_lt_of_le (Nat.lt_of_lt_of_le V66.lt z222) (Nat.le_of_eq g207.symm))
      have z224 := (Nat.le_trans (Nat.le_trans z222 E207.1) K210.1)
      have ne223 : b66 ≠ b211 := Nat.ne_of_lt (Nat.lt_of_lt_of_le (Nat.lt_of_lt_of_le V66.lt z224) (Nat.le_of_eq g211.symm))
      have f225 := ((((((((V71.ext E72).keep K80 (ninS ne219 nin0)).ext E207).keep K210 (ninS ne221 nin0)).ext E211).keep K214 (ninS ne223 nin0)).ext E215).ext E216)
      obtain ⟨v226, _, ⟨T226, L226, k226, n226⟩, -, X226, ⟨Lc226, hQ226, l226, y226, z226⟩, st226⟩ := X216.specialBack hx (y := (⟨"java/lang/String", "<init>", "([C)V"⟩ : MethodName)) rfl hown214 (mvT hZ214 (hw _ (List.mem_of_getElem? (i := 4) rfl))) (mvT hZ214 (hw _ (List.mem_of_getElem? (i := 5) rfl))) (mvT hZ214 (hw _ (List.mem_of_getElem? (i := 6) rfl))) (by decide) (StrChars.Road.backV (W := 3) hZ214 (own_wStr hw) (kI := 4) (hw _ (List.mem_of_getElem? (i := 2) rfl)) (cs := ([(nar .char ((p3 &&& (255 : Int32)).toUInt32.toUInt16.toUInt32.toInt32)), (nar .char ((((p3.toUInt32 >>> ((8 : Int32) &&& 31).toUInt32).toInt32) &&& (255 : Int32)).toUInt32.toUInt16.toUInt32.toInt32))] : List Int32)) (bs := (([(nar .char ((p3 &&& (255 : Int32)).toUInt32.toUInt16.toUInt32.toInt32)), (nar .char ((((p3.toUInt32 >>> ((8 : Int32) &&& 31).toUInt32).toInt32) &&& (255 : Int32)).toUInt32.toUInt16.toUInt32.toInt32))] : List Int32)).map (fun c => c.toInt8.toInt32)) (n := 2) (Nat.le_trans Z0 (Nat.le_trans z218 (Nat.le_of_eq g216.symm))) (Nat.le_trans Z0 (Nat.le_trans z218 E216.1)) A216 F216_value F216_coder f225 (O2.ext f217.2) P5 rfl rfl (by decide) (by decide) (fun c hc => by simp only [List.mem_cons, List.not_mem_nil, or_false] at hc; rcases hc with rfl | rfl <;> exact own_and255 _) rfl (by decide) (by decide)) (g := (mkF m 156 #[.val (.int p1), .val (.int p2), .val (.int p3), .val (.int p4), .val (.ref b55), .val (.ref b60), .val (.ref b66), .val (.ref b72), .val (.ref b72), .val (.int (0 : Int32)), .val (.ref b207), .val (.ref b211), .unset, .unset] [(.ref b66), (.ref b216), (.ref b216), (.ref b215), (.ref b215)])) rfl (by rw [hml]; rfl) (Steps.refl _) (a := b216) (argsL := [(.ref b66)]) (rest := [(.ref b216), (.ref b215), (.ref b215)]) (lenOf pd_5 rfl) rfl (by show 2 * 0 + _ ≤ _; exact Nat.le_of_eq rfl) (hb hby at_156) (fun _ _ => ⟨rfl, e216, (by decide : 13 + 1 ≤ _), (by decide : 62 + 2 ≤ _)⟩)
      dsimp only [Pt.U, Pt.locs, Pt.cells, Pt.slots] at X226 l226 y226 z226 st226 hQ226
      subst l226 y226 z226
      refine own_gos st226 ?_
      obtain ⟨rfl, Nq226, K226, Eq226, Fc226, t226, kt226, -, tg226, tn226, Fv226, Vt226⟩ := hQ226
      have N226 := Fr.app N214 Nq226
      show own_Go p e below (T226.setTop (mkF m 159 #[.val (.int p1), .val (.int p2), .val (.int p3), .val (.int p4), .val (.ref b55), .val (.ref b60), .val (.ref b66), .val (.ref b72), .val (.ref b72), .val (.int (0 : Int32)), .val (.ref b207), .val (.ref b211), .unset, .unset] [(.ref b216), (.ref b215), (.ref b215)])) _
      refine own_go (fun _ k => XS.aload X226.here hx rfl (hb hby at_159) rfl rfl k) ?_
      show own_Go p e below (T226.setTop (mkF m 161 #[.val (.int p1), .val (.int p2), .val (.int p3), .val (.int p4), .val (.ref b55), .val (.ref b60), .val (.ref b66), .val (.ref b72), .val (.ref b72), .val (.int (0 : Int32)), .val (.ref b207), .val (.ref b211), .unset, .unset] [(.ref b207), (.ref b216), (.ref b215), (.ref b215)])) _
      refine own_go (fun _ k => XS.aload X226.here hx rfl (hb hby at_161) rfl rfl k) ?_
      show own_Go p e below (T226.setTop (mkF m 163 #[.val (.int p1), .val (.int p2), .val (.int p3), .val (.int p4), .val (.ref b55), .val (.ref b60), .val (.ref b66), .val (.ref b72), .val (.ref b72), .val (.int (0 : Int32)), .val (.ref b207), .val (.ref b211), .unset, .unset] [(.ref b211), (.ref b207), (.ref b216), (.ref b215), (.ref b215)])) _
      refine own_go (fun _ k => XS.iload X226.here hx rfl (hb hby at_163) rfl k) ?_
      show own_Go p e below (T226.setTop (mkF m 165 #[.val (.int p1), .val (.int p2), .val (.int p3), .val (.int p4), .val (.ref b55), .val (.ref b60), .val (.ref b66), .val (.ref b72), .val (.ref b72), .val (.int (0 : Int32)), .val (.ref b207), .val (.ref b211), .unset, .unset] [(.int (0 : Int32)), (.ref b211), (.ref b207), (.ref b216), (.ref b215), (.ref b215)])) _
      have f227 := ((A215.ext E216).keep K226)
      have ne228 : b215 ≠ b216 := Nat.ne_of_lt (Nat.lt_of_lt_of_le A215.lt (Nat.le_of_eq g216.symm))
      have f229 := ((F215_pattern.ext E216).keep K226 (ninS ne228 nin0))
      have f230 := ((F215_from.ext E216).keep K226 (ninS ne228 nin0))
      have f231 := ((F215_to.ext E216).keep K226 (ninS ne228 nin0))
      have f232 := ((F215_reflexive.ext E216).keep K226 (ninS ne228 nin0))
      have z233 := (Nat.le_trans (Nat.le_trans z212 E211.1) K214.1)
      have f234 := (f217.keep K226 (allS (Nat.le_trans Z0 (Nat.le_trans z218 (Nat.le_of_eq g216.symm))) all0))
      obtain ⟨v235, _, ⟨T235, L235, k235, n235⟩, -, X235, hS235, hg235, ⟨Lc235, hQ235, l235, y235, z235, A235⟩, st235⟩ := X226.specialBackS hx (y := (⟨"com/example/rederive/rederive/Constraint$ClosureCall", "<init>", "(Ljava/lang/String;Lcom/example/rederive/rederive/Variable;Lcom/example/rederive/rederive/Variable;Z)V"⟩ : MethodName)) rfl hown214 (mvT hZ214 (hw _ (List.mem_of_getElem? (i := 54) rfl))) (mvT hZ214 (hw _ (List.mem_of_getElem? (i := 55) rfl))) (mvT hZ214 (hw _ (List.mem_of_getElem? (i := 56) rfl))) (by decide) (backOfSH (W := 1) (rm_cc l Z a0 hw [] b215 b216 b207 b211 (0 : Int32) T226.heap n0 f234 f227 f229 f230 f231 f232 (Nat.le_trans Z0 (Nat.le_trans z233 (Nat.le_of_eq g215.symm)))) hZ214 (hw _ (List.mem_of_getElem? (i := 56) rfl)) (hw _ (List.mem_of_getElem? (i := 53) rfl)) (by decide) (by decide) own_hEL own_chv0) (g := (mkF m 165 #[.val (.int p1), .val (.int p2), .val (.int p3), .val (.int p4), .val (.ref b55), .val (.ref b60), .val (.ref b66), .val (.ref b72), .val (.ref b72), .val (.int (0 : Int32)), .val (.ref b207), .val (.ref b211), .unset, .unset] [(.int (0 : Int32)), (.ref b211), (.ref b207), (.ref b216), (.ref b215), (.ref b215)])) rfl (by rw [hml]; rfl) (Steps.refl _) (a := b215) (argsL := [(.ref b216), (.ref b207), (.ref b211), (.int (0 : Int32))]) (rest := [(.ref b215)]) (lenOf pd_7 rfl) rfl (by show 2 * 0 + _ ≤ _; exact Nat.le_of_eq rfl) (hb hby at_165) (fun _ _ => ⟨rfl, (rfl : T226.heap = T226.heap), (by decide : 14 + 6 ≤ _), (by decide : 64 + 64 ≤ _)⟩)
      dsimp only [Pt.U, Pt.locs, Pt.cells, Pt.slots] at X235 l235 y235 z235 st235 hQ235 hS235 hg235 A235
      subst l235 y235 z235
      refine own_gos st235 ?_
      have z236 := (Nat.le_trans (Nat.le_trans E215.1 E216.1) K226.1)
      obtain ⟨X235, hS235, hZ235, hown235⟩ := rebS hS214 (k0 := _) (n1 := T226.heap.size) (by rw [(rfl : T226.heap = T226.heap)]; exact (Nat.le_trans (Nat.le_refl _) z236)) X235 hS235 hg235 hZ214 hown214
      obtain ⟨rfl, Nq235, K235, Fk0_235, Fk1_235⟩ := hQ235
      have N235 := Fr.app N226 Nq235
      show own_Go p e below (T235.setTop (mkF m 168 #[.val (.int p1), .val (.int p2), .val (.int p3), .val (.int p4), .val (.ref b55), .val (.ref b60), .val (.ref b66), .val (.ref b72), .val (.ref b72), .val (.int (0 : Int32)), .val (.ref b207), .val (.ref b211), .unset, .unset] [(.ref b215)])) _
      refine own_go (fun _ k => XS.astore X235.here hx rfl (hb hby at_168) rfl rfl (l' := #[.val (.int p1), .val (.int p2), .val (.int p3), .val (.int p4), .val (.ref b55), .val (.ref b60), .val (.ref b66), .val (.ref b72), .val (.ref b72), .val (.int (0 : Int32)), .val (.ref b207), .val (.ref b211), .val (.ref b215), .unset]) rfl k) ?_
      show own_Go p e below (T235.setTop (mkF m 170 #[.val (.int p1), .val (.int p2), .val (.int p3), .val (.int p4), .val (.ref b55), .val (.ref b60), .val (.ref b66), .val (.ref b72), .val (.ref b72), .val (.int (0 : Int32)), .val (.ref b207), .val (.ref b211), .val (.ref b215), .unset] [])) _
      refine own_go (fun _ k => XS.aload X235.here hx rfl (hb hby at_170) rfl rfl k) ?_
      show own_Go p e below (T235.setTop (mkF m 172 #[.val (.int p1), .val (.int p2), .val (.int p3), .val (.int p4), .val (.ref b55), .val (.ref b60), .val (.ref b66), .val (.ref b72), .val (.ref b72), .val (.int (0 : Int32)), .val (.ref b207), .val (.ref b211), .val (.ref b215), .unset] [(.ref b215)])) _
      have f237 := (f234.keep K235 (allS (Nat.le_trans Z0 (Nat.le_trans z233 (Nat.le_of_eq g215.symm))) all0))
      obtain ⟨cq238, kq238, q238a, q238b, q238c⟩ := isOf hZ235 (rfl : T235.heap = T235.heap) (f227.keep K235)
      obtain ⟨v238, _, ⟨T238, L238, k238, n238⟩, -, X238, ⟨Lc238, hQ238, l238, y238, z238⟩, st238⟩ := X235.virtualBack hx (y := (⟨"com/example/rederive/rederive/Constraint$ClosureCall", "variables", "()Ljava/util/List;"⟩ : MethodName)) (z := (⟨"com/example/rederive/rederive/Constraint$ClosureCall", "variables", "()Ljava/util/List;"⟩ : MethodName)) hown235 (mvT hZ235 (hw _ (List.mem_of_getElem? (i := 70) rfl))) (mvT hZ235 (hw _ (List.mem_of_getElem? (i := 71) rfl))) (notFace_of_selects (args := #[]) (mvT hZ235 (hw _ (List.mem_of_getElem? (i := 73) rfl)))) (mvT hZ235 (hw _ (List.mem_of_getElem? (i := 73) rfl))) (mvT hZ235 (hw _ (List.mem_of_getElem? (i := 72) rfl))) (by decide) (backOf (W := 0) (rm_vars l Z a0 hw [] b215 b207 b211 T235.heap n0 f237 (f227.keep K235) Fk0_235 Fk1_235) hZ235 (hw _ (List.mem_of_getElem? (i := 74) rfl)) (hw _ (List.mem_of_getElem? (i := 53) rfl)) (by decide) (by decide)) q238a q238c (g := (mkF m 172 #[.val (.int p1), .val (.int p2), .val (.int p3), .val (.int p4), .val (.ref b55), .val (.ref b60), .val (.ref b66), .val (.ref b72), .val (.ref b72), .val (.int (0 : Int32)), .val (.ref b207), .val (.ref b211), .val (.ref b215), .unset] [(.ref b215)])) rfl (by rw [hml]; rfl) (Steps.refl _) (argsL := []) (rest := []) (lenOf pd_8 rfl) rfl (by show 2 * 0 + _ ≤ _; exact Nat.le_of_eq rfl) (hb hby at_172) (fun _ _ => ⟨rfl, (rfl : T235.heap = T235.heap), (by decide : 20 + 1 ≤ _), (by decide : 128 + 2 ≤ _)⟩)
      dsimp only [Pt.U, Pt.locs, Pt.cells, Pt.slots] at X238 l238 y238 z238 st238 hQ238
      subst l238 y238 z238
      refine own_gos st238 ?_
      obtain ⟨x238, rfl, Nq238, K238, xg238, Ex238, F0238, F1238⟩ := hQ238
      have N238 := Fr.app N235 Nq238
      show own_Go p e below (T238.setTop (mkF m 175 #[.val (.int p1), .val (.int p2), .val (.int p3), .val (.int p4), .val (.ref b55), .val (.ref b60), .val (.ref b66), .val (.ref b72), .val (.ref b72), .val (.int (0 : Int32)), .val (.ref b207), .val (.ref b211), .val (.ref b215), .unset] [(.ref x238)])) _
      refine own_go (fun _ k => XS.astore X238.here hx rfl (hb hby at_175) rfl rfl (l' := #[.val (.int p1), .val (.int p2), .val (.int p3), .val (.int p4), .val (.ref b55), .val (.ref b60), .val (.ref b66), .val (.ref b72), .val (.ref b72), .val (.int (0 : Int32)), .val (.ref b207), .val (.ref b211), .val (.ref b215), .val (.ref x238)]) rfl k) ?_
      show own_Go p e below (T238.setTop (mkF m 177 #[.val (.int p1), .val (.int p2), .val (.int p3), .val (.int p4), .val (.ref b55), .val (.ref b60), .val (.ref b66), .val (.ref b72), .val (.ref b72), .val (.int (0 : Int32)), .val (.ref b207), .val (.ref b211), .val (.ref b215), .val (.ref x238)] [])) _
      refine own_go (fun _ k => XS.aload X238.here hx rfl (hb hby at_177) rfl rfl k) ?_
      show own_Go p e below (T238.setTop (mkF m 179 #[.val (.int p1), .val (.int p2), .val (.int p3), .val (.int p4), .val (.ref b55), .val (.ref b60), .val (.ref b66), .val (.ref b72), .val (.ref b72), .val (.int (0 : Int32)), .val (.ref b207), .val (.ref b211), .val (.ref b215), .val (.ref x238)] [(.ref x238)])) _
      obtain ⟨cq239, kq239, q239a, q239b, q239c⟩ := isOf hZ235 (rfl : T238.heap = T238.heap) Ex238
      obtain ⟨v239, _, ⟨T239, L239, k239, n239⟩, -, X239, ⟨Lc239, hQ239, l239, y239, z239⟩, st239⟩ := X238.interfaceBack hx (xi := (⟨"java/util/List", "size", "()I"⟩ : MethodName)) (y := (⟨"java/util/ImmutableCollections$List12", "size", "()I"⟩ : MethodName)) hown235 (mvT hZ235 (hw _ (List.mem_of_getElem? (i := 112) rfl))) (mvT hZ235 (hw _ (List.mem_of_getElem? (i := 113) rfl))) (mvT hZ235 (hw _ (List.mem_of_getElem? (i := 114) rfl))) (mvT hZ235 (hw _ (List.mem_of_getElem? (i := 115) rfl))) (mvT hZ235 (hw _ (List.mem_of_getElem? (i := 116) rfl))) (mvT hZ235 (hw _ (List.mem_of_getElem? (i := 117) rfl))) (mvT hZ235 (hw _ (List.mem_of_getElem? (i := 118) rfl))) (mvT hZ235 (hw _ (List.mem_of_getElem? (i := 119) rfl))) (by decide) (backOf (W := 0) (rm_lsize l Z a0 hw [] x238 b207 b211 zE T238.heap n0 (f237.keep K238 all0) Ex238 F0238 F1238 OE (Ne.symm ((f237.keep K238 all0).ne hzE (Nat.le_trans Z0 (Nat.le_trans z212 (Nat.le_of_eq g211.symm)))))) hZ235 (hw _ (List.mem_of_getElem? (i := 120) rfl)) (hw _ (List.mem_of_getElem? (i := 81) rfl)) (by decide) (by decide)) q239a q239b q239c (g := (mkF m 179 #[.val (.int p1), .val (.int p2), .val (.int p3), .val (.int p4), .val (.ref b55), .val (.ref b60), .val (.ref b66), .val (.ref b72), .val (.ref b72), .val (.int (0 : Int32)), .val (.ref b207), .val (.ref b211), .val (.ref b215), .val (.ref x238)] [(.ref x238)])) rfl (by rw [hml]; rfl) (Steps.refl _) (argsL := []) (rest := []) (lenOf pd_9 rfl) rfl (by show 2 * 0 + _ ≤ _; exact Nat.le_of_eq rfl) (hb hby at_179) (fun _ _ => ⟨rfl, (rfl : T238.heap = T238.heap), (by decide : 21 + 0 ≤ _), (by decide : 130 + 0 ≤ _)⟩)
      dsimp only [Pt.U, Pt.locs, Pt.cells, Pt.slots] at X239 l239 y239 z239 st239 hQ239
      subst l239 y239 z239
      refine own_gos st239 ?_
      obtain ⟨rfl, Nq239, e239⟩ := hQ239
      have N239 := Fr.app N238 Nq239
      show own_Go p e below (T239.setTop (mkF m 184 #[.val (.int p1), .val (.int p2), .val (.int p3), .val (.int p4), .val (.ref b55), .val (.ref b60), .val (.ref b66), .val (.ref b72), .val (.ref b72), .val (.int (0 : Int32)), .val (.ref b207), .val (.ref b211), .val (.ref b215), .val (.ref x238)] [(.int (2 : Int32))])) _
      refine own_go (fun _ k => XS.iconst X239.here hx rfl (hb hby at_184) k) ?_
      show own_Go p e below (T239.setTop (mkF m 185 #[.val (.int p1), .val (.int p2), .val (.int p3), .val (.int p4), .val (.ref b55), .val (.ref b60), .val (.ref b66), .val (.ref b72), .val (.ref b72), .val (.int (0 : Int32)), .val (.ref b207), .val (.ref b211), .val (.ref b215), .val (.ref x238)] [(.int (2 : Int32)), (.int (2 : Int32))])) _
      refine own_go (fun _ k => XS.icmpYes X239.here hx rfl (pc0 := 185) (pc' := 190) rfl (hb hby at_185) rfl (teq (by decide : (2 : Int32) = (2 : Int32))).1 (by decide) (by decide) k) ?_
      show own_Go p e below (T239.setTop (mkF m 190 #[.val (.int p1), .val (.int p2), .val (.int p3), .val (.int p4), .val (.ref b55), .val (.ref b60), .val (.ref b66), .val (.ref b72), .val (.ref b72), .val (.int (0 : Int32)), .val (.ref b207), .val (.ref b211), .val (.ref b215), .val (.ref x238)] [])) _
      refine own_go (fun _ k => XS.aload X239.here hx rfl (hb hby at_190) rfl rfl k) ?_
      show own_Go p e below (T239.setTop (mkF m 192 #[.val (.int p1), .val (.int p2), .val (.int p3), .val (.int p4), .val (.ref b55), .val (.ref b60), .val (.ref b66), .val (.ref b72), .val (.ref b72), .val (.int (0 : Int32)), .val (.ref b207), .val (.ref b211), .val (.ref b215), .val (.ref x238)] [(.ref x238)])) _
      refine own_go (fun _ k => XS.iconst X239.here hx rfl (hb hby at_192) k) ?_
      show own_Go p e below (T239.setTop (mkF m 193 #[.val (.int p1), .val (.int p2), .val (.int p3), .val (.int p4), .val (.ref b55), .val (.ref b60), .val (.ref b66), .val (.ref b72), .val (.ref b72), .val (.int (0 : Int32)), .val (.ref b207), .val (.ref b211), .val (.ref b215), .val (.ref x238)] [(.int (0 : Int32)), (.ref x238)])) _
      obtain ⟨cq240, kq240, q240a, q240b, q240c⟩ := isOf hZ235 e239 Ex238
      obtain ⟨v240, _, ⟨T240, L240, k240, n240⟩, -, X240, ⟨Lc240, hQ240, l240, y240, z240⟩, st240⟩ := X239.interfaceBack hx (xi := (⟨"java/util/List", "get", "(I)Ljava/lang/Object;"⟩ : MethodName)) (y := (⟨"java/util/ImmutableCollections$List12", "get", "(I)Ljava/lang/Object;"⟩ : MethodName)) hown235 (mvT hZ235 (hw _ (List.mem_of_getElem? (i := 123) rfl))) (mvT hZ235 (hw _ (List.mem_of_getElem? (i := 124) rfl))) (mvT hZ235 (hw _ (List.mem_of_getElem? (i := 125) rfl))) (mvT hZ235 (hw _ (List.mem_of_getElem? (i := 126) rfl))) (mvT hZ235 (hw _ (List.mem_of_getElem? (i := 127) rfl))) (mvT hZ235 (hw _ (List.mem_of_getElem? (i := 128) rfl))) (mvT hZ235 (hw _ (List.mem_of_getElem? (i := 129) rfl))) (mvT hZ235 (hw _ (List.mem_of_getElem? (i := 119) rfl))) (by decide) (backOf (W := 0) (rm_lget0 l Z a0 hw [] x238 b207 b211 zE T238.heap n0 (f237.keep K238 all0) Ex238 F0238 F1238 OE (Ne.symm ((f237.keep K238 all0).ne hzE (Nat.le_trans Z0 (Nat.le_trans z212 (Nat.le_of_eq g211.symm)))))) hZ235 (hw _ (List.mem_of_getElem? (i := 130) rfl)) (hw _ (List.mem_of_getElem? (i := 81) rfl)) (by decide) (by decide)) q240a q240b q240c (g := (mkF m 193 #[.val (.int p1), .val (.int p2), .val (.int p3), .val (.int p4), .val (.ref b55), .val (.ref b60), .val (.ref b66), .val (.ref b72), .val (.ref b72), .val (.int (0 : Int32)), .val (.ref b207), .val (.ref b211), .val (.ref b215), .val (.ref x238)] [(.int (0 : Int32)), (.ref x238)])) rfl (by rw [hml]; rfl) (Steps.refl _) (argsL := [(.int (0 : Int32))]) (rest := []) (lenOf pd_10 rfl) rfl (by show 2 * 0 + _ ≤ _; exact Nat.le_of_eq rfl) (hb hby at_193) (fun _ _ => ⟨rfl, e239, (by decide : 21 + 0 ≤ _), (by decide : 130 + 0 ≤ _)⟩)
      dsimp only [Pt.U, Pt.locs, Pt.cells, Pt.slots] at X240 l240 y240 z240 st240 hQ240
      subst l240 y240 z240
      refine own_gos st240 ?_
      obtain ⟨rfl, Nq240, e240⟩ := hQ240
      have N240 := Fr.app N239 Nq240
      show own_Go p e below (T240.setTop (mkF m 198 #[.val (.int p1), .val (.int p2), .val (.int p3), .val (.int p4), .val (.ref b55), .val (.ref b60), .val (.ref b66), .val (.ref b72), .val (.ref b72), .val (.int (0 : Int32)), .val (.ref b207), .val (.ref b211), .val (.ref b215), .val (.ref x238)] [(.ref b207)])) _
      have f241 := ((((((((A207.keep K210).ext E211).keep K214).ext E215).ext E216).keep K226).keep K235).keep K238)
      obtain ⟨T242, X242, e242, st242⟩ := castY X240 hx hZ235 hown235 (hw _ (List.mem_of_getElem? (i := 30) rfl)) e240 (Ins.self f241) (g := (mkF m 198 #[.val (.int p1), .val (.int p2), .val (.int p3), .val (.int p4), .val (.ref b55), .val (.ref b60), .val (.ref b66), .val (.ref b72), .val (.ref b72), .val (.int (0 : Int32)), .val (.ref b207), .val (.ref b211), .val (.ref b215), .val (.ref x238)] [(.ref b207)])) rfl rfl (hb hby at_198)
      refine own_go st242 ?_
      show own_Go p e below (T242.setTop (mkF m 201 #[.val (.int p1), .val (.int p2), .val (.int p3), .val (.int p4), .val (.ref b55), .val (.ref b60), .val (.ref b66), .val (.ref b72), .val (.ref b72), .val (.int (0 : Int32)), .val (.ref b207), .val (.ref b211), .val (.ref b215), .val (.ref x238)] [(.ref b207)])) _
      have ne243 : b207 ≠ b211 := Nat.ne_of_lt (Nat.lt_of_lt_of_le (Nat.lt_of_lt_of_le A207.lt K210.1) (Nat.le_of_eq g211.symm))
      have z245 := (Nat.le_trans (Nat.le_trans (Nat.le_trans K210.1 E211.1) K214.1) E215.1)
      have ne244 : b207 ≠ b216 := Nat.ne_of_lt (Nat.lt_of_lt_of_le (Nat.lt_of_lt_of_le A207.lt z245) (Nat.le_of_eq g216.symm))
      have z247 := (Nat.le_trans (Nat.le_trans K210.1 E211.1) K214.1)
      have ne246 : b207 ≠ b215 := Nat.ne_of_lt (Nat.lt_of_lt_of_le (Nat.lt_of_lt_of_le A207.lt z247) (Nat.le_of_eq g215.symm))
      have f248 := (((((((Fk0_210.ext E211).keep K214 (ninS ne243 nin0)).ext E215).ext E216).keep K226 (ninS ne244 nin0)).keep K235 (ninS ne246 nin0)).keep K238 nin0)
      obtain ⟨cq249, kq249, q249a, q249b, q249c⟩ := isOf hZ235 e242 f241
      obtain ⟨v249, _, ⟨T249, L249, k249, n249⟩, -, X249, ⟨Lc249, hQ249, l249, y249, z249⟩, st249⟩ := X242.virtualBack hx (y := (⟨"com/example/rederive/rederive/Variable", "name", "()Ljava/lang/String;"⟩ : MethodName)) (z := (⟨"com/example/rederive/rederive/Variable", "name", "()Ljava/lang/String;"⟩ : MethodName)) hown235 (mvT hZ235 (hw _ (List.mem_of_getElem? (i := 132) rfl))) (mvT hZ235 (hw _ (List.mem_of_getElem? (i := 133) rfl))) (notFace_of_selects (args := #[]) (mvT hZ235 (hw _ (List.mem_of_getElem? (i := 135) rfl)))) (mvT hZ235 (hw _ (List.mem_of_getElem? (i := 135) rfl))) (mvT hZ235 (hw _ (List.mem_of_getElem? (i := 134) rfl))) (by decide) (backOf (W := 0) (rm_name l Z a0 hw [] b207 b72 T238.heap n0 (f237.keep K238 all0) f241 f248) hZ235 (hw _ (List.mem_of_getElem? (i := 136) rfl)) (hw _ (List.mem_of_getElem? (i := 32) rfl)) (by decide) (by decide)) q249a q249c (g := (mkF m 201 #[.val (.int p1), .val (.int p2), .val (.int p3), .val (.int p4), .val (.ref b55), .val (.ref b60), .val (.ref b66), .val (.ref b72), .val (.ref b72), .val (.int (0 : Int32)), .val (.ref b207), .val (.ref b211), .val (.ref b215), .val (.ref x238)] [(.ref b207)])) rfl (by rw [hml]; rfl) (Steps.refl _) (argsL := []) (rest := []) (lenOf pd_11 rfl) rfl (by show 2 * 0 + _ ≤ _; exact Nat.le_of_eq rfl) (hb hby at_201) (fun _ _ => ⟨rfl, e242, (by decide : 21 + 0 ≤ _), (by decide : 130 + 0 ≤ _)⟩)
      dsimp only [Pt.U, Pt.locs, Pt.cells, Pt.slots] at X249 l249 y249 z249 st249 hQ249
      subst l249 y249 z249
      refine own_gos st249 ?_
      obtain ⟨rfl, Nq249, e249⟩ := hQ249
      have N249 := Fr.app N240 Nq249
      show own_Go p e below (T249.setTop (mkF m 204 #[.val (.int p1), .val (.int p2), .val (.int p3), .val (.int p4), .val (.ref b55), .val (.ref b60), .val (.ref b66), .val (.ref b72), .val (.ref b72), .val (.int (0 : Int32)), .val (.ref b207), .val (.ref b211), .val (.ref b215), .val (.ref x238)] [(.ref b72)])) _
      refine own_go (fun _ k => XS.aload X249.here hx rfl (hb hby at_204) rfl rfl k) ?_
      show own_Go p e below (T249.setTop (mkF m 206 #[.val (.int p1), .val (.int p2), .val (.int p3), .val (.int p4), .val (.ref b55), .val (.ref b60), .val (.ref b66), .val (.ref b72), .val (.ref b72), .val (.int (0 : Int32)), .val (.ref b207), .val (.ref b211), .val (.ref b215), .val (.ref x238)] [(.ref b72), (.ref b72)])) _
      have f251 := (((((((((Eq80.ext E207).keep K210).ext E211).keep K214).ext E215).ext E216).keep K226).keep K235).keep K238)
      obtain ⟨cq250, kq250, q250a, q250b, q250c⟩ := isOf hZ235 e249 f251
      obtain ⟨v250, _, ⟨T250, L250, k250, n250⟩, -, X250, ⟨Lc250, hQ250, l250, y250, z250⟩, st250⟩ := X249.virtualBack hx (y := (⟨"java/lang/String", "equals", "(Ljava/lang/Object;)Z"⟩ : MethodName)) (z := (⟨"java/lang/String", "equals", "(Ljava/lang/Object;)Z"⟩ : MethodName)) hown235 (mvT hZ235 (hw _ (List.mem_of_getElem? (i := 137) rfl))) (mvT hZ235 (hw _ (List.mem_of_getElem? (i := 138) rfl))) (notFace_of_selects (args := #[]) (mvT hZ235 (hw _ (List.mem_of_getElem? (i := 140) rfl)))) (mvT hZ235 (hw _ (List.mem_of_getElem? (i := 140) rfl))) (mvT hZ235 (hw _ (List.mem_of_getElem? (i := 139) rfl))) (by decide) (backOf (W := 0) (rm_eq l Z a0 hw [] b72 T238.heap n0 (f237.keep K238 all0) ) hZ235 (hw _ (List.mem_of_getElem? (i := 141) rfl)) (hw _ (List.mem_of_getElem? (i := 3) rfl)) (by decide) (by decide)) q250a q250c (g := (mkF m 206 #[.val (.int p1), .val (.int p2), .val (.int p3), .val (.int p4), .val (.ref b55), .val (.ref b60), .val (.ref b66), .val (.ref b72), .val (.ref b72), .val (.int (0 : Int32)), .val (.ref b207), .val (.ref b211), .val (.ref b215), .val (.ref x238)] [(.ref b72), (.ref b72)])) rfl (by rw [hml]; rfl) (Steps.refl _) (argsL := [(.ref b72)]) (rest := []) (lenOf pd_12 rfl) rfl (by show 2 * 0 + _ ≤ _; exact Nat.le_of_eq rfl) (hb hby at_206) (fun _ _ => ⟨rfl, e249, (by decide : 21 + 0 ≤ _), (by decide : 130 + 0 ≤ _)⟩)
      dsimp only [Pt.U, Pt.locs, Pt.cells, Pt.slots] at X250 l250 y250 z250 st250 hQ250
      subst l250 y250 z250
      refine own_gos st250 ?_
      obtain ⟨rfl, Nq250, e250⟩ := hQ250
      have N250 := Fr.app N249 Nq250
      show own_Go p e below (T250.setTop (mkF m 209 #[.val (.int p1), .val (.int p2), .val (.int p3), .val (.int p4), .val (.ref b55), .val (.ref b60), .val (.ref b66), .val (.ref b72), .val (.ref b72), .val (.int (0 : Int32)), .val (.ref b207), .val (.ref b211), .val (.ref b215), .val (.ref x238)] [(.int (1 : Int32))])) _
      refine own_go (fun _ k => XS.ifNo X250.here hx rfl (hb hby at_209) rfl ((if0 _ _).trans (feq (by decide : ¬ ((1 : Int32) = (0 : Int32)))).1) k) ?_
      show own_Go p e below (T250.setTop (mkF m 212 #[.val (.int p1), .val (.int p2), .val (.int p3), .val (.int p4), .val (.ref b55), .val (.ref b60), .val (.ref b66), .val (.ref b72), .val (.ref b72), .val (.int (0 : Int32)), .val (.ref b207), .val (.ref b211), .val (.ref b215), .val (.ref x238)] [])) _
      refine own_go (fun _ k => XS.aload X250.here hx rfl (hb hby at_212) rfl rfl k) ?_
      show own_Go p e below (T250.setTop (mkF m 214 #[.val (.int p1), .val (.int p2), .val (.int p3), .val (.int p4), .val (.ref b55), .val (.ref b60), .val (.ref b66), .val (.ref b72), .val (.ref b72), .val (.int (0 : Int32)), .val (.ref b207), .val (.ref b211), .val (.ref b215), .val (.ref x238)] [(.ref x238)])) _
      refine own_go (fun _ k => XS.iconst X250.here hx rfl (hb hby at_214) k) ?_
      show own_Go p e below (T250.setTop (mkF m 215 #[.val (.int p1), .val (.int p2), .val (.int p3), .val (.int p4), .val (.ref b55), .val (.ref b60), .val (.ref b66), .val (.ref b72), .val (.ref b72), .val (.int (0 : Int32)), .val (.ref b207), .val (.ref b211), .val (.ref b215), .val (.ref x238)] [(.int (1 : Int32)), (.ref x238)])) _
      obtain ⟨cq252, kq252, q252a, q252b, q252c⟩ := isOf hZ235 e250 Ex238
      obtain ⟨v252, _, ⟨T252, L252, k252, n252⟩, -, X252, ⟨Lc252, hQ252, l252, y252, z252⟩, st252⟩ := X250.interfaceBack hx (xi := (⟨"java/util/List", "get", "(I)Ljava/lang/Object;"⟩ : MethodName)) (y := (⟨"java/util/ImmutableCollections$List12", "get", "(I)Ljava/lang/Object;"⟩ : MethodName)) hown235 (mvT hZ235 (hw _ (List.mem_of_getElem? (i := 123) rfl))) (mvT hZ235 (hw _ (List.mem_of_getElem? (i := 124) rfl))) (mvT hZ235 (hw _ (List.mem_of_getElem? (i := 125) rfl))) (mvT hZ235 (hw _ (List.mem_of_getElem? (i := 126) rfl))) (mvT hZ235 (hw _ (List.mem_of_getElem? (i := 127) rfl))) (mvT hZ235 (hw _ (List.mem_of_getElem? (i := 128) rfl))) (mvT hZ235 (hw _ (List.mem_of_getElem? (i := 129) rfl))) (mvT hZ235 (hw _ (List.mem_of_getElem? (i := 119) rfl))) (by decide) (backOf (W := 0) (rm_lget1 l Z a0 hw [] x238 b207 b211 zE T238.heap n0 (f237.keep K238 all0) Ex238 F0238 F1238 OE (Ne.symm ((f237.keep K238 all0).ne hzE (Nat.le_trans Z0 (Nat.le_trans z212 (Nat.le_of_eq g211.symm)))))) hZ235 (hw _ (List.mem_of_getElem? (i := 130) rfl)) (hw _ (List.mem_of_getElem? (i := 81) rfl)) (by decide) (by decide)) q252a q252b q252c (g := (mkF m 215 #[.val (.int p1), .val (.int p2), .val (.int p3), .val (.int p4), .val (.ref b55), .val (.ref b60), .val (.ref b66), .val (.ref b72), .val (.ref b72), .val (.int (0 : Int32)), .val (.ref b207), .val (.ref b211), .val (.ref b215), .val (.ref x238)] [(.int (1 : Int32)), (.ref x238)])) rfl (by rw [hml]; rfl) (Steps.refl _) (argsL := [(.int (1 : Int32))]) (rest := []) (lenOf pd_10 rfl) rfl (by show 2 * 0 + _ ≤ _; exact Nat.le_of_eq rfl) (hb hby at_215) (fun _ _ => ⟨rfl, e250, (by decide : 21 + 0 ≤ _), (by decide : 130 + 0 ≤ _)⟩)
      dsimp only [Pt.U, Pt.locs, Pt.cells, Pt.slots] at X252 l252 y252 z252 st252 hQ252
      subst l252 y252 z252
      refine own_gos st252 ?_
      obtain ⟨rfl, Nq252, e252⟩ := hQ252
      have N252 := Fr.app N250 Nq252
      show own_Go p e below (T252.setTop (mkF m 220 #[.val (.int p1), .val (.int p2), .val (.int p3), .val (.int p4), .val (.ref b55), .val (.ref b60), .val (.ref b66), .val (.ref b72), .val (.ref b72), .val (.int (0 : Int32)), .val (.ref b207), .val (.ref b211), .val (.ref b215), .val (.ref x238)] [(.ref b211)])) _
      have f253 := ((((((A211.keep K214).ext E215).ext E216).keep K226).keep K235).keep K238)
      obtain ⟨T254, X254, e254, st254⟩ := castY X252 hx hZ235 hown235 (hw _ (List.mem_of_getElem? (i := 30) rfl)) e252 (Ins.self f253) (g := (mkF m 220 #[.val (.int p1), .val (.int p2), .val (.int p3), .val (.int p4), .val (.ref b55), .val (.ref b60), .val (.ref b66), .val (.ref b72), .val (.ref b72), .val (.int (0 : Int32)), .val (.ref b207), .val (.ref b211), .val (.ref b215), .val (.ref x238)] [(.ref b211)])) rfl rfl (hb hby at_220)
      refine own_go st254 ?_
      show own_Go p e below (T254.setTop (mkF m 223 #[.val (.int p1), .val (.int p2), .val (.int p3), .val (.int p4), .val (.ref b55), .val (.ref b60), .val (.ref b66), .val (.ref b72), .val (.ref b72), .val (.int (0 : Int32)), .val (.ref b207), .val (.ref b211), .val (.ref b215), .val (.ref x238)] [(.ref b211)])) _
      have ne255 : b211 ≠ b216 := Nat.ne_of_lt (Nat.lt_of_lt_of_le (Nat.lt_of_lt_of_le A211.lt (Nat.le_trans K214.1 E215.1)) (Nat.le_of_eq g216.symm))
      have ne256 : b211 ≠ b215 := Nat.ne_of_lt (Nat.lt_of_lt_of_le (Nat.lt_of_lt_of_le A211.lt K214.1) (Nat.le_of_eq g215.symm))
      have f257 := (((((Fk0_214.ext E215).ext E216).keep K226 (ninS ne255 nin0)).keep K235 (ninS ne256 nin0)).keep K238 nin0)
      obtain ⟨cq258, kq258, q258a, q258b, q258c⟩ := isOf hZ235 e254 f253
      obtain ⟨v258, _, ⟨T258, L258, k258, n258⟩, -, X258, ⟨Lc258, hQ258, l258, y258, z258⟩, st258⟩ := X254.virtualBack hx (y := (⟨"com/example/rederive/rederive/Variable", "name", "()Ljava/lang/String;"⟩ : MethodName)) (z := (⟨"com/example/rederive/rederive/Variable", "name", "()Ljava/lang/String;"⟩ : MethodName)) hown235 (mvT hZ235 (hw _ (List.mem_of_getElem? (i := 132) rfl))) (mvT hZ235 (hw _ (List.mem_of_getElem? (i := 133) rfl))) (notFace_of_selects (args := #[]) (mvT hZ235 (hw _ (List.mem_of_getElem? (i := 135) rfl)))) (mvT hZ235 (hw _ (List.mem_of_getElem? (i := 135) rfl))) (mvT hZ235 (hw _ (List.mem_of_getElem? (i := 134) rfl))) (by decide) (backOf (W := 0) (rm_name l Z a0 hw [] b211 b72 T238.heap n0 (f237.keep K238 all0) f253 f257) hZ235 (hw _ (List.mem_of_getElem? (i := 136) rfl)) (hw _ (List.mem_of_getElem? (i := 32) rfl)) (by decide) (by decide)) q258a q258c (g := (mkF m 223 #[.val (.int p1), .val (.int p2), .val (.int p3), .val (.int p4), .val (.ref b55), .val (.ref b60), .val (.ref b66), .val (.ref b72), .val (.ref b72), .val (.int (0 : Int32)), .val (.ref b207), .val (.ref b211), .val (.ref b215), .val (.ref x238)] [(.ref b211)])) rfl (by rw [hml]; rfl) (Steps.refl _) (argsL := []) (rest := []) (lenOf pd_11 rfl) rfl (by show 2 * 0 + _ ≤ _; exact Nat.le_of_eq rfl) (hb hby at_223) (fun _ _ => ⟨rfl, e254, (by decide : 21 + 0 ≤ _), (by decide : 130 + 0 ≤ _)⟩)
      dsimp only [Pt.U, Pt.locs, Pt.cells, Pt.slots] at X258 l258 y258 z258 st258 hQ258
      subst l258 y258 z258
      refine own_gos st258 ?_
      obtain ⟨rfl, Nq258, e258⟩ := hQ258
      have N258 := Fr.app N252 Nq258
      show own_Go p e below (T258.setTop (mkF m 226 #[.val (.int p1), .val (.int p2), .val (.int p3), .val (.int p4), .val (.ref b55), .val (.ref b60), .val (.ref b66), .val (.ref b72), .val (.ref b72), .val (.int (0 : Int32)), .val (.ref b207), .val (.ref b211), .val (.ref b215), .val (.ref x238)] [(.ref b72)])) _
      refine own_go (fun _ k => XS.aload X258.here hx rfl (hb hby at_226) rfl rfl k) ?_
      show own_Go p e below (T258.setTop (mkF m 228 #[.val (.int p1), .val (.int p2), .val (.int p3), .val (.int p4), .val (.ref b55), .val (.ref b60), .val (.ref b66), .val (.ref b72), .val (.ref b72), .val (.int (0 : Int32)), .val (.ref b207), .val (.ref b211), .val (.ref b215), .val (.ref x238)] [(.ref b72), (.ref b72)])) _
      obtain ⟨cq259, kq259, q259a, q259b, q259c⟩ := isOf hZ235 e258 f251
      obtain ⟨v259, _, ⟨T259, L259, k259, n259⟩, -, X259, ⟨Lc259, hQ259, l259, y259, z259⟩, st259⟩ := X258.virtualBack hx (y := (⟨"java/lang/String", "equals", "(Ljava/lang/Object;)Z"⟩ : MethodName)) (z := (⟨"java/lang/String", "equals", "(Ljava/lang/Object;)Z"⟩ : MethodName)) hown235 (mvT hZ235 (hw _ (List.mem_of_getElem? (i := 137) rfl))) (mvT hZ235 (hw _ (List.mem_of_getElem? (i := 138) rfl))) (notFace_of_selects (args := #[]) (mvT hZ235 (hw _ (List.mem_of_getElem? (i := 140) rfl)))) (mvT hZ235 (hw _ (List.mem_of_getElem? (i := 140) rfl))) (mvT hZ235 (hw _ (List.mem_of_getElem? (i := 139) rfl))) (by decide) (backOf (W := 0) (rm_eq l Z a0 hw [] b72 T238.heap n0 (f237.keep K238 all0) ) hZ235 (hw _ (List.mem_of_getElem? (i := 141) rfl)) (hw _ (List.mem_of_getElem? (i := 3) rfl)) (by decide) (by decide)) q259a q259c (g := (mkF m 228 #[.val (.int p1), .val (.int p2), .val (.int p3), .val (.int p4), .val (.ref b55), .val (.ref b60), .val (.ref b66), .val (.ref b72), .val (.ref b72), .val (.int (0 : Int32)), .val (.ref b207), .val (.ref b211), .val (.ref b215), .val (.ref x238)] [(.ref b72), (.ref b72)])) rfl (by rw [hml]; rfl) (Steps.refl _) (argsL := [(.ref b72)]) (rest := []) (lenOf pd_12 rfl) rfl (by show 2 * 0 + _ ≤ _; exact Nat.le_of_eq rfl) (hb hby at_228) (fun _ _ => ⟨rfl, e258, (by decide : 21 + 0 ≤ _), (by decide : 130 + 0 ≤ _)⟩)
      dsimp only [Pt.U, Pt.locs, Pt.cells, Pt.slots] at X259 l259 y259 z259 st259 hQ259
      subst l259 y259 z259
      refine own_gos st259 ?_
      obtain ⟨rfl, Nq259, e259⟩ := hQ259
      have N259 := Fr.app N258 Nq259
      show own_Go p e below (T259.setTop (mkF m 231 #[.val (.int p1), .val (.int p2), .val (.int p3), .val (.int p4), .val (.ref b55), .val (.ref b60), .val (.ref b66), .val (.ref b72), .val (.ref b72), .val (.int (0 : Int32)), .val (.ref b207), .val (.ref b211), .val (.ref b215), .val (.ref x238)] [(.int (1 : Int32))])) _
      refine own_go (fun _ k => XS.ifNo X259.here hx rfl (hb hby at_231) rfl ((if0 _ _).trans (feq (by decide : ¬ ((1 : Int32) = (0 : Int32)))).1) k) ?_
      show own_Go p e below (T259.setTop (mkF m 234 #[.val (.int p1), .val (.int p2), .val (.int p3), .val (.int p4), .val (.ref b55), .val (.ref b60), .val (.ref b66), .val (.ref b72), .val (.ref b72), .val (.int (0 : Int32)), .val (.ref b207), .val (.ref b211), .val (.ref b215), .val (.ref x238)] [])) _
      refine own_go (fun _ k => XS.iconst X259.here hx rfl (hb hby at_234) k) ?_
      show own_Go p e below (T259.setTop (mkF m 235 #[.val (.int p1), .val (.int p2), .val (.int p3), .val (.int p4), .val (.ref b55), .val (.ref b60), .val (.ref b66), .val (.ref b72), .val (.ref b72), .val (.int (0 : Int32)), .val (.ref b207), .val (.ref b211), .val (.ref b215), .val (.ref x238)] [(.int (1 : Int32))])) _
      refine own_go (fun _ k => XS.goto X259.here hx rfl (pc0 := 235) (pc' := 239) rfl (hb hby at_235) (by decide) (by decide) k) ?_
      show own_Go p e below (T259.setTop (mkF m 239 #[.val (.int p1), .val (.int p2), .val (.int p3), .val (.int p4), .val (.ref b55), .val (.ref b60), .val (.ref b66), .val (.ref b72), .val (.ref b72), .val (.int (0 : Int32)), .val (.ref b207), .val (.ref b211), .val (.ref b215), .val (.ref x238)] [(.int (1 : Int32))])) _
      have z260 := (Nat.le_trans (Nat.le_trans (Nat.le_trans (Nat.le_trans z218 E216.1) K226.1) K235.1) K238.1)
      refine own_finW (v := (some (.int (nar .boolean (1 : Int32))))) X259 hh hZ235 hS235 (by rw [e259]; exact (Nat.le_trans (Nat.le_refl _) K238.1)) (fun h => by rw [hrt] at h; cases h) hlk (fun fs hr => retN X259 hx (t := .boolean) hrt (by simp) (hb hby at_239) hr) (QQ := QQ0 n0) ?_ own_hEL e259 (own_chr0 z260) (by decide) (by decide)
      rw [e259]
      exact ⟨rfl, N259⟩
    · skip
      refine own_go (fun _ k => XS.ifNo X80.here hx rfl (hb hby at_114) rfl ((if0 _ _).trans (feq hc206).1) k) ?_
      show own_Go p e below (T80.setTop (mkF m 117 #[.val (.int p1), .val (.int p2), .val (.int p3), .val (.int p4), .val (.ref b55), .val (.ref b60), .val (.ref b66), .val (.ref b72), .val (.ref b72), .unset, .unset, .unset, .unset, .unset] [])) _
      refine own_go (fun _ k => XS.iconst X80.here hx rfl (hb hby at_117) k) ?_
      show own_Go p e below (T80.setTop (mkF m 118 #[.val (.int p1), .val (.int p2), .val (.int p3), .val (.int p4), .val (.ref b55), .val (.ref b60), .val (.ref b66), .val (.ref b72), .val (.ref b72), .unset, .unset, .unset, .unset, .unset] [(.int (1 : Int32))])) _
      refine own_go (fun _ k => XS.goto X80.here hx rfl (pc0 := 118) (pc' := 122) rfl (hb hby at_118) (by decide) (by decide) k) ?_
      show own_Go p e below (T80.setTop (mkF m 122 #[.val (.int p1), .val (.int p2), .val (.int p3), .val (.int p4), .val (.ref b55), .val (.ref b60), .val (.ref b66), .val (.ref b72), .val (.ref b72), .unset, .unset, .unset, .unset, .unset] [(.int (1 : Int32))])) _
      refine own_go (fun _ k => XS.istore X80.here hx rfl (hb hby at_122) rfl (l' := #[.val (.int p1), .val (.int p2), .val (.int p3), .val (.int p4), .val (.ref b55), .val (.ref b60), .val (.ref b66), .val (.ref b72), .val (.ref b72), .val (.int (1 : Int32)), .unset, .unset, .unset, .unset]) rfl k) ?_
      show own_Go p e below (T80.setTop (mkF m 124 #[.val (.int p1), .val (.int p2), .val (.int p3), .val (.int p4), .val (.ref b55), .val (.ref b60), .val (.ref b66), .val (.ref b72), .val (.ref b72), .val (.int (1 : Int32)), .unset, .unset, .unset, .unset] [])) _
      obtain ⟨T261, h261, X261, e261, E261, A261, D261, U261, st261⟩ := newO X80 hx hZ hown (hw _ (List.mem_of_getElem? (i := 30) rfl)) (hw _ (List.mem_of_getElem? (i := 31) rfl)) (hw _ (List.mem_of_getElem? (i := 32) rfl)) (rfl : T80.heap = T80.heap) (g := (mkF m 124 #[.val (.int p1), .val (.int p2), .val (.int p3), .val (.int p4), .val (.ref b55), .val (.ref b60), .val (.ref b66), .val (.ref b72), .val (.ref b72), .val (.int (1 : Int32)), .unset, .unset, .unset, .unset] [])) rfl (hb hby at_124) (by decide) (by decide)
      obtain ⟨b261, g261⟩ : ∃ z, z = T80.heap.size := ⟨_, rfl⟩
      rw [← g261] at A261 D261 U261 st261
      refine own_go st261 ?_
      have F261_name : Fld Z h261 b261 "com/example/rederive/rederive/Variable" "name" "Ljava/lang/String;" .null := D261 (Or.inr (hw _ (List.mem_of_getElem? (i := 50) rfl))) (ty := (.object "java/lang/String")) (by decide)
      show own_Go p e below (T261.setTop (mkF m 127 #[.val (.int p1), .val (.int p2), .val (.int p3), .val (.int p4), .val (.ref b55), .val (.ref b60), .val (.ref b66), .val (.ref b72), .val (.ref b72), .val (.int (1 : Int32)), .unset, .unset, .unset, .unset] [(.ref b261)])) _
      refine own_go (fun _ k => XS.dup X261.here hx rfl (hb hby at_127) rfl rfl k) ?_
      show own_Go p e below (T261.setTop (mkF m 128 #[.val (.int p1), .val (.int p2), .val (.int p3), .val (.int p4), .val (.ref b55), .val (.ref b60), .val (.ref b66), .val (.ref b72), .val (.ref b72), .val (.int (1 : Int32)), .unset, .unset, .unset, .unset] [(.ref b261), (.ref b261)])) _
      refine own_go (fun _ k => XS.aload X261.here hx rfl (hb hby at_128) rfl rfl k) ?_
      show own_Go p e below (T261.setTop (mkF m 130 #[.val (.int p1), .val (.int p2), .val (.int p3), .val (.int p4), .val (.ref b55), .val (.ref b60), .val (.ref b66), .val (.ref b72), .val (.ref b72), .val (.int (1 : Int32)), .unset, .unset, .unset, .unset] [(.ref b72), (.ref b261), (.ref b261)])) _
      have z262 := (Nat.le_trans (Nat.le_trans z74 E72.1) K80.1)
      have f263 := ((f73.keep K80 (allS (Nat.le_trans Z0 (Nat.le_trans z74 (Nat.le_of_eq g72.symm))) all0)).ext E261)
      obtain ⟨v264, _, ⟨T264, L264, k264, n264⟩, -, X264, hS264, hg264, ⟨Lc264, hQ264, l264, y264, z264, A264⟩, st264⟩ := X261.specialBackS hx (y := (⟨"com/example/rederive/rederive/Variable", "<init>", "(Ljava/lang/String;)V"⟩ : MethodName)) rfl hown (mvT hZ (hw _ (List.mem_of_getElem? (i := 33) rfl))) (mvT hZ (hw _ (List.mem_of_getElem? (i := 34) rfl))) (mvT hZ (hw _ (List.mem_of_getElem? (i := 35) rfl))) (by decide) (backOfSH (W := 1) (rm_var l Z a0 hw [] b261 b72 h261 n0 f263 A261 F261_name (Nat.le_trans Z0 (Nat.le_trans z262 (Nat.le_of_eq g261.symm)))) hZ (hw _ (List.mem_of_getElem? (i := 35) rfl)) (hw _ (List.mem_of_getElem? (i := 32) rfl)) (by decide) (by decide) own_hEL own_chv0) (g := (mkF m 130 #[.val (.int p1), .val (.int p2), .val (.int p3), .val (.int p4), .val (.ref b55), .val (.ref b60), .val (.ref b66), .val (.ref b72), .val (.ref b72), .val (.int (1 : Int32)), .unset, .unset, .unset, .unset] [(.ref b72), (.ref b261), (.ref b261)])) rfl (by rw [hml]; rfl) (Steps.refl _) (a := b261) (argsL := [(.ref b72)]) (rest := [(.ref b261)]) (lenOf pd_6 rfl) rfl (by show 2 * 0 + _ ≤ _; exact Nat.le_of_eq rfl) (hb hby at_130) (fun _ _ => ⟨rfl, e261, (by decide : 6 + 2 ≤ _), (by decide : 13 + 20 ≤ _)⟩)
      dsimp only [Pt.U, Pt.locs, Pt.cells, Pt.slots] at X264 l264 y264 z264 st264 hQ264 hS264 hg264 A264
      subst l264 y264 z264
      refine own_gos st264 ?_
      obtain ⟨X264, hS264, hZ264, hown264⟩ := rebS hS0 (k0 := _) (n1 := T261.heap.size) (by rw [e261]; exact (Nat.zero_le _)) X264 hS264 hg264 hZ hown
      obtain ⟨rfl, Nq264, K264, Fk0_264⟩ := hQ264
      have N264 := Fr.app N80 Nq264
      show own_Go p e below (T264.setTop (mkF m 133 #[.val (.int p1), .val (.int p2), .val (.int p3), .val (.int p4), .val (.ref b55), .val (.ref b60), .val (.ref b66), .val (.ref b72), .val (.ref b72), .val (.int (1 : Int32)), .unset, .unset, .unset, .unset] [(.ref b261)])) _
      refine own_go (fun _ k => XS.astore X264.here hx rfl (hb hby at_133) rfl rfl (l' := #[.val (.int p1), .val (.int p2), .val (.int p3), .val (.int p4), .val (.ref b55), .val (.ref b60), .val (.ref b66), .val (.ref b72), .val (.ref b72), .val (.int (1 : Int32)), .val (.ref b261), .unset, .unset, .unset]) rfl k) ?_
      show own_Go p e below (T264.setTop (mkF m 135 #[.val (.int p1), .val (.int p2), .val (.int p3), .val (.int p4), .val (.ref b55), .val (.ref b60), .val (.ref b66), .val (.ref b72), .val (.ref b72), .val (.int (1 : Int32)), .val (.ref b261), .unset, .unset, .unset] [])) _
      obtain ⟨T265, h265, X265, e265, E265, A265, D265, U265, st265⟩ := newO X264 hx hZ264 hown264 (hw _ (List.mem_of_getElem? (i := 30) rfl)) (hw _ (List.mem_of_getElem? (i := 31) rfl)) (hw _ (List.mem_of_getElem? (i := 32) rfl)) (rfl : T264.heap = T264.heap) (g := (mkF m 135 #[.val (.int p1), .val (.int p2), .val (.int p3), .val (.int p4), .val (.ref b55), .val (.ref b60), .val (.ref b66), .val (.ref b72), .val (.ref b72), .val (.int (1 : Int32)), .val (.ref b261), .unset, .unset, .unset] [])) rfl (hb hby at_135) (by decide) (by decide)
      obtain ⟨b265, g265⟩ : ∃ z, z = T264.heap.size := ⟨_, rfl⟩
      rw [← g265] at A265 D265 U265 st265
      refine own_go st265 ?_
      have F265_name : Fld Z h265 b265 "com/example/rederive/rederive/Variable" "name" "Ljava/lang/String;" .null := D265 (Or.inr (hw _ (List.mem_of_getElem? (i := 50) rfl))) (ty := (.object "java/lang/String")) (by decide)
      show own_Go p e below (T265.setTop (mkF m 138 #[.val (.int p1), .val (.int p2), .val (.int p3), .val (.int p4), .val (.ref b55), .val (.ref b60), .val (.ref b66), .val (.ref b72), .val (.ref b72), .val (.int (1 : Int32)), .val (.ref b261), .unset, .unset, .unset] [(.ref b265)])) _
      refine own_go (fun _ k => XS.dup X265.here hx rfl (hb hby at_138) rfl rfl k) ?_
      show own_Go p e below (T265.setTop (mkF m 139 #[.val (.int p1), .val (.int p2), .val (.int p3), .val (.int p4), .val (.ref b55), .val (.ref b60), .val (.ref b66), .val (.ref b72), .val (.ref b72), .val (.int (1 : Int32)), .val (.ref b261), .unset, .unset, .unset] [(.ref b265), (.ref b265)])) _
      refine own_go (fun _ k => XS.aload X265.here hx rfl (hb hby at_139) rfl rfl k) ?_
      show own_Go p e below (T265.setTop (mkF m 141 #[.val (.int p1), .val (.int p2), .val (.int p3), .val (.int p4), .val (.ref b55), .val (.ref b60), .val (.ref b66), .val (.ref b72), .val (.ref b72), .val (.int (1 : Int32)), .val (.ref b261), .unset, .unset, .unset] [(.ref b72), (.ref b265), (.ref b265)])) _
      have z266 := (Nat.le_trans (Nat.le_trans z262 E261.1) K264.1)
      have f267 := ((f263.keep K264 (allS (Nat.le_trans Z0 (Nat.le_trans z262 (Nat.le_of_eq g261.symm))) all0)).ext E265)
      obtain ⟨v268, _, ⟨T268, L268, k268, n268⟩, -, X268, hS268, hg268, ⟨Lc268, hQ268, l268, y268, z268, A268⟩, st268⟩ := X265.specialBackS hx (y := (⟨"com/example/rederive/rederive/Variable", "<init>", "(Ljava/lang/String;)V"⟩ : MethodName)) rfl hown264 (mvT hZ264 (hw _ (List.mem_of_getElem? (i := 33) rfl))) (mvT hZ264 (hw _ (List.mem_of_getElem? (i := 34) rfl))) (mvT hZ264 (hw _ (List.mem_of_getElem? (i := 35) rfl))) (by decide) (backOfSH (W := 1) (rm_var l Z a0 hw [] b265 b72 h265 n0 f267 A265 F265_name (Nat.le_trans Z0 (Nat.le_trans z266 (Nat.le_of_eq g265.symm)))) hZ264 (hw _ (List.mem_of_getElem? (i := 35) rfl)) (hw _ (List.mem_of_getElem? (i := 32) rfl)) (by decide) (by decide) own_hEL own_chv0) (g := (mkF m 141 #[.val (.int p1), .val (.int p2), .val (.int p3), .val (.int p4), .val (.ref b55), .val (.ref b60), .val (.ref b66), .val (.ref b72), .val (.ref b72), .val (.int (1 : Int32)), .val (.ref b261), .unset, .unset, .unset] [(.ref b72), (.ref b265), (.ref b265)])) rfl (by rw [hml]; rfl) (Steps.refl _) (a := b265) (argsL := [(.ref b72)]) (rest := [(.ref b265)]) (lenOf pd_6 rfl) rfl (by show 2 * 0 + _ ≤ _; exact Nat.le_of_eq rfl) (hb hby at_141) (fun _ _ => ⟨rfl, e265, (by decide : 9 + 2 ≤ _), (by decide : 34 + 20 ≤ _)⟩)
      dsimp only [Pt.U, Pt.locs, Pt.cells, Pt.slots] at X268 l268 y268 z268 st268 hQ268 hS268 hg268 A268
      subst l268 y268 z268
      refine own_gos st268 ?_
      obtain ⟨X268, hS268, hZ268, hown268⟩ := rebS hS264 (k0 := _) (n1 := T265.heap.size) (by rw [e265]; exact (Nat.le_trans (Nat.le_refl _) E265.1)) X268 hS268 hg268 hZ264 hown264
      obtain ⟨rfl, Nq268, K268, Fk0_268⟩ := hQ268
      have N268 := Fr.app N264 Nq268
      show own_Go p e below (T268.setTop (mkF m 144 #[.val (.int p1), .val (.int p2), .val (.int p3), .val (.int p4), .val (.ref b55), .val (.ref b60), .val (.ref b66), .val (.ref b72), .val (.ref b72), .val (.int (1 : Int32)), .val (.ref b261), .unset, .unset, .unset] [(.ref b265)])) _
      refine own_go (fun _ k => XS.astore X268.here hx rfl (hb hby at_144) rfl rfl (l' := #[.val (.int p1), .val (.int p2), .val (.int p3), .val (.int p4), .val (.ref b55), .val (.ref b60), .val (.ref b66), .val (.ref b72), .val (.ref b72), .val (.int (1 : Int32)), .val (.ref b261), .val (.ref b265), .unset, .unset]) rfl k) ?_
      show own_Go p e below (T268.setTop (mkF m 146 #[.val (.int p1), .val (.int p2), .val (.int p3), .val (.int p4), .val (.ref b55), .val (.ref b60), .val (.ref b66), .val (.ref b72), .val (.ref b72), .val (.int (1 : Int32)), .val (.ref b261), .val (.ref b265), .unset, .unset] [])) _
      obtain ⟨T269, h269, X269, e269, E269, A269, D269, U269, st269⟩ := newO X268 hx hZ268 hown268 (hw _ (List.mem_of_getElem? (i := 51) rfl)) (hw _ (List.mem_of_getElem? (i := 52) rfl)) (hw _ (List.mem_of_getElem? (i := 53) rfl)) (rfl : T268.heap = T268.heap) (g := (mkF m 146 #[.val (.int p1), .val (.int p2), .val (.int p3), .val (.int p4), .val (.ref b55), .val (.ref b60), .val (.ref b66), .val (.ref b72), .val (.ref b72), .val (.int (1 : Int32)), .val (.ref b261), .val (.ref b265), .unset, .unset] [])) rfl (hb hby at_146) (by decide) (by decide)
      obtain ⟨b269, g269⟩ : ∃ z, z = T268.heap.size := ⟨_, rfl⟩
      rw [← g269] at A269 D269 U269 st269
      refine own_go st269 ?_
      have F269_pattern : Fld Z h269 b269 "com/example/rederive/rederive/Constraint$ClosureCall" "pattern" "Ljava/lang/String;" .null := D269 (Or.inr (hw _ (List.mem_of_getElem? (i := 63) rfl))) (ty := (.object "java/lang/String")) (by decide)
      have F269_from : Fld Z h269 b269 "com/example/rederive/rederive/Constraint$ClosureCall" "from" "Lcom/example/rederive/rederive/Variable;" .null := D269 (Or.inr (hw _ (List.mem_of_getElem? (i := 65) rfl))) (ty := (.object "com/example/rederive/rederive/Variable")) (by decide)
      have F269_to : Fld Z h269 b269 "com/example/rederive/rederive/Constraint$ClosureCall" "to" "Lcom/example/rederive/rederive/Variable;" .null := D269 (Or.inr (hw _ (List.mem_of_getElem? (i := 67) rfl))) (ty := (.object "com/example/rederive/rederive/Variable")) (by decide)
      have F269_reflexive : Fld Z h269 b269 "com/example/rederive/rederive/Constraint$ClosureCall" "reflexive" "Z" (.int (0 : Int32)) := D269 (Or.inr (hw _ (List.mem_of_getElem? (i := 69) rfl))) (ty := .boolean) (by decide)
      show own_Go p e below (T269.setTop (mkF m 149 #[.val (.int p1), .val (.int p2), .val (.int p3), .val (.int p4), .val (.ref b55), .val (.ref b60), .val (.ref b66), .val (.ref b72), .val (.ref b72), .val (.int (1 : Int32)), .val (.ref b261), .val (.ref b265), .unset, .unset] [(.ref b269)])) _
      refine own_go (fun _ k => XS.dup X269.here hx rfl (hb hby at_149) rfl rfl k) ?_
      show own_Go p e below (T269.setTop (mkF m 150 #[.val (.int p1), .val (.int p2), .val (.int p3), .val (.int p4), .val (.ref b55), .val (.ref b60), .val (.ref b66), .val (.ref b72), .val (.ref b72), .val (.int (1 : Int32)), .val (.ref b261), .val (.ref b265), .unset, .unset] [(.ref b269), (.ref b269)])) _
      obtain ⟨T270, h270, X270, e270, E270, A270, D270, U270, st270⟩ := newO X269 hx hZ268 hown268 (hw _ (List.mem_of_getElem? (i := 1) rfl)) (hw _ (List.mem_of_getElem? (i := 2) rfl)) (hw _ (List.mem_of_getElem? (i := 3) rfl)) e269 (g := (mkF m 150 #[.val (.int p1), .val (.int p2), .val (.int p3), .val (.int p4), .val (.ref b55), .val (.ref b60), .val (.ref b66), .val (.ref b72), .val (.ref b72), .val (.int (1 : Int32)), .val (.ref b261), .val (.ref b265), .unset, .unset] [(.ref b269), (.ref b269)])) rfl (hb hby at_150) (by decide) (by decide)
      obtain ⟨b270, g270⟩ : ∃ z, z = h269.size := ⟨_, rfl⟩
      rw [← g270] at A270 D270 U270 st270
      refine own_go st270 ?_
      have F270_coder : Fld Z h270 b270 "java/lang/String" "coder" "B" (.int (0 : Int32)) := D270 (Or.inr (hw _ (List.mem_of_getElem? (i := 27) rfl))) (ty := .byte) (by decide)
      have F270_value : Fld Z h270 b270 "java/lang/String" "value" "[B" .null := D270 (Or.inr (hw _ (List.mem_of_getElem? (i := 29) rfl))) (ty := (.array .byte)) (by decide)
      show own_Go p e below (T270.setTop (mkF m 153 #[.val (.int p1), .val (.int p2), .val (.int p3), .val (.int p4), .val (.ref b55), .val (.ref b60), .val (.ref b66), .val (.ref b72), .val (.ref b72), .val (.int (1 : Int32)), .val (.ref b261), .val (.ref b265), .unset, .unset] [(.ref b270), (.ref b269), (.ref b269)])) _
      refine own_go (fun _ k => XS.dup X270.here hx rfl (hb hby at_153) rfl rfl k) ?_
      show own_Go p e below (T270.setTop (mkF m 154 #[.val (.int p1), .val (.int p2), .val (.int p3), .val (.int p4), .val (.ref b55), .val (.ref b60), .val (.ref b66), .val (.ref b72), .val (.ref b72), .val (.int (1 : Int32)), .val (.ref b261), .val (.ref b265), .unset, .unset] [(.ref b270), (.ref b270), (.ref b269), (.ref b269)])) _
      refine own_go (fun _ k => XS.aload X270.here hx rfl (hb hby at_154) rfl rfl k) ?_
      show own_Go p e below (T270.setTop (mkF m 156 #[.val (.int p1), .val (.int p2), .val (.int p3), .val (.int p4), .val (.ref b55), .val (.ref b60), .val (.ref b66), .val (.ref b72), .val (.ref b72), .val (.int (1 : Int32)), .val (.ref b261), .val (.ref b265), .unset, .unset] [(.ref b66), (.ref b270), (.ref b270), (.ref b269), (.ref b269)])) _
      have f271 := (((f267.keep K268 (allS (Nat.le_trans Z0 (Nat.le_trans z266 (Nat.le_of_eq g265.symm))) all0)).ext E269).ext E270)
      have z272 := (Nat.le_trans (Nat.le_trans (Nat.le_trans z266 E265.1) K268.1) E269.1)
      have z274 := (Nat.le_trans (Keep.of_wr W68).1 (Keep.of_wr W71).1)
      have ne273 : b66 ≠ b72 := Nat.ne_of_lt (Nat.lt_of_lt_of_le (Nat.lt_of_lt_of_le V66.lt z274) (Nat.le_of_eq g72.symm))
      have z276 := (Nat.le_trans (Nat.le_trans z274 E72.1) K80.1)
      have ne275 : b66 ≠ b261 := Nat.ne_of_lt (Nat.lt_of_lt_of_le (Nat.lt_of_lt_of_le V66.lt z276) (Nat.le_of_eq g261.symm))
      have z278 := (Nat.le_trans (Nat.le_trans z276 E261.1) K264.1)
      have ne277 : b66 ≠ b265 := Nat.ne_of_lt (Nat.lt_of_lt_of_le (Nat.lt_of_lt_of_le V66.lt z278) (Nat.le_of_eq g265.symm))
      have f279 := ((((((((V71.ext E72).keep K80 (ninS ne273 nin0)).ext E261).keep K264 (ninS ne275 nin0)).ext E265).keep K268 (ninS ne277 nin0)).ext E269).ext E270)
      obtain ⟨v280, _, ⟨T280, L280, k280, n280⟩, -, X280, ⟨Lc280, hQ280, l280, y280, z280⟩, st280⟩ := X270.specialBack hx (y := (⟨"java/lang/String", "<init>", "([C)V"⟩ : MethodName)) rfl hown268 (mvT hZ268 (hw _ (List.mem_of_getElem? (i := 4) rfl))) (mvT hZ268 (hw _ (List.mem_of_getElem? (i := 5) rfl))) (mvT hZ268 (hw _ (List.mem_of_getElem? (i := 6) rfl))) (by decide) (StrChars.Road.backV (W := 3) hZ268 (own_wStr hw) (kI := 4) (hw _ (List.mem_of_getElem? (i := 2) rfl)) (cs := ([(nar .char ((p3 &&& (255 : Int32)).toUInt32.toUInt16.toUInt32.toInt32)), (nar .char ((((p3.toUInt32 >>> ((8 : Int32) &&& 31).toUInt32).toInt32) &&& (255 : Int32)).toUInt32.toUInt16.toUInt32.toInt32))] : List Int32)) (bs := (([(nar .char ((p3 &&& (255 : Int32)).toUInt32.toUInt16.toUInt32.toInt32)), (nar .char ((((p3.toUInt32 >>> ((8 : Int32) &&& 31).toUInt32).toInt32) &&& (255 : Int32)).toUInt32.toUInt16.toUInt32.toInt32))] : List Int32)).map (fun c => c.toInt8.toInt32)) (n := 2) (Nat.le_trans Z0 (Nat.le_trans z272 (Nat.le_of_eq g270.symm))) (Nat.le_trans Z0 (Nat.le_trans z272 E270.1)) A270 F270_value F270_coder f279 (O2.ext f271.2) P5 rfl rfl (by decide) (by decide) (fun c hc => by simp only [List.mem_cons, List.not_mem_nil, or_false] at hc; rcases hc with rfl | rfl <;> exact own_and255 _) rfl (by decide) (by decide)) (g := (mkF m 156 #[.val (.int p1), .val (.int p2), .val (.int p3), .val (.int p4), .val (.ref b55), .val (.ref b60), .val (.ref b66), .val (.ref b72), .val (.ref b72), .val (.int (1 : Int32)), .val (.ref b261), .val (.ref b265), .unset, .unset] [(.ref b66), (.ref b270), (.ref b270), (.ref b269), (.ref b269)])) rfl (by rw [hml]; rfl) (Steps.refl _) (a := b270) (argsL := [(.ref b66)]) (rest := [(.ref b270), (.ref b269), (.ref b269)]) (lenOf pd_5 rfl) rfl (by show 2 * 0 + _ ≤ _; exact Nat.le_of_eq rfl) (hb hby at_156) (fun _ _ => ⟨rfl, e270, (by decide : 13 + 1 ≤ _), (by decide : 62 + 2 ≤ _)⟩)
      dsimp only [Pt.U, Pt.locs, Pt.cells, Pt.slots] at X280 l280 y280 z280 st280 hQ280
      subst l280 y280 z280
      refine own_gos st280 ?_
      obtain ⟨rfl, Nq280, K280, Eq280, Fc280, t280, kt280, -, tg280, tn280, Fv280, Vt280⟩ := hQ280
      have N280 := Fr.app N268 Nq280
      show own_Go p e below (T280.setTop (mkF m 159 #[.val (.int p1), .val (.int p2), .val (.int p3), .val (.int p4), .val (.ref b55), .val (.ref b60), .val (.ref b66), .val (.ref b72), .val (.ref b72), .val (.int (1 : Int32)), .val (.ref b261), .val (.ref b265), .unset, .unset] [(.ref b270), (.ref b269), (.ref b269)])) _
      refine own_go (fun _ k => XS.aload X280.here hx rfl (hb hby at_159) rfl rfl k) ?_
      show own_Go p e below (T280.setTop (mkF m 161 #[.val (.int p1), .val (.int p2), .val (.int p3), .val (.int p4), .val (.ref b55), .val (.ref b60), .val (.ref b66), .val (.ref b72), .val (.ref b72), .val (.int (1 : Int32)), .val (.ref b261), .val (.ref b265), .unset, .unset] [(.ref b261), (.ref b270), (.ref b269), (.ref b269)])) _
      refine own_go (fun _ k => XS.aload X280.here hx rfl (hb hby at_161) rfl rfl k) ?_
      show own_Go p e below (T280.setTop (mkF m 163 #[.val (.int p1), .val (.int p2), .val (.int p3), .val (.int p4), .val (.ref b55), .val (.ref b60), .val (.ref b66), .val (.ref b72), .val (.ref b72), .val (.int (1 : Int32)), .val (.ref b261), .val (.ref b265), .unset, .unset] [(.ref b265), (.ref b261), (.ref b270), (.ref b269), (.ref b269)])) _
      refine own_go (fun _ k => XS.iload X280.here hx rfl (hb hby at_163) rfl k) ?_
      show own_Go p e below (T280.setTop (mkF m 165 #[.val (.int p1), .val (.int p2), .val (.int p3), .val (.int p4), .val (.ref b55), .val (.ref b60), .val (.ref b66), .val (.ref b72), .val (.ref b72), .val (.int (1 : Int32)), .val (.ref b261), .val (.ref b265), .unset, .unset] [(.int (1 : Int32)), (.ref b265), (.ref b261), (.ref b270), (.ref b269), (.ref b269)])) _
      have f281 := ((A269.ext E270).keep K280)
      have ne282 : b269 ≠ b270 := Nat.ne_of_lt (Nat.lt_of_lt_of_le A269.lt (Nat.le_of_eq g270.symm))
      have f283 := ((F269_pattern.ext E270).keep K280 (ninS ne282 nin0))
      have f284 := ((F269_from.ext E270).keep K280 (ninS ne282 nin0))
      have f285 := ((F269_to.ext E270).keep K280 (ninS ne282 nin0))
      have f286 := ((F269_reflexive.ext E270).keep K280 (ninS ne282 nin0))
      have z287 := (Nat.le_trans (Nat.le_trans z266 E265.1) K268.1)
      have f288 := (f271.keep K280 (allS (Nat.le_trans Z0 (Nat.le_trans z272 (Nat.le_of_eq g270.symm))) all0))
      obtain ⟨v289, _, ⟨T289, L289, k289, n289⟩, -, X289, hS289, hg289, ⟨Lc289, hQ289, l289, y289, z289, A289⟩, st289⟩ := X280.specialBackS hx (y := (⟨"com/example/rederive/rederive/Constraint$ClosureCall", "<init>", "(Ljava/lang/String;Lcom/example/rederive/rederive/Variable;Lcom/example/rederive/rederive/Variable;Z)V"⟩ : MethodName)) rfl hown268 (mvT hZ268 (hw _ (List.mem_of_getElem? (i := 54) rfl))) (mvT hZ268 (hw _ (List.mem_of_getElem? (i := 55) rfl))) (mvT hZ268 (hw _ (List.mem_of_getElem? (i := 56) rfl))) (by decide) (backOfSH (W := 1) (rm_cc l Z a0 hw [] b269 b270 b261 b265 (1 : Int32) T280.heap n0 f288 f281 f283 f284 f285 f286 (Nat.le_trans Z0 (Nat.le_trans z287 (Nat.le_of_eq g269.symm)))) hZ268 (hw _ (List.mem_of_getElem? (i := 56) rfl)) (hw _ (List.mem_of_getElem? (i := 53) rfl)) (by decide) (by decide) own_hEL own_chv0) (g := (mkF m 165 #[.val (.int p1), .val (.int p2), .val (.int p3), .val (.int p4), .val (.ref b55), .val (.ref b60), .val (.ref b66), .val (.ref b72), .val (.ref b72), .val (.int (1 : Int32)), .val (.ref b261), .val (.ref b265), .unset, .unset] [(.int (1 : Int32)), (.ref b265), (.ref b261), (.ref b270), (.ref b269), (.ref b269)])) rfl (by rw [hml]; rfl) (Steps.refl _) (a := b269) (argsL := [(.ref b270), (.ref b261), (.ref b265), (.int (1 : Int32))]) (rest := [(.ref b269)]) (lenOf pd_7 rfl) rfl (by show 2 * 0 + _ ≤ _; exact Nat.le_of_eq rfl) (hb hby at_165) (fun _ _ => ⟨rfl, (rfl : T280.heap = T280.heap), (by decide : 14 + 6 ≤ _), (by decide : 64 + 64 ≤ _)⟩)
      dsimp only [Pt.U, Pt.locs, Pt.cells, Pt.slots] at X289 l289 y289 z289 st289 hQ289 hS289 hg289 A289
      subst l289 y289 z289
      refine own_gos st289 ?_
      have z290 := (Nat.le_trans (Nat.le_trans E269.1 E270.1) K280.1)
      obtain ⟨X289, hS289, hZ289, hown289⟩ := rebS hS268 (k0 := _) (n1 := T280.heap.size) (by rw [(rfl : T280.heap = T280.heap)]; exact (Nat.le_trans (Nat.le_refl _) z290)) X289 hS289 hg289 hZ268 hown268
      obtain ⟨rfl, Nq289, K289, Fk0_289, Fk1_289⟩ := hQ289
      have N289 := Fr.app N280 Nq289
      show own_Go p e below (T289.setTop (mkF m 168 #[.val (.int p1), .val (.int p2), .val (.int p3), .val (.int p4), .val (.ref b55), .val (.ref b60), .val (.ref b66), .val (.ref b72), .val (.ref b72), .val (.int (1 : Int32)), .val (.ref b261), .val (.ref b265), .unset, .unset] [(.ref b269)])) _
      refine own_go (fun _ k => XS.astore X289.here hx rfl (hb hby at_168) rfl rfl (l' := #[.val (.int p1), .val (.int p2), .val (.int p3), .val (.int p4), .val (.ref b55), .val (.ref b60), .val (.ref b66), .val (.ref b72), .val (.ref b72), .val (.int (1 : Int32)), .val (.ref b261), .val (.ref b265), .val (.ref b269), .unset]) rfl k) ?_
      show own_Go p e below (T289.setTop (mkF m 170 #[.val (.int p1), .val (.int p2), .val (.int p3), .val (.int p4), .val (.ref b55), .val (.ref b60), .val (.ref b66), .val (.ref b72), .val (.ref b72), .val (.int (1 : Int32)), .val (.ref b261), .val (.ref b265), .val (.ref b269), .unset] [])) _
      refine own_go (fun _ k => XS.aload X289.here hx rfl (hb hby at_170) rfl rfl k) ?_
      show own_Go p e below (T289.setTop (mkF m 172 #[.val (.int p1), .val (.int p2), .val (.int p3), .val (.int p4), .val (.ref b55), .val (.ref b60), .val (.ref b66), .val (.ref b72), .val (.ref b72), .val (.int (1 : Int32)), .val (.ref b261), .val (.ref b265), .val (.ref b269), .unset] [(.ref b269)])) _
      have f291 := (f288.keep K289 (allS (Nat.le_trans Z0 (Nat.le_trans z287 (Nat.le_of_eq g269.symm))) all0))
      obtain ⟨cq292, kq292, q292a, q292b, q292c⟩ := isOf hZ289 (rfl : T289.heap = T289.heap) (f281.keep K289)
      obtain ⟨v292, _, ⟨T292, L292, k292, n292⟩, -, X292, ⟨Lc292, hQ292, l292, y292, z292⟩, st292⟩ := X289.virtualBack hx (y := (⟨"com/example/rederive/rederive/Constraint$ClosureCall", "variables", "()Ljava/util/List;"⟩ : MethodName)) (z := (⟨"com/example/rederive/rederive/Constraint$ClosureCall", "variables", "()Ljava/util/List;"⟩ : MethodName)) hown289 (mvT hZ289 (hw _ (List.mem_of_getElem? (i := 70) rfl))) (mvT hZ289 (hw _ (List.mem_of_getElem? (i := 71) rfl))) (notFace_of_selects (args := #[]) (mvT hZ289 (hw _ (List.mem_of_getElem? (i := 73) rfl)))) (mvT hZ289 (hw _ (List.mem_of_getElem? (i := 73) rfl))) (mvT hZ289 (hw _ (List.mem_of_getElem? (i := 72) rfl))) (by decide) (backOf (W := 0) (rm_vars l Z a0 hw [] b269 b261 b265 T289.heap n0 f291 (f281.keep K289) Fk0_289 Fk1_289) hZ289 (hw _ (List.mem_of_getElem? (i := 74) rfl)) (hw _ (List.mem_of_getElem? (i := 53) rfl)) (by decide) (by decide)) q292a q292c (g := (mkF m 172 #[.val (.int p1), .val (.int p2), .val (.int p3), .val (.int p4), .val (.ref b55), .val (.ref b60), .val (.ref b66), .val (.ref b72), .val (.ref b72), .val (.int (1 : Int32)), .val (.ref b261), .val (.ref b265), .val (.ref b269), .unset] [(.ref b269)])) rfl (by rw [hml]; rfl) (Steps.refl _) (argsL := []) (rest := []) (lenOf pd_8 rfl) rfl (by show 2 * 0 + _ ≤ _; exact Nat.le_of_eq rfl) (hb hby at_172) (fun _ _ => ⟨rfl, (rfl : T289.heap = T289.heap), (by decide : 20 + 1 ≤ _), (by decide : 128 + 2 ≤ _)⟩)
      dsimp only [Pt.U, Pt.locs, Pt.cells, Pt.slots] at X292 l292 y292 z292 st292 hQ292
      subst l292 y292 z292
      refine own_gos st292 ?_
      obtain ⟨x292, rfl, Nq292, K292, xg292, Ex292, F0292, F1292⟩ := hQ292
      have N292 := Fr.app N289 Nq292
      show own_Go p e below (T292.setTop (mkF m 175 #[.val (.int p1), .val (.int p2), .val (.int p3), .val (.int p4), .val (.ref b55), .val (.ref b60), .val (.ref b66), .val (.ref b72), .val (.ref b72), .val (.int (1 : Int32)), .val (.ref b261), .val (.ref b265), .val (.ref b269), .unset] [(.ref x292)])) _
      refine own_go (fun _ k => XS.astore X292.here hx rfl (hb hby at_175) rfl rfl (l' := #[.val (.int p1), .val (.int p2), .val (.int p3), .val (.int p4), .val (.ref b55), .val (.ref b60), .val (.ref b66), .val (.ref b72), .val (.ref b72), .val (.int (1 : Int32)), .val (.ref b261), .val (.ref b265), .val (.ref b269), .val (.ref x292)]) rfl k) ?_
      show own_Go p e below (T292.setTop (mkF m 177 #[.val (.int p1), .val (.int p2), .val (.int p3), .val (.int p4), .val (.ref b55), .val (.ref b60), .val (.ref b66), .val (.ref b72), .val (.ref b72), .val (.int (1 : Int32)), .val (.ref b261), .val (.ref b265), .val (.ref b269), .val (.ref x292)] [])) _
      refine own_go (fun _ k => XS.aload X292.here hx rfl (hb hby at_177) rfl rfl k) ?_
      show own_Go p e below (T292.setTop (mkF m 179 #[.val (.int p1), .val (.int p2), .val (.int p3), .val (.int p4), .val (.ref b55), .val (.ref b60), .val (.ref b66), .val (.ref b72), .val (.ref b72), .val (.int (1 : Int32)), .val (.ref b261), .val (.ref b265), .val (.ref b269), .val (.ref x292)] [(.ref x292)])) _
      obtain ⟨cq293, kq293, q293a, q293b, q293c⟩ := isOf hZ289 (rfl : T292.heap = T292.heap) Ex292
      obtain ⟨v293, _, ⟨T293, L293, k293, n293⟩, -, X293, ⟨Lc293, hQ293, l293, y293, z293⟩, st293⟩ := X292.interfaceBack hx (xi := (⟨"java/util/List", "size", "()I"⟩ : MethodName)) (y := (⟨"java/util/ImmutableCollections$List12", "size", "()I"⟩ : MethodName)) hown289 (mvT hZ289 (hw _ (List.mem_of_getElem? (i := 112) rfl))) (mvT hZ289 (hw _ (List.mem_of_getElem? (i := 113) rfl))) (mvT hZ289 (hw _ (List.mem_of_getElem? (i := 114) rfl))) (mvT hZ289 (hw _ (List.mem_of_getElem? (i := 115) rfl))) (mvT hZ289 (hw _ (List.mem_of_getElem? (i := 116) rfl))) (mvT hZ289 (hw _ (List.mem_of_getElem? (i := 117) rfl))) (mvT hZ289 (hw _ (List.mem_of_getElem? (i := 118) rfl))) (mvT hZ289 (hw _ (List.mem_of_getElem? (i := 119) rfl))) (by decide) (backOf (W := 0) (rm_lsize l Z a0 hw [] x292 b261 b265 zE T292.heap n0 (f291.keep K292 all0) Ex292 F0292 F1292 OE (Ne.symm ((f291.keep K292 all0).ne hzE (Nat.le_trans Z0 (Nat.le_trans z266 (Nat.le_of_eq g265.symm)))))) hZ289 (hw _ (List.mem_of_getElem? (i := 120) rfl)) (hw _ (List.mem_of_getElem? (i := 81) rfl)) (by decide) (by decide)) q293a q293b q293c (g := (mkF m 179 #[.val (.int p1), .val (.int p2), .val (.int p3), .val (.int p4), .val (.ref b55), .val (.ref b60), .val (.ref b66), .val (.ref b72), .val (.ref b72), .val (.int (1 : Int32)), .val (.ref b261), .val (.ref b265), .val (.ref b269), .val (.ref x292)] [(.ref x292)])) rfl (by rw [hml]; rfl) (Steps.refl _) (argsL := []) (rest := []) (lenOf pd_9 rfl) rfl (by show 2 * 0 + _ ≤ _; exact Nat.le_of_eq rfl) (hb hby at_179) (fun _ _ => ⟨rfl, (rfl : T292.heap = T292.heap), (by decide : 21 + 0 ≤ _), (by decide : 130 + 0 ≤ _)⟩)
      dsimp only [Pt.U, Pt.locs, Pt.cells, Pt.slots] at X293 l293 y293 z293 st293 hQ293
      subst l293 y293 z293
      refine own_gos st293 ?_
      obtain ⟨rfl, Nq293, e293⟩ := hQ293
      have N293 := Fr.app N292 Nq293
      show own_Go p e below (T293.setTop (mkF m 184 #[.val (.int p1), .val (.int p2), .val (.int p3), .val (.int p4), .val (.ref b55), .val (.ref b60), .val (.ref b66), .val (.ref b72), .val (.ref b72), .val (.int (1 : Int32)), .val (.ref b261), .val (.ref b265), .val (.ref b269), .val (.ref x292)] [(.int (2 : Int32))])) _
      refine own_go (fun _ k => XS.iconst X293.here hx rfl (hb hby at_184) k) ?_
      show own_Go p e below (T293.setTop (mkF m 185 #[.val (.int p1), .val (.int p2), .val (.int p3), .val (.int p4), .val (.ref b55), .val (.ref b60), .val (.ref b66), .val (.ref b72), .val (.ref b72), .val (.int (1 : Int32)), .val (.ref b261), .val (.ref b265), .val (.ref b269), .val (.ref x292)] [(.int (2 : Int32)), (.int (2 : Int32))])) _
      refine own_go (fun _ k => XS.icmpYes X293.here hx rfl (pc0 := 185) (pc' := 190) rfl (hb hby at_185) rfl (teq (by decide : (2 : Int32) = (2 : Int32))).1 (by decide) (by decide) k) ?_
      show own_Go p e below (T293.setTop (mkF m 190 #[.val (.int p1), .val (.int p2), .val (.int p3), .val (.int p4), .val (.ref b55), .val (.ref b60), .val (.ref b66), .val (.ref b72), .val (.ref b72), .val (.int (1 : Int32)), .val (.ref b261), .val (.ref b265), .val (.ref b269), .val (.ref x292)] [])) _
      refine own_go (fun _ k => XS.aload X293.here hx rfl (hb hby at_190) rfl rfl k) ?_
      show own_Go p e below (T293.setTop (mkF m 192 #[.val (.int p1), .val (.int p2), .val (.int p3), .val (.int p4), .val (.ref b55), .val (.ref b60), .val (.ref b66), .val (.ref b72), .val (.ref b72), .val (.int (1 : Int32)), .val (.ref b261), .val (.ref b265), .val (.ref b269), .val (.ref x292)] [(.ref x292)])) _
      refine own_go (fun _ k => XS.iconst X293.here hx rfl (hb hby at_192) k) ?_
      show own_Go p e below (T293.setTop (mkF m 193 #[.val (.int p1), .val (.int p2), .val (.int p3), .val (.int p4), .val (.ref b55), .val (.ref b60), .val (.ref b66), .val (.ref b72), .val (.ref b72), .val (.int (1 : Int32)), .val (.ref b261), .val (.ref b265), .val (.ref b269), .val (.ref x292)] [(.int (0 : Int32)), (.ref x292)])) _
      obtain ⟨cq294, kq294, q294a, q294b, q294c⟩ := isOf hZ289 e293 Ex292
      obtain ⟨v294, _, ⟨T294, L294, k294, n294⟩, -, X294, ⟨Lc294, hQ294, l294, y294, z294⟩, st294⟩ := X293.interfaceBack hx (xi := (⟨"java/util/List", "get", "(I)Ljava/lang/Object;"⟩ : MethodName)) (y := (⟨"java/util/ImmutableCollections$List12", "get", "(I)Ljava/lang/Object;"⟩ : MethodName)) hown289 (mvT hZ289 (hw _ (List.mem_of_getElem? (i := 123) rfl))) (mvT hZ289 (hw _ (List.mem_of_getElem? (i := 124) rfl))) (mvT hZ289 (hw _ (List.mem_of_getElem? (i := 125) rfl))) (mvT hZ289 (hw _ (List.mem_of_getElem? (i := 126) rfl))) (mvT hZ289 (hw _ (List.mem_of_getElem? (i := 127) rfl))) (mvT hZ289 (hw _ (List.mem_of_getElem? (i := 128) rfl))) (mvT hZ289 (hw _ (List.mem_of_getElem? (i := 129) rfl))) (mvT hZ289 (hw _ (List.mem_of_getElem? (i := 119) rfl))) (by decide) (backOf (W := 0) (rm_lget0 l Z a0 hw [] x292 b261 b265 zE T292.heap n0 (f291.keep K292 all0) Ex292 F0292 F1292 OE (Ne.symm ((f291.keep K292 all0).ne hzE (Nat.le_trans Z0 (Nat.le_trans z266 (Nat.le_of_eq g265.symm)))))) hZ289 (hw _ (List.mem_of_getElem? (i := 130) rfl)) (hw _ (List.mem_of_getElem? (i := 81) rfl)) (by decide) (by decide)) q294a q294b q294c (g := (mkF m 193 #[.val (.int p1), .val (.int p2), .val (.int p3), .val (.int p4), .val (.ref b55), .val (.ref b60), .val (.ref b66), .val (.ref b72), .val (.ref b72), .val (.int (1 : Int32)), .val (.ref b261), .val (.ref b265), .val (.ref b269), .val (.ref x292)] [(.int (0 : Int32)), (.ref x292)])) rfl (by rw [hml]; rfl) (Steps.refl _) (argsL := [(.int (0 : Int32))]) (rest := []) (lenOf pd_10 rfl) rfl (by show 2 * 0 + _ ≤ _; exact Nat.le_of_eq rfl) (hb hby at_193) (fun _ _ => ⟨rfl, e293, (by decide : 21 + 0 ≤ _), (by decide : 130 + 0 ≤ _)⟩)
      dsimp only [Pt.U, Pt.locs, Pt.cells, Pt.slots] at X294 l294 y294 z294 st294 hQ294
      subst l294 y294 z294
      refine own_gos st294 ?_
      obtain ⟨rfl, Nq294, e294⟩ := hQ294
      have N294 := Fr.app N293 Nq294
      show own_Go p e below (T294.setTop (mkF m 198 #[.val (.int p1), .val (.int p2), .val (.int p3), .val (.int p4), .val (.ref b55), .val (.ref b60), .val (.ref b66), .val (.ref b72), .val (.ref b72), .val (.int (1 : Int32)), .val (.ref b261), .val (.ref b265), .val (.ref b269), .val (.ref x292)] [(.ref b261)])) _
      have f295 := ((((((((A261.keep K264).ext E265).keep K268).ext E269).ext E270).keep K280).keep K289).keep K292)
      obtain ⟨T296, X296, e296, st296⟩ := castY X294 hx hZ289 hown289 (hw _ (List.mem_of_getElem? (i := 30) rfl)) e294 (Ins.self f295) (g := (mkF m 198 #[.val (.int p1), .val (.int p2), .val (.int p3), .val (.int p4), .val (.ref b55), .val (.ref b60), .val (.ref b66), .val (.ref b72), .val (.ref b72), .val (.int (1 : Int32)), .val (.ref b261), .val (.ref b265), .val (.ref b269), .val (.ref x292)] [(.ref b261)])) rfl rfl (hb hby at_198)
      refine own_go st296 ?_
      show own_Go p e below (T296.setTop (mkF m 201 #[.val (.int p1), .val (.int p2), .val (.int p3), .val (.int p4), .val (.ref b55), .val (.ref b60), .val (.ref b66), .val (.ref b72), .val (.ref b72), .val (.int (1 : Int32)), .val (.ref b261), .val (.ref b265), .val (.ref b269), .val (.ref x292)] [(.ref b261)])) _
      have ne297 : b261 ≠ b265 := Nat.ne_of_lt (Nat.lt_of_lt_of_le (Nat.lt_of_lt_of_le A261.lt K264.1) (Nat.le_of_eq g265.symm))
      have z299 := (Nat.le_trans (Nat.le_trans (Nat.le_trans K264.1 E265.1) K268.1) E269.1)
      have ne298 : b261 ≠ b270 := Nat.ne_of_lt (Nat.lt_of_lt_of_le (Nat.lt_of_lt_of_le A261.lt z299) (Nat.le_of_eq g270.symm))
      have z301 := (Nat.le_trans (Nat.le_trans K264.1 E265.1) K268.1)
      have ne300 : b261 ≠ b269 := Nat.ne_of_lt (Nat.lt_of_lt_of_le (Nat.lt_of_lt_of_le A261.lt z301) (Nat.le_of_eq g269.symm))
      have f302 := (((((((Fk0_264.ext E265).keep K268 (ninS ne297 nin0)).ext E269).ext E270).keep K280 (ninS ne298 nin0)).keep K289 (ninS ne300 nin0)).keep K292 nin0)
      obtain ⟨cq303, kq303, q303a, q303b, q303c⟩ := isOf hZ289 e296 f295
      obtain ⟨v303, _, ⟨T303, L303, k303, n303⟩, -, X303, ⟨Lc303, hQ303, l303, y303, z303⟩, st303⟩ := X296.virtualBack hx (y := (⟨"com/example/rederive/rederive/Variable", "name", "()Ljava/lang/String;"⟩ : MethodName)) (z := (⟨"com/example/rederive/rederive/Variable", "name", "()Ljava/lang/String;"⟩ : MethodName)) hown289 (mvT hZ289 (hw _ (List.mem_of_getElem? (i := 132) rfl))) (mvT hZ289 (hw _ (List.mem_of_getElem? (i := 133) rfl))) (notFace_of_selects (args := #[]) (mvT hZ289 (hw _ (List.mem_of_getElem? (i := 135) rfl)))) (mvT hZ289 (hw _ (List.mem_of_getElem? (i := 135) rfl))) (mvT hZ289 (hw _ (List.mem_of_getElem? (i := 134) rfl))) (by decide) (backOf (W := 0) (rm_name l Z a0 hw [] b261 b72 T292.heap n0 (f291.keep K292 all0) f295 f302) hZ289 (hw _ (List.mem_of_getElem? (i := 136) rfl)) (hw _ (List.mem_of_getElem? (i := 32) rfl)) (by decide) (by decide)) q303a q303c (g := (mkF m 201 #[.val (.int p1), .val (.int p2), .val (.int p3), .val (.int p4), .val (.ref b55), .val (.ref b60), .val (.ref b66), .val (.ref b72), .val (.ref b72), .val (.int (1 : Int32)), .val (.ref b261), .val (.ref b265), .val (.ref b269), .val (.ref x292)] [(.ref b261)])) rfl (by rw [hml]; rfl) (Steps.refl _) (argsL := []) (rest := []) (lenOf pd_11 rfl) rfl (by show 2 * 0 + _ ≤ _; exact Nat.le_of_eq rfl) (hb hby at_201) (fun _ _ => ⟨rfl, e296, (by decide : 21 + 0 ≤ _), (by decide : 130 + 0 ≤ _)⟩)
      dsimp only [Pt.U, Pt.locs, Pt.cells, Pt.slots] at X303 l303 y303 z303 st303 hQ303
      subst l303 y303 z303
      refine own_gos st303 ?_
      obtain ⟨rfl, Nq303, e303⟩ := hQ303
      have N303 := Fr.app N294 Nq303
      show own_Go p e below (T303.setTop (mkF m 204 #[.val (.int p1), .val (.int p2), .val (.int p3), .val (.int p4), .val (.ref b55), .val (.ref b60), .val (.ref b66), .val (.ref b72), .val (.ref b72), .val (.int (1 : Int32)), .val (.ref b261), .val (.ref b265), .val (.ref b269), .val (.ref x292)] [(.ref b72)])) _
      refine own_go (fun _ k => XS.aload X303.here hx rfl (hb hby at_204) rfl rfl k) ?_
      show own_Go p e below (T303.setTop (mkF m 206 #[.val (.int p1), .val (.int p2), .val (.int p3), .val (.int p4), .val (.ref b55), .val (.ref b60), .val (.ref b66), .val (.ref b72), .val (.ref b72), .val (.int (1 : Int32)), .val (.ref b261), .val (.ref b265), .val (.ref b269), .val (.ref x292)] [(.ref b72), (.ref b72)])) _
      have f305 := (((((((((Eq80.ext E261).keep K264).ext E265).keep K268).ext E269).ext E270).keep K280).keep K289).keep K292)
      obtain ⟨cq304, kq304, q304a, q304b, q304c⟩ := isOf hZ289 e303 f305
      obtain ⟨v304, _, ⟨T304, L304, k304, n304⟩, -, X304, ⟨Lc304, hQ304, l304, y304, z304⟩, st304⟩ := X303.virtualBack hx (y := (⟨"java/lang/String", "equals", "(Ljava/lang/Object;)Z"⟩ : MethodName)) (z := (⟨"java/lang/String", "equals", "(Ljava/lang/Object;)Z"⟩ : MethodName)) hown289 (mvT hZ289 (hw _ (List.mem_of_getElem? (i := 137) rfl))) (mvT hZ289 (hw _ (List.mem_of_getElem? (i := 138) rfl))) (notFace_of_selects (args := #[]) (mvT hZ289 (hw _ (List.mem_of_getElem? (i := 140) rfl)))) (mvT hZ289 (hw _ (List.mem_of_getElem? (i := 140) rfl))) (mvT hZ289 (hw _ (List.mem_of_getElem? (i := 139) rfl))) (by decide) (backOf (W := 0) (rm_eq l Z a0 hw [] b72 T292.heap n0 (f291.keep K292 all0) ) hZ289 (hw _ (List.mem_of_getElem? (i := 141) rfl)) (hw _ (List.mem_of_getElem? (i := 3) rfl)) (by decide) (by decide)) q304a q304c (g := (mkF m 206 #[.val (.int p1), .val (.int p2), .val (.int p3), .val (.int p4), .val (.ref b55), .val (.ref b60), .val (.ref b66), .val (.ref b72), .val (.ref b72), .val (.int (1 : Int32)), .val (.ref b261), .val (.ref b265), .val (.ref b269), .val (.ref x292)] [(.ref b72), (.ref b72)])) rfl (by rw [hml]; rfl) (Steps.refl _) (argsL := [(.ref b72)]) (rest := []) (lenOf pd_12 rfl) rfl (by show 2 * 0 + _ ≤ _; exact Nat.le_of_eq rfl) (hb hby at_206) (fun _ _ => ⟨rfl, e303, (by decide : 21 + 0 ≤ _), (by decide : 130 + 0 ≤ _)⟩)
      dsimp only [Pt.U, Pt.locs, Pt.cells, Pt.slots] at X304 l304 y304 z304 st304 hQ304
      subst l304 y304 z304
      refine own_gos st304 ?_
      obtain ⟨rfl, Nq304, e304⟩ := hQ304
      have N304 := Fr.app N303 Nq304
      show own_Go p e below (T304.setTop (mkF m 209 #[.val (.int p1), .val (.int p2), .val (.int p3), .val (.int p4), .val (.ref b55), .val (.ref b60), .val (.ref b66), .val (.ref b72), .val (.ref b72), .val (.int (1 : Int32)), .val (.ref b261), .val (.ref b265), .val (.ref b269), .val (.ref x292)] [(.int (1 : Int32))])) _
      refine own_go (fun _ k => XS.ifNo X304.here hx rfl (hb hby at_209) rfl ((if0 _ _).trans (feq (by decide : ¬ ((1 : Int32) = (0 : Int32)))).1) k) ?_
      show own_Go p e below (T304.setTop (mkF m 212 #[.val (.int p1), .val (.int p2), .val (.int p3), .val (.int p4), .val (.ref b55), .val (.ref b60), .val (.ref b66), .val (.ref b72), .val (.ref b72), .val (.int (1 : Int32)), .val (.ref b261), .val (.ref b265), .val (.ref b269), .val (.ref x292)] [])) _
      refine own_go (fun _ k => XS.aload X304.here hx rfl (hb hby at_212) rfl rfl k) ?_
      show own_Go p e below (T304.setTop (mkF m 214 #[.val (.int p1), .val (.int p2), .val (.int p3), .val (.int p4), .val (.ref b55), .val (.ref b60), .val (.ref b66), .val (.ref b72), .val (.ref b72), .val (.int (1 : Int32)), .val (.ref b261), .val (.ref b265), .val (.ref b269), .val (.ref x292)] [(.ref x292)])) _
      refine own_go (fun _ k => XS.iconst X304.here hx rfl (hb hby at_214) k) ?_
      show own_Go p e below (T304.setTop (mkF m 215 #[.val (.int p1), .val (.int p2), .val (.int p3), .val (.int p4), .val (.ref b55), .val (.ref b60), .val (.ref b66), .val (.ref b72), .val (.ref b72), .val (.int (1 : Int32)), .val (.ref b261), .val (.ref b265), .val (.ref b269), .val (.ref x292)] [(.int (1 : Int32)), (.ref x292)])) _
      obtain ⟨cq306, kq306, q306a, q306b, q306c⟩ := isOf hZ289 e304 Ex292
      obtain ⟨v306, _, ⟨T306, L306, k306, n306⟩, -, X306, ⟨Lc306, hQ306, l306, y306, z306⟩, st306⟩ := X304.interfaceBack hx (xi := (⟨"java/util/List", "get", "(I)Ljava/lang/Object;"⟩ : MethodName)) (y := (⟨"java/util/ImmutableCollections$List12", "get", "(I)Ljava/lang/Object;"⟩ : MethodName)) hown289 (mvT hZ289 (hw _ (List.mem_of_getElem? (i := 123) rfl))) (mvT hZ289 (hw _ (List.mem_of_getElem? (i := 124) rfl))) (mvT hZ289 (hw _ (List.mem_of_getElem? (i := 125) rfl))) (mvT hZ289 (hw _ (List.mem_of_getElem? (i := 126) rfl))) (mvT hZ289 (hw _ (List.mem_of_getElem? (i := 127) rfl))) (mvT hZ289 (hw _ (List.mem_of_getElem? (i := 128) rfl))) (mvT hZ289 (hw _ (List.mem_of_getElem? (i := 129) rfl))) (mvT hZ289 (hw _ (List.mem_of_getElem? (i := 119) rfl))) (by decide) (backOf (W := 0) (rm_lget1 l Z a0 hw [] x292 b261 b265 zE T292.heap n0 (f291.keep K292 all0) Ex292 F0292 F1292 OE (Ne.symm ((f291.keep K292 all0).ne hzE (Nat.le_trans Z0 (Nat.le_trans z266 (Nat.le_of_eq g265.symm)))))) hZ289 (hw _ (List.mem_of_getElem? (i := 130) rfl)) (hw _ (List.mem_of_getElem? (i := 81) rfl)) (by decide) (by decide)) q306a q306b q306c (g := (mkF m 215 #[.val (.int p1), .val (.int p2), .val (.int p3), .val (.int p4), .val (.ref b55), .val (.ref b60), .val (.ref b66), .val (.ref b72), .val (.ref b72), .val (.int (1 : Int32)), .val (.ref b261), .val (.ref b265), .val (.ref b269), .val (.ref x292)] [(.int (1 : Int32)), (.ref x292)])) rfl (by rw [hml]; rfl) (Steps.refl _) (argsL := [(.int (1 : Int32))]) (rest := []) (lenOf pd_10 rfl) rfl (by show 2 * 0 + _ ≤ _; exact Nat.le_of_eq rfl) (hb hby at_215) (fun _ _ => ⟨rfl, e304, (by decide : 21 + 0 ≤ _), (by decide : 130 + 0 ≤ _)⟩)
      dsimp only [Pt.U, Pt.locs, Pt.cells, Pt.slots] at X306 l306 y306 z306 st306 hQ306
      subst l306 y306 z306
      refine own_gos st306 ?_
      obtain ⟨rfl, Nq306, e306⟩ := hQ306
      have N306 := Fr.app N304 Nq306
      show own_Go p e below (T306.setTop (mkF m 220 #[.val (.int p1), .val (.int p2), .val (.int p3), .val (.int p4), .val (.ref b55), .val (.ref b60), .val (.ref b66), .val (.ref b72), .val (.ref b72), .val (.int (1 : Int32)), .val (.ref b261), .val (.ref b265), .val (.ref b269), .val (.ref x292)] [(.ref b265)])) _
      have f307 := ((((((A265.keep K268).ext E269).ext E270).keep K280).keep K289).keep K292)
      obtain ⟨T308, X308, e308, st308⟩ := castY X306 hx hZ289 hown289 (hw _ (List.mem_of_getElem? (i := 30) rfl)) e306 (Ins.self f307) (g := (mkF m 220 #[.val (.int p1), .val (.int p2), .val (.int p3), .val (.int p4), .val (.ref b55), .val (.ref b60), .val (.ref b66), .val (.ref b72), .val (.ref b72), .val (.int (1 : Int32)), .val (.ref b261), .val (.ref b265), .val (.ref b269), .val (.ref x292)] [(.ref b265)])) rfl rfl (hb hby at_220)
      refine own_go st308 ?_
      show own_Go p e below (T308.setTop (mkF m 223 #[.val (.int p1), .val (.int p2), .val (.int p3), .val (.int p4), .val (.ref b55), .val (.ref b60), .val (.ref b66), .val (.ref b72), .val (.ref b72), .val (.int (1 : Int32)), .val (.ref b261), .val (.ref b265), .val (.ref b269), .val (.ref x292)] [(.ref b265)])) _
      have ne309 : b265 ≠ b270 := Nat.ne_of_lt (Nat.lt_of_lt_of_le (Nat.lt_of_lt_of_le A265.lt (Nat.le_trans K268.1 E269.1)) (Nat.le_of_eq g270.symm))
      have ne310 : b265 ≠ b269 := Nat.ne_of_lt (Nat.lt_of_lt_of_le (Nat.lt_of_lt_of_le A265.lt K268.1) (Nat.le_of_eq g269.symm))
      have f311 := (((((Fk0_268.ext E269).ext E270).keep K280 (ninS ne309 nin0)).keep K289 (ninS ne310 nin0)).keep K292 nin0)
      obtain ⟨cq312, kq312, q312a, q312b, q312c⟩ := isOf hZ289 e308 f307
      obtain ⟨v312, _, ⟨T312, L312, k312, n312⟩, -, X312, ⟨Lc312, hQ312, l312, y312, z312⟩, st312⟩ := X308.virtualBack hx (y := (⟨"com/example/rederive/rederive/Variable", "name", "()Ljava/lang/String;"⟩ : MethodName)) (z := (⟨"com/example/rederive/rederive/Variable", "name", "()Ljava/lang/String;"⟩ : MethodName)) hown289 (mvT hZ289 (hw _ (List.mem_of_getElem? (i := 132) rfl))) (mvT hZ289 (hw _ (List.mem_of_getElem? (i := 133) rfl))) (notFace_of_selects (args := #[]) (mvT hZ289 (hw _ (List.mem_of_getElem? (i := 135) rfl)))) (mvT hZ289 (hw _ (List.mem_of_getElem? (i := 135) rfl))) (mvT hZ289 (hw _ (List.mem_of_getElem? (i := 134) rfl))) (by decide) (backOf (W := 0) (rm_name l Z a0 hw [] b265 b72 T292.heap n0 (f291.keep K292 all0) f307 f311) hZ289 (hw _ (List.mem_of_getElem? (i := 136) rfl)) (hw _ (List.mem_of_getElem? (i := 32) rfl)) (by decide) (by decide)) q312a q312c (g := (mkF m 223 #[.val (.int p1), .val (.int p2), .val (.int p3), .val (.int p4), .val (.ref b55), .val (.ref b60), .val (.ref b66), .val (.ref b72), .val (.ref b72), .val (.int (1 : Int32)), .val (.ref b261), .val (.ref b265), .val (.ref b269), .val (.ref x292)] [(.ref b265)])) rfl (by rw [hml]; rfl) (Steps.refl _) (argsL := []) (rest := []) (lenOf pd_11 rfl) rfl (by show 2 * 0 + _ ≤ _; exact Nat.le_of_eq rfl) (hb hby at_223) (fun _ _ => ⟨rfl, e308, (by decide : 21 + 0 ≤ _), (by decide : 130 + 0 ≤ _)⟩)
      dsimp only [Pt.U, Pt.locs, Pt.cells, Pt.slots] at X312 l312 y312 z312 st312 hQ312
      subst l312 y312 z312
      refine own_gos st312 ?_
      obtain ⟨rfl, Nq312, e312⟩ := hQ312
      have N312 := Fr.app N306 Nq312
      show own_Go p e below (T312.setTop (mkF m 226 #[.val (.int p1), .val (.int p2), .val (.int p3), .val (.int p4), .val (.ref b55), .val (.ref b60), .val (.ref b66), .val (.ref b72), .val (.ref b72), .val (.int (1 : Int32)), .val (.ref b261), .val (.ref b265), .val (.ref b269), .val (.ref x292)] [(.ref b72)])) _
      refine own_go (fun _ k => XS.aload X312.here hx rfl (hb hby at_226) rfl rfl k) ?_
      show own_Go p e below (T312.setTop (mkF m 228 #[.val (.int p1), .val (.int p2), .val (.int p3), .val (.int p4), .val (.ref b55), .val (.ref b60), .val (.ref b66), .val (.ref b72), .val (.ref b72), .val (.int (1 : Int32)), .val (.ref b261), .val (.ref b265), .val (.ref b269), .val (.ref x292)] [(.ref b72), (.ref b72)])) _
      obtain ⟨cq313, kq313, q313a, q313b, q313c⟩ := isOf hZ289 e312 f305
      obtain ⟨v313, _, ⟨T313, L313, k313, n313⟩, -, X313, ⟨Lc313, hQ313, l313, y313, z313⟩, st313⟩ := X312.virtualBack hx (y := (⟨"java/lang/String", "equals", "(Ljava/lang/Object;)Z"⟩ : MethodName)) (z := (⟨"java/lang/String", "equals", "(Ljava/lang/Object;)Z"⟩ : MethodName)) hown289 (mvT hZ289 (hw _ (List.mem_of_getElem? (i := 137) rfl))) (mvT hZ289 (hw _ (List.mem_of_getElem? (i := 138) rfl))) (notFace_of_selects (args := #[]) (mvT hZ289 (hw _ (List.mem_of_getElem? (i := 140) rfl)))) (mvT hZ289 (hw _ (List.mem_of_getElem? (i := 140) rfl))) (mvT hZ289 (hw _ (List.mem_of_getElem? (i := 139) rfl))) (by decide) (backOf (W := 0) (rm_eq l Z a0 hw [] b72 T292.heap n0 (f291.keep K292 all0) ) hZ289 (hw _ (List.mem_of_getElem? (i := 141) rfl)) (hw _ (List.mem_of_getElem? (i := 3) rfl)) (by decide) (by decide)) q313a q313c (g := (mkF m 228 #[.val (.int p1), .val (.int p2), .val (.int p3), .val (.int p4), .val (.ref b55), .val (.ref b60), .val (.ref b66), .val (.ref b72), .val (.ref b72), .val (.int (1 : Int32)), .val (.ref b261), .val (.ref b265), .val (.ref b269), .val (.ref x292)] [(.ref b72), (.ref b72)])) rfl (by rw [hml]; rfl) (Steps.refl _) (argsL := [(.ref b72)]) (rest := []) (lenOf pd_12 rfl) rfl (by show 2 * 0 + _ ≤ _; exact Nat.le_of_eq rfl) (hb hby at_228) (fun _ _ => ⟨rfl, e312, (by decide : 21 + 0 ≤ _), (by decide : 130 + 0 ≤ _)⟩)
      dsimp only [Pt.U, Pt.locs, Pt.cells, Pt.slots] at X313 l313 y313 z313 st313 hQ313
      subst l313 y313 z313
      refine own_gos st313 ?_
      obtain ⟨rfl, Nq313, e313⟩ := hQ313
      have N313 := Fr.app N312 Nq313
      show own_Go p e below (T313.setTop (mkF m 231 #[.val (.int p1), .val (.int p2), .val (.int p3), .val (.int p4), .val (.ref b55), .val (.ref b60), .val (.ref b66), .val (.ref b72), .val (.ref b72), .val (.int (1 : Int32)), .val (.ref b261), .val (.ref b265), .val (.ref b269), .val (.ref x292)] [(.int (1 : Int32))])) _
      refine own_go (fun _ k => XS.ifNo X313.here hx rfl (hb hby at_231) rfl ((if0 _ _).trans (feq (by decide : ¬ ((1 : Int32) = (0 : Int32)))).1) k) ?_
      show own_Go p e below (T313.setTop (mkF m 234 #[.val (.int p1), .val (.int p2), .val (.int p3), .val (.int p4), .val (.ref b55), .val (.ref b60), .val (.ref b66), .val (.ref b72), .val (.ref b72), .val (.int (1 : Int32)), .val (.ref b261), .val (.ref b265), .val (.ref b269), .val (.ref x292)] [])) _
      refine own_go (fun _ k => XS.iconst X313.here hx rfl (hb hby at_234) k) ?_
      show own_Go p e below (T313.setTop (mkF m 235 #[.val (.int p1), .val (.int p2), .val (.int p3), .val (.int p4), .val (.ref b55), .val (.ref b60), .val (.ref b66), .val (.ref b72), .val (.ref b72), .val (.int (1 : Int32)), .val (.ref b261), .val (.ref b265), .val (.ref b269), .val (.ref x292)] [(.int (1 : Int32))])) _
      refine own_go (fun _ k => XS.goto X313.here hx rfl (pc0 := 235) (pc' := 239) rfl (hb hby at_235) (by decide) (by decide) k) ?_
      show own_Go p e below (T313.setTop (mkF m 239 #[.val (.int p1), .val (.int p2), .val (.int p3), .val (.int p4), .val (.ref b55), .val (.ref b60), .val (.ref b66), .val (.ref b72), .val (.ref b72), .val (.int (1 : Int32)), .val (.ref b261), .val (.ref b265), .val (.ref b269), .val (.ref x292)] [(.int (1 : Int32))])) _
      have z314 := (Nat.le_trans (Nat.le_trans (Nat.le_trans (Nat.le_trans z272 E270.1) K280.1) K289.1) K292.1)
      refine own_finW (v := (some (.int (nar .boolean (1 : Int32))))) X313 hh hZ289 hS289 (by rw [e313]; exact (Nat.le_trans (Nat.le_refl _) K292.1)) (fun h => by rw [hrt] at h; cases h) hlk (fun fs hr => retN X313 hx (t := .boolean) hrt (by simp) (hb hby at_239) hr) (QQ := QQ0 n0) ?_ own_hEL e313 (own_chr0 z314) (by decide) (by decide)
      rw [e313]
      exact ⟨rfl, N313⟩

set_option maxRecDepth 65536 in
set_option maxHeartbeats 40000000 in
theorem comes_1 {Post : Tables → Env → Array Value → State → Outcome → State → Prop} (hpost : ∀ tb e args s v u, (limb_1_1.after args s (.returned v) u = true ∧ limb_1_2.after args s (.returned v) u = true ∧ True) → FramedW s (.returned v) u (Jvm.fieldLocs frame_1_writes args s ++ Jvm.arrayLocs frame_1_arrays args s ++ Jvm.staticLocs frame_1_statics s) 48 4288 → Post tb e args s (.returned v) u) :
    ArmFor flags0 classFile x code maxLocals ret World_1 tables_1 room_1 Calls_1 rest_1 Pre_1 Post := by
  intro l hfl _ _ p e ha hc hk s m args below hf hA hF happ hP
  obtain ⟨hcalls, hrest, hpre⟩ := hP
  obtain ⟨-, -, -, hnamed, -, -, -, hat⟩ := (Spec.applies_iff hf).mp happ
  obtain ⟨hg, hn⟩ := and_e (Cond.before_iff.mp (show (Jvm.Cond.and given_1 narrow_1).before args s = true from hpre))
  obtain ⟨hcount, hg0⟩ := and_e hg
  obtain ⟨ha0, hg1⟩ := and_e hg0
  obtain ⟨ha1, hg2⟩ := and_e hg1
  obtain ⟨ha2, hg3⟩ := and_e hg2
  obtain ⟨w0, w1, w2, w3, rfl⟩ : ∃ w0 w1 w2 w3 : Value, args = #[w0, w1, w2, w3] := by
    have hs : args.size = 4 := by simpa [Cond.value, given_1] using hcount
    obtain ⟨L⟩ := args
    match L, hs with
    | [w0, w1, w2, w3], _ => exact ⟨w0, w1, w2, w3, rfl⟩
  have hw := fun d (hd : d ∈ tables_1) => atoms_spec (ws := Jvm.Cond.code x code maxLocals ret :: tables_1) hat d (List.mem_cons_of_mem _ hd)
  obtain ⟨hsets, hown0⟩ := atoms_of _ (rest_1_c_eq ▸ (show rest_1_c.before _ s = true from hrest))
  obtain ⟨i0, e0⟩ := is_v ha0
  obtain rfl : w0 = (.int i0) := Option.some.inj e0
  obtain ⟨i1, e1⟩ := is_v ha1
  obtain rfl : w1 = (.int i1) := Option.some.inj e1
  obtain ⟨i2, e2⟩ := is_v ha2
  obtain rfl : w2 = (.int i2) := Option.some.inj e2
  obtain ⟨i3, e3⟩ := is_v hg3
  obtain rfl : w3 = (.int i3) := Option.some.inj e3
  obtain ⟨i_G1, e_G1⟩ := is_v (Cond.before_iff.mp (hsets _ (List.mem_of_getElem? (i := 1) rfl)))
  have S_G1 : Sta s s.heap "java/lang/String" "COMPACT_STRINGS" "Z" (.int i_G1) := Sta.start e_G1 (Or.inl (hsets _ (List.mem_of_getElem? (i := 0) rfl)))
  have c_G1 : ¬ (i_G1 = (0 : Int32)) := gotF (Cond.eq_ints e_G1 (Term.int_eval (0))) (not_v (Cond.before_iff.mp (hsets _ (List.mem_of_getElem? (i := 2) rfl))))
  obtain ⟨z_E, c_E, cell_E, k_E, eE, -, e3E, -⟩ := Cond.exactly_spec (hsets _ (List.mem_of_getElem? (i := 11) rfl))
  have S_E : Sta s s.heap "java/util/ImmutableCollections" "EMPTY" "Ljava/lang/Object;" (.ref z_E) := Sta.start eE (Or.inl (hsets _ (List.mem_of_getElem? (i := 10) rfl)))
  obtain ⟨n, o, h1, h2, h3, _, L, rfl, ⟨rfl, N⟩, hCH, hq⟩ := rm_law l s _ hw tables_1 i0 i1 i2 i3 i_G1 z_E s.heap s.heap.size (Old.start s) S_G1 c_G1 S_E (Array.getElem?_eq_some_iff.mp e3E).1 p e ha hc hk s m _ below hf ((Spec.applies_iff_loose hf).mp happ).1 ⟨rfl, State.Warmed39.refl s, rfl, own_chv0⟩ trivial
  refine ⟨n, _, h1, h2, h3, hpost _ _ _ _ _ _ ⟨Cond.after_iff.mpr rfl, Cond.after_iff.mpr (eq_i res_at (Term.int_eval (1)) rfl), trivial⟩ ⟨hq.1, hq.2.1, hq.2.2.1, (hq.2.2.2.sift fun y hy => Or.inr (N y hy)).mono (by decide) (by decide)⟩⟩
theorem main_1_1 : Claimed_1_1 := comes_1 fun _ _ _ _ _ _ h hF => ⟨h.1, hF⟩
theorem main_1_2 : Claimed_1_2 := comes_1 fun _ _ _ _ _ _ h hF => ⟨h.2.1, hF⟩
end Jvm.Pilot.@@N@@
namespace Jvm.Pilot.@@N@@
open Jvm Jvm.ClassFile Sem Op Lib Jvm.Free Jvm.Stand Jvm.Pilot.@@N@@.Jvm.D
/-! MADE BY PROGRAM (witnessworld.py) out of the Statement's table words and the real class files: 35 classes; the members and pool entries that the words name. The judged class is class 1, her method 1. -/
namespace start1
open Jvm.ClassFile
def u (s : String) : CpInfo := .utf8 (stringToUtf16 s)
/-- a pool by its gaps: so many unusable entries, then the entry; so many at the end -/
def gap : Nat → List CpInfo → List CpInfo
  | 0, r => r
  | n + 1, r => .unusable :: gap n r
def poolList (es : List (Nat × CpInfo)) (last : Nat) : List CpInfo := es.foldr (fun e r => gap e.1 (e.2 :: r)) (gap last [])
def pool (es : List (Nat × CpInfo)) (last : Nat) : Array CpInfo := ⟨poolList es last⟩
def fileOf (pool : Array CpInfo) (this : Nat) (attrs : Array Attribute := #[]) (ms : Array MethodInfo := #[]) (fl : Nat := 33) (sup : Nat := 0) (ifs : Array Nat := #[]) (fds : Array FieldInfo := #[]) : ClassFile where
  minorVersion := 0
  majorVersion := 65
  constantPool := pool
  accessFlags := fl
  thisClass := this
  superClass := sup
  interfaces := ifs
  fields := fds
  methods := ms
  attributes := attrs
def plain (name : String) (sup : Option ClassId) : Class where
  name := name
  kind := .ordinary
  loader := none
  accessFlags := 33
  super := sup
  interfaces := #[]
  cf := none
  fields := #[]
  methods := #[]
  instanceTypes := #[]
  staticTypes := #[]
  resolved := #[]
  callSites := []
  init := .initialized
  statics := none
  mirror := none

def pool0 : Array CpInfo := pool [(5, u "<init>"), (0, u "()V"), (1, .class_ 10), (1, u "java/lang/Object")] 113

def k0c0 : Code := { maxStack := 0, maxLocals := 1, code := object_method_1_code, exceptionTable := #[], attributes := #[] }
def k0m0 : Method := { name := "<init>", desc := "()V", sig := { parameters := [], returnType := none }, accessFlags := 1, code := some k0c0 }
/-- java/lang/Object -/
def k0 : Class := { plain "java/lang/Object" none with
  accessFlags := 33
  interfaces := #[]
  cf := some (fileOf pool0 8 #[] #[{ accessFlags := 1, nameIndex := 5, descriptorIndex := 6, attributes := #[] }] 33 0 #[] #[])
  fields := #[]
  methods := #[k0m0]
  instanceTypes := #[]
  staticTypes := #[]
  resolved := Array.replicate 124 none
  statics := none }

def pool1 : Array CpInfo := pool [(2, .class_ 4), (1, u "java/lang/Object"), (0, u "<init>"), (0, u "()V"), (0, .class_ 8), (0, u "java/lang/String"), (0, .methodref 7 10), (0, .nameAndType 5 11), (0, u "([C)V"), (0, .class_ 13), (0, u "com/example/rederive/rederive/Variable"), (0, .methodref 12 15), (0, .nameAndType 5 16), (0, u "(Ljava/lang/String;)V"), (0, .class_ 18), (0, u "com/example/rederive/rederive/Constraint$ClosureCall"), (0, .methodref 17 20), (0, .nameAndType 5 21), (0, u "(Ljava/lang/String;Lcom/example/rederive/rederive/Variable;Lcom/example/rederive/rederive/Variable;Z)V"), (0, .methodref 17 23), (0, .nameAndType 24 25), (0, u "variables"), (0, u "()Ljava/util/List;"), (0, .interfaceMethodref 27 28), (0, .class_ 29), (0, .nameAndType 30 31), (0, u "java/util/List"), (0, u "size"), (0, u "()I"), (0, .interfaceMethodref 27 33), (0, .nameAndType 34 35), (0, u "get"), (0, u "(I)Ljava/lang/Object;"), (0, .methodref 12 37), (0, .nameAndType 38 39), (0, u "name"), (0, u "()Ljava/lang/String;"), (0, .methodref 7 41), (0, .nameAndType 42 43), (0, u "equals"), (0, u "(Ljava/lang/Object;)Z"), (0, .class_ 45), (0, u "com/example/rederive/rederive/ClosureCallVariablesPinLaw"), (2, u "law"), (0, u "(IIII)Z")] 9

def k1m0 : Method := { name := "<init>", desc := "()V", sig := { parameters := [], returnType := none }, accessFlags := 2, code := none }
def k1c1 : Code := { maxStack := 6, maxLocals := 14, code := code, exceptionTable := #[], attributes := #[] }
def k1m1 : Method := { name := "law", desc := "(IIII)Z", sig := { parameters := [.int, .int, .int, .int], returnType := some .boolean }, accessFlags := 9, code := some k1c1 }
/-- com/example/rederive/rederive/ClosureCallVariablesPinLaw -/
def k1 : Class := { plain "com/example/rederive/rederive/ClosureCallVariablesPinLaw" (some 0) with
  accessFlags := 49
  interfaces := #[]
  cf := some (fileOf pool1 44 #[] #[{ accessFlags := 2, nameIndex := 5, descriptorIndex := 6, attributes := #[] }, { accessFlags := 9, nameIndex := 48, descriptorIndex := 49, attributes := #[] }] 49 2 #[] #[])
  fields := #[]
  methods := #[k1m0, k1m1]
  instanceTypes := #[]
  staticTypes := #[]
  resolved := Array.replicate 59 none
  statics := none }

def pool2 : Array CpInfo := pool [(1, .class_ 2), (0, u "java/io/Serializable"), (0, .class_ 4), (0, u "java/lang/Object")] 2

/-- java/io/Serializable -/
def k2 : Class := { plain "java/io/Serializable" (some 0) with
  accessFlags := 1537
  interfaces := #[]
  cf := some (fileOf pool2 1 #[] #[] 1537 3 #[] #[])
  fields := #[]
  methods := #[]
  instanceTypes := #[]
  staticTypes := #[]
  resolved := Array.replicate 7 none
  statics := none }

def pool3 : Array CpInfo := pool [(1, .class_ 2), (0, u "java/lang/Comparable"), (0, .class_ 4), (0, u "java/lang/Object")] 7

/-- java/lang/Comparable -/
def k3 : Class := { plain "java/lang/Comparable" (some 0) with
  accessFlags := 1537
  interfaces := #[]
  cf := some (fileOf pool3 1 #[] #[] 1537 3 #[] #[])
  fields := #[]
  methods := #[]
  instanceTypes := #[]
  staticTypes := #[]
  resolved := Array.replicate 12 none
  statics := none }

def pool4 : Array CpInfo := pool [(2, .class_ 4), (1, u "java/lang/CharSequence"), (42, .class_ 48), (0, u "java/lang/CharSequence$1CodePointIterator"), (10, .class_ 60), (0, u "java/lang/CharSequence$1CharIterator"), (5, .class_ 67), (0, u "java/lang/Object")] 63

/-- java/lang/CharSequence -/
def k4 : Class := { plain "java/lang/CharSequence" (some 0) with
  accessFlags := 1537
  interfaces := #[]
  cf := some (fileOf pool4 2 #[.nestMembers #[47, 59]] #[] 1537 66 #[] #[])
  fields := #[]
  methods := #[]
  instanceTypes := #[]
  staticTypes := #[]
  resolved := Array.replicate 131 none
  statics := none }

def pool5 : Array CpInfo := pool [(1, .class_ 2), (0, u "java/lang/constant/Constable"), (0, .class_ 4), (0, u "java/lang/Object")] 6

/-- java/lang/constant/Constable -/
def k5 : Class := { plain "java/lang/constant/Constable" (some 0) with
  accessFlags := 1537
  interfaces := #[]
  cf := some (fileOf pool5 1 #[] #[] 1537 3 #[] #[])
  fields := #[]
  methods := #[]
  instanceTypes := #[]
  staticTypes := #[]
  resolved := Array.replicate 11 none
  statics := none }

def pool6 : Array CpInfo := pool [(1, .class_ 2), (0, u "java/lang/constant/ConstantDesc"), (0, .class_ 4), (0, u "java/lang/Object")] 32

/-- java/lang/constant/ConstantDesc -/
def k6 : Class := { plain "java/lang/constant/ConstantDesc" (some 0) with
  accessFlags := 1537
  interfaces := #[]
  cf := some (fileOf pool6 1 #[] #[] 1537 3 #[] #[])
  fields := #[]
  methods := #[]
  instanceTypes := #[]
  staticTypes := #[]
  resolved := Array.replicate 37 none
  statics := none }

def pool7 : Array CpInfo := pool [(1, .methodref 2 3), (0, .class_ 4), (0, .nameAndType 5 6), (0, u "java/lang/Object"), (0, u "<init>"), (0, u "()V"), (2, .fieldref 10 11), (0, .class_ 12), (0, .nameAndType 13 14), (0, u "java/lang/String"), (0, u "value"), (0, u "[B"), (0, .fieldref 10 16), (0, .nameAndType 17 18), (0, u "coder"), (0, u "B"), (2, u "hash"), (0, u "I"), (2, u "hashIsZero"), (0, u "Z"), (0, .methodref 10 28), (0, .nameAndType 5 29), (0, u "([CIILjava/lang/Void;)V"), (8, .fieldref 10 39), (0, .nameAndType 40 26), (0, u "COMPACT_STRINGS"), (1, .class_ 44), (1, u "java/lang/StringUTF16"), (0, u "compress"), (1, .methodref 42 48), (0, .nameAndType 49 50), (0, u "coderFromArrayLen"), (0, u "([BI)B"), (126, .methodref 42 178), (0, .nameAndType 45 179), (0, u "([CII)[B"), (363, u "equals"), (29, u "(Ljava/lang/Object;)Z"), (1, .class_ 576), (0, u "java/lang/CharSequence"), (22, u "CASE_INSENSITIVE_ORDER"), (0, u "Ljava/util/Comparator;"), (409, u "([C)V"), (90, u "serialPersistentFields"), (0, u "[Ljava/io/ObjectStreamField;"), (0, .class_ 1104), (0, u "java/lang/String$CaseInsensitiveComparator"), (1, .class_ 1107), (0, u "java/io/Serializable"), (0, .class_ 1109), (0, u "java/lang/Comparable"), (0, .class_ 1111), (0, u "java/lang/constant/Constable"), (0, .class_ 1113), (0, u "java/lang/constant/ConstantDesc"), (2, u "serialVersionUID"), (0, u "J"), (3, u "REPL"), (0, u "C"), (2, u "LATIN1"), (1, u "UTF16")] 323

def k7m0 : Method := { name := "<init>", desc := "()V", sig := { parameters := [], returnType := none }, accessFlags := 1, code := none }
def k7c1 : Code := { maxStack := 5, maxLocals := 2, code := jdk_42_method_3_code, exceptionTable := #[], attributes := #[] }
def k7m1 : Method := { name := "<init>", desc := "([C)V", sig := { parameters := [(.array .char)], returnType := none }, accessFlags := 1, code := some k7c1 }
def k7c2 : Code := { maxStack := 2, maxLocals := 3, code := jdk_42_method_66_code, exceptionTable := #[], attributes := #[] }
def k7m2 : Method := { name := "equals", desc := "(Ljava/lang/Object;)Z", sig := { parameters := [(.object "java/lang/Object")], returnType := some .boolean }, accessFlags := 1, code := some k7c2 }
def k7c3 : Code := { maxStack := 4, maxLocals := 6, code := jdk_42_method_149_code, exceptionTable := #[], attributes := #[] }
def k7m3 : Method := { name := "<init>", desc := "([CIILjava/lang/Void;)V", sig := { parameters := [(.array .char), .int, .int, (.object "java/lang/Void")], returnType := none }, accessFlags := 2, code := some k7c3 }
/-- java/lang/String -/
def k7 : Class := { plain "java/lang/String" (some 0) with
  accessFlags := 49
  interfaces := #[2, 3, 4, 5, 6]
  cf := some (fileOf pool7 10 #[.nestMembers #[1103]] #[{ accessFlags := 1, nameIndex := 5, descriptorIndex := 6, attributes := #[] }, { accessFlags := 1, nameIndex := 5, descriptorIndex := 1010, attributes := #[] }, { accessFlags := 1, nameIndex := 543, descriptorIndex := 573, attributes := #[] }, { accessFlags := 2, nameIndex := 5, descriptorIndex := 29, attributes := #[] }] 49 2 #[1106, 1108, 575, 1110, 1112] #[{ accessFlags := 18, nameIndex := 13, descriptorIndex := 14, attributes := #[] }, { accessFlags := 18, nameIndex := 17, descriptorIndex := 18, attributes := #[] }, { accessFlags := 2, nameIndex := 21, descriptorIndex := 22, attributes := #[] }, { accessFlags := 2, nameIndex := 25, descriptorIndex := 26, attributes := #[] }, { accessFlags := 26, nameIndex := 1116, descriptorIndex := 1117, attributes := #[] }, { accessFlags := 24, nameIndex := 40, descriptorIndex := 26, attributes := #[] }, { accessFlags := 26, nameIndex := 1101, descriptorIndex := 1102, attributes := #[] }, { accessFlags := 26, nameIndex := 1121, descriptorIndex := 1122, attributes := #[] }, { accessFlags := 25, nameIndex := 599, descriptorIndex := 600, attributes := #[] }, { accessFlags := 24, nameIndex := 1125, descriptorIndex := 18, attributes := #[] }, { accessFlags := 24, nameIndex := 1127, descriptorIndex := 18, attributes := #[] }])
  fields := #[{ name := "value", type := (.array .byte), accessFlags := 18, slot := 0, constantValue := 0 }, { name := "coder", type := .byte, accessFlags := 18, slot := 1, constantValue := 0 }, { name := "hash", type := .int, accessFlags := 2, slot := 2, constantValue := 0 }, { name := "hashIsZero", type := .boolean, accessFlags := 2, slot := 3, constantValue := 0 }, { name := "serialVersionUID", type := .long, accessFlags := 26, slot := 0, constantValue := 0 }, { name := "COMPACT_STRINGS", type := .boolean, accessFlags := 24, slot := 1, constantValue := 0 }, { name := "serialPersistentFields", type := (.array (.object "java/io/ObjectStreamField")), accessFlags := 26, slot := 2, constantValue := 0 }, { name := "REPL", type := .char, accessFlags := 26, slot := 3, constantValue := 0 }, { name := "CASE_INSENSITIVE_ORDER", type := (.object "java/util/Comparator"), accessFlags := 25, slot := 4, constantValue := 0 }, { name := "LATIN1", type := .byte, accessFlags := 24, slot := 5, constantValue := 0 }, { name := "UTF16", type := .byte, accessFlags := 24, slot := 6, constantValue := 0 }]
  methods := #[k7m0, k7m1, k7m2, k7m3]
  instanceTypes := #[(.array .byte), .byte, .int, .boolean]
  staticTypes := #[.long, .boolean, (.array (.object "java/io/ObjectStreamField")), .char, (.object "java/util/Comparator"), .byte, .byte]
  resolved := Array.replicate 1451 none
  statics := some 0 }

def pool8 : Array CpInfo := pool [(6, .class_ 8), (1, u "java/lang/Object"), (0, u "<init>"), (0, u "()V"), (1, .class_ 14), (1, u "java/lang/StringUTF16"), (31, u "$assertionsDisabled"), (0, u "Z"), (13, u "HI_BYTE_SHIFT"), (0, u "I"), (2, u "LO_BYTE_SHIFT"), (49, .methodref 12 116), (0, .nameAndType 117 118), (0, u "compress"), (0, u "([CI[BII)I"), (3, u "([CII)[B"), (138, u "coderFromArrayLen"), (0, u "([BI)B"), (106, .class_ 371), (1, u "java/lang/StringUTF16$LinesSpliterator"), (58, u "MAX_LENGTH"), (196, .class_ 628), (0, u "java/lang/StringUTF16$CodePointsSpliterator"), (0, .class_ 630), (0, u "java/lang/StringUTF16$CharsSpliterator")] 4

def k8m0 : Method := { name := "<init>", desc := "()V", sig := { parameters := [], returnType := none }, accessFlags := 0, code := none }
def k8c1 : Code := { maxStack := 2, maxLocals := 2, code := jdk_52_method_15_code, exceptionTable := #[], attributes := #[] }
def k8m1 : Method := { name := "coderFromArrayLen", desc := "([BI)B", sig := { parameters := [(.array .byte), .int], returnType := some .byte }, accessFlags := 8, code := some k8c1 }
def k8c2 : Code := { maxStack := 5, maxLocals := 6, code := jdk_52_method_16_code, exceptionTable := #[], attributes := #[] }
def k8m2 : Method := { name := "compress", desc := "([CII)[B", sig := { parameters := [(.array .char), .int, .int], returnType := some (.array .byte) }, accessFlags := 9, code := some k8c2 }
def k8c3 : Code := { maxStack := 3, maxLocals := 7, code := jdk_52_method_21_code, exceptionTable := #[], attributes := #[] }
def k8m3 : Method := { name := "compress", desc := "([CI[BII)I", sig := { parameters := [(.array .char), .int, (.array .byte), .int, .int], returnType := some .int }, accessFlags := 9, code := some k8c3 }
/-- java/lang/StringUTF16 -/
def k8 : Class := { plain "java/lang/StringUTF16" (some 0) with
  accessFlags := 48
  interfaces := #[]
  cf := some (fileOf pool8 12 #[.nestMembers #[627, 629, 369]] #[{ accessFlags := 0, nameIndex := 9, descriptorIndex := 10, attributes := #[] }, { accessFlags := 8, nameIndex := 261, descriptorIndex := 262, attributes := #[] }, { accessFlags := 9, nameIndex := 117, descriptorIndex := 122, attributes := #[] }, { accessFlags := 9, nameIndex := 117, descriptorIndex := 118, attributes := #[] }] 48 6 #[] #[{ accessFlags := 26, nameIndex := 61, descriptorIndex := 62, attributes := #[] }, { accessFlags := 26, nameIndex := 65, descriptorIndex := 62, attributes := #[] }, { accessFlags := 24, nameIndex := 430, descriptorIndex := 62, attributes := #[] }, { accessFlags := 4120, nameIndex := 46, descriptorIndex := 47, attributes := #[] }])
  fields := #[{ name := "HI_BYTE_SHIFT", type := .int, accessFlags := 26, slot := 0, constantValue := 0 }, { name := "LO_BYTE_SHIFT", type := .int, accessFlags := 26, slot := 1, constantValue := 0 }, { name := "MAX_LENGTH", type := .int, accessFlags := 24, slot := 2, constantValue := 0 }, { name := "$assertionsDisabled", type := .boolean, accessFlags := 4120, slot := 3, constantValue := 0 }]
  methods := #[k8m0, k8m1, k8m2, k8m3]
  instanceTypes := #[]
  staticTypes := #[.int, .int, .int, .boolean]
  resolved := Array.replicate 635 none
  statics := none }

def pool9 : Array CpInfo := pool [(1, .methodref 2 3), (0, .class_ 4), (0, .nameAndType 5 6), (0, u "java/lang/Object"), (0, u "<init>"), (0, u "()V"), (0, .class_ 8), (0, u "java/lang/Record")] 13

def k9c0 : Code := { maxStack := 1, maxLocals := 1, code := jdk_30_method_1_code, exceptionTable := #[], attributes := #[] }
def k9m0 : Method := { name := "<init>", desc := "()V", sig := { parameters := [], returnType := none }, accessFlags := 4, code := some k9c0 }
/-- java/lang/Record -/
def k9 : Class := { plain "java/lang/Record" (some 0) with
  accessFlags := 1057
  interfaces := #[]
  cf := some (fileOf pool9 7 #[] #[{ accessFlags := 4, nameIndex := 5, descriptorIndex := 6, attributes := #[] }] 1057 2 #[] #[])
  fields := #[]
  methods := #[k9m0]
  instanceTypes := #[]
  staticTypes := #[]
  resolved := Array.replicate 22 none
  statics := none }

def pool10 : Array CpInfo := pool [(1, .methodref 2 3), (0, .class_ 4), (0, .nameAndType 5 6), (0, u "java/lang/Record"), (0, u "<init>"), (0, u "()V"), (0, .string 8), (0, u "name"), (0, .methodref 10 11), (0, .class_ 12), (0, .nameAndType 13 14), (0, u "java/util/Objects"), (0, u "requireNonNull"), (0, u "(Ljava/lang/Object;Ljava/lang/String;)Ljava/lang/Object;"), (0, .fieldref 16 17), (0, .class_ 18), (0, .nameAndType 8 19), (0, u "com/example/rederive/rederive/Variable"), (0, u "Ljava/lang/String;"), (6, u "(Ljava/lang/String;)V"), (22, u "ANONYMOUS_PREFIX"), (7, u "()Ljava/lang/String;")] 29

def k10c0 : Code := { maxStack := 2, maxLocals := 2, code := prog_77_method_1_code, exceptionTable := #[], attributes := #[] }
def k10m0 : Method := { name := "<init>", desc := "(Ljava/lang/String;)V", sig := { parameters := [(.object "java/lang/String")], returnType := none }, accessFlags := 1, code := some k10c0 }
def k10c1 : Code := { maxStack := 1, maxLocals := 1, code := prog_77_method_7_code, exceptionTable := #[], attributes := #[] }
def k10m1 : Method := { name := "name", desc := "()Ljava/lang/String;", sig := { parameters := [], returnType := some (.object "java/lang/String") }, accessFlags := 1, code := some k10c1 }
/-- com/example/rederive/rederive/Variable -/
def k10 : Class := { plain "com/example/rederive/rederive/Variable" (some 9) with
  accessFlags := 49
  interfaces := #[]
  cf := some (fileOf pool10 16 #[] #[{ accessFlags := 1, nameIndex := 5, descriptorIndex := 26, attributes := #[] }, { accessFlags := 1, nameIndex := 8, descriptorIndex := 57, attributes := #[] }] 49 2 #[] #[{ accessFlags := 18, nameIndex := 8, descriptorIndex := 19, attributes := #[] }, { accessFlags := 26, nameIndex := 49, descriptorIndex := 19, attributes := #[] }])
  fields := #[{ name := "name", type := (.object "java/lang/String"), accessFlags := 18, slot := 0, constantValue := 0 }, { name := "ANONYMOUS_PREFIX", type := (.object "java/lang/String"), accessFlags := 26, slot := 0, constantValue := 0 }]
  methods := #[k10m0, k10m1]
  instanceTypes := #[(.object "java/lang/String")]
  staticTypes := #[(.object "java/lang/String")]
  resolved := Array.replicate 87 none
  statics := none }

def pool11 : Array CpInfo := pool [(2, .class_ 4), (1, u "java/lang/Object"), (0, u "<init>"), (0, u "()V"), (35, .class_ 44), (1, u "java/util/Objects"), (0, u "requireNonNull"), (0, u "(Ljava/lang/Object;)Ljava/lang/Object;"), (47, u "(Ljava/lang/Object;Ljava/lang/String;)Ljava/lang/Object;")] 89

def k11m0 : Method := { name := "<init>", desc := "()V", sig := { parameters := [], returnType := none }, accessFlags := 2, code := none }
def k11c1 : Code := { maxStack := 2, maxLocals := 1, code := jdk_31_method_10_code, exceptionTable := #[], attributes := #[] }
def k11m1 : Method := { name := "requireNonNull", desc := "(Ljava/lang/Object;)Ljava/lang/Object;", sig := { parameters := [(.object "java/lang/Object")], returnType := some (.object "java/lang/Object") }, accessFlags := 9, code := some k11c1 }
def k11c2 : Code := { maxStack := 3, maxLocals := 2, code := jdk_31_method_11_code, exceptionTable := #[], attributes := #[] }
def k11m2 : Method := { name := "requireNonNull", desc := "(Ljava/lang/Object;Ljava/lang/String;)Ljava/lang/Object;", sig := { parameters := [(.object "java/lang/Object"), (.object "java/lang/String")], returnType := some (.object "java/lang/Object") }, accessFlags := 9, code := some k11c2 }
/-- java/util/Objects -/
def k11 : Class := { plain "java/util/Objects" (some 0) with
  accessFlags := 49
  interfaces := #[]
  cf := some (fileOf pool11 42 #[] #[{ accessFlags := 2, nameIndex := 5, descriptorIndex := 6, attributes := #[] }, { accessFlags := 9, nameIndex := 45, descriptorIndex := 46, attributes := #[] }, { accessFlags := 9, nameIndex := 45, descriptorIndex := 94, attributes := #[] }] 49 2 #[] #[])
  fields := #[]
  methods := #[k11m0, k11m1, k11m2]
  instanceTypes := #[]
  staticTypes := #[]
  resolved := Array.replicate 184 none
  statics := none }

def pool12 : Array CpInfo := pool [(1, .class_ 2), (0, u "com/example/rederive/rederive/Constraint"), (0, .class_ 4), (0, u "java/lang/Object"), (7, .class_ 13), (0, u "com/example/rederive/rederive/Constraint$Eval"), (0, .class_ 15), (0, u "com/example/rederive/rederive/Constraint$Check"), (0, .class_ 17), (0, u "com/example/rederive/rederive/Constraint$Constant"), (0, .class_ 19), (0, u "com/example/rederive/rederive/Constraint$Aggregate"), (0, .class_ 21), (0, u "com/example/rederive/rederive/Constraint$Aggregate$Function"), (0, .class_ 23), (0, u "com/example/rederive/rederive/Constraint$ClosureCall"), (0, .class_ 25), (0, u "com/example/rederive/rederive/Constraint$NegativeCall"), (0, .class_ 27), (0, u "com/example/rederive/rederive/Constraint$Path"), (0, .class_ 29), (0, u "com/example/rederive/rederive/Constraint$ValueKind"), (0, .class_ 31), (0, u "com/example/rederive/rederive/Constraint$ValueKind$Kind"), (0, .class_ 33), (0, u "com/example/rederive/rederive/Constraint$NotEqual"), (0, .class_ 35), (0, u "com/example/rederive/rederive/Constraint$Equal"), (0, .class_ 37), (0, u "com/example/rederive/rederive/Constraint$Call"), (0, .class_ 39), (0, u "com/example/rederive/rederive/Constraint$Relation")] 16

/-- com/example/rederive/rederive/Constraint -/
def k12 : Class := { plain "com/example/rederive/rederive/Constraint" (some 0) with
  accessFlags := 1537
  interfaces := #[]
  cf := some (fileOf pool12 1 #[.nestMembers #[12, 14, 16, 18, 20, 22, 24, 26, 28, 30, 32, 34, 36, 38]] #[] 1537 3 #[] #[])
  fields := #[]
  methods := #[]
  instanceTypes := #[]
  staticTypes := #[]
  resolved := Array.replicate 56 none
  statics := none }

def pool13 : Array CpInfo := pool [(1, .methodref 2 3), (0, .class_ 4), (0, .nameAndType 5 6), (0, u "java/lang/Record"), (0, u "<init>"), (0, u "()V"), (0, .string 8), (0, u "pattern"), (0, .methodref 10 11), (0, .class_ 12), (0, .nameAndType 13 14), (0, u "java/util/Objects"), (0, u "requireNonNull"), (0, u "(Ljava/lang/Object;Ljava/lang/String;)Ljava/lang/Object;"), (0, .string 16), (0, u "from"), (0, .string 18), (0, u "to"), (0, .fieldref 20 21), (0, .class_ 22), (0, .nameAndType 8 23), (0, u "com/example/rederive/rederive/Constraint$ClosureCall"), (0, u "Ljava/lang/String;"), (0, .fieldref 20 25), (0, .nameAndType 16 26), (0, u "Lcom/example/rederive/rederive/Variable;"), (0, .fieldref 20 28), (0, .nameAndType 18 26), (0, .fieldref 20 30), (0, .nameAndType 31 32), (0, u "reflexive"), (0, u "Z"), (0, .interfaceMethodref 34 35), (0, .class_ 36), (0, .nameAndType 37 38), (0, u "java/util/List"), (0, u "of"), (0, u "(Ljava/lang/Object;Ljava/lang/Object;)Ljava/util/List;"), (20, .class_ 60), (0, u "com/example/rederive/rederive/Constraint"), (0, u "(Ljava/lang/String;Lcom/example/rederive/rederive/Variable;Lcom/example/rederive/rederive/Variable;Z)V"), (3, u "variables"), (0, u "()Ljava/util/List;")] 44

def k13c0 : Code := { maxStack := 2, maxLocals := 5, code := prog_34_method_1_code, exceptionTable := #[], attributes := #[] }
def k13m0 : Method := { name := "<init>", desc := "(Ljava/lang/String;Lcom/example/rederive/rederive/Variable;Lcom/example/rederive/rederive/Variable;Z)V", sig := { parameters := [(.object "java/lang/String"), (.object "com/example/rederive/rederive/Variable"), (.object "com/example/rederive/rederive/Variable"), .boolean], returnType := none }, accessFlags := 1, code := some k13c0 }
def k13c1 : Code := { maxStack := 2, maxLocals := 1, code := prog_34_method_2_code, exceptionTable := #[], attributes := #[] }
def k13m1 : Method := { name := "variables", desc := "()Ljava/util/List;", sig := { parameters := [], returnType := some (.object "java/util/List") }, accessFlags := 1, code := some k13c1 }
/-- com/example/rederive/rederive/Constraint$ClosureCall -/
def k13 : Class := { plain "com/example/rederive/rederive/Constraint$ClosureCall" (some 9) with
  accessFlags := 49
  interfaces := #[12]
  cf := some (fileOf pool13 20 #[.nestHost 59] #[{ accessFlags := 1, nameIndex := 5, descriptorIndex := 61, attributes := #[] }, { accessFlags := 1, nameIndex := 65, descriptorIndex := 66, attributes := #[] }] 49 2 #[59] #[{ accessFlags := 18, nameIndex := 8, descriptorIndex := 23, attributes := #[] }, { accessFlags := 18, nameIndex := 16, descriptorIndex := 26, attributes := #[] }, { accessFlags := 18, nameIndex := 18, descriptorIndex := 26, attributes := #[] }, { accessFlags := 18, nameIndex := 31, descriptorIndex := 32, attributes := #[] }])
  fields := #[{ name := "pattern", type := (.object "java/lang/String"), accessFlags := 18, slot := 0, constantValue := 0 }, { name := "from", type := (.object "com/example/rederive/rederive/Variable"), accessFlags := 18, slot := 1, constantValue := 0 }, { name := "to", type := (.object "com/example/rederive/rederive/Variable"), accessFlags := 18, slot := 2, constantValue := 0 }, { name := "reflexive", type := .boolean, accessFlags := 18, slot := 3, constantValue := 0 }]
  methods := #[k13m0, k13m1]
  instanceTypes := #[(.object "java/lang/String"), (.object "com/example/rederive/rederive/Variable"), (.object "com/example/rederive/rederive/Variable"), .boolean]
  staticTypes := #[]
  resolved := Array.replicate 111 none
  statics := none }

def pool14 : Array CpInfo := pool [(8, .class_ 10), (1, u "java/lang/Iterable"), (24, .class_ 36), (0, u "java/lang/Object")] 25

/-- java/lang/Iterable -/
def k14 : Class := { plain "java/lang/Iterable" (some 0) with
  accessFlags := 1537
  interfaces := #[]
  cf := some (fileOf pool14 8 #[] #[] 1537 35 #[] #[])
  fields := #[]
  methods := #[]
  instanceTypes := #[]
  staticTypes := #[]
  resolved := Array.replicate 62 none
  statics := none }

def pool15 : Array CpInfo := pool [(10, .class_ 12), (1, u "java/util/Collection"), (47, .class_ 61), (0, u "java/lang/Object"), (0, .class_ 63), (0, u "java/lang/Iterable")] 51

/-- java/util/Collection -/
def k15 : Class := { plain "java/util/Collection" (some 0) with
  accessFlags := 1537
  interfaces := #[14]
  cf := some (fileOf pool15 10 #[] #[] 1537 60 #[62] #[])
  fields := #[]
  methods := #[]
  instanceTypes := #[]
  staticTypes := #[]
  resolved := Array.replicate 115 none
  statics := none }

def pool16 : Array CpInfo := pool [(8, .class_ 10), (1, u "java/util/SequencedCollection"), (15, .class_ 27), (0, u "java/lang/Object"), (0, .class_ 29), (0, u "java/util/Collection")] 27

/-- java/util/SequencedCollection -/
def k16 : Class := { plain "java/util/SequencedCollection" (some 0) with
  accessFlags := 1537
  interfaces := #[15]
  cf := some (fileOf pool16 8 #[] #[] 1537 26 #[28] #[])
  fields := #[]
  methods := #[]
  instanceTypes := #[]
  staticTypes := #[]
  resolved := Array.replicate 57 none
  statics := none }

def pool17 : Array CpInfo := pool [(8, .class_ 10), (1, u "java/util/List"), (37, u "<init>"), (26, u "get"), (0, u "(I)Ljava/lang/Object;"), (2, u "size"), (0, u "()I"), (7, u "of"), (7, .class_ 97), (0, u "java/util/ImmutableCollections$List12"), (2, .methodref 96 101), (0, .nameAndType 48 102), (0, u "(Ljava/lang/Object;Ljava/lang/Object;)V"), (0, .class_ 104), (0, u "java/lang/Object"), (15, .class_ 121), (0, u "java/util/SequencedCollection"), (79, u "(Ljava/lang/Object;Ljava/lang/Object;)Ljava/util/List;")] 49

def k17m0 : Method := { name := "size", desc := "()I", sig := { parameters := [], returnType := some .int }, accessFlags := 1025, code := none }
def k17m1 : Method := { name := "get", desc := "(I)Ljava/lang/Object;", sig := { parameters := [.int], returnType := some (.object "java/lang/Object") }, accessFlags := 1025, code := none }
def k17c2 : Code := { maxStack := 4, maxLocals := 2, code := jdk_40_method_38_code, exceptionTable := #[], attributes := #[] }
def k17m2 : Method := { name := "of", desc := "(Ljava/lang/Object;Ljava/lang/Object;)Ljava/util/List;", sig := { parameters := [(.object "java/lang/Object"), (.object "java/lang/Object")], returnType := some (.object "java/util/List") }, accessFlags := 9, code := some k17c2 }
/-- java/util/List -/
def k17 : Class := { plain "java/util/List" (some 0) with
  accessFlags := 1537
  interfaces := #[16]
  cf := some (fileOf pool17 8 #[] #[{ accessFlags := 1025, nameIndex := 79, descriptorIndex := 80, attributes := #[] }, { accessFlags := 1025, nameIndex := 75, descriptorIndex := 76, attributes := #[] }, { accessFlags := 9, nameIndex := 88, descriptorIndex := 201, attributes := #[] }] 1537 103 #[120] #[])
  fields := #[]
  methods := #[k17m0, k17m1, k17m2]
  instanceTypes := #[]
  staticTypes := #[]
  resolved := Array.replicate 251 none
  statics := none }

def pool18 : Array CpInfo := pool [(1, .methodref 2 3), (0, .class_ 4), (0, .nameAndType 5 6), (0, u "java/lang/Object"), (0, u "<init>"), (0, u "()V"), (1, .class_ 10), (1, u "java/util/AbstractCollection"), (66, .class_ 78), (0, u "java/util/Collection")] 81

def k18c0 : Code := { maxStack := 1, maxLocals := 1, code := jdk_22_method_1_code, exceptionTable := #[], attributes := #[] }
def k18m0 : Method := { name := "<init>", desc := "()V", sig := { parameters := [], returnType := none }, accessFlags := 4, code := some k18c0 }
/-- java/util/AbstractCollection -/
def k18 : Class := { plain "java/util/AbstractCollection" (some 0) with
  accessFlags := 1057
  interfaces := #[15]
  cf := some (fileOf pool18 8 #[] #[{ accessFlags := 4, nameIndex := 5, descriptorIndex := 6, attributes := #[] }] 1057 2 #[77] #[])
  fields := #[]
  methods := #[k18m0]
  instanceTypes := #[]
  staticTypes := #[]
  resolved := Array.replicate 160 none
  statics := none }

def pool19 : Array CpInfo := pool [(1, .methodref 2 3), (0, .class_ 4), (0, .nameAndType 5 6), (0, u "java/util/AbstractCollection"), (0, u "<init>"), (0, u "()V"), (1, .class_ 10), (1, u "java/util/ImmutableCollections"), (2, .class_ 14), (0, u "java/util/ImmutableCollections$AbstractImmutableCollection")] 41

def k19c0 : Code := { maxStack := 1, maxLocals := 1, code := jdk_47_method_1_code, exceptionTable := #[], attributes := #[] }
def k19m0 : Method := { name := "<init>", desc := "()V", sig := { parameters := [], returnType := none }, accessFlags := 0, code := some k19c0 }
/-- java/util/ImmutableCollections$AbstractImmutableCollection -/
def k19 : Class := { plain "java/util/ImmutableCollections$AbstractImmutableCollection" (some 18) with
  accessFlags := 1056
  interfaces := #[]
  cf := some (fileOf pool19 13 #[.nestHost 8] #[{ accessFlags := 0, nameIndex := 5, descriptorIndex := 6, attributes := #[] }] 1056 2 #[] #[])
  fields := #[]
  methods := #[k19m0]
  instanceTypes := #[]
  staticTypes := #[]
  resolved := Array.replicate 56 none
  statics := none }

def pool20 : Array CpInfo := pool [(1, .class_ 2), (0, u "java/util/RandomAccess"), (0, .class_ 4), (0, u "java/lang/Object")] 2

/-- java/util/RandomAccess -/
def k20 : Class := { plain "java/util/RandomAccess" (some 0) with
  accessFlags := 1537
  interfaces := #[]
  cf := some (fileOf pool20 1 #[] #[] 1537 3 #[] #[])
  fields := #[]
  methods := #[]
  instanceTypes := #[]
  staticTypes := #[]
  resolved := Array.replicate 7 none
  statics := none }

def pool21 : Array CpInfo := pool [(1, .methodref 2 3), (0, .class_ 4), (0, .nameAndType 5 6), (0, u "java/util/ImmutableCollections$AbstractImmutableCollection"), (0, u "<init>"), (0, u "()V"), (1, .class_ 10), (1, u "java/util/ImmutableCollections"), (3, .class_ 16), (1, u "java/util/ImmutableCollections$AbstractImmutableList"), (60, .class_ 78), (0, u "java/util/List"), (45, .class_ 125), (0, u "java/util/RandomAccess")] 70

def k21c0 : Code := { maxStack := 1, maxLocals := 1, code := jdk_46_method_1_code, exceptionTable := #[], attributes := #[] }
def k21m0 : Method := { name := "<init>", desc := "()V", sig := { parameters := [], returnType := none }, accessFlags := 0, code := some k21c0 }
/-- java/util/ImmutableCollections$AbstractImmutableList -/
def k21 : Class := { plain "java/util/ImmutableCollections$AbstractImmutableList" (some 19) with
  accessFlags := 1056
  interfaces := #[17, 20]
  cf := some (fileOf pool21 14 #[.nestHost 8] #[{ accessFlags := 0, nameIndex := 5, descriptorIndex := 6, attributes := #[] }] 1056 2 #[77, 124] #[])
  fields := #[]
  methods := #[k21m0]
  instanceTypes := #[]
  staticTypes := #[]
  resolved := Array.replicate 196 none
  statics := none }

def pool22 : Array CpInfo := pool [(1, .methodref 2 3), (0, .class_ 4), (0, .nameAndType 5 6), (0, u "java/util/ImmutableCollections$AbstractImmutableList"), (0, u "<init>"), (0, u "()V"), (0, .methodref 8 9), (0, .class_ 10), (0, .nameAndType 11 12), (0, u "java/util/Objects"), (0, u "requireNonNull"), (0, u "(Ljava/lang/Object;)Ljava/lang/Object;"), (0, .fieldref 14 15), (0, .class_ 16), (0, .nameAndType 17 18), (0, u "java/util/ImmutableCollections$List12"), (0, u "e0"), (0, u "Ljava/lang/Object;"), (0, .fieldref 20 21), (0, .class_ 22), (0, .nameAndType 23 18), (0, u "java/util/ImmutableCollections"), (0, u "EMPTY"), (0, .fieldref 14 25), (0, .nameAndType 26 18), (0, u "e1"), (24, u "size"), (0, u "()I"), (17, .class_ 71), (0, u "java/io/Serializable"), (13, u "(Ljava/lang/Object;Ljava/lang/Object;)V"), (4, u "get"), (0, u "(I)Ljava/lang/Object;")] 33

def k22c0 : Code := { maxStack := 2, maxLocals := 3, code := jdk_44_method_2_code, exceptionTable := #[], attributes := #[] }
def k22m0 : Method := { name := "<init>", desc := "(Ljava/lang/Object;Ljava/lang/Object;)V", sig := { parameters := [(.object "java/lang/Object"), (.object "java/lang/Object")], returnType := none }, accessFlags := 0, code := some k22c0 }
def k22c1 : Code := { maxStack := 2, maxLocals := 1, code := jdk_44_method_3_code, exceptionTable := #[], attributes := #[] }
def k22m1 : Method := { name := "size", desc := "()I", sig := { parameters := [], returnType := some .int }, accessFlags := 1, code := some k22c1 }
def k22c2 : Code := { maxStack := 2, maxLocals := 2, code := jdk_44_method_5_code, exceptionTable := #[], attributes := #[] }
def k22m2 : Method := { name := "get", desc := "(I)Ljava/lang/Object;", sig := { parameters := [.int], returnType := some (.object "java/lang/Object") }, accessFlags := 1, code := some k22c2 }
/-- java/util/ImmutableCollections$List12 -/
def k22 : Class := { plain "java/util/ImmutableCollections$List12" (some 21) with
  accessFlags := 48
  interfaces := #[2]
  cf := some (fileOf pool22 14 #[.nestHost 20] #[{ accessFlags := 0, nameIndex := 5, descriptorIndex := 85, attributes := #[] }, { accessFlags := 1, nameIndex := 51, descriptorIndex := 52, attributes := #[] }, { accessFlags := 1, nameIndex := 90, descriptorIndex := 91, attributes := #[] }] 48 2 #[70] #[{ accessFlags := 18, nameIndex := 17, descriptorIndex := 18, attributes := #[] }, { accessFlags := 18, nameIndex := 26, descriptorIndex := 18, attributes := #[] }])
  fields := #[{ name := "e0", type := (.object "java/lang/Object"), accessFlags := 18, slot := 0, constantValue := 0 }, { name := "e1", type := (.object "java/lang/Object"), accessFlags := 18, slot := 1, constantValue := 0 }]
  methods := #[k22m0, k22m1, k22m2]
  instanceTypes := #[(.object "java/lang/Object"), (.object "java/lang/Object")]
  staticTypes := #[]
  resolved := Array.replicate 125 none
  statics := none }

def pool23 : Array CpInfo := pool [(2, .class_ 4), (1, u "java/lang/Object"), (0, u "<init>"), (0, u "()V"), (3, .class_ 11), (0, u "java/util/ImmutableCollections$List12"), (0, .class_ 13), (0, u "java/util/ImmutableCollections$ListN"), (3, u "Z"), (29, .class_ 49), (1, u "java/util/ImmutableCollections"), (0, u "$assertionsDisabled"), (5, u "[Ljava/lang/Object;"), (5, u "EMPTY_LIST"), (0, u "Ljava/util/ImmutableCollections$ListN;"), (8, u "EMPTY_LIST_NULLS"), (22, u "SALT32L"), (0, u "J"), (2, u "REVERSE"), (6, u "archivedObjects"), (2, u "EMPTY"), (0, u "Ljava/lang/Object;"), (0, .class_ 112), (0, u "java/util/ImmutableCollections$SetN"), (5, u "EMPTY_SET"), (0, u "Ljava/util/ImmutableCollections$SetN;"), (0, .class_ 121), (0, u "java/util/ImmutableCollections$MapN"), (3, u "EMPTY_MAP"), (0, u "Ljava/util/ImmutableCollections$MapN;"), (4, u "EXPAND_FACTOR"), (0, u "I"), (36, .class_ 170), (0, u "java/util/ImmutableCollections$MapN$MapNIterator"), (0, .class_ 172), (0, u "java/util/ImmutableCollections$MapN$1"), (0, .class_ 174), (0, u "java/util/ImmutableCollections$Map1"), (0, .class_ 176), (0, u "java/util/ImmutableCollections$AbstractImmutableMap"), (0, .class_ 178), (0, u "java/util/ImmutableCollections$SetN$SetNIterator"), (0, .class_ 180), (0, u "java/util/ImmutableCollections$Set12"), (0, .class_ 182), (0, u "java/util/ImmutableCollections$Set12$1"), (0, .class_ 184), (0, u "java/util/ImmutableCollections$AbstractImmutableSet"), (0, .class_ 186), (0, u "java/util/ImmutableCollections$SubList"), (0, .class_ 188), (0, u "java/util/ImmutableCollections$ListItr"), (0, .class_ 190), (0, u "java/util/ImmutableCollections$AbstractImmutableList"), (0, .class_ 192), (0, u "java/util/ImmutableCollections$AbstractImmutableCollection"), (0, .class_ 194), (0, u "java/util/ImmutableCollections$Access"), (0, .class_ 196), (0, u "java/util/ImmutableCollections$Access$1")] 16

def k23m0 : Method := { name := "<init>", desc := "()V", sig := { parameters := [], returnType := none }, accessFlags := 2, code := none }
/-- java/util/ImmutableCollections -/
def k23 : Class := { plain "java/util/ImmutableCollections" (some 0) with
  accessFlags := 32
  interfaces := #[]
  cf := some (fileOf pool23 47 #[.nestMembers #[120, 169, 171, 173, 175, 111, 177, 179, 181, 183, 12, 10, 185, 187, 189, 191, 193, 195]] #[{ accessFlags := 2, nameIndex := 5, descriptorIndex := 6, attributes := #[] }] 32 2 #[] #[{ accessFlags := 26, nameIndex := 95, descriptorIndex := 96, attributes := #[] }, { accessFlags := 26, nameIndex := 99, descriptorIndex := 17, attributes := #[] }, { accessFlags := 10, nameIndex := 106, descriptorIndex := 56, attributes := #[] }, { accessFlags := 26, nameIndex := 109, descriptorIndex := 110, attributes := #[] }, { accessFlags := 24, nameIndex := 62, descriptorIndex := 63, attributes := #[] }, { accessFlags := 24, nameIndex := 72, descriptorIndex := 63, attributes := #[] }, { accessFlags := 24, nameIndex := 118, descriptorIndex := 119, attributes := #[] }, { accessFlags := 24, nameIndex := 125, descriptorIndex := 126, attributes := #[] }, { accessFlags := 24, nameIndex := 131, descriptorIndex := 132, attributes := #[] }, { accessFlags := 4120, nameIndex := 50, descriptorIndex := 17, attributes := #[] }])
  fields := #[{ name := "SALT32L", type := .long, accessFlags := 26, slot := 0, constantValue := 0 }, { name := "REVERSE", type := .boolean, accessFlags := 26, slot := 1, constantValue := 0 }, { name := "archivedObjects", type := (.array (.object "java/lang/Object")), accessFlags := 10, slot := 2, constantValue := 0 }, { name := "EMPTY", type := (.object "java/lang/Object"), accessFlags := 26, slot := 3, constantValue := 0 }, { name := "EMPTY_LIST", type := (.object "java/util/ImmutableCollections$ListN"), accessFlags := 24, slot := 4, constantValue := 0 }, { name := "EMPTY_LIST_NULLS", type := (.object "java/util/ImmutableCollections$ListN"), accessFlags := 24, slot := 5, constantValue := 0 }, { name := "EMPTY_SET", type := (.object "java/util/ImmutableCollections$SetN"), accessFlags := 24, slot := 6, constantValue := 0 }, { name := "EMPTY_MAP", type := (.object "java/util/ImmutableCollections$MapN"), accessFlags := 24, slot := 7, constantValue := 0 }, { name := "EXPAND_FACTOR", type := .int, accessFlags := 24, slot := 8, constantValue := 0 }, { name := "$assertionsDisabled", type := .boolean, accessFlags := 4120, slot := 9, constantValue := 0 }]
  methods := #[k23m0]
  instanceTypes := #[]
  staticTypes := #[.long, .boolean, (.array (.object "java/lang/Object")), (.object "java/lang/Object"), (.object "java/util/ImmutableCollections$ListN"), (.object "java/util/ImmutableCollections$ListN"), (.object "java/util/ImmutableCollections$SetN"), (.object "java/util/ImmutableCollections$MapN"), .int, .boolean]
  resolved := Array.replicate 213 none
  statics := some 1 }

def pool24 : Array CpInfo := pool [(4, .class_ 6), (1, u "java/lang/Object"), (0, u "<init>"), (0, u "()V"), (5, .class_ 16), (1, u "java/lang/StringLatin1"), (104, u "$assertionsDisabled"), (0, u "Z"), (98, .class_ 223), (1, u "java/lang/StringLatin1$LinesSpliterator"), (166, .class_ 391), (0, u "java/lang/StringLatin1$CharsSpliterator")] 3

def k24m0 : Method := { name := "<init>", desc := "()V", sig := { parameters := [], returnType := none }, accessFlags := 0, code := none }
/-- java/lang/StringLatin1 -/
def k24 : Class := { plain "java/lang/StringLatin1" (some 0) with
  accessFlags := 48
  interfaces := #[]
  cf := some (fileOf pool24 14 #[.nestMembers #[390, 221]] #[{ accessFlags := 0, nameIndex := 7, descriptorIndex := 8, attributes := #[] }] 48 4 #[] #[{ accessFlags := 4120, nameIndex := 121, descriptorIndex := 122, attributes := #[] }])
  fields := #[{ name := "$assertionsDisabled", type := .boolean, accessFlags := 4120, slot := 0, constantValue := 0 }]
  methods := #[k24m0]
  instanceTypes := #[]
  staticTypes := #[.boolean]
  resolved := Array.replicate 395 none
  statics := none }

def pool25 : Array CpInfo := pool [(2, .class_ 4), (1, u "java/lang/Object"), (0, u "<init>"), (0, u "()V"), (17, .class_ 26), (1, u "jdk/internal/util/Preconditions"), (28, .class_ 56), (0, u "jdk/internal/util/Preconditions$4"), (57, .class_ 115), (0, u "jdk/internal/util/Preconditions$1"), (7, u "SIOOBE_FORMATTER"), (0, u "Ljava/util/function/BiFunction;"), (0, .class_ 126), (0, u "jdk/internal/util/Preconditions$2"), (3, u "AIOOBE_FORMATTER"), (0, .class_ 132), (0, u "jdk/internal/util/Preconditions$3"), (3, u "IOOBE_FORMATTER")] 57

def k25m0 : Method := { name := "<init>", desc := "()V", sig := { parameters := [], returnType := none }, accessFlags := 1, code := none }
/-- jdk/internal/util/Preconditions -/
def k25 : Class := { plain "jdk/internal/util/Preconditions" (some 0) with
  accessFlags := 33
  interfaces := #[]
  cf := some (fileOf pool25 24 #[.nestMembers #[55, 131, 125, 114]] #[{ accessFlags := 1, nameIndex := 5, descriptorIndex := 6, attributes := #[] }] 33 2 #[] #[{ accessFlags := 25, nameIndex := 123, descriptorIndex := 124, attributes := #[] }, { accessFlags := 25, nameIndex := 130, descriptorIndex := 124, attributes := #[] }, { accessFlags := 25, nameIndex := 136, descriptorIndex := 124, attributes := #[] }])
  fields := #[{ name := "SIOOBE_FORMATTER", type := (.object "java/util/function/BiFunction"), accessFlags := 25, slot := 0, constantValue := 0 }, { name := "AIOOBE_FORMATTER", type := (.object "java/util/function/BiFunction"), accessFlags := 25, slot := 1, constantValue := 0 }, { name := "IOOBE_FORMATTER", type := (.object "java/util/function/BiFunction"), accessFlags := 25, slot := 2, constantValue := 0 }]
  methods := #[k25m0]
  instanceTypes := #[]
  staticTypes := #[(.object "java/util/function/BiFunction"), (.object "java/util/function/BiFunction"), (.object "java/util/function/BiFunction")]
  resolved := Array.replicate 194 none
  statics := some 2 }

def pool26 : Array CpInfo := pool [(9, u "<init>"), (6, .class_ 18), (1, u "java/lang/Object"), (0, u "()V"), (1, .class_ 23), (1, u "jdk/internal/util/ArraysSupport"), (0, u "LOG2_ARRAY_LONG_INDEX_SCALE"), (0, u "I"), (2, u "U"), (0, u "Ljdk/internal/misc/Unsafe;"), (8, u "BIG_ENDIAN"), (0, u "Z"), (8, u "LOG2_BYTE_BIT_SIZE"), (4, u "LOG2_ARRAY_INT_INDEX_SCALE"), (54, u "JLA"), (0, u "Ljdk/internal/access/JavaLangAccess;"), (11, u "LOG2_ARRAY_BOOLEAN_INDEX_SCALE"), (9, u "LOG2_ARRAY_BYTE_INDEX_SCALE"), (5, u "LOG2_ARRAY_CHAR_INDEX_SCALE"), (5, u "LOG2_ARRAY_SHORT_INDEX_SCALE"), (18, u "LOG2_ARRAY_FLOAT_INDEX_SCALE"), (24, u "LOG2_ARRAY_DOUBLE_INDEX_SCALE"), (89, u "T_BOOLEAN"), (2, u "T_CHAR"), (1, u "T_FLOAT"), (1, u "T_DOUBLE"), (1, u "T_BYTE"), (1, u "T_SHORT"), (1, u "T_INT"), (1, u "T_LONG"), (1, u "SOFT_MAX_ARRAY_LENGTH")] 83

def k26m0 : Method := { name := "<init>", desc := "()V", sig := { parameters := [], returnType := none }, accessFlags := 2, code := none }
/-- jdk/internal/util/ArraysSupport -/
def k26 : Class := { plain "jdk/internal/util/ArraysSupport" (some 0) with
  accessFlags := 33
  interfaces := #[]
  cf := some (fileOf pool26 21 #[] #[{ accessFlags := 2, nameIndex := 9, descriptorIndex := 19, attributes := #[] }] 33 16 #[] #[{ accessFlags := 24, nameIndex := 28, descriptorIndex := 29, attributes := #[] }, { accessFlags := 26, nameIndex := 38, descriptorIndex := 39, attributes := #[] }, { accessFlags := 25, nameIndex := 121, descriptorIndex := 25, attributes := #[] }, { accessFlags := 25, nameIndex := 131, descriptorIndex := 25, attributes := #[] }, { accessFlags := 25, nameIndex := 137, descriptorIndex := 25, attributes := #[] }, { accessFlags := 25, nameIndex := 143, descriptorIndex := 25, attributes := #[] }, { accessFlags := 25, nameIndex := 53, descriptorIndex := 25, attributes := #[] }, { accessFlags := 25, nameIndex := 24, descriptorIndex := 25, attributes := #[] }, { accessFlags := 25, nameIndex := 162, descriptorIndex := 25, attributes := #[] }, { accessFlags := 25, nameIndex := 187, descriptorIndex := 25, attributes := #[] }, { accessFlags := 26, nameIndex := 48, descriptorIndex := 25, attributes := #[] }, { accessFlags := 25, nameIndex := 277, descriptorIndex := 25, attributes := #[] }, { accessFlags := 25, nameIndex := 280, descriptorIndex := 25, attributes := #[] }, { accessFlags := 25, nameIndex := 282, descriptorIndex := 25, attributes := #[] }, { accessFlags := 25, nameIndex := 284, descriptorIndex := 25, attributes := #[] }, { accessFlags := 25, nameIndex := 286, descriptorIndex := 25, attributes := #[] }, { accessFlags := 25, nameIndex := 288, descriptorIndex := 25, attributes := #[] }, { accessFlags := 25, nameIndex := 290, descriptorIndex := 25, attributes := #[] }, { accessFlags := 25, nameIndex := 292, descriptorIndex := 25, attributes := #[] }, { accessFlags := 26, nameIndex := 108, descriptorIndex := 109, attributes := #[] }, { accessFlags := 25, nameIndex := 294, descriptorIndex := 25, attributes := #[] }])
  fields := #[{ name := "U", type := (.object "jdk/internal/misc/Unsafe"), accessFlags := 24, slot := 0, constantValue := 0 }, { name := "BIG_ENDIAN", type := .boolean, accessFlags := 26, slot := 1, constantValue := 0 }, { name := "LOG2_ARRAY_BOOLEAN_INDEX_SCALE", type := .int, accessFlags := 25, slot := 2, constantValue := 0 }, { name := "LOG2_ARRAY_BYTE_INDEX_SCALE", type := .int, accessFlags := 25, slot := 3, constantValue := 0 }, { name := "LOG2_ARRAY_CHAR_INDEX_SCALE", type := .int, accessFlags := 25, slot := 4, constantValue := 0 }, { name := "LOG2_ARRAY_SHORT_INDEX_SCALE", type := .int, accessFlags := 25, slot := 5, constantValue := 0 }, { name := "LOG2_ARRAY_INT_INDEX_SCALE", type := .int, accessFlags := 25, slot := 6, constantValue := 0 }, { name := "LOG2_ARRAY_LONG_INDEX_SCALE", type := .int, accessFlags := 25, slot := 7, constantValue := 0 }, { name := "LOG2_ARRAY_FLOAT_INDEX_SCALE", type := .int, accessFlags := 25, slot := 8, constantValue := 0 }, { name := "LOG2_ARRAY_DOUBLE_INDEX_SCALE", type := .int, accessFlags := 25, slot := 9, constantValue := 0 }, { name := "LOG2_BYTE_BIT_SIZE", type := .int, accessFlags := 26, slot := 10, constantValue := 0 }, { name := "T_BOOLEAN", type := .int, accessFlags := 25, slot := 11, constantValue := 0 }, { name := "T_CHAR", type := .int, accessFlags := 25, slot := 12, constantValue := 0 }, { name := "T_FLOAT", type := .int, accessFlags := 25, slot := 13, constantValue := 0 }, { name := "T_DOUBLE", type := .int, accessFlags := 25, slot := 14, constantValue := 0 }, { name := "T_BYTE", type := .int, accessFlags := 25, slot := 15, constantValue := 0 }, { name := "T_SHORT", type := .int, accessFlags := 25, slot := 16, constantValue := 0 }, { name := "T_INT", type := .int, accessFlags := 25, slot := 17, constantValue := 0 }, { name := "T_LONG", type := .int, accessFlags := 25, slot := 18, constantValue := 0 }, { name := "JLA", type := (.object "jdk/internal/access/JavaLangAccess"), accessFlags := 26, slot := 19, constantValue := 0 }, { name := "SOFT_MAX_ARRAY_LENGTH", type := .int, accessFlags := 25, slot := 20, constantValue := 0 }]
  methods := #[k26m0]
  instanceTypes := #[]
  staticTypes := #[(.object "jdk/internal/misc/Unsafe"), .boolean, .int, .int, .int, .int, .int, .int, .int, .int, .int, .int, .int, .int, .int, .int, .int, .int, .int, (.object "jdk/internal/access/JavaLangAccess"), .int]
  resolved := Array.replicate 378 none
  statics := none }

def pool27 : Array CpInfo := pool [(2, .class_ 4), (1, u "java/util/ImmutableCollections$AbstractImmutableList"), (3, .class_ 10), (1, u "java/util/ImmutableCollections$ListN"), (0, u "elements"), (0, u "[Ljava/lang/Object;"), (2, u "allowNulls"), (0, u "Z"), (42, .class_ 60), (0, u "java/io/Serializable"), (53, .class_ 115), (0, u "java/util/ImmutableCollections")] 3

/-- java/util/ImmutableCollections$ListN -/
def k27 : Class := { plain "java/util/ImmutableCollections$ListN" (some 21) with
  accessFlags := 48
  interfaces := #[2]
  cf := some (fileOf pool27 8 #[.nestHost 114] #[] 48 2 #[59] #[{ accessFlags := 18, nameIndex := 11, descriptorIndex := 12, attributes := #[] }, { accessFlags := 18, nameIndex := 15, descriptorIndex := 16, attributes := #[] }])
  fields := #[{ name := "elements", type := (.array (.object "java/lang/Object")), accessFlags := 18, slot := 0, constantValue := 0 }, { name := "allowNulls", type := .boolean, accessFlags := 18, slot := 1, constantValue := 0 }]
  methods := #[]
  instanceTypes := #[(.array (.object "java/lang/Object")), .boolean]
  staticTypes := #[]
  resolved := Array.replicate 119 none
  statics := none }

def pool28 : Array CpInfo := pool [(1, u "java/lang/Cloneable"), (0, .class_ 1), (0, u "java/lang/Object"), (0, .class_ 3)] 3

/-- java/lang/Cloneable -/
def k28 : Class := { plain "java/lang/Cloneable" (some 0) with
  accessFlags := 1537
  interfaces := #[]
  cf := some (fileOf pool28 2 #[] #[] 1537 4 #[] #[])
  fields := #[]
  methods := #[]
  instanceTypes := #[]
  staticTypes := #[]
  resolved := Array.replicate 8 none
  statics := none }

/-- the primitive byte -/
def k29 : Class := { plain "byte" none with kind := .primitive 'B', accessFlags := 0x411 }
/-- [B -/
def k30 : Class := { plain "[B" (some 0) with kind := .array 29 .byte, interfaces := #[28, 2], accessFlags := 1041 }

/-- the primitive char -/
def k31 : Class := { plain "char" none with kind := .primitive 'C', accessFlags := 0x411 }
/-- [C -/
def k32 : Class := { plain "[C" (some 0) with kind := .array 31 .char, interfaces := #[28, 2], accessFlags := 1041 }

/-- the primitive int -/
def k33 : Class := { plain "int" none with kind := .primitive 'I', accessFlags := 0x411 }
/-- [I -/
def k34 : Class := { plain "[I" (some 0) with kind := .array 33 .int, interfaces := #[28, 2], accessFlags := 1041 }

def heap : Heap := #[{ cls := 7, slots := #[.long 0, .int 1, .null, .int 0, .null, .int 0, .int 0], vm := .statics 7 },
  { cls := 23, slots := #[.long 0, .int 0, .null, .ref 3, .ref 4, .null, .null, .null, .int 0, .int 1], vm := .statics 23 },
  { cls := 25, slots := #[.null, .null, .null], vm := .statics 25 },
  { cls := 0, slots := #[], vm := .none },
  { cls := 27, slots := #[.null, .int 0], vm := .none }]
def classes : Array Class := #[k0, k1, k2, k3, k4, k5, k6, k7, k8, k9, k10, k11, k12, k13, k14, k15, k16, k17, k18, k19, k20, k21, k22, k23, k24, k25, k26, k27, k28, k29, k30, k31, k32, k33, k34]
def interned : List (Array UInt16 × Addr) := []
def slotsUsed : Nat := 22
def theMethod : MethodId := ⟨1, 1⟩
def args0 : Array Value := #[.int 5, .int 5, .int 5, .int 5]
def aboutOver (below : List Frame) : State where
  vm := { classes := classes, interned := interned.toArray }
  heap := heap
  slotsUsed := slotsUsed
  threads := #[{ frames := .invoking theMethod args0 :: below }]
def below0 : List Frame := [.native { method := ⟨0, 0⟩, args := #[] }]
def about1 : State := aboutOver below0
def p0 : Program := .bare "" "" ""
def e0 : Env := launch0.env 0 0 0
theorem w_frames : about1.frames = Frame.invoking theMethod args0 :: below0 := rfl
set_option maxRecDepth 65536 in
theorem w_args : argsFit about1.vm theMethod args0 = true := by decide +kernel
set_option maxRecDepth 65536 in
theorem w_heap : heapFits about1 = true := by decide +kernel
set_option maxRecDepth 65536 in
theorem w_runnable : about1.curStatus? = some .runnable := by decide +kernel
set_option maxRecDepth 65536 in
theorem w_alone : about1.alone = true := by decide +kernel
set_option maxRecDepth 65536 in
theorem w_named : about1.methodNamed? x = some theMethod := by decide +kernel
set_option maxRecDepth 65536 in
theorem w_hears : about1.hears theMethod below0 = true := by decide +kernel
set_option maxRecDepth 65536 in
theorem w_ripe : about1.ripe theMethod args0 below0 = true := by decide +kernel
theorem w_running : about1.status = .running := rfl
set_option maxRecDepth 65536 in
theorem w_room : about1.hasRoom e0.platform room_1 = true :=
  launch0.hasRoom_least _ room_1 (by decide +kernel) (by decide +kernel) (by decide +kernel) (by decide +kernel) (by decide +kernel) (by decide +kernel)
theorem allAtoms_all (ts : List Jvm.Cond) (a : Array Jvm.Value) (st : Jvm.State) : (allAtoms ts).before a st = ts.all (fun c => c.before a st) := by
  induction ts with
  | nil => rfl
  | cons c t ih =>
    show (Jvm.Cond.and c (allAtoms t)).before a st = _
    rw [Jvm.Cond.before_and, ih, List.all_cons]
def words1 : List Jvm.Cond := Jvm.Cond.code x code maxLocals ret :: tables_1
/-- a 'code' word, met by the world's own term for the bytes: nothing is compared byte by byte -/
theorem code_word {y : MethodName} {bytes : ByteArray} {mx : Nat} {rt : Option FieldType} {a : Array Value} {s : State} {m : MethodId} {meth : Method} {c : Code} (h1 : s.methodNamed? y = some m) (h2 : s.vm.method? m = some meth) (h3 : meth.code = some c) (h4 : c.code = bytes)
    (h5 : (c.maxLocals == mx && c.exceptionTable.isEmpty && decide (c.maxStack ≤ mostOperands) && decide (meth.sig.returnType = rt) && !meth.locks && decide (parseMethodDescriptor y.desc = some meth.sig)) = true) : (Jvm.Cond.code y bytes mx rt).before a s = true := by
  simp only [Bool.and_eq_true, beq_iff_eq, Bool.not_eq_true', decide_eq_true_eq] at h5
  obtain ⟨⟨⟨⟨⟨g1, g2⟩, g3⟩, g4⟩, g5⟩, g6⟩ := h5
  simp [Cond.before, Cond.holds, Cond.value, h1, h2, h3, h4, g1, g2, g3, g4, g5, g6]
def isCode : Jvm.Cond → Bool
  | .code _ _ _ _ => true
  | _ => false
theorem all_split {L : List Jvm.Cond} {P : Jvm.Cond → Bool} (h1 : L.all (fun c => isCode c || P c) = true) (h2 : ∀ c ∈ L.filter isCode, P c = true) : L.all P = true := by
  refine List.all_eq_true.mpr fun c hc => ?_
  have h := List.all_eq_true.mp h1 c hc
  rcases Bool.eq_false_or_eq_true (isCode c) with hi | hi
  · exact h2 c (List.mem_filter.mpr ⟨hc, hi⟩)
  · simpa [hi] using h
set_option maxRecDepth 65536 in
theorem w_c0 : (Jvm.Cond.code x code maxLocals ret).before args0 about1 = true := code_word (m := ⟨1, 1⟩) (meth := k1m1) (c := k1c1) (by decide +kernel) rfl rfl rfl (by decide +kernel)
set_option maxRecDepth 65536 in
theorem w_c1 : (Jvm.Cond.code ({ cls := "java/lang/String", name := "<init>", desc := "([C)V" } : Jvm.MethodName) jdk_42_method_3_code (2 : Nat) (Option.none : Option Jvm.ClassFile.FieldType)).before args0 about1 = true := code_word (m := ⟨7, 1⟩) (meth := k7m1) (c := k7c1) (by decide +kernel) rfl rfl rfl (by decide +kernel)
set_option maxRecDepth 65536 in
theorem w_c2 : (Jvm.Cond.code ({ cls := "java/lang/String", name := "<init>", desc := "([CIILjava/lang/Void;)V" } : Jvm.MethodName) jdk_42_method_149_code (6 : Nat) (Option.none : Option Jvm.ClassFile.FieldType)).before args0 about1 = true := code_word (m := ⟨7, 3⟩) (meth := k7m3) (c := k7c3) (by decide +kernel) rfl rfl rfl (by decide +kernel)
set_option maxRecDepth 65536 in
theorem w_c3 : (Jvm.Cond.code ({ cls := "java/lang/Object", name := "<init>", desc := "()V" } : Jvm.MethodName) object_method_1_code (1 : Nat) (Option.none : Option Jvm.ClassFile.FieldType)).before args0 about1 = true := code_word (m := ⟨0, 0⟩) (meth := k0m0) (c := k0c0) (by decide +kernel) rfl rfl rfl (by decide +kernel)
set_option maxRecDepth 65536 in
theorem w_c4 : (Jvm.Cond.code ({ cls := "java/lang/StringUTF16", name := "compress", desc := "([CII)[B" } : Jvm.MethodName) jdk_52_method_16_code (6 : Nat) (Option.some (Jvm.ClassFile.FieldType.array Jvm.ClassFile.FieldType.byte))).before args0 about1 = true := code_word (m := ⟨8, 2⟩) (meth := k8m2) (c := k8c2) (by decide +kernel) rfl rfl rfl (by decide +kernel)
set_option maxRecDepth 65536 in
theorem w_c5 : (Jvm.Cond.code ({ cls := "java/lang/StringUTF16", name := "compress", desc := "([CI[BII)I" } : Jvm.MethodName) jdk_52_method_21_code (7 : Nat) (Option.some Jvm.ClassFile.FieldType.int)).before args0 about1 = true := code_word (m := ⟨8, 3⟩) (meth := k8m3) (c := k8c3) (by decide +kernel) rfl rfl rfl (by decide +kernel)
set_option maxRecDepth 65536 in
theorem w_c6 : (Jvm.Cond.code ({ cls := "java/lang/StringUTF16", name := "coderFromArrayLen", desc := "([BI)B" } : Jvm.MethodName) jdk_52_method_15_code (2 : Nat) (Option.some Jvm.ClassFile.FieldType.byte)).before args0 about1 = true := code_word (m := ⟨8, 1⟩) (meth := k8m1) (c := k8c1) (by decide +kernel) rfl rfl rfl (by decide +kernel)
set_option maxRecDepth 65536 in
theorem w_c7 : (Jvm.Cond.code ({ cls := "com/example/rederive/rederive/Variable", name := "<init>", desc := "(Ljava/lang/String;)V" } : Jvm.MethodName) prog_77_method_1_code (2 : Nat) (Option.none : Option Jvm.ClassFile.FieldType)).before args0 about1 = true := code_word (m := ⟨10, 0⟩) (meth := k10m0) (c := k10c0) (by decide +kernel) rfl rfl rfl (by decide +kernel)
set_option maxRecDepth 65536 in
theorem w_c8 : (Jvm.Cond.code ({ cls := "java/lang/Record", name := "<init>", desc := "()V" } : Jvm.MethodName) jdk_30_method_1_code (1 : Nat) (Option.none : Option Jvm.ClassFile.FieldType)).before args0 about1 = true := code_word (m := ⟨9, 0⟩) (meth := k9m0) (c := k9c0) (by decide +kernel) rfl rfl rfl (by decide +kernel)
set_option maxRecDepth 65536 in
theorem w_c9 : (Jvm.Cond.code ({ cls := "java/util/Objects", name := "requireNonNull", desc := "(Ljava/lang/Object;Ljava/lang/String;)Ljava/lang/Object;" } : Jvm.MethodName) jdk_31_method_11_code (2 : Nat) (Option.some (Jvm.ClassFile.FieldType.object "java/lang/Object"))).before args0 about1 = true := code_word (m := ⟨11, 2⟩) (meth := k11m2) (c := k11c2) (by decide +kernel) rfl rfl rfl (by decide +kernel)
set_option maxRecDepth 65536 in
theorem w_c10 : (Jvm.Cond.code ({ cls := "com/example/rederive/rederive/Constraint$ClosureCall", name := "<init>", desc := "(Ljava/lang/String;Lcom/example/rederive/rederive/Variable;Lcom/example/rederive/rederive/Variable;Z)V" } : Jvm.MethodName) prog_34_method_1_code (5 : Nat) (Option.none : Option Jvm.ClassFile.FieldType)).before args0 about1 = true := code_word (m := ⟨13, 0⟩) (meth := k13m0) (c := k13c0) (by decide +kernel) rfl rfl rfl (by decide +kernel)
set_option maxRecDepth 65536 in
theorem w_c11 : (Jvm.Cond.code ({ cls := "com/example/rederive/rederive/Constraint$ClosureCall", name := "variables", desc := "()Ljava/util/List;" } : Jvm.MethodName) prog_34_method_2_code (1 : Nat) (Option.some (Jvm.ClassFile.FieldType.object "java/util/List"))).before args0 about1 = true := code_word (m := ⟨13, 1⟩) (meth := k13m1) (c := k13c1) (by decide +kernel) rfl rfl rfl (by decide +kernel)
set_option maxRecDepth 65536 in
theorem w_c12 : (Jvm.Cond.code ({ cls := "java/util/List", name := "of", desc := "(Ljava/lang/Object;Ljava/lang/Object;)Ljava/util/List;" } : Jvm.MethodName) jdk_40_method_38_code (2 : Nat) (Option.some (Jvm.ClassFile.FieldType.object "java/util/List"))).before args0 about1 = true := code_word (m := ⟨17, 2⟩) (meth := k17m2) (c := k17c2) (by decide +kernel) rfl rfl rfl (by decide +kernel)
set_option maxRecDepth 65536 in
theorem w_c13 : (Jvm.Cond.code ({ cls := "java/util/ImmutableCollections$List12", name := "<init>", desc := "(Ljava/lang/Object;Ljava/lang/Object;)V" } : Jvm.MethodName) jdk_44_method_2_code (3 : Nat) (Option.none : Option Jvm.ClassFile.FieldType)).before args0 about1 = true := code_word (m := ⟨22, 0⟩) (meth := k22m0) (c := k22c0) (by decide +kernel) rfl rfl rfl (by decide +kernel)
set_option maxRecDepth 65536 in
theorem w_c14 : (Jvm.Cond.code ({ cls := "java/util/ImmutableCollections$AbstractImmutableList", name := "<init>", desc := "()V" } : Jvm.MethodName) jdk_46_method_1_code (1 : Nat) (Option.none : Option Jvm.ClassFile.FieldType)).before args0 about1 = true := code_word (m := ⟨21, 0⟩) (meth := k21m0) (c := k21c0) (by decide +kernel) rfl rfl rfl (by decide +kernel)
set_option maxRecDepth 65536 in
theorem w_c15 : (Jvm.Cond.code ({ cls := "java/util/ImmutableCollections$AbstractImmutableCollection", name := "<init>", desc := "()V" } : Jvm.MethodName) jdk_47_method_1_code (1 : Nat) (Option.none : Option Jvm.ClassFile.FieldType)).before args0 about1 = true := code_word (m := ⟨19, 0⟩) (meth := k19m0) (c := k19c0) (by decide +kernel) rfl rfl rfl (by decide +kernel)
set_option maxRecDepth 65536 in
theorem w_c16 : (Jvm.Cond.code ({ cls := "java/util/AbstractCollection", name := "<init>", desc := "()V" } : Jvm.MethodName) jdk_22_method_1_code (1 : Nat) (Option.none : Option Jvm.ClassFile.FieldType)).before args0 about1 = true := code_word (m := ⟨18, 0⟩) (meth := k18m0) (c := k18c0) (by decide +kernel) rfl rfl rfl (by decide +kernel)
set_option maxRecDepth 65536 in
theorem w_c17 : (Jvm.Cond.code ({ cls := "java/util/Objects", name := "requireNonNull", desc := "(Ljava/lang/Object;)Ljava/lang/Object;" } : Jvm.MethodName) jdk_31_method_10_code (1 : Nat) (Option.some (Jvm.ClassFile.FieldType.object "java/lang/Object"))).before args0 about1 = true := code_word (m := ⟨11, 1⟩) (meth := k11m1) (c := k11c1) (by decide +kernel) rfl rfl rfl (by decide +kernel)
set_option maxRecDepth 65536 in
theorem w_c18 : (Jvm.Cond.code ({ cls := "java/util/ImmutableCollections$List12", name := "size", desc := "()I" } : Jvm.MethodName) jdk_44_method_3_code (1 : Nat) (Option.some Jvm.ClassFile.FieldType.int)).before args0 about1 = true := code_word (m := ⟨22, 1⟩) (meth := k22m1) (c := k22c1) (by decide +kernel) rfl rfl rfl (by decide +kernel)
set_option maxRecDepth 65536 in
theorem w_c19 : (Jvm.Cond.code ({ cls := "java/util/ImmutableCollections$List12", name := "get", desc := "(I)Ljava/lang/Object;" } : Jvm.MethodName) jdk_44_method_5_code (2 : Nat) (Option.some (Jvm.ClassFile.FieldType.object "java/lang/Object"))).before args0 about1 = true := code_word (m := ⟨22, 2⟩) (meth := k22m2) (c := k22c2) (by decide +kernel) rfl rfl rfl (by decide +kernel)
set_option maxRecDepth 65536 in
theorem w_c20 : (Jvm.Cond.code ({ cls := "com/example/rederive/rederive/Variable", name := "name", desc := "()Ljava/lang/String;" } : Jvm.MethodName) prog_77_method_7_code (1 : Nat) (Option.some (Jvm.ClassFile.FieldType.object "java/lang/String"))).before args0 about1 = true := code_word (m := ⟨10, 1⟩) (meth := k10m1) (c := k10c1) (by decide +kernel) rfl rfl rfl (by decide +kernel)
set_option maxRecDepth 65536 in
theorem w_c21 : (Jvm.Cond.code ({ cls := "java/lang/String", name := "equals", desc := "(Ljava/lang/Object;)Z" } : Jvm.MethodName) jdk_42_method_66_code (3 : Nat) (Option.some Jvm.ClassFile.FieldType.boolean)).before args0 about1 = true := code_word (m := ⟨7, 2⟩) (meth := k7m2) (c := k7c2) (by decide +kernel) rfl rfl rfl (by decide +kernel)
def codes1 : List Jvm.Cond := [Jvm.Cond.code x code maxLocals ret, Jvm.Cond.code ({ cls := "java/lang/String", name := "<init>", desc := "([C)V" } : Jvm.MethodName) jdk_42_method_3_code (2 : Nat) (Option.none : Option Jvm.ClassFile.FieldType), Jvm.Cond.code ({ cls := "java/lang/String", name := "<init>", desc := "([CIILjava/lang/Void;)V" } : Jvm.MethodName) jdk_42_method_149_code (6 : Nat) (Option.none : Option Jvm.ClassFile.FieldType), Jvm.Cond.code ({ cls := "java/lang/Object", name := "<init>", desc := "()V" } : Jvm.MethodName) object_method_1_code (1 : Nat) (Option.none : Option Jvm.ClassFile.FieldType), Jvm.Cond.code ({ cls := "java/lang/StringUTF16", name := "compress", desc := "([CII)[B" } : Jvm.MethodName) jdk_52_method_16_code (6 : Nat) (Option.some (Jvm.ClassFile.FieldType.array Jvm.ClassFile.FieldType.byte)), Jvm.Cond.code ({ cls := "java/lang/StringUTF16", name := "compress", desc := "([CI[BII)I" } : Jvm.MethodName) jdk_52_method_21_code (7 : Nat) (Option.some Jvm.ClassFile.FieldType.int), Jvm.Cond.code ({ cls := "java/lang/StringUTF16", name := "coderFromArrayLen", desc := "([BI)B" } : Jvm.MethodName) jdk_52_method_15_code (2 : Nat) (Option.some Jvm.ClassFile.FieldType.byte), Jvm.Cond.code ({ cls := "com/example/rederive/rederive/Variable", name := "<init>", desc := "(Ljava/lang/String;)V" } : Jvm.MethodName) prog_77_method_1_code (2 : Nat) (Option.none : Option Jvm.ClassFile.FieldType), Jvm.Cond.code ({ cls := "java/lang/Record", name := "<init>", desc := "()V" } : Jvm.MethodName) jdk_30_method_1_code (1 : Nat) (Option.none : Option Jvm.ClassFile.FieldType), Jvm.Cond.code ({ cls := "java/util/Objects", name := "requireNonNull", desc := "(Ljava/lang/Object;Ljava/lang/String;)Ljava/lang/Object;" } : Jvm.MethodName) jdk_31_method_11_code (2 : Nat) (Option.some (Jvm.ClassFile.FieldType.object "java/lang/Object")), Jvm.Cond.code ({ cls := "com/example/rederive/rederive/Constraint$ClosureCall", name := "<init>", desc := "(Ljava/lang/String;Lcom/example/rederive/rederive/Variable;Lcom/example/rederive/rederive/Variable;Z)V" } : Jvm.MethodName) prog_34_method_1_code (5 : Nat) (Option.none : Option Jvm.ClassFile.FieldType), Jvm.Cond.code ({ cls := "com/example/rederive/rederive/Constraint$ClosureCall", name := "variables", desc := "()Ljava/util/List;" } : Jvm.MethodName) prog_34_method_2_code (1 : Nat) (Option.some (Jvm.ClassFile.FieldType.object "java/util/List")), Jvm.Cond.code ({ cls := "java/util/List", name := "of", desc := "(Ljava/lang/Object;Ljava/lang/Object;)Ljava/util/List;" } : Jvm.MethodName) jdk_40_method_38_code (2 : Nat) (Option.some (Jvm.ClassFile.FieldType.object "java/util/List")), Jvm.Cond.code ({ cls := "java/util/ImmutableCollections$List12", name := "<init>", desc := "(Ljava/lang/Object;Ljava/lang/Object;)V" } : Jvm.MethodName) jdk_44_method_2_code (3 : Nat) (Option.none : Option Jvm.ClassFile.FieldType), Jvm.Cond.code ({ cls := "java/util/ImmutableCollections$AbstractImmutableList", name := "<init>", desc := "()V" } : Jvm.MethodName) jdk_46_method_1_code (1 : Nat) (Option.none : Option Jvm.ClassFile.FieldType), Jvm.Cond.code ({ cls := "java/util/ImmutableCollections$AbstractImmutableCollection", name := "<init>", desc := "()V" } : Jvm.MethodName) jdk_47_method_1_code (1 : Nat) (Option.none : Option Jvm.ClassFile.FieldType), Jvm.Cond.code ({ cls := "java/util/AbstractCollection", name := "<init>", desc := "()V" } : Jvm.MethodName) jdk_22_method_1_code (1 : Nat) (Option.none : Option Jvm.ClassFile.FieldType), Jvm.Cond.code ({ cls := "java/util/Objects", name := "requireNonNull", desc := "(Ljava/lang/Object;)Ljava/lang/Object;" } : Jvm.MethodName) jdk_31_method_10_code (1 : Nat) (Option.some (Jvm.ClassFile.FieldType.object "java/lang/Object")), Jvm.Cond.code ({ cls := "java/util/ImmutableCollections$List12", name := "size", desc := "()I" } : Jvm.MethodName) jdk_44_method_3_code (1 : Nat) (Option.some Jvm.ClassFile.FieldType.int), Jvm.Cond.code ({ cls := "java/util/ImmutableCollections$List12", name := "get", desc := "(I)Ljava/lang/Object;" } : Jvm.MethodName) jdk_44_method_5_code (2 : Nat) (Option.some (Jvm.ClassFile.FieldType.object "java/lang/Object")), Jvm.Cond.code ({ cls := "com/example/rederive/rederive/Variable", name := "name", desc := "()Ljava/lang/String;" } : Jvm.MethodName) prog_77_method_7_code (1 : Nat) (Option.some (Jvm.ClassFile.FieldType.object "java/lang/String")), Jvm.Cond.code ({ cls := "java/lang/String", name := "equals", desc := "(Ljava/lang/Object;)Z" } : Jvm.MethodName) jdk_42_method_66_code (3 : Nat) (Option.some Jvm.ClassFile.FieldType.boolean)]
set_option maxRecDepth 65536 in
theorem codes_eq : words1.filter isCode = codes1 := rfl
theorem w_codes : ∀ c ∈ words1.filter isCode, c.before args0 about1 = true := by
  rw [codes_eq]
  intro c hc
  simp only [codes1, List.mem_cons, List.not_mem_nil, or_false] at hc
  rcases hc with rfl | rfl | rfl | rfl | rfl | rfl | rfl | rfl | rfl | rfl | rfl | rfl | rfl | rfl | rfl | rfl | rfl | rfl | rfl | rfl | rfl | rfl
  · exact w_c0
  · exact w_c1
  · exact w_c2
  · exact w_c3
  · exact w_c4
  · exact w_c5
  · exact w_c6
  · exact w_c7
  · exact w_c8
  · exact w_c9
  · exact w_c10
  · exact w_c11
  · exact w_c12
  · exact w_c13
  · exact w_c14
  · exact w_c15
  · exact w_c16
  · exact w_c17
  · exact w_c18
  · exact w_c19
  · exact w_c20
  · exact w_c21
set_option maxRecDepth 65536 in
theorem w_t1 : (words1.take 24).all (fun c => isCode c || c.before args0 about1) = true := by decide +kernel
set_option maxRecDepth 65536 in
theorem w_t2 : ((words1.drop 24).take 24).all (fun c => isCode c || c.before args0 about1) = true := by decide +kernel
set_option maxRecDepth 65536 in
theorem w_t3 : (((words1.drop 24).drop 24).take 24).all (fun c => isCode c || c.before args0 about1) = true := by decide +kernel
set_option maxRecDepth 65536 in
theorem w_t4 : ((((words1.drop 24).drop 24).drop 24).take 24).all (fun c => isCode c || c.before args0 about1) = true := by decide +kernel
set_option maxRecDepth 65536 in
theorem w_t5 : (((((words1.drop 24).drop 24).drop 24).drop 24).take 24).all (fun c => isCode c || c.before args0 about1) = true := by decide +kernel
set_option maxRecDepth 65536 in
theorem w_t6 : (((((words1.drop 24).drop 24).drop 24).drop 24).drop 24).all (fun c => isCode c || c.before args0 about1) = true := by decide +kernel
theorem w_tables : (allAtoms (Jvm.Cond.code x code maxLocals ret :: tables_1)).before args0 about1 = true := by
  rw [allAtoms_all]
  show words1.all (fun c => c.before args0 about1) = true
  refine all_split ?_ w_codes
  rw [← List.take_append_drop 24 words1, List.all_append, w_t1, ← List.take_append_drop 24 (words1.drop 24), List.all_append, w_t2, ← List.take_append_drop 24 ((words1.drop 24).drop 24), List.all_append, w_t3, ← List.take_append_drop 24 (((words1.drop 24).drop 24).drop 24), List.all_append, w_t4, ← List.take_append_drop 24 ((((words1.drop 24).drop 24).drop 24).drop 24), List.all_append, w_t5, w_t6]
  rfl
set_option maxRecDepth 65536 in
theorem w_rest : rest_1_c.before args0 about1 = true := by decide +kernel
set_option maxRecDepth 65536 in
theorem w_case : (Jvm.Cond.and given_1 narrow_1).before args0 about1 = true := by decide +kernel
theorem w_applies : (headSpec (Jvm.Cond.code x code maxLocals ret :: tables_1) room_1).applies x e0.platform about1 = true :=
  (Spec.applies_iff w_frames).mpr ⟨w_running, w_runnable, w_alone, w_named, w_hears, w_ripe, w_room, w_tables⟩
theorem atStart : AtStart classFile x code maxLocals ret World_1 tables_1 room_1 Calls_1 rest_1 Pre_1 launch0 p0 e0 about1 theMethod args0 below0 :=
  ⟨lists_1, trivial, launch0.admits_env _ _ _, launch0.least_env, fairChoices_fair.cas, fairChoices_fair.clock, w_frames, w_args, w_heap, w_applies, trivial, w_rest, w_case⟩
end start1
theorem witness_1 : WitnessClaimed_1 := ⟨start1.p0, start1.e0, start1.about1, start1.theMethod, start1.args0, start1.below0, start1.atStart⟩
end Jvm.Pilot.@@N@@
