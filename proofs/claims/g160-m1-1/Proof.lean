import JvmDerived
import JvmDerived.Pilot.@@N@@Statement
import JvmDerived.Pilot.@@N@@Code
set_option linter.unusedVariables false
set_option linter.unusedSimpArgs false
namespace Jvm.RoadKit
open Sem ClassFile Op Lib Jvm.Stand Jvm.Free Jvm.LawKit
section New
variable {p : Program} {l : Launch} {e : Env} {R : Room} {s : State} {m : MethodId} {args : Array Value} {below : List Frame} {meth : Method} {c : Code} {T : State} {locs : List Loc} {cells slots : Nat}
theorem retI (X : Stand p l e R s m args below meth c T locs cells slots) (hx : p.tables.exec = Jvm.exec) {pc : Nat} {Ls : Array Slot} {z : Int32} {rest : List Value} (hret : meth.sig.returnType = some .int) (hd : decode c.code pc = .ok (.ireturn, 1)) {fs : List Frame}
    (hl : ∀ (f : JFrame) (acts : List Action), f.method = m → f.locked = none → f.entered = [] → (doReturn e (T.setTop f) acts (some (.int z))).1 = T.setFrames fs) : Steps p.tables e below (T.setTop (mkF m pc Ls (.int z :: rest))) (T.setFrames fs) := by
  have hm' : T.vm.method? m = some meth := X.method'
  have hn : narrow .int (.int z) = .int z := rfl
  show Steps p.tables e below (T.setTop { method := m, pc := pc, locals := Ls, stack := _ :: rest, locked := none }) _
  jvm_step X.here [X.here.top, hx, hd, hm', hret, hn]
  first | (intro acts; rw [hl _ acts rfl rfl rfl]) | rw [hl _ _ rfl rfl rfl]
  exact Steps.refl _
theorem retR (X : Stand p l e R s m args below meth c T locs cells slots) (hx : p.tables.exec = Jvm.exec) {pc : Nat} {Ls : Array Slot} {w : Value} {t : FieldType} {rest : List Value} (hret : meth.sig.returnType = some t) (hn : narrow t w = w) (ht : t.isReference = true) (hw : w.isRef = true) (hd : decode c.code pc = .ok (.areturn, 1)) {fs : List Frame}
    (hl : ∀ (f : JFrame) (acts : List Action), f.method = m → f.locked = none → f.entered = [] → (doReturn e (T.setTop f) acts (some w)).1 = T.setFrames fs) : Steps p.tables e below (T.setTop (mkF m pc Ls (w :: rest))) (T.setFrames fs) := by
  have hm' : T.vm.method? m = some meth := X.method'
  show Steps p.tables e below (T.setTop { method := m, pc := pc, locals := Ls, stack := _ :: rest, locked := none }) _
  jvm_step X.here [X.here.top, hx, hd, hm', hret, hn, hw]
  try (refine ⟨ht, ?_⟩)
  first | (intro acts; rw [hl _ acts rfl rfl rfl]) | rw [hl _ _ rfl rfl rfl]
  exact Steps.refl _
end New
end Jvm.RoadKit
/- laws to paste: Road.backV, Road.eqW, Road.codOf (cut by pick.py; bodies as the Statement names them) -/
namespace Jvm.Pilot.@@N@@
namespace StrChars
open Jvm Sem ClassFile Op Lib Jvm.Stand Jvm.Free.XT Jvm.Free.ALB Jvm.Free.JM Jvm.Free
open Jvm.Lib.Cold (StaticIs)
/-- a char array whose places are chars -/
def Ch (a : Addr) (A : Cell) (U : State) : Prop := Arr .char a A U ∧ Typed .char A
theorem Ch.mv {a : Addr} {A : Cell} {U U' : State} (h : Ch a A U) (hal : U.vm.Alike U'.vm) (hh : U'.heap = U.heap) : Ch a A U' := ⟨h.1.mv hal hh, h.2⟩
theorem Ch.keep {a : Addr} {A : Cell} {U U' : State} (h : Ch a A U) (hal : U.vm.Alike U'.vm) (hk : U'.heap[a]? = some A) : Ch a A U' := ⟨h.1.keep hal hk, h.2⟩
/-- what place i of a char[]'s cell holds -/
def cv (A : Cell) (i : Nat) : Int32 := match A.slots[i]? with | some (.int x) => x | _ => 0
theorem Ch.get {a : Addr} {A : Cell} {U : State} (h : Ch a A U) {i : Nat} (hi : i < A.slots.size) : A.slots[i]? = some (.int (cv A i)) := by
  have e := Array.getElem?_eq_getElem hi
  have f := h.2 i _ e
  unfold cv; rw [e]
  generalize A.slots[i] = v at f
  cases v <;> simp [fits] at f ⊢
/-- the byte that i2b leaves of a char -/
def lo8 (x : Int32) : Int32 := x.toInt8.toInt32
theorem fits_lo8 (y : Int32) : fits .byte (.int (lo8 y)) = true := by
  have h1 := y.toInt8.le_toInt
  have h2 := y.toInt8.toInt_lt
  simp only [lo8, fits, Bool.and_eq_true, decide_eq_true_eq, Int32.le_iff_toInt_le, Int8.toInt_toInt32, show (-128 : Int32).toInt = -128 from by decide, show (127 : Int32).toInt = 127 from by decide]
  omega
/-- A' is A but that each place j of lo .. hi - 1 holds f j -/
def Laid (A A' : Cell) (lo hi : Nat) (f : Nat → Value) : Prop := A'.cls = A.cls ∧ A'.vm = A.vm ∧ A'.slots.size = A.slots.size ∧ ∀ i, A'.slots[i]? = if lo ≤ i ∧ i < hi then some (f i) else A.slots[i]?
theorem Laid.zero (A : Cell) (lo : Nat) (f : Nat → Value) : Laid A A lo (lo + 0) f := ⟨rfl, rfl, rfl, fun i => by rw [if_neg (by omega)]⟩
theorem Laid.step {A Ak : Cell} {lo k : Nat} {f : Nat → Value} {v : Value} (h : Laid A Ak lo k f) (hlo : lo ≤ k) (hk : k < Ak.slots.size) (hv : v = f k) : Laid A (Ak.setSlot k v) lo (k + 1) f := by
  refine ⟨h.1, h.2.1, by simpa [Cell.setSlot] using h.2.2.1, fun i => ?_⟩
  by_cases e : k = i
  · subst e; rw [Cell.slots_setSlot_self v hk, if_pos (by omega), hv]
  · rw [Cell.slots_setSlot_ne v e, h.2.2.2 i]
    by_cases q : lo ≤ i ∧ i < k
    · rw [if_pos q, if_pos (by omega)]
    · rw [if_neg q, if_neg (by omega)]
def U16 : String := "java/lang/StringUTF16"
namespace Cmp5
def yN : MethodName := ⟨"java/lang/StringUTF16", "compress", "([CI[BII)I"⟩
abbrev yB : ByteArray := jdk_52_method_21_code
theorem d0 : decode yB 0 = .ok (.iconst 0, 1) := by decide +kernel
theorem d1 : decode yB 1 = .ok (.istore 5, 2) := by decide +kernel
theorem d3 : decode yB 3 = .ok (.iload 5, 2) := by decide +kernel
theorem d5 : decode yB 5 = .ok (.iload 4, 2) := by decide +kernel
theorem d7 : decode yB 7 = .ok (.if_icmp (.ge) 37, 3) := by decide +kernel
theorem d10 : decode yB 10 = .ok (.aload_n 0, 1) := by decide +kernel
theorem d11 : decode yB 11 = .ok (.iload_n 1, 1) := by decide +kernel
theorem d12 : decode yB 12 = .ok (.caload, 1) := by decide +kernel
theorem d13 : decode yB 13 = .ok (.istore 6, 2) := by decide +kernel
theorem d15 : decode yB 15 = .ok (.iload 6, 2) := by decide +kernel
theorem d17 : decode yB 17 = .ok (.sipush 255, 3) := by decide +kernel
theorem d20 : decode yB 20 = .ok (.if_icmp (.le) 6, 3) := by decide +kernel
theorem d26 : decode yB 26 = .ok (.aload_n 2, 1) := by decide +kernel
theorem d27 : decode yB 27 = .ok (.iload_n 3, 1) := by decide +kernel
theorem d28 : decode yB 28 = .ok (.iload 6, 2) := by decide +kernel
theorem d30 : decode yB 30 = .ok (.i2b, 1) := by decide +kernel
theorem d31 : decode yB 31 = .ok (.bastore, 1) := by decide +kernel
theorem d32 : decode yB 32 = .ok (.iinc 1 1, 3) := by decide +kernel
theorem d35 : decode yB 35 = .ok (.iinc 3 1, 3) := by decide +kernel
theorem d38 : decode yB 38 = .ok (.iinc 5 1, 3) := by decide +kernel
theorem d41 : decode yB 41 = .ok (.goto (-38), 3) := by decide +kernel
theorem d44 : decode yB 44 = .ok (.iload 4, 2) := by decide +kernel
theorem d46 : decode yB 46 = .ok (.ireturn, 1) := by decide +kernel
def site : List Cond := []
def tab : Cond := tabOf yN yB 7 (some .int) site
def P (b : Addr) (A : Cell) (d : Addr) (B : Cell) (o q len : Nat) (args : Array Value) (s : State) : Prop := args = #[.ref b, .int (Int32.ofNat o), .ref d, .int (Int32.ofNat q), .int (Int32.ofNat len)] ∧ Ch b A s ∧ Arr .byte d B s ∧ b ≠ d ∧ o + len ≤ A.slots.size ∧ q + len ≤ B.slots.size ∧ ∀ i, i < len → ¬ 255 < cv A (o + i)
def E (b : Addr) (A : Cell) (d : Addr) (B : Cell) (o q len : Nat) (r : Option Value) (s u : State) : Prop := r = some (.int (Int32.ofNat len)) ∧ ∃ B', Put d B' s u ∧ Laid B B' q (q + len) (fun j => Value.int (lo8 (cv A (o + (j - q)))))
/-- no char of the range above 255: len; the places written hold each char's low byte -/
theorem law (l : Launch) (b : Addr) (A : Cell) (d : Addr) (B : Cell) (o q len : Nat) : Law l yN 5 5 0 0 yB 7 (some .int) site (P b A d B o q len) (E b A d B o q len) (copyLocs d q len) 0 0 := by
  refine Law.of_walk (plainFor_of_name (by decide +kernel)) (by decide +kernel) (by decide +kernel) (by decide) (fun _ _ h => by rw [h.1]; rfl) (fun _ U U' hal hh h => ⟨h.1, h.2.1.mv hal hh, h.2.2.1.mv hal hh, h.2.2.2⟩) (fun r U U' V V' h1 hal h2 h => ⟨h.1, h.2.elim fun B' q => ⟨B', q.1.mv h1 h2, q.2⟩⟩) ?_
  intro p e s m args below meth c s₁ X0 hexec hbytes hml hret hlk hnm hown hh0 W hP
  obtain ⟨rfl, hA, hB, hne, l1, l2, hp⟩ := hP
  have c1 : Steps p.tables e below (s₁.setTop (entryFrame m #[.ref b, .int (Int32.ofNat o), .ref d, .int (Int32.ofNat q), .int (Int32.ofNat len)] 7)) (s₁.setTop (mkF m 0 #[.val (.ref b), .val (.int (Int32.ofNat o)), .val (.ref d), .val (.int (Int32.ofNat q)), .val (.int (Int32.ofNat len)), .unset, .unset] [])) := entry rfl
  have hA0 := hA.1.mv X0.warmed.alike hh0
  have hB0 := hB.mv X0.warmed.alike hh0
  have a31 := hA.1.2.2.2
  have c2 : Steps p.tables e below (s₁.setTop (entryFrame m #[.ref b, .int (Int32.ofNat o), .ref d, .int (Int32.ofNat q), .int (Int32.ofNat len)] 7)) (s₁.setTop (mkF m 3 #[.val (.ref b), .val (.int (Int32.ofNat o)), .val (.ref d), .val (.int (Int32.ofNat q)), .val (.int (Int32.ofNat len)), .val (.int 0), .unset] [])) := c1.trans (by
    refine iconstV X0.here hexec rfl 0 (hb hbytes d0) (by decide) ?_
    refine XS.istore X0.here hexec rfl (hb hbytes d1) rfl rfl ?_
    exact Steps.refl _)
  have loop : ∀ (r i : Nat), i + r = len → ∀ (z : Slot), (z = .unset ∨ ∃ w, z = .val w ∧ w.category = 1) → ∀ (Tl : State) (Bk : Cell), Stand p l e { frames := 0, locals := 0, cells := 0, slots := 0 } s m #[.ref b, .int (Int32.ofNat o), .ref d, .int (Int32.ofNat q), .int (Int32.ofNat len)] below meth c Tl ([] ++ copyLocs d q i) 0 0 → Put d Bk s₁ Tl → Laid B Bk q (q + i) (fun j => Value.int (lo8 (cv A (o + (j - q))))) →
      Steps p.tables e below (s₁.setTop (entryFrame m #[.ref b, .int (Int32.ofNat o), .ref d, .int (Int32.ofNat q), .int (Int32.ofNat len)] 7)) (Tl.setTop (mkF m 3 #[.val (.ref b), .val (.int (Int32.ofNat (o + i))), .val (.ref d), .val (.int (Int32.ofNat (q + i))), .val (.int (Int32.ofNat len)), .val (.int (Int32.ofNat i)), z] [])) → ∃ (T' : State) (B' : Cell) (z' : Slot), Stand p l e { frames := 0, locals := 0, cells := 0, slots := 0 } s m #[.ref b, .int (Int32.ofNat o), .ref d, .int (Int32.ofNat q), .int (Int32.ofNat len)] below meth c T' ([] ++ copyLocs d q len) 0 0 ∧ Put d B' s₁ T' ∧ Laid B B' q (q + len) (fun j => Value.int (lo8 (cv A (o + (j - q))))) ∧
      Steps p.tables e below (s₁.setTop (entryFrame m #[.ref b, .int (Int32.ofNat o), .ref d, .int (Int32.ofNat q), .int (Int32.ofNat len)] 7)) (T'.setTop (mkF m 3 #[.val (.ref b), .val (.int (Int32.ofNat (o + len))), .val (.ref d), .val (.int (Int32.ofNat (q + len))), .val (.int (Int32.ofNat len)), .val (.int (Int32.ofNat len)), z'] [])) := by
    intro r
    induction r with
    | zero =>
      intro i hi z hz Tl Bk Xl pl fl cl
      have hil : i = len := by omega
      rw [hil] at Xl fl cl
      exact ⟨Tl, Bk, z, Xl, pl, fl, cl⟩
    | succ r ih =>
      intro i hi z hz Tl Bk Xl pl fl cl
      have all := X0.warmed.alike.symm.trans Xl.warmed.alike
      have hAl := hA0.keep all (pl.other hne hA0.1)
      have hBk := hB0.like all pl.1 fl.1 fl.2.1 fl.2.2.1
      have hlt : q + i < Bk.slots.size := by rw [fl.2.2.1]; omega
      have c3 : Steps p.tables e below (s₁.setTop (entryFrame m #[.ref b, .int (Int32.ofNat o), .ref d, .int (Int32.ofNat q), .int (Int32.ofNat len)] 7)) (Tl.setTop (mkF m 12 #[.val (.ref b), .val (.int (Int32.ofNat (o + i))), .val (.ref d), .val (.int (Int32.ofNat (q + i))), .val (.int (Int32.ofNat len)), .val (.int (Int32.ofNat i)), z] [.int (Int32.ofNat (o + i)), .ref b])) := cl.trans (by
        refine XS.iload Xl.here hexec rfl (hb hbytes d3) rfl ?_
        refine XS.iload Xl.here hexec rfl (hb hbytes d5) rfl ?_
        refine XS.icmpNo Xl.here hexec rfl (hb hbytes d7) rfl (ii_ge_f (lt32 (by omega) (by omega))) ?_
        refine XS.aloadN Xl.here hexec rfl (hb hbytes d10) rfl rfl ?_
        refine XS.iloadN Xl.here hexec rfl (hb hbytes d11) rfl ?_
        exact Steps.refl _)
      have c4 : Steps p.tables e below (s₁.setTop (entryFrame m #[.ref b, .int (Int32.ofNat o), .ref d, .int (Int32.ofNat q), .int (Int32.ofNat len)] 7)) (Tl.setTop (mkF m 13 #[.val (.ref b), .val (.int (Int32.ofNat (o + i))), .val (.ref d), .val (.int (Int32.ofNat (q + i))), .val (.int (Int32.ofNat len)), .val (.int (Int32.ofNat i)), z] [.int (cv A (o + i))])) := c3.trans (by
        refine Xl.aget hexec hAl rfl (hA.get (i := o + i) (by omega)) rfl rfl (hb hbytes d12) ?_
        exact Steps.refl _)
      have c5 : Steps p.tables e below (s₁.setTop (entryFrame m #[.ref b, .int (Int32.ofNat o), .ref d, .int (Int32.ofNat q), .int (Int32.ofNat len)] 7)) (Tl.setTop (mkF m 15 #[.val (.ref b), .val (.int (Int32.ofNat (o + i))), .val (.ref d), .val (.int (Int32.ofNat (q + i))), .val (.int (Int32.ofNat len)), .val (.int (Int32.ofNat i)), .val (.int (cv A (o + i)))] [])) := c4.trans (by
        refine XS.istoreS Xl.here hexec rfl (hb hbytes d13) rfl rfl hz ?_
        exact Steps.refl _)
      have c6 : Steps p.tables e below (s₁.setTop (entryFrame m #[.ref b, .int (Int32.ofNat o), .ref d, .int (Int32.ofNat q), .int (Int32.ofNat len)] 7)) (Tl.setTop (mkF m 31 #[.val (.ref b), .val (.int (Int32.ofNat (o + i))), .val (.ref d), .val (.int (Int32.ofNat (q + i))), .val (.int (Int32.ofNat len)), .val (.int (Int32.ofNat i)), .val (.int (cv A (o + i)))] [.int (lo8 (cv A (o + i))), .int (Int32.ofNat (q + i)), .ref d])) := c5.trans (by
        refine XS.iload Xl.here hexec rfl (hb hbytes d15) rfl ?_
        refine sipushV Xl.here hexec rfl 255 (hb hbytes d17) (by decide) ?_
        refine XS.icmpYes Xl.here hexec rfl (pc0 := 20) rfl (hb hbytes d20) rfl (ii_le_t (hp i (by omega))) (by decide) rfl ?_
        refine XS.aloadN Xl.here hexec rfl (hb hbytes d26) rfl rfl ?_
        refine XS.iloadN Xl.here hexec rfl (hb hbytes d27) rfl ?_
        refine XS.iload Xl.here hexec rfl (hb hbytes d28) rfl ?_
        refine i2b Xl.here hexec rfl (hb hbytes d30) rfl ?_
        exact Steps.refl _)
      obtain ⟨T7, X7, p7, st7⟩ := Xl.aput hexec hBk rfl hlt rfl (fits_lo8 (cv A (o + i))) (g := (mkF m 31 #[.val (.ref b), .val (.int (Int32.ofNat (o + i))), .val (.ref d), .val (.int (Int32.ofNat (q + i))), .val (.int (Int32.ofNat len)), .val (.int (Int32.ofNat i)), .val (.int (cv A (o + i)))] [.int (lo8 (cv A (o + i))), .int (Int32.ofNat (q + i)), .ref d])) rfl (rest := []) rfl (hb hbytes d31)
      have c8 : Steps p.tables e below (s₁.setTop (entryFrame m #[.ref b, .int (Int32.ofNat o), .ref d, .int (Int32.ofNat q), .int (Int32.ofNat len)] 7)) (T7.setTop (mkF m 32 #[.val (.ref b), .val (.int (Int32.ofNat (o + i))), .val (.ref d), .val (.int (Int32.ofNat (q + i))), .val (.int (Int32.ofNat len)), .val (.int (Int32.ofNat i)), .val (.int (cv A (o + i)))] [])) := c6.trans (st7 _ (Steps.refl _))
      have c9 : Steps p.tables e below (s₁.setTop (entryFrame m #[.ref b, .int (Int32.ofNat o), .ref d, .int (Int32.ofNat q), .int (Int32.ofNat len)] 7)) (T7.setTop (mkF m 3 #[.val (.ref b), .val (.int (Int32.ofNat (o + i) + 1)), .val (.ref d), .val (.int (Int32.ofNat (q + i) + 1)), .val (.int (Int32.ofNat len)), .val (.int (Int32.ofNat i + 1)), .val (.int (cv A (o + i)))] [])) := c8.trans (by
        refine iincV X7.here hexec rfl 1 (hb hbytes d32) (by decide) rfl rfl ?_
        refine iincV X7.here hexec rfl 1 (hb hbytes d35) (by decide) rfl rfl ?_
        refine iincV X7.here hexec rfl 1 (hb hbytes d38) (by decide) rfl rfl ?_
        refine XS.goto X7.here hexec rfl (pc0 := 41) rfl (hb hbytes d41) (by decide) rfl ?_
        exact Steps.refl _)
      have c10 : Steps p.tables e below (s₁.setTop (entryFrame m #[.ref b, .int (Int32.ofNat o), .ref d, .int (Int32.ofNat q), .int (Int32.ofNat len)] 7)) (T7.setTop (mkF m 3 #[.val (.ref b), .val (.int (Int32.ofNat (o + (i + 1)))), .val (.ref d), .val (.int (Int32.ofNat (q + (i + 1)))), .val (.int (Int32.ofNat len)), .val (.int (Int32.ofNat (i + 1))), .val (.int (cv A (o + i)))] [])) := by
        have := c9
        rw [succ32, succ32, succ32] at this
        exact this
      exact ih (i + 1) (by omega) _ (Or.inr ⟨_, rfl, rfl⟩) T7 _ (by rw [copyLocs_step, ← List.append_assoc]; exact X7) (pl.trans p7) (fl.step (by omega) hlt (by simp)) c10
  obtain ⟨T9, B9, z9, X9, p9, f9, g9⟩ := loop len 0 (by omega) .unset (Or.inl rfl) s₁ B (by simpa [copyLocs] using X0) ⟨hB0.1, fun _ _ => rfl, rfl⟩ (Laid.zero _ _ _) c2
  have c11 : Steps p.tables e below (s₁.setTop (entryFrame m #[.ref b, .int (Int32.ofNat o), .ref d, .int (Int32.ofNat q), .int (Int32.ofNat len)] 7)) (T9.setTop (mkF m 46 #[.val (.ref b), .val (.int (Int32.ofNat (o + len))), .val (.ref d), .val (.int (Int32.ofNat (q + len))), .val (.int (Int32.ofNat len)), .val (.int (Int32.ofNat len)), z9] [.int (Int32.ofNat len)])) := g9.trans (by
    refine XS.iload X9.here hexec rfl (hb hbytes d3) rfl ?_
    refine XS.iload X9.here hexec rfl (hb hbytes d5) rfl ?_
    refine XS.icmpYes X9.here hexec rfl (pc0 := 7) rfl (hb hbytes d7) rfl (ii_ge_t (nlt32 (by omega) (Nat.le_refl _))) (by decide) rfl ?_
    refine XS.iload X9.here hexec rfl (hb hbytes d44) rfl ?_
    exact Steps.refl _)
  exact ⟨T9, some (.int (Int32.ofNat len)), _, _, _, X9, by simp, rfl, rfl, (fun h => by cases h), ⟨rfl, B9, p9.from hh0, f9⟩, fun fs hl => c11.trans (X9.ireturnOut hexec hret rfl (Or.inl rfl) (hb hbytes d46) hl)⟩
end Cmp5
namespace Cmp3
def yN : MethodName := ⟨"java/lang/StringUTF16", "compress", "([CII)[B"⟩
abbrev yB : ByteArray := jdk_52_method_16_code
theorem d0 : decode yB 0 = .ok (.iload_n 2, 1) := by decide +kernel
theorem d1 : decode yB 1 = .ok (.newarray .byte, 2) := by decide +kernel
theorem d3 : decode yB 3 = .ok (.astore_n 3, 1) := by decide +kernel
theorem d4 : decode yB 4 = .ok (.aload_n 0, 1) := by decide +kernel
theorem d5 : decode yB 5 = .ok (.iload_n 1, 1) := by decide +kernel
theorem d6 : decode yB 6 = .ok (.aload_n 3, 1) := by decide +kernel
theorem d7 : decode yB 7 = .ok (.iconst 0, 1) := by decide +kernel
theorem d8 : decode yB 8 = .ok (.iload_n 2, 1) := by decide +kernel
theorem d9 : decode yB 9 = .ok (.invokestatic 115, 3) := by decide +kernel
theorem d12 : decode yB 12 = .ok (.istore 4, 2) := by decide +kernel
theorem d14 : decode yB 14 = .ok (.iload 4, 2) := by decide +kernel
theorem d16 : decode yB 16 = .ok (.iload_n 2, 1) := by decide +kernel
theorem d17 : decode yB 17 = .ok (.if_icmp (.eq) 40, 3) := by decide +kernel
theorem d57 : decode yB 57 = .ok (.aload_n 3, 1) := by decide +kernel
theorem d58 : decode yB 58 = .ok (.areturn, 1) := by decide +kernel
def site : List Cond := [.arrayClass .byte, Cmp5.tab] ++ staticW U16 115 Cmp5.yN
def tab : Cond := tabOf yN yB 6 (some (.array .byte)) site
def P (b : Addr) (A : Cell) (o len : Nat) (args : Array Value) (s : State) : Prop := args = #[.ref b, .int (Int32.ofNat o), .int (Int32.ofNat len)] ∧ Ch b A s ∧ o + len ≤ A.slots.size ∧ len ≤ 536870912 ∧ ∀ i, i < len → ¬ 255 < cv A (o + i)
def E (b : Addr) (A : Cell) (o len : Nat) (r : Option Value) (s u : State) : Prop := NewArr .byte "[B" len (fun j => .int (lo8 (cv A (o + j)))) r s u ∧ u.heap.size = s.heap.size + 1
/-- no char of the range above 255: a new byte[] of their low bytes -/
theorem law (l : Launch) (b : Addr) (A : Cell) (o len : Nat) : Law l yN 3 3 1 18 yB 6 (some (.array .byte)) site (P b A o len) (E b A o len) [] 1 len := by
  refine Law.of_walk (plainFor_of_name (by decide +kernel)) (by decide +kernel) (by decide +kernel) (by decide) (fun _ _ h => by rw [h.1]; rfl) (fun _ U U' hal hh h => ⟨h.1, h.2.1.mv hal hh, h.2.2⟩) (fun r U U' V V' h1 hal h2 h => ⟨NewArr.mv r U U' V V' h1 hal h2 h.1, by rw [h1, h2]; exact h.2⟩) ?_
  intro p e s m args below meth c s₁ X0 hexec hbytes hml hret hlk hnm hown hh0 W hP
  obtain ⟨rfl, hA, l1, l2, hp⟩ := hP
  have a31 := hA.1.2.2.2
  have c1 : Steps p.tables e below (s₁.setTop (entryFrame m #[.ref b, .int (Int32.ofNat o), .int (Int32.ofNat len)] 6)) (s₁.setTop (mkF m 0 #[.val (.ref b), .val (.int (Int32.ofNat o)), .val (.int (Int32.ofNat len)), .unset, .unset, .unset] [])) := entry rfl
  have c2 : Steps p.tables e below (s₁.setTop (entryFrame m #[.ref b, .int (Int32.ofNat o), .int (Int32.ofNat len)] 6)) (s₁.setTop (mkF m 1 #[.val (.ref b), .val (.int (Int32.ofNat o)), .val (.int (Int32.ofNat len)), .unset, .unset, .unset] [.int (Int32.ofNat len)])) := c1.trans (by
    refine XS.iloadN X0.here hexec rfl (hb hbytes d0) rfl ?_
    exact Steps.refl _)
  obtain ⟨T3, B3, X3, ba3, bs3, bv3, bh3, bf3, st3⟩ := X0.anew hexec (atype := .byte) (wk W (.arrayClass .byte)) rfl (by show len * 1 ≤ _; omega) (by omega) (g := (mkF m 1 #[.val (.ref b), .val (.int (Int32.ofNat o)), .val (.int (Int32.ofNat len)), .unset, .unset, .unset] [.int (Int32.ofNat len)])) rfl (hb hbytes d1) (rest := []) rfl (Nat.le_refl _) (by show 0 + len ≤ len; omega)
  rw [hh0] at ba3 st3
  have kp3 : XT.Kept s T3 := (XT.Kept.of_eq hh0).push bh3
  have hA3 := hA.keep X3.warmed.alike (kp3 _ _ hA.1.1)
  have hne : b ≠ s.heap.size := hA.1.ne
  have c4 : Steps p.tables e below (s₁.setTop (entryFrame m #[.ref b, .int (Int32.ofNat o), .int (Int32.ofNat len)] 6)) (T3.setTop (mkF m 3 #[.val (.ref b), .val (.int (Int32.ofNat o)), .val (.int (Int32.ofNat len)), .unset, .unset, .unset] [.ref s.heap.size])) := c2.trans (st3 _ (Steps.refl _))
  have c5 : Steps p.tables e below (s₁.setTop (entryFrame m #[.ref b, .int (Int32.ofNat o), .int (Int32.ofNat len)] 6)) (T3.setTop (mkF m 9 #[.val (.ref b), .val (.int (Int32.ofNat o)), .val (.int (Int32.ofNat len)), .val (.ref s.heap.size), .unset, .unset] [.int (Int32.ofNat len), .int 0, .ref s.heap.size, .int (Int32.ofNat o), .ref b])) := c4.trans (by
    refine XS.astoreN X3.here hexec rfl (hb hbytes d3) rfl rfl rfl ?_
    refine XS.aloadN X3.here hexec rfl (hb hbytes d4) rfl rfl ?_
    refine XS.iloadN X3.here hexec rfl (hb hbytes d5) rfl ?_
    refine XS.aloadN X3.here hexec rfl (hb hbytes d6) rfl rfl ?_
    refine iconstV X3.here hexec rfl 0 (hb hbytes d7) (by decide) ?_
    refine XS.iloadN X3.here hexec rfl (hb hbytes d8) rfl ?_
    exact Steps.refl _)
  obtain ⟨v6, T6, X6, E6, g6⟩ := X3.callS hexec (Cmp5.law l b A s.heap.size B3 o 0 len) hown (wks W (staticW U16 115 Cmp5.yN)) (wk W Cmp5.tab) (W := 0) (Nat.le_of_ble_eq_true rfl) (Nat.le_of_ble_eq_true rfl) (Nat.le_refl _) (by show 0 + len + 0 ≤ len; omega) (g := (mkF m 9 #[.val (.ref b), .val (.int (Int32.ofNat o)), .val (.int (Int32.ofNat len)), .val (.ref s.heap.size), .unset, .unset] [.int (Int32.ofNat len), .int (Int32.ofNat 0), .ref s.heap.size, .int (Int32.ofNat o), .ref b])) rfl (by rw [hml]; rfl) c5 (argsL := [.ref b, .int (Int32.ofNat o), .ref s.heap.size, .int (Int32.ofNat 0), .int (Int32.ofNat len)]) (rest := []) rfl rfl (by show 2 * 0 + 0 ≤ _; decide) (hb hbytes d9) (⟨rfl, hA3, ba3, hne, l1, by rw [bs3]; simp, hp⟩)
  obtain ⟨rfl, B6, p6, f6⟩ := E6
  have c7 : Steps p.tables e below (s₁.setTop (entryFrame m #[.ref b, .int (Int32.ofNat o), .int (Int32.ofNat len)] 6)) (T6.setTop (mkF m 12 #[.val (.ref b), .val (.int (Int32.ofNat o)), .val (.int (Int32.ofNat len)), .val (.ref s.heap.size), .unset, .unset] [.int (Int32.ofNat len)])) := g6
  have c8 : Steps p.tables e below (s₁.setTop (entryFrame m #[.ref b, .int (Int32.ofNat o), .int (Int32.ofNat len)] 6)) (T6.setTop (mkF m 58 #[.val (.ref b), .val (.int (Int32.ofNat o)), .val (.int (Int32.ofNat len)), .val (.ref s.heap.size), .val (.int (Int32.ofNat len)), .unset] [.ref s.heap.size])) := c7.trans (by
    refine XS.istore X6.here hexec rfl (hb hbytes d12) rfl rfl ?_
    refine XS.iload X6.here hexec rfl (hb hbytes d14) rfl ?_
    refine XS.iloadN X6.here hexec rfl (hb hbytes d16) rfl ?_
    refine XS.icmpYes X6.here hexec rfl (pc0 := 17) rfl (hb hbytes d17) rfl (ii_eq_t rfl) (by decide) rfl ?_
    refine XS.aloadN X6.here hexec rfl (hb hbytes d57) rfl rfl ?_
    exact Steps.refl _)
  have X8 := X6.wide (L' := []) (cells' := 1) (slots' := len) (fun x hx hlt => by
    simp only [List.nil_append, copyLocs, List.mem_map, List.mem_range] at hx
    obtain ⟨i, -, rfl⟩ := hx
    exact absurd hlt (Nat.lt_irrefl _)) (Nat.le_refl _) (by omega)
  exact ⟨T6, some (.ref s.heap.size), _, _, _, X8, rfl, rfl, rfl, (fun h => by cases h), ⟨⟨rfl, B6, ba3.like (X3.warmed.alike.symm.trans X6.warmed.alike) p6.1 f6.1 f6.2.1 f6.2.2.1, f6.2.1.trans bv3, by rw [X6.warmed.alike.findClass, f6.1]; exact bf3, by rw [f6.2.2.1, bs3]; simp, fun j hj => by rw [f6.2.2.2 j, if_pos (by omega)]; rfl, kp3.put p6 (Nat.le_refl _)⟩, by rw [p6.2.2, bh3, hh0]; simp⟩, fun fs hl => c8.trans (X8.areturnOut hexec rfl hret rfl (hb hbytes d58) hl)⟩
end Cmp3
namespace CodL
def yN : MethodName := ⟨"java/lang/StringUTF16", "coderFromArrayLen", "([BI)B"⟩
abbrev yB : ByteArray := jdk_52_method_15_code
theorem d0 : decode yB 0 = .ok (.iload_n 1, 1) := by decide +kernel
theorem d1 : decode yB 1 = .ok (.aload_n 0, 1) := by decide +kernel
theorem d2 : decode yB 2 = .ok (.arraylength, 1) := by decide +kernel
theorem d3 : decode yB 3 = .ok (.isub, 1) := by decide +kernel
theorem d4 : decode yB 4 = .ok (.bipush 31, 2) := by decide +kernel
theorem d6 : decode yB 6 = .ok (.iushr, 1) := by decide +kernel
theorem d7 : decode yB 7 = .ok (.i2b, 1) := by decide +kernel
theorem d8 : decode yB 8 = .ok (.ireturn, 1) := by decide +kernel
def site : List Cond := []
def tab : Cond := tabOf yN yB 2 (some .byte) site
def P (d : Addr) (B : Cell) (args : Array Value) (s : State) : Prop := args = #[.ref d, .int (Int32.ofNat B.slots.size)] ∧ Arr .byte d B s
def E (r : Option Value) (s u : State) : Prop := XT.PureE (some (.int 0)) r s u
/-- an array as long as the number of chars: LATIN1 -/
theorem law (l : Launch) (d : Addr) (B : Cell) : Law l yN 2 2 0 0 yB 2 (some .byte) site (P d B) E [] 0 0 := by
  refine Law.of_walk (plainFor_of_name (by decide +kernel)) (by decide +kernel) (by decide +kernel) (by decide) (fun _ _ h => by rw [h.1]; rfl) (fun _ U U' hal hh h => ⟨h.1, h.2.mv hal hh⟩) (fun r U U' V V' h1 hal h2 h => XT.PureE.mv r U U' V V' h1 hal h2 h) ?_
  intro p e s m args below meth c s₁ X0 hexec hbytes hml hret hlk hnm hown hh0 W hP
  obtain ⟨rfl, hB⟩ := hP
  have hB0 := hB.mv X0.warmed.alike hh0
  have c1 : Steps p.tables e below (s₁.setTop (entryFrame m #[.ref d, .int (Int32.ofNat B.slots.size)] 2)) (s₁.setTop (mkF m 0 #[.val (.ref d), .val (.int (Int32.ofNat B.slots.size))] [])) := entry rfl
  have c2 : Steps p.tables e below (s₁.setTop (entryFrame m #[.ref d, .int (Int32.ofNat B.slots.size)] 2)) (s₁.setTop (mkF m 2 #[.val (.ref d), .val (.int (Int32.ofNat B.slots.size))] [.ref d, .int (Int32.ofNat B.slots.size)])) := c1.trans (by
    refine XS.iloadN X0.here hexec rfl (hb hbytes d0) rfl ?_
    refine XS.aloadN X0.here hexec rfl (hb hbytes d1) rfl rfl ?_
    exact Steps.refl _)
  have c3 : Steps p.tables e below (s₁.setTop (entryFrame m #[.ref d, .int (Int32.ofNat B.slots.size)] 2)) (s₁.setTop (mkF m 8 #[.val (.ref d), .val (.int (Int32.ofNat B.slots.size))] [.int (lo8 (ushr (Int32.ofNat B.slots.size - Int32.ofNat B.slots.size) 31))])) := c2.trans (by
    refine X0.alen hexec hB0 rfl rfl (hb hbytes d2) ?_
    refine XS.isub X0.here hexec rfl (hb hbytes d3) rfl ?_
    refine bipushV X0.here hexec rfl 31 (hb hbytes d4) (by decide) ?_
    refine iushr X0.here hexec rfl (hb hbytes d6) rfl ?_
    refine i2b X0.here hexec rfl (hb hbytes d7) rfl ?_
    exact Steps.refl _)
  have e0 : lo8 (ushr (Int32.ofNat B.slots.size - Int32.ofNat B.slots.size) 31) = 0 := by rw [Int32.sub_self]; decide
  rw [e0] at c3
  exact ⟨s₁, some (.int 0), _, _, _, X0, rfl, rfl, rfl, (fun h => by cases h), ⟨rfl, hh0⟩, fun fs hl => c3.trans (X0.ireturnOut hexec hret rfl (Or.inr (Or.inr (Or.inl rfl))) (hb hbytes d8) hl)⟩
end CodL
/-- the String at a is Latin-1 over a new byte[] (the heap's one new cell): the low bytes of the len chars of A from o on; every cell but a is kept -/
def Got (a : Addr) (D : Cell) (fV fC : Field) (A : Cell) (o len : Nat) (r : Option Value) (s u : State) : Prop := r = none ∧ ∃ D' V : Cell, Blank "java/lang/String" a D' u ∧ Same D D' [fV.slot, fC.slot] ∧ D'.slots[fV.slot]? = some (.ref s.heap.size) ∧ D'.slots[fC.slot]? = some (.int 0) ∧ Arr .byte s.heap.size V u ∧ V.vm = .none ∧ u.vm.findClass "[B" = some V.cls ∧ V.slots.size = len ∧ (∀ j, j < len → V.slots[j]? = some (.int (lo8 (cv A (o + j))))) ∧ (∀ (y : Addr) (c : Cell), y ≠ a → s.heap[y]? = some c → u.heap[y]? = some c) ∧ u.heap.size = s.heap.size + 1
theorem Got.mv {a : Addr} {D A : Cell} {fV fC : Field} {o len : Nat} : ∀ r (U U' V V' : State), U'.heap = U.heap → V.vm.Alike V'.vm → V'.heap = V.heap → Got a D fV fC A o len r U V → Got a D fV fC A o len r U' V' :=
  fun r U U' V V' h1 hal h2 ⟨e0, D', X, a1, a2, a3, a4, a5, a6, a7, a8, a9, a10, a11⟩ => ⟨e0, D', X, a1.mv hal h2, a2, by rw [h1]; exact a3, a4, by rw [h1]; exact a5.mv hal h2, a6, by rw [hal.findClass]; exact a7, a8, a9, by rw [h1, h2]; exact a10, by rw [h1, h2]; exact a11⟩
namespace New4
def yN : MethodName := ⟨"java/lang/String", "<init>", "([CIILjava/lang/Void;)V"⟩
abbrev yB : ByteArray := jdk_42_method_149_code
theorem d0 : decode yB 0 = .ok (.aload_n 0, 1) := by decide +kernel
theorem d1 : decode yB 1 = .ok (.invokespecial 1, 3) := by decide +kernel
theorem d4 : decode yB 4 = .ok (.iload_n 3, 1) := by decide +kernel
theorem d5 : decode yB 5 = .ok (.ifCond (.ne) 22, 3) := by decide +kernel
theorem d27 : decode yB 27 = .ok (.getstatic 38, 3) := by decide +kernel
theorem d30 : decode yB 30 = .ok (.ifCond (.eq) 28, 3) := by decide +kernel
theorem d33 : decode yB 33 = .ok (.aload_n 1, 1) := by decide +kernel
theorem d34 : decode yB 34 = .ok (.iload_n 2, 1) := by decide +kernel
theorem d35 : decode yB 35 = .ok (.iload_n 3, 1) := by decide +kernel
theorem d36 : decode yB 36 = .ok (.invokestatic 177, 3) := by decide +kernel
theorem d39 : decode yB 39 = .ok (.astore 5, 2) := by decide +kernel
theorem d41 : decode yB 41 = .ok (.aload_n 0, 1) := by decide +kernel
theorem d42 : decode yB 42 = .ok (.aload 5, 2) := by decide +kernel
theorem d44 : decode yB 44 = .ok (.iload_n 3, 1) := by decide +kernel
theorem d45 : decode yB 45 = .ok (.invokestatic 47, 3) := by decide +kernel
theorem d48 : decode yB 48 = .ok (.putfield 15, 3) := by decide +kernel
theorem d51 : decode yB 51 = .ok (.aload_n 0, 1) := by decide +kernel
theorem d52 : decode yB 52 = .ok (.aload 5, 2) := by decide +kernel
theorem d54 : decode yB 54 = .ok (.putfield 9, 3) := by decide +kernel
theorem d57 : decode yB 57 = .ok (.return_, 1) := by decide +kernel
def site : List Cond := [.fieldLink "java/lang/String" 38 "java/lang/String" "COMPACT_STRINGS" "Z", Cmp3.tab, CodL.tab, .laysFinal "java/lang/String" "java/lang/String" "value" "[B", .fieldLink "java/lang/String" 9 "java/lang/String" "value" "[B", .laysFinal "java/lang/String" "java/lang/String" "coder" "B", .fieldLink "java/lang/String" 15 "java/lang/String" "coder" "B"] ++ objW "java/lang/String" 1 ++ staticW "java/lang/String" 177 Cmp3.yN ++ staticW "java/lang/String" 47 CodL.yN
def tab : Cond := tabOf yN yB 6 none site
def P (a : Addr) (D : Cell) (fV fC : Field) (b : Addr) (A : Cell) (z : Int32) (o len : Nat) (args : Array Value) (s : State) : Prop := args = #[.ref a, .ref b, .int (Int32.ofNat o), .int (Int32.ofNat len), .null] ∧ Blank "java/lang/String" a D s ∧ Found "java/lang/String" "value" "[B" fV s ∧ Found "java/lang/String" "coder" "B" fC s ∧ Ch b A s ∧ StaticIs s "java/lang/String" "COMPACT_STRINGS" "Z" (.int z) ∧ ¬ z = 0 ∧ 0 < len ∧ o + len ≤ A.slots.size ∧ len ≤ 536870912 ∧ ∀ i, i < len → ¬ 255 < cv A (o + i)
def E (a : Addr) (D : Cell) (fV fC : Field) (A : Cell) (o len : Nat) (r : Option Value) (s u : State) : Prop := Got a D fV fC A o len r s u
/-- len > 0, no char of the range above 255: a Latin-1 String of their low bytes -/
theorem law (l : Launch) (a : Addr) (D : Cell) (fV fC : Field) (b : Addr) (A : Cell) (z : Int32) (o len : Nat) : Law l yN 5 4 2 35 yB 6 none site (P a D fV fC b A z o len) (E a D fV fC A o len) [⟨a, fC.slot⟩, ⟨a, fV.slot⟩] 1 len := by
  refine Law.of_walk (plainFor_of_name (by decide +kernel)) (by decide +kernel) (by decide +kernel) (by decide) (fun _ _ h => by rw [h.1]; rfl) (fun _ U U' hal hh h => ⟨h.1, h.2.1.mv hal hh, h.2.2.1.al hal, h.2.2.2.1.al hal, h.2.2.2.2.1.mv hal hh, h.2.2.2.2.2.1.there hal hh, h.2.2.2.2.2.2⟩) (fun r U U' V V' h1 hal h2 h => Got.mv r U U' V V' h1 hal h2 h) ?_
  intro p e s m args below meth c s₁ X0 hexec hbytes hml hret hlk hnm hown hh0 W hP
  obtain ⟨rfl, hB, f1, f2, hA, s1, hz, l0, l1, l2, hp⟩ := hP
  have a31 := hA.1.2.2.2
  have c1 : Steps p.tables e below (s₁.setTop (entryFrame m #[.ref a, .ref b, .int (Int32.ofNat o), .int (Int32.ofNat len), .null] 6)) (s₁.setTop (mkF m 0 #[.val (.ref a), .val (.ref b), .val (.int (Int32.ofNat o)), .val (.int (Int32.ofNat len)), .val .null, .unset] [])) := entry rfl
  have c2 : Steps p.tables e below (s₁.setTop (entryFrame m #[.ref a, .ref b, .int (Int32.ofNat o), .int (Int32.ofNat len), .null] 6)) (s₁.setTop (mkF m 1 #[.val (.ref a), .val (.ref b), .val (.int (Int32.ofNat o)), .val (.int (Int32.ofNat len)), .val .null, .unset] [.ref a])) := c1.trans (by
    refine XS.aloadN X0.here hexec rfl (hb hbytes d0) rfl rfl ?_
    exact Steps.refl _)
  obtain ⟨T3, X3, q3, st3⟩ := X0.oinit hexec hown (wks W (objW "java/lang/String" 1)) (g := (mkF m 1 #[.val (.ref a), .val (.ref b), .val (.int (Int32.ofNat o)), .val (.int (Int32.ofNat len)), .val .null, .unset] [.ref a])) rfl (by rw [hml]; rfl) (rest := []) rfl (hb hbytes d1) (W := 0) (by show 2 * 0 + 0 ≤ _; decide) (Nat.le_of_ble_eq_true rfl) (Nat.le_of_ble_eq_true rfl)
  have hh3 := q3.trans hh0
  have c4 : Steps p.tables e below (s₁.setTop (entryFrame m #[.ref a, .ref b, .int (Int32.ofNat o), .int (Int32.ofNat len), .null] 6)) (T3.setTop (mkF m 27 #[.val (.ref a), .val (.ref b), .val (.int (Int32.ofNat o)), .val (.int (Int32.ofNat len)), .val .null, .unset] [])) := (c2.trans (st3 _ (Steps.refl _))).trans (by
    refine XS.iloadN X3.here hexec rfl (hb hbytes d4) rfl ?_
    refine XS.ifYes X3.here hexec rfl (pc0 := 5) rfl (hb hbytes d5) rfl (i0_ne_t (nz32 (by omega) l0)) (by decide) rfl ?_
    exact Steps.refl _)
  obtain ⟨T5, X5, q5, st5⟩ := X3.sget hexec hown (wk W (.fieldLink "java/lang/String" 38 "java/lang/String" "COMPACT_STRINGS" "Z")) s1 (fun _ _ h => by rw [hh3]; exact h) (g := (mkF m 27 #[.val (.ref a), .val (.ref b), .val (.int (Int32.ofNat o)), .val (.int (Int32.ofNat len)), .val .null, .unset] [])) rfl (hb hbytes d27)
  have hh5 := q5.trans hh3
  have c6 : Steps p.tables e below (s₁.setTop (entryFrame m #[.ref a, .ref b, .int (Int32.ofNat o), .int (Int32.ofNat len), .null] 6)) (T5.setTop (mkF m 30 #[.val (.ref a), .val (.ref b), .val (.int (Int32.ofNat o)), .val (.int (Int32.ofNat len)), .val .null, .unset] [.int z])) := c4.trans (st5 _ (Steps.refl _))
  have c7 : Steps p.tables e below (s₁.setTop (entryFrame m #[.ref a, .ref b, .int (Int32.ofNat o), .int (Int32.ofNat len), .null] 6)) (T5.setTop (mkF m 36 #[.val (.ref a), .val (.ref b), .val (.int (Int32.ofNat o)), .val (.int (Int32.ofNat len)), .val .null, .unset] [.int (Int32.ofNat len), .int (Int32.ofNat o), .ref b])) := c6.trans (by
    refine XS.ifNo X5.here hexec rfl (hb hbytes d30) rfl (i0_eq_f hz) ?_
    refine XS.aloadN X5.here hexec rfl (hb hbytes d33) rfl rfl ?_
    refine XS.iloadN X5.here hexec rfl (hb hbytes d34) rfl ?_
    refine XS.iloadN X5.here hexec rfl (hb hbytes d35) rfl ?_
    exact Steps.refl _)
  obtain ⟨v8, T8, X8, E8, g8⟩ := X5.callS hexec (Cmp3.law l b A o len) hown (wks W (staticW "java/lang/String" 177 Cmp3.yN)) (wk W Cmp3.tab) (W := 0) (Nat.le_of_ble_eq_true rfl) (Nat.le_of_ble_eq_true rfl) (Nat.le_refl _) (by show 0 + len ≤ len; omega) (g := (mkF m 36 #[.val (.ref a), .val (.ref b), .val (.int (Int32.ofNat o)), .val (.int (Int32.ofNat len)), .val .null, .unset] [.int (Int32.ofNat len), .int (Int32.ofNat o), .ref b])) rfl (by rw [hml]; rfl) c7 (argsL := [.ref b, .int (Int32.ofNat o), .int (Int32.ofNat len)]) (rest := []) rfl rfl (by show 2 * 0 + 0 ≤ _; decide) (hb hbytes d36) (⟨rfl, hA.mv X5.warmed.alike hh5, l1, l2, hp⟩)
  obtain ⟨e8, z8⟩ := E8
  obtain ⟨rfl, N, n1, n2, n3, n4, n5, n6⟩ := NewArr.mv _ T5 s _ _ hh5.symm (Vm.Alike.refl _) rfl e8
  rw [hh5] at z8
  have hB1 := hB.keep X8.warmed.alike (n6 _ _ hB.1)
  have hne : s.heap.size ≠ a := (Nat.ne_of_lt (Array.getElem?_eq_some_iff.mp hB.1).1).symm
  have c9 : Steps p.tables e below (s₁.setTop (entryFrame m #[.ref a, .ref b, .int (Int32.ofNat o), .int (Int32.ofNat len), .null] 6)) (T8.setTop (mkF m 39 #[.val (.ref a), .val (.ref b), .val (.int (Int32.ofNat o)), .val (.int (Int32.ofNat len)), .val .null, .unset] [.ref s.heap.size])) := g8
  have c10 : Steps p.tables e below (s₁.setTop (entryFrame m #[.ref a, .ref b, .int (Int32.ofNat o), .int (Int32.ofNat len), .null] 6)) (T8.setTop (mkF m 45 #[.val (.ref a), .val (.ref b), .val (.int (Int32.ofNat o)), .val (.int (Int32.ofNat len)), .val .null, .val (.ref s.heap.size)] [.int (Int32.ofNat N.slots.size), .ref s.heap.size, .ref a])) := by
    have hc : Steps p.tables e below (s₁.setTop (entryFrame m #[.ref a, .ref b, .int (Int32.ofNat o), .int (Int32.ofNat len), .null] 6)) (T8.setTop (mkF m 45 #[.val (.ref a), .val (.ref b), .val (.int (Int32.ofNat o)), .val (.int (Int32.ofNat len)), .val .null, .val (.ref s.heap.size)] [.int (Int32.ofNat len), .ref s.heap.size, .ref a])) := c9.trans (by
      refine XS.astore X8.here hexec rfl (hb hbytes d39) rfl rfl rfl ?_
      refine XS.aloadN X8.here hexec rfl (hb hbytes d41) rfl rfl ?_
      refine XS.aload X8.here hexec rfl (hb hbytes d42) rfl rfl ?_
      refine XS.iloadN X8.here hexec rfl (hb hbytes d44) rfl ?_
      exact Steps.refl _)
    rw [n4]; exact hc
  obtain ⟨v11, T11, X11, E11, g11⟩ := X8.callS hexec (CodL.law l s.heap.size N) hown (wks W (staticW "java/lang/String" 47 CodL.yN)) (wk W CodL.tab) (W := 1) (Nat.le_of_ble_eq_true rfl) (Nat.le_of_ble_eq_true rfl) (Nat.le_refl _) (by show 0 + len + 0 ≤ len; omega) (g := (mkF m 45 #[.val (.ref a), .val (.ref b), .val (.int (Int32.ofNat o)), .val (.int (Int32.ofNat len)), .val .null, .val (.ref s.heap.size)] [.int (Int32.ofNat N.slots.size), .ref s.heap.size, .ref a])) rfl (by rw [hml]; rfl) c10 (argsL := [.ref s.heap.size, .int (Int32.ofNat N.slots.size)]) (rest := [.ref a]) rfl rfl (by show 2 * 0 + (1 + 0) ≤ _; decide) (hb hbytes d45) (⟨rfl, n1⟩)
  obtain ⟨rfl, q11⟩ := E11
  have hB11 := hB1.mv (X8.warmed.alike.symm.trans X11.warmed.alike) q11
  have c12 : Steps p.tables e below (s₁.setTop (entryFrame m #[.ref a, .ref b, .int (Int32.ofNat o), .int (Int32.ofNat len), .null] 6)) (T11.setTop (mkF m 48 #[.val (.ref a), .val (.ref b), .val (.int (Int32.ofNat o)), .val (.int (Int32.ofNat len)), .val .null, .val (.ref s.heap.size)] [.int 0, .ref a])) := g11
  obtain ⟨T13, X13, p13, bl13, sl13, st13⟩ := X11.finit hexec hown (wk W (.fieldLink "java/lang/String" 15 "java/lang/String" "coder" "B")) (Or.inr ⟨_, (wk W (.laysFinal "java/lang/String" "java/lang/String" "coder" "B"))⟩) (Or.inl ⟨rfl, hnm⟩) f2 (Or.inl rfl) hB11 (t := .byte) (by decide +kernel) rfl (g := (mkF m 48 #[.val (.ref a), .val (.ref b), .val (.int (Int32.ofNat o)), .val (.int (Int32.ofNat len)), .val .null, .val (.ref s.heap.size)] [.int 0, .ref a])) rfl (rest := []) rfl (hb hbytes d48)
  have c14 : Steps p.tables e below (s₁.setTop (entryFrame m #[.ref a, .ref b, .int (Int32.ofNat o), .int (Int32.ofNat len), .null] 6)) (T13.setTop (mkF m 54 #[.val (.ref a), .val (.ref b), .val (.int (Int32.ofNat o)), .val (.int (Int32.ofNat len)), .val .null, .val (.ref s.heap.size)] [.ref s.heap.size, .ref a])) := (c12.trans (st13 _ (Steps.refl _))).trans (by
    refine XS.aloadN X13.here hexec rfl (hb hbytes d51) rfl rfl ?_
    refine XS.aload X13.here hexec rfl (hb hbytes d52) rfl rfl ?_
    exact Steps.refl _)
  obtain ⟨T15, X15, p15, bl15, sl15, st15⟩ := X13.finit hexec hown (wk W (.fieldLink "java/lang/String" 9 "java/lang/String" "value" "[B")) (Or.inr ⟨_, (wk W (.laysFinal "java/lang/String" "java/lang/String" "value" "[B"))⟩) (Or.inl ⟨rfl, hnm⟩) f1 (Or.inl rfl) bl13 (t := (.array .byte)) (by decide +kernel) rfl (g := (mkF m 54 #[.val (.ref a), .val (.ref b), .val (.int (Int32.ofNat o)), .val (.int (Int32.ofNat len)), .val .null, .val (.ref s.heap.size)] [.ref s.heap.size, .ref a])) rfl (rest := []) rfl (hb hbytes d54)
  have c16 : Steps p.tables e below (s₁.setTop (entryFrame m #[.ref a, .ref b, .int (Int32.ofNat o), .int (Int32.ofNat len), .null] 6)) (T15.setTop (mkF m 57 #[.val (.ref a), .val (.ref b), .val (.int (Int32.ofNat o)), .val (.int (Int32.ofNat len)), .val .null, .val (.ref s.heap.size)] [])) := c14.trans (st15 _ (Steps.refl _))
  have ap := apart (Or.inr ⟨_, (wk W (.laysFinal "java/lang/String" "java/lang/String" "value" "[B"))⟩) (Or.inr ⟨_, (wk W (.laysFinal "java/lang/String" "java/lang/String" "coder" "B"))⟩) f1 f2 (t₁ := .array .byte) (t₂ := .byte) (by decide +kernel) (by decide +kernel) (by decide)
  have al := X8.warmed.alike.symm.trans X15.warmed.alike
  have n7 : T11.heap[s.heap.size]? = some N := by rw [q11]; exact n1.1
  exact ⟨T15, none, _, _, _, X15, by simp, rfl, by omega, (fun _ => rfl), ⟨rfl, _, N, bl15, ((Same.refl D _).set _ (by simp)).set _ (by simp), sl15, (Cell.slots_setSlot_ne _ ap).trans sl13, n1.keep al (p15.other hne (p13.other hne n7)), n2, by rw [al.findClass]; exact n3, n4, n5, fun y c h1 h2 => p15.other h1 (p13.other h1 (by rw [q11]; exact n6 y c h2)), by rw [p15.2.2, p13.2.2, q11]; exact z8⟩, fun fs hl => c16.trans (X15.returnOut hexec hret (hb hbytes d57) hl)⟩
end New4
namespace New1
def yN : MethodName := ⟨"java/lang/String", "<init>", "([C)V"⟩
abbrev yB : ByteArray := jdk_42_method_3_code
theorem d0 : decode yB 0 = .ok (.aload_n 0, 1) := by decide +kernel
theorem d1 : decode yB 1 = .ok (.aload_n 1, 1) := by decide +kernel
theorem d2 : decode yB 2 = .ok (.iconst 0, 1) := by decide +kernel
theorem d3 : decode yB 3 = .ok (.aload_n 1, 1) := by decide +kernel
theorem d4 : decode yB 4 = .ok (.arraylength, 1) := by decide +kernel
theorem d5 : decode yB 5 = .ok (.aconst_null, 1) := by decide +kernel
theorem d6 : decode yB 6 = .ok (.invokespecial 27, 3) := by decide +kernel
theorem d9 : decode yB 9 = .ok (.return_, 1) := by decide +kernel
def site : List Cond := [New4.tab] ++ initW "java/lang/String" 27 New4.yN
def tab : Cond := tabOf yN yB 2 none site
def P (a : Addr) (D : Cell) (fV fC : Field) (b : Addr) (A : Cell) (z : Int32) (args : Array Value) (s : State) : Prop := args = #[.ref a, .ref b] ∧ Blank "java/lang/String" a D s ∧ Found "java/lang/String" "value" "[B" fV s ∧ Found "java/lang/String" "coder" "B" fC s ∧ Ch b A s ∧ StaticIs s "java/lang/String" "COMPACT_STRINGS" "Z" (.int z) ∧ ¬ z = 0 ∧ 0 < A.slots.size ∧ A.slots.size ≤ 536870912 ∧ ∀ i, i < A.slots.size → ¬ 255 < cv A i
def E (a : Addr) (D : Cell) (fV fC : Field) (A : Cell) (r : Option Value) (s u : State) : Prop := Got a D fV fC A 0 A.slots.size r s u
/-- new String(chars), not empty, no char above 255: a Latin-1 String of their low bytes -/
theorem law (l : Launch) (a : Addr) (D : Cell) (fV fC : Field) (b : Addr) (A : Cell) (z : Int32) : Law l yN 2 1 3 52 yB 2 none site (P a D fV fC b A z) (E a D fV fC A) [⟨a, fC.slot⟩, ⟨a, fV.slot⟩] 1 A.slots.size := by
  refine Law.of_walk (plainFor_of_name (by decide +kernel)) (by decide +kernel) (by decide +kernel) (by decide) (fun _ _ h => by rw [h.1]; rfl) (fun _ U U' hal hh h => ⟨h.1, h.2.1.mv hal hh, h.2.2.1.al hal, h.2.2.2.1.al hal, h.2.2.2.2.1.mv hal hh, h.2.2.2.2.2.1.there hal hh, h.2.2.2.2.2.2⟩) (fun r U U' V V' h1 hal h2 h => Got.mv r U U' V V' h1 hal h2 h) ?_
  intro p e s m args below meth c s₁ X0 hexec hbytes hml hret hlk hnm hown hh0 W hP
  obtain ⟨rfl, hB, f1, f2, hA, s1, hz, l0, l2, hp⟩ := hP
  have c1 : Steps p.tables e below (s₁.setTop (entryFrame m #[.ref a, .ref b] 2)) (s₁.setTop (mkF m 0 #[.val (.ref a), .val (.ref b)] [])) := entry rfl
  have c2 : Steps p.tables e below (s₁.setTop (entryFrame m #[.ref a, .ref b] 2)) (s₁.setTop (mkF m 6 #[.val (.ref a), .val (.ref b)] [.null, .int (Int32.ofNat A.slots.size), .int 0, .ref b, .ref a])) := c1.trans (by
    refine XS.aloadN X0.here hexec rfl (hb hbytes d0) rfl rfl ?_
    refine XS.aloadN X0.here hexec rfl (hb hbytes d1) rfl rfl ?_
    refine iconstV X0.here hexec rfl 0 (hb hbytes d2) (by decide) ?_
    refine XS.aloadN X0.here hexec rfl (hb hbytes d3) rfl rfl ?_
    refine X0.alen hexec (hA.1.mv X0.warmed.alike hh0) rfl rfl (hb hbytes d4) ?_
    refine XS.aconstNull X0.here hexec rfl (hb hbytes d5) ?_
    exact Steps.refl _)
  obtain ⟨v3, T3, X3, E3, g3⟩ := X0.callN hexec (New4.law l a D fV fC b A z 0 A.slots.size) rfl hown (wks W (initW "java/lang/String" 27 New4.yN)) (W New4.tab (by simp only [site, List.mem_cons, List.mem_append, true_or, or_true])) (W := 0) (Nat.le_of_ble_eq_true rfl) (Nat.le_of_ble_eq_true rfl) (Nat.le_refl _) (by show 0 + A.slots.size ≤ A.slots.size; omega) (g := (mkF m 6 #[.val (.ref a), .val (.ref b)] [.null, .int (Int32.ofNat A.slots.size), .int (Int32.ofNat 0), .ref b, .ref a])) rfl (by rw [hml]; rfl) c2 (argsL := [.ref b, .int (Int32.ofNat 0), .int (Int32.ofNat A.slots.size), .null]) (rest := []) rfl rfl (by show 2 * 0 + 0 ≤ _; decide) (hb hbytes d6) (⟨rfl, hB.mv X0.warmed.alike hh0, f1.al X0.warmed.alike, f2.al X0.warmed.alike, hA.mv X0.warmed.alike hh0, s1.there X0.warmed.alike hh0, hz, l0, by omega, l2, fun i hi => by rw [Nat.zero_add]; exact hp i hi⟩)
  have e0 := Got.mv _ s₁ s _ _ hh0.symm (Vm.Alike.refl _) rfl E3
  obtain rfl := e0.1
  have c4 : Steps p.tables e below (s₁.setTop (entryFrame m #[.ref a, .ref b] 2)) (T3.setTop (mkF m 9 #[.val (.ref a), .val (.ref b)] [])) := g3
  exact ⟨T3, none, _, _, _, X3, by simp, rfl, by omega, (fun _ => rfl), e0, fun fs hl => c4.trans (X3.returnOut hexec hret (hb hbytes d9) hl)⟩
theorem pays {l : Launch} {R : Room} {p : Program} {e : Env} {below : List Frame} {s : State} {sargs : Array Value} {len W : Nat} (a : Addr) (D : Cell) (fV fC : Field) (b : Addr) (A : Cell) (z : Int32) (htab : tab.before sargs s = true) (hfr : 4 ≤ R.frames) (hlo : W + 65 ≤ R.locals) :
    Back l R p e below s sargs yN len W (fun A₁ a₁ => A₁.cells + 1 ≤ R.cells ∧ A₁.slots + A.slots.size ≤ R.slots ∧ P a D fV fC b A z a₁ A₁.U) (fun A₁ _ v₁ B₁ => E a D fV fC A v₁ A₁.U B₁.U ∧ B₁.locs = A₁.locs ++ [⟨a, fC.slot⟩, ⟨a, fV.slot⟩] ∧ B₁.cells = A₁.cells + 1 ∧ B₁.slots = A₁.slots + A.slots.size) :=
  (law l a D fV fC b A z).pays htab hfr (by omega)
end New1
/-- the byte, read back as charAt reads it, is the char -/
theorem lo8_mask {x : Int32} (h0 : ¬ x < 0) (h1 : ¬ 255 < x) : lo8 x &&& 255 = x := by
  have t : ∀ k : Fin 256, lo8 (Int32.ofNat k.val) &&& 255 = Int32.ofNat k.val := by decide +kernel
  rw [Int32.lt_iff_toInt_lt] at h0 h1
  have e0 : (0 : Int32).toInt = 0 := rfl
  have e1 : (255 : Int32).toInt = 255 := rfl
  obtain ⟨k, hk⟩ : ∃ k : Nat, x.toInt = k := ⟨x.toInt.toNat, by omega⟩
  have hx : x = Int32.ofNat k := Int32.toInt_inj.mp (by rw [hk, Int32.toInt_ofNat_small (by omega)])
  rw [hx]
  exact t ⟨k, by omega⟩
end StrChars
namespace StrChars.Road
open Jvm Sem ClassFile Op Lib Jvm.Stand Jvm.Free Jvm.Free.XT
open Jvm.Lib.Cold (StaticIs)
abbrev ST : String := "java/lang/String"
/-- every table word that New1's law asks, flat -/
abbrev words : List Jvm.Cond := [.code New1.yN New1.yB 2 none, .initialized ST, .methodLink ST 27 New4.yN, .instanceMethod New4.yN,
  .code New4.yN New4.yB 6 none, .fieldLink ST 38 ST "COMPACT_STRINGS" "Z", .laysFinal ST ST "value" "[B", .fieldLink ST 9 ST "value" "[B", .laysFinal ST ST "coder" "B", .fieldLink ST 15 ST "coder" "B",
  .methodLink ST 1 Lib.objectInit, .instanceMethod Lib.objectInit, .code Lib.objectInit ⟨#[0xb1]⟩ 1 none, .methodLink ST 177 Cmp3.yN, .static Cmp3.yN, .methodLink ST 47 CodL.yN, .static CodL.yN,
  .code Cmp3.yN Cmp3.yB 6 (some (.array .byte)), .initialized U16, .arrayClass .byte, .methodLink U16 115 Cmp5.yN, .static Cmp5.yN, .code Cmp5.yN Cmp5.yB 7 (some .int), .code CodL.yN CodL.yB 2 (some .byte)]
theorem tab_of {a : Array Value} {s : State} (h : ∀ w ∈ words, w.before a s = true) : New1.tab.before a s = true := by
  have h5 : Cmp5.tab.before a s = true := unparts (wk h (.code Cmp5.yN Cmp5.yB 7 (some .int))) (wks h (.initialized Cmp5.yN.cls :: Cmp5.site))
  have hc : CodL.tab.before a s = true := unparts (wk h (.code CodL.yN CodL.yB 2 (some .byte))) (wks h (.initialized CodL.yN.cls :: CodL.site))
  have q5 : ∀ w ∈ Cmp5.tab :: words, w.before a s = true := fun w hw => (List.mem_cons.mp hw).elim (fun e => e ▸ h5) (h w)
  have h3 : Cmp3.tab.before a s = true := unparts (wk q5 (.code Cmp3.yN Cmp3.yB 6 (some (.array .byte)))) (wks q5 (.initialized Cmp3.yN.cls :: Cmp3.site))
  have q3 : ∀ w ∈ Cmp3.tab :: CodL.tab :: words, w.before a s = true := fun w hw => (List.mem_cons.mp hw).elim (fun e => e ▸ h3) fun hw => (List.mem_cons.mp hw).elim (fun e => e ▸ hc) (h w)
  have h4 : New4.tab.before a s = true := unparts (wk q3 (.code New4.yN New4.yB 6 none)) (wks q3 (.initialized New4.yN.cls :: New4.site))
  have q4 : ∀ w ∈ New4.tab :: words, w.before a s = true := fun w hw => (List.mem_cons.mp hw).elim (fun e => e ▸ h4) (h w)
  exact unparts (wk q4 (.code New1.yN New1.yB 2 none)) (wks q4 (.initialized New1.yN.cls :: New1.site))
/-- the words ride from the start Z to the walk's own state -/
theorem moved {Z s : State} {a0 args : Array Value} (hZ : Z.Warmed39 s.vm) (hw : ∀ d ∈ words, d.before a0 Z = true) : ∀ d ∈ words, d.before args s = true := fun d hd => by
  have q := hw d hd
  have t : ∀ d ∈ words, d = .arrayClass .byte ∨ (d.onTables && d.keepsFace) = true := by decide +kernel
  rcases t d hd with rfl | t
  · exact RoadKit.mvA hZ q
  · exact RoadKit.mv hZ q t
/-- WHAT COMES BACK, over the tables of the start Z: h the heap at the call, h' behind it -/
def Q (Z : State) (x : Addr) (A : Cell) (h : Heap) (v : Option Value) (h' : Heap) (L : List Loc) : Prop := v = none ∧ (∀ y ∈ L, y.base = x) ∧ RoadKit.Keep h h' [x] ∧ h'.size = h.size + 1 ∧ RoadKit.Exa Z h' x ST ∧ RoadKit.Fld Z h' x ST "value" "[B" (.ref h.size) ∧ RoadKit.Fld Z h' x ST "coder" "B" (.int 0) ∧
  (∃ V : Cell, RoadKit.Arr Z h' h.size V .byte ∧ V.vm = .none ∧ Z.vm.findClass "[B" = some V.cls ∧ V.slots.size = A.slots.size ∧ ∀ j, j < A.slots.size → V.slots[j]? = some (.int (lo8 (cv A j)))) ∧
  ∀ (O n d : String) (w : Value), RoadKit.Fld Z h x O n d w → RoadKit.slotOf Z O n d ≠ RoadKit.slotOf Z ST "value" "[B" → RoadKit.slotOf Z O n d ≠ RoadKit.slotOf Z ST "coder" "B" → RoadKit.Fld Z h' x O n d w
/-- **new String(chars) AT A CALL, IN THE ROAD'S FORM**: for specialBack behind newO: x the fresh String, b the char[] with the cell A -/
theorem back {p : Program} {l : Launch} {e : Env} {R : Room} {s : State} {args : Array Value} {below : List Frame} {len W : Nat} {Z : State} {a0 : Array Value} {h : Heap} (hZ : Z.Warmed39 s.vm) (hw : ∀ d ∈ words, d.before a0 Z = true) {kI : Nat} (wi : (Jvm.Cond.instantiable ST kI).before a0 Z = true)
    {x b : Addr} {A : Cell} {z : Int32} {v0 c0 : Value} (E : RoadKit.Exa Z h x ST) (V : RoadKit.Fld Z h x ST "value" "[B" v0) (C : RoadKit.Fld Z h x ST "coder" "B" c0) (K : RoadKit.Arr Z h b A .char) (hty : Typed .char A) (S : RoadKit.Sta Z h ST "COMPACT_STRINGS" "Z" (.int z)) (hz : ¬ z = 0)
    (l0 : 0 < A.slots.size) (l2 : A.slots.size ≤ 536870912) (hp : ∀ i, i < A.slots.size → ¬ 255 < cv A i) (hfr : 4 ≤ R.frames) (hlo : W + 65 ≤ R.locals) :
    Back l R p e below s args New1.yN len W (fun P a => a = #[.ref x, .ref b] ∧ P.U.heap = h ∧ P.cells + 1 ≤ R.cells ∧ P.slots + A.slots.size ≤ R.slots)
      (fun P _ v B => ∃ L, Q Z x A h v B.U.heap L ∧ B.locs = P.locs ++ L ∧ B.cells = P.cells + 1 ∧ B.slots = P.slots + A.slots.size) := by
  intro m meth c P g ig mk a X hg hsize hdg hW hn hp'
  obtain ⟨rfl, rfl, r1, r2⟩ := hp'
  have al : Z.vm.Alike P.U.vm := hZ.alike.trans X.warmed.alike
  obtain ⟨D, cfV, kV, iV, fV, hD, gV, stV, knV, obV, asV, slV⟩ := id V
  obtain ⟨D', cfC, kC, iC, fC, hD', gC, stC, -, -, asC, slC⟩ := id C
  cases hD.symm.trans hD'
  obtain ⟨D2, kD, e1, e2, e3, e4, e5⟩ := id E
  cases hD.symm.trans e1
  obtain ⟨c2, k2, i1, i2, i3, -⟩ := Cond.instantiable_spec wi
  cases e2.symm.trans i1
  cases e3.symm.trans i2
  obtain ⟨kU, u1, u2⟩ := al.2.2 _ _ e3
  have hB : Blank ST x D P.U := ⟨hD, ⟨knV, fun q hq => by rw [hq] at obV; cases obV⟩, by rw [al.findClass]; exact e2, kU, u1, by rw [u2]; exact i3, by rw [u2]; exact e5 i3⟩
  have F1 : Found ST "value" "[B" fV P.U := ⟨SBG.found_only al ⟨cfV, kV, iV, gV⟩, stV⟩
  have F2 : Found ST "coder" "B" fC P.U := ⟨SBG.found_only al ⟨cfC, kC, iC, gC⟩, stC⟩
  have hA : Ch b A P.U := ⟨⟨K.1, State.isArrayOf_alike al K.2.1, K.2.2, by omega⟩, hty⟩
  have hS : StaticIs P.U ST "COMPACT_STRINGS" "Z" (.int z) := by
    obtain ⟨cfS, iS, kS, fS, st, cS, t1, t2, t3, t4, t5, t6, t7⟩ := S
    exact StaticIs.there (s := { Z with heap := P.U.heap }) ⟨cfS, iS, kS, fS, st, cS, t1, t2, t3, t4, t5, (fun q => by rw [q] at t6; cases t6), t7⟩ al rfl
  obtain ⟨v, B, X', ⟨⟨hv, E', V', q1, q2, q3, q4, q5, q6, q7, q8, q9, q10, q11⟩, hl, hc, hs⟩, st⟩ := New1.pays x D fV fC b A z (tab_of (moved hZ hw)) hfr hlo m meth c P g ig mk _ X hg hsize hdg hW hn ⟨r1, r2, rfl, hB, F1, F2, hA, hS, hz, l0, l2, hp⟩
  have al' : Z.vm.Alike B.U.vm := hZ.alike.trans X'.warmed.alike
  have hsz : E'.slots.size = D.slots.size := by
    obtain ⟨-, -, -, kB, w1, w2, w3⟩ := q1
    obtain ⟨kB', y1, y2⟩ := al'.2.2 _ _ e3
    rw [q2.2.1] at w1
    cases w1.symm.trans y1
    rw [w3, e5 i3, y2]
  refine ⟨v, B, X', ⟨_, ⟨hv, ?_, ⟨by omega, fun y cy hy hn' => q10 y cy (by simpa using hn') hy, fun y cy hy => ?_⟩, q11, ⟨E', _, q1.1, by rw [q2.2.1]; exact e2, by rw [q2.2.1]; exact e3, by rw [q2.1]; exact obV, fun _ => by rw [hsz]; exact e5 i3⟩,
    ⟨E', cfV, kV, iV, fV, q1.1, gV, stV, by rw [q2.1]; exact knV, by rw [q2.1]; exact obV, by rw [q2.2.1]; exact asV, q3⟩, ⟨E', cfC, kC, iC, fC, q1.1, gC, stC, by rw [q2.1]; exact knV, by rw [q2.1]; exact obV, by rw [q2.2.1]; exact asC, q4⟩,
    ⟨V', ⟨q5.1, State.isArrayOf_alike al'.symm q5.2.1, q5.2.2.1⟩, q6, by rw [← al'.findClass]; exact q7, q8, fun j hj => by have := q9 j hj; rwa [Nat.zero_add] at this⟩, fun O n d w F n1 n2 => ?_⟩, hl, hc, hs⟩, st⟩
  · intro y hy
    simp only [List.mem_cons, List.not_mem_nil, or_false] at hy
    rcases hy with rfl | rfl <;> rfl
  · by_cases q : y = x
    · subst q
      cases hD.symm.trans hy
      exact ⟨E', q1.1, q2.2.1, q2.1, hsz⟩
    · exact ⟨cy, q10 y cy q hy, rfl, rfl, rfl⟩
  · obtain ⟨D3, cf, k, i, f, g1, g2, g3, g4, g5, g6, g7⟩ := F
    cases hD.symm.trans g1
    simp only [RoadKit.slotOf, g2, gV, gC, Option.map_some, Option.getD_some] at n1 n2
    exact ⟨E', cf, k, i, f, q1.1, g2, g3, by rw [q2.1]; exact g4, by rw [q2.1]; exact g5, by rw [q2.2.1]; exact g6, by rw [q2.2.2 f.slot (by simp [n1, n2])]; exact g7⟩
end StrChars.Road
namespace StrChars.Road
open Jvm Sem ClassFile Op Lib Jvm.Stand Jvm.Free Jvm.Free.XT
/-- WHAT COMES BACK, the byte[] as a list of values -/
def QA (Z : State) (x : Addr) (zn : Int32) (cs : List Int32) (h : Heap) (v : Option Value) (h' : Heap) (L : List Loc) : Prop := v = none ∧ (∀ y ∈ L, y.base = x) ∧ RoadKit.Keep h h' [x] ∧ h'.size = h.size + 1 ∧ RoadKit.Exa Z h' x ST ∧ RoadKit.Fld Z h' x ST "value" "[B" (.ref h.size) ∧ RoadKit.Fld Z h' x ST "coder" "B" (.int 0) ∧
  (∃ kb, Z.vm.findClass "[B" = some kb ∧ RoadKit.Arv Z h' h.size kb .byte zn (cs.map fun c => .int (lo8 c)) (.int 0)) ∧
  ∀ (O n d : String) (w : Value), RoadKit.Fld Z h x O n d w → RoadKit.slotOf Z O n d ≠ RoadKit.slotOf Z ST "value" "[B" → RoadKit.slotOf Z O n d ≠ RoadKit.slotOf Z ST "coder" "B" → RoadKit.Fld Z h' x O n d w
/-- **new String(chars) AT A CALL, THE ARRAYS AS LISTS**: the char[] at b holds cs, not empty, no char above 255 -/
theorem backArv {p : Program} {l : Launch} {e : Env} {R : Room} {s : State} {args : Array Value} {below : List Frame} {len W : Nat} {Z : State} {a0 : Array Value} {h : Heap} (hZ : Z.Warmed39 s.vm) (hw : ∀ d ∈ words, d.before a0 Z = true) {kI : Nat} (wi : (Jvm.Cond.instantiable ST kI).before a0 Z = true)
    {x b : Addr} {k : ClassId} {zn z : Int32} {cs : List Int32} {dv v0 c0 : Value} (E : RoadKit.Exa Z h x ST) (V : RoadKit.Fld Z h x ST "value" "[B" v0) (C : RoadKit.Fld Z h x ST "coder" "B" c0) (K : RoadKit.Arv Z h b k .char zn (cs.map Value.int) dv) (S : RoadKit.Sta Z h ST "COMPACT_STRINGS" "Z" (.int z)) (hz : ¬ z = 0)
    (hlen : zn.toNatClampNeg = cs.length) (h0 : 0 < cs.length) (hbig : cs.length ≤ 536870912) (hall : ∀ c ∈ cs, ¬ 255 < c) (hfr : 4 ≤ R.frames) (hlo : W + 65 ≤ R.locals) :
    Back l R p e below s args New1.yN len W (fun P a => a = #[.ref x, .ref b] ∧ P.U.heap = h ∧ P.cells + 1 ≤ R.cells ∧ P.slots + cs.length ≤ R.slots)
      (fun P _ v B => ∃ L, QA Z x zn cs h v B.U.heap L ∧ B.locs = P.locs ++ L ∧ B.cells = P.cells + 1 ∧ B.slots = P.slots + cs.length) := by
  obtain ⟨A, K1, K2, K3, K4, K5, K6⟩ := K
  have e : A.slots.size = cs.length := K3.trans hlen
  have hat : ∀ (i : Nat) (hi : i < cs.length), A.slots[i]? = some (.int cs[i]) := fun i hi => by rw [K5 i (by omega)]; simp [List.getD_eq_getElem?_getD, hi]
  have hcv : ∀ (i : Nat) (hi : i < cs.length), cv A i = cs[i] := fun i hi => by unfold cv; rw [hat i hi]
  have hty : Typed .char A := fun i v hv => by
    have hi : i < A.slots.size := (Array.getElem?_eq_some_iff.mp hv).1
    have q := K5 i hi
    rw [hv] at q
    rw [Option.some.inj q]
    exact K6 i hi
  refine Back.mono (back hZ hw wi E V C K1 hty S hz (by omega) (by omega) (fun i hi => by rw [hcv i (by omega)]; exact hall _ (List.getElem_mem _)) hfr hlo) (fun P a hp => ⟨hp.1, hp.2.1, hp.2.2.1, by rw [e]; exact hp.2.2.2⟩) (fun P a v B hp hq => ?_)
  obtain ⟨L, ⟨q1, q2, q3, q4, q5, q6, q7, ⟨V', v1, v2, v3, v4, v5⟩, q9⟩, hl, hc, hs⟩ := hq
  refine ⟨L, ⟨q1, q2, q3, q4, q5, q6, q7, ⟨V'.cls, v3, V', v1, rfl, by rw [v4, e, hlen], K4, fun i hi => ?_, fun i hi => ?_⟩, q9⟩, hl, hc, by rw [hs, e]⟩
  · have hi' : i < cs.length := by omega
    rw [v5 i (by omega), hcv i hi']; simp [List.getD_eq_getElem?_getD, hi']
  · have hi' : i < cs.length := by omega
    simp only [List.getD_eq_getElem?_getD, List.getElem?_map, List.getElem?_eq_getElem hi', Option.map_some, Option.getD_some]
    exact fits_lo8 _
end StrChars.Road
namespace StrChars.Road
open Jvm Sem ClassFile Op Lib Jvm.Stand Jvm.Free Jvm.Free.XT
/-- WHAT COMES BACK, in the writer's own shape -/
def QV (Z : State) (x : Addr) (N : Int32) (bs : List Int32) (h : Heap) (n0 : Nat) (v : Option Value) (h' : Heap) (L : List Loc) : Prop := v = none ∧ RoadKit.Fr n0 L ∧ RoadKit.Keep h h' [x] ∧ RoadKit.Exa Z h' x ST ∧ RoadKit.Fld Z h' x ST "coder" "B" (.int 0) ∧
  ∃ (t : Addr) (kb : ClassId), n0 ≤ t ∧ h.size ≤ t ∧ ¬ t = x ∧ RoadKit.Fld Z h' x ST "value" "[B" (.ref t) ∧ RoadKit.Arv Z h' t kb .byte N (bs.map Value.int) (.int 0)
/-- **new String(chars) AT A CALL, FOR THE WRITER**: a char[] of n known ints, each 0 to 255 -/
theorem backV {p : Program} {l : Launch} {e : Env} {R : Room} {s : State} {args : Array Value} {below : List Frame} {len W : Nat} {Z : State} {a0 : Array Value} {h : Heap} (hZ : Z.Warmed39 s.vm) (hw : ∀ d ∈ words, d.before a0 Z = true) {kI : Nat} (wi : (Jvm.Cond.instantiable ST kI).before a0 Z = true)
    {x b : Addr} {kC : ClassId} {cs bs : List Int32} {d v0 c0 : Value} {z N : Int32} {n n0 : Nat} (hx0 : n0 ≤ x) (hh0 : n0 ≤ h.size) (E : RoadKit.Exa Z h x ST) (V : RoadKit.Fld Z h x ST "value" "[B" v0) (C : RoadKit.Fld Z h x ST "coder" "B" c0) (K : RoadKit.Arv Z h b kC .char N (cs.map Value.int) d) (S : RoadKit.Sta Z h ST "COMPACT_STRINGS" "Z" (.int z)) (hz : ¬ z = 0)
    (hn : cs.length = n) (hN : N = Int32.ofNat n) (l0 : 0 < n) (l2 : n ≤ 4000) (hp : ∀ c ∈ cs, ¬ c < 0 ∧ ¬ (255 : Int32) < c) (hb : bs = cs.map (fun c => c.toInt8.toInt32)) (hfr : 4 ≤ R.frames) (hlo : W + 65 ≤ R.locals) :
    Back l R p e below s args (⟨"java/lang/String", "<init>", "([C)V"⟩ : MethodName) len W (fun P a => a = #[.ref x, .ref b] ∧ P.U.heap = h ∧ P.cells + 1 ≤ R.cells ∧ P.slots + n ≤ R.slots)
      (fun P _ v B => ∃ L, QV Z x N bs h n0 v B.U.heap L ∧ B.locs = P.locs ++ L ∧ B.cells = P.cells + 1 ∧ B.slots = P.slots + n) := by
  subst hn hN hb
  refine Back.mono (backArv hZ hw wi E V C K S hz (n32 (by omega)) l0 (by omega) (fun c hc => (hp c hc).2) hfr hlo) (fun P a hp => hp) (fun P a v B hp hq => ?_)
  obtain ⟨L, ⟨q1, q2, q3, q4, q5, q6, q7, ⟨kb, v1, v2⟩, q9⟩, hl, hc, hs⟩ := hq
  exact ⟨L, ⟨q1, fun y hy => by rw [q2 y hy]; exact hx0, q3, q5, q7, h.size, kb, hh0, Nat.le_refl _, Nat.ne_of_gt E.lt, q6, by rw [List.map_map]; exact v2⟩, hl, hc, hs⟩
end StrChars.Road
namespace StrChars
open Jvm Sem ClassFile Op Lib Jvm.Stand Jvm.Free.XT Jvm.Free.ALB Jvm.Free.JM Jvm.Free
open Jvm.Lib.Cold (StaticIs)
def hi8 (x : Int32) : Int32 := lo8 (x >>> ((8 : Int32) &&& 31))
/-- what StringUTF16.getChar makes of two bytes -/
def pairCh (u v : Int32) : Int32 := (((u &&& 255) <<< ((0 : Int32) &&& 31)) ||| ((v &&& 255) <<< ((8 : Int32) &&& 31))).toUInt32.toUInt16.toUInt32.toInt32
theorem lo8_and (x : Int32) : (lo8 x &&& 255).toBitVec.toNat = x.toBitVec.toNat % 256 := by
  have h : (lo8 x).toBitVec = (x.toBitVec.signExtend 8).signExtend 32 := by rw [lo8, Int8.toBitVec_toInt32, Int32.toBitVec_toInt8]
  rw [Int32.toBitVec_and, BitVec.toNat_and, h]
  have e : ((x.toBitVec.signExtend 8).signExtend 32).toNat % 256 = x.toBitVec.toNat % 256 := by
    rw [BitVec.toNat_signExtend]
    have hlt := x.toBitVec.isLt
    simp only [BitVec.toNat_setWidth, BitVec.toNat_signExtend]
    split <;> split <;> omega
  rw [← e]
  exact Nat.and_two_pow_sub_one_eq_mod _ 8
theorem pair_says {c : Int32} (h0 : ¬ c < 0) (h1 : ¬ 65535 < c) : pairCh (lo8 c) (hi8 c) = c := by
  rw [Int32.lt_iff_toInt_lt] at h0 h1
  have e0 : (0 : Int32).toInt = 0 := rfl
  have e1 : (65535 : Int32).toInt = 65535 := rfl
  have hc : c.toInt = c.toBitVec.toNat := by
    have := c.toBitVec.isLt
    have e : c.toInt = c.toBitVec.toInt := rfl
    rw [e] at h0 h1
    rw [e]
    rw [BitVec.toInt_eq_toNat_cond] at h0 h1 ⊢
    split at h0 <;> split <;> omega
  have hn : c.toBitVec.toNat < 65536 := by omega
  have a1 := lo8_and c
  have a2 : (hi8 c &&& 255).toBitVec.toNat = c.toBitVec.toNat / 256 := by
    rw [hi8, lo8_and]
    have e : ((8 : Int32) &&& 31) = 8 := by decide
    rw [e, Int32.toBitVec_shiftRight]
    have e2 : ((8 : Int32).toBitVec.smod 32) = 8#32 := by decide
    rw [e2, BitVec.sshiftRight_eq', BitVec.toNat_sshiftRight_of_msb_false (by rw [BitVec.msb_eq_false_iff_two_mul_lt]; omega)]
    show c.toBitVec.toNat >>> 8 % 256 = _
    rw [Nat.shiftRight_eq_div_pow]
    omega
  unfold pairCh
  apply Int32.toBitVec_inj.mp
  apply BitVec.eq_of_toNat_eq
  have f0 : ((0 : Int32) &&& 31) = 0 := by decide
  have f8 : ((8 : Int32) &&& 31) = 8 := by decide
  rw [f0, f8]
  have g : (((lo8 c &&& 255) <<< (0 : Int32)) ||| ((hi8 c &&& 255) <<< (8 : Int32))).toBitVec.toNat = c.toBitVec.toNat := by
    rw [Int32.toBitVec_or, Int32.toBitVec_shiftLeft, Int32.toBitVec_shiftLeft]
    have s0 : ((0 : Int32).toBitVec.smod 32) = 0#32 := by decide
    have s8 : ((8 : Int32).toBitVec.smod 32) = 8#32 := by decide
    rw [s0, s8, BitVec.toNat_or]
    simp only [BitVec.shiftLeft_eq', BitVec.toNat_shiftLeft, a1, a2]
    show (c.toBitVec.toNat % 256) <<< 0 % 2 ^ 32 ||| (c.toBitVec.toNat / 256) <<< 8 % 2 ^ 32 = _
    rw [Nat.shiftLeft_zero, Nat.mod_eq_of_lt (show c.toBitVec.toNat % 256 < 2 ^ 32 by omega), Nat.mod_eq_of_lt (show (c.toBitVec.toNat / 256) <<< 8 < 2 ^ 32 by rw [Nat.shiftLeft_eq]; omega), Nat.or_comm, ← Nat.shiftLeft_add_eq_or_of_lt (by omega), Nat.shiftLeft_eq]
    omega
  show BitVec.toNat (((((lo8 c &&& 255) <<< (0 : Int32)) ||| ((hi8 c &&& 255) <<< (8 : Int32))).toBitVec.setWidth 16).setWidth 32) = _
  rw [BitVec.toNat_setWidth, BitVec.toNat_setWidth, g]
  omega
end StrChars
namespace StrChars
open Jvm Sem ClassFile Op Lib Jvm.Stand Jvm.Free.XT Jvm.Free.ALB Jvm.Free.JM Jvm.Free
open Jvm.Lib.Cold (StaticIs)
/-- the array's cell V codes the n chars f 0 .. f (n - 1) by the coder cd, as the JDK does: coder 1 just where some char is above 255 -/
def Cod (cd : Int32) (n : Nat) (f : Nat → Int32) (V : Cell) : Prop := (cd = 0 ∧ V.slots.size = n ∧ ∀ j, j < n → V.slots[j]? = some (.int (lo8 (f j))) ∧ ¬ 255 < f j) ∨ (cd = 1 ∧ V.slots.size = 2 * n ∧ (∀ j, j < n → V.slots[2 * j]? = some (.int (lo8 (f j))) ∧ V.slots[2 * j + 1]? = some (.int (hi8 (f j)))) ∧ ∃ j, j < n ∧ 255 < f j)
/-- **x is a String of the n chars f 0 .. f (n - 1)**, Latin-1 or UTF-16; its array at t has the cell V -/
def Txt (x t : Addr) (V : Cell) (cd : Int32) (n : Nat) (f : Nat → Int32) (U : State) : Prop := Exact "java/lang/String" x U ∧ Has x "java/lang/String" "value" "[B" (.ref t) U ∧ Has x "java/lang/String" "coder" "B" (.int cd) U ∧ XT.Arr .byte t V U ∧ Cod cd n f V ∧ ∀ j, j < n → ¬ f j < 0 ∧ ¬ 65535 < f j
theorem Txt.mv {x t : Addr} {V : Cell} {cd : Int32} {n : Nat} {f : Nat → Int32} {U U' : State} (h : Txt x t V cd n f U) (hal : U.vm.Alike U'.vm) (hh : U'.heap = U.heap) : Txt x t V cd n f U' := ⟨h.1.mv hal hh, h.2.1.mv hal hh, h.2.2.1.mv hal hh, h.2.2.2.1.mv hal hh, h.2.2.2.2⟩
end StrChars
namespace StrChars.Road
open Jvm Sem ClassFile Op Lib Jvm.Stand Jvm.Free Jvm.Free.XT
open Jvm.Lib.Cold (StaticIs)
theorem consq {a : Array Value} {s : State} {c : Jvm.Cond} {L : List Jvm.Cond} (h0 : c.before a s = true) (h : ∀ w ∈ L, w.before a s = true) : ∀ w ∈ c :: L, w.before a s = true := fun w hw => (List.mem_cons.mp hw).elim (fun e => e ▸ h0) (h w)
/-- the bytes of the chars cs, low before high -/
def wideBytes : List Int32 → List Value
  | [] => []
  | c :: cs => .int (lo8 c) :: .int (hi8 c) :: wideBytes cs
theorem wide_lo (d : Value) : ∀ (cs : List Int32) (j : Nat), j < cs.length → (wideBytes cs).getD (2 * j) d = .int (lo8 (cs.getD j 0))
  | [], j, h => absurd h (Nat.not_lt_zero j)
  | c :: cs, 0, _ => rfl
  | c :: cs, j + 1, h => by
    have q := wide_lo d cs j (by simpa using h)
    rw [show 2 * (j + 1) = 2 * j + 1 + 1 from by omega]
    simpa [wideBytes] using q
theorem wide_hi (d : Value) : ∀ (cs : List Int32) (j : Nat), j < cs.length → (wideBytes cs).getD (2 * j + 1) d = .int (hi8 (cs.getD j 0))
  | [], j, h => absurd h (Nat.not_lt_zero j)
  | c :: cs, 0, _ => rfl
  | c :: cs, j + 1, h => by
    have q := wide_hi d cs j (by simpa using h)
    rw [show 2 * (j + 1) + 1 = 2 * j + 1 + 1 + 1 from by omega]
    simpa [wideBytes] using q
theorem low_at (d : Value) (cs : List Int32) (j : Nat) (h : j < cs.length) : (cs.map fun c => Value.int (lo8 c)).getD j d = .int (lo8 (cs.getD j 0)) := by
  simp [List.getD_eq_getElem?_getD, h]
/-- an array of N2 bytes vs codes the chars cs by the coder cd -/
def CodA (cs : List Int32) (cd N2 : Int32) (vs : List Value) : Prop := (cd = 0 ∧ N2 = Int32.ofNat cs.length ∧ vs = (cs.map fun c => Value.int (lo8 c)) ∧ ∀ c ∈ cs, ¬ 255 < c) ∨ (cd = 1 ∧ N2 = Int32.ofNat (2 * cs.length) ∧ vs = wideBytes cs ∧ ∃ c ∈ cs, 255 < c)
theorem CodA.cod {cs : List Int32} {cd N2 : Int32} {vs : List Value} {V : Cell} (h : CodA cs cd N2 vs) (hn : 2 * cs.length < 2 ^ 31) (hs : V.slots.size = N2.toNatClampNeg) (hv : RoadKit.Has V vs (.int 0)) : Cod cd cs.length (fun j => cs.getD j 0) V := by
  rcases h with ⟨rfl, rfl, rfl, h⟩ | ⟨rfl, rfl, rfl, c, hc, hw⟩
  · rw [n32 (by omega)] at hs
    exact Or.inl ⟨rfl, hs, fun j hj => ⟨by rw [hv j (by omega), low_at _ _ _ hj], by
      have e : cs.getD j 0 = cs[j] := by simp [List.getD_eq_getElem?_getD, hj]
      show ¬ 255 < cs.getD j 0
      rw [e]; exact h _ (List.getElem_mem _)⟩⟩
  · rw [n32 (by omega)] at hs
    obtain ⟨j, hj, rfl⟩ := List.getElem_of_mem hc
    exact Or.inr ⟨rfl, hs, fun j hj => ⟨by rw [hv _ (by omega), wide_lo _ _ _ hj], by rw [hv _ (by omega), wide_hi _ _ _ hj]⟩, j, hj, by
      have e : cs.getD j 0 = cs[j] := by simp [List.getD_eq_getElem?_getD, hj]
      show 255 < cs.getD j 0
      rw [e]; exact hw⟩
/-- an object of exactly java/lang/String, its two fields found: as the laws ask it -/
theorem strObj {Z U : State} {a0 : Array Value} {kI : Nat} (wi : (Jvm.Cond.instantiable ST kI).before a0 Z = true) (al : Z.vm.Alike U.vm) {x : Addr} {v0 c0 : Value} (E : RoadKit.Exa Z U.heap x ST) (V : RoadKit.Fld Z U.heap x ST "value" "[B" v0) (C : RoadKit.Fld Z U.heap x ST "coder" "B" c0) :
    ∃ (D : Cell) (fV fC : Field), Blank ST x D U ∧ Found ST "value" "[B" fV U ∧ Found ST "coder" "B" fC U ∧ D.slots[fV.slot]? = some v0 ∧ D.slots[fC.slot]? = some c0 ∧ RoadKit.slotOf Z ST "value" "[B" = fV.slot ∧ RoadKit.slotOf Z ST "coder" "B" = fC.slot := by
  obtain ⟨D, cfV, kV, iV, fV, hD, gV, stV, knV, obV, asV, slV⟩ := V
  obtain ⟨D', cfC, kC, iC, fC, hD', gC, stC, -, -, asC, slC⟩ := C
  cases hD.symm.trans hD'
  obtain ⟨D2, kD, e1, e2, e3, e4, e5⟩ := E
  cases hD.symm.trans e1
  obtain ⟨c2, k2, i1, i2, i3, -⟩ := Cond.instantiable_spec wi
  cases e2.symm.trans i1
  cases e3.symm.trans i2
  obtain ⟨kU, u1, u2⟩ := al.2.2 _ _ e3
  exact ⟨D, fV, fC, ⟨hD, ⟨knV, fun q hq => by rw [hq] at obV; cases obV⟩, by rw [al.findClass]; exact e2, kU, u1, by rw [u2]; exact i3, by rw [u2]; exact e5 i3⟩, ⟨SBG.found_only al ⟨cfV, kV, iV, gV⟩, stV⟩, ⟨SBG.found_only al ⟨cfC, kC, iC, gC⟩, stC⟩, slV, slC, by simp [RoadKit.slotOf, gV], by simp [RoadKit.slotOf, gC]⟩
theorem sta_is {Z U : State} (al : Z.vm.Alike U.vm) {C n d : String} {v : Value} (S : RoadKit.Sta Z U.heap C n d v) : StaticIs U C n d v := by
  obtain ⟨cfS, iS, kS, fS, st, cS, t1, t2, t3, t4, t5, t6, t7⟩ := S
  exact StaticIs.there (s := { Z with heap := U.heap }) ⟨cfS, iS, kS, fS, st, cS, t1, t2, t3, t4, t5, (fun q => by rw [q] at t6; cases t6), t7⟩ al rfl
end StrChars.Road
namespace StrChars
open Jvm Sem ClassFile Op Lib Jvm.Stand Jvm.Free.XT Jvm.Free.ALB Jvm.Free.JM Jvm.Free
open Jvm.Lib.Cold (StaticIs)
/-- what place i of a byte[]'s cell holds -/
def yv (A : Cell) (i : Nat) : Int32 := match A.slots[i]? with | some (.int x) => x | _ => 0
theorem yv_get {a : Addr} {A : Cell} {U : State} (h : XT.Arr .byte a A U) (ht : Typed .byte A) {i : Nat} (hi : i < A.slots.size) : A.slots[i]? = some (.int (yv A i)) := by
  have e := Array.getElem?_eq_getElem hi
  have f := ht i _ e
  unfold yv; rw [e]
  generalize A.slots[i] = v at f
  cases v <;> simp [fits] at f ⊢
/-- the two arrays are equal, place for place -/
def EqC (A B : Cell) : Prop := A.slots.size = B.slots.size ∧ ∀ i, i < A.slots.size → yv A i = yv B i
/-- a boolean that says whether p -/
def Says01 (q : Prop) (r : Option Value) (s u : State) : Prop := ∃ v : Int32, r = some (.int v) ∧ u.heap = s.heap ∧ ((v = 1 ∧ q) ∨ (v = 0 ∧ ¬ q))
theorem Says01.mv {q : Prop} : ∀ r (U U' V V' : State), U'.heap = U.heap → V.vm.Alike V'.vm → V'.heap = V.heap → Says01 q r U V → Says01 q r U' V' :=
  fun r U U' V V' h1 _ h2 ⟨v, a, b, c⟩ => ⟨v, a, by rw [h1, h2]; exact b, c⟩
namespace LEq
def yN : MethodName := ⟨"java/lang/StringLatin1", "equals", "([B[B)Z"⟩
abbrev yB : ByteArray := jdk_43_method_13_code
theorem d0 : decode yB 0 = .ok (.aload_n 0, 1) := by decide +kernel
theorem d1 : decode yB 1 = .ok (.arraylength, 1) := by decide +kernel
theorem d2 : decode yB 2 = .ok (.aload_n 1, 1) := by decide +kernel
theorem d3 : decode yB 3 = .ok (.arraylength, 1) := by decide +kernel
theorem d4 : decode yB 4 = .ok (.if_icmp (.ne) 30, 3) := by decide +kernel
theorem d7 : decode yB 7 = .ok (.iconst 0, 1) := by decide +kernel
theorem d8 : decode yB 8 = .ok (.istore_n 2, 1) := by decide +kernel
theorem d9 : decode yB 9 = .ok (.iload_n 2, 1) := by decide +kernel
theorem d10 : decode yB 10 = .ok (.aload_n 0, 1) := by decide +kernel
theorem d11 : decode yB 11 = .ok (.arraylength, 1) := by decide +kernel
theorem d12 : decode yB 12 = .ok (.if_icmp (.ge) 20, 3) := by decide +kernel
theorem d15 : decode yB 15 = .ok (.aload_n 0, 1) := by decide +kernel
theorem d16 : decode yB 16 = .ok (.iload_n 2, 1) := by decide +kernel
theorem d17 : decode yB 17 = .ok (.baload, 1) := by decide +kernel
theorem d18 : decode yB 18 = .ok (.aload_n 1, 1) := by decide +kernel
theorem d19 : decode yB 19 = .ok (.iload_n 2, 1) := by decide +kernel
theorem d20 : decode yB 20 = .ok (.baload, 1) := by decide +kernel
theorem d21 : decode yB 21 = .ok (.if_icmp (.eq) 5, 3) := by decide +kernel
theorem d24 : decode yB 24 = .ok (.iconst 0, 1) := by decide +kernel
theorem d25 : decode yB 25 = .ok (.ireturn, 1) := by decide +kernel
theorem d26 : decode yB 26 = .ok (.iinc 2 1, 3) := by decide +kernel
theorem d29 : decode yB 29 = .ok (.goto (-20), 3) := by decide +kernel
theorem d32 : decode yB 32 = .ok (.iconst 1, 1) := by decide +kernel
theorem d33 : decode yB 33 = .ok (.ireturn, 1) := by decide +kernel
theorem d34 : decode yB 34 = .ok (.iconst 0, 1) := by decide +kernel
theorem d35 : decode yB 35 = .ok (.ireturn, 1) := by decide +kernel
def site : List Cond := []
def tab : Cond := tabOf yN yB 3 (some .boolean) site
def P (a : Addr) (A : Cell) (b : Addr) (B : Cell) (args : Array Value) (s : State) : Prop := args = #[.ref a, .ref b] ∧ XT.Arr .byte a A s ∧ Typed .byte A ∧ XT.Arr .byte b B s ∧ Typed .byte B
/-- whether two byte[] are equal, place for place -/
theorem law (l : Launch) (a : Addr) (A : Cell) (b : Addr) (B : Cell) : Law l yN 2 2 0 0 yB 3 (some .boolean) site (P a A b B) (Says01 (EqC A B)) [] 0 0 := by
  refine Law.of_walk (plainFor_of_name (by decide +kernel)) (by decide +kernel) (by decide +kernel) (by decide) (fun _ _ h => by rw [h.1]; rfl) (fun _ U U' hal hh h => ⟨h.1, h.2.1.mv hal hh, h.2.2.1, h.2.2.2.1.mv hal hh, h.2.2.2.2⟩) (fun r U U' V V' h1 hal h2 h => Says01.mv r U U' V V' h1 hal h2 h) ?_
  intro p e s m args below meth c s₁ X0 hexec hbytes hml hret hlk hnm hown hh0 W hP
  obtain ⟨rfl, hA, tA, hB, tB⟩ := hP
  have a31 := hA.2.2.2
  have b31 := hB.2.2.2
  have hA0 := hA.mv X0.warmed.alike hh0
  have hB0 := hB.mv X0.warmed.alike hh0
  have c1 : Steps p.tables e below (s₁.setTop (entryFrame m #[.ref a, .ref b] 3)) (s₁.setTop (mkF m 0 #[.val (.ref a), .val (.ref b), .unset] [])) := entry rfl
  have c2 : Steps p.tables e below (s₁.setTop (entryFrame m #[.ref a, .ref b] 3)) (s₁.setTop (mkF m 4 #[.val (.ref a), .val (.ref b), .unset] [.int (Int32.ofNat B.slots.size), .int (Int32.ofNat A.slots.size)])) := c1.trans (by
    refine XS.aloadN X0.here hexec rfl (hb hbytes d0) rfl rfl ?_
    refine X0.alen hexec hA0 rfl rfl (hb hbytes d1) ?_
    refine XS.aloadN X0.here hexec rfl (hb hbytes d2) rfl rfl ?_
    refine X0.alen hexec hB0 rfl rfl (hb hbytes d3) ?_
    exact Steps.refl _)
  by_cases hs : A.slots.size = B.slots.size
  · have c3 : Steps p.tables e below (s₁.setTop (entryFrame m #[.ref a, .ref b] 3)) (s₁.setTop (mkF m 9 #[.val (.ref a), .val (.ref b), .val (.int 0)] [])) := c2.trans (by
      refine XS.icmpNo X0.here hexec rfl (hb hbytes d4) rfl (ii_ne_f (by rw [hs])) ?_
      refine iconstV X0.here hexec rfl 0 (hb hbytes d7) (by decide) ?_
      refine XS.istoreN X0.here hexec rfl (hb hbytes d8) rfl rfl ?_
      exact Steps.refl _)
    have loop : ∀ (r i : Nat), i + r = A.slots.size → (∀ j, j < i → yv A j = yv B j) → Steps p.tables e below (s₁.setTop (entryFrame m #[.ref a, .ref b] 3)) (s₁.setTop (mkF m 9 #[.val (.ref a), .val (.ref b), .val (.int (Int32.ofNat i))] [])) → ∃ (pc : Nat) (Ls : Array Slot) (v : Int32), (pc = 25 ∨ pc = 33) ∧ ((v = 1 ∧ EqC A B) ∨ (v = 0 ∧ ¬ EqC A B)) ∧ Steps p.tables e below (s₁.setTop (entryFrame m #[.ref a, .ref b] 3)) (s₁.setTop (mkF m pc Ls [.int v])) := by
      intro r
      induction r with
      | zero =>
        intro i hi he cl
        exact ⟨33, _, 1, Or.inr rfl, Or.inl ⟨rfl, hs, fun j hj => he j (by omega)⟩, cl.trans (by
          refine XS.iloadN X0.here hexec rfl (hb hbytes d9) rfl ?_
          refine XS.aloadN X0.here hexec rfl (hb hbytes d10) rfl rfl ?_
          refine X0.alen hexec hA0 rfl rfl (hb hbytes d11) ?_
          refine XS.icmpYes X0.here hexec rfl (pc0 := 12) rfl (hb hbytes d12) rfl (ii_ge_t (nlt32 (by omega) (by omega))) (by decide) rfl ?_
          refine iconstV X0.here hexec rfl 1 (hb hbytes d32) (by decide) ?_
          exact Steps.refl _)⟩
      | succ r ih =>
        intro i hi he cl
        have c4 : Steps p.tables e below (s₁.setTop (entryFrame m #[.ref a, .ref b] 3)) (s₁.setTop (mkF m 21 #[.val (.ref a), .val (.ref b), .val (.int (Int32.ofNat i))] [.int (yv B i), .int (yv A i)])) := cl.trans (by
          refine XS.iloadN X0.here hexec rfl (hb hbytes d9) rfl ?_
          refine XS.aloadN X0.here hexec rfl (hb hbytes d10) rfl rfl ?_
          refine X0.alen hexec hA0 rfl rfl (hb hbytes d11) ?_
          refine XS.icmpNo X0.here hexec rfl (hb hbytes d12) rfl (ii_ge_f (lt32 (by omega) (by omega))) ?_
          refine XS.aloadN X0.here hexec rfl (hb hbytes d15) rfl rfl ?_
          refine XS.iloadN X0.here hexec rfl (hb hbytes d16) rfl ?_
          refine X0.aget hexec hA0 rfl (yv_get hA tA (i := i) (by omega)) rfl rfl (hb hbytes d17) ?_
          refine XS.aloadN X0.here hexec rfl (hb hbytes d18) rfl rfl ?_
          refine XS.iloadN X0.here hexec rfl (hb hbytes d19) rfl ?_
          refine X0.aget hexec hB0 rfl (yv_get hB tB (i := i) (by omega)) rfl rfl (hb hbytes d20) ?_
          exact Steps.refl _)
        by_cases hv : yv A i = yv B i
        · have c5 : Steps p.tables e below (s₁.setTop (entryFrame m #[.ref a, .ref b] 3)) (s₁.setTop (mkF m 9 #[.val (.ref a), .val (.ref b), .val (.int (Int32.ofNat i + 1))] [])) := c4.trans (by
            refine XS.icmpYes X0.here hexec rfl (pc0 := 21) rfl (hb hbytes d21) rfl (ii_eq_t hv) (by decide) rfl ?_
            refine iincV X0.here hexec rfl 1 (hb hbytes d26) (by decide) rfl rfl ?_
            refine XS.goto X0.here hexec rfl (pc0 := 29) rfl (hb hbytes d29) (by decide) rfl ?_
            exact Steps.refl _)
          rw [succ32] at c5
          exact ih (i + 1) (by omega) (fun j hj => by
            by_cases e : j = i
            · rw [e]; exact hv
            · exact he j (by omega)) c5
        · exact ⟨25, _, 0, Or.inl rfl, Or.inr ⟨rfl, fun q => hv (q.2 i (by omega))⟩, c4.trans (by
            refine XS.icmpNo X0.here hexec rfl (hb hbytes d21) rfl (ii_eq_f hv) ?_
            refine iconstV X0.here hexec rfl 0 (hb hbytes d24) (by decide) ?_
            exact Steps.refl _)⟩
    obtain ⟨pc, Ls, v, hpc, hv, cz⟩ := loop A.slots.size 0 (by omega) (fun j hj => absurd hj (Nat.not_lt_zero j)) c3
    have nv : narrow .boolean (.int v) = .int v := by rcases hv with ⟨rfl, -⟩ | ⟨rfl, -⟩ <;> rfl
    rcases hpc with rfl | rfl
    · exact ⟨s₁, some (.int v), _, _, _, X0, rfl, rfl, rfl, (fun h => by cases h), ⟨v, rfl, hh0, hv⟩, fun fs hl => cz.trans (X0.ireturnOut hexec hret nv (Or.inr (Or.inl rfl)) (hb hbytes d25) hl)⟩
    · exact ⟨s₁, some (.int v), _, _, _, X0, rfl, rfl, rfl, (fun h => by cases h), ⟨v, rfl, hh0, hv⟩, fun fs hl => cz.trans (X0.ireturnOut hexec hret nv (Or.inr (Or.inl rfl)) (hb hbytes d33) hl)⟩
  · have c3 : Steps p.tables e below (s₁.setTop (entryFrame m #[.ref a, .ref b] 3)) (s₁.setTop (mkF m 35 #[.val (.ref a), .val (.ref b), .unset] [.int 0])) := c2.trans (by
      refine XS.icmpYes X0.here hexec rfl (pc0 := 4) rfl (hb hbytes d4) rfl (ii_ne_t (ne32 a31 b31 hs)) (by decide) rfl ?_
      refine iconstV X0.here hexec rfl 0 (hb hbytes d34) (by decide) ?_
      exact Steps.refl _)
    exact ⟨s₁, some (.int 0), _, _, _, X0, rfl, rfl, rfl, (fun h => by cases h), ⟨0, rfl, hh0, Or.inr ⟨rfl, fun q => hs q.1⟩⟩, fun fs hl => c3.trans (X0.ireturnOut hexec hret rfl (Or.inr (Or.inl rfl)) (hb hbytes d35) hl)⟩
end LEq
theorem Cod.ty {cd : Int32} {n : Nat} {f : Nat → Int32} {V : Cell} (h : Cod cd n f V) : Typed .byte V := fun i v hv => by
  have hi : i < V.slots.size := (Array.getElem?_eq_some_iff.mp hv).1
  rcases h with ⟨-, k1, k2⟩ | ⟨-, k1, k2, -⟩
  · rw [(k2 i (by omega)).1] at hv; cases hv; exact fits_lo8 _
  · rcases Nat.mod_two_eq_zero_or_one i with e | e
    · obtain ⟨j, rfl⟩ : ∃ j, i = 2 * j := ⟨i / 2, by omega⟩
      rw [(k2 j (by omega)).1] at hv; cases hv; exact fits_lo8 _
    · obtain ⟨j, rfl⟩ : ∃ j, i = 2 * j + 1 := ⟨i / 2, by omega⟩
      rw [(k2 j (by omega)).2] at hv; cases hv; exact fits_lo8 _
/-- the same text -/
def SameT (n : Nat) (f : Nat → Int32) (k : Nat) (g : Nat → Int32) : Prop := n = k ∧ ∀ j, j < n → f j = g j
theorem lo8_inj {x y : Int32} (h0 : ¬ x < 0) (h1 : ¬ 255 < x) (k0 : ¬ y < 0) (k1 : ¬ 255 < y) (h : lo8 x = lo8 y) : x = y := by
  rw [← lo8_mask h0 h1, ← lo8_mask k0 k1, h]
/-- arrays coded by one coder are equal just where the texts are -/
theorem Cod.eqv {cd : Int32} {n k : Nat} {f g : Nat → Int32} {V V' : Cell} (h : Cod cd n f V) (h' : Cod cd k g V') (hf : ∀ j, j < n → ¬ f j < 0 ∧ ¬ 65535 < f j) (hg : ∀ j, j < k → ¬ g j < 0 ∧ ¬ 65535 < g j) : EqC V V' ↔ SameT n f k g := by
  have yvv : ∀ {W : Cell} {i : Nat} {x : Int32}, W.slots[i]? = some (.int x) → yv W i = x := fun q => by unfold yv; rw [q]
  rcases h with ⟨rfl, k1, k2⟩ | ⟨rfl, k1, k2, -⟩
  · rcases h' with ⟨-, m1, m2⟩ | ⟨e, -⟩
    · constructor
      · rintro ⟨e1, e2⟩
        refine ⟨by omega, fun j hj => ?_⟩
        have q := e2 j (by omega)
        rw [yvv (k2 j hj).1, yvv (m2 j (by omega)).1] at q
        exact lo8_inj (hf j hj).1 (k2 j hj).2 (hg j (by omega)).1 (m2 j (by omega)).2 q
      · rintro ⟨rfl, e2⟩
        refine ⟨by omega, fun j hj => ?_⟩
        rw [yvv (k2 j (by omega)).1, yvv (m2 j (by omega)).1, e2 j (by omega)]
    · exact absurd e (by decide)
  · rcases h' with ⟨e, -⟩ | ⟨-, m1, m2, -⟩
    · exact absurd e (by decide)
    · constructor
      · rintro ⟨e1, e2⟩
        refine ⟨by omega, fun j hj => ?_⟩
        have q1 := e2 (2 * j) (by omega)
        have q2 := e2 (2 * j + 1) (by omega)
        rw [yvv (k2 j hj).1, yvv (m2 j (by omega)).1] at q1
        rw [yvv (k2 j hj).2, yvv (m2 j (by omega)).2] at q2
        rw [← pair_says (hf j hj).1 (hf j hj).2, ← pair_says (hg j (by omega)).1 (hg j (by omega)).2, q1, q2]
      · rintro ⟨rfl, e2⟩
        refine ⟨by omega, fun i hi => ?_⟩
        rcases Nat.mod_two_eq_zero_or_one i with e | e
        · obtain ⟨j, rfl⟩ : ∃ j, i = 2 * j := ⟨i / 2, by omega⟩
          rw [yvv (k2 j (by omega)).1, yvv (m2 j (by omega)).1, e2 j (by omega)]
        · obtain ⟨j, rfl⟩ : ∃ j, i = 2 * j + 1 := ⟨i / 2, by omega⟩
          rw [yvv (k2 j (by omega)).2, yvv (m2 j (by omega)).2, e2 j (by omega)]
/-- two codings differ: so do the texts -/
theorem Cod.dif {cd cd' : Int32} {n k : Nat} {f g : Nat → Int32} {V V' : Cell} (h : Cod cd n f V) (h' : Cod cd' k g V') (hne : ¬ cd = cd') : ¬ SameT n f k g := by
  rintro ⟨rfl, e⟩
  rcases h with ⟨rfl, -, k2⟩ | ⟨rfl, -, -, j, hj, hw⟩
  · rcases h' with ⟨rfl, -⟩ | ⟨-, -, -, j, hj, hw⟩
    · exact hne rfl
    · exact (k2 j hj).2 (by rw [e j hj]; exact hw)
  · rcases h' with ⟨-, -, m2⟩ | ⟨rfl, -⟩
    · exact (m2 j hj).2 (by rw [← e j hj]; exact hw)
    · exact hne rfl
/-- an object of exactly C is an instance of C -/
theorem cinst {p : Program} {l : Launch} {e : Env} {R : Room} {s : State} {m : MethodId} {args : Array Value} {below : List Frame} {meth : Method} {c : Code} {T : State} {locs : List Loc} {cells slots : Nat} (X : Stand p l e R s m args below meth c T locs cells slots) (hexec : p.tables.exec = Jvm.exec) {own C : String} {index : Nat} (hown : s.vm.findClass own = some m.cls) (hlink : (Cond.classLink own index C).before args s = true) {a : Addr} (hE : Exact C a T)
    {g : JFrame} (hg : g.method = m) {rest : List Value} (hstack : g.stack = .ref a :: rest) (hdg : decode c.code g.pc = .ok (.instanceof index, 3)) :
    ∃ T', Stand p l e R s m args below meth c T' locs cells slots ∧ T'.heap = T.heap ∧ ∀ target, Steps p.tables e below (T'.setTop { g with pc := g.pc + 3, stack := .int 1 :: rest }) target → Steps p.tables e below (T.setTop g) target := by
  obtain ⟨cB, h1, D, h2, h3, h4⟩ := hE
  have h1' : s.vm.findClass C = some cB := by rw [← X.warmed.alike.findClass]; exact h1
  obtain ⟨vm', X', st⟩ := X.instanceofYes hexec hown hlink h2 h4 h1' (by rw [h3]; exact Jvm.Free.SB.assignable_self _ _) hg hstack hdg
  exact ⟨_, X', rfl, st⟩
theorem cself {p : Program} {l : Launch} {e : Env} {R : Room} {s : State} {m : MethodId} {args : Array Value} {below : List Frame} {meth : Method} {c : Code} {T : State} {locs : List Loc} {cells slots : Nat} (X : Stand p l e R s m args below meth c T locs cells slots) (hexec : p.tables.exec = Jvm.exec) {own C : String} {index : Nat} (hown : s.vm.findClass own = some m.cls) (hlink : (Cond.classLink own index C).before args s = true) {a : Addr} (hE : Exact C a T)
    {g : JFrame} (hg : g.method = m) {rest : List Value} (hstack : g.stack = .ref a :: rest) (hdg : decode c.code g.pc = .ok (.checkcast index, 3)) :
    ∃ T', Stand p l e R s m args below meth c T' locs cells slots ∧ T'.heap = T.heap ∧ ∀ target, Steps p.tables e below (T'.setTop { g with pc := g.pc + 3, stack := .ref a :: rest }) target → Steps p.tables e below (T.setTop g) target := by
  obtain ⟨cB, h1, D, h2, h3, h4⟩ := hE
  have h1' : s.vm.findClass C = some cB := by rw [← X.warmed.alike.findClass]; exact h1
  obtain ⟨vm', X', st⟩ := X.checkcastYes hexec hown hlink h2 h4 h1' (by rw [h3]; exact Jvm.Free.SB.assignable_self _ _) hg hstack hdg
  exact ⟨_, X', rfl, fun t h => st t (by rw [← hstack] at h; exact h)⟩
namespace SEq
def yN : MethodName := ⟨"java/lang/String", "equals", "(Ljava/lang/Object;)Z"⟩
abbrev yB : ByteArray := jdk_42_method_66_code
theorem d0 : decode yB 0 = .ok (.aload_n 0, 1) := by decide +kernel
theorem d1 : decode yB 1 = .ok (.aload_n 1, 1) := by decide +kernel
theorem d2 : decode yB 2 = .ok (.if_acmp (.ne) 5, 3) := by decide +kernel
theorem d5 : decode yB 5 = .ok (.iconst 1, 1) := by decide +kernel
theorem d6 : decode yB 6 = .ok (.ireturn, 1) := by decide +kernel
theorem d7 : decode yB 7 = .ok (.aload_n 1, 1) := by decide +kernel
theorem d8 : decode yB 8 = .ok (.instanceof 10, 3) := by decide +kernel
theorem d11 : decode yB 11 = .ok (.ifCond (.eq) 43, 3) := by decide +kernel
theorem d14 : decode yB 14 = .ok (.aload_n 1, 1) := by decide +kernel
theorem d15 : decode yB 15 = .ok (.checkcast 10, 3) := by decide +kernel
theorem d18 : decode yB 18 = .ok (.astore_n 2, 1) := by decide +kernel
theorem d19 : decode yB 19 = .ok (.getstatic 38, 3) := by decide +kernel
theorem d22 : decode yB 22 = .ok (.ifCond (.eq) 14, 3) := by decide +kernel
theorem d25 : decode yB 25 = .ok (.aload_n 0, 1) := by decide +kernel
theorem d26 : decode yB 26 = .ok (.getfield 15, 3) := by decide +kernel
theorem d29 : decode yB 29 = .ok (.aload_n 2, 1) := by decide +kernel
theorem d30 : decode yB 30 = .ok (.getfield 15, 3) := by decide +kernel
theorem d33 : decode yB 33 = .ok (.if_icmp (.ne) 21, 3) := by decide +kernel
theorem d36 : decode yB 36 = .ok (.aload_n 0, 1) := by decide +kernel
theorem d37 : decode yB 37 = .ok (.getfield 9, 3) := by decide +kernel
theorem d40 : decode yB 40 = .ok (.aload_n 2, 1) := by decide +kernel
theorem d41 : decode yB 41 = .ok (.getfield 9, 3) := by decide +kernel
theorem d44 : decode yB 44 = .ok (.invokestatic 541, 3) := by decide +kernel
theorem d47 : decode yB 47 = .ok (.ifCond (.eq) 7, 3) := by decide +kernel
theorem d50 : decode yB 50 = .ok (.iconst 1, 1) := by decide +kernel
theorem d51 : decode yB 51 = .ok (.goto 4, 3) := by decide +kernel
theorem d54 : decode yB 54 = .ok (.iconst 0, 1) := by decide +kernel
theorem d55 : decode yB 55 = .ok (.ireturn, 1) := by decide +kernel
def site : List Cond := [.classLink "java/lang/String" 10 "java/lang/String", .fieldLink "java/lang/String" 38 "java/lang/String" "COMPACT_STRINGS" "Z", .fieldLink "java/lang/String" 15 "java/lang/String" "coder" "B", .fieldLink "java/lang/String" 9 "java/lang/String" "value" "[B", LEq.tab] ++ staticW "java/lang/String" 541 LEq.yN
def tab : Cond := tabOf yN yB 3 (some .boolean) site
def P (x t : Addr) (V : Cell) (cd : Int32) (n : Nat) (f : Nat → Int32) (y t' : Addr) (V' : Cell) (cd' : Int32) (k : Nat) (g : Nat → Int32) (z : Int32) (args : Array Value) (s : State) : Prop := args = #[.ref x, .ref y] ∧ Txt x t V cd n f s ∧ Txt y t' V' cd' k g s ∧ StaticIs s "java/lang/String" "COMPACT_STRINGS" "Z" (.int z) ∧ ¬ z = 0
/-- equals(Object) of two Strings: whether the texts are the same -/
theorem law (l : Launch) (x t : Addr) (V : Cell) (cd : Int32) (n : Nat) (f : Nat → Int32) (y t' : Addr) (V' : Cell) (cd' : Int32) (k : Nat) (g : Nat → Int32) (z : Int32) : Law l yN 2 1 1 14 yB 3 (some .boolean) site (P x t V cd n f y t' V' cd' k g z) (Says01 (SameT n f k g)) [] 0 0 := by
  refine Law.of_walk (plainFor_of_name (by decide +kernel)) (by decide +kernel) (by decide +kernel) (by decide) (fun _ _ h => by rw [h.1]; rfl) (fun _ U U' hal hh h => ⟨h.1, h.2.1.mv hal hh, h.2.2.1.mv hal hh, h.2.2.2.1.there hal hh, h.2.2.2.2⟩) (fun r U U' V V' h1 hal h2 h => Says01.mv r U U' V V' h1 hal h2 h) ?_
  intro p e s m args below meth c s₁ X0 hexec hbytes hml hret hlk hnm hown hh0 W hP
  obtain ⟨rfl, hx, hy, s1, hz⟩ := hP
  have c1 : Steps p.tables e below (s₁.setTop (entryFrame m #[.ref x, .ref y] 3)) (s₁.setTop (mkF m 2 #[.val (.ref x), .val (.ref y), .unset] [.ref y, .ref x])) := Steps.trans (entry rfl) (by
    show Steps p.tables e below (s₁.setTop (mkF m 0 #[.val (.ref x), .val (.ref y), .unset] [])) _
    refine XS.aloadN X0.here hexec rfl (hb hbytes d0) rfl rfl ?_
    refine XS.aloadN X0.here hexec rfl (hb hbytes d1) rfl rfl ?_
    exact Steps.refl _)
  by_cases hxy : x = y
  · have c2 : Steps p.tables e below (s₁.setTop (entryFrame m #[.ref x, .ref y] 3)) (s₁.setTop (mkF m 6 #[.val (.ref x), .val (.ref y), .unset] [.int 1])) := c1.trans (by
      refine acmpNo X0.here hexec rfl (hb hbytes d2) rfl rfl rfl (by simp [acmp, hxy]) ?_
      refine iconstV X0.here hexec rfl 1 (hb hbytes d5) (by decide) ?_
      exact Steps.refl _)
    subst hxy
    have ec : cd = cd' := by
      obtain ⟨D, fd, a1, a2, a3⟩ := hx.2.2.1
      obtain ⟨D', fd', b1, b2, b3⟩ := hy.2.2.1
      cases a1.symm.trans b1
      obtain ⟨q1, q2, q3, q4⟩ := a2.1
      obtain ⟨r1, r2, r3, r4⟩ := b2.1
      cases q4.symm.trans r4
      cases a3.symm.trans b3; rfl
    have et : t = t' := by
      obtain ⟨D, fd, a1, a2, a3⟩ := hx.2.1
      obtain ⟨D', fd', b1, b2, b3⟩ := hy.2.1
      cases a1.symm.trans b1
      obtain ⟨q1, q2, q3, q4⟩ := a2.1
      obtain ⟨r1, r2, r3, r4⟩ := b2.1
      cases q4.symm.trans r4
      cases a3.symm.trans b3; rfl
    subst ec et
    have ev : V = V' := by cases hx.2.2.2.1.1.symm.trans hy.2.2.2.1.1; rfl
    subst ev
    have hs : SameT n f k g := (Cod.eqv hx.2.2.2.2.1 hy.2.2.2.2.1 hx.2.2.2.2.2 hy.2.2.2.2.2).mp ⟨rfl, fun _ _ => rfl⟩
    exact ⟨s₁, some (.int 1), _, _, _, X0, rfl, rfl, rfl, (fun h => by cases h), ⟨1, rfl, hh0, Or.inl ⟨rfl, hs⟩⟩, fun fs hl => c2.trans (X0.ireturnOut hexec hret rfl (Or.inr (Or.inl rfl)) (hb hbytes d6) hl)⟩
  · have c2 : Steps p.tables e below (s₁.setTop (entryFrame m #[.ref x, .ref y] 3)) (s₁.setTop (mkF m 8 #[.val (.ref x), .val (.ref y), .unset] [.ref y])) := c1.trans (by
      refine acmpYes X0.here hexec rfl (pc0 := 2) rfl (hb hbytes d2) rfl rfl rfl (by simp [acmp, hxy]) (by decide) rfl ?_
      refine XS.aloadN X0.here hexec rfl (hb hbytes d7) rfl rfl ?_
      exact Steps.refl _)
    obtain ⟨T3, X3, q3, st3⟩ := cinst X0 hexec hown (wk W (.classLink "java/lang/String" 10 "java/lang/String")) (hy.mv X0.warmed.alike hh0).1 (g := (mkF m 8 #[.val (.ref x), .val (.ref y), .unset] [.ref y])) rfl (rest := []) rfl (hb hbytes d8)
    have hh3 := q3.trans hh0
    have c4 : Steps p.tables e below (s₁.setTop (entryFrame m #[.ref x, .ref y] 3)) (T3.setTop (mkF m 15 #[.val (.ref x), .val (.ref y), .unset] [.ref y])) := (c2.trans (st3 _ (Steps.refl _))).trans (by
      refine XS.ifNo X3.here hexec rfl (hb hbytes d11) rfl (i0_eq_f (by decide)) ?_
      refine XS.aloadN X3.here hexec rfl (hb hbytes d14) rfl rfl ?_
      exact Steps.refl _)
    obtain ⟨T5, X5, q5, st5⟩ := cself X3 hexec hown (wk W (.classLink "java/lang/String" 10 "java/lang/String")) (hy.mv X3.warmed.alike hh3).1 (g := (mkF m 15 #[.val (.ref x), .val (.ref y), .unset] [.ref y])) rfl (rest := []) rfl (hb hbytes d15)
    have hh5 := q5.trans hh3
    have c6 : Steps p.tables e below (s₁.setTop (entryFrame m #[.ref x, .ref y] 3)) (T5.setTop (mkF m 19 #[.val (.ref x), .val (.ref y), .val (.ref y)] [])) := (c4.trans (st5 _ (Steps.refl _))).trans (by
      refine XS.astoreN X5.here hexec rfl (hb hbytes d18) rfl rfl rfl ?_
      exact Steps.refl _)
    obtain ⟨T7, X7, q7, st7⟩ := X5.sget hexec hown (wk W (.fieldLink "java/lang/String" 38 "java/lang/String" "COMPACT_STRINGS" "Z")) s1 (fun _ _ h => by rw [hh5]; exact h) (g := (mkF m 19 #[.val (.ref x), .val (.ref y), .val (.ref y)] [])) rfl (hb hbytes d19)
    have hh7 := q7.trans hh5
    have c8 : Steps p.tables e below (s₁.setTop (entryFrame m #[.ref x, .ref y] 3)) (T7.setTop (mkF m 26 #[.val (.ref x), .val (.ref y), .val (.ref y)] [.ref x])) := (c6.trans (st7 _ (Steps.refl _))).trans (by
      refine XS.ifNo X7.here hexec rfl (hb hbytes d22) rfl (i0_eq_f hz) ?_
      refine XS.aloadN X7.here hexec rfl (hb hbytes d25) rfl rfl ?_
      exact Steps.refl _)
    obtain ⟨T9, X9, q9, st9⟩ := X7.hget hexec hown (wk W (.fieldLink "java/lang/String" 15 "java/lang/String" "coder" "B")) (hx.mv X7.warmed.alike hh7).2.2.1 (g := (mkF m 26 #[.val (.ref x), .val (.ref y), .val (.ref y)] [.ref x])) rfl (rest := []) rfl (hb hbytes d26)
    have hh9 := q9.trans hh7
    have c10 : Steps p.tables e below (s₁.setTop (entryFrame m #[.ref x, .ref y] 3)) (T9.setTop (mkF m 30 #[.val (.ref x), .val (.ref y), .val (.ref y)] [.ref y, .int cd])) := (c8.trans (st9 _ (Steps.refl _))).trans (by
      refine XS.aloadN X9.here hexec rfl (hb hbytes d29) rfl rfl ?_
      exact Steps.refl _)
    obtain ⟨T11, X11, q11, st11⟩ := X9.hget hexec hown (wk W (.fieldLink "java/lang/String" 15 "java/lang/String" "coder" "B")) (hy.mv X9.warmed.alike hh9).2.2.1 (g := (mkF m 30 #[.val (.ref x), .val (.ref y), .val (.ref y)] [.ref y, .int cd])) rfl (rest := [.int cd]) rfl (hb hbytes d30)
    have hh11 := q11.trans hh9
    have c12 : Steps p.tables e below (s₁.setTop (entryFrame m #[.ref x, .ref y] 3)) (T11.setTop (mkF m 33 #[.val (.ref x), .val (.ref y), .val (.ref y)] [.int cd', .int cd])) := c10.trans (st11 _ (Steps.refl _))
    by_cases hcd : cd = cd'
    · subst hcd
      have c13 : Steps p.tables e below (s₁.setTop (entryFrame m #[.ref x, .ref y] 3)) (T11.setTop (mkF m 37 #[.val (.ref x), .val (.ref y), .val (.ref y)] [.ref x])) := c12.trans (by
        refine XS.icmpNo X11.here hexec rfl (hb hbytes d33) rfl (ii_ne_f rfl) ?_
        refine XS.aloadN X11.here hexec rfl (hb hbytes d36) rfl rfl ?_
        exact Steps.refl _)
      obtain ⟨T14, X14, q14, st14⟩ := X11.hget hexec hown (wk W (.fieldLink "java/lang/String" 9 "java/lang/String" "value" "[B")) (hx.mv X11.warmed.alike hh11).2.1 (g := (mkF m 37 #[.val (.ref x), .val (.ref y), .val (.ref y)] [.ref x])) rfl (rest := []) rfl (hb hbytes d37)
      have hh14 := q14.trans hh11
      have c15 : Steps p.tables e below (s₁.setTop (entryFrame m #[.ref x, .ref y] 3)) (T14.setTop (mkF m 41 #[.val (.ref x), .val (.ref y), .val (.ref y)] [.ref y, .ref t])) := (c13.trans (st14 _ (Steps.refl _))).trans (by
        refine XS.aloadN X14.here hexec rfl (hb hbytes d40) rfl rfl ?_
        exact Steps.refl _)
      obtain ⟨T16, X16, q16, st16⟩ := X14.hget hexec hown (wk W (.fieldLink "java/lang/String" 9 "java/lang/String" "value" "[B")) (hy.mv X14.warmed.alike hh14).2.1 (g := (mkF m 41 #[.val (.ref x), .val (.ref y), .val (.ref y)] [.ref y, .ref t])) rfl (rest := [.ref t]) rfl (hb hbytes d41)
      have hh16 := q16.trans hh14
      have c17 : Steps p.tables e below (s₁.setTop (entryFrame m #[.ref x, .ref y] 3)) (T16.setTop (mkF m 44 #[.val (.ref x), .val (.ref y), .val (.ref y)] [.ref t', .ref t])) := c15.trans (st16 _ (Steps.refl _))
      obtain ⟨v18, T18, X18, E18, g18⟩ := X16.callS hexec (LEq.law l t V t' V') hown (wks W (staticW "java/lang/String" 541 LEq.yN)) (wk W LEq.tab) (W := 0) (Nat.le_of_ble_eq_true rfl) (Nat.le_of_ble_eq_true rfl) (Nat.le_refl _) (Nat.le_refl _) (g := (mkF m 44 #[.val (.ref x), .val (.ref y), .val (.ref y)] [.ref t', .ref t])) rfl (by rw [hml]; rfl) c17 (argsL := [.ref t, .ref t']) (rest := []) rfl rfl (by show 2 * 0 + 0 ≤ _; decide) (hb hbytes d44) (⟨rfl, hx.2.2.2.1.mv X16.warmed.alike hh16, hx.2.2.2.2.1.ty, hy.2.2.2.1.mv X16.warmed.alike hh16, hy.2.2.2.2.1.ty⟩)
      obtain ⟨v, rfl, q18, hv⟩ := E18
      have iff := Cod.eqv hx.2.2.2.2.1 hy.2.2.2.2.1 hx.2.2.2.2.2 hy.2.2.2.2.2
      rcases hv with ⟨rfl, he⟩ | ⟨rfl, he⟩
      · have c19 : Steps p.tables e below (s₁.setTop (entryFrame m #[.ref x, .ref y] 3)) (T18.setTop (mkF m 55 #[.val (.ref x), .val (.ref y), .val (.ref y)] [.int 1])) := Steps.trans g18 (by
          refine XS.ifNo X18.here hexec rfl (hb hbytes d47) rfl (i0_eq_f (by decide)) ?_
          refine iconstV X18.here hexec rfl 1 (hb hbytes d50) (by decide) ?_
          refine XS.goto X18.here hexec rfl (pc0 := 51) rfl (hb hbytes d51) (by decide) rfl ?_
          exact Steps.refl _)
        exact ⟨T18, some (.int 1), _, _, _, X18, rfl, rfl, rfl, (fun h => by cases h), ⟨1, rfl, q18.trans hh16, Or.inl ⟨rfl, iff.mp he⟩⟩, fun fs hl => c19.trans (X18.ireturnOut hexec hret rfl (Or.inr (Or.inl rfl)) (hb hbytes d55) hl)⟩
      · have c19 : Steps p.tables e below (s₁.setTop (entryFrame m #[.ref x, .ref y] 3)) (T18.setTop (mkF m 55 #[.val (.ref x), .val (.ref y), .val (.ref y)] [.int 0])) := Steps.trans g18 (by
          refine XS.ifYes X18.here hexec rfl (pc0 := 47) rfl (hb hbytes d47) rfl (i0_eq_t rfl) (by decide) rfl ?_
          refine iconstV X18.here hexec rfl 0 (hb hbytes d54) (by decide) ?_
          exact Steps.refl _)
        exact ⟨T18, some (.int 0), _, _, _, X18, rfl, rfl, rfl, (fun h => by cases h), ⟨0, rfl, q18.trans hh16, Or.inr ⟨rfl, fun q => he (iff.mpr q)⟩⟩, fun fs hl => c19.trans (X18.ireturnOut hexec hret rfl (Or.inr (Or.inl rfl)) (hb hbytes d55) hl)⟩
    · have c13 : Steps p.tables e below (s₁.setTop (entryFrame m #[.ref x, .ref y] 3)) (T11.setTop (mkF m 55 #[.val (.ref x), .val (.ref y), .val (.ref y)] [.int 0])) := c12.trans (by
        refine XS.icmpYes X11.here hexec rfl (pc0 := 33) rfl (hb hbytes d33) rfl (ii_ne_t hcd) (by decide) rfl ?_
        refine iconstV X11.here hexec rfl 0 (hb hbytes d54) (by decide) ?_
        exact Steps.refl _)
      exact ⟨T11, some (.int 0), _, _, _, X11, rfl, rfl, rfl, (fun h => by cases h), ⟨0, rfl, hh11, Or.inr ⟨rfl, Cod.dif hx.2.2.2.2.1 hy.2.2.2.2.1 hcd⟩⟩, fun fs hl => c13.trans (X11.ireturnOut hexec hret rfl (Or.inr (Or.inl rfl)) (hb hbytes d55) hl)⟩
theorem pays {l : Launch} {R : Room} {p : Program} {e : Env} {below : List Frame} {s : State} {sargs : Array Value} {len W : Nat} (x t : Addr) (V : Cell) (cd : Int32) (n : Nat) (f : Nat → Int32) (y t' : Addr) (V' : Cell) (cd' : Int32) (k : Nat) (g : Nat → Int32) (z : Int32) (htab : tab.before sargs s = true) (hfr : 2 ≤ R.frames) (hlo : W + 28 ≤ R.locals) :
    Back l R p e below s sargs yN len W (fun A₁ a₁ => A₁.cells + 0 ≤ R.cells ∧ A₁.slots + 0 ≤ R.slots ∧ P x t V cd n f y t' V' cd' k g z a₁ A₁.U) (fun A₁ _ v₁ B₁ => Says01 (SameT n f k g) v₁ A₁.U B₁.U ∧ B₁.locs = A₁.locs ++ [] ∧ B₁.cells = A₁.cells + 0 ∧ B₁.slots = A₁.slots + 0) :=
  (law l x t V cd n f y t' V' cd' k g z).pays htab hfr (by omega)
end SEq
end StrChars
namespace StrChars.Road
open Jvm Sem ClassFile Op Lib Jvm.Stand Jvm.Free Jvm.Free.XT
open Jvm.Lib.Cold (StaticIs)
/-- the words of String.equals(Object) -/
abbrev wordsEq : List Jvm.Cond := [.code SEq.yN SEq.yB 3 (some .boolean), .initialized ST, .classLink ST 10 ST, .fieldLink ST 38 ST "COMPACT_STRINGS" "Z", .fieldLink ST 15 ST "coder" "B", .fieldLink ST 9 ST "value" "[B", .methodLink ST 541 LEq.yN, .static LEq.yN, .code LEq.yN LEq.yB 3 (some .boolean), .initialized "java/lang/StringLatin1"]
theorem tabEq_of {a : Array Value} {s : State} (h : ∀ w ∈ wordsEq, w.before a s = true) : SEq.tab.before a s = true := by
  have hl : LEq.tab.before a s = true := unparts (wk h (.code LEq.yN LEq.yB 3 (some .boolean))) (wks h (.initialized LEq.yN.cls :: LEq.site))
  have q := consq hl h
  exact unparts (wk q (.code SEq.yN SEq.yB 3 (some .boolean))) (wks q (.initialized SEq.yN.cls :: SEq.site))
theorem movedEq {Z s : State} {a0 args : Array Value} (hZ : Z.Warmed39 s.vm) (hw : ∀ d ∈ wordsEq, d.before a0 Z = true) : ∀ d ∈ wordsEq, d.before args s = true := fun d hd => by
  have t : ∀ d ∈ wordsEq, (d.onTables && d.keepsFace) = true := by decide +kernel
  exact RoadKit.mv hZ (hw d hd) (t d hd)
/-- the road's facts of a String, as the laws ask it -/
theorem txt_of {Z U : State} {a0 : Array Value} {kI : Nat} (wi : (Jvm.Cond.instantiable ST kI).before a0 Z = true) (al : Z.vm.Alike U.vm) {x t : Addr} {kb : ClassId} {cs : List Int32} {cd N2 : Int32} {vs : List Value} (E : RoadKit.Exa Z U.heap x ST) (V : RoadKit.Fld Z U.heap x ST "value" "[B" (.ref t)) (C : RoadKit.Fld Z U.heap x ST "coder" "B" (.int cd)) (K : RoadKit.Arv Z U.heap t kb .byte N2 vs (.int 0)) (hc : CodA cs cd N2 vs) (hb : ∀ c ∈ cs, ¬ c < 0 ∧ ¬ (65535 : Int32) < c) (l2 : cs.length ≤ 4000) :
    ∃ A, Txt x t A cd cs.length (fun j => cs.getD j 0) U := by
  obtain ⟨A, K1, K2, K3, K4, K5, K6⟩ := K
  have hcod := hc.cod (by omega) K3 K5
  obtain ⟨D, fV, fC, hB, F1, F2, g1, g2, -, -⟩ := strObj wi al E V C
  exact ⟨A, ⟨_, hB.2.2.1, D, hB.1, rfl, by cases q : D.vm <;> first | rfl | exact absurd q (hB.2.1.2 _)⟩, Has.of hB F1 g1, Has.of hB F2 g2, ⟨K1.1, State.isArrayOf_alike al K1.2.1, K1.2.2, by rcases hcod with ⟨-, q, -⟩ | ⟨-, q, -⟩ <;> omega⟩, hcod, fun j hj => by
    have e : cs.getD j 0 = cs[j] := by simp [List.getD_eq_getElem?_getD, hj]
    show ¬ cs.getD j 0 < 0 ∧ ¬ 65535 < cs.getD j 0
    rw [e]; exact hb _ (List.getElem_mem _)⟩
theorem same_list (cs ds : List Int32) : SameT cs.length (fun j => cs.getD j 0) ds.length (fun j => ds.getD j 0) ↔ cs = ds := by
  constructor
  · rintro ⟨e, q⟩
    refine List.ext_getElem e fun j h1 h2 => ?_
    have := q j h1
    simpa [List.getD_eq_getElem?_getD, h1, h2] using this
  · rintro rfl
    exact ⟨rfl, fun _ _ => rfl⟩
/-- **equals(Object) OF TWO SUCH STRINGS**: 1 just where the chars are the same -/
theorem eqW {p : Program} {l : Launch} {e : Env} {R : Room} {s : State} {args : Array Value} {below : List Frame} {len W : Nat} {Z : State} {a0 : Array Value} {h : Heap} (hZ : Z.Warmed39 s.vm) (hw : ∀ d ∈ wordsEq, d.before a0 Z = true) {kI : Nat} (wi : (Jvm.Cond.instantiable ST kI).before a0 Z = true)
    {x t : Addr} {kb : ClassId} {cs : List Int32} {cd N2 : Int32} {vs : List Value} (E : RoadKit.Exa Z h x ST) (V : RoadKit.Fld Z h x ST "value" "[B" (.ref t)) (C : RoadKit.Fld Z h x ST "coder" "B" (.int cd)) (K : RoadKit.Arv Z h t kb .byte N2 vs (.int 0)) (hc : CodA cs cd N2 vs) (hb : ∀ c ∈ cs, ¬ c < 0 ∧ ¬ (65535 : Int32) < c) (l2 : cs.length ≤ 4000)
    {y t' : Addr} {kb' : ClassId} {ds : List Int32} {cd' N2' : Int32} {vs' : List Value} (E' : RoadKit.Exa Z h y ST) (V' : RoadKit.Fld Z h y ST "value" "[B" (.ref t')) (C' : RoadKit.Fld Z h y ST "coder" "B" (.int cd')) (K' : RoadKit.Arv Z h t' kb' .byte N2' vs' (.int 0)) (hc' : CodA ds cd' N2' vs') (hb' : ∀ c ∈ ds, ¬ c < 0 ∧ ¬ (65535 : Int32) < c) (l2' : ds.length ≤ 4000)
    {z : Int32} (S : RoadKit.Sta Z h ST "COMPACT_STRINGS" "Z" (.int z)) (hz : ¬ z = 0) (hfr : 2 ≤ R.frames) (hlo : W + 28 ≤ R.locals) :
    Back l R p e below s args (⟨"java/lang/String", "equals", "(Ljava/lang/Object;)Z"⟩ : MethodName) len W (fun P a => a = #[.ref x, .ref y] ∧ P.U.heap = h ∧ P.cells + 0 ≤ R.cells ∧ P.slots + 0 ≤ R.slots)
      (fun P _ v B => ∃ L, (((v = some (.int 1) ∧ cs = ds) ∨ (v = some (.int 0) ∧ ¬ cs = ds)) ∧ L = [] ∧ B.U.heap = h) ∧ B.locs = P.locs ++ L ∧ B.cells = P.cells + 0 ∧ B.slots = P.slots + 0) := by
  intro m meth c P g ig mk a X hg hsize hdg hW hn hp'
  obtain ⟨rfl, rfl, r1, r2⟩ := hp'
  have al : Z.vm.Alike P.U.vm := hZ.alike.trans X.warmed.alike
  obtain ⟨A, hx⟩ := txt_of wi al E V C K hc hb l2
  obtain ⟨A', hy⟩ := txt_of wi al E' V' C' K' hc' hb' l2'
  obtain ⟨v, B, X', ⟨⟨w, hv, hh, hq⟩, hl, hk, hs⟩, st⟩ := SEq.pays x t A cd cs.length (fun j => cs.getD j 0) y t' A' cd' ds.length (fun j => ds.getD j 0) z (tabEq_of (movedEq hZ hw)) hfr hlo m meth c P g ig mk _ X hg hsize hdg hW hn ⟨r1, r2, rfl, hx, hy, sta_is al S, hz⟩
  refine ⟨v, B, X', ⟨[], ⟨?_, rfl, hh⟩, hl, hk, hs⟩, st⟩
  rcases hq with ⟨rfl, q⟩ | ⟨rfl, q⟩
  · exact Or.inl ⟨hv, (same_list cs ds).mp q⟩
  · exact Or.inr ⟨hv, fun e => q ((same_list cs ds).mpr e)⟩
end StrChars.Road
namespace StrChars.Road
open Jvm Sem ClassFile Op Lib Jvm.Stand Jvm.Free Jvm.Free.XT
open Jvm.Lib.Cold (StaticIs)
/-- what backV says of its String, as the contracts of this text ask it: cs's low bytes, coder 0 -/
theorem codOf {cs : List Int32} {n : Nat} (hn : cs.length = n) (hb : ∀ c ∈ cs, ¬ 255 < c) : CodA cs 0 (Int32.ofNat n) ((cs.map lo8).map Value.int) := Or.inl ⟨rfl, by rw [hn], by simp [List.map_map, Function.comp_def], hb⟩
end StrChars.Road
end Jvm.Pilot.@@N@@
namespace Jvm.Pilot.@@N@@
open Jvm Jvm.ClassFile Sem Op Lib Jvm.Free Jvm.Stand Jvm.LawKit Jvm.RoadKit Bundle Jvm.Pilot.@@N@@.Jvm.D
def own_Go (p : Program) (e : Env) (below : List Frame) (A : State) (G : Outcome → State → Prop) : Prop := ∃ s₂ o, Steps p.tables e below A s₂ ∧ s₂.status = .running ∧ Ended s₂ below o ∧ G o s₂
theorem own_go {p : Program} {e : Env} {below : List Frame} {A B : State} {G : Outcome → State → Prop} (st : ∀ t, Steps p.tables e below B t → Steps p.tables e below A t) (k : own_Go p e below B G) : own_Go p e below A G := by
  obtain ⟨t, o, h1, h2⟩ := k
  exact ⟨t, o, st t h1, h2⟩
theorem own_gos {p : Program} {e : Env} {below : List Frame} {A B : State} {G : Outcome → State → Prop} (st : Steps p.tables e below A B) (k : own_Go p e below B G) : own_Go p e below A G := by
  obtain ⟨t, o, h1, h2⟩ := k
  exact ⟨t, o, st.trans h1, h2⟩
theorem own_fin {p : Program} {l : Launch} {e : Env} {R : Room} {s : State} {m : MethodId} {args : Array Value} {below : List Frame} {meth : Method} {c : Code} {T : State} {locs : List Loc} {cells slots : Nat} (X : Stand p l e R s m args below meth c T locs cells slots) {v : Option Value} (hv : meth.sig.returnType = none → v = none) (hl : meth.locks = false) {A : State}
    (ret : ∀ fs : List Frame, (∀ (f : JFrame) (acts : List Action), f.method = m → f.locked = none → f.entered = [] → (doReturn e (T.setTop f) acts v).1 = T.setFrames fs) → Steps p.tables e below A (T.setFrames fs)) {QQ : Option Value → Heap → List Loc → Prop} (hQ : QQ v T.heap locs) {C S : Nat} (hc : cells ≤ C) (hs : slots ≤ S) :
    own_Go p e below A (fun o U' => ∃ v L, o = .returned v ∧ QQ v U'.heap L ∧ FrameEnd s o U' L C S) := by
  obtain ⟨fs, hr, hrun, hended, hW, hsame⟩ := X.leave hv hl
  exact ⟨_, _, ret fs hr, hrun, hended, v, locs, rfl, hQ, ⟨_, rfl⟩, hW, hsame.mono hc hs⟩
theorem own_finW {p : Program} {l : Launch} {e : Env} {R : Room} {s : State} {vm1 : Vm} {m : MethodId} {args : Array Value} {below : List Frame} {meth : Method} {c : Code} {T : State} {locs : List Loc} {cells slots : Nat} (X : Stand p l e R (s.setVm vm1) m args below meth c T locs cells slots) {h0 h : Heap} (hh : s.heap = h0) {Z : State} {a0 : Array Value} (hZ : Z.Warmed39 (s.setVm vm1).vm) {n : Nat} (hS : s.Since vm1 n) (hn : n ≤ T.heap.size) {v : Option Value} (hv : meth.sig.returnType = none → v = none) (hl : meth.locks = false) {A : State}
    (ret : ∀ fs : List Frame, (∀ (f : JFrame) (acts : List Action), f.method = m → f.locked = none → f.entered = [] → (doReturn e (T.setTop f) acts v).1 = T.setFrames fs) → Steps p.tables e below A (T.setFrames fs)) {QQ : Option Value → Heap → List Loc → Prop} (hQ : QQ v T.heap locs) {EL : List (String × Nat)} (hEL : EW Z a0 EL) (eT : T.heap = h) (C : CHr Z EL s.vm h0 vm1 h) {CC SS : Nat} (hc : cells ≤ CC) (hs : slots ≤ SS) :
    own_Go p e below A (fun o U' => ∃ v L, o = .returned v ∧ QQ v U'.heap L ∧ CHr Z EL s.vm s.heap U'.vm U'.heap ∧ ReturnedEndW s o U' L CC SS) := by
  obtain ⟨fs, hr, hrun, hended, hE⟩ := X.leaveW hS hn hv hl
  have hC := C.trans (CHv.at X hZ hEL C.1)
  subst hh eT
  exact ⟨_, _, ret fs hr, hrun, hended, v, locs, rfl, hQ, hC, hE.1, hE.2.1, hE.2.2.1, hE.2.2.2.mono hc hs⟩
def own_EL : List (String × Nat) := [("java/lang/String", 7)]
theorem own_wSt {Z : State} {a0 : Array Value} (hw : ∀ d ∈ tables_1, d.before a0 Z = true) : ∀ a ∈ Bundle.stringAtoms, a.before a0 Z = true := fun d hd => hw d ((by decide +kernel : ∀ d ∈ Bundle.stringAtoms, d ∈ tables_1) d hd)
theorem own_hELt {Z : State} {a0 : Array Value} (hw : ∀ d ∈ tables_1, d.before a0 Z = true) : EW Z a0 own_EL := (EW.cons (hw _ (List.mem_of_getElem? (i := 28) rfl)) (by decide) EW.nil)
theorem own_and255 (x : Int32) : ¬ nar .char ((x &&& (255 : Int32)).toUInt32.toUInt16.toUInt32.toInt32) < 0 ∧ ¬ (255 : Int32) < nar .char ((x &&& (255 : Int32)).toUInt32.toUInt16.toUInt32.toInt32) := by
  have t : ∀ k : Fin 256, ¬ nar .char ((Int32.ofNat k.val).toUInt32.toUInt16.toUInt32.toInt32) < 0 ∧ ¬ (255 : Int32) < nar .char ((Int32.ofNat k.val).toUInt32.toUInt16.toUInt32.toInt32) := by decide +kernel
  have h : (x &&& 255).toBitVec.toNat < 256 := by
    simp only [Int32.toBitVec_and, BitVec.toNat_and]
    exact Nat.lt_succ_of_le Nat.and_le_right
  have e : (x &&& 255) = Int32.ofNat (x &&& 255).toBitVec.toNat := by
    apply Int32.toBitVec_inj.mp
    show _ = BitVec.ofNat 32 _
    rw [BitVec.ofNat_toNat]; simp
  rw [e]
  exact t ⟨_, h⟩
theorem own_up (cs : List Int32) (h : ∀ c ∈ cs, ¬ c < 0 ∧ ¬ (255 : Int32) < c) : ∀ c ∈ cs, ¬ c < 0 ∧ ¬ (65535 : Int32) < c := fun c hc => ⟨(h c hc).1, fun q => (h c hc).2 (by rw [Int32.lt_iff_toInt_lt] at q ⊢; have e1 : (65535 : Int32).toInt = 65535 := rfl; have e2 : (255 : Int32).toInt = 255 := rfl; omega)⟩
theorem own_safeNull {Z : State} {EL : List (String × Nat)} {vm : Vm} {h : Heap} {x : Addr} (hal : Z.vm.Alike vm) (E : Exa Z h x "java/lang/String") (F : Fld Z h x "java/lang/String" "value" "[B" .null) : Safe Z EL vm h x := fun B => by
  obtain ⟨cell, k, e1, e2, e3, -, -⟩ := E
  obtain ⟨cell', cf, kf, i, f, f1, f2, -, -, -, -, f7⟩ := F
  cases e1.symm.trans f1
  obtain ⟨p, -, u, a, -, q, -, G, rfl | rfl⟩ := B
  · cases (show h[q.sa]? = some q.sC from G.ha).symm.trans e1
    obtain ⟨cS, ⟨⟨s1, s2, s3, ⟨cv, kv, iv, s4, s4'⟩, -, s6, s7, s8, -⟩, -⟩, -⟩ := G
    obtain ⟨k', hf'⟩ := ff_back (U := Wst Z vm h) hal s4
    cases f2.symm.trans hf'
    rw [f7] at s8
    cases s8
  · cases (show h[q.sd]? = some q.SA from G.hd).symm.trans e1
    obtain ⟨cS, -, -, hB, -⟩ := G
    have hB : vm.findClass "[B" = some q.SA.cls := hB
    rw [hal.findClass] at hB
    obtain ⟨k1, q1, q2⟩ := Vm.findClass_spec hB
    obtain ⟨k2, q3, q4⟩ := Vm.findClass_spec e2
    cases q1.symm.trans q3
    exact absurd (q2.symm.trans q4) (by decide)
theorem own_catR {v : Value} (h : v.isRef = true) : v.category = 1 := by cases v <;> first | rfl | cases h
def QPure (r : Option Value) (h0 : Heap) (n0 : Nat) (v : Option Value) (h : Heap) (L : List Loc) : Prop := v = r ∧ Fr n0 L ∧ h = h0
theorem own_selP {Z s : State} {a0 args : Array Value} {y : MethodName} {n : Nat} (hZ : Z.Warmed39 s.vm) (wi : (Cond.instantiable y.cls n).before a0 Z = true) (wp : (Cond.privateMethod y).before a0 Z = true) (wm : (Cond.instanceMethod y).before a0 Z = true) (hy : y.cls ≠ "java/lang/invoke/MethodHandle" ∧ y.cls ≠ "java/lang/invoke/VarHandle") : (Cond.selects y.cls y y).before args s = true := by
  have wi' : (Cond.instantiable y.cls n).before args s = true := mvT hZ wi
  have wm' : (Cond.instanceMethod y).before args s = true := mvT hZ wm
  obtain ⟨c, k, h1, h2, h3, h4⟩ := Cond.instantiable_spec wi'
  refine Jvm.Stand.selects_self_of_private h1 h2 ?_ (Cond.privateMethod_at (mvP hZ wp (args := args))) wm' hy
  have h5 := h4.1
  cases hi : k.isInterface <;> simp_all
def own_ch (c : Int32) : Int32 := nar .char ((c &&& (255 : Int32)).toUInt32.toUInt16.toUInt32.toInt32)
def own_s (c k : Int32) : Int32 := (c.toUInt32 >>> (k &&& 31).toUInt32).toInt32
theorem own_chr (c : Int32) : ¬ own_ch c < 0 ∧ ¬ (255 : Int32) < own_ch c := own_and255 c
def own_text (n c : Int32) : List Int32 := if n = 0 then [] else if n = 1 then [own_ch c] else if n = 2 then [own_ch c, own_ch (own_s c 8)] else [own_ch c, own_ch (own_s c 8), own_ch (own_s c 16)]
theorem own_none : ∀ c ∈ ([] : List Int32), ¬ c < 0 ∧ ¬ (255 : Int32) < c := fun c hc => nomatch hc
theorem own_textA (n c : Int32) : ∀ x ∈ own_text n c, ¬ x < 0 ∧ ¬ (255 : Int32) < x := fun x hx => by
  unfold own_text at hx
  split at hx
  · cases hx
  split at hx
  · simp only [List.mem_cons, List.not_mem_nil, or_false] at hx; subst hx; exact own_chr _
  split at hx
  · simp only [List.mem_cons, List.not_mem_nil, or_false] at hx; rcases hx with rfl | rfl <;> exact own_chr _
  · simp only [List.mem_cons, List.not_mem_nil, or_false] at hx; rcases hx with rfl | rfl | rfl <;> exact own_chr _
theorem own_textB (n c : Int32) : ∀ x ∈ own_text n c, ¬ x < 0 ∧ ¬ (65535 : Int32) < x := own_up _ (own_textA n c)
theorem own_textL (n c : Int32) : (own_text n c).length ≤ 4000 := by
  unfold own_text; split
  · exact Nat.le_of_ble_eq_true rfl
  split
  · exact Nat.le_of_ble_eq_true rfl
  split <;> exact Nat.le_of_ble_eq_true rfl
def own_kind (i : Int32) (z0 z1 z2 z3 z4 z5 : Addr) : Value := if i = 0 then .ref z0 else if i = 1 then .ref z1 else if i = 2 then .ref z2 else if i = 3 then .ref z3 else if i = 4 then .ref z4 else if i = 5 then .ref z5 else .null
theorem own_kindR (i : Int32) (z0 z1 z2 z3 z4 z5 : Addr) : (own_kind i z0 z1 z2 z3 z4 z5).isRef = true := by
  unfold own_kind; repeat (first | rfl | split)
theorem own_fitR {v : Value} {C : String} (h : v.isRef = true) : fits (.object C) v = true := by cases v <;> first | rfl | (simp [Value.isRef] at h)
def own_eqr (cs ds : List Int32) : Int32 := if cs = ds then 1 else 0
def own_isr (kv k2 : Value) (cs ds : List Int32) : Int32 := if kv = k2 ∧ cs = ds then 1 else 0
theorem own_isr_n1 {kv k2 : Value} {cs ds : List Int32} (h : ¬ kv = k2) : own_isr kv k2 cs ds = 0 := if_neg fun q => h q.1
theorem own_isr_m {kv k2 : Value} {cs ds : List Int32} (h : ¬ cs = ds) : own_isr kv k2 cs ds = 0 := if_neg fun q => h q.2
theorem own_isr_n2 {kv k2 : Value} {cs ds : List Int32} (_ : kv = k2) (h : own_eqr cs ds = 0) : own_isr kv k2 cs ds = 0 := own_isr_m fun q => by
  rw [own_eqr, if_pos q] at h; exact absurd h (by decide)
theorem own_isr_yy {kv k2 : Value} {cs ds : List Int32} (h1 : kv = k2) (h2 : cs = ds) : own_isr kv k2 cs ds = 1 := if_pos ⟨h1, h2⟩
theorem own_isr_y {kv k2 : Value} {cs ds : List Int32} (h1 : kv = k2) (h : ¬ own_eqr cs ds = 0) : own_isr kv k2 cs ds = 1 := own_isr_yy h1 (by
  by_cases q : cs = ds
  · exact q
  · exact absurd (if_neg q) h)
theorem own_and0 (x : Int32) : (x &&& (0 : Int32)) = 0 := by simp
theorem own_nn (x : Int32) : 0 ≤ (x &&& (2147483647 : Int32)).toInt := by
  have e : (x &&& (2147483647 : Int32)).toInt = ((x.toBitVec &&& 2147483647#32).toNat : Int) := by
    show (x.toBitVec &&& 2147483647#32).toInt = _
    rw [BitVec.toInt_eq_toNat_of_lt]
    rw [BitVec.toNat_and]
    have := @Nat.and_le_right x.toBitVec.toNat (2147483647#32).toNat
    simp at this ⊢; omega
  rw [e]; exact Int.natCast_nonneg _
theorem own_i6 (x : Int32) : (x &&& (2147483647 : Int32)) % (6 : Int32) = 0 ∨ (x &&& (2147483647 : Int32)) % (6 : Int32) = 1 ∨ (x &&& (2147483647 : Int32)) % (6 : Int32) = 2 ∨ (x &&& (2147483647 : Int32)) % (6 : Int32) = 3 ∨ (x &&& (2147483647 : Int32)) % (6 : Int32) = 4 ∨ (x &&& (2147483647 : Int32)) % (6 : Int32) = 5 := by
  have h := own_nn x
  have e : ((x &&& (2147483647 : Int32)) % (6 : Int32)).toInt = (x &&& (2147483647 : Int32)).toInt.tmod 6 := Int32.toInt_mod ..
  rw [Int.tmod_eq_emod_of_nonneg h] at e
  generalize (x &&& (2147483647 : Int32)) % (6 : Int32) = y at e ⊢
  generalize (x &&& (2147483647 : Int32)).toInt = z at e
  have : z % 6 = 0 ∨ z % 6 = 1 ∨ z % 6 = 2 ∨ z % 6 = 3 ∨ z % 6 = 4 ∨ z % 6 = 5 := by omega
  rcases this with q | q | q | q | q | q <;> rw [q] at e
  · exact Or.inl (Int32.toInt_inj.mp e)
  · exact Or.inr (Or.inl (Int32.toInt_inj.mp e))
  · exact Or.inr (Or.inr (Or.inl (Int32.toInt_inj.mp e)))
  · exact Or.inr (Or.inr (Or.inr (Or.inl (Int32.toInt_inj.mp e))))
  · exact Or.inr (Or.inr (Or.inr (Or.inr (Or.inl (Int32.toInt_inj.mp e)))))
  · exact Or.inr (Or.inr (Or.inr (Or.inr (Or.inr (Int32.toInt_inj.mp e)))))
theorem own_i7 (x : Int32) : (x &&& (2147483647 : Int32)) % (7 : Int32) = 0 ∨ (x &&& (2147483647 : Int32)) % (7 : Int32) = 1 ∨ (x &&& (2147483647 : Int32)) % (7 : Int32) = 2 ∨ (x &&& (2147483647 : Int32)) % (7 : Int32) = 3 ∨ (x &&& (2147483647 : Int32)) % (7 : Int32) = 4 ∨ (x &&& (2147483647 : Int32)) % (7 : Int32) = 5 ∨ (x &&& (2147483647 : Int32)) % (7 : Int32) = 6 := by
  have h := own_nn x
  have e : ((x &&& (2147483647 : Int32)) % (7 : Int32)).toInt = (x &&& (2147483647 : Int32)).toInt.tmod 7 := Int32.toInt_mod ..
  rw [Int.tmod_eq_emod_of_nonneg h] at e
  generalize (x &&& (2147483647 : Int32)) % (7 : Int32) = y at e ⊢
  generalize (x &&& (2147483647 : Int32)).toInt = z at e
  have : z % 7 = 0 ∨ z % 7 = 1 ∨ z % 7 = 2 ∨ z % 7 = 3 ∨ z % 7 = 4 ∨ z % 7 = 5 ∨ z % 7 = 6 := by omega
  rcases this with q | q | q | q | q | q | q <;> rw [q] at e
  · exact Or.inl (Int32.toInt_inj.mp e)
  · exact Or.inr (Or.inl (Int32.toInt_inj.mp e))
  · exact Or.inr (Or.inr (Or.inl (Int32.toInt_inj.mp e)))
  · exact Or.inr (Or.inr (Or.inr (Or.inl (Int32.toInt_inj.mp e))))
  · exact Or.inr (Or.inr (Or.inr (Or.inr (Or.inl (Int32.toInt_inj.mp e)))))
  · exact Or.inr (Or.inr (Or.inr (Or.inr (Or.inr (Or.inl (Int32.toInt_inj.mp e))))))
  · exact Or.inr (Or.inr (Or.inr (Or.inr (Or.inr (Or.inr (Int32.toInt_inj.mp e))))))
theorem own_kind_ne {z0 z1 z2 z3 z4 z5 : Addr} (hz : [z0, z1, z2, z3, z4, z5].Nodup) {a b : Int32} (ha : a = 0 ∨ a = 1 ∨ a = 2 ∨ a = 3 ∨ a = 4 ∨ a = 5) (hb : b = 0 ∨ b = 1 ∨ b = 2 ∨ b = 3 ∨ b = 4 ∨ b = 5 ∨ b = 6) (h : ¬ a = b) : ¬ own_kind a z0 z1 z2 z3 z4 z5 = own_kind b z0 z1 z2 z3 z4 z5 := by
  simp only [List.nodup_cons, List.mem_cons, List.not_mem_nil, or_false, not_or, List.nodup_nil, and_true, not_false_eq_true] at hz
  obtain ⟨⟨a1, a2, a3, a4, a5⟩, ⟨b2, b3, b4, b5⟩, ⟨c3, c4, c5⟩, ⟨d4, d5⟩, e5⟩ := hz
  rcases ha with rfl | rfl | rfl | rfl | rfl | rfl <;> rcases hb with rfl | rfl | rfl | rfl | rfl | rfl | rfl <;> first | exact absurd rfl h | (intro q; simp [own_kind] at q <;> first | exact absurd q ‹_› | exact absurd q.symm ‹_›)
theorem own_a3 (x : Int32) : (x &&& (3 : Int32)) = 0 ∨ (x &&& (3 : Int32)) = 1 ∨ (x &&& (3 : Int32)) = 2 ∨ (x &&& (3 : Int32)) = 3 := by
  have t : ∀ k : Fin 4, Int32.ofNat k.val = 0 ∨ Int32.ofNat k.val = 1 ∨ Int32.ofNat k.val = 2 ∨ Int32.ofNat k.val = 3 := by decide
  have h : (x &&& 3).toBitVec.toNat < 4 := by
    simp only [Int32.toBitVec_and, BitVec.toNat_and]
    exact Nat.lt_succ_of_le Nat.and_le_right
  have e : (x &&& 3) = Int32.ofNat (x &&& 3).toBitVec.toNat := by
    apply Int32.toBitVec_inj.mp
    show _ = BitVec.ofNat 32 _
    rw [BitVec.ofNat_toNat]; simp
  rw [e]
  exact t ⟨_, h⟩
theorem own_text_ne {a b c d : Int32} (ha : a = 0 ∨ a = 1 ∨ a = 2 ∨ a = 3) (hb : b = 0 ∨ b = 1 ∨ b = 2 ∨ b = 3) (h : ¬ a = b) : ¬ own_text a c = own_text b d := by
  rcases ha with rfl | rfl | rfl | rfl <;> rcases hb with rfl | rfl | rfl | rfl <;> first | exact absurd rfl h | (intro q; simp [own_text] at q)
theorem own_chN (c : Int32) : (own_ch c).toBitVec.toNat = c.toBitVec.toNat % 256 := by
  have t : ∀ k : Fin 256, (nar .char ((Int32.ofNat k.val).toUInt32.toUInt16.toUInt32.toInt32)).toBitVec.toNat = k.val := by decide +kernel
  have h : (c &&& 255).toBitVec.toNat = c.toBitVec.toNat % 256 := by
    simp only [Int32.toBitVec_and, BitVec.toNat_and]
    exact Nat.and_two_pow_sub_one_eq_mod _ 8
  have h2 : (c &&& 255).toBitVec.toNat < 256 := by rw [h]; omega
  have e : (c &&& 255) = Int32.ofNat (c &&& 255).toBitVec.toNat := by
    apply Int32.toBitVec_inj.mp
    show _ = BitVec.ofNat 32 _
    rw [BitVec.ofNat_toNat]; simp
  unfold own_ch
  rw [e]; exact (t ⟨_, h2⟩).trans h
theorem own_inj {a b : Int32} : a = b ↔ a.toBitVec.toNat = b.toBitVec.toNat := ⟨fun h => h ▸ rfl, fun h => Int32.toBitVec_inj.mp (BitVec.eq_of_toNat_eq h)⟩
theorem own_sN8 (c : Int32) : (own_s c 8).toBitVec.toNat = c.toBitVec.toNat / 256 := by
  show (c.toBitVec >>> 8#32).toNat = _
  simp [BitVec.toNat_ushiftRight, Nat.shiftRight_eq_div_pow]
theorem own_sN16 (c : Int32) : (own_s c 16).toBitVec.toNat = c.toBitVec.toNat / 65536 := by
  show (c.toBitVec >>> 16#32).toNat = _
  simp [BitVec.toNat_ushiftRight, Nat.shiftRight_eq_div_pow]
theorem own_xor0 {a b : Nat} (h : a ^^^ b = 0) : a = b := by
  have q : (a ^^^ b) ^^^ b = b := by rw [h, Nat.zero_xor]
  rwa [Nat.xor_assoc, Nat.xor_self, Nat.xor_zero] at q
theorem own_xm {c d : Int32} (m : Int32) (k : Nat) (hm : m.toBitVec.toNat = 2 ^ k - 1) : ((c ^^^ d) &&& m) = 0 ↔ c.toBitVec.toNat % 2 ^ k = d.toBitVec.toNat % 2 ^ k := by
  rw [own_inj, Int32.toBitVec_and, BitVec.toNat_and, hm, Nat.and_two_pow_sub_one_eq_mod, Int32.toBitVec_xor, BitVec.toNat_xor, Nat.xor_mod_two_pow]
  show _ = 0 ↔ _
  constructor
  · intro h; exact own_xor0 h
  · intro h; rw [h, Nat.xor_self]
theorem own_tx0 {a b c d : Int32} (h0 : a = 0) (h : a = b) : own_text a c = own_text b d := by subst h0; subst h; simp [own_text]
theorem own_tx1 {a b c d : Int32} (h0 : ¬ a = 0) (h1 : a = 1) (h : a = b) : own_text a c = own_text b d ↔ ((c ^^^ d) &&& (255 : Int32)) = 0 := by
  subst h1; subst h
  rw [own_xm 255 8 (by decide)]
  simp only [own_text, if_neg h0, if_true, List.cons.injEq, and_true]
  rw [own_inj, own_chN, own_chN]
theorem own_tx2 {a b c d : Int32} (h0 : ¬ a = 0) (h1 : ¬ a = 1) (h2 : a = 2) (h : a = b) : own_text a c = own_text b d ↔ ((c ^^^ d) &&& (65535 : Int32)) = 0 := by
  subst h2; subst h
  rw [own_xm 65535 16 (by decide)]
  simp only [own_text, if_neg h0, if_neg h1, if_true, List.cons.injEq, and_true]
  rw [own_inj, own_chN, own_chN, own_inj, own_chN, own_chN, own_sN8, own_sN8]
  omega
theorem own_tx3 {a b c d : Int32} (h0 : ¬ a = 0) (h1 : ¬ a = 1) (h2 : ¬ a = 2) (h : a = b) : own_text a c = own_text b d ↔ ((c ^^^ d) &&& (16777215 : Int32)) = 0 := by
  subst h
  rw [own_xm 16777215 24 (by decide)]
  simp only [own_text, if_neg h0, if_neg h1, if_neg h2, List.cons.injEq, and_true]
  rw [own_inj, own_chN, own_chN, own_inj, own_chN, own_chN, own_inj, own_chN, own_chN, own_sN8, own_sN8, own_sN16, own_sN16]
  omega
theorem own_ordF {Z : State} {args : Array Value} {t : Term} {a : Addr} {n : Int32} (e : t.eval args Z none [] Z = some (.ref a)) (h : (Cond.eq (.field t "java/lang/Enum" "ordinal" "I") (.int n)).value args Z none Z [] = some true) : Fld Z Z.heap a "java/lang/Enum" "ordinal" "I" (.int n) := by
  exact Fld.start ((Jvm.RoadKit.fld_at e).symm.trans (Jvm.RoadKit.eqv_i rfl h))
theorem own_nodup {Z : State} {h : Heap} {z0 z1 z2 z3 z4 z5 : Addr} (f0 : Fld Z h z0 "java/lang/Enum" "ordinal" "I" (.int 0)) (f1 : Fld Z h z1 "java/lang/Enum" "ordinal" "I" (.int 1)) (f2 : Fld Z h z2 "java/lang/Enum" "ordinal" "I" (.int 2)) (f3 : Fld Z h z3 "java/lang/Enum" "ordinal" "I" (.int 3)) (f4 : Fld Z h z4 "java/lang/Enum" "ordinal" "I" (.int 4)) (f5 : Fld Z h z5 "java/lang/Enum" "ordinal" "I" (.int 5)) : [z0, z1, z2, z3, z4, z5].Nodup := by
  simp only [List.nodup_cons, List.mem_cons, List.not_mem_nil, or_false, not_or, List.nodup_nil, and_true, not_false_eq_true]
  exact ⟨⟨f0.ne f1 (by decide), f0.ne f2 (by decide), f0.ne f3 (by decide), f0.ne f4 (by decide), f0.ne f5 (by decide)⟩, ⟨f1.ne f2 (by decide), f1.ne f3 (by decide), f1.ne f4 (by decide), f1.ne f5 (by decide)⟩, ⟨f2.ne f3 (by decide), f2.ne f4 (by decide), f2.ne f5 (by decide)⟩, ⟨f3.ne f4 (by decide), f3.ne f5 (by decide)⟩, f4.ne f5 (by decide)⟩
theorem d_jdk_30_m1_0 : decode jdk_30_method_1_code 0 = .ok (.aload_n 0, 1) := by decide +kernel
theorem d_jdk_30_m1_1 : decode jdk_30_method_1_code 1 = .ok (.invokespecial 1, 3) := by decide +kernel
theorem d_jdk_30_m1_4 : decode jdk_30_method_1_code 4 = .ok (.return_, 1) := by decide +kernel
theorem pn_0 : plainName "java/lang/Record" = true := by first | (simp [plainName, overriddenIn]; done) | decide +kernel
theorem ef_rm_rec (m : MethodId) (x0 : Addr) : entryFrame m #[(.ref x0)] 1 = mkF m 0 #[.val (.ref x0)] [] := by
   first | (simp [entryFrame, mkF, argsToLocals, Value.category]; done) | rfl
set_option maxRecDepth 65536 in
set_option maxHeartbeats 40000000 in
theorem rm_rec (l : Launch) (Z : State) (a0 : Array Value) (hw : ∀ d ∈ tables_1, d.before a0 Z = true) (ws : List Jvm.Cond) (a1 : Addr) (h0 : Heap) (n0 : Nat) (O0 : Old Z n0 h0) :
    MetFree l (⟨"java/lang/Record", "<init>", "()V"⟩ : MethodName) (head1 (Jvm.Cond.code (⟨"java/lang/Record", "<init>", "()V"⟩ : MethodName) jdk_30_method_1_code 1 none :: ws) ({ frames := 1, cells := 0, slots := 0, locals := 12 } : Room)) (fun a U => a = #[(.ref a1)] ∧ Z.Warmed39 U.vm ∧ U.heap = h0) (fun _ _ _ _ _ => True) (fun _ U o U' => ∃ v L, o = .returned v ∧ QPure (none) h0 n0 v U'.heap L ∧ FrameEnd U o U' L 0 0) := by
  refine MetFree.of_bodySF (plainFor_of_name pn_0) hisR ?_
  intro p e s m args below meth c s₁ Bd hml0 hP hK
  obtain ⟨rfl, hZ, hh⟩ := hP
  have hx := Bd.exec
  have hby := Bd.bytes
  have hml : c.maxLocals = 1 := hml0
  have hown : s.vm.findClass "java/lang/Record" = some m.cls := findClass_of_methodNamed Bd.named
  have hnm := (name_of_methodNamed Bd.named Bd.method).1
  have hrt := Bd.returns
  have hlk : meth.locks = false := Bd.notSynchronized
  have X0 : Stand p l e ({ frames := 1, cells := 0, slots := 0, locals := 12 } : Room) s m #[(.ref a1)] below meth c s₁ [] 0 0 := Stand.of_body Bd
  have e0 : s₁.heap = h0 := by rw [← hh, Bd.state]; rfl
  have N0 := Fr.nil n0
  have Z0 : n0 ≤ h0.size := O0.1 ▸ O0.2.1
  show own_Go p e below (s₁.setTop (entryFrame m #[(.ref a1)] 1)) (fun o U' => ∃ v L, o = .returned v ∧ QPure (none) h0 n0 v U'.heap L ∧ FrameEnd s o U' L 0 0)
  refine own_go (fun _ k => castTop (ef_rm_rec m a1) k) ?_
  show own_Go p e below (s₁.setTop (mkF m 0 #[.val (.ref a1)] [])) _
  refine own_go (fun _ k => XS.aloadN X0.here hx rfl (hb hby d_jdk_30_m1_0) rfl rfl k) ?_
  show own_Go p e below (s₁.setTop (mkF m 1 #[.val (.ref a1)] [(.ref a1)])) _
  obtain ⟨T1, X1, e1, st1⟩ := initO X0 hx hZ hown (hw _ (List.mem_of_getElem? (i := 44) rfl)) (hw _ (List.mem_of_getElem? (i := 26) rfl)) (hw _ (List.mem_of_getElem? (i := 27) rfl)) e0 (g := (mkF m 1 #[.val (.ref a1)] [(.ref a1)])) rfl (by rw [hml]; rfl) rfl (hb hby d_jdk_30_m1_1) (by decide) (W := 0) (by show 2 * 0 + _ ≤ _; exact Nat.le_of_eq rfl) (by decide)
  refine own_go st1 ?_
  show own_Go p e below (T1.setTop (mkF m 4 #[.val (.ref a1)] [])) _
  refine own_fin (v := none) X1 (fun _ => rfl) hlk (fun fs hr => X1.returnOut hx hrt (hb hby d_jdk_30_m1_4) hr) (QQ := QPure (none) h0 n0) ?_ (by decide) (by decide)
  rw [e1]
  exact ⟨rfl, N0, rfl⟩

def QE0 (Z : State) (a1 : Addr) (h0 : Heap) (n0 : Nat) (v : Option Value) (h : Heap) (L : List Loc) : Prop := ∃ (t : Addr) (k : ClassId), v = none ∧ Fr n0 L ∧ Keep h0 h [a1] ∧ Fld Z h a1 "java/lang/String" "value" "[B" (.ref t) ∧ Fld Z h a1 "java/lang/String" "coder" "B" (.int (0 : Int32)) ∧ Arv Z h t k .byte (0 : Int32) [] (.int (0 : Int32))
theorem d_jdk_42_m149_0 : decode jdk_42_method_149_code 0 = .ok (.aload_n 0, 1) := by decide +kernel
theorem d_jdk_42_m149_1 : decode jdk_42_method_149_code 1 = .ok (.invokespecial 1, 3) := by decide +kernel
theorem d_jdk_42_m149_4 : decode jdk_42_method_149_code 4 = .ok (.iload_n 3, 1) := by decide +kernel
theorem d_jdk_42_m149_5 : decode jdk_42_method_149_code 5 = .ok (.ifCond .ne 22, 3) := by decide +kernel
theorem d_jdk_42_m149_8 : decode jdk_42_method_149_code 8 = .ok (.aload_n 0, 1) := by decide +kernel
theorem d_jdk_42_m149_9 : decode jdk_42_method_149_code 9 = .ok (.ldc 7, 2) := by decide +kernel
theorem d_jdk_42_m149_11 : decode jdk_42_method_149_code 11 = .ok (.getfield 9, 3) := by decide +kernel
theorem d_jdk_42_m149_14 : decode jdk_42_method_149_code 14 = .ok (.putfield 9, 3) := by decide +kernel
theorem d_jdk_42_m149_17 : decode jdk_42_method_149_code 17 = .ok (.aload_n 0, 1) := by decide +kernel
theorem d_jdk_42_m149_18 : decode jdk_42_method_149_code 18 = .ok (.ldc 7, 2) := by decide +kernel
theorem d_jdk_42_m149_20 : decode jdk_42_method_149_code 20 = .ok (.getfield 15, 3) := by decide +kernel
theorem d_jdk_42_m149_23 : decode jdk_42_method_149_code 23 = .ok (.putfield 15, 3) := by decide +kernel
theorem d_jdk_42_m149_26 : decode jdk_42_method_149_code 26 = .ok (.return_, 1) := by decide +kernel
theorem pn_1 : plainName "java/lang/String" = true := by first | (simp [plainName, overriddenIn]; done) | decide +kernel
theorem ef_rm_i4e (m : MethodId) (x0 : Addr) (x1 : Addr) (x2 : Int32) (x3 : Int32) : entryFrame m #[(.ref x0), (.ref x1), (.int x2), (.int x3), .null] 6 = mkF m 0 #[.val (.ref x0), .val (.ref x1), .val (.int x2), .val (.int x3), .val .null, .unset] [] := by
   first | (simp [entryFrame, mkF, argsToLocals, Value.category]; done) | rfl
set_option maxRecDepth 65536 in
set_option maxHeartbeats 40000000 in
theorem rm_i4e (l : Launch) (Z : State) (a0 : Array Value) (hw : ∀ d ∈ tables_1, d.before a0 Z = true) (ws : List Jvm.Cond) (a1 : Addr) (a2 : Addr) (h0 : Heap) (n0 : Nat) (O0 : Old Z n0 h0) (E_a : Exa Z h0 a1 "java/lang/String") (F_v : Fld Z h0 a1 "java/lang/String" "value" "[B" .null) (F_c : Fld Z h0 a1 "java/lang/String" "coder" "B" (.int (0 : Int32))) (g_a : n0 ≤ a1) :
    MetFree l (⟨"java/lang/String", "<init>", "([CIILjava/lang/Void;)V"⟩ : MethodName) (head1 (Jvm.Cond.code (⟨"java/lang/String", "<init>", "([CIILjava/lang/Void;)V"⟩ : MethodName) jdk_42_method_149_code 6 none :: ws) ({ frames := 1, cells := 4, slots := 8, locals := 12 } : Room)) (fun a U => a = #[(.ref a1), (.ref a2), (.int (0 : Int32)), (.int (0 : Int32)), .null] ∧ Z.Warmed39 U.vm ∧ U.heap = h0 ∧ CHv Z own_EL U.vm h0) (fun _ _ _ _ _ => True) (fun _ U o U' => ∃ v L, o = .returned v ∧ QE0 Z a1 h0 n0 v U'.heap L ∧ CHr Z own_EL U.vm U.heap U'.vm U'.heap ∧ ReturnedEndW U o U' L 4 8) := by
  refine MetFree.of_bodySF (plainFor_of_name pn_1) hisR ?_
  intro p e s m args below meth c s₁ Bd hml0 hP hK
  obtain ⟨rfl, hZ, hh, hC0⟩ := hP
  have hx := Bd.exec
  have hby := Bd.bytes
  have hml : c.maxLocals = 6 := hml0
  have hown : s.vm.findClass "java/lang/String" = some m.cls := findClass_of_methodNamed Bd.named
  have hnm := (name_of_methodNamed Bd.named Bd.method).1
  have hrt := Bd.returns
  have hlk : meth.locks = false := Bd.notSynchronized
  have X0 : Stand p l e ({ frames := 1, cells := 4, slots := 8, locals := 12 } : Room) (s.setVm s.vm) m #[(.ref a1), (.ref a2), (.int (0 : Int32)), (.int (0 : Int32)), .null] below meth c s₁ [] 0 0 := Stand.of_body Bd
  have e0 : s₁.heap = h0 := by rw [← hh, Bd.state]; rfl
  have N0 := Fr.nil n0
  have Z0 : n0 ≤ h0.size := O0.1 ▸ O0.2.1
  have hS0 : s.Since s.vm 0 := (State.WarmedH.refl s).since 0
  have C0 : CHr Z own_EL s.vm h0 s.vm h0 := CHr.refl hC0
  have own_wS := own_wSt hw
  have own_hEL := own_hELt hw
  show own_Go p e below (s₁.setTop (entryFrame m #[(.ref a1), (.ref a2), (.int (0 : Int32)), (.int (0 : Int32)), .null] 6)) (fun o U' => ∃ v L, o = .returned v ∧ QE0 Z a1 h0 n0 v U'.heap L ∧ CHr Z own_EL s.vm s.heap U'.vm U'.heap ∧ ReturnedEndW s o U' L 4 8)
  refine own_go (fun _ k => castTop (ef_rm_i4e m a1 a2 _ _) k) ?_
  show own_Go p e below (s₁.setTop (mkF m 0 #[.val (.ref a1), .val (.ref a2), .val (.int (0 : Int32)), .val (.int (0 : Int32)), .val .null, .unset] [])) _
  refine own_go (fun _ k => XS.aloadN X0.here hx rfl (hb hby d_jdk_42_m149_0) rfl rfl k) ?_
  show own_Go p e below (s₁.setTop (mkF m 1 #[.val (.ref a1), .val (.ref a2), .val (.int (0 : Int32)), .val (.int (0 : Int32)), .val .null, .unset] [(.ref a1)])) _
  obtain ⟨T2, X2, e2, st2⟩ := initO X0 hx hZ hown (hw _ (List.mem_of_getElem? (i := 25) rfl)) (hw _ (List.mem_of_getElem? (i := 26) rfl)) (hw _ (List.mem_of_getElem? (i := 27) rfl)) e0 (g := (mkF m 1 #[.val (.ref a1), .val (.ref a2), .val (.int (0 : Int32)), .val (.int (0 : Int32)), .val .null, .unset] [(.ref a1)])) rfl (by rw [hml]; rfl) rfl (hb hby d_jdk_42_m149_1) (by decide) (W := 0) (by show 2 * 0 + _ ≤ _; exact Nat.le_of_eq rfl) (by decide)
  refine own_go st2 ?_
  show own_Go p e below (T2.setTop (mkF m 4 #[.val (.ref a1), .val (.ref a2), .val (.int (0 : Int32)), .val (.int (0 : Int32)), .val .null, .unset] [])) _
  refine own_go (fun _ k => XS.iloadN X2.here hx rfl (hb hby d_jdk_42_m149_4) rfl k) ?_
  show own_Go p e below (T2.setTop (mkF m 5 #[.val (.ref a1), .val (.ref a2), .val (.int (0 : Int32)), .val (.int (0 : Int32)), .val .null, .unset] [(.int (0 : Int32))])) _
  refine own_go (fun _ k => XS.ifNo X2.here hx rfl (hb hby d_jdk_42_m149_5) rfl ((if0 _ _).trans (teq (by decide : (0 : Int32) = (0 : Int32))).2) k) ?_
  show own_Go p e below (T2.setTop (mkF m 8 #[.val (.ref a1), .val (.ref a2), .val (.int (0 : Int32)), .val (.int (0 : Int32)), .val .null, .unset] [])) _
  refine own_go (fun _ k => XS.aloadN X2.here hx rfl (hb hby d_jdk_42_m149_8) rfl rfl k) ?_
  show own_Go p e below (T2.setTop (mkF m 9 #[.val (.ref a1), .val (.ref a2), .val (.int (0 : Int32)), .val (.int (0 : Int32)), .val .null, .unset] [(.ref a1)])) _
  obtain ⟨a3, T3, h3, k13, b3, kb3, X3, e3, E3, hS3, hk3, hZ3, hown3, Ea3, Fc3, Fv3, Va3, la3, lb3, A3, Li3, sf3, st3⟩ := ldcCH X2 hx hZ hown (hw _ (List.mem_of_getElem? (i := 28) rfl)) own_wS e2 hS0 (Nat.zero_le _) own_hEL (by decide) C0.1 (vs := []) (z := (0 : Int32)) ⟨by decide, by decide⟩ (by decide) (by decide) (g := (mkF m 9 #[.val (.ref a1), .val (.ref a2), .val (.int (0 : Int32)), .val (.int (0 : Int32)), .val .null, .unset] [(.ref a1)])) rfl (hb hby d_jdk_42_m149_9) (n := 0) (by decide) (by decide) (by decide) (by decide)
  refine own_go st3 ?_
  have C4 := C0.trans A3
  have sf5 : Safe Z own_EL T3.vm h3 a1 := own_safeNull hZ3.alike (E_a.ext E3) (F_v.ext E3)
  show own_Go p e below (T3.setTop (mkF m 11 #[.val (.ref a1), .val (.ref a2), .val (.int (0 : Int32)), .val (.int (0 : Int32)), .val .null, .unset] [(.ref a3), (.ref a1)])) _
  obtain ⟨T6, X6, e6, st6⟩ := getF X3 hx hZ3 hown3 (host := "") (Or.inl (hw _ (List.mem_of_getElem? (i := 34) rfl))) Via.refl e3 Fv3 (g := (mkF m 11 #[.val (.ref a1), .val (.ref a2), .val (.int (0 : Int32)), .val (.int (0 : Int32)), .val .null, .unset] [(.ref a3), (.ref a1)])) rfl rfl (hb hby d_jdk_42_m149_11)
  refine own_go st6 ?_
  show own_Go p e below (T6.setTop (mkF m 14 #[.val (.ref a1), .val (.ref a2), .val (.int (0 : Int32)), .val (.int (0 : Int32)), .val .null, .unset] [(.ref b3), (.ref a1)])) _
  obtain ⟨T7, h7, X7, e7, W7, st7⟩ := putF X6 hx hZ3 hown3 (host := "") (Or.inl (hw _ (List.mem_of_getElem? (i := 34) rfl))) Via.refl e6 (F_v.ext E3) (E_a.ext E3) (Or.inr ⟨(hw _ (List.mem_of_getElem? (i := 30) rfl)), rfl, hnm⟩) (hw _ (List.mem_of_getElem? (i := 15) rfl)) (ty := (.array .byte)) (by decide) rfl rfl (g := (mkF m 14 #[.val (.ref a1), .val (.ref a2), .val (.int (0 : Int32)), .val (.int (0 : Int32)), .val .null, .unset] [(.ref b3), (.ref a1)])) rfl rfl (hb hby d_jdk_42_m149_14)
  refine own_go st7 ?_
  have N7 := Fr.snoc X7 N0 g_a
  have C8 := C4.trans (CHr.wr W7 sf5 C4.1)
  have Fw7 := (F_v.ext E3).same W7
  show own_Go p e below (T7.setTop (mkF m 17 #[.val (.ref a1), .val (.ref a2), .val (.int (0 : Int32)), .val (.int (0 : Int32)), .val .null, .unset] [])) _
  refine own_go (fun _ k => XS.aloadN X7.here hx rfl (hb hby d_jdk_42_m149_17) rfl rfl k) ?_
  show own_Go p e below (T7.setTop (mkF m 18 #[.val (.ref a1), .val (.ref a2), .val (.int (0 : Int32)), .val (.int (0 : Int32)), .val .null, .unset] [(.ref a1)])) _
  obtain ⟨a9, T9, h9, k19, b9, kb9, X9, e9, E9, hS9, hk9, hZ9, hown9, Ea9, Fc9, Fv9, Va9, la9, lb9, A9, Li9, sf9, st9⟩ := ldcCH X7 hx hZ3 hown3 (hw _ (List.mem_of_getElem? (i := 28) rfl)) own_wS e7 hS3 (Nat.le_trans hk3 (Keep.of_wr W7).1) own_hEL (by decide) C8.1 (vs := []) (z := (0 : Int32)) ⟨by decide, by decide⟩ (by decide) (by decide) (g := (mkF m 18 #[.val (.ref a1), .val (.ref a2), .val (.int (0 : Int32)), .val (.int (0 : Int32)), .val .null, .unset] [(.ref a1)])) rfl (hb hby d_jdk_42_m149_18) (n := 0) (by decide) (by decide) (by decide) (by decide)
  refine own_go st9 ?_
  have C10 := C8.trans A9
  have f11 := (A9.safe (Nat.lt_of_lt_of_le E_a.lt (Nat.le_trans E3.1 (Keep.of_wr W7).1)) (Safe.wr W7 sf5 C4.1 sf5))
  show own_Go p e below (T9.setTop (mkF m 20 #[.val (.ref a1), .val (.ref a2), .val (.int (0 : Int32)), .val (.int (0 : Int32)), .val .null, .unset] [(.ref a9), (.ref a1)])) _
  obtain ⟨T12, X12, e12, st12⟩ := getF X9 hx hZ9 hown9 (host := "") (Or.inl (hw _ (List.mem_of_getElem? (i := 35) rfl))) Via.refl e9 Fc9 (g := (mkF m 20 #[.val (.ref a1), .val (.ref a2), .val (.int (0 : Int32)), .val (.int (0 : Int32)), .val .null, .unset] [(.ref a9), (.ref a1)])) rfl rfl (hb hby d_jdk_42_m149_20)
  refine own_go st12 ?_
  show own_Go p e below (T12.setTop (mkF m 23 #[.val (.ref a1), .val (.ref a2), .val (.int (0 : Int32)), .val (.int (0 : Int32)), .val .null, .unset] [(.int (0 : Int32)), (.ref a1)])) _
  have f13 := (((F_c.ext E3).other W7 (Or.inr (slot_ne (Or.inr (hw _ (List.mem_of_getElem? (i := 31) rfl))) (Or.inr (hw _ (List.mem_of_getElem? (i := 30) rfl))) (by decide) (t := .byte) (t' := (.array .byte)) (by decide) (by decide)))).ext E9)
  have f14 := (((E_a.ext E3).wr W7).ext E9)
  obtain ⟨T15, h15, X15, e15, W15, st15⟩ := putFN X12 hx hZ9 hown9 (hw _ (List.mem_of_getElem? (i := 35) rfl)) Via.refl e12 f13 f14 (Or.inr ⟨(hw _ (List.mem_of_getElem? (i := 31) rfl)), rfl, hnm⟩) (hw _ (List.mem_of_getElem? (i := 15) rfl)) (ty := .byte) (v' := (.int (0 : Int32))) (by decide) rfl rfl (g := (mkF m 23 #[.val (.ref a1), .val (.ref a2), .val (.int (0 : Int32)), .val (.int (0 : Int32)), .val .null, .unset] [(.int (0 : Int32)), (.ref a1)])) rfl rfl (hb hby d_jdk_42_m149_23)
  refine own_go st15 ?_
  have N15 := Fr.snoc X15 N7 g_a
  have C16 := C10.trans (CHr.wr W15 f11 C10.1)
  have Fw15 := f13.same W15
  show own_Go p e below (T15.setTop (mkF m 26 #[.val (.ref a1), .val (.ref a2), .val (.int (0 : Int32)), .val (.int (0 : Int32)), .val .null, .unset] [])) _
  have f17 := (((((Keep.refl h0 [a1]).ext E3).wr W7 (Or.inl (List.mem_of_getElem? (i := 0) rfl))).ext E9).wr W15 (Or.inl (List.mem_of_getElem? (i := 0) rfl)))
  have f18 := ((Fw7.ext E9).other W15 (Or.inr (slot_ne (Or.inr (hw _ (List.mem_of_getElem? (i := 30) rfl))) (Or.inr (hw _ (List.mem_of_getElem? (i := 31) rfl))) (by decide) (t := (.array .byte)) (t' := .byte) (by decide) (by decide))))
  have f19 := (((Va3.other W7 (Ne.symm (sf3 _ sf5).2)).ext E9).other W15 (Ne.symm (sf3 _ sf5).2))
  refine own_finW (v := none) X15 hh hZ9 hS9 (by rw [e15]; exact (Nat.le_trans hk9 (Keep.of_wr W15).1)) (fun _ => rfl) hlk (fun fs hr => X15.returnOut hx hrt (hb hby d_jdk_42_m149_26) hr) (QQ := QE0 Z a1 h0 n0) ?_ own_hEL e15 (C16) (by decide) (by decide)
  rw [e15]
  exact ⟨b3, kb3, rfl, N15, f17, f18, Fw15, f19⟩

theorem d_jdk_42_m3_0 : decode jdk_42_method_3_code 0 = .ok (.aload_n 0, 1) := by decide +kernel
theorem d_jdk_42_m3_1 : decode jdk_42_method_3_code 1 = .ok (.aload_n 1, 1) := by decide +kernel
theorem d_jdk_42_m3_2 : decode jdk_42_method_3_code 2 = .ok (.iconst 0, 1) := by decide +kernel
theorem d_jdk_42_m3_3 : decode jdk_42_method_3_code 3 = .ok (.aload_n 1, 1) := by decide +kernel
theorem d_jdk_42_m3_4 : decode jdk_42_method_3_code 4 = .ok (.arraylength, 1) := by decide +kernel
theorem d_jdk_42_m3_5 : decode jdk_42_method_3_code 5 = .ok (.aconst_null, 1) := by decide +kernel
theorem d_jdk_42_m3_6 : decode jdk_42_method_3_code 6 = .ok (.invokespecial 27, 3) := by decide +kernel
theorem pd_0 : parseMethodDescriptor "([CIILjava/lang/Void;)V" = some ⟨[(.array .char), .int, .int, (.object "java/lang/Void")], none⟩ := by decide +kernel
theorem d_jdk_42_m3_9 : decode jdk_42_method_3_code 9 = .ok (.return_, 1) := by decide +kernel
theorem ef_rm_i1e (m : MethodId) (x0 : Addr) (x1 : Addr) : entryFrame m #[(.ref x0), (.ref x1)] 2 = mkF m 0 #[.val (.ref x0), .val (.ref x1)] [] := by
   first | (simp [entryFrame, mkF, argsToLocals, Value.category]; done) | rfl
set_option maxRecDepth 65536 in
set_option maxHeartbeats 40000000 in
theorem rm_i1e (l : Launch) (Z : State) (a0 : Array Value) (hw : ∀ d ∈ tables_1, d.before a0 Z = true) (ws : List Jvm.Cond) (a1 : Addr) (a2 : Addr) (k2 : ClassId) (h0 : Heap) (n0 : Nat) (O0 : Old Z n0 h0) (E_a : Exa Z h0 a1 "java/lang/String") (F_v : Fld Z h0 a1 "java/lang/String" "value" "[B" .null) (F_c : Fld Z h0 a1 "java/lang/String" "coder" "B" (.int (0 : Int32))) (g_a : n0 ≤ a1) (V_a2 : Arv Z h0 a2 k2 .char (0 : Int32) [] (.int (0 : Int32))) :
    MetFree l (⟨"java/lang/String", "<init>", "([C)V"⟩ : MethodName) (head1 (Jvm.Cond.code (⟨"java/lang/String", "<init>", "([C)V"⟩ : MethodName) jdk_42_method_3_code 2 none :: ws) ({ frames := 2, cells := 4, slots := 8, locals := 29 } : Room)) (fun a U => a = #[(.ref a1), (.ref a2)] ∧ Z.Warmed39 U.vm ∧ U.heap = h0 ∧ CHv Z own_EL U.vm h0) (fun _ _ _ _ _ => True) (fun _ U o U' => ∃ v L, o = .returned v ∧ QE0 Z a1 h0 n0 v U'.heap L ∧ CHr Z own_EL U.vm U.heap U'.vm U'.heap ∧ ReturnedEndW U o U' L 4 8) := by
  refine MetFree.of_bodySF (plainFor_of_name pn_1) hisR ?_
  intro p e s m args below meth c s₁ Bd hml0 hP hK
  obtain ⟨rfl, hZ, hh, hC0⟩ := hP
  have hx := Bd.exec
  have hby := Bd.bytes
  have hml : c.maxLocals = 2 := hml0
  have hown : s.vm.findClass "java/lang/String" = some m.cls := findClass_of_methodNamed Bd.named
  have hnm := (name_of_methodNamed Bd.named Bd.method).1
  have hrt := Bd.returns
  have hlk : meth.locks = false := Bd.notSynchronized
  have X0 : Stand p l e ({ frames := 2, cells := 4, slots := 8, locals := 29 } : Room) (s.setVm s.vm) m #[(.ref a1), (.ref a2)] below meth c s₁ [] 0 0 := Stand.of_body Bd
  have e0 : s₁.heap = h0 := by rw [← hh, Bd.state]; rfl
  have N0 := Fr.nil n0
  have Z0 : n0 ≤ h0.size := O0.1 ▸ O0.2.1
  have hS0 : s.Since s.vm 0 := (State.WarmedH.refl s).since 0
  have C0 : CHr Z own_EL s.vm h0 s.vm h0 := CHr.refl hC0
  have own_wS := own_wSt hw
  have own_hEL := own_hELt hw
  show own_Go p e below (s₁.setTop (entryFrame m #[(.ref a1), (.ref a2)] 2)) (fun o U' => ∃ v L, o = .returned v ∧ QE0 Z a1 h0 n0 v U'.heap L ∧ CHr Z own_EL s.vm s.heap U'.vm U'.heap ∧ ReturnedEndW s o U' L 4 8)
  refine own_go (fun _ k => castTop (ef_rm_i1e m a1 a2) k) ?_
  show own_Go p e below (s₁.setTop (mkF m 0 #[.val (.ref a1), .val (.ref a2)] [])) _
  refine own_go (fun _ k => XS.aloadN X0.here hx rfl (hb hby d_jdk_42_m3_0) rfl rfl k) ?_
  show own_Go p e below (s₁.setTop (mkF m 1 #[.val (.ref a1), .val (.ref a2)] [(.ref a1)])) _
  refine own_go (fun _ k => XS.aloadN X0.here hx rfl (hb hby d_jdk_42_m3_1) rfl rfl k) ?_
  show own_Go p e below (s₁.setTop (mkF m 2 #[.val (.ref a1), .val (.ref a2)] [(.ref a2), (.ref a1)])) _
  refine own_go (fun _ k => XS.iconst X0.here hx rfl (hb hby d_jdk_42_m3_2) k) ?_
  show own_Go p e below (s₁.setTop (mkF m 3 #[.val (.ref a1), .val (.ref a2)] [(.int (0 : Int32)), (.ref a2), (.ref a1)])) _
  refine own_go (fun _ k => XS.aloadN X0.here hx rfl (hb hby d_jdk_42_m3_3) rfl rfl k) ?_
  show own_Go p e below (s₁.setTop (mkF m 4 #[.val (.ref a1), .val (.ref a2)] [(.ref a2), (.int (0 : Int32)), (.ref a2), (.ref a1)])) _
  obtain ⟨c20, A20, q20, S20, M20, Hs20, Gs20⟩ := id V_a2
  refine own_go (fun _ k => X0.arraylength hx (by rw [e0]; exact A20.1) (State.isArrayOf_alike hZ.alike A20.2.1) (g := (mkF m 4 #[.val (.ref a1), .val (.ref a2)] [(.ref a2), (.int (0 : Int32)), (.ref a2), (.ref a1)])) rfl rfl (hb hby d_jdk_42_m3_4) _ k) ?_
  rw [len_of S20 M20]
  show own_Go p e below (s₁.setTop (mkF m 5 #[.val (.ref a1), .val (.ref a2)] [(.int (0 : Int32)), (.int (0 : Int32)), (.ref a2), (.ref a1)])) _
  refine own_go (fun _ k => XS.aconstNull X0.here hx rfl (hb hby d_jdk_42_m3_5) k) ?_
  show own_Go p e below (s₁.setTop (mkF m 6 #[.val (.ref a1), .val (.ref a2)] [.null, (.int (0 : Int32)), (.int (0 : Int32)), (.ref a2), (.ref a1)])) _
  obtain ⟨v21, _, ⟨T21, L21, k21, n21⟩, -, X21, hS21, hg21, ⟨Lc21, hQ21, l21, y21, z21, A21⟩, st21⟩ := X0.specialBackS hx (y := (⟨"java/lang/String", "<init>", "([CIILjava/lang/Void;)V"⟩ : MethodName)) rfl hown (mvT hZ (hw _ (List.mem_of_getElem? (i := 21) rfl))) (mvT hZ (hw _ (List.mem_of_getElem? (i := 22) rfl))) (mvT hZ (hw _ (List.mem_of_getElem? (i := 24) rfl))) (by decide) (backOfSH (W := 0) (rm_i4e l Z a0 hw [] a1 a2 h0 n0 O0 E_a F_v F_c g_a) hZ (hw _ (List.mem_of_getElem? (i := 24) rfl)) (hw _ (List.mem_of_getElem? (i := 16) rfl)) (by decide) (by decide) own_hEL C0.1) (g := (mkF m 6 #[.val (.ref a1), .val (.ref a2)] [.null, (.int (0 : Int32)), (.int (0 : Int32)), (.ref a2), (.ref a1)])) rfl (by rw [hml]; rfl) (Steps.refl _) (a := a1) (argsL := [(.ref a2), (.int (0 : Int32)), (.int (0 : Int32)), .null]) (rest := []) (lenOf pd_0 rfl) rfl (by show 2 * 0 + _ ≤ _; exact Nat.le_of_eq rfl) (hb hby d_jdk_42_m3_6) (fun _ _ => ⟨rfl, e0, (by decide : 0 + 4 ≤ _), (by decide : 0 + 8 ≤ _)⟩)
  dsimp only [Pt.U, Pt.locs, Pt.cells, Pt.slots] at X21 l21 y21 z21 st21 hQ21 hS21 hg21 A21
  subst l21 y21 z21
  refine own_gos st21 ?_
  obtain ⟨X21, hS21, hZ21, hown21⟩ := rebS hS0 (k0 := _) (n1 := s₁.heap.size) (by rw [e0]; exact (Nat.zero_le _)) X21 hS21 hg21 hZ hown
  obtain ⟨t21, kt21, rfl, Nq21, K21, Fv21, Fc21, Vt21⟩ := hQ21
  have C22 := C0.trans A21
  have N21 := Fr.app N0 Nq21
  show own_Go p e below (T21.setTop (mkF m 9 #[.val (.ref a1), .val (.ref a2)] [])) _
  have f23 := ((Keep.refl h0 [a1]).trans K21 (allS (Or.inl (List.mem_of_getElem? (i := 0) rfl)) all0))
  refine own_finW (v := none) X21 hh hZ21 hS21 (by rw [(rfl : T21.heap = T21.heap)]; exact (Nat.le_refl _)) (fun _ => rfl) hlk (fun fs hr => X21.returnOut hx hrt (hb hby d_jdk_42_m3_9) hr) (QQ := QE0 Z a1 h0 n0) ?_ own_hEL (rfl : T21.heap = T21.heap) (C22) (by decide) (by decide)
  exact ⟨t21, kt21, rfl, N21, f23, Fv21, Fc21, Vt21⟩

theorem own_wStr {Z : State} {a0 : Array Value} (hw : ∀ d ∈ tables_1, d.before a0 Z = true) : ∀ d ∈ StrChars.Road.words, d.before a0 Z = true := fun d hd => hw d ((by decide +kernel : ∀ d ∈ StrChars.Road.words, d ∈ tables_1) d hd)
theorem d_m2_0 : decode method_2_code 0 = .ok (.iload_n 0, 1) := by decide +kernel
theorem d_m2_1 : decode method_2_code 1 = .ok (.ifCond .ne 7, 3) := by decide +kernel
theorem d_m2_4 : decode method_2_code 4 = .ok (.getstatic 7, 3) := by decide +kernel
theorem d_m2_7 : decode method_2_code 7 = .ok (.areturn, 1) := by decide +kernel
theorem d_m2_8 : decode method_2_code 8 = .ok (.iload_n 0, 1) := by decide +kernel
theorem d_m2_9 : decode method_2_code 9 = .ok (.iconst 1, 1) := by decide +kernel
theorem d_m2_10 : decode method_2_code 10 = .ok (.if_icmp .ne 7, 3) := by decide +kernel
theorem d_m2_13 : decode method_2_code 13 = .ok (.getstatic 13, 3) := by decide +kernel
theorem d_m2_16 : decode method_2_code 16 = .ok (.areturn, 1) := by decide +kernel
theorem d_m2_17 : decode method_2_code 17 = .ok (.iload_n 0, 1) := by decide +kernel
theorem d_m2_18 : decode method_2_code 18 = .ok (.iconst 2, 1) := by decide +kernel
theorem d_m2_19 : decode method_2_code 19 = .ok (.if_icmp .ne 7, 3) := by decide +kernel
theorem d_m2_22 : decode method_2_code 22 = .ok (.getstatic 16, 3) := by decide +kernel
theorem d_m2_25 : decode method_2_code 25 = .ok (.areturn, 1) := by decide +kernel
theorem d_m2_26 : decode method_2_code 26 = .ok (.iload_n 0, 1) := by decide +kernel
theorem d_m2_27 : decode method_2_code 27 = .ok (.iconst 3, 1) := by decide +kernel
theorem d_m2_28 : decode method_2_code 28 = .ok (.if_icmp .ne 7, 3) := by decide +kernel
theorem d_m2_31 : decode method_2_code 31 = .ok (.getstatic 19, 3) := by decide +kernel
theorem d_m2_34 : decode method_2_code 34 = .ok (.areturn, 1) := by decide +kernel
theorem d_m2_35 : decode method_2_code 35 = .ok (.iload_n 0, 1) := by decide +kernel
theorem d_m2_36 : decode method_2_code 36 = .ok (.iconst 4, 1) := by decide +kernel
theorem d_m2_37 : decode method_2_code 37 = .ok (.if_icmp .ne 7, 3) := by decide +kernel
theorem d_m2_40 : decode method_2_code 40 = .ok (.getstatic 22, 3) := by decide +kernel
theorem d_m2_43 : decode method_2_code 43 = .ok (.areturn, 1) := by decide +kernel
theorem d_m2_44 : decode method_2_code 44 = .ok (.iload_n 0, 1) := by decide +kernel
theorem d_m2_45 : decode method_2_code 45 = .ok (.iconst 5, 1) := by decide +kernel
theorem d_m2_46 : decode method_2_code 46 = .ok (.if_icmp .ne 7, 3) := by decide +kernel
theorem d_m2_49 : decode method_2_code 49 = .ok (.getstatic 25, 3) := by decide +kernel
theorem d_m2_52 : decode method_2_code 52 = .ok (.areturn, 1) := by decide +kernel
theorem d_m2_53 : decode method_2_code 53 = .ok (.aconst_null, 1) := by decide +kernel
theorem d_m2_54 : decode method_2_code 54 = .ok (.areturn, 1) := by decide +kernel
theorem pn_2 : plainName "com/example/sequela/sequela/TokenIsPinLaw" = true := by first | (simp [plainName, overriddenIn]; done) | decide +kernel
theorem ef_rm_kind (m : MethodId) (x0 : Int32) : entryFrame m #[(.int x0)] 1 = mkF m 0 #[.val (.int x0)] [] := by
   first | (simp [entryFrame, mkF, argsToLocals, Value.category]; done) | rfl
set_option maxRecDepth 65536 in
set_option maxHeartbeats 40000000 in
theorem rm_kind (l : Launch) (Z : State) (a0 : Array Value) (hw : ∀ d ∈ tables_1, d.before a0 Z = true) (ws : List Jvm.Cond) (p1 : Int32) (z0 : Addr) (z1 : Addr) (z2 : Addr) (z3 : Addr) (z4 : Addr) (z5 : Addr) (h0 : Heap) (n0 : Nat) (O0 : Old Z n0 h0) (S0 : Sta Z Z.heap "com/example/sequela/sequela/Lexer$Kind" "NAME" "Lcom/example/sequela/sequela/Lexer$Kind;" (.ref z0)) (S1 : Sta Z Z.heap "com/example/sequela/sequela/Lexer$Kind" "KEYWORD" "Lcom/example/sequela/sequela/Lexer$Kind;" (.ref z1)) (S2 : Sta Z Z.heap "com/example/sequela/sequela/Lexer$Kind" "NUMBER" "Lcom/example/sequela/sequela/Lexer$Kind;" (.ref z2)) (S3 : Sta Z Z.heap "com/example/sequela/sequela/Lexer$Kind" "STRING" "Lcom/example/sequela/sequela/Lexer$Kind;" (.ref z3)) (S4 : Sta Z Z.heap "com/example/sequela/sequela/Lexer$Kind" "SYMBOL" "Lcom/example/sequela/sequela/Lexer$Kind;" (.ref z4)) (S5 : Sta Z Z.heap "com/example/sequela/sequela/Lexer$Kind" "END" "Lcom/example/sequela/sequela/Lexer$Kind;" (.ref z5)) :
    MetFree l (⟨"com/example/sequela/sequela/TokenIsPinLaw", "kind", "(I)Lcom/example/sequela/sequela/Lexer$Kind;"⟩ : MethodName) (head1 (Jvm.Cond.code (⟨"com/example/sequela/sequela/TokenIsPinLaw", "kind", "(I)Lcom/example/sequela/sequela/Lexer$Kind;"⟩ : MethodName) method_2_code 1 (some (.object "com/example/sequela/sequela/Lexer$Kind")) :: ws) ({ frames := 0, cells := 0, slots := 0, locals := 0 } : Room)) (fun a U => a = #[(.int p1)] ∧ Z.Warmed39 U.vm ∧ U.heap = h0) (fun _ _ _ _ _ => True) (fun _ U o U' => ∃ v L, o = .returned v ∧ QPure (some (own_kind p1 z0 z1 z2 z3 z4 z5)) h0 n0 v U'.heap L ∧ FrameEnd U o U' L 0 0) := by
  refine MetFree.of_bodySF (plainFor_of_name pn_2) hisR ?_
  intro p e s m args below meth c s₁ Bd hml0 hP hK
  obtain ⟨rfl, hZ, hh⟩ := hP
  have hx := Bd.exec
  have hby := Bd.bytes
  have hml : c.maxLocals = 1 := hml0
  have hown : s.vm.findClass "com/example/sequela/sequela/TokenIsPinLaw" = some m.cls := findClass_of_methodNamed Bd.named
  have hnm := (name_of_methodNamed Bd.named Bd.method).1
  have hrt := Bd.returns
  have hlk : meth.locks = false := Bd.notSynchronized
  have X0 : Stand p l e ({ frames := 0, cells := 0, slots := 0, locals := 0 } : Room) s m #[(.int p1)] below meth c s₁ [] 0 0 := Stand.of_body Bd
  have e0 : s₁.heap = h0 := by rw [← hh, Bd.state]; rfl
  have N0 := Fr.nil n0
  have Z0 : n0 ≤ h0.size := O0.1 ▸ O0.2.1
  show own_Go p e below (s₁.setTop (entryFrame m #[(.int p1)] 1)) (fun o U' => ∃ v L, o = .returned v ∧ QPure (some (own_kind p1 z0 z1 z2 z3 z4 z5)) h0 n0 v U'.heap L ∧ FrameEnd s o U' L 0 0)
  refine own_go (fun _ k => castTop (ef_rm_kind m p1) k) ?_
  show own_Go p e below (s₁.setTop (mkF m 0 #[.val (.int p1)] [])) _
  refine own_go (fun _ k => XS.iloadN X0.here hx rfl (hb hby d_m2_0) rfl k) ?_
  show own_Go p e below (s₁.setTop (mkF m 1 #[.val (.int p1)] [(.int p1)])) _
  by_cases hc24 : p1 = (0 : Int32)
  · skip
    refine own_go (fun _ k => XS.ifNo X0.here hx rfl (hb hby d_m2_1) rfl ((if0 _ _).trans (teq hc24).2) k) ?_
    show own_Go p e below (s₁.setTop (mkF m 4 #[.val (.int p1)] [])) _
    obtain ⟨T25, X25, e25, st25⟩ := getS2 X0 hx hZ hown (host := "") (Or.inl (hw _ (List.mem_of_getElem? (i := 8) rfl))) Via.refl e0 (S0.ext O0.2) (g := (mkF m 4 #[.val (.int p1)] [])) rfl (hb hby d_m2_4)
    refine own_go st25 ?_
    show own_Go p e below (T25.setTop (mkF m 7 #[.val (.int p1)] [(.ref z0)])) _
    refine own_fin (v := (some (.ref z0))) X25 (fun h => by rw [hrt] at h; cases h) hlk (fun fs hr => retR X25 hx hrt (by rfl) rfl rfl (hb hby d_m2_7) hr) (QQ := QPure (some (own_kind p1 z0 z1 z2 z3 z4 z5)) h0 n0) ?_ (by decide) (by decide)
    rw [e25]
    exact ⟨by unfold own_kind; rw [if_pos hc24], N0, rfl⟩
  · skip
    refine own_go (fun _ k => XS.ifYes X0.here hx rfl (pc0 := 1) (pc' := 8) rfl (hb hby d_m2_1) rfl ((if0 _ _).trans (feq hc24).2) (by decide) (by decide) k) ?_
    show own_Go p e below (s₁.setTop (mkF m 8 #[.val (.int p1)] [])) _
    refine own_go (fun _ k => XS.iloadN X0.here hx rfl (hb hby d_m2_8) rfl k) ?_
    show own_Go p e below (s₁.setTop (mkF m 9 #[.val (.int p1)] [(.int p1)])) _
    refine own_go (fun _ k => XS.iconst X0.here hx rfl (hb hby d_m2_9) k) ?_
    show own_Go p e below (s₁.setTop (mkF m 10 #[.val (.int p1)] [(.int (1 : Int32)), (.int p1)])) _
    by_cases hc26 : p1 = (1 : Int32)
    · skip
      refine own_go (fun _ k => XS.icmpNo X0.here hx rfl (hb hby d_m2_10) rfl (teq hc26).2 k) ?_
      show own_Go p e below (s₁.setTop (mkF m 13 #[.val (.int p1)] [])) _
      obtain ⟨T27, X27, e27, st27⟩ := getS2 X0 hx hZ hown (host := "") (Or.inl (hw _ (List.mem_of_getElem? (i := 86) rfl))) Via.refl e0 (S1.ext O0.2) (g := (mkF m 13 #[.val (.int p1)] [])) rfl (hb hby d_m2_13)
      refine own_go st27 ?_
      show own_Go p e below (T27.setTop (mkF m 16 #[.val (.int p1)] [(.ref z1)])) _
      refine own_fin (v := (some (.ref z1))) X27 (fun h => by rw [hrt] at h; cases h) hlk (fun fs hr => retR X27 hx hrt (by rfl) rfl rfl (hb hby d_m2_16) hr) (QQ := QPure (some (own_kind p1 z0 z1 z2 z3 z4 z5)) h0 n0) ?_ (by decide) (by decide)
      rw [e27]
      exact ⟨by unfold own_kind; rw [if_neg hc24, if_pos hc26], N0, rfl⟩
    · skip
      refine own_go (fun _ k => XS.icmpYes X0.here hx rfl (pc0 := 10) (pc' := 17) rfl (hb hby d_m2_10) rfl (feq hc26).2 (by decide) (by decide) k) ?_
      show own_Go p e below (s₁.setTop (mkF m 17 #[.val (.int p1)] [])) _
      refine own_go (fun _ k => XS.iloadN X0.here hx rfl (hb hby d_m2_17) rfl k) ?_
      show own_Go p e below (s₁.setTop (mkF m 18 #[.val (.int p1)] [(.int p1)])) _
      refine own_go (fun _ k => XS.iconst X0.here hx rfl (hb hby d_m2_18) k) ?_
      show own_Go p e below (s₁.setTop (mkF m 19 #[.val (.int p1)] [(.int (2 : Int32)), (.int p1)])) _
      by_cases hc28 : p1 = (2 : Int32)
      · skip
        refine own_go (fun _ k => XS.icmpNo X0.here hx rfl (hb hby d_m2_19) rfl (teq hc28).2 k) ?_
        show own_Go p e below (s₁.setTop (mkF m 22 #[.val (.int p1)] [])) _
        obtain ⟨T29, X29, e29, st29⟩ := getS2 X0 hx hZ hown (host := "") (Or.inl (hw _ (List.mem_of_getElem? (i := 51) rfl))) Via.refl e0 (S2.ext O0.2) (g := (mkF m 22 #[.val (.int p1)] [])) rfl (hb hby d_m2_22)
        refine own_go st29 ?_
        show own_Go p e below (T29.setTop (mkF m 25 #[.val (.int p1)] [(.ref z2)])) _
        refine own_fin (v := (some (.ref z2))) X29 (fun h => by rw [hrt] at h; cases h) hlk (fun fs hr => retR X29 hx hrt (by rfl) rfl rfl (hb hby d_m2_25) hr) (QQ := QPure (some (own_kind p1 z0 z1 z2 z3 z4 z5)) h0 n0) ?_ (by decide) (by decide)
        rw [e29]
        exact ⟨by unfold own_kind; rw [if_neg hc24, if_neg hc26, if_pos hc28], N0, rfl⟩
      · skip
        refine own_go (fun _ k => XS.icmpYes X0.here hx rfl (pc0 := 19) (pc' := 26) rfl (hb hby d_m2_19) rfl (feq hc28).2 (by decide) (by decide) k) ?_
        show own_Go p e below (s₁.setTop (mkF m 26 #[.val (.int p1)] [])) _
        refine own_go (fun _ k => XS.iloadN X0.here hx rfl (hb hby d_m2_26) rfl k) ?_
        show own_Go p e below (s₁.setTop (mkF m 27 #[.val (.int p1)] [(.int p1)])) _
        refine own_go (fun _ k => XS.iconst X0.here hx rfl (hb hby d_m2_27) k) ?_
        show own_Go p e below (s₁.setTop (mkF m 28 #[.val (.int p1)] [(.int (3 : Int32)), (.int p1)])) _
        by_cases hc30 : p1 = (3 : Int32)
        · skip
          refine own_go (fun _ k => XS.icmpNo X0.here hx rfl (hb hby d_m2_28) rfl (teq hc30).2 k) ?_
          show own_Go p e below (s₁.setTop (mkF m 31 #[.val (.int p1)] [])) _
          obtain ⟨T31, X31, e31, st31⟩ := getS2 X0 hx hZ hown (host := "") (Or.inl (hw _ (List.mem_of_getElem? (i := 58) rfl))) Via.refl e0 (S3.ext O0.2) (g := (mkF m 31 #[.val (.int p1)] [])) rfl (hb hby d_m2_31)
          refine own_go st31 ?_
          show own_Go p e below (T31.setTop (mkF m 34 #[.val (.int p1)] [(.ref z3)])) _
          refine own_fin (v := (some (.ref z3))) X31 (fun h => by rw [hrt] at h; cases h) hlk (fun fs hr => retR X31 hx hrt (by rfl) rfl rfl (hb hby d_m2_34) hr) (QQ := QPure (some (own_kind p1 z0 z1 z2 z3 z4 z5)) h0 n0) ?_ (by decide) (by decide)
          rw [e31]
          exact ⟨by unfold own_kind; rw [if_neg hc24, if_neg hc26, if_neg hc28, if_pos hc30], N0, rfl⟩
        · skip
          refine own_go (fun _ k => XS.icmpYes X0.here hx rfl (pc0 := 28) (pc' := 35) rfl (hb hby d_m2_28) rfl (feq hc30).2 (by decide) (by decide) k) ?_
          show own_Go p e below (s₁.setTop (mkF m 35 #[.val (.int p1)] [])) _
          refine own_go (fun _ k => XS.iloadN X0.here hx rfl (hb hby d_m2_35) rfl k) ?_
          show own_Go p e below (s₁.setTop (mkF m 36 #[.val (.int p1)] [(.int p1)])) _
          refine own_go (fun _ k => XS.iconst X0.here hx rfl (hb hby d_m2_36) k) ?_
          show own_Go p e below (s₁.setTop (mkF m 37 #[.val (.int p1)] [(.int (4 : Int32)), (.int p1)])) _
          by_cases hc32 : p1 = (4 : Int32)
          · skip
            refine own_go (fun _ k => XS.icmpNo X0.here hx rfl (hb hby d_m2_37) rfl (teq hc32).2 k) ?_
            show own_Go p e below (s₁.setTop (mkF m 40 #[.val (.int p1)] [])) _
            obtain ⟨T33, X33, e33, st33⟩ := getS2 X0 hx hZ hown (host := "") (Or.inl (hw _ (List.mem_of_getElem? (i := 71) rfl))) Via.refl e0 (S4.ext O0.2) (g := (mkF m 40 #[.val (.int p1)] [])) rfl (hb hby d_m2_40)
            refine own_go st33 ?_
            show own_Go p e below (T33.setTop (mkF m 43 #[.val (.int p1)] [(.ref z4)])) _
            refine own_fin (v := (some (.ref z4))) X33 (fun h => by rw [hrt] at h; cases h) hlk (fun fs hr => retR X33 hx hrt (by rfl) rfl rfl (hb hby d_m2_43) hr) (QQ := QPure (some (own_kind p1 z0 z1 z2 z3 z4 z5)) h0 n0) ?_ (by decide) (by decide)
            rw [e33]
            exact ⟨by unfold own_kind; rw [if_neg hc24, if_neg hc26, if_neg hc28, if_neg hc30, if_pos hc32], N0, rfl⟩
          · skip
            refine own_go (fun _ k => XS.icmpYes X0.here hx rfl (pc0 := 37) (pc' := 44) rfl (hb hby d_m2_37) rfl (feq hc32).2 (by decide) (by decide) k) ?_
            show own_Go p e below (s₁.setTop (mkF m 44 #[.val (.int p1)] [])) _
            refine own_go (fun _ k => XS.iloadN X0.here hx rfl (hb hby d_m2_44) rfl k) ?_
            show own_Go p e below (s₁.setTop (mkF m 45 #[.val (.int p1)] [(.int p1)])) _
            refine own_go (fun _ k => XS.iconst X0.here hx rfl (hb hby d_m2_45) k) ?_
            show own_Go p e below (s₁.setTop (mkF m 46 #[.val (.int p1)] [(.int (5 : Int32)), (.int p1)])) _
            by_cases hc34 : p1 = (5 : Int32)
            · skip
              refine own_go (fun _ k => XS.icmpNo X0.here hx rfl (hb hby d_m2_46) rfl (teq hc34).2 k) ?_
              show own_Go p e below (s₁.setTop (mkF m 49 #[.val (.int p1)] [])) _
              obtain ⟨T35, X35, e35, st35⟩ := getS2 X0 hx hZ hown (host := "") (Or.inl (hw _ (List.mem_of_getElem? (i := 83) rfl))) Via.refl e0 (S5.ext O0.2) (g := (mkF m 49 #[.val (.int p1)] [])) rfl (hb hby d_m2_49)
              refine own_go st35 ?_
              show own_Go p e below (T35.setTop (mkF m 52 #[.val (.int p1)] [(.ref z5)])) _
              refine own_fin (v := (some (.ref z5))) X35 (fun h => by rw [hrt] at h; cases h) hlk (fun fs hr => retR X35 hx hrt (by rfl) rfl rfl (hb hby d_m2_52) hr) (QQ := QPure (some (own_kind p1 z0 z1 z2 z3 z4 z5)) h0 n0) ?_ (by decide) (by decide)
              rw [e35]
              exact ⟨by unfold own_kind; rw [if_neg hc24, if_neg hc26, if_neg hc28, if_neg hc30, if_neg hc32, if_pos hc34], N0, rfl⟩
            · skip
              refine own_go (fun _ k => XS.icmpYes X0.here hx rfl (pc0 := 46) (pc' := 53) rfl (hb hby d_m2_46) rfl (feq hc34).2 (by decide) (by decide) k) ?_
              show own_Go p e below (s₁.setTop (mkF m 53 #[.val (.int p1)] [])) _
              refine own_go (fun _ k => XS.aconstNull X0.here hx rfl (hb hby d_m2_53) k) ?_
              show own_Go p e below (s₁.setTop (mkF m 54 #[.val (.int p1)] [.null])) _
              refine own_fin (v := (some .null)) X0 (fun h => by rw [hrt] at h; cases h) hlk (fun fs hr => retR X0 hx hrt (by rfl) rfl rfl (hb hby d_m2_54) hr) (QQ := QPure (some (own_kind p1 z0 z1 z2 z3 z4 z5)) h0 n0) ?_ (by decide) (by decide)
              rw [e0]
              exact ⟨by unfold own_kind; rw [if_neg hc24, if_neg hc26, if_neg hc28, if_neg hc30, if_neg hc32, if_neg hc34], N0, rfl⟩

def QT (Z : State) (cs : List Int32) (h0 : Heap) (n0 : Nat) (v : Option Value) (h : Heap) (L : List Loc) : Prop := ∃ (x t : Addr) (k : ClassId) (N2 : Int32) (vs : List Value), v = some (.ref x) ∧ Fr n0 L ∧ Keep h0 h [] ∧ h0.size ≤ x ∧ Exa Z h x "java/lang/String" ∧ Fld Z h x "java/lang/String" "value" "[B" (.ref t) ∧ Fld Z h x "java/lang/String" "coder" "B" (.int (0 : Int32)) ∧ Arv Z h t k .byte N2 vs (.int (0 : Int32)) ∧ StrChars.Road.CodA cs 0 N2 vs
theorem d_m3_0 : decode method_3_code 0 = .ok (.iload_n 1, 1) := by decide +kernel
theorem d_m3_1 : decode method_3_code 1 = .ok (.sipush 255, 3) := by decide +kernel
theorem d_m3_4 : decode method_3_code 4 = .ok (.iand, 1) := by decide +kernel
theorem d_m3_5 : decode method_3_code 5 = .ok (.i2c, 1) := by decide +kernel
theorem d_m3_6 : decode method_3_code 6 = .ok (.istore_n 2, 1) := by decide +kernel
theorem d_m3_7 : decode method_3_code 7 = .ok (.iload_n 1, 1) := by decide +kernel
theorem d_m3_8 : decode method_3_code 8 = .ok (.bipush 8, 2) := by decide +kernel
theorem d_m3_10 : decode method_3_code 10 = .ok (.iushr, 1) := by decide +kernel
theorem d_m3_11 : decode method_3_code 11 = .ok (.sipush 255, 3) := by decide +kernel
theorem d_m3_14 : decode method_3_code 14 = .ok (.iand, 1) := by decide +kernel
theorem d_m3_15 : decode method_3_code 15 = .ok (.i2c, 1) := by decide +kernel
theorem d_m3_16 : decode method_3_code 16 = .ok (.istore_n 3, 1) := by decide +kernel
theorem d_m3_17 : decode method_3_code 17 = .ok (.iload_n 1, 1) := by decide +kernel
theorem d_m3_18 : decode method_3_code 18 = .ok (.bipush 16, 2) := by decide +kernel
theorem d_m3_20 : decode method_3_code 20 = .ok (.iushr, 1) := by decide +kernel
theorem d_m3_21 : decode method_3_code 21 = .ok (.sipush 255, 3) := by decide +kernel
theorem d_m3_24 : decode method_3_code 24 = .ok (.iand, 1) := by decide +kernel
theorem d_m3_25 : decode method_3_code 25 = .ok (.i2c, 1) := by decide +kernel
theorem d_m3_26 : decode method_3_code 26 = .ok (.istore 4, 2) := by decide +kernel
theorem d_m3_28 : decode method_3_code 28 = .ok (.iload_n 0, 1) := by decide +kernel
theorem d_m3_29 : decode method_3_code 29 = .ok (.ifCond .ne 14, 3) := by decide +kernel
theorem d_m3_32 : decode method_3_code 32 = .ok (.new 28, 3) := by decide +kernel
theorem d_m3_35 : decode method_3_code 35 = .ok (.dup, 1) := by decide +kernel
theorem d_m3_36 : decode method_3_code 36 = .ok (.iconst 0, 1) := by decide +kernel
theorem d_m3_37 : decode method_3_code 37 = .ok (.newarray .char, 2) := by decide +kernel
theorem d_m3_39 : decode method_3_code 39 = .ok (.invokespecial 30, 3) := by decide +kernel
theorem pd_1 : parseMethodDescriptor "([C)V" = some ⟨[(.array .char)], none⟩ := by decide +kernel
theorem d_m3_42 : decode method_3_code 42 = .ok (.areturn, 1) := by decide +kernel
theorem d_m3_43 : decode method_3_code 43 = .ok (.iload_n 0, 1) := by decide +kernel
theorem d_m3_44 : decode method_3_code 44 = .ok (.iconst 1, 1) := by decide +kernel
theorem d_m3_45 : decode method_3_code 45 = .ok (.if_icmp .ne 18, 3) := by decide +kernel
theorem d_m3_48 : decode method_3_code 48 = .ok (.new 28, 3) := by decide +kernel
theorem d_m3_51 : decode method_3_code 51 = .ok (.dup, 1) := by decide +kernel
theorem d_m3_52 : decode method_3_code 52 = .ok (.iconst 1, 1) := by decide +kernel
theorem d_m3_53 : decode method_3_code 53 = .ok (.newarray .char, 2) := by decide +kernel
theorem d_m3_55 : decode method_3_code 55 = .ok (.dup, 1) := by decide +kernel
theorem d_m3_56 : decode method_3_code 56 = .ok (.iconst 0, 1) := by decide +kernel
theorem d_m3_57 : decode method_3_code 57 = .ok (.iload_n 2, 1) := by decide +kernel
theorem d_m3_58 : decode method_3_code 58 = .ok (.castore, 1) := by decide +kernel
theorem d_m3_59 : decode method_3_code 59 = .ok (.invokespecial 30, 3) := by decide +kernel
theorem d_m3_62 : decode method_3_code 62 = .ok (.areturn, 1) := by decide +kernel
theorem d_m3_63 : decode method_3_code 63 = .ok (.iload_n 0, 1) := by decide +kernel
theorem d_m3_64 : decode method_3_code 64 = .ok (.iconst 2, 1) := by decide +kernel
theorem d_m3_65 : decode method_3_code 65 = .ok (.if_icmp .ne 22, 3) := by decide +kernel
theorem d_m3_68 : decode method_3_code 68 = .ok (.new 28, 3) := by decide +kernel
theorem d_m3_71 : decode method_3_code 71 = .ok (.dup, 1) := by decide +kernel
theorem d_m3_72 : decode method_3_code 72 = .ok (.iconst 2, 1) := by decide +kernel
theorem d_m3_73 : decode method_3_code 73 = .ok (.newarray .char, 2) := by decide +kernel
theorem d_m3_75 : decode method_3_code 75 = .ok (.dup, 1) := by decide +kernel
theorem d_m3_76 : decode method_3_code 76 = .ok (.iconst 0, 1) := by decide +kernel
theorem d_m3_77 : decode method_3_code 77 = .ok (.iload_n 2, 1) := by decide +kernel
theorem d_m3_78 : decode method_3_code 78 = .ok (.castore, 1) := by decide +kernel
theorem d_m3_79 : decode method_3_code 79 = .ok (.dup, 1) := by decide +kernel
theorem d_m3_80 : decode method_3_code 80 = .ok (.iconst 1, 1) := by decide +kernel
theorem d_m3_81 : decode method_3_code 81 = .ok (.iload_n 3, 1) := by decide +kernel
theorem d_m3_82 : decode method_3_code 82 = .ok (.castore, 1) := by decide +kernel
theorem d_m3_83 : decode method_3_code 83 = .ok (.invokespecial 30, 3) := by decide +kernel
theorem d_m3_86 : decode method_3_code 86 = .ok (.areturn, 1) := by decide +kernel
theorem d_m3_87 : decode method_3_code 87 = .ok (.new 28, 3) := by decide +kernel
theorem d_m3_90 : decode method_3_code 90 = .ok (.dup, 1) := by decide +kernel
theorem d_m3_91 : decode method_3_code 91 = .ok (.iconst 3, 1) := by decide +kernel
theorem d_m3_92 : decode method_3_code 92 = .ok (.newarray .char, 2) := by decide +kernel
theorem d_m3_94 : decode method_3_code 94 = .ok (.dup, 1) := by decide +kernel
theorem d_m3_95 : decode method_3_code 95 = .ok (.iconst 0, 1) := by decide +kernel
theorem d_m3_96 : decode method_3_code 96 = .ok (.iload_n 2, 1) := by decide +kernel
theorem d_m3_97 : decode method_3_code 97 = .ok (.castore, 1) := by decide +kernel
theorem d_m3_98 : decode method_3_code 98 = .ok (.dup, 1) := by decide +kernel
theorem d_m3_99 : decode method_3_code 99 = .ok (.iconst 1, 1) := by decide +kernel
theorem d_m3_100 : decode method_3_code 100 = .ok (.iload_n 3, 1) := by decide +kernel
theorem d_m3_101 : decode method_3_code 101 = .ok (.castore, 1) := by decide +kernel
theorem d_m3_102 : decode method_3_code 102 = .ok (.dup, 1) := by decide +kernel
theorem d_m3_103 : decode method_3_code 103 = .ok (.iconst 2, 1) := by decide +kernel
theorem d_m3_104 : decode method_3_code 104 = .ok (.iload 4, 2) := by decide +kernel
theorem d_m3_106 : decode method_3_code 106 = .ok (.castore, 1) := by decide +kernel
theorem d_m3_107 : decode method_3_code 107 = .ok (.invokespecial 30, 3) := by decide +kernel
theorem d_m3_110 : decode method_3_code 110 = .ok (.areturn, 1) := by decide +kernel
theorem ef_rm_text (m : MethodId) (x0 : Int32) (x1 : Int32) : entryFrame m #[(.int x0), (.int x1)] 5 = mkF m 0 #[.val (.int x0), .val (.int x1), .unset, .unset, .unset] [] := by
   first | (simp [entryFrame, mkF, argsToLocals, Value.category]; done) | rfl
set_option maxRecDepth 65536 in
set_option maxHeartbeats 40000000 in
theorem rm_text (l : Launch) (Z : State) (a0 : Array Value) (hw : ∀ d ∈ tables_1, d.before a0 Z = true) (ws : List Jvm.Cond) (p1 : Int32) (p2 : Int32) (G1 : Int32) (h0 : Heap) (n0 : Nat) (O0 : Old Z n0 h0) (O2 : Sta Z Z.heap "java/lang/String" "COMPACT_STRINGS" "Z" (.int G1)) (P5 : ¬ (G1 = (0 : Int32))) :
    MetFree l (⟨"com/example/sequela/sequela/TokenIsPinLaw", "text", "(II)Ljava/lang/String;"⟩ : MethodName) (head1 (Jvm.Cond.code (⟨"com/example/sequela/sequela/TokenIsPinLaw", "text", "(II)Ljava/lang/String;"⟩ : MethodName) method_3_code 5 (some (.object "java/lang/String")) :: ws) ({ frames := 4, cells := 6, slots := 12, locals := 66 } : Room)) (fun a U => a = #[(.int p1), (.int p2)] ∧ Z.Warmed39 U.vm ∧ U.heap = h0 ∧ CHv Z own_EL U.vm h0) (fun _ _ _ _ _ => True) (fun _ U o U' => ∃ v L, o = .returned v ∧ QT Z (own_text p1 p2) h0 n0 v U'.heap L ∧ CHr Z own_EL U.vm U.heap U'.vm U'.heap ∧ ReturnedEndW U o U' L 6 12) := by
  refine MetFree.of_bodySF (plainFor_of_name pn_2) hisR ?_
  intro p e s m args below meth c s₁ Bd hml0 hP hK
  obtain ⟨rfl, hZ, hh, hC0⟩ := hP
  have hx := Bd.exec
  have hby := Bd.bytes
  have hml : c.maxLocals = 5 := hml0
  have hown : s.vm.findClass "com/example/sequela/sequela/TokenIsPinLaw" = some m.cls := findClass_of_methodNamed Bd.named
  have hnm := (name_of_methodNamed Bd.named Bd.method).1
  have hrt := Bd.returns
  have hlk : meth.locks = false := Bd.notSynchronized
  have X0 : Stand p l e ({ frames := 4, cells := 6, slots := 12, locals := 66 } : Room) (s.setVm s.vm) m #[(.int p1), (.int p2)] below meth c s₁ [] 0 0 := Stand.of_body Bd
  have e0 : s₁.heap = h0 := by rw [← hh, Bd.state]; rfl
  have N0 := Fr.nil n0
  have Z0 : n0 ≤ h0.size := O0.1 ▸ O0.2.1
  have hS0 : s.Since s.vm 0 := (State.WarmedH.refl s).since 0
  have C0 : CHr Z own_EL s.vm h0 s.vm h0 := CHr.refl hC0
  have own_wS := own_wSt hw
  have own_hEL := own_hELt hw
  show own_Go p e below (s₁.setTop (entryFrame m #[(.int p1), (.int p2)] 5)) (fun o U' => ∃ v L, o = .returned v ∧ QT Z (own_text p1 p2) h0 n0 v U'.heap L ∧ CHr Z own_EL s.vm s.heap U'.vm U'.heap ∧ ReturnedEndW s o U' L 6 12)
  refine own_go (fun _ k => castTop (ef_rm_text m p1 p2) k) ?_
  show own_Go p e below (s₁.setTop (mkF m 0 #[.val (.int p1), .val (.int p2), .unset, .unset, .unset] [])) _
  refine own_go (fun _ k => XS.iloadN X0.here hx rfl (hb hby d_m3_0) rfl k) ?_
  show own_Go p e below (s₁.setTop (mkF m 1 #[.val (.int p1), .val (.int p2), .unset, .unset, .unset] [(.int p2)])) _
  refine own_go (fun _ k => XS.sipush X0.here hx rfl (hb hby d_m3_1) k) ?_
  show own_Go p e below (s₁.setTop (mkF m 4 #[.val (.int p1), .val (.int p2), .unset, .unset, .unset] [(.int (255 : Int32)), (.int p2)])) _
  refine own_go (fun _ k => XS.iand X0.here hx rfl (hb hby d_m3_4) rfl k) ?_
  show own_Go p e below (s₁.setTop (mkF m 5 #[.val (.int p1), .val (.int p2), .unset, .unset, .unset] [(.int (p2 &&& (255 : Int32)))])) _
  refine own_go (fun _ k => XS.i2c X0.here hx rfl (hb hby d_m3_5) rfl k) ?_
  show own_Go p e below (s₁.setTop (mkF m 6 #[.val (.int p1), .val (.int p2), .unset, .unset, .unset] [(.int ((p2 &&& (255 : Int32)).toUInt32.toUInt16.toUInt32.toInt32))])) _
  refine own_go (fun _ k => XS.istoreN X0.here hx rfl (hb hby d_m3_6) rfl (l' := #[.val (.int p1), .val (.int p2), .val (.int ((p2 &&& (255 : Int32)).toUInt32.toUInt16.toUInt32.toInt32)), .unset, .unset]) rfl k) ?_
  show own_Go p e below (s₁.setTop (mkF m 7 #[.val (.int p1), .val (.int p2), .val (.int ((p2 &&& (255 : Int32)).toUInt32.toUInt16.toUInt32.toInt32)), .unset, .unset] [])) _
  refine own_go (fun _ k => XS.iloadN X0.here hx rfl (hb hby d_m3_7) rfl k) ?_
  show own_Go p e below (s₁.setTop (mkF m 8 #[.val (.int p1), .val (.int p2), .val (.int ((p2 &&& (255 : Int32)).toUInt32.toUInt16.toUInt32.toInt32)), .unset, .unset] [(.int p2)])) _
  refine own_go (fun _ k => XS.bipush X0.here hx rfl (hb hby d_m3_8) k) ?_
  show own_Go p e below (s₁.setTop (mkF m 10 #[.val (.int p1), .val (.int p2), .val (.int ((p2 &&& (255 : Int32)).toUInt32.toUInt16.toUInt32.toInt32)), .unset, .unset] [(.int (8 : Int32)), (.int p2)])) _
  refine own_go (fun _ k => XS.iushr X0.here hx rfl (hb hby d_m3_10) rfl k) ?_
  show own_Go p e below (s₁.setTop (mkF m 11 #[.val (.int p1), .val (.int p2), .val (.int ((p2 &&& (255 : Int32)).toUInt32.toUInt16.toUInt32.toInt32)), .unset, .unset] [(.int ((p2.toUInt32 >>> ((8 : Int32) &&& 31).toUInt32).toInt32))])) _
  refine own_go (fun _ k => XS.sipush X0.here hx rfl (hb hby d_m3_11) k) ?_
  show own_Go p e below (s₁.setTop (mkF m 14 #[.val (.int p1), .val (.int p2), .val (.int ((p2 &&& (255 : Int32)).toUInt32.toUInt16.toUInt32.toInt32)), .unset, .unset] [(.int (255 : Int32)), (.int ((p2.toUInt32 >>> ((8 : Int32) &&& 31).toUInt32).toInt32))])) _
  refine own_go (fun _ k => XS.iand X0.here hx rfl (hb hby d_m3_14) rfl k) ?_
  show own_Go p e below (s₁.setTop (mkF m 15 #[.val (.int p1), .val (.int p2), .val (.int ((p2 &&& (255 : Int32)).toUInt32.toUInt16.toUInt32.toInt32)), .unset, .unset] [(.int (((p2.toUInt32 >>> ((8 : Int32) &&& 31).toUInt32).toInt32) &&& (255 : Int32)))])) _
  refine own_go (fun _ k => XS.i2c X0.here hx rfl (hb hby d_m3_15) rfl k) ?_
  show own_Go p e below (s₁.setTop (mkF m 16 #[.val (.int p1), .val (.int p2), .val (.int ((p2 &&& (255 : Int32)).toUInt32.toUInt16.toUInt32.toInt32)), .unset, .unset] [(.int ((((p2.toUInt32 >>> ((8 : Int32) &&& 31).toUInt32).toInt32) &&& (255 : Int32)).toUInt32.toUInt16.toUInt32.toInt32))])) _
  refine own_go (fun _ k => XS.istoreN X0.here hx rfl (hb hby d_m3_16) rfl (l' := #[.val (.int p1), .val (.int p2), .val (.int ((p2 &&& (255 : Int32)).toUInt32.toUInt16.toUInt32.toInt32)), .val (.int ((((p2.toUInt32 >>> ((8 : Int32) &&& 31).toUInt32).toInt32) &&& (255 : Int32)).toUInt32.toUInt16.toUInt32.toInt32)), .unset]) rfl k) ?_
  show own_Go p e below (s₁.setTop (mkF m 17 #[.val (.int p1), .val (.int p2), .val (.int ((p2 &&& (255 : Int32)).toUInt32.toUInt16.toUInt32.toInt32)), .val (.int ((((p2.toUInt32 >>> ((8 : Int32) &&& 31).toUInt32).toInt32) &&& (255 : Int32)).toUInt32.toUInt16.toUInt32.toInt32)), .unset] [])) _
  refine own_go (fun _ k => XS.iloadN X0.here hx rfl (hb hby d_m3_17) rfl k) ?_
  show own_Go p e below (s₁.setTop (mkF m 18 #[.val (.int p1), .val (.int p2), .val (.int ((p2 &&& (255 : Int32)).toUInt32.toUInt16.toUInt32.toInt32)), .val (.int ((((p2.toUInt32 >>> ((8 : Int32) &&& 31).toUInt32).toInt32) &&& (255 : Int32)).toUInt32.toUInt16.toUInt32.toInt32)), .unset] [(.int p2)])) _
  refine own_go (fun _ k => XS.bipush X0.here hx rfl (hb hby d_m3_18) k) ?_
  show own_Go p e below (s₁.setTop (mkF m 20 #[.val (.int p1), .val (.int p2), .val (.int ((p2 &&& (255 : Int32)).toUInt32.toUInt16.toUInt32.toInt32)), .val (.int ((((p2.toUInt32 >>> ((8 : Int32) &&& 31).toUInt32).toInt32) &&& (255 : Int32)).toUInt32.toUInt16.toUInt32.toInt32)), .unset] [(.int (16 : Int32)), (.int p2)])) _
  refine own_go (fun _ k => XS.iushr X0.here hx rfl (hb hby d_m3_20) rfl k) ?_
  show own_Go p e below (s₁.setTop (mkF m 21 #[.val (.int p1), .val (.int p2), .val (.int ((p2 &&& (255 : Int32)).toUInt32.toUInt16.toUInt32.toInt32)), .val (.int ((((p2.toUInt32 >>> ((8 : Int32) &&& 31).toUInt32).toInt32) &&& (255 : Int32)).toUInt32.toUInt16.toUInt32.toInt32)), .unset] [(.int ((p2.toUInt32 >>> ((16 : Int32) &&& 31).toUInt32).toInt32))])) _
  refine own_go (fun _ k => XS.sipush X0.here hx rfl (hb hby d_m3_21) k) ?_
  show own_Go p e below (s₁.setTop (mkF m 24 #[.val (.int p1), .val (.int p2), .val (.int ((p2 &&& (255 : Int32)).toUInt32.toUInt16.toUInt32.toInt32)), .val (.int ((((p2.toUInt32 >>> ((8 : Int32) &&& 31).toUInt32).toInt32) &&& (255 : Int32)).toUInt32.toUInt16.toUInt32.toInt32)), .unset] [(.int (255 : Int32)), (.int ((p2.toUInt32 >>> ((16 : Int32) &&& 31).toUInt32).toInt32))])) _
  refine own_go (fun _ k => XS.iand X0.here hx rfl (hb hby d_m3_24) rfl k) ?_
  show own_Go p e below (s₁.setTop (mkF m 25 #[.val (.int p1), .val (.int p2), .val (.int ((p2 &&& (255 : Int32)).toUInt32.toUInt16.toUInt32.toInt32)), .val (.int ((((p2.toUInt32 >>> ((8 : Int32) &&& 31).toUInt32).toInt32) &&& (255 : Int32)).toUInt32.toUInt16.toUInt32.toInt32)), .unset] [(.int (((p2.toUInt32 >>> ((16 : Int32) &&& 31).toUInt32).toInt32) &&& (255 : Int32)))])) _
  refine own_go (fun _ k => XS.i2c X0.here hx rfl (hb hby d_m3_25) rfl k) ?_
  show own_Go p e below (s₁.setTop (mkF m 26 #[.val (.int p1), .val (.int p2), .val (.int ((p2 &&& (255 : Int32)).toUInt32.toUInt16.toUInt32.toInt32)), .val (.int ((((p2.toUInt32 >>> ((8 : Int32) &&& 31).toUInt32).toInt32) &&& (255 : Int32)).toUInt32.toUInt16.toUInt32.toInt32)), .unset] [(.int ((((p2.toUInt32 >>> ((16 : Int32) &&& 31).toUInt32).toInt32) &&& (255 : Int32)).toUInt32.toUInt16.toUInt32.toInt32))])) _
  refine own_go (fun _ k => XS.istore X0.here hx rfl (hb hby d_m3_26) rfl (l' := #[.val (.int p1), .val (.int p2), .val (.int ((p2 &&& (255 : Int32)).toUInt32.toUInt16.toUInt32.toInt32)), .val (.int ((((p2.toUInt32 >>> ((8 : Int32) &&& 31).toUInt32).toInt32) &&& (255 : Int32)).toUInt32.toUInt16.toUInt32.toInt32)), .val (.int ((((p2.toUInt32 >>> ((16 : Int32) &&& 31).toUInt32).toInt32) &&& (255 : Int32)).toUInt32.toUInt16.toUInt32.toInt32))]) rfl k) ?_
  show own_Go p e below (s₁.setTop (mkF m 28 #[.val (.int p1), .val (.int p2), .val (.int ((p2 &&& (255 : Int32)).toUInt32.toUInt16.toUInt32.toInt32)), .val (.int ((((p2.toUInt32 >>> ((8 : Int32) &&& 31).toUInt32).toInt32) &&& (255 : Int32)).toUInt32.toUInt16.toUInt32.toInt32)), .val (.int ((((p2.toUInt32 >>> ((16 : Int32) &&& 31).toUInt32).toInt32) &&& (255 : Int32)).toUInt32.toUInt16.toUInt32.toInt32))] [])) _
  refine own_go (fun _ k => XS.iloadN X0.here hx rfl (hb hby d_m3_28) rfl k) ?_
  show own_Go p e below (s₁.setTop (mkF m 29 #[.val (.int p1), .val (.int p2), .val (.int ((p2 &&& (255 : Int32)).toUInt32.toUInt16.toUInt32.toInt32)), .val (.int ((((p2.toUInt32 >>> ((8 : Int32) &&& 31).toUInt32).toInt32) &&& (255 : Int32)).toUInt32.toUInt16.toUInt32.toInt32)), .val (.int ((((p2.toUInt32 >>> ((16 : Int32) &&& 31).toUInt32).toInt32) &&& (255 : Int32)).toUInt32.toUInt16.toUInt32.toInt32))] [(.int p1)])) _
  by_cases hc36 : p1 = (0 : Int32)
  · skip
    refine own_go (fun _ k => XS.ifNo X0.here hx rfl (hb hby d_m3_29) rfl ((if0 _ _).trans (teq hc36).2) k) ?_
    show own_Go p e below (s₁.setTop (mkF m 32 #[.val (.int p1), .val (.int p2), .val (.int ((p2 &&& (255 : Int32)).toUInt32.toUInt16.toUInt32.toInt32)), .val (.int ((((p2.toUInt32 >>> ((8 : Int32) &&& 31).toUInt32).toInt32) &&& (255 : Int32)).toUInt32.toUInt16.toUInt32.toInt32)), .val (.int ((((p2.toUInt32 >>> ((16 : Int32) &&& 31).toUInt32).toInt32) &&& (255 : Int32)).toUInt32.toUInt16.toUInt32.toInt32))] [])) _
    obtain ⟨T37, h37, X37, e37, E37, A37, D37, U37, st37⟩ := newO X0 hx hZ hown (hw _ (List.mem_of_getElem? (i := 14) rfl)) (hw _ (List.mem_of_getElem? (i := 15) rfl)) (hw _ (List.mem_of_getElem? (i := 16) rfl)) e0 (g := (mkF m 32 #[.val (.int p1), .val (.int p2), .val (.int ((p2 &&& (255 : Int32)).toUInt32.toUInt16.toUInt32.toInt32)), .val (.int ((((p2.toUInt32 >>> ((8 : Int32) &&& 31).toUInt32).toInt32) &&& (255 : Int32)).toUInt32.toUInt16.toUInt32.toInt32)), .val (.int ((((p2.toUInt32 >>> ((16 : Int32) &&& 31).toUInt32).toInt32) &&& (255 : Int32)).toUInt32.toUInt16.toUInt32.toInt32))] [])) rfl (hb hby d_m3_32) (by decide) (by decide)
    obtain ⟨b37, g37⟩ : ∃ z, z = h0.size := ⟨_, rfl⟩
    rw [← g37] at A37 D37 U37 st37
    refine own_go st37 ?_
    have C38 := C0.trans (CHr.ext E37 C0.1)
    have F37_value : Fld Z h37 b37 "java/lang/String" "value" "[B" .null := D37 (Or.inr (hw _ (List.mem_of_getElem? (i := 30) rfl))) (ty := (.array .byte)) (by decide)
    have F37_coder : Fld Z h37 b37 "java/lang/String" "coder" "B" (.int (0 : Int32)) := D37 (Or.inr (hw _ (List.mem_of_getElem? (i := 31) rfl))) (ty := .byte) (by decide)
    show own_Go p e below (T37.setTop (mkF m 35 #[.val (.int p1), .val (.int p2), .val (.int ((p2 &&& (255 : Int32)).toUInt32.toUInt16.toUInt32.toInt32)), .val (.int ((((p2.toUInt32 >>> ((8 : Int32) &&& 31).toUInt32).toInt32) &&& (255 : Int32)).toUInt32.toUInt16.toUInt32.toInt32)), .val (.int ((((p2.toUInt32 >>> ((16 : Int32) &&& 31).toUInt32).toInt32) &&& (255 : Int32)).toUInt32.toUInt16.toUInt32.toInt32))] [(.ref b37)])) _
    refine own_go (fun _ k => XS.dup X37.here hx rfl (hb hby d_m3_35) rfl rfl k) ?_
    show own_Go p e below (T37.setTop (mkF m 36 #[.val (.int p1), .val (.int p2), .val (.int ((p2 &&& (255 : Int32)).toUInt32.toUInt16.toUInt32.toInt32)), .val (.int ((((p2.toUInt32 >>> ((8 : Int32) &&& 31).toUInt32).toInt32) &&& (255 : Int32)).toUInt32.toUInt16.toUInt32.toInt32)), .val (.int ((((p2.toUInt32 >>> ((16 : Int32) &&& 31).toUInt32).toInt32) &&& (255 : Int32)).toUInt32.toUInt16.toUInt32.toInt32))] [(.ref b37), (.ref b37)])) _
    refine own_go (fun _ k => XS.iconst X37.here hx rfl (hb hby d_m3_36) k) ?_
    show own_Go p e below (T37.setTop (mkF m 37 #[.val (.int p1), .val (.int p2), .val (.int ((p2 &&& (255 : Int32)).toUInt32.toUInt16.toUInt32.toInt32)), .val (.int ((((p2.toUInt32 >>> ((8 : Int32) &&& 31).toUInt32).toInt32) &&& (255 : Int32)).toUInt32.toUInt16.toUInt32.toInt32)), .val (.int ((((p2.toUInt32 >>> ((16 : Int32) &&& 31).toUInt32).toInt32) &&& (255 : Int32)).toUInt32.toUInt16.toUInt32.toInt32))] [(.int (0 : Int32)), (.ref b37), (.ref b37)])) _
    obtain ⟨T39, h39, k39, X39, e39, E39, A39, st39⟩ := newP X37 hx hZ (hw _ (List.mem_of_getElem? (i := 17) rfl)) e37 (g := (mkF m 37 #[.val (.int p1), .val (.int p2), .val (.int ((p2 &&& (255 : Int32)).toUInt32.toUInt16.toUInt32.toInt32)), .val (.int ((((p2.toUInt32 >>> ((8 : Int32) &&& 31).toUInt32).toInt32) &&& (255 : Int32)).toUInt32.toUInt16.toUInt32.toInt32)), .val (.int ((((p2.toUInt32 >>> ((16 : Int32) &&& 31).toUInt32).toInt32) &&& (255 : Int32)).toUInt32.toUInt16.toUInt32.toInt32))] [(.int (0 : Int32)), (.ref b37), (.ref b37)])) rfl (hb hby d_m3_37) rfl (by decide) (cap := 0) (by decide) (by decide) (by decide) (by decide)
    obtain ⟨b39, g39⟩ : ∃ z, z = h37.size := ⟨_, rfl⟩
    rw [← g39] at A39 st39
    refine own_go st39 ?_
    have C40 := C38.trans (CHr.ext E39 C38.1)
    have V39 : Arv Z h39 b39 k39 .char (0 : Int32) [] (.int (0 : Int32)) := (Arv.new A39 (by decide)).pad (pad_rep [] (.int (0 : Int32)) 0)
    show own_Go p e below (T39.setTop (mkF m 39 #[.val (.int p1), .val (.int p2), .val (.int ((p2 &&& (255 : Int32)).toUInt32.toUInt16.toUInt32.toInt32)), .val (.int ((((p2.toUInt32 >>> ((8 : Int32) &&& 31).toUInt32).toInt32) &&& (255 : Int32)).toUInt32.toUInt16.toUInt32.toInt32)), .val (.int ((((p2.toUInt32 >>> ((16 : Int32) &&& 31).toUInt32).toInt32) &&& (255 : Int32)).toUInt32.toUInt16.toUInt32.toInt32))] [(.ref b39), (.ref b37), (.ref b37)])) _
    obtain ⟨v41, _, ⟨T41, L41, k41, n41⟩, -, X41, hS41, hg41, ⟨Lc41, hQ41, l41, y41, z41, A41⟩, st41⟩ := X39.specialBackS hx (y := (⟨"java/lang/String", "<init>", "([C)V"⟩ : MethodName)) rfl hown (mvT hZ (hw _ (List.mem_of_getElem? (i := 18) rfl))) (mvT hZ (hw _ (List.mem_of_getElem? (i := 19) rfl))) (mvT hZ (hw _ (List.mem_of_getElem? (i := 20) rfl))) (by decide) (backOfSH (W := 1) (rm_i1e l Z a0 hw [] b37 b39 k39 h39 n0 ((O0.ext E37).ext E39) (A37.ext E39) (F37_value.ext E39) (F37_coder.ext E39) (Nat.le_trans Z0 (Nat.le_of_eq g37.symm)) V39) hZ (hw _ (List.mem_of_getElem? (i := 20) rfl)) (hw _ (List.mem_of_getElem? (i := 16) rfl)) (by decide) (by decide) own_hEL C40.1) (g := (mkF m 39 #[.val (.int p1), .val (.int p2), .val (.int ((p2 &&& (255 : Int32)).toUInt32.toUInt16.toUInt32.toInt32)), .val (.int ((((p2.toUInt32 >>> ((8 : Int32) &&& 31).toUInt32).toInt32) &&& (255 : Int32)).toUInt32.toUInt16.toUInt32.toInt32)), .val (.int ((((p2.toUInt32 >>> ((16 : Int32) &&& 31).toUInt32).toInt32) &&& (255 : Int32)).toUInt32.toUInt16.toUInt32.toInt32))] [(.ref b39), (.ref b37), (.ref b37)])) rfl (by rw [hml]; rfl) (Steps.refl _) (a := b37) (argsL := [(.ref b39)]) (rest := [(.ref b37)]) (lenOf pd_1 rfl) rfl (by show 2 * 0 + _ ≤ _; exact Nat.le_of_eq rfl) (hb hby d_m3_39) (fun _ _ => ⟨rfl, e39, (by decide : 2 + 4 ≤ _), (by decide : 4 + 8 ≤ _)⟩)
    dsimp only [Pt.U, Pt.locs, Pt.cells, Pt.slots] at X41 l41 y41 z41 st41 hQ41 hS41 hg41 A41
    subst l41 y41 z41
    refine own_gos st41 ?_
    obtain ⟨X41, hS41, hZ41, hown41⟩ := rebS hS0 (k0 := _) (n1 := T39.heap.size) (by rw [e39]; exact (Nat.zero_le _)) X41 hS41 hg41 hZ hown
    obtain ⟨t41, kt41, rfl, Nq41, K41, Fv41, Fc41, Vt41⟩ := hQ41
    have C42 := C40.trans A41
    have N41 := Fr.app N0 Nq41
    show own_Go p e below (T41.setTop (mkF m 42 #[.val (.int p1), .val (.int p2), .val (.int ((p2 &&& (255 : Int32)).toUInt32.toUInt16.toUInt32.toInt32)), .val (.int ((((p2.toUInt32 >>> ((8 : Int32) &&& 31).toUInt32).toInt32) &&& (255 : Int32)).toUInt32.toUInt16.toUInt32.toInt32)), .val (.int ((((p2.toUInt32 >>> ((16 : Int32) &&& 31).toUInt32).toInt32) &&& (255 : Int32)).toUInt32.toUInt16.toUInt32.toInt32))] [(.ref b37)])) _
    have hcd43 : StrChars.Road.CodA ([] : List Int32) 0 (0 : Int32) (((([] : List Int32)).map (fun c => c.toInt8.toInt32)).map Value.int) := StrChars.Road.codOf (n := 0) rfl (fun x hx => (own_none x hx).2)
    have hbd43 := own_up _ own_none
    have f44 := ((((Keep.refl h0 []).ext E37).ext E39).trans K41 (allS (Or.inr (Nat.le_of_eq g37.symm)) all0))
    refine own_finW (v := (some (.ref b37))) X41 hh hZ41 hS41 (by rw [(rfl : T41.heap = T41.heap)]; exact (Nat.le_refl _)) (fun h => by rw [hrt] at h; cases h) hlk (fun fs hr => retR X41 hx hrt (by rfl) rfl rfl (hb hby d_m3_42) hr) (QQ := QT Z (own_text p1 p2) h0 n0) ?_ own_hEL (rfl : T41.heap = T41.heap) (C42) (by decide) (by decide)
    exact ⟨b37, t41, _, _, _, rfl, N41, f44, (Nat.le_of_eq g37.symm), ((A37.ext E39).keep K41), Fv41, Fc41, Vt41, by unfold own_text; rw [if_pos hc36]; exact hcd43⟩
  · skip
    refine own_go (fun _ k => XS.ifYes X0.here hx rfl (pc0 := 29) (pc' := 43) rfl (hb hby d_m3_29) rfl ((if0 _ _).trans (feq hc36).2) (by decide) (by decide) k) ?_
    show own_Go p e below (s₁.setTop (mkF m 43 #[.val (.int p1), .val (.int p2), .val (.int ((p2 &&& (255 : Int32)).toUInt32.toUInt16.toUInt32.toInt32)), .val (.int ((((p2.toUInt32 >>> ((8 : Int32) &&& 31).toUInt32).toInt32) &&& (255 : Int32)).toUInt32.toUInt16.toUInt32.toInt32)), .val (.int ((((p2.toUInt32 >>> ((16 : Int32) &&& 31).toUInt32).toInt32) &&& (255 : Int32)).toUInt32.toUInt16.toUInt32.toInt32))] [])) _
    refine own_go (fun _ k => XS.iloadN X0.here hx rfl (hb hby d_m3_43) rfl k) ?_
    show own_Go p e below (s₁.setTop (mkF m 44 #[.val (.int p1), .val (.int p2), .val (.int ((p2 &&& (255 : Int32)).toUInt32.toUInt16.toUInt32.toInt32)), .val (.int ((((p2.toUInt32 >>> ((8 : Int32) &&& 31).toUInt32).toInt32) &&& (255 : Int32)).toUInt32.toUInt16.toUInt32.toInt32)), .val (.int ((((p2.toUInt32 >>> ((16 : Int32) &&& 31).toUInt32).toInt32) &&& (255 : Int32)).toUInt32.toUInt16.toUInt32.toInt32))] [(.int p1)])) _
    refine own_go (fun _ k => XS.iconst X0.here hx rfl (hb hby d_m3_44) k) ?_
    show own_Go p e below (s₁.setTop (mkF m 45 #[.val (.int p1), .val (.int p2), .val (.int ((p2 &&& (255 : Int32)).toUInt32.toUInt16.toUInt32.toInt32)), .val (.int ((((p2.toUInt32 >>> ((8 : Int32) &&& 31).toUInt32).toInt32) &&& (255 : Int32)).toUInt32.toUInt16.toUInt32.toInt32)), .val (.int ((((p2.toUInt32 >>> ((16 : Int32) &&& 31).toUInt32).toInt32) &&& (255 : Int32)).toUInt32.toUInt16.toUInt32.toInt32))] [(.int (1 : Int32)), (.int p1)])) _
    by_cases hc45 : p1 = (1 : Int32)
    · skip
      refine own_go (fun _ k => XS.icmpNo X0.here hx rfl (hb hby d_m3_45) rfl (teq hc45).2 k) ?_
      show own_Go p e below (s₁.setTop (mkF m 48 #[.val (.int p1), .val (.int p2), .val (.int ((p2 &&& (255 : Int32)).toUInt32.toUInt16.toUInt32.toInt32)), .val (.int ((((p2.toUInt32 >>> ((8 : Int32) &&& 31).toUInt32).toInt32) &&& (255 : Int32)).toUInt32.toUInt16.toUInt32.toInt32)), .val (.int ((((p2.toUInt32 >>> ((16 : Int32) &&& 31).toUInt32).toInt32) &&& (255 : Int32)).toUInt32.toUInt16.toUInt32.toInt32))] [])) _
      obtain ⟨T46, h46, X46, e46, E46, A46, D46, U46, st46⟩ := newO X0 hx hZ hown (hw _ (List.mem_of_getElem? (i := 14) rfl)) (hw _ (List.mem_of_getElem? (i := 15) rfl)) (hw _ (List.mem_of_getElem? (i := 16) rfl)) e0 (g := (mkF m 48 #[.val (.int p1), .val (.int p2), .val (.int ((p2 &&& (255 : Int32)).toUInt32.toUInt16.toUInt32.toInt32)), .val (.int ((((p2.toUInt32 >>> ((8 : Int32) &&& 31).toUInt32).toInt32) &&& (255 : Int32)).toUInt32.toUInt16.toUInt32.toInt32)), .val (.int ((((p2.toUInt32 >>> ((16 : Int32) &&& 31).toUInt32).toInt32) &&& (255 : Int32)).toUInt32.toUInt16.toUInt32.toInt32))] [])) rfl (hb hby d_m3_48) (by decide) (by decide)
      obtain ⟨b46, g46⟩ : ∃ z, z = h0.size := ⟨_, rfl⟩
      rw [← g46] at A46 D46 U46 st46
      refine own_go st46 ?_
      have C47 := C0.trans (CHr.ext E46 C0.1)
      have F46_value : Fld Z h46 b46 "java/lang/String" "value" "[B" .null := D46 (Or.inr (hw _ (List.mem_of_getElem? (i := 30) rfl))) (ty := (.array .byte)) (by decide)
      have F46_coder : Fld Z h46 b46 "java/lang/String" "coder" "B" (.int (0 : Int32)) := D46 (Or.inr (hw _ (List.mem_of_getElem? (i := 31) rfl))) (ty := .byte) (by decide)
      show own_Go p e below (T46.setTop (mkF m 51 #[.val (.int p1), .val (.int p2), .val (.int ((p2 &&& (255 : Int32)).toUInt32.toUInt16.toUInt32.toInt32)), .val (.int ((((p2.toUInt32 >>> ((8 : Int32) &&& 31).toUInt32).toInt32) &&& (255 : Int32)).toUInt32.toUInt16.toUInt32.toInt32)), .val (.int ((((p2.toUInt32 >>> ((16 : Int32) &&& 31).toUInt32).toInt32) &&& (255 : Int32)).toUInt32.toUInt16.toUInt32.toInt32))] [(.ref b46)])) _
      refine own_go (fun _ k => XS.dup X46.here hx rfl (hb hby d_m3_51) rfl rfl k) ?_
      show own_Go p e below (T46.setTop (mkF m 52 #[.val (.int p1), .val (.int p2), .val (.int ((p2 &&& (255 : Int32)).toUInt32.toUInt16.toUInt32.toInt32)), .val (.int ((((p2.toUInt32 >>> ((8 : Int32) &&& 31).toUInt32).toInt32) &&& (255 : Int32)).toUInt32.toUInt16.toUInt32.toInt32)), .val (.int ((((p2.toUInt32 >>> ((16 : Int32) &&& 31).toUInt32).toInt32) &&& (255 : Int32)).toUInt32.toUInt16.toUInt32.toInt32))] [(.ref b46), (.ref b46)])) _
      refine own_go (fun _ k => XS.iconst X46.here hx rfl (hb hby d_m3_52) k) ?_
      show own_Go p e below (T46.setTop (mkF m 53 #[.val (.int p1), .val (.int p2), .val (.int ((p2 &&& (255 : Int32)).toUInt32.toUInt16.toUInt32.toInt32)), .val (.int ((((p2.toUInt32 >>> ((8 : Int32) &&& 31).toUInt32).toInt32) &&& (255 : Int32)).toUInt32.toUInt16.toUInt32.toInt32)), .val (.int ((((p2.toUInt32 >>> ((16 : Int32) &&& 31).toUInt32).toInt32) &&& (255 : Int32)).toUInt32.toUInt16.toUInt32.toInt32))] [(.int (1 : Int32)), (.ref b46), (.ref b46)])) _
      obtain ⟨T48, h48, k48, X48, e48, E48, A48, st48⟩ := newP X46 hx hZ (hw _ (List.mem_of_getElem? (i := 17) rfl)) e46 (g := (mkF m 53 #[.val (.int p1), .val (.int p2), .val (.int ((p2 &&& (255 : Int32)).toUInt32.toUInt16.toUInt32.toInt32)), .val (.int ((((p2.toUInt32 >>> ((8 : Int32) &&& 31).toUInt32).toInt32) &&& (255 : Int32)).toUInt32.toUInt16.toUInt32.toInt32)), .val (.int ((((p2.toUInt32 >>> ((16 : Int32) &&& 31).toUInt32).toInt32) &&& (255 : Int32)).toUInt32.toUInt16.toUInt32.toInt32))] [(.int (1 : Int32)), (.ref b46), (.ref b46)])) rfl (hb hby d_m3_53) rfl (by decide) (cap := 1) (by decide) (by decide) (by decide) (by decide)
      obtain ⟨b48, g48⟩ : ∃ z, z = h46.size := ⟨_, rfl⟩
      rw [← g48] at A48 st48
      refine own_go st48 ?_
      have C49 := C47.trans (CHr.ext E48 C47.1)
      have V48 : Arv Z h48 b48 k48 .char (1 : Int32) [(.int (0 : Int32))] (.int (0 : Int32)) := (Arv.new A48 (by decide)).pad (pad_rep [] (.int (0 : Int32)) 1)
      show own_Go p e below (T48.setTop (mkF m 55 #[.val (.int p1), .val (.int p2), .val (.int ((p2 &&& (255 : Int32)).toUInt32.toUInt16.toUInt32.toInt32)), .val (.int ((((p2.toUInt32 >>> ((8 : Int32) &&& 31).toUInt32).toInt32) &&& (255 : Int32)).toUInt32.toUInt16.toUInt32.toInt32)), .val (.int ((((p2.toUInt32 >>> ((16 : Int32) &&& 31).toUInt32).toInt32) &&& (255 : Int32)).toUInt32.toUInt16.toUInt32.toInt32))] [(.ref b48), (.ref b46), (.ref b46)])) _
      refine own_go (fun _ k => XS.dup X48.here hx rfl (hb hby d_m3_55) rfl rfl k) ?_
      show own_Go p e below (T48.setTop (mkF m 56 #[.val (.int p1), .val (.int p2), .val (.int ((p2 &&& (255 : Int32)).toUInt32.toUInt16.toUInt32.toInt32)), .val (.int ((((p2.toUInt32 >>> ((8 : Int32) &&& 31).toUInt32).toInt32) &&& (255 : Int32)).toUInt32.toUInt16.toUInt32.toInt32)), .val (.int ((((p2.toUInt32 >>> ((16 : Int32) &&& 31).toUInt32).toInt32) &&& (255 : Int32)).toUInt32.toUInt16.toUInt32.toInt32))] [(.ref b48), (.ref b48), (.ref b46), (.ref b46)])) _
      refine own_go (fun _ k => XS.iconst X48.here hx rfl (hb hby d_m3_56) k) ?_
      show own_Go p e below (T48.setTop (mkF m 57 #[.val (.int p1), .val (.int p2), .val (.int ((p2 &&& (255 : Int32)).toUInt32.toUInt16.toUInt32.toInt32)), .val (.int ((((p2.toUInt32 >>> ((8 : Int32) &&& 31).toUInt32).toInt32) &&& (255 : Int32)).toUInt32.toUInt16.toUInt32.toInt32)), .val (.int ((((p2.toUInt32 >>> ((16 : Int32) &&& 31).toUInt32).toInt32) &&& (255 : Int32)).toUInt32.toUInt16.toUInt32.toInt32))] [(.int (0 : Int32)), (.ref b48), (.ref b48), (.ref b46), (.ref b46)])) _
      refine own_go (fun _ k => XS.iloadN X48.here hx rfl (hb hby d_m3_57) rfl k) ?_
      show own_Go p e below (T48.setTop (mkF m 58 #[.val (.int p1), .val (.int p2), .val (.int ((p2 &&& (255 : Int32)).toUInt32.toUInt16.toUInt32.toInt32)), .val (.int ((((p2.toUInt32 >>> ((8 : Int32) &&& 31).toUInt32).toInt32) &&& (255 : Int32)).toUInt32.toUInt16.toUInt32.toInt32)), .val (.int ((((p2.toUInt32 >>> ((16 : Int32) &&& 31).toUInt32).toInt32) &&& (255 : Int32)).toUInt32.toUInt16.toUInt32.toInt32))] [(.int ((p2 &&& (255 : Int32)).toUInt32.toUInt16.toUInt32.toInt32)), (.int (0 : Int32)), (.ref b48), (.ref b48), (.ref b46), (.ref b46)])) _
      obtain ⟨c50, A50, q50, S50, M50, Hs50, Gs50⟩ := id V48
      obtain ⟨T51, h51, X51, e51, W51, st51⟩ := stC X48 hx hZ e48 A50 (j := (0 : Int32)) (inb_of S50 ⟨by decide, by decide⟩) (g := (mkF m 58 #[.val (.int p1), .val (.int p2), .val (.int ((p2 &&& (255 : Int32)).toUInt32.toUInt16.toUInt32.toInt32)), .val (.int ((((p2.toUInt32 >>> ((8 : Int32) &&& 31).toUInt32).toInt32) &&& (255 : Int32)).toUInt32.toUInt16.toUInt32.toInt32)), .val (.int ((((p2.toUInt32 >>> ((16 : Int32) &&& 31).toUInt32).toInt32) &&& (255 : Int32)).toUInt32.toUInt16.toUInt32.toInt32))] [(.int ((p2 &&& (255 : Int32)).toUInt32.toUInt16.toUInt32.toInt32)), (.int (0 : Int32)), (.ref b48), (.ref b48), (.ref b46), (.ref b46)])) rfl rfl (hb hby d_m3_58)
      refine own_go st51 ?_
      have N51 := Fr.snoc X51 N0 (Nat.le_trans Z0 (Nat.le_trans E46.1 (Nat.le_of_eq g48.symm)))
      have f52 := (Safe.ext E48 C47.1 (Safe.new (Nat.le_of_eq g48.symm)))
      have C53 := C49.trans (CHr.wr W51 f52 C49.1)
      have V51 : Arv Z h51 b48 k48 .char (1 : Int32) [(.int (own_ch p2))] (.int (0 : Int32)) := Arv.set A50 q50 S50 M50 Hs50 Gs50 (fits_nar_char _) W51 0 rfl (Nat.le_of_ble_eq_true rfl)
      show own_Go p e below (T51.setTop (mkF m 59 #[.val (.int p1), .val (.int p2), .val (.int ((p2 &&& (255 : Int32)).toUInt32.toUInt16.toUInt32.toInt32)), .val (.int ((((p2.toUInt32 >>> ((8 : Int32) &&& 31).toUInt32).toInt32) &&& (255 : Int32)).toUInt32.toUInt16.toUInt32.toInt32)), .val (.int ((((p2.toUInt32 >>> ((16 : Int32) &&& 31).toUInt32).toInt32) &&& (255 : Int32)).toUInt32.toUInt16.toUInt32.toInt32))] [(.ref b48), (.ref b46), (.ref b46)])) _
      have f54 := (((O0.ext E46).ext E48).wr W51 (Nat.le_trans Z0 (Nat.le_trans E46.1 (Nat.le_of_eq g48.symm))))
      have z55 := (Nat.le_trans (Nat.le_trans E46.1 E48.1) (Keep.of_wr W51).1)
      have ne56 : b46 ≠ b48 := Nat.ne_of_lt (Nat.lt_of_lt_of_le A46.lt (Nat.le_of_eq g48.symm))
      have f57 := ((F46_value.ext E48).other W51 (Or.inl ne56))
      have f58 := ((F46_coder.ext E48).other W51 (Or.inl ne56))
      obtain ⟨v59, _, ⟨T59, L59, k59, n59⟩, -, X59, ⟨Lc59, hQ59, l59, y59, z59⟩, st59⟩ := X51.specialBack hx (y := (⟨"java/lang/String", "<init>", "([C)V"⟩ : MethodName)) rfl hown (mvT hZ (hw _ (List.mem_of_getElem? (i := 18) rfl))) (mvT hZ (hw _ (List.mem_of_getElem? (i := 19) rfl))) (mvT hZ (hw _ (List.mem_of_getElem? (i := 20) rfl))) (by decide) (StrChars.Road.backV (W := 1) hZ (own_wStr hw) (kI := 4) (hw _ (List.mem_of_getElem? (i := 15) rfl)) (cs := ([(own_ch p2)] : List Int32)) (bs := (([(own_ch p2)] : List Int32)).map (fun c => c.toInt8.toInt32)) (n := 1) (Nat.le_trans Z0 (Nat.le_of_eq g46.symm)) (Nat.le_trans Z0 z55) ((A46.ext E48).wr W51) f57 f58 V51 (O2.ext f54.2) P5 rfl rfl (by decide) (by decide) (show ∀ c ∈ ([(own_ch p2)] : List Int32), ¬ c < 0 ∧ ¬ (255 : Int32) < c from fun c hc => by simp only [List.mem_cons, List.not_mem_nil, or_false] at hc; rcases hc with rfl <;> exact own_chr _) rfl (by decide) (by decide)) (g := (mkF m 59 #[.val (.int p1), .val (.int p2), .val (.int ((p2 &&& (255 : Int32)).toUInt32.toUInt16.toUInt32.toInt32)), .val (.int ((((p2.toUInt32 >>> ((8 : Int32) &&& 31).toUInt32).toInt32) &&& (255 : Int32)).toUInt32.toUInt16.toUInt32.toInt32)), .val (.int ((((p2.toUInt32 >>> ((16 : Int32) &&& 31).toUInt32).toInt32) &&& (255 : Int32)).toUInt32.toUInt16.toUInt32.toInt32))] [(.ref b48), (.ref b46), (.ref b46)])) rfl (by rw [hml]; rfl) (Steps.refl _) (a := b46) (argsL := [(.ref b48)]) (rest := [(.ref b46)]) (lenOf pd_1 rfl) rfl (by show 2 * 0 + _ ≤ _; exact Nat.le_of_eq rfl) (hb hby d_m3_59) (fun _ _ => ⟨rfl, e51, (by decide : 2 + 1 ≤ _), (by decide : 5 + 1 ≤ _)⟩)
      dsimp only [Pt.U, Pt.locs, Pt.cells, Pt.slots] at X59 l59 y59 z59 st59 hQ59
      subst l59 y59 z59
      refine own_gos st59 ?_
      obtain ⟨rfl, Nq59, K59, Eq59, Fc59, t59, kt59, -, tg59, tn59, Fv59, Vt59⟩ := hQ59
      have f60 := (Safe.wr W51 f52 C49.1 (Safe.ext E48 C47.1 (Safe.ext E46 C0.1 (Safe.new (Nat.le_of_eq g46.symm)))))
      have C61 := C53.trans (CHr.keep K59 (sfS f60 sf0) C53.1)
      have N59 := Fr.app N51 Nq59
      show own_Go p e below (T59.setTop (mkF m 62 #[.val (.int p1), .val (.int p2), .val (.int ((p2 &&& (255 : Int32)).toUInt32.toUInt16.toUInt32.toInt32)), .val (.int ((((p2.toUInt32 >>> ((8 : Int32) &&& 31).toUInt32).toInt32) &&& (255 : Int32)).toUInt32.toUInt16.toUInt32.toInt32)), .val (.int ((((p2.toUInt32 >>> ((16 : Int32) &&& 31).toUInt32).toInt32) &&& (255 : Int32)).toUInt32.toUInt16.toUInt32.toInt32))] [(.ref b46)])) _
      have hcd62 : StrChars.Road.CodA ([(own_ch p2)] : List Int32) 0 (1 : Int32) (((([(own_ch p2)] : List Int32)).map (fun c => c.toInt8.toInt32)).map Value.int) := StrChars.Road.codOf (n := 1) rfl (fun x hx => ((show ∀ c ∈ ([(own_ch p2)] : List Int32), ¬ c < 0 ∧ ¬ (255 : Int32) < c from fun c hc => by simp only [List.mem_cons, List.not_mem_nil, or_false] at hc; rcases hc with rfl <;> exact own_chr _) x hx).2)
      have hbd62 := own_up _ (show ∀ c ∈ ([(own_ch p2)] : List Int32), ¬ c < 0 ∧ ¬ (255 : Int32) < c from fun c hc => by simp only [List.mem_cons, List.not_mem_nil, or_false] at hc; rcases hc with rfl <;> exact own_chr _)
      have f63 := (((((Keep.refl h0 []).ext E46).ext E48).wr W51 (Or.inr (Nat.le_trans E46.1 (Nat.le_of_eq g48.symm)))).trans K59 (allS (Or.inr (Nat.le_of_eq g46.symm)) all0))
      refine own_finW (v := (some (.ref b46))) X59 hh hZ hS0 (by rw [(rfl : T59.heap = T59.heap)]; exact (Nat.zero_le _)) (fun h => by rw [hrt] at h; cases h) hlk (fun fs hr => retR X59 hx hrt (by rfl) rfl rfl (hb hby d_m3_62) hr) (QQ := QT Z (own_text p1 p2) h0 n0) ?_ own_hEL (rfl : T59.heap = T59.heap) (C61) (by decide) (by decide)
      exact ⟨b46, t59, _, _, _, rfl, N59, f63, (Nat.le_of_eq g46.symm), Eq59, Fv59, Fc59, Vt59, by unfold own_text; rw [if_neg hc36, if_pos hc45]; exact hcd62⟩
    · skip
      refine own_go (fun _ k => XS.icmpYes X0.here hx rfl (pc0 := 45) (pc' := 63) rfl (hb hby d_m3_45) rfl (feq hc45).2 (by decide) (by decide) k) ?_
      show own_Go p e below (s₁.setTop (mkF m 63 #[.val (.int p1), .val (.int p2), .val (.int ((p2 &&& (255 : Int32)).toUInt32.toUInt16.toUInt32.toInt32)), .val (.int ((((p2.toUInt32 >>> ((8 : Int32) &&& 31).toUInt32).toInt32) &&& (255 : Int32)).toUInt32.toUInt16.toUInt32.toInt32)), .val (.int ((((p2.toUInt32 >>> ((16 : Int32) &&& 31).toUInt32).toInt32) &&& (255 : Int32)).toUInt32.toUInt16.toUInt32.toInt32))] [])) _
      refine own_go (fun _ k => XS.iloadN X0.here hx rfl (hb hby d_m3_63) rfl k) ?_
      show own_Go p e below (s₁.setTop (mkF m 64 #[.val (.int p1), .val (.int p2), .val (.int ((p2 &&& (255 : Int32)).toUInt32.toUInt16.toUInt32.toInt32)), .val (.int ((((p2.toUInt32 >>> ((8 : Int32) &&& 31).toUInt32).toInt32) &&& (255 : Int32)).toUInt32.toUInt16.toUInt32.toInt32)), .val (.int ((((p2.toUInt32 >>> ((16 : Int32) &&& 31).toUInt32).toInt32) &&& (255 : Int32)).toUInt32.toUInt16.toUInt32.toInt32))] [(.int p1)])) _
      refine own_go (fun _ k => XS.iconst X0.here hx rfl (hb hby d_m3_64) k) ?_
      show own_Go p e below (s₁.setTop (mkF m 65 #[.val (.int p1), .val (.int p2), .val (.int ((p2 &&& (255 : Int32)).toUInt32.toUInt16.toUInt32.toInt32)), .val (.int ((((p2.toUInt32 >>> ((8 : Int32) &&& 31).toUInt32).toInt32) &&& (255 : Int32)).toUInt32.toUInt16.toUInt32.toInt32)), .val (.int ((((p2.toUInt32 >>> ((16 : Int32) &&& 31).toUInt32).toInt32) &&& (255 : Int32)).toUInt32.toUInt16.toUInt32.toInt32))] [(.int (2 : Int32)), (.int p1)])) _
      by_cases hc64 : p1 = (2 : Int32)
      · skip
        refine own_go (fun _ k => XS.icmpNo X0.here hx rfl (hb hby d_m3_65) rfl (teq hc64).2 k) ?_
        show own_Go p e below (s₁.setTop (mkF m 68 #[.val (.int p1), .val (.int p2), .val (.int ((p2 &&& (255 : Int32)).toUInt32.toUInt16.toUInt32.toInt32)), .val (.int ((((p2.toUInt32 >>> ((8 : Int32) &&& 31).toUInt32).toInt32) &&& (255 : Int32)).toUInt32.toUInt16.toUInt32.toInt32)), .val (.int ((((p2.toUInt32 >>> ((16 : Int32) &&& 31).toUInt32).toInt32) &&& (255 : Int32)).toUInt32.toUInt16.toUInt32.toInt32))] [])) _
        obtain ⟨T65, h65, X65, e65, E65, A65, D65, U65, st65⟩ := newO X0 hx hZ hown (hw _ (List.mem_of_getElem? (i := 14) rfl)) (hw _ (List.mem_of_getElem? (i := 15) rfl)) (hw _ (List.mem_of_getElem? (i := 16) rfl)) e0 (g := (mkF m 68 #[.val (.int p1), .val (.int p2), .val (.int ((p2 &&& (255 : Int32)).toUInt32.toUInt16.toUInt32.toInt32)), .val (.int ((((p2.toUInt32 >>> ((8 : Int32) &&& 31).toUInt32).toInt32) &&& (255 : Int32)).toUInt32.toUInt16.toUInt32.toInt32)), .val (.int ((((p2.toUInt32 >>> ((16 : Int32) &&& 31).toUInt32).toInt32) &&& (255 : Int32)).toUInt32.toUInt16.toUInt32.toInt32))] [])) rfl (hb hby d_m3_68) (by decide) (by decide)
        obtain ⟨b65, g65⟩ : ∃ z, z = h0.size := ⟨_, rfl⟩
        rw [← g65] at A65 D65 U65 st65
        refine own_go st65 ?_
        have C66 := C0.trans (CHr.ext E65 C0.1)
        have F65_value : Fld Z h65 b65 "java/lang/String" "value" "[B" .null := D65 (Or.inr (hw _ (List.mem_of_getElem? (i := 30) rfl))) (ty := (.array .byte)) (by decide)
        have F65_coder : Fld Z h65 b65 "java/lang/String" "coder" "B" (.int (0 : Int32)) := D65 (Or.inr (hw _ (List.mem_of_getElem? (i := 31) rfl))) (ty := .byte) (by decide)
        show own_Go p e below (T65.setTop (mkF m 71 #[.val (.int p1), .val (.int p2), .val (.int ((p2 &&& (255 : Int32)).toUInt32.toUInt16.toUInt32.toInt32)), .val (.int ((((p2.toUInt32 >>> ((8 : Int32) &&& 31).toUInt32).toInt32) &&& (255 : Int32)).toUInt32.toUInt16.toUInt32.toInt32)), .val (.int ((((p2.toUInt32 >>> ((16 : Int32) &&& 31).toUInt32).toInt32) &&& (255 : Int32)).toUInt32.toUInt16.toUInt32.toInt32))] [(.ref b65)])) _
        refine own_go (fun _ k => XS.dup X65.here hx rfl (hb hby d_m3_71) rfl rfl k) ?_
        show own_Go p e below (T65.setTop (mkF m 72 #[.val (.int p1), .val (.int p2), .val (.int ((p2 &&& (255 : Int32)).toUInt32.toUInt16.toUInt32.toInt32)), .val (.int ((((p2.toUInt32 >>> ((8 : Int32) &&& 31).toUInt32).toInt32) &&& (255 : Int32)).toUInt32.toUInt16.toUInt32.toInt32)), .val (.int ((((p2.toUInt32 >>> ((16 : Int32) &&& 31).toUInt32).toInt32) &&& (255 : Int32)).toUInt32.toUInt16.toUInt32.toInt32))] [(.ref b65), (.ref b65)])) _
        refine own_go (fun _ k => XS.iconst X65.here hx rfl (hb hby d_m3_72) k) ?_
        show own_Go p e below (T65.setTop (mkF m 73 #[.val (.int p1), .val (.int p2), .val (.int ((p2 &&& (255 : Int32)).toUInt32.toUInt16.toUInt32.toInt32)), .val (.int ((((p2.toUInt32 >>> ((8 : Int32) &&& 31).toUInt32).toInt32) &&& (255 : Int32)).toUInt32.toUInt16.toUInt32.toInt32)), .val (.int ((((p2.toUInt32 >>> ((16 : Int32) &&& 31).toUInt32).toInt32) &&& (255 : Int32)).toUInt32.toUInt16.toUInt32.toInt32))] [(.int (2 : Int32)), (.ref b65), (.ref b65)])) _
        obtain ⟨T67, h67, k67, X67, e67, E67, A67, st67⟩ := newP X65 hx hZ (hw _ (List.mem_of_getElem? (i := 17) rfl)) e65 (g := (mkF m 73 #[.val (.int p1), .val (.int p2), .val (.int ((p2 &&& (255 : Int32)).toUInt32.toUInt16.toUInt32.toInt32)), .val (.int ((((p2.toUInt32 >>> ((8 : Int32) &&& 31).toUInt32).toInt32) &&& (255 : Int32)).toUInt32.toUInt16.toUInt32.toInt32)), .val (.int ((((p2.toUInt32 >>> ((16 : Int32) &&& 31).toUInt32).toInt32) &&& (255 : Int32)).toUInt32.toUInt16.toUInt32.toInt32))] [(.int (2 : Int32)), (.ref b65), (.ref b65)])) rfl (hb hby d_m3_73) rfl (by decide) (cap := 2) (by decide) (by decide) (by decide) (by decide)
        obtain ⟨b67, g67⟩ : ∃ z, z = h65.size := ⟨_, rfl⟩
        rw [← g67] at A67 st67
        refine own_go st67 ?_
        have C68 := C66.trans (CHr.ext E67 C66.1)
        have V67 : Arv Z h67 b67 k67 .char (2 : Int32) [(.int (0 : Int32)), (.int (0 : Int32))] (.int (0 : Int32)) := (Arv.new A67 (by decide)).pad (pad_rep [] (.int (0 : Int32)) 2)
        show own_Go p e below (T67.setTop (mkF m 75 #[.val (.int p1), .val (.int p2), .val (.int ((p2 &&& (255 : Int32)).toUInt32.toUInt16.toUInt32.toInt32)), .val (.int ((((p2.toUInt32 >>> ((8 : Int32) &&& 31).toUInt32).toInt32) &&& (255 : Int32)).toUInt32.toUInt16.toUInt32.toInt32)), .val (.int ((((p2.toUInt32 >>> ((16 : Int32) &&& 31).toUInt32).toInt32) &&& (255 : Int32)).toUInt32.toUInt16.toUInt32.toInt32))] [(.ref b67), (.ref b65), (.ref b65)])) _
        refine own_go (fun _ k => XS.dup X67.here hx rfl (hb hby d_m3_75) rfl rfl k) ?_
        show own_Go p e below (T67.setTop (mkF m 76 #[.val (.int p1), .val (.int p2), .val (.int ((p2 &&& (255 : Int32)).toUInt32.toUInt16.toUInt32.toInt32)), .val (.int ((((p2.toUInt32 >>> ((8 : Int32) &&& 31).toUInt32).toInt32) &&& (255 : Int32)).toUInt32.toUInt16.toUInt32.toInt32)), .val (.int ((((p2.toUInt32 >>> ((16 : Int32) &&& 31).toUInt32).toInt32) &&& (255 : Int32)).toUInt32.toUInt16.toUInt32.toInt32))] [(.ref b67), (.ref b67), (.ref b65), (.ref b65)])) _
        refine own_go (fun _ k => XS.iconst X67.here hx rfl (hb hby d_m3_76) k) ?_
        show own_Go p e below (T67.setTop (mkF m 77 #[.val (.int p1), .val (.int p2), .val (.int ((p2 &&& (255 : Int32)).toUInt32.toUInt16.toUInt32.toInt32)), .val (.int ((((p2.toUInt32 >>> ((8 : Int32) &&& 31).toUInt32).toInt32) &&& (255 : Int32)).toUInt32.toUInt16.toUInt32.toInt32)), .val (.int ((((p2.toUInt32 >>> ((16 : Int32) &&& 31).toUInt32).toInt32) &&& (255 : Int32)).toUInt32.toUInt16.toUInt32.toInt32))] [(.int (0 : Int32)), (.ref b67), (.ref b67), (.ref b65), (.ref b65)])) _
        refine own_go (fun _ k => XS.iloadN X67.here hx rfl (hb hby d_m3_77) rfl k) ?_
        show own_Go p e below (T67.setTop (mkF m 78 #[.val (.int p1), .val (.int p2), .val (.int ((p2 &&& (255 : Int32)).toUInt32.toUInt16.toUInt32.toInt32)), .val (.int ((((p2.toUInt32 >>> ((8 : Int32) &&& 31).toUInt32).toInt32) &&& (255 : Int32)).toUInt32.toUInt16.toUInt32.toInt32)), .val (.int ((((p2.toUInt32 >>> ((16 : Int32) &&& 31).toUInt32).toInt32) &&& (255 : Int32)).toUInt32.toUInt16.toUInt32.toInt32))] [(.int ((p2 &&& (255 : Int32)).toUInt32.toUInt16.toUInt32.toInt32)), (.int (0 : Int32)), (.ref b67), (.ref b67), (.ref b65), (.ref b65)])) _
        obtain ⟨c69, A69, q69, S69, M69, Hs69, Gs69⟩ := id V67
        obtain ⟨T70, h70, X70, e70, W70, st70⟩ := stC X67 hx hZ e67 A69 (j := (0 : Int32)) (inb_of S69 ⟨by decide, by decide⟩) (g := (mkF m 78 #[.val (.int p1), .val (.int p2), .val (.int ((p2 &&& (255 : Int32)).toUInt32.toUInt16.toUInt32.toInt32)), .val (.int ((((p2.toUInt32 >>> ((8 : Int32) &&& 31).toUInt32).toInt32) &&& (255 : Int32)).toUInt32.toUInt16.toUInt32.toInt32)), .val (.int ((((p2.toUInt32 >>> ((16 : Int32) &&& 31).toUInt32).toInt32) &&& (255 : Int32)).toUInt32.toUInt16.toUInt32.toInt32))] [(.int ((p2 &&& (255 : Int32)).toUInt32.toUInt16.toUInt32.toInt32)), (.int (0 : Int32)), (.ref b67), (.ref b67), (.ref b65), (.ref b65)])) rfl rfl (hb hby d_m3_78)
        refine own_go st70 ?_
        have N70 := Fr.snoc X70 N0 (Nat.le_trans Z0 (Nat.le_trans E65.1 (Nat.le_of_eq g67.symm)))
        have f71 := (Safe.ext E67 C66.1 (Safe.new (Nat.le_of_eq g67.symm)))
        have C72 := C68.trans (CHr.wr W70 f71 C68.1)
        have V70 : Arv Z h70 b67 k67 .char (2 : Int32) [(.int (own_ch p2)), (.int (0 : Int32))] (.int (0 : Int32)) := Arv.set A69 q69 S69 M69 Hs69 Gs69 (fits_nar_char _) W70 0 rfl (Nat.le_of_ble_eq_true rfl)
        show own_Go p e below (T70.setTop (mkF m 79 #[.val (.int p1), .val (.int p2), .val (.int ((p2 &&& (255 : Int32)).toUInt32.toUInt16.toUInt32.toInt32)), .val (.int ((((p2.toUInt32 >>> ((8 : Int32) &&& 31).toUInt32).toInt32) &&& (255 : Int32)).toUInt32.toUInt16.toUInt32.toInt32)), .val (.int ((((p2.toUInt32 >>> ((16 : Int32) &&& 31).toUInt32).toInt32) &&& (255 : Int32)).toUInt32.toUInt16.toUInt32.toInt32))] [(.ref b67), (.ref b65), (.ref b65)])) _
        refine own_go (fun _ k => XS.dup X70.here hx rfl (hb hby d_m3_79) rfl rfl k) ?_
        show own_Go p e below (T70.setTop (mkF m 80 #[.val (.int p1), .val (.int p2), .val (.int ((p2 &&& (255 : Int32)).toUInt32.toUInt16.toUInt32.toInt32)), .val (.int ((((p2.toUInt32 >>> ((8 : Int32) &&& 31).toUInt32).toInt32) &&& (255 : Int32)).toUInt32.toUInt16.toUInt32.toInt32)), .val (.int ((((p2.toUInt32 >>> ((16 : Int32) &&& 31).toUInt32).toInt32) &&& (255 : Int32)).toUInt32.toUInt16.toUInt32.toInt32))] [(.ref b67), (.ref b67), (.ref b65), (.ref b65)])) _
        refine own_go (fun _ k => XS.iconst X70.here hx rfl (hb hby d_m3_80) k) ?_
        show own_Go p e below (T70.setTop (mkF m 81 #[.val (.int p1), .val (.int p2), .val (.int ((p2 &&& (255 : Int32)).toUInt32.toUInt16.toUInt32.toInt32)), .val (.int ((((p2.toUInt32 >>> ((8 : Int32) &&& 31).toUInt32).toInt32) &&& (255 : Int32)).toUInt32.toUInt16.toUInt32.toInt32)), .val (.int ((((p2.toUInt32 >>> ((16 : Int32) &&& 31).toUInt32).toInt32) &&& (255 : Int32)).toUInt32.toUInt16.toUInt32.toInt32))] [(.int (1 : Int32)), (.ref b67), (.ref b67), (.ref b65), (.ref b65)])) _
        refine own_go (fun _ k => XS.iloadN X70.here hx rfl (hb hby d_m3_81) rfl k) ?_
        show own_Go p e below (T70.setTop (mkF m 82 #[.val (.int p1), .val (.int p2), .val (.int ((p2 &&& (255 : Int32)).toUInt32.toUInt16.toUInt32.toInt32)), .val (.int ((((p2.toUInt32 >>> ((8 : Int32) &&& 31).toUInt32).toInt32) &&& (255 : Int32)).toUInt32.toUInt16.toUInt32.toInt32)), .val (.int ((((p2.toUInt32 >>> ((16 : Int32) &&& 31).toUInt32).toInt32) &&& (255 : Int32)).toUInt32.toUInt16.toUInt32.toInt32))] [(.int ((((p2.toUInt32 >>> ((8 : Int32) &&& 31).toUInt32).toInt32) &&& (255 : Int32)).toUInt32.toUInt16.toUInt32.toInt32)), (.int (1 : Int32)), (.ref b67), (.ref b67), (.ref b65), (.ref b65)])) _
        obtain ⟨c73, A73, q73, S73, M73, Hs73, Gs73⟩ := id V70
        obtain ⟨T74, h74, X74, e74, W74, st74⟩ := stC X70 hx hZ e70 A73 (j := (1 : Int32)) (inb_of S73 ⟨by decide, by decide⟩) (g := (mkF m 82 #[.val (.int p1), .val (.int p2), .val (.int ((p2 &&& (255 : Int32)).toUInt32.toUInt16.toUInt32.toInt32)), .val (.int ((((p2.toUInt32 >>> ((8 : Int32) &&& 31).toUInt32).toInt32) &&& (255 : Int32)).toUInt32.toUInt16.toUInt32.toInt32)), .val (.int ((((p2.toUInt32 >>> ((16 : Int32) &&& 31).toUInt32).toInt32) &&& (255 : Int32)).toUInt32.toUInt16.toUInt32.toInt32))] [(.int ((((p2.toUInt32 >>> ((8 : Int32) &&& 31).toUInt32).toInt32) &&& (255 : Int32)).toUInt32.toUInt16.toUInt32.toInt32)), (.int (1 : Int32)), (.ref b67), (.ref b67), (.ref b65), (.ref b65)])) rfl rfl (hb hby d_m3_82)
        refine own_go st74 ?_
        have N74 := Fr.snoc X74 N70 (Nat.le_trans Z0 (Nat.le_trans E65.1 (Nat.le_of_eq g67.symm)))
        have f75 := (Safe.wr W70 f71 C68.1 f71)
        have C76 := C72.trans (CHr.wr W74 f75 C72.1)
        have V74 : Arv Z h74 b67 k67 .char (2 : Int32) [(.int (own_ch p2)), (.int (own_ch (own_s p2 8)))] (.int (0 : Int32)) := Arv.set A73 q73 S73 M73 Hs73 Gs73 (fits_nar_char _) W74 1 rfl (Nat.le_of_ble_eq_true rfl)
        show own_Go p e below (T74.setTop (mkF m 83 #[.val (.int p1), .val (.int p2), .val (.int ((p2 &&& (255 : Int32)).toUInt32.toUInt16.toUInt32.toInt32)), .val (.int ((((p2.toUInt32 >>> ((8 : Int32) &&& 31).toUInt32).toInt32) &&& (255 : Int32)).toUInt32.toUInt16.toUInt32.toInt32)), .val (.int ((((p2.toUInt32 >>> ((16 : Int32) &&& 31).toUInt32).toInt32) &&& (255 : Int32)).toUInt32.toUInt16.toUInt32.toInt32))] [(.ref b67), (.ref b65), (.ref b65)])) _
        have f77 := ((((O0.ext E65).ext E67).wr W70 (Nat.le_trans Z0 (Nat.le_trans E65.1 (Nat.le_of_eq g67.symm)))).wr W74 (Nat.le_trans Z0 (Nat.le_trans E65.1 (Nat.le_of_eq g67.symm))))
        have z78 := (Nat.le_trans (Nat.le_trans (Nat.le_trans E65.1 E67.1) (Keep.of_wr W70).1) (Keep.of_wr W74).1)
        have f79 := (((A65.ext E67).wr W70).wr W74)
        have ne80 : b65 ≠ b67 := Nat.ne_of_lt (Nat.lt_of_lt_of_le A65.lt (Nat.le_of_eq g67.symm))
        have f81 := (((F65_value.ext E67).other W70 (Or.inl ne80)).other W74 (Or.inl ne80))
        have f82 := (((F65_coder.ext E67).other W70 (Or.inl ne80)).other W74 (Or.inl ne80))
        obtain ⟨v83, _, ⟨T83, L83, k83, n83⟩, -, X83, ⟨Lc83, hQ83, l83, y83, z83⟩, st83⟩ := X74.specialBack hx (y := (⟨"java/lang/String", "<init>", "([C)V"⟩ : MethodName)) rfl hown (mvT hZ (hw _ (List.mem_of_getElem? (i := 18) rfl))) (mvT hZ (hw _ (List.mem_of_getElem? (i := 19) rfl))) (mvT hZ (hw _ (List.mem_of_getElem? (i := 20) rfl))) (by decide) (StrChars.Road.backV (W := 1) hZ (own_wStr hw) (kI := 4) (hw _ (List.mem_of_getElem? (i := 15) rfl)) (cs := ([(own_ch p2), (own_ch (own_s p2 8))] : List Int32)) (bs := (([(own_ch p2), (own_ch (own_s p2 8))] : List Int32)).map (fun c => c.toInt8.toInt32)) (n := 2) (Nat.le_trans Z0 (Nat.le_of_eq g65.symm)) (Nat.le_trans Z0 z78) f79 f81 f82 V74 (O2.ext f77.2) P5 rfl rfl (by decide) (by decide) (show ∀ c ∈ ([(own_ch p2), (own_ch (own_s p2 8))] : List Int32), ¬ c < 0 ∧ ¬ (255 : Int32) < c from fun c hc => by simp only [List.mem_cons, List.not_mem_nil, or_false] at hc; rcases hc with rfl | rfl <;> exact own_chr _) rfl (by decide) (by decide)) (g := (mkF m 83 #[.val (.int p1), .val (.int p2), .val (.int ((p2 &&& (255 : Int32)).toUInt32.toUInt16.toUInt32.toInt32)), .val (.int ((((p2.toUInt32 >>> ((8 : Int32) &&& 31).toUInt32).toInt32) &&& (255 : Int32)).toUInt32.toUInt16.toUInt32.toInt32)), .val (.int ((((p2.toUInt32 >>> ((16 : Int32) &&& 31).toUInt32).toInt32) &&& (255 : Int32)).toUInt32.toUInt16.toUInt32.toInt32))] [(.ref b67), (.ref b65), (.ref b65)])) rfl (by rw [hml]; rfl) (Steps.refl _) (a := b65) (argsL := [(.ref b67)]) (rest := [(.ref b65)]) (lenOf pd_1 rfl) rfl (by show 2 * 0 + _ ≤ _; exact Nat.le_of_eq rfl) (hb hby d_m3_83) (fun _ _ => ⟨rfl, e74, (by decide : 2 + 1 ≤ _), (by decide : 6 + 2 ≤ _)⟩)
        dsimp only [Pt.U, Pt.locs, Pt.cells, Pt.slots] at X83 l83 y83 z83 st83 hQ83
        subst l83 y83 z83
        refine own_gos st83 ?_
        obtain ⟨rfl, Nq83, K83, Eq83, Fc83, t83, kt83, -, tg83, tn83, Fv83, Vt83⟩ := hQ83
        have f84 := (Safe.wr W74 f75 C72.1 (Safe.wr W70 f71 C68.1 (Safe.ext E67 C66.1 (Safe.ext E65 C0.1 (Safe.new (Nat.le_of_eq g65.symm))))))
        have C85 := C76.trans (CHr.keep K83 (sfS f84 sf0) C76.1)
        have N83 := Fr.app N74 Nq83
        show own_Go p e below (T83.setTop (mkF m 86 #[.val (.int p1), .val (.int p2), .val (.int ((p2 &&& (255 : Int32)).toUInt32.toUInt16.toUInt32.toInt32)), .val (.int ((((p2.toUInt32 >>> ((8 : Int32) &&& 31).toUInt32).toInt32) &&& (255 : Int32)).toUInt32.toUInt16.toUInt32.toInt32)), .val (.int ((((p2.toUInt32 >>> ((16 : Int32) &&& 31).toUInt32).toInt32) &&& (255 : Int32)).toUInt32.toUInt16.toUInt32.toInt32))] [(.ref b65)])) _
        have hcd86 : StrChars.Road.CodA ([(own_ch p2), (own_ch (own_s p2 8))] : List Int32) 0 (2 : Int32) (((([(own_ch p2), (own_ch (own_s p2 8))] : List Int32)).map (fun c => c.toInt8.toInt32)).map Value.int) := StrChars.Road.codOf (n := 2) rfl (fun x hx => ((show ∀ c ∈ ([(own_ch p2), (own_ch (own_s p2 8))] : List Int32), ¬ c < 0 ∧ ¬ (255 : Int32) < c from fun c hc => by simp only [List.mem_cons, List.not_mem_nil, or_false] at hc; rcases hc with rfl | rfl <;> exact own_chr _) x hx).2)
        have hbd86 := own_up _ (show ∀ c ∈ ([(own_ch p2), (own_ch (own_s p2 8))] : List Int32), ¬ c < 0 ∧ ¬ (255 : Int32) < c from fun c hc => by simp only [List.mem_cons, List.not_mem_nil, or_false] at hc; rcases hc with rfl | rfl <;> exact own_chr _)
        have f87 := ((((((Keep.refl h0 []).ext E65).ext E67).wr W70 (Or.inr (Nat.le_trans E65.1 (Nat.le_of_eq g67.symm)))).wr W74 (Or.inr (Nat.le_trans E65.1 (Nat.le_of_eq g67.symm)))).trans K83 (allS (Or.inr (Nat.le_of_eq g65.symm)) all0))
        refine own_finW (v := (some (.ref b65))) X83 hh hZ hS0 (by rw [(rfl : T83.heap = T83.heap)]; exact (Nat.zero_le _)) (fun h => by rw [hrt] at h; cases h) hlk (fun fs hr => retR X83 hx hrt (by rfl) rfl rfl (hb hby d_m3_86) hr) (QQ := QT Z (own_text p1 p2) h0 n0) ?_ own_hEL (rfl : T83.heap = T83.heap) (C85) (by decide) (by decide)
        exact ⟨b65, t83, _, _, _, rfl, N83, f87, (Nat.le_of_eq g65.symm), Eq83, Fv83, Fc83, Vt83, by unfold own_text; rw [if_neg hc36, if_neg hc45, if_pos hc64]; exact hcd86⟩
      · skip
        refine own_go (fun _ k => XS.icmpYes X0.here hx rfl (pc0 := 65) (pc' := 87) rfl (hb hby d_m3_65) rfl (feq hc64).2 (by decide) (by decide) k) ?_
        show own_Go p e below (s₁.setTop (mkF m 87 #[.val (.int p1), .val (.int p2), .val (.int ((p2 &&& (255 : Int32)).toUInt32.toUInt16.toUInt32.toInt32)), .val (.int ((((p2.toUInt32 >>> ((8 : Int32) &&& 31).toUInt32).toInt32) &&& (255 : Int32)).toUInt32.toUInt16.toUInt32.toInt32)), .val (.int ((((p2.toUInt32 >>> ((16 : Int32) &&& 31).toUInt32).toInt32) &&& (255 : Int32)).toUInt32.toUInt16.toUInt32.toInt32))] [])) _
        obtain ⟨T88, h88, X88, e88, E88, A88, D88, U88, st88⟩ := newO X0 hx hZ hown (hw _ (List.mem_of_getElem? (i := 14) rfl)) (hw _ (List.mem_of_getElem? (i := 15) rfl)) (hw _ (List.mem_of_getElem? (i := 16) rfl)) e0 (g := (mkF m 87 #[.val (.int p1), .val (.int p2), .val (.int ((p2 &&& (255 : Int32)).toUInt32.toUInt16.toUInt32.toInt32)), .val (.int ((((p2.toUInt32 >>> ((8 : Int32) &&& 31).toUInt32).toInt32) &&& (255 : Int32)).toUInt32.toUInt16.toUInt32.toInt32)), .val (.int ((((p2.toUInt32 >>> ((16 : Int32) &&& 31).toUInt32).toInt32) &&& (255 : Int32)).toUInt32.toUInt16.toUInt32.toInt32))] [])) rfl (hb hby d_m3_87) (by decide) (by decide)
        obtain ⟨b88, g88⟩ : ∃ z, z = h0.size := ⟨_, rfl⟩
        rw [← g88] at A88 D88 U88 st88
        refine own_go st88 ?_
        have C89 := C0.trans (CHr.ext E88 C0.1)
        have F88_value : Fld Z h88 b88 "java/lang/String" "value" "[B" .null := D88 (Or.inr (hw _ (List.mem_of_getElem? (i := 30) rfl))) (ty := (.array .byte)) (by decide)
        have F88_coder : Fld Z h88 b88 "java/lang/String" "coder" "B" (.int (0 : Int32)) := D88 (Or.inr (hw _ (List.mem_of_getElem? (i := 31) rfl))) (ty := .byte) (by decide)
        show own_Go p e below (T88.setTop (mkF m 90 #[.val (.int p1), .val (.int p2), .val (.int ((p2 &&& (255 : Int32)).toUInt32.toUInt16.toUInt32.toInt32)), .val (.int ((((p2.toUInt32 >>> ((8 : Int32) &&& 31).toUInt32).toInt32) &&& (255 : Int32)).toUInt32.toUInt16.toUInt32.toInt32)), .val (.int ((((p2.toUInt32 >>> ((16 : Int32) &&& 31).toUInt32).toInt32) &&& (255 : Int32)).toUInt32.toUInt16.toUInt32.toInt32))] [(.ref b88)])) _
        refine own_go (fun _ k => XS.dup X88.here hx rfl (hb hby d_m3_90) rfl rfl k) ?_
        show own_Go p e below (T88.setTop (mkF m 91 #[.val (.int p1), .val (.int p2), .val (.int ((p2 &&& (255 : Int32)).toUInt32.toUInt16.toUInt32.toInt32)), .val (.int ((((p2.toUInt32 >>> ((8 : Int32) &&& 31).toUInt32).toInt32) &&& (255 : Int32)).toUInt32.toUInt16.toUInt32.toInt32)), .val (.int ((((p2.toUInt32 >>> ((16 : Int32) &&& 31).toUInt32).toInt32) &&& (255 : Int32)).toUInt32.toUInt16.toUInt32.toInt32))] [(.ref b88), (.ref b88)])) _
        refine own_go (fun _ k => XS.iconst X88.here hx rfl (hb hby d_m3_91) k) ?_
        show own_Go p e below (T88.setTop (mkF m 92 #[.val (.int p1), .val (.int p2), .val (.int ((p2 &&& (255 : Int32)).toUInt32.toUInt16.toUInt32.toInt32)), .val (.int ((((p2.toUInt32 >>> ((8 : Int32) &&& 31).toUInt32).toInt32) &&& (255 : Int32)).toUInt32.toUInt16.toUInt32.toInt32)), .val (.int ((((p2.toUInt32 >>> ((16 : Int32) &&& 31).toUInt32).toInt32) &&& (255 : Int32)).toUInt32.toUInt16.toUInt32.toInt32))] [(.int (3 : Int32)), (.ref b88), (.ref b88)])) _
        obtain ⟨T90, h90, k90, X90, e90, E90, A90, st90⟩ := newP X88 hx hZ (hw _ (List.mem_of_getElem? (i := 17) rfl)) e88 (g := (mkF m 92 #[.val (.int p1), .val (.int p2), .val (.int ((p2 &&& (255 : Int32)).toUInt32.toUInt16.toUInt32.toInt32)), .val (.int ((((p2.toUInt32 >>> ((8 : Int32) &&& 31).toUInt32).toInt32) &&& (255 : Int32)).toUInt32.toUInt16.toUInt32.toInt32)), .val (.int ((((p2.toUInt32 >>> ((16 : Int32) &&& 31).toUInt32).toInt32) &&& (255 : Int32)).toUInt32.toUInt16.toUInt32.toInt32))] [(.int (3 : Int32)), (.ref b88), (.ref b88)])) rfl (hb hby d_m3_92) rfl (by decide) (cap := 3) (by decide) (by decide) (by decide) (by decide)
        obtain ⟨b90, g90⟩ : ∃ z, z = h88.size := ⟨_, rfl⟩
        rw [← g90] at A90 st90
        refine own_go st90 ?_
        have C91 := C89.trans (CHr.ext E90 C89.1)
        have V90 : Arv Z h90 b90 k90 .char (3 : Int32) [(.int (0 : Int32)), (.int (0 : Int32)), (.int (0 : Int32))] (.int (0 : Int32)) := (Arv.new A90 (by decide)).pad (pad_rep [] (.int (0 : Int32)) 3)
        show own_Go p e below (T90.setTop (mkF m 94 #[.val (.int p1), .val (.int p2), .val (.int ((p2 &&& (255 : Int32)).toUInt32.toUInt16.toUInt32.toInt32)), .val (.int ((((p2.toUInt32 >>> ((8 : Int32) &&& 31).toUInt32).toInt32) &&& (255 : Int32)).toUInt32.toUInt16.toUInt32.toInt32)), .val (.int ((((p2.toUInt32 >>> ((16 : Int32) &&& 31).toUInt32).toInt32) &&& (255 : Int32)).toUInt32.toUInt16.toUInt32.toInt32))] [(.ref b90), (.ref b88), (.ref b88)])) _
        refine own_go (fun _ k => XS.dup X90.here hx rfl (hb hby d_m3_94) rfl rfl k) ?_
        show own_Go p e below (T90.setTop (mkF m 95 #[.val (.int p1), .val (.int p2), .val (.int ((p2 &&& (255 : Int32)).toUInt32.toUInt16.toUInt32.toInt32)), .val (.int ((((p2.toUInt32 >>> ((8 : Int32) &&& 31).toUInt32).toInt32) &&& (255 : Int32)).toUInt32.toUInt16.toUInt32.toInt32)), .val (.int ((((p2.toUInt32 >>> ((16 : Int32) &&& 31).toUInt32).toInt32) &&& (255 : Int32)).toUInt32.toUInt16.toUInt32.toInt32))] [(.ref b90), (.ref b90), (.ref b88), (.ref b88)])) _
        refine own_go (fun _ k => XS.iconst X90.here hx rfl (hb hby d_m3_95) k) ?_
        show own_Go p e below (T90.setTop (mkF m 96 #[.val (.int p1), .val (.int p2), .val (.int ((p2 &&& (255 : Int32)).toUInt32.toUInt16.toUInt32.toInt32)), .val (.int ((((p2.toUInt32 >>> ((8 : Int32) &&& 31).toUInt32).toInt32) &&& (255 : Int32)).toUInt32.toUInt16.toUInt32.toInt32)), .val (.int ((((p2.toUInt32 >>> ((16 : Int32) &&& 31).toUInt32).toInt32) &&& (255 : Int32)).toUInt32.toUInt16.toUInt32.toInt32))] [(.int (0 : Int32)), (.ref b90), (.ref b90), (.ref b88), (.ref b88)])) _
        refine own_go (fun _ k => XS.iloadN X90.here hx rfl (hb hby d_m3_96) rfl k) ?_
        show own_Go p e below (T90.setTop (mkF m 97 #[.val (.int p1), .val (.int p2), .val (.int ((p2 &&& (255 : Int32)).toUInt32.toUInt16.toUInt32.toInt32)), .val (.int ((((p2.toUInt32 >>> ((8 : Int32) &&& 31).toUInt32).toInt32) &&& (255 : Int32)).toUInt32.toUInt16.toUInt32.toInt32)), .val (.int ((((p2.toUInt32 >>> ((16 : Int32) &&& 31).toUInt32).toInt32) &&& (255 : Int32)).toUInt32.toUInt16.toUInt32.toInt32))] [(.int ((p2 &&& (255 : Int32)).toUInt32.toUInt16.toUInt32.toInt32)), (.int (0 : Int32)), (.ref b90), (.ref b90), (.ref b88), (.ref b88)])) _
        obtain ⟨c92, A92, q92, S92, M92, Hs92, Gs92⟩ := id V90
        obtain ⟨T93, h93, X93, e93, W93, st93⟩ := stC X90 hx hZ e90 A92 (j := (0 : Int32)) (inb_of S92 ⟨by decide, by decide⟩) (g := (mkF m 97 #[.val (.int p1), .val (.int p2), .val (.int ((p2 &&& (255 : Int32)).toUInt32.toUInt16.toUInt32.toInt32)), .val (.int ((((p2.toUInt32 >>> ((8 : Int32) &&& 31).toUInt32).toInt32) &&& (255 : Int32)).toUInt32.toUInt16.toUInt32.toInt32)), .val (.int ((((p2.toUInt32 >>> ((16 : Int32) &&& 31).toUInt32).toInt32) &&& (255 : Int32)).toUInt32.toUInt16.toUInt32.toInt32))] [(.int ((p2 &&& (255 : Int32)).toUInt32.toUInt16.toUInt32.toInt32)), (.int (0 : Int32)), (.ref b90), (.ref b90), (.ref b88), (.ref b88)])) rfl rfl (hb hby d_m3_97)
        refine own_go st93 ?_
        have N93 := Fr.snoc X93 N0 (Nat.le_trans Z0 (Nat.le_trans E88.1 (Nat.le_of_eq g90.symm)))
        have f94 := (Safe.ext E90 C89.1 (Safe.new (Nat.le_of_eq g90.symm)))
        have C95 := C91.trans (CHr.wr W93 f94 C91.1)
        have V93 : Arv Z h93 b90 k90 .char (3 : Int32) [(.int (own_ch p2)), (.int (0 : Int32)), (.int (0 : Int32))] (.int (0 : Int32)) := Arv.set A92 q92 S92 M92 Hs92 Gs92 (fits_nar_char _) W93 0 rfl (Nat.le_of_ble_eq_true rfl)
        show own_Go p e below (T93.setTop (mkF m 98 #[.val (.int p1), .val (.int p2), .val (.int ((p2 &&& (255 : Int32)).toUInt32.toUInt16.toUInt32.toInt32)), .val (.int ((((p2.toUInt32 >>> ((8 : Int32) &&& 31).toUInt32).toInt32) &&& (255 : Int32)).toUInt32.toUInt16.toUInt32.toInt32)), .val (.int ((((p2.toUInt32 >>> ((16 : Int32) &&& 31).toUInt32).toInt32) &&& (255 : Int32)).toUInt32.toUInt16.toUInt32.toInt32))] [(.ref b90), (.ref b88), (.ref b88)])) _
        refine own_go (fun _ k => XS.dup X93.here hx rfl (hb hby d_m3_98) rfl rfl k) ?_
        show own_Go p e below (T93.setTop (mkF m 99 #[.val (.int p1), .val (.int p2), .val (.int ((p2 &&& (255 : Int32)).toUInt32.toUInt16.toUInt32.toInt32)), .val (.int ((((p2.toUInt32 >>> ((8 : Int32) &&& 31).toUInt32).toInt32) &&& (255 : Int32)).toUInt32.toUInt16.toUInt32.toInt32)), .val (.int ((((p2.toUInt32 >>> ((16 : Int32) &&& 31).toUInt32).toInt32) &&& (255 : Int32)).toUInt32.toUInt16.toUInt32.toInt32))] [(.ref b90), (.ref b90), (.ref b88), (.ref b88)])) _
        refine own_go (fun _ k => XS.iconst X93.here hx rfl (hb hby d_m3_99) k) ?_
        show own_Go p e below (T93.setTop (mkF m 100 #[.val (.int p1), .val (.int p2), .val (.int ((p2 &&& (255 : Int32)).toUInt32.toUInt16.toUInt32.toInt32)), .val (.int ((((p2.toUInt32 >>> ((8 : Int32) &&& 31).toUInt32).toInt32) &&& (255 : Int32)).toUInt32.toUInt16.toUInt32.toInt32)), .val (.int ((((p2.toUInt32 >>> ((16 : Int32) &&& 31).toUInt32).toInt32) &&& (255 : Int32)).toUInt32.toUInt16.toUInt32.toInt32))] [(.int (1 : Int32)), (.ref b90), (.ref b90), (.ref b88), (.ref b88)])) _
        refine own_go (fun _ k => XS.iloadN X93.here hx rfl (hb hby d_m3_100) rfl k) ?_
        show own_Go p e below (T93.setTop (mkF m 101 #[.val (.int p1), .val (.int p2), .val (.int ((p2 &&& (255 : Int32)).toUInt32.toUInt16.toUInt32.toInt32)), .val (.int ((((p2.toUInt32 >>> ((8 : Int32) &&& 31).toUInt32).toInt32) &&& (255 : Int32)).toUInt32.toUInt16.toUInt32.toInt32)), .val (.int ((((p2.toUInt32 >>> ((16 : Int32) &&& 31).toUInt32).toInt32) &&& (255 : Int32)).toUInt32.toUInt16.toUInt32.toInt32))] [(.int ((((p2.toUInt32 >>> ((8 : Int32) &&& 31).toUInt32).toInt32) &&& (255 : Int32)).toUInt32.toUInt16.toUInt32.toInt32)), (.int (1 : Int32)), (.ref b90), (.ref b90), (.ref b88), (.ref b88)])) _
        obtain ⟨c96, A96, q96, S96, M96, Hs96, Gs96⟩ := id V93
        obtain ⟨T97, h97, X97, e97, W97, st97⟩ := stC X93 hx hZ e93 A96 (j := (1 : Int32)) (inb_of S96 ⟨by decide, by decide⟩) (g := (mkF m 101 #[.val (.int p1), .val (.int p2), .val (.int ((p2 &&& (255 : Int32)).toUInt32.toUInt16.toUInt32.toInt32)), .val (.int ((((p2.toUInt32 >>> ((8 : Int32) &&& 31).toUInt32).toInt32) &&& (255 : Int32)).toUInt32.toUInt16.toUInt32.toInt32)), .val (.int ((((p2.toUInt32 >>> ((16 : Int32) &&& 31).toUInt32).toInt32) &&& (255 : Int32)).toUInt32.toUInt16.toUInt32.toInt32))] [(.int ((((p2.toUInt32 >>> ((8 : Int32) &&& 31).toUInt32).toInt32) &&& (255 : Int32)).toUInt32.toUInt16.toUInt32.toInt32)), (.int (1 : Int32)), (.ref b90), (.ref b90), (.ref b88), (.ref b88)])) rfl rfl (hb hby d_m3_101)
        refine own_go st97 ?_
        have N97 := Fr.snoc X97 N93 (Nat.le_trans Z0 (Nat.le_trans E88.1 (Nat.le_of_eq g90.symm)))
        have f98 := (Safe.wr W93 f94 C91.1 f94)
        have C99 := C95.trans (CHr.wr W97 f98 C95.1)
        have V97 : Arv Z h97 b90 k90 .char (3 : Int32) [(.int (own_ch p2)), (.int (own_ch (own_s p2 8))), (.int (0 : Int32))] (.int (0 : Int32)) := Arv.set A96 q96 S96 M96 Hs96 Gs96 (fits_nar_char _) W97 1 rfl (Nat.le_of_ble_eq_true rfl)
        show own_Go p e below (T97.setTop (mkF m 102 #[.val (.int p1), .val (.int p2), .val (.int ((p2 &&& (255 : Int32)).toUInt32.toUInt16.toUInt32.toInt32)), .val (.int ((((p2.toUInt32 >>> ((8 : Int32) &&& 31).toUInt32).toInt32) &&& (255 : Int32)).toUInt32.toUInt16.toUInt32.toInt32)), .val (.int ((((p2.toUInt32 >>> ((16 : Int32) &&& 31).toUInt32).toInt32) &&& (255 : Int32)).toUInt32.toUInt16.toUInt32.toInt32))] [(.ref b90), (.ref b88), (.ref b88)])) _
        refine own_go (fun _ k => XS.dup X97.here hx rfl (hb hby d_m3_102) rfl rfl k) ?_
        show own_Go p e below (T97.setTop (mkF m 103 #[.val (.int p1), .val (.int p2), .val (.int ((p2 &&& (255 : Int32)).toUInt32.toUInt16.toUInt32.toInt32)), .val (.int ((((p2.toUInt32 >>> ((8 : Int32) &&& 31).toUInt32).toInt32) &&& (255 : Int32)).toUInt32.toUInt16.toUInt32.toInt32)), .val (.int ((((p2.toUInt32 >>> ((16 : Int32) &&& 31).toUInt32).toInt32) &&& (255 : Int32)).toUInt32.toUInt16.toUInt32.toInt32))] [(.ref b90), (.ref b90), (.ref b88), (.ref b88)])) _
        refine own_go (fun _ k => XS.iconst X97.here hx rfl (hb hby d_m3_103) k) ?_
        show own_Go p e below (T97.setTop (mkF m 104 #[.val (.int p1), .val (.int p2), .val (.int ((p2 &&& (255 : Int32)).toUInt32.toUInt16.toUInt32.toInt32)), .val (.int ((((p2.toUInt32 >>> ((8 : Int32) &&& 31).toUInt32).toInt32) &&& (255 : Int32)).toUInt32.toUInt16.toUInt32.toInt32)), .val (.int ((((p2.toUInt32 >>> ((16 : Int32) &&& 31).toUInt32).toInt32) &&& (255 : Int32)).toUInt32.toUInt16.toUInt32.toInt32))] [(.int (2 : Int32)), (.ref b90), (.ref b90), (.ref b88), (.ref b88)])) _
        refine own_go (fun _ k => XS.iload X97.here hx rfl (hb hby d_m3_104) rfl k) ?_
        show own_Go p e below (T97.setTop (mkF m 106 #[.val (.int p1), .val (.int p2), .val (.int ((p2 &&& (255 : Int32)).toUInt32.toUInt16.toUInt32.toInt32)), .val (.int ((((p2.toUInt32 >>> ((8 : Int32) &&& 31).toUInt32).toInt32) &&& (255 : Int32)).toUInt32.toUInt16.toUInt32.toInt32)), .val (.int ((((p2.toUInt32 >>> ((16 : Int32) &&& 31).toUInt32).toInt32) &&& (255 : Int32)).toUInt32.toUInt16.toUInt32.toInt32))] [(.int ((((p2.toUInt32 >>> ((16 : Int32) &&& 31).toUInt32).toInt32) &&& (255 : Int32)).toUInt32.toUInt16.toUInt32.toInt32)), (.int (2 : Int32)), (.ref b90), (.ref b90), (.ref b88), (.ref b88)])) _
        obtain ⟨c100, A100, q100, S100, M100, Hs100, Gs100⟩ := id V97
        obtain ⟨T101, h101, X101, e101, W101, st101⟩ := stC X97 hx hZ e97 A100 (j := (2 : Int32)) (inb_of S100 ⟨by decide, by decide⟩) (g := (mkF m 106 #[.val (.int p1), .val (.int p2), .val (.int ((p2 &&& (255 : Int32)).toUInt32.toUInt16.toUInt32.toInt32)), .val (.int ((((p2.toUInt32 >>> ((8 : Int32) &&& 31).toUInt32).toInt32) &&& (255 : Int32)).toUInt32.toUInt16.toUInt32.toInt32)), .val (.int ((((p2.toUInt32 >>> ((16 : Int32) &&& 31).toUInt32).toInt32) &&& (255 : Int32)).toUInt32.toUInt16.toUInt32.toInt32))] [(.int ((((p2.toUInt32 >>> ((16 : Int32) &&& 31).toUInt32).toInt32) &&& (255 : Int32)).toUInt32.toUInt16.toUInt32.toInt32)), (.int (2 : Int32)), (.ref b90), (.ref b90), (.ref b88), (.ref b88)])) rfl rfl (hb hby d_m3_106)
        refine own_go st101 ?_
        have N101 := Fr.snoc X101 N97 (Nat.le_trans Z0 (Nat.le_trans E88.1 (Nat.le_of_eq g90.symm)))
        have f102 := (Safe.wr W97 f98 C95.1 f98)
        have C103 := C99.trans (CHr.wr W101 f102 C99.1)
        have V101 : Arv Z h101 b90 k90 .char (3 : Int32) [(.int (own_ch p2)), (.int (own_ch (own_s p2 8))), (.int (own_ch (own_s p2 16)))] (.int (0 : Int32)) := Arv.set A100 q100 S100 M100 Hs100 Gs100 (fits_nar_char _) W101 2 rfl (Nat.le_of_ble_eq_true rfl)
        show own_Go p e below (T101.setTop (mkF m 107 #[.val (.int p1), .val (.int p2), .val (.int ((p2 &&& (255 : Int32)).toUInt32.toUInt16.toUInt32.toInt32)), .val (.int ((((p2.toUInt32 >>> ((8 : Int32) &&& 31).toUInt32).toInt32) &&& (255 : Int32)).toUInt32.toUInt16.toUInt32.toInt32)), .val (.int ((((p2.toUInt32 >>> ((16 : Int32) &&& 31).toUInt32).toInt32) &&& (255 : Int32)).toUInt32.toUInt16.toUInt32.toInt32))] [(.ref b90), (.ref b88), (.ref b88)])) _
        have f104 := (((((O0.ext E88).ext E90).wr W93 (Nat.le_trans Z0 (Nat.le_trans E88.1 (Nat.le_of_eq g90.symm)))).wr W97 (Nat.le_trans Z0 (Nat.le_trans E88.1 (Nat.le_of_eq g90.symm)))).wr W101 (Nat.le_trans Z0 (Nat.le_trans E88.1 (Nat.le_of_eq g90.symm))))
        have z105 := (Nat.le_trans (Nat.le_trans (Nat.le_trans (Nat.le_trans E88.1 E90.1) (Keep.of_wr W93).1) (Keep.of_wr W97).1) (Keep.of_wr W101).1)
        have f106 := ((((A88.ext E90).wr W93).wr W97).wr W101)
        have ne107 : b88 ≠ b90 := Nat.ne_of_lt (Nat.lt_of_lt_of_le A88.lt (Nat.le_of_eq g90.symm))
        have f108 := ((((F88_value.ext E90).other W93 (Or.inl ne107)).other W97 (Or.inl ne107)).other W101 (Or.inl ne107))
        have f109 := ((((F88_coder.ext E90).other W93 (Or.inl ne107)).other W97 (Or.inl ne107)).other W101 (Or.inl ne107))
        obtain ⟨v110, _, ⟨T110, L110, k110, n110⟩, -, X110, ⟨Lc110, hQ110, l110, y110, z110⟩, st110⟩ := X101.specialBack hx (y := (⟨"java/lang/String", "<init>", "([C)V"⟩ : MethodName)) rfl hown (mvT hZ (hw _ (List.mem_of_getElem? (i := 18) rfl))) (mvT hZ (hw _ (List.mem_of_getElem? (i := 19) rfl))) (mvT hZ (hw _ (List.mem_of_getElem? (i := 20) rfl))) (by decide) (StrChars.Road.backV (W := 1) hZ (own_wStr hw) (kI := 4) (hw _ (List.mem_of_getElem? (i := 15) rfl)) (cs := ([(own_ch p2), (own_ch (own_s p2 8)), (own_ch (own_s p2 16))] : List Int32)) (bs := (([(own_ch p2), (own_ch (own_s p2 8)), (own_ch (own_s p2 16))] : List Int32)).map (fun c => c.toInt8.toInt32)) (n := 3) (Nat.le_trans Z0 (Nat.le_of_eq g88.symm)) (Nat.le_trans Z0 z105) f106 f108 f109 V101 (O2.ext f104.2) P5 rfl rfl (by decide) (by decide) (show ∀ c ∈ ([(own_ch p2), (own_ch (own_s p2 8)), (own_ch (own_s p2 16))] : List Int32), ¬ c < 0 ∧ ¬ (255 : Int32) < c from fun c hc => by simp only [List.mem_cons, List.not_mem_nil, or_false] at hc; rcases hc with rfl | rfl | rfl <;> exact own_chr _) rfl (by decide) (by decide)) (g := (mkF m 107 #[.val (.int p1), .val (.int p2), .val (.int ((p2 &&& (255 : Int32)).toUInt32.toUInt16.toUInt32.toInt32)), .val (.int ((((p2.toUInt32 >>> ((8 : Int32) &&& 31).toUInt32).toInt32) &&& (255 : Int32)).toUInt32.toUInt16.toUInt32.toInt32)), .val (.int ((((p2.toUInt32 >>> ((16 : Int32) &&& 31).toUInt32).toInt32) &&& (255 : Int32)).toUInt32.toUInt16.toUInt32.toInt32))] [(.ref b90), (.ref b88), (.ref b88)])) rfl (by rw [hml]; rfl) (Steps.refl _) (a := b88) (argsL := [(.ref b90)]) (rest := [(.ref b88)]) (lenOf pd_1 rfl) rfl (by show 2 * 0 + _ ≤ _; exact Nat.le_of_eq rfl) (hb hby d_m3_107) (fun _ _ => ⟨rfl, e101, (by decide : 2 + 1 ≤ _), (by decide : 7 + 3 ≤ _)⟩)
        dsimp only [Pt.U, Pt.locs, Pt.cells, Pt.slots] at X110 l110 y110 z110 st110 hQ110
        subst l110 y110 z110
        refine own_gos st110 ?_
        obtain ⟨rfl, Nq110, K110, Eq110, Fc110, t110, kt110, -, tg110, tn110, Fv110, Vt110⟩ := hQ110
        have f111 := (Safe.wr W101 f102 C99.1 (Safe.wr W97 f98 C95.1 (Safe.wr W93 f94 C91.1 (Safe.ext E90 C89.1 (Safe.ext E88 C0.1 (Safe.new (Nat.le_of_eq g88.symm)))))))
        have C112 := C103.trans (CHr.keep K110 (sfS f111 sf0) C103.1)
        have N110 := Fr.app N101 Nq110
        show own_Go p e below (T110.setTop (mkF m 110 #[.val (.int p1), .val (.int p2), .val (.int ((p2 &&& (255 : Int32)).toUInt32.toUInt16.toUInt32.toInt32)), .val (.int ((((p2.toUInt32 >>> ((8 : Int32) &&& 31).toUInt32).toInt32) &&& (255 : Int32)).toUInt32.toUInt16.toUInt32.toInt32)), .val (.int ((((p2.toUInt32 >>> ((16 : Int32) &&& 31).toUInt32).toInt32) &&& (255 : Int32)).toUInt32.toUInt16.toUInt32.toInt32))] [(.ref b88)])) _
        have hcd113 : StrChars.Road.CodA ([(own_ch p2), (own_ch (own_s p2 8)), (own_ch (own_s p2 16))] : List Int32) 0 (3 : Int32) (((([(own_ch p2), (own_ch (own_s p2 8)), (own_ch (own_s p2 16))] : List Int32)).map (fun c => c.toInt8.toInt32)).map Value.int) := StrChars.Road.codOf (n := 3) rfl (fun x hx => ((show ∀ c ∈ ([(own_ch p2), (own_ch (own_s p2 8)), (own_ch (own_s p2 16))] : List Int32), ¬ c < 0 ∧ ¬ (255 : Int32) < c from fun c hc => by simp only [List.mem_cons, List.not_mem_nil, or_false] at hc; rcases hc with rfl | rfl | rfl <;> exact own_chr _) x hx).2)
        have hbd113 := own_up _ (show ∀ c ∈ ([(own_ch p2), (own_ch (own_s p2 8)), (own_ch (own_s p2 16))] : List Int32), ¬ c < 0 ∧ ¬ (255 : Int32) < c from fun c hc => by simp only [List.mem_cons, List.not_mem_nil, or_false] at hc; rcases hc with rfl | rfl | rfl <;> exact own_chr _)
        have f114 := (((((((Keep.refl h0 []).ext E88).ext E90).wr W93 (Or.inr (Nat.le_trans E88.1 (Nat.le_of_eq g90.symm)))).wr W97 (Or.inr (Nat.le_trans E88.1 (Nat.le_of_eq g90.symm)))).wr W101 (Or.inr (Nat.le_trans E88.1 (Nat.le_of_eq g90.symm)))).trans K110 (allS (Or.inr (Nat.le_of_eq g88.symm)) all0))
        refine own_finW (v := (some (.ref b88))) X110 hh hZ hS0 (by rw [(rfl : T110.heap = T110.heap)]; exact (Nat.zero_le _)) (fun h => by rw [hrt] at h; cases h) hlk (fun fs hr => retR X110 hx hrt (by rfl) rfl rfl (hb hby d_m3_110) hr) (QQ := QT Z (own_text p1 p2) h0 n0) ?_ own_hEL (rfl : T110.heap = T110.heap) (C112) (by decide) (by decide)
        exact ⟨b88, t110, _, _, _, rfl, N110, f114, (Nat.le_of_eq g88.symm), Eq110, Fv110, Fc110, Vt110, by unfold own_text; rw [if_neg hc36, if_neg hc45, if_neg hc64]; exact hcd113⟩

def QTk (Z : State) (a1 a3 : Addr) (kv : Value) (h0 : Heap) (n0 : Nat) (v : Option Value) (h : Heap) (L : List Loc) : Prop := v = none ∧ Fr n0 L ∧ Keep h0 h [a1] ∧ Fld Z h a1 "com/example/sequela/sequela/Lexer$Token" "kind" "Lcom/example/sequela/sequela/Lexer$Kind;" kv ∧ Fld Z h a1 "com/example/sequela/sequela/Lexer$Token" "text" "Ljava/lang/String;" (.ref a3)
theorem d_prog_20_m1_0 : decode prog_20_method_1_code 0 = .ok (.aload_n 0, 1) := by decide +kernel
theorem d_prog_20_m1_1 : decode prog_20_method_1_code 1 = .ok (.invokespecial 1, 3) := by decide +kernel
theorem pd_2 : parseMethodDescriptor "()V" = some ⟨[], none⟩ := by decide +kernel
theorem d_prog_20_m1_4 : decode prog_20_method_1_code 4 = .ok (.aload_n 0, 1) := by decide +kernel
theorem d_prog_20_m1_5 : decode prog_20_method_1_code 5 = .ok (.aload_n 1, 1) := by decide +kernel
theorem d_prog_20_m1_6 : decode prog_20_method_1_code 6 = .ok (.putfield 7, 3) := by decide +kernel
theorem d_prog_20_m1_9 : decode prog_20_method_1_code 9 = .ok (.aload_n 0, 1) := by decide +kernel
theorem d_prog_20_m1_10 : decode prog_20_method_1_code 10 = .ok (.aload_n 2, 1) := by decide +kernel
theorem d_prog_20_m1_11 : decode prog_20_method_1_code 11 = .ok (.putfield 13, 3) := by decide +kernel
theorem d_prog_20_m1_14 : decode prog_20_method_1_code 14 = .ok (.aload_n 0, 1) := by decide +kernel
theorem d_prog_20_m1_15 : decode prog_20_method_1_code 15 = .ok (.iload_n 3, 1) := by decide +kernel
theorem d_prog_20_m1_16 : decode prog_20_method_1_code 16 = .ok (.putfield 17, 3) := by decide +kernel
theorem d_prog_20_m1_19 : decode prog_20_method_1_code 19 = .ok (.return_, 1) := by decide +kernel
theorem pn_3 : plainName "com/example/sequela/sequela/Lexer$Token" = true := by first | (simp [plainName, overriddenIn]; done) | decide +kernel
theorem ef_rm_tok (m : MethodId) (x0 : Addr) (x2 : Addr) (x3 : Int32) (kv : Value) (r_kv : kv.isRef = true) : entryFrame m #[(.ref x0), kv, (.ref x2), (.int x3)] 4 = mkF m 0 #[.val (.ref x0), .val kv, .val (.ref x2), .val (.int x3)] [] := by
  cases kv <;> first | (cases r_kv; done) | skip
  all_goals  first | (simp [entryFrame, mkF, argsToLocals, Value.category]; done) | rfl
set_option maxRecDepth 65536 in
set_option maxHeartbeats 40000000 in
theorem rm_tok (l : Launch) (Z : State) (a0 : Array Value) (hw : ∀ d ∈ tables_1, d.before a0 Z = true) (ws : List Jvm.Cond) (a1 : Addr) (kv : Value) (a3 : Addr) (p4 : Int32) (h0 : Heap) (n0 : Nat) (O0 : Old Z n0 h0) (rk : kv.isRef = true) (E_a : Exa Z h0 a1 "com/example/sequela/sequela/Lexer$Token") (F_kind : Fld Z h0 a1 "com/example/sequela/sequela/Lexer$Token" "kind" "Lcom/example/sequela/sequela/Lexer$Kind;" .null) (F_text : Fld Z h0 a1 "com/example/sequela/sequela/Lexer$Token" "text" "Ljava/lang/String;" .null) (F_index : Fld Z h0 a1 "com/example/sequela/sequela/Lexer$Token" "index" "I" (.int (0 : Int32))) (g_a : n0 ≤ a1) :
    MetFree l (⟨"com/example/sequela/sequela/Lexer$Token", "<init>", "(Lcom/example/sequela/sequela/Lexer$Kind;Ljava/lang/String;I)V"⟩ : MethodName) (head1 (Jvm.Cond.code (⟨"com/example/sequela/sequela/Lexer$Token", "<init>", "(Lcom/example/sequela/sequela/Lexer$Kind;Ljava/lang/String;I)V"⟩ : MethodName) prog_20_method_1_code 4 none :: ws) ({ frames := 2, cells := 0, slots := 0, locals := 24 } : Room)) (fun a U => a = #[(.ref a1), kv, (.ref a3), (.int p4)] ∧ Z.Warmed39 U.vm ∧ U.heap = h0) (fun _ _ _ _ _ => True) (fun _ U o U' => ∃ v L, o = .returned v ∧ QTk Z a1 a3 kv h0 n0 v U'.heap L ∧ FrameEnd U o U' L 0 0) := by
  refine MetFree.of_bodySF (plainFor_of_name pn_3) hisR ?_
  intro p e s m args below meth c s₁ Bd hml0 hP hK
  obtain ⟨rfl, hZ, hh⟩ := hP
  have hx := Bd.exec
  have hby := Bd.bytes
  have hml : c.maxLocals = 4 := hml0
  have hown : s.vm.findClass "com/example/sequela/sequela/Lexer$Token" = some m.cls := findClass_of_methodNamed Bd.named
  have hnm := (name_of_methodNamed Bd.named Bd.method).1
  have hrt := Bd.returns
  have hlk : meth.locks = false := Bd.notSynchronized
  have X0 : Stand p l e ({ frames := 2, cells := 0, slots := 0, locals := 24 } : Room) s m #[(.ref a1), kv, (.ref a3), (.int p4)] below meth c s₁ [] 0 0 := Stand.of_body Bd
  have e0 : s₁.heap = h0 := by rw [← hh, Bd.state]; rfl
  have N0 := Fr.nil n0
  have Z0 : n0 ≤ h0.size := O0.1 ▸ O0.2.1
  show own_Go p e below (s₁.setTop (entryFrame m #[(.ref a1), kv, (.ref a3), (.int p4)] 4)) (fun o U' => ∃ v L, o = .returned v ∧ QTk Z a1 a3 kv h0 n0 v U'.heap L ∧ FrameEnd s o U' L 0 0)
  refine own_go (fun _ k => castTop (ef_rm_tok m a1 a3 p4 kv rk) k) ?_
  show own_Go p e below (s₁.setTop (mkF m 0 #[.val (.ref a1), .val kv, .val (.ref a3), .val (.int p4)] [])) _
  refine own_go (fun _ k => XS.aloadN X0.here hx rfl (hb hby d_prog_20_m1_0) rfl rfl k) ?_
  show own_Go p e below (s₁.setTop (mkF m 1 #[.val (.ref a1), .val kv, .val (.ref a3), .val (.int p4)] [(.ref a1)])) _
  obtain ⟨v115, _, ⟨T115, L115, k115, n115⟩, -, X115, ⟨Lc115, hQ115, l115, y115, z115⟩, st115⟩ := X0.specialBack hx (y := (⟨"java/lang/Record", "<init>", "()V"⟩ : MethodName)) rfl hown (mvT hZ (hw _ (List.mem_of_getElem? (i := 39) rfl))) (mvT hZ (hw _ (List.mem_of_getElem? (i := 40) rfl))) (mvT hZ (hw _ (List.mem_of_getElem? (i := 43) rfl))) (by decide) (backOf (W := 0) (rm_rec l Z a0 hw [] a1 h0 n0 O0 ) hZ (hw _ (List.mem_of_getElem? (i := 43) rfl)) (hw _ (List.mem_of_getElem? (i := 42) rfl)) (by decide) (by decide)) (g := (mkF m 1 #[.val (.ref a1), .val kv, .val (.ref a3), .val (.int p4)] [(.ref a1)])) rfl (by rw [hml]; rfl) (Steps.refl _) (a := a1) (argsL := []) (rest := []) (lenOf pd_2 rfl) rfl (by show 2 * 0 + _ ≤ _; exact Nat.le_of_eq rfl) (hb hby d_prog_20_m1_1) (fun _ _ => ⟨rfl, e0, (by decide : 0 + 0 ≤ _), (by decide : 0 + 0 ≤ _)⟩)
  dsimp only [Pt.U, Pt.locs, Pt.cells, Pt.slots] at X115 l115 y115 z115 st115 hQ115
  subst l115 y115 z115
  refine own_gos st115 ?_
  obtain ⟨rfl, Nq115, e115⟩ := hQ115
  have N115 := Fr.app N0 Nq115
  show own_Go p e below (T115.setTop (mkF m 4 #[.val (.ref a1), .val kv, .val (.ref a3), .val (.int p4)] [])) _
  refine own_go (fun _ k => XS.aloadN X115.here hx rfl (hb hby d_prog_20_m1_4) rfl rfl k) ?_
  show own_Go p e below (T115.setTop (mkF m 5 #[.val (.ref a1), .val kv, .val (.ref a3), .val (.int p4)] [(.ref a1)])) _
  refine own_go (fun _ k => XS.aloadN X115.here hx rfl (hb hby d_prog_20_m1_5) rfl rk k) ?_
  show own_Go p e below (T115.setTop (mkF m 6 #[.val (.ref a1), .val kv, .val (.ref a3), .val (.int p4)] [kv, (.ref a1)])) _
  obtain ⟨T116, h116, X116, e116, W116, st116⟩ := putF X115 hx hZ hown (host := "") (Or.inl (hw _ (List.mem_of_getElem? (i := 45) rfl))) Via.refl e115 F_kind E_a (Or.inr ⟨(hw _ (List.mem_of_getElem? (i := 46) rfl)), rfl, hnm⟩) (hw _ (List.mem_of_getElem? (i := 2) rfl)) (ty := (.object "com/example/sequela/sequela/Lexer$Kind")) (by decide) rfl (own_fitR rk) (g := (mkF m 6 #[.val (.ref a1), .val kv, .val (.ref a3), .val (.int p4)] [kv, (.ref a1)])) rfl rfl (hb hby d_prog_20_m1_6)
  refine own_go st116 ?_
  have N116 := Fr.snoc X116 N115 g_a
  have Fw116 := F_kind.same W116
  show own_Go p e below (T116.setTop (mkF m 9 #[.val (.ref a1), .val kv, .val (.ref a3), .val (.int p4)] [])) _
  refine own_go (fun _ k => XS.aloadN X116.here hx rfl (hb hby d_prog_20_m1_9) rfl rfl k) ?_
  show own_Go p e below (T116.setTop (mkF m 10 #[.val (.ref a1), .val kv, .val (.ref a3), .val (.int p4)] [(.ref a1)])) _
  refine own_go (fun _ k => XS.aloadN X116.here hx rfl (hb hby d_prog_20_m1_10) rfl rfl k) ?_
  show own_Go p e below (T116.setTop (mkF m 11 #[.val (.ref a1), .val kv, .val (.ref a3), .val (.int p4)] [(.ref a3), (.ref a1)])) _
  have f117 := (F_text.other W116 (Or.inr (slot_ne (Or.inr (hw _ (List.mem_of_getElem? (i := 48) rfl))) (Or.inr (hw _ (List.mem_of_getElem? (i := 46) rfl))) (by decide) (t := (.object "java/lang/String")) (t' := (.object "com/example/sequela/sequela/Lexer$Kind")) (by decide) (by decide))))
  obtain ⟨T118, h118, X118, e118, W118, st118⟩ := putF X116 hx hZ hown (host := "") (Or.inl (hw _ (List.mem_of_getElem? (i := 47) rfl))) Via.refl e116 f117 (E_a.wr W116) (Or.inr ⟨(hw _ (List.mem_of_getElem? (i := 48) rfl)), rfl, hnm⟩) (hw _ (List.mem_of_getElem? (i := 2) rfl)) (ty := (.object "java/lang/String")) (by decide) rfl rfl (g := (mkF m 11 #[.val (.ref a1), .val kv, .val (.ref a3), .val (.int p4)] [(.ref a3), (.ref a1)])) rfl rfl (hb hby d_prog_20_m1_11)
  refine own_go st118 ?_
  have N118 := Fr.snoc X118 N116 g_a
  have Fw118 := f117.same W118
  show own_Go p e below (T118.setTop (mkF m 14 #[.val (.ref a1), .val kv, .val (.ref a3), .val (.int p4)] [])) _
  refine own_go (fun _ k => XS.aloadN X118.here hx rfl (hb hby d_prog_20_m1_14) rfl rfl k) ?_
  show own_Go p e below (T118.setTop (mkF m 15 #[.val (.ref a1), .val kv, .val (.ref a3), .val (.int p4)] [(.ref a1)])) _
  refine own_go (fun _ k => XS.iloadN X118.here hx rfl (hb hby d_prog_20_m1_15) rfl k) ?_
  show own_Go p e below (T118.setTop (mkF m 16 #[.val (.ref a1), .val kv, .val (.ref a3), .val (.int p4)] [(.int p4), (.ref a1)])) _
  have f119 := ((F_index.other W116 (Or.inr (slot_ne (Or.inr (hw _ (List.mem_of_getElem? (i := 50) rfl))) (Or.inr (hw _ (List.mem_of_getElem? (i := 46) rfl))) (by decide) (t := .int) (t' := (.object "com/example/sequela/sequela/Lexer$Kind")) (by decide) (by decide)))).other W118 (Or.inr (slot_ne (Or.inr (hw _ (List.mem_of_getElem? (i := 50) rfl))) (Or.inr (hw _ (List.mem_of_getElem? (i := 48) rfl))) (by decide) (t := .int) (t' := (.object "java/lang/String")) (by decide) (by decide))))
  obtain ⟨T120, h120, X120, e120, W120, st120⟩ := putF X118 hx hZ hown (host := "") (Or.inl (hw _ (List.mem_of_getElem? (i := 49) rfl))) Via.refl e118 f119 ((E_a.wr W116).wr W118) (Or.inr ⟨(hw _ (List.mem_of_getElem? (i := 50) rfl)), rfl, hnm⟩) (hw _ (List.mem_of_getElem? (i := 2) rfl)) (ty := .int) (by decide) rfl rfl (g := (mkF m 16 #[.val (.ref a1), .val kv, .val (.ref a3), .val (.int p4)] [(.int p4), (.ref a1)])) rfl rfl (hb hby d_prog_20_m1_16)
  refine own_go st120 ?_
  have N120 := Fr.snoc X120 N118 g_a
  have Fw120 := f119.same W120
  show own_Go p e below (T120.setTop (mkF m 19 #[.val (.ref a1), .val kv, .val (.ref a3), .val (.int p4)] [])) _
  have f121 := ((((Keep.refl h0 [a1]).wr W116 (Or.inl (List.mem_of_getElem? (i := 0) rfl))).wr W118 (Or.inl (List.mem_of_getElem? (i := 0) rfl))).wr W120 (Or.inl (List.mem_of_getElem? (i := 0) rfl)))
  have f122 := ((Fw116.other W118 (Or.inr (slot_ne (Or.inr (hw _ (List.mem_of_getElem? (i := 46) rfl))) (Or.inr (hw _ (List.mem_of_getElem? (i := 48) rfl))) (by decide) (t := (.object "com/example/sequela/sequela/Lexer$Kind")) (t' := (.object "java/lang/String")) (by decide) (by decide)))).other W120 (Or.inr (slot_ne (Or.inr (hw _ (List.mem_of_getElem? (i := 46) rfl))) (Or.inr (hw _ (List.mem_of_getElem? (i := 50) rfl))) (by decide) (t := (.object "com/example/sequela/sequela/Lexer$Kind")) (t' := .int) (by decide) (by decide))))
  have f123 := (Fw118.other W120 (Or.inr (slot_ne (Or.inr (hw _ (List.mem_of_getElem? (i := 48) rfl))) (Or.inr (hw _ (List.mem_of_getElem? (i := 50) rfl))) (by decide) (t := (.object "java/lang/String")) (t' := .int) (by decide) (by decide))))
  refine own_fin (v := none) X120 (fun _ => rfl) hlk (fun fs hr => X120.returnOut hx hrt (hb hby d_prog_20_m1_19) hr) (QQ := QTk Z a1 a3 kv h0 n0) ?_ (by decide) (by decide)
  rw [e120]
  exact ⟨rfl, N120, f121, f122, f123⟩

theorem d_jdk_42_m66_0 : decode jdk_42_method_66_code 0 = .ok (.aload_n 0, 1) := by decide +kernel
theorem d_jdk_42_m66_1 : decode jdk_42_method_66_code 1 = .ok (.aload_n 1, 1) := by decide +kernel
theorem d_jdk_42_m66_2 : decode jdk_42_method_66_code 2 = .ok (.if_acmp .ne 5, 3) := by decide +kernel
theorem d_jdk_42_m66_7 : decode jdk_42_method_66_code 7 = .ok (.aload_n 1, 1) := by decide +kernel
theorem d_jdk_42_m66_8 : decode jdk_42_method_66_code 8 = .ok (.instanceof 10, 3) := by decide +kernel
theorem d_jdk_42_m66_11 : decode jdk_42_method_66_code 11 = .ok (.ifCond .eq 43, 3) := by decide +kernel
theorem d_jdk_42_m66_54 : decode jdk_42_method_66_code 54 = .ok (.iconst 0, 1) := by decide +kernel
theorem d_jdk_42_m66_55 : decode jdk_42_method_66_code 55 = .ok (.ireturn, 1) := by decide +kernel
theorem ef_rm_eq0 (m : MethodId) (x0 : Addr) : entryFrame m #[(.ref x0), .null] 3 = mkF m 0 #[.val (.ref x0), .val .null, .unset] [] := by
   first | (simp [entryFrame, mkF, argsToLocals, Value.category]; done) | rfl
set_option maxRecDepth 65536 in
set_option maxHeartbeats 40000000 in
theorem rm_eq0 (l : Launch) (Z : State) (a0 : Array Value) (hw : ∀ d ∈ tables_1, d.before a0 Z = true) (ws : List Jvm.Cond) (a1 : Addr) (h0 : Heap) (n0 : Nat) (O0 : Old Z n0 h0) :
    MetFree l (⟨"java/lang/String", "equals", "(Ljava/lang/Object;)Z"⟩ : MethodName) (head1 (Jvm.Cond.code (⟨"java/lang/String", "equals", "(Ljava/lang/Object;)Z"⟩ : MethodName) jdk_42_method_66_code 3 (some .boolean) :: ws) ({ frames := 0, cells := 0, slots := 0, locals := 0 } : Room)) (fun a U => a = #[(.ref a1), .null] ∧ Z.Warmed39 U.vm ∧ U.heap = h0) (fun _ _ _ _ _ => True) (fun _ U o U' => ∃ v L, o = .returned v ∧ QPure (some (.int (0 : Int32))) h0 n0 v U'.heap L ∧ FrameEnd U o U' L 0 0) := by
  refine MetFree.of_bodySF (plainFor_of_name pn_1) hisR ?_
  intro p e s m args below meth c s₁ Bd hml0 hP hK
  obtain ⟨rfl, hZ, hh⟩ := hP
  have hx := Bd.exec
  have hby := Bd.bytes
  have hml : c.maxLocals = 3 := hml0
  have hown : s.vm.findClass "java/lang/String" = some m.cls := findClass_of_methodNamed Bd.named
  have hnm := (name_of_methodNamed Bd.named Bd.method).1
  have hrt := Bd.returns
  have hlk : meth.locks = false := Bd.notSynchronized
  have X0 : Stand p l e ({ frames := 0, cells := 0, slots := 0, locals := 0 } : Room) s m #[(.ref a1), .null] below meth c s₁ [] 0 0 := Stand.of_body Bd
  have e0 : s₁.heap = h0 := by rw [← hh, Bd.state]; rfl
  have N0 := Fr.nil n0
  have Z0 : n0 ≤ h0.size := O0.1 ▸ O0.2.1
  show own_Go p e below (s₁.setTop (entryFrame m #[(.ref a1), .null] 3)) (fun o U' => ∃ v L, o = .returned v ∧ QPure (some (.int (0 : Int32))) h0 n0 v U'.heap L ∧ FrameEnd s o U' L 0 0)
  refine own_go (fun _ k => castTop (ef_rm_eq0 m a1) k) ?_
  show own_Go p e below (s₁.setTop (mkF m 0 #[.val (.ref a1), .val .null, .unset] [])) _
  refine own_go (fun _ k => XS.aloadN X0.here hx rfl (hb hby d_jdk_42_m66_0) rfl rfl k) ?_
  show own_Go p e below (s₁.setTop (mkF m 1 #[.val (.ref a1), .val .null, .unset] [(.ref a1)])) _
  refine own_go (fun _ k => XS.aloadN X0.here hx rfl (hb hby d_jdk_42_m66_1) rfl rfl k) ?_
  show own_Go p e below (s₁.setTop (mkF m 2 #[.val (.ref a1), .val .null, .unset] [.null, (.ref a1)])) _
  refine own_go (fun _ k => Jvm.RoadKit.acmp (g := (mkF m 2 #[.val (.ref a1), .val .null, .unset] [.null, (.ref a1)])) X0 hx rfl rfl rfl (pc0 := 2) (pc' := 7) (same := false) rfl (hb hby d_jdk_42_m66_2) rfl (decide_eq_false nofun) (by decide) (by decide) k) ?_
  show own_Go p e below (s₁.setTop (mkF m 7 #[.val (.ref a1), .val .null, .unset] [])) _
  refine own_go (fun _ k => XS.aloadN X0.here hx rfl (hb hby d_jdk_42_m66_7) rfl rfl k) ?_
  show own_Go p e below (s₁.setTop (mkF m 8 #[.val (.ref a1), .val .null, .unset] [.null])) _
  refine own_go (fun _ k => X0.instanceofNull hx (g := (mkF m 8 #[.val (.ref a1), .val .null, .unset] [.null])) rfl rfl (hb hby d_jdk_42_m66_8) _ k) ?_
  show own_Go p e below (s₁.setTop (mkF m 11 #[.val (.ref a1), .val .null, .unset] [(.int (0 : Int32))])) _
  refine own_go (fun _ k => XS.ifYes X0.here hx rfl (pc0 := 11) (pc' := 54) rfl (hb hby d_jdk_42_m66_11) rfl ((if0 _ _).trans (teq (by decide : (0 : Int32) = (0 : Int32))).1) (by decide) (by decide) k) ?_
  show own_Go p e below (s₁.setTop (mkF m 54 #[.val (.ref a1), .val .null, .unset] [])) _
  refine own_go (fun _ k => XS.iconst X0.here hx rfl (hb hby d_jdk_42_m66_54) k) ?_
  show own_Go p e below (s₁.setTop (mkF m 55 #[.val (.ref a1), .val .null, .unset] [(.int (0 : Int32))])) _
  refine own_fin (v := (some (.int (nar .boolean (0 : Int32))))) X0 (fun h => by rw [hrt] at h; cases h) hlk (fun fs hr => retN X0 hx (t := .boolean) hrt (by simp) (hb hby d_jdk_42_m66_55) hr) (QQ := QPure (some (.int (0 : Int32))) h0 n0) ?_ (by decide) (by decide)
  rw [e0]
  exact ⟨rfl, N0, rfl⟩

theorem own_wEq {Z : State} {a0 : Array Value} (hw : ∀ d ∈ tables_1, d.before a0 Z = true) : ∀ d ∈ StrChars.Road.wordsEq, d.before a0 Z = true := fun d hd => hw d ((by decide +kernel : ∀ d ∈ StrChars.Road.wordsEq, d ∈ tables_1) d hd)
theorem d_prog_20_m2_0 : decode prog_20_method_2_code 0 = .ok (.aload_n 0, 1) := by decide +kernel
theorem d_prog_20_m2_1 : decode prog_20_method_2_code 1 = .ok (.getfield 7, 3) := by decide +kernel
theorem d_prog_20_m2_4 : decode prog_20_method_2_code 4 = .ok (.aload_n 1, 1) := by decide +kernel
theorem d_prog_20_m2_5 : decode prog_20_method_2_code 5 = .ok (.if_acmp .ne 18, 3) := by decide +kernel
theorem d_prog_20_m2_8 : decode prog_20_method_2_code 8 = .ok (.aload_n 0, 1) := by decide +kernel
theorem d_prog_20_m2_9 : decode prog_20_method_2_code 9 = .ok (.getfield 13, 3) := by decide +kernel
theorem d_prog_20_m2_12 : decode prog_20_method_2_code 12 = .ok (.aload_n 2, 1) := by decide +kernel
theorem d_prog_20_m2_13 : decode prog_20_method_2_code 13 = .ok (.invokevirtual 21, 3) := by decide +kernel
theorem pd_3 : parseMethodDescriptor "(Ljava/lang/Object;)Z" = some ⟨[(.object "java/lang/Object")], some .boolean⟩ := by decide +kernel
theorem d_prog_20_m2_16 : decode prog_20_method_2_code 16 = .ok (.ifCond .eq 7, 3) := by decide +kernel
theorem d_prog_20_m2_23 : decode prog_20_method_2_code 23 = .ok (.iconst 0, 1) := by decide +kernel
theorem d_prog_20_m2_24 : decode prog_20_method_2_code 24 = .ok (.ireturn, 1) := by decide +kernel
theorem ef_rm_is0 (m : MethodId) (x0 : Addr) (k2 : Value) (r_k2 : k2.isRef = true) : entryFrame m #[(.ref x0), k2, .null] 3 = mkF m 0 #[.val (.ref x0), .val k2, .val .null] [] := by
  cases k2 <;> first | (cases r_k2; done) | skip
  all_goals  first | (simp [entryFrame, mkF, argsToLocals, Value.category]; done) | rfl
set_option maxRecDepth 65536 in
set_option maxHeartbeats 40000000 in
theorem rm_is0 (l : Launch) (Z : State) (a0 : Array Value) (hw : ∀ d ∈ tables_1, d.before a0 Z = true) (ws : List Jvm.Cond) (a1 : Addr) (kv : Value) (k2 : Value) (a2 : Addr) (t2 : Addr) (kt2 : ClassId) (M2 : Int32) (us2 : List Value) (cs : List Int32) (h0 : Heap) (n0 : Nat) (O0 : Old Z n0 h0) (rk : kv.isRef = true) (rk2 : k2.isRef = true) (E_a : Exa Z h0 a1 "com/example/sequela/sequela/Lexer$Token") (F_k : Fld Z h0 a1 "com/example/sequela/sequela/Lexer$Token" "kind" "Lcom/example/sequela/sequela/Lexer$Kind;" kv) (F_t : Fld Z h0 a1 "com/example/sequela/sequela/Lexer$Token" "text" "Ljava/lang/String;" (.ref a2)) (E_a2 : Exa Z h0 a2 "java/lang/String") (Fv_a2 : Fld Z h0 a2 "java/lang/String" "value" "[B" (.ref t2)) (Fc_a2 : Fld Z h0 a2 "java/lang/String" "coder" "B" (.int (0 : Int32))) (V_t2 : Arv Z h0 t2 kt2 .byte M2 us2 (.int (0 : Int32))) (hC_a2 : StrChars.Road.CodA cs 0 M2 us2) (hb_a2 : ∀ c ∈ cs, ¬ c < 0 ∧ ¬ (65535 : Int32) < c) (hl_a2 : (cs).length ≤ 4000) :
    MetFree l (⟨"com/example/sequela/sequela/Lexer$Token", "is", "(Lcom/example/sequela/sequela/Lexer$Kind;Ljava/lang/String;)Z"⟩ : MethodName) (head1 (Jvm.Cond.code (⟨"com/example/sequela/sequela/Lexer$Token", "is", "(Lcom/example/sequela/sequela/Lexer$Kind;Ljava/lang/String;)Z"⟩ : MethodName) prog_20_method_2_code 3 (some .boolean) :: ws) ({ frames := 1, cells := 0, slots := 0, locals := 14 } : Room)) (fun a U => a = #[(.ref a1), k2, .null] ∧ Z.Warmed39 U.vm ∧ U.heap = h0) (fun _ _ _ _ _ => True) (fun _ U o U' => ∃ v L, o = .returned v ∧ QPure (some (.int (0 : Int32))) h0 n0 v U'.heap L ∧ FrameEnd U o U' L 0 0) := by
  refine MetFree.of_bodySF (plainFor_of_name pn_3) hisR ?_
  intro p e s m args below meth c s₁ Bd hml0 hP hK
  obtain ⟨rfl, hZ, hh⟩ := hP
  have hx := Bd.exec
  have hby := Bd.bytes
  have hml : c.maxLocals = 3 := hml0
  have hown : s.vm.findClass "com/example/sequela/sequela/Lexer$Token" = some m.cls := findClass_of_methodNamed Bd.named
  have hnm := (name_of_methodNamed Bd.named Bd.method).1
  have hrt := Bd.returns
  have hlk : meth.locks = false := Bd.notSynchronized
  have X0 : Stand p l e ({ frames := 1, cells := 0, slots := 0, locals := 14 } : Room) s m #[(.ref a1), k2, .null] below meth c s₁ [] 0 0 := Stand.of_body Bd
  have e0 : s₁.heap = h0 := by rw [← hh, Bd.state]; rfl
  have N0 := Fr.nil n0
  have Z0 : n0 ≤ h0.size := O0.1 ▸ O0.2.1
  show own_Go p e below (s₁.setTop (entryFrame m #[(.ref a1), k2, .null] 3)) (fun o U' => ∃ v L, o = .returned v ∧ QPure (some (.int (0 : Int32))) h0 n0 v U'.heap L ∧ FrameEnd s o U' L 0 0)
  refine own_go (fun _ k => castTop (ef_rm_is0 m a1 k2 rk2) k) ?_
  show own_Go p e below (s₁.setTop (mkF m 0 #[.val (.ref a1), .val k2, .val .null] [])) _
  refine own_go (fun _ k => XS.aloadN X0.here hx rfl (hb hby d_prog_20_m2_0) rfl rfl k) ?_
  show own_Go p e below (s₁.setTop (mkF m 1 #[.val (.ref a1), .val k2, .val .null] [(.ref a1)])) _
  obtain ⟨T124, X124, e124, st124⟩ := getF X0 hx hZ hown (host := "") (Or.inl (hw _ (List.mem_of_getElem? (i := 45) rfl))) Via.refl e0 F_k (g := (mkF m 1 #[.val (.ref a1), .val k2, .val .null] [(.ref a1)])) rfl rfl (hb hby d_prog_20_m2_1)
  refine own_go st124 ?_
  show own_Go p e below (T124.setTop (mkF m 4 #[.val (.ref a1), .val k2, .val .null] [kv])) _
  refine own_go (fun _ k => XS.aloadN X124.here hx rfl (hb hby d_prog_20_m2_4) rfl rk2 k) ?_
  show own_Go p e below (T124.setTop (mkF m 5 #[.val (.ref a1), .val k2, .val .null] [k2, kv])) _
  by_cases hc125 : kv = k2
  · skip
    refine own_go (fun _ k => Jvm.RoadKit.acmp (g := (mkF m 5 #[.val (.ref a1), .val k2, .val .null] [k2, kv])) X124 hx rfl rk rk2 (pc0 := 5) (pc' := 8) (same := true) rfl (hb hby d_prog_20_m2_5) rfl (decide_eq_true hc125) (by decide) (by decide) k) ?_
    show own_Go p e below (T124.setTop (mkF m 8 #[.val (.ref a1), .val k2, .val .null] [])) _
    refine own_go (fun _ k => XS.aloadN X124.here hx rfl (hb hby d_prog_20_m2_8) rfl rfl k) ?_
    show own_Go p e below (T124.setTop (mkF m 9 #[.val (.ref a1), .val k2, .val .null] [(.ref a1)])) _
    obtain ⟨T126, X126, e126, st126⟩ := getF X124 hx hZ hown (host := "") (Or.inl (hw _ (List.mem_of_getElem? (i := 47) rfl))) Via.refl e124 F_t (g := (mkF m 9 #[.val (.ref a1), .val k2, .val .null] [(.ref a1)])) rfl rfl (hb hby d_prog_20_m2_9)
    refine own_go st126 ?_
    show own_Go p e below (T126.setTop (mkF m 12 #[.val (.ref a1), .val k2, .val .null] [(.ref a2)])) _
    refine own_go (fun _ k => XS.aloadN X126.here hx rfl (hb hby d_prog_20_m2_12) rfl rfl k) ?_
    show own_Go p e below (T126.setTop (mkF m 13 #[.val (.ref a1), .val k2, .val .null] [.null, (.ref a2)])) _
    obtain ⟨cq127, kq127, q127a, q127b, q127c⟩ := isOf hZ e126 E_a2
    obtain ⟨v127, _, ⟨T127, L127, k127, n127⟩, -, X127, ⟨Lc127, hQ127, l127, y127, z127⟩, st127⟩ := X126.virtualBack hx (y := (⟨"java/lang/String", "equals", "(Ljava/lang/Object;)Z"⟩ : MethodName)) (z := (⟨"java/lang/String", "equals", "(Ljava/lang/Object;)Z"⟩ : MethodName)) hown (mvT hZ (hw _ (List.mem_of_getElem? (i := 60) rfl))) (mvT hZ (hw _ (List.mem_of_getElem? (i := 61) rfl))) (notFace_of_selects (args := #[]) (mvT hZ (hw _ (List.mem_of_getElem? (i := 63) rfl)))) (mvT hZ (hw _ (List.mem_of_getElem? (i := 63) rfl))) (mvT hZ (hw _ (List.mem_of_getElem? (i := 62) rfl))) (by decide) (backOf (W := 0) (rm_eq0 l Z a0 hw [] a2 h0 n0 O0 ) hZ (hw _ (List.mem_of_getElem? (i := 64) rfl)) (hw _ (List.mem_of_getElem? (i := 16) rfl)) (by decide) (by decide)) q127a q127c (g := (mkF m 13 #[.val (.ref a1), .val k2, .val .null] [.null, (.ref a2)])) rfl (by rw [hml]; rfl) (Steps.refl _) (argsL := [.null]) (rest := []) (lenOf pd_3 rfl) rfl (by show 2 * 0 + _ ≤ _; exact Nat.le_of_eq rfl) (hb hby d_prog_20_m2_13) (fun _ _ => ⟨rfl, e126, (by decide : 0 + 0 ≤ _), (by decide : 0 + 0 ≤ _)⟩)
    dsimp only [Pt.U, Pt.locs, Pt.cells, Pt.slots] at X127 l127 y127 z127 st127 hQ127
    subst l127 y127 z127
    refine own_gos st127 ?_
    obtain ⟨rfl, Nq127, e127⟩ := hQ127
    have N127 := Fr.app N0 Nq127
    show own_Go p e below (T127.setTop (mkF m 16 #[.val (.ref a1), .val k2, .val .null] [(.int (0 : Int32))])) _
    refine own_go (fun _ k => XS.ifYes X127.here hx rfl (pc0 := 16) (pc' := 23) rfl (hb hby d_prog_20_m2_16) rfl ((if0 _ _).trans (teq (by decide : (0 : Int32) = (0 : Int32))).1) (by decide) (by decide) k) ?_
    show own_Go p e below (T127.setTop (mkF m 23 #[.val (.ref a1), .val k2, .val .null] [])) _
    refine own_go (fun _ k => XS.iconst X127.here hx rfl (hb hby d_prog_20_m2_23) k) ?_
    show own_Go p e below (T127.setTop (mkF m 24 #[.val (.ref a1), .val k2, .val .null] [(.int (0 : Int32))])) _
    refine own_fin (v := (some (.int (nar .boolean (0 : Int32))))) X127 (fun h => by rw [hrt] at h; cases h) hlk (fun fs hr => retN X127 hx (t := .boolean) hrt (by simp) (hb hby d_prog_20_m2_24) hr) (QQ := QPure (some (.int (0 : Int32))) h0 n0) ?_ (by decide) (by decide)
    rw [e127]
    exact ⟨rfl, N127, rfl⟩
  · skip
    refine own_go (fun _ k => Jvm.RoadKit.acmp (g := (mkF m 5 #[.val (.ref a1), .val k2, .val .null] [k2, kv])) X124 hx rfl rk rk2 (pc0 := 5) (pc' := 23) (same := false) rfl (hb hby d_prog_20_m2_5) rfl (decide_eq_false hc125) (by decide) (by decide) k) ?_
    show own_Go p e below (T124.setTop (mkF m 23 #[.val (.ref a1), .val k2, .val .null] [])) _
    refine own_go (fun _ k => XS.iconst X124.here hx rfl (hb hby d_prog_20_m2_23) k) ?_
    show own_Go p e below (T124.setTop (mkF m 24 #[.val (.ref a1), .val k2, .val .null] [(.int (0 : Int32))])) _
    refine own_fin (v := (some (.int (nar .boolean (0 : Int32))))) X124 (fun h => by rw [hrt] at h; cases h) hlk (fun fs hr => retN X124 hx (t := .boolean) hrt (by simp) (hb hby d_prog_20_m2_24) hr) (QQ := QPure (some (.int (0 : Int32))) h0 n0) ?_ (by decide) (by decide)
    rw [e124]
    exact ⟨rfl, N0, rfl⟩

theorem d_prog_20_m2_19 : decode prog_20_method_2_code 19 = .ok (.iconst 1, 1) := by decide +kernel
theorem d_prog_20_m2_20 : decode prog_20_method_2_code 20 = .ok (.goto 4, 3) := by decide +kernel
theorem ef_rm_is1 (m : MethodId) (x0 : Addr) (x2 : Addr) (k2 : Value) (r_k2 : k2.isRef = true) : entryFrame m #[(.ref x0), k2, (.ref x2)] 3 = mkF m 0 #[.val (.ref x0), .val k2, .val (.ref x2)] [] := by
  cases k2 <;> first | (cases r_k2; done) | skip
  all_goals  first | (simp [entryFrame, mkF, argsToLocals, Value.category]; done) | rfl
set_option maxRecDepth 65536 in
set_option maxHeartbeats 40000000 in
theorem rm_is1 (l : Launch) (Z : State) (a0 : Array Value) (hw : ∀ d ∈ tables_1, d.before a0 Z = true) (ws : List Jvm.Cond) (a1 : Addr) (kv : Value) (k2 : Value) (a2 : Addr) (t2 : Addr) (kt2 : ClassId) (M2 : Int32) (us2 : List Value) (cs : List Int32) (a3 : Addr) (t3 : Addr) (kt3 : ClassId) (M3 : Int32) (us3 : List Value) (ds : List Int32) (G1 : Int32) (h0 : Heap) (n0 : Nat) (O0 : Old Z n0 h0) (rk : kv.isRef = true) (rk2 : k2.isRef = true) (E_a : Exa Z h0 a1 "com/example/sequela/sequela/Lexer$Token") (F_k : Fld Z h0 a1 "com/example/sequela/sequela/Lexer$Token" "kind" "Lcom/example/sequela/sequela/Lexer$Kind;" kv) (F_t : Fld Z h0 a1 "com/example/sequela/sequela/Lexer$Token" "text" "Ljava/lang/String;" (.ref a2)) (E_a2 : Exa Z h0 a2 "java/lang/String") (Fv_a2 : Fld Z h0 a2 "java/lang/String" "value" "[B" (.ref t2)) (Fc_a2 : Fld Z h0 a2 "java/lang/String" "coder" "B" (.int (0 : Int32))) (V_t2 : Arv Z h0 t2 kt2 .byte M2 us2 (.int (0 : Int32))) (hC_a2 : StrChars.Road.CodA cs 0 M2 us2) (hb_a2 : ∀ c ∈ cs, ¬ c < 0 ∧ ¬ (65535 : Int32) < c) (hl_a2 : (cs).length ≤ 4000) (E_a3 : Exa Z h0 a3 "java/lang/String") (Fv_a3 : Fld Z h0 a3 "java/lang/String" "value" "[B" (.ref t3)) (Fc_a3 : Fld Z h0 a3 "java/lang/String" "coder" "B" (.int (0 : Int32))) (V_t3 : Arv Z h0 t3 kt3 .byte M3 us3 (.int (0 : Int32))) (hC_a3 : StrChars.Road.CodA ds 0 M3 us3) (hb_a3 : ∀ c ∈ ds, ¬ c < 0 ∧ ¬ (65535 : Int32) < c) (hl_a3 : (ds).length ≤ 4000) (O2 : Sta Z Z.heap "java/lang/String" "COMPACT_STRINGS" "Z" (.int G1)) (P5 : ¬ (G1 = (0 : Int32))) :
    MetFree l (⟨"com/example/sequela/sequela/Lexer$Token", "is", "(Lcom/example/sequela/sequela/Lexer$Kind;Ljava/lang/String;)Z"⟩ : MethodName) (head1 (Jvm.Cond.code (⟨"com/example/sequela/sequela/Lexer$Token", "is", "(Lcom/example/sequela/sequela/Lexer$Kind;Ljava/lang/String;)Z"⟩ : MethodName) prog_20_method_2_code 3 (some .boolean) :: ws) ({ frames := 2, cells := 0, slots := 0, locals := 28 } : Room)) (fun a U => a = #[(.ref a1), k2, (.ref a3)] ∧ Z.Warmed39 U.vm ∧ U.heap = h0) (fun _ _ _ _ _ => True) (fun _ U o U' => ∃ v L, o = .returned v ∧ QPure (some (.int (own_isr kv k2 cs ds))) h0 n0 v U'.heap L ∧ FrameEnd U o U' L 0 0) := by
  refine MetFree.of_bodySF (plainFor_of_name pn_3) hisR ?_
  intro p e s m args below meth c s₁ Bd hml0 hP hK
  obtain ⟨rfl, hZ, hh⟩ := hP
  have hx := Bd.exec
  have hby := Bd.bytes
  have hml : c.maxLocals = 3 := hml0
  have hown : s.vm.findClass "com/example/sequela/sequela/Lexer$Token" = some m.cls := findClass_of_methodNamed Bd.named
  have hnm := (name_of_methodNamed Bd.named Bd.method).1
  have hrt := Bd.returns
  have hlk : meth.locks = false := Bd.notSynchronized
  have X0 : Stand p l e ({ frames := 2, cells := 0, slots := 0, locals := 28 } : Room) s m #[(.ref a1), k2, (.ref a3)] below meth c s₁ [] 0 0 := Stand.of_body Bd
  have e0 : s₁.heap = h0 := by rw [← hh, Bd.state]; rfl
  have N0 := Fr.nil n0
  have Z0 : n0 ≤ h0.size := O0.1 ▸ O0.2.1
  show own_Go p e below (s₁.setTop (entryFrame m #[(.ref a1), k2, (.ref a3)] 3)) (fun o U' => ∃ v L, o = .returned v ∧ QPure (some (.int (own_isr kv k2 cs ds))) h0 n0 v U'.heap L ∧ FrameEnd s o U' L 0 0)
  refine own_go (fun _ k => castTop (ef_rm_is1 m a1 a3 k2 rk2) k) ?_
  show own_Go p e below (s₁.setTop (mkF m 0 #[.val (.ref a1), .val k2, .val (.ref a3)] [])) _
  refine own_go (fun _ k => XS.aloadN X0.here hx rfl (hb hby d_prog_20_m2_0) rfl rfl k) ?_
  show own_Go p e below (s₁.setTop (mkF m 1 #[.val (.ref a1), .val k2, .val (.ref a3)] [(.ref a1)])) _
  obtain ⟨T128, X128, e128, st128⟩ := getF X0 hx hZ hown (host := "") (Or.inl (hw _ (List.mem_of_getElem? (i := 45) rfl))) Via.refl e0 F_k (g := (mkF m 1 #[.val (.ref a1), .val k2, .val (.ref a3)] [(.ref a1)])) rfl rfl (hb hby d_prog_20_m2_1)
  refine own_go st128 ?_
  show own_Go p e below (T128.setTop (mkF m 4 #[.val (.ref a1), .val k2, .val (.ref a3)] [kv])) _
  refine own_go (fun _ k => XS.aloadN X128.here hx rfl (hb hby d_prog_20_m2_4) rfl rk2 k) ?_
  show own_Go p e below (T128.setTop (mkF m 5 #[.val (.ref a1), .val k2, .val (.ref a3)] [k2, kv])) _
  by_cases hc129 : kv = k2
  · skip
    refine own_go (fun _ k => Jvm.RoadKit.acmp (g := (mkF m 5 #[.val (.ref a1), .val k2, .val (.ref a3)] [k2, kv])) X128 hx rfl rk rk2 (pc0 := 5) (pc' := 8) (same := true) rfl (hb hby d_prog_20_m2_5) rfl (decide_eq_true hc129) (by decide) (by decide) k) ?_
    show own_Go p e below (T128.setTop (mkF m 8 #[.val (.ref a1), .val k2, .val (.ref a3)] [])) _
    refine own_go (fun _ k => XS.aloadN X128.here hx rfl (hb hby d_prog_20_m2_8) rfl rfl k) ?_
    show own_Go p e below (T128.setTop (mkF m 9 #[.val (.ref a1), .val k2, .val (.ref a3)] [(.ref a1)])) _
    obtain ⟨T130, X130, e130, st130⟩ := getF X128 hx hZ hown (host := "") (Or.inl (hw _ (List.mem_of_getElem? (i := 47) rfl))) Via.refl e128 F_t (g := (mkF m 9 #[.val (.ref a1), .val k2, .val (.ref a3)] [(.ref a1)])) rfl rfl (hb hby d_prog_20_m2_9)
    refine own_go st130 ?_
    show own_Go p e below (T130.setTop (mkF m 12 #[.val (.ref a1), .val k2, .val (.ref a3)] [(.ref a2)])) _
    refine own_go (fun _ k => XS.aloadN X130.here hx rfl (hb hby d_prog_20_m2_12) rfl rfl k) ?_
    show own_Go p e below (T130.setTop (mkF m 13 #[.val (.ref a1), .val k2, .val (.ref a3)] [(.ref a3), (.ref a2)])) _
    obtain ⟨cq131, kq131, q131a, q131b, q131c⟩ := isOf hZ e130 E_a2
    obtain ⟨v131, _, ⟨T131, L131, k131, n131⟩, -, X131, ⟨Lc131, hQ131, l131, y131, z131⟩, st131⟩ := X130.virtualBack hx (y := (⟨"java/lang/String", "equals", "(Ljava/lang/Object;)Z"⟩ : MethodName)) (z := (⟨"java/lang/String", "equals", "(Ljava/lang/Object;)Z"⟩ : MethodName)) hown (mvT hZ (hw _ (List.mem_of_getElem? (i := 60) rfl))) (mvT hZ (hw _ (List.mem_of_getElem? (i := 61) rfl))) (notFace_of_selects (args := #[]) (mvT hZ (hw _ (List.mem_of_getElem? (i := 63) rfl)))) (mvT hZ (hw _ (List.mem_of_getElem? (i := 63) rfl))) (mvT hZ (hw _ (List.mem_of_getElem? (i := 62) rfl))) (by decide) (StrChars.Road.eqW (W := 0) hZ (own_wEq hw) (kI := 4) (hw _ (List.mem_of_getElem? (i := 15) rfl)) E_a2 Fv_a2 Fc_a2 V_t2 hC_a2 hb_a2 hl_a2 E_a3 Fv_a3 Fc_a3 V_t3 hC_a3 hb_a3 hl_a3 (O2.ext O0.2) P5 (by decide) (by decide)) q131a q131c (g := (mkF m 13 #[.val (.ref a1), .val k2, .val (.ref a3)] [(.ref a3), (.ref a2)])) rfl (by rw [hml]; rfl) (Steps.refl _) (argsL := [(.ref a3)]) (rest := []) (lenOf pd_3 rfl) rfl (by show 2 * 0 + _ ≤ _; exact Nat.le_of_eq rfl) (hb hby d_prog_20_m2_13) (fun _ _ => ⟨rfl, e130, (by decide : 0 + 0 ≤ _), (by decide : 0 + 0 ≤ _)⟩)
    dsimp only [Pt.U, Pt.locs, Pt.cells, Pt.slots] at X131 l131 y131 z131 st131 hQ131
    subst l131 y131 z131
    refine own_gos st131 ?_
    obtain ⟨hv131, rfl, e131⟩ := hQ131
    obtain rfl : v131 = some (.int (own_eqr cs ds)) := by rcases hv131 with ⟨q, r⟩ | ⟨q, r⟩ <;> rw [q] <;> simp [own_eqr, r]
    have Nq131 : Fr n0 ([] : List Loc) := Fr.nil n0
    have N131 := Fr.app N0 Nq131
    show own_Go p e below (T131.setTop (mkF m 16 #[.val (.ref a1), .val k2, .val (.ref a3)] [(.int (own_eqr cs ds))])) _
    by_cases hc132 : (own_eqr cs ds) = (0 : Int32)
    · skip
      refine own_go (fun _ k => XS.ifYes X131.here hx rfl (pc0 := 16) (pc' := 23) rfl (hb hby d_prog_20_m2_16) rfl ((if0 _ _).trans (teq hc132).1) (by decide) (by decide) k) ?_
      show own_Go p e below (T131.setTop (mkF m 23 #[.val (.ref a1), .val k2, .val (.ref a3)] [])) _
      refine own_go (fun _ k => XS.iconst X131.here hx rfl (hb hby d_prog_20_m2_23) k) ?_
      show own_Go p e below (T131.setTop (mkF m 24 #[.val (.ref a1), .val k2, .val (.ref a3)] [(.int (0 : Int32))])) _
      refine own_fin (v := (some (.int (nar .boolean (0 : Int32))))) X131 (fun h => by rw [hrt] at h; cases h) hlk (fun fs hr => retN X131 hx (t := .boolean) hrt (by simp) (hb hby d_prog_20_m2_24) hr) (QQ := QPure (some (.int (own_isr kv k2 cs ds))) h0 n0) ?_ (by decide) (by decide)
      rw [e131]
      exact ⟨congrArg (fun r => some (Value.int r)) (own_isr_n2 hc129 hc132).symm, N131, rfl⟩
    · skip
      refine own_go (fun _ k => XS.ifNo X131.here hx rfl (hb hby d_prog_20_m2_16) rfl ((if0 _ _).trans (feq hc132).1) k) ?_
      show own_Go p e below (T131.setTop (mkF m 19 #[.val (.ref a1), .val k2, .val (.ref a3)] [])) _
      refine own_go (fun _ k => XS.iconst X131.here hx rfl (hb hby d_prog_20_m2_19) k) ?_
      show own_Go p e below (T131.setTop (mkF m 20 #[.val (.ref a1), .val k2, .val (.ref a3)] [(.int (1 : Int32))])) _
      refine own_go (fun _ k => XS.goto X131.here hx rfl (pc0 := 20) (pc' := 24) rfl (hb hby d_prog_20_m2_20) (by decide) (by decide) k) ?_
      show own_Go p e below (T131.setTop (mkF m 24 #[.val (.ref a1), .val k2, .val (.ref a3)] [(.int (1 : Int32))])) _
      refine own_fin (v := (some (.int (nar .boolean (1 : Int32))))) X131 (fun h => by rw [hrt] at h; cases h) hlk (fun fs hr => retN X131 hx (t := .boolean) hrt (by simp) (hb hby d_prog_20_m2_24) hr) (QQ := QPure (some (.int (own_isr kv k2 cs ds))) h0 n0) ?_ (by decide) (by decide)
      rw [e131]
      exact ⟨congrArg (fun r => some (Value.int r)) (own_isr_y hc129 hc132).symm, N131, rfl⟩
  · skip
    refine own_go (fun _ k => Jvm.RoadKit.acmp (g := (mkF m 5 #[.val (.ref a1), .val k2, .val (.ref a3)] [k2, kv])) X128 hx rfl rk rk2 (pc0 := 5) (pc' := 23) (same := false) rfl (hb hby d_prog_20_m2_5) rfl (decide_eq_false hc129) (by decide) (by decide) k) ?_
    show own_Go p e below (T128.setTop (mkF m 23 #[.val (.ref a1), .val k2, .val (.ref a3)] [])) _
    refine own_go (fun _ k => XS.iconst X128.here hx rfl (hb hby d_prog_20_m2_23) k) ?_
    show own_Go p e below (T128.setTop (mkF m 24 #[.val (.ref a1), .val k2, .val (.ref a3)] [(.int (0 : Int32))])) _
    refine own_fin (v := (some (.int (nar .boolean (0 : Int32))))) X128 (fun h => by rw [hrt] at h; cases h) hlk (fun fs hr => retN X128 hx (t := .boolean) hrt (by simp) (hb hby d_prog_20_m2_24) hr) (QQ := QPure (some (.int (own_isr kv k2 cs ds))) h0 n0) ?_ (by decide) (by decide)
    rw [e128]
    exact ⟨congrArg (fun r => some (Value.int r)) (own_isr_n1 hc129).symm, N0, rfl⟩

def QQ0 (n0 : Nat) (v : Option Value) (h : Heap) (L : List Loc) : Prop := v = some (.int 1) ∧ Fr n0 L
theorem pd_4 : parseMethodDescriptor "(I)Lcom/example/sequela/sequela/Lexer$Kind;" = some ⟨[.int], some (.object "com/example/sequela/sequela/Lexer$Kind")⟩ := by decide +kernel
theorem pd_5 : parseMethodDescriptor "(II)Ljava/lang/String;" = some ⟨[.int, .int], some (.object "java/lang/String")⟩ := by decide +kernel
theorem pd_6 : parseMethodDescriptor "(Lcom/example/sequela/sequela/Lexer$Kind;Ljava/lang/String;I)V" = some ⟨[(.object "com/example/sequela/sequela/Lexer$Kind"), (.object "java/lang/String"), .int], none⟩ := by decide +kernel
theorem pd_7 : parseMethodDescriptor "(Lcom/example/sequela/sequela/Lexer$Kind;Ljava/lang/String;)Z" = some ⟨[(.object "com/example/sequela/sequela/Lexer$Kind"), (.object "java/lang/String")], some .boolean⟩ := by decide +kernel
theorem ef_rm_law (m : MethodId) (x0 : Int32) (x1 : Int32) (x2 : Int32) (x3 : Int32) (x4 : Int32) : entryFrame m #[(.int x0), (.int x1), (.int x2), (.int x3), (.int x4)] maxLocals = mkF m 0 #[.val (.int x0), .val (.int x1), .val (.int x2), .val (.int x3), .val (.int x4), .unset, .unset, .unset, .unset, .unset, .unset, .unset, .unset, .unset, .unset, .unset, .unset] [] := by
   first | (simp [entryFrame, mkF, argsToLocals, Value.category, maxLocals]; done) | rfl
set_option maxRecDepth 65536 in
set_option maxHeartbeats 40000000 in
theorem rm_law (l : Launch) (Z : State) (a0 : Array Value) (hw : ∀ d ∈ tables_1, d.before a0 Z = true) (ws : List Jvm.Cond) (p1 : Int32) (p2 : Int32) (p3 : Int32) (p4 : Int32) (p5 : Int32) (G1 : Int32) (z0 : Addr) (z1 : Addr) (z2 : Addr) (z3 : Addr) (z4 : Addr) (z5 : Addr) (h0 : Heap) (n0 : Nat) (O0 : Old Z n0 h0) (O2 : Sta Z Z.heap "java/lang/String" "COMPACT_STRINGS" "Z" (.int G1)) (P5 : ¬ (G1 = (0 : Int32))) (S0 : Sta Z Z.heap "com/example/sequela/sequela/Lexer$Kind" "NAME" "Lcom/example/sequela/sequela/Lexer$Kind;" (.ref z0)) (S1 : Sta Z Z.heap "com/example/sequela/sequela/Lexer$Kind" "KEYWORD" "Lcom/example/sequela/sequela/Lexer$Kind;" (.ref z1)) (S2 : Sta Z Z.heap "com/example/sequela/sequela/Lexer$Kind" "NUMBER" "Lcom/example/sequela/sequela/Lexer$Kind;" (.ref z2)) (S3 : Sta Z Z.heap "com/example/sequela/sequela/Lexer$Kind" "STRING" "Lcom/example/sequela/sequela/Lexer$Kind;" (.ref z3)) (S4 : Sta Z Z.heap "com/example/sequela/sequela/Lexer$Kind" "SYMBOL" "Lcom/example/sequela/sequela/Lexer$Kind;" (.ref z4)) (S5 : Sta Z Z.heap "com/example/sequela/sequela/Lexer$Kind" "END" "Lcom/example/sequela/sequela/Lexer$Kind;" (.ref z5)) (hz : [z0, z1, z2, z3, z4, z5].Nodup) :
    MetFree l x (head1 (Jvm.Cond.code x code maxLocals ret :: ws) room_1) (fun a U => a = #[(.int p1), (.int p2), (.int p3), (.int p4), (.int p5)] ∧ Z.Warmed39 U.vm ∧ U.heap = h0 ∧ CHv Z own_EL U.vm h0) (fun _ _ _ _ _ => True) (fun _ U o U' => ∃ v L, o = .returned v ∧ QQ0 n0 v U'.heap L ∧ CHr Z own_EL U.vm U.heap U'.vm U'.heap ∧ ReturnedEndW U o U' L 24 1152) := by
  refine MetFree.of_bodySF (plainFor_of_name pn_2) hisR ?_
  intro p e s m args below meth c s₁ Bd hml0 hP hK
  obtain ⟨rfl, hZ, hh, hC0⟩ := hP
  have hx := Bd.exec
  have hby := Bd.bytes
  have hml : c.maxLocals = maxLocals := hml0
  have hown : s.vm.findClass "com/example/sequela/sequela/TokenIsPinLaw" = some m.cls := findClass_of_methodNamed Bd.named
  have hnm := (name_of_methodNamed Bd.named Bd.method).1
  have hrt := Bd.returns
  have hlk : meth.locks = false := Bd.notSynchronized
  have X0 : Stand p l e room_1 (s.setVm s.vm) m #[(.int p1), (.int p2), (.int p3), (.int p4), (.int p5)] below meth c s₁ [] 0 0 := Stand.of_body Bd
  have e0 : s₁.heap = h0 := by rw [← hh, Bd.state]; rfl
  have N0 := Fr.nil n0
  have Z0 : n0 ≤ h0.size := O0.1 ▸ O0.2.1
  have hS0 : s.Since s.vm 0 := (State.WarmedH.refl s).since 0
  have C0 : CHr Z own_EL s.vm h0 s.vm h0 := CHr.refl hC0
  have own_wS := own_wSt hw
  have own_hEL := own_hELt hw
  show own_Go p e below (s₁.setTop (entryFrame m #[(.int p1), (.int p2), (.int p3), (.int p4), (.int p5)] maxLocals)) (fun o U' => ∃ v L, o = .returned v ∧ QQ0 n0 v U'.heap L ∧ CHr Z own_EL s.vm s.heap U'.vm U'.heap ∧ ReturnedEndW s o U' L 24 1152)
  refine own_go (fun _ k => castTop (ef_rm_law m p1 p2 p3 p4 p5) k) ?_
  show own_Go p e below (s₁.setTop (mkF m 0 #[.val (.int p1), .val (.int p2), .val (.int p3), .val (.int p4), .val (.int p5), .unset, .unset, .unset, .unset, .unset, .unset, .unset, .unset, .unset, .unset, .unset, .unset] [])) _
  refine own_go (fun _ k => XS.iloadN X0.here hx rfl (hb hby at_0) rfl k) ?_
  show own_Go p e below (s₁.setTop (mkF m 1 #[.val (.int p1), .val (.int p2), .val (.int p3), .val (.int p4), .val (.int p5), .unset, .unset, .unset, .unset, .unset, .unset, .unset, .unset, .unset, .unset, .unset, .unset] [(.int p1)])) _
  refine own_go (fun _ k => X0.ldcInt hx hown (mvT hZ (hw _ (List.mem_of_getElem? (i := 0) rfl))) (g := (mkF m 1 #[.val (.int p1), .val (.int p2), .val (.int p3), .val (.int p4), .val (.int p5), .unset, .unset, .unset, .unset, .unset, .unset, .unset, .unset, .unset, .unset, .unset, .unset] [(.int p1)])) rfl (hb hby at_1) _ k) ?_
  show own_Go p e below (s₁.setTop (mkF m 3 #[.val (.int p1), .val (.int p2), .val (.int p3), .val (.int p4), .val (.int p5), .unset, .unset, .unset, .unset, .unset, .unset, .unset, .unset, .unset, .unset, .unset, .unset] [(.int (2147483647 : Int32)), (.int p1)])) _
  refine own_go (fun _ k => XS.iand X0.here hx rfl (hb hby at_3) rfl k) ?_
  show own_Go p e below (s₁.setTop (mkF m 4 #[.val (.int p1), .val (.int p2), .val (.int p3), .val (.int p4), .val (.int p5), .unset, .unset, .unset, .unset, .unset, .unset, .unset, .unset, .unset, .unset, .unset, .unset] [(.int (p1 &&& (2147483647 : Int32)))])) _
  refine own_go (fun _ k => XS.bipush X0.here hx rfl (hb hby at_4) k) ?_
  show own_Go p e below (s₁.setTop (mkF m 6 #[.val (.int p1), .val (.int p2), .val (.int p3), .val (.int p4), .val (.int p5), .unset, .unset, .unset, .unset, .unset, .unset, .unset, .unset, .unset, .unset, .unset, .unset] [(.int (6 : Int32)), (.int (p1 &&& (2147483647 : Int32)))])) _
  refine own_go (fun _ k => Jvm.RoadKit.iremM (g := (mkF m 6 #[.val (.int p1), .val (.int p2), .val (.int p3), .val (.int p4), .val (.int p5), .unset, .unset, .unset, .unset, .unset, .unset, .unset, .unset, .unset, .unset, .unset, .unset] [(.int (6 : Int32)), (.int (p1 &&& (2147483647 : Int32)))])) X0 hx rfl (hb hby at_6) rfl (by decide) k) ?_
  show own_Go p e below (s₁.setTop (mkF m 7 #[.val (.int p1), .val (.int p2), .val (.int p3), .val (.int p4), .val (.int p5), .unset, .unset, .unset, .unset, .unset, .unset, .unset, .unset, .unset, .unset, .unset, .unset] [(.int ((p1 &&& (2147483647 : Int32)) % (6 : Int32)))])) _
  refine own_go (fun _ k => XS.istore X0.here hx rfl (hb hby at_7) rfl (l' := #[.val (.int p1), .val (.int p2), .val (.int p3), .val (.int p4), .val (.int p5), .val (.int ((p1 &&& (2147483647 : Int32)) % (6 : Int32))), .unset, .unset, .unset, .unset, .unset, .unset, .unset, .unset, .unset, .unset, .unset]) rfl k) ?_
  show own_Go p e below (s₁.setTop (mkF m 9 #[.val (.int p1), .val (.int p2), .val (.int p3), .val (.int p4), .val (.int p5), .val (.int ((p1 &&& (2147483647 : Int32)) % (6 : Int32))), .unset, .unset, .unset, .unset, .unset, .unset, .unset, .unset, .unset, .unset, .unset] [])) _
  refine own_go (fun _ k => XS.iloadN X0.here hx rfl (hb hby at_9) rfl k) ?_
  show own_Go p e below (s₁.setTop (mkF m 10 #[.val (.int p1), .val (.int p2), .val (.int p3), .val (.int p4), .val (.int p5), .val (.int ((p1 &&& (2147483647 : Int32)) % (6 : Int32))), .unset, .unset, .unset, .unset, .unset, .unset, .unset, .unset, .unset, .unset, .unset] [(.int p1)])) _
  refine own_go (fun _ k => XS.bipush X0.here hx rfl (hb hby at_10) k) ?_
  show own_Go p e below (s₁.setTop (mkF m 12 #[.val (.int p1), .val (.int p2), .val (.int p3), .val (.int p4), .val (.int p5), .val (.int ((p1 &&& (2147483647 : Int32)) % (6 : Int32))), .unset, .unset, .unset, .unset, .unset, .unset, .unset, .unset, .unset, .unset, .unset] [(.int (8 : Int32)), (.int p1)])) _
  refine own_go (fun _ k => XS.iushr X0.here hx rfl (hb hby at_12) rfl k) ?_
  show own_Go p e below (s₁.setTop (mkF m 13 #[.val (.int p1), .val (.int p2), .val (.int p3), .val (.int p4), .val (.int p5), .val (.int ((p1 &&& (2147483647 : Int32)) % (6 : Int32))), .unset, .unset, .unset, .unset, .unset, .unset, .unset, .unset, .unset, .unset, .unset] [(.int ((p1.toUInt32 >>> ((8 : Int32) &&& 31).toUInt32).toInt32))])) _
  refine own_go (fun _ k => XS.iconst X0.here hx rfl (hb hby at_13) k) ?_
  show own_Go p e below (s₁.setTop (mkF m 14 #[.val (.int p1), .val (.int p2), .val (.int p3), .val (.int p4), .val (.int p5), .val (.int ((p1 &&& (2147483647 : Int32)) % (6 : Int32))), .unset, .unset, .unset, .unset, .unset, .unset, .unset, .unset, .unset, .unset, .unset] [(.int (3 : Int32)), (.int ((p1.toUInt32 >>> ((8 : Int32) &&& 31).toUInt32).toInt32))])) _
  refine own_go (fun _ k => XS.iand X0.here hx rfl (hb hby at_14) rfl k) ?_
  show own_Go p e below (s₁.setTop (mkF m 15 #[.val (.int p1), .val (.int p2), .val (.int p3), .val (.int p4), .val (.int p5), .val (.int ((p1 &&& (2147483647 : Int32)) % (6 : Int32))), .unset, .unset, .unset, .unset, .unset, .unset, .unset, .unset, .unset, .unset, .unset] [(.int (((p1.toUInt32 >>> ((8 : Int32) &&& 31).toUInt32).toInt32) &&& (3 : Int32)))])) _
  refine own_go (fun _ k => XS.istore X0.here hx rfl (hb hby at_15) rfl (l' := #[.val (.int p1), .val (.int p2), .val (.int p3), .val (.int p4), .val (.int p5), .val (.int ((p1 &&& (2147483647 : Int32)) % (6 : Int32))), .val (.int (((p1.toUInt32 >>> ((8 : Int32) &&& 31).toUInt32).toInt32) &&& (3 : Int32))), .unset, .unset, .unset, .unset, .unset, .unset, .unset, .unset, .unset, .unset]) rfl k) ?_
  show own_Go p e below (s₁.setTop (mkF m 17 #[.val (.int p1), .val (.int p2), .val (.int p3), .val (.int p4), .val (.int p5), .val (.int ((p1 &&& (2147483647 : Int32)) % (6 : Int32))), .val (.int (((p1.toUInt32 >>> ((8 : Int32) &&& 31).toUInt32).toInt32) &&& (3 : Int32))), .unset, .unset, .unset, .unset, .unset, .unset, .unset, .unset, .unset, .unset] [])) _
  refine own_go (fun _ k => XS.iloadN X0.here hx rfl (hb hby at_17) rfl k) ?_
  show own_Go p e below (s₁.setTop (mkF m 18 #[.val (.int p1), .val (.int p2), .val (.int p3), .val (.int p4), .val (.int p5), .val (.int ((p1 &&& (2147483647 : Int32)) % (6 : Int32))), .val (.int (((p1.toUInt32 >>> ((8 : Int32) &&& 31).toUInt32).toInt32) &&& (3 : Int32))), .unset, .unset, .unset, .unset, .unset, .unset, .unset, .unset, .unset, .unset] [(.int p3)])) _
  refine own_go (fun _ k => X0.ldcInt hx hown (mvT hZ (hw _ (List.mem_of_getElem? (i := 0) rfl))) (g := (mkF m 18 #[.val (.int p1), .val (.int p2), .val (.int p3), .val (.int p4), .val (.int p5), .val (.int ((p1 &&& (2147483647 : Int32)) % (6 : Int32))), .val (.int (((p1.toUInt32 >>> ((8 : Int32) &&& 31).toUInt32).toInt32) &&& (3 : Int32))), .unset, .unset, .unset, .unset, .unset, .unset, .unset, .unset, .unset, .unset] [(.int p3)])) rfl (hb hby at_18) _ k) ?_
  show own_Go p e below (s₁.setTop (mkF m 20 #[.val (.int p1), .val (.int p2), .val (.int p3), .val (.int p4), .val (.int p5), .val (.int ((p1 &&& (2147483647 : Int32)) % (6 : Int32))), .val (.int (((p1.toUInt32 >>> ((8 : Int32) &&& 31).toUInt32).toInt32) &&& (3 : Int32))), .unset, .unset, .unset, .unset, .unset, .unset, .unset, .unset, .unset, .unset] [(.int (2147483647 : Int32)), (.int p3)])) _
  refine own_go (fun _ k => XS.iand X0.here hx rfl (hb hby at_20) rfl k) ?_
  show own_Go p e below (s₁.setTop (mkF m 21 #[.val (.int p1), .val (.int p2), .val (.int p3), .val (.int p4), .val (.int p5), .val (.int ((p1 &&& (2147483647 : Int32)) % (6 : Int32))), .val (.int (((p1.toUInt32 >>> ((8 : Int32) &&& 31).toUInt32).toInt32) &&& (3 : Int32))), .unset, .unset, .unset, .unset, .unset, .unset, .unset, .unset, .unset, .unset] [(.int (p3 &&& (2147483647 : Int32)))])) _
  refine own_go (fun _ k => XS.bipush X0.here hx rfl (hb hby at_21) k) ?_
  show own_Go p e below (s₁.setTop (mkF m 23 #[.val (.int p1), .val (.int p2), .val (.int p3), .val (.int p4), .val (.int p5), .val (.int ((p1 &&& (2147483647 : Int32)) % (6 : Int32))), .val (.int (((p1.toUInt32 >>> ((8 : Int32) &&& 31).toUInt32).toInt32) &&& (3 : Int32))), .unset, .unset, .unset, .unset, .unset, .unset, .unset, .unset, .unset, .unset] [(.int (7 : Int32)), (.int (p3 &&& (2147483647 : Int32)))])) _
  refine own_go (fun _ k => Jvm.RoadKit.iremM (g := (mkF m 23 #[.val (.int p1), .val (.int p2), .val (.int p3), .val (.int p4), .val (.int p5), .val (.int ((p1 &&& (2147483647 : Int32)) % (6 : Int32))), .val (.int (((p1.toUInt32 >>> ((8 : Int32) &&& 31).toUInt32).toInt32) &&& (3 : Int32))), .unset, .unset, .unset, .unset, .unset, .unset, .unset, .unset, .unset, .unset] [(.int (7 : Int32)), (.int (p3 &&& (2147483647 : Int32)))])) X0 hx rfl (hb hby at_23) rfl (by decide) k) ?_
  show own_Go p e below (s₁.setTop (mkF m 24 #[.val (.int p1), .val (.int p2), .val (.int p3), .val (.int p4), .val (.int p5), .val (.int ((p1 &&& (2147483647 : Int32)) % (6 : Int32))), .val (.int (((p1.toUInt32 >>> ((8 : Int32) &&& 31).toUInt32).toInt32) &&& (3 : Int32))), .unset, .unset, .unset, .unset, .unset, .unset, .unset, .unset, .unset, .unset] [(.int ((p3 &&& (2147483647 : Int32)) % (7 : Int32)))])) _
  refine own_go (fun _ k => XS.istore X0.here hx rfl (hb hby at_24) rfl (l' := #[.val (.int p1), .val (.int p2), .val (.int p3), .val (.int p4), .val (.int p5), .val (.int ((p1 &&& (2147483647 : Int32)) % (6 : Int32))), .val (.int (((p1.toUInt32 >>> ((8 : Int32) &&& 31).toUInt32).toInt32) &&& (3 : Int32))), .val (.int ((p3 &&& (2147483647 : Int32)) % (7 : Int32))), .unset, .unset, .unset, .unset, .unset, .unset, .unset, .unset, .unset]) rfl k) ?_
  show own_Go p e below (s₁.setTop (mkF m 26 #[.val (.int p1), .val (.int p2), .val (.int p3), .val (.int p4), .val (.int p5), .val (.int ((p1 &&& (2147483647 : Int32)) % (6 : Int32))), .val (.int (((p1.toUInt32 >>> ((8 : Int32) &&& 31).toUInt32).toInt32) &&& (3 : Int32))), .val (.int ((p3 &&& (2147483647 : Int32)) % (7 : Int32))), .unset, .unset, .unset, .unset, .unset, .unset, .unset, .unset, .unset] [])) _
  refine own_go (fun _ k => XS.iloadN X0.here hx rfl (hb hby at_26) rfl k) ?_
  show own_Go p e below (s₁.setTop (mkF m 27 #[.val (.int p1), .val (.int p2), .val (.int p3), .val (.int p4), .val (.int p5), .val (.int ((p1 &&& (2147483647 : Int32)) % (6 : Int32))), .val (.int (((p1.toUInt32 >>> ((8 : Int32) &&& 31).toUInt32).toInt32) &&& (3 : Int32))), .val (.int ((p3 &&& (2147483647 : Int32)) % (7 : Int32))), .unset, .unset, .unset, .unset, .unset, .unset, .unset, .unset, .unset] [(.int p3)])) _
  refine own_go (fun _ k => XS.bipush X0.here hx rfl (hb hby at_27) k) ?_
  show own_Go p e below (s₁.setTop (mkF m 29 #[.val (.int p1), .val (.int p2), .val (.int p3), .val (.int p4), .val (.int p5), .val (.int ((p1 &&& (2147483647 : Int32)) % (6 : Int32))), .val (.int (((p1.toUInt32 >>> ((8 : Int32) &&& 31).toUInt32).toInt32) &&& (3 : Int32))), .val (.int ((p3 &&& (2147483647 : Int32)) % (7 : Int32))), .unset, .unset, .unset, .unset, .unset, .unset, .unset, .unset, .unset] [(.int (8 : Int32)), (.int p3)])) _
  refine own_go (fun _ k => XS.iushr X0.here hx rfl (hb hby at_29) rfl k) ?_
  show own_Go p e below (s₁.setTop (mkF m 30 #[.val (.int p1), .val (.int p2), .val (.int p3), .val (.int p4), .val (.int p5), .val (.int ((p1 &&& (2147483647 : Int32)) % (6 : Int32))), .val (.int (((p1.toUInt32 >>> ((8 : Int32) &&& 31).toUInt32).toInt32) &&& (3 : Int32))), .val (.int ((p3 &&& (2147483647 : Int32)) % (7 : Int32))), .unset, .unset, .unset, .unset, .unset, .unset, .unset, .unset, .unset] [(.int ((p3.toUInt32 >>> ((8 : Int32) &&& 31).toUInt32).toInt32))])) _
  refine own_go (fun _ k => XS.iconst X0.here hx rfl (hb hby at_30) k) ?_
  show own_Go p e below (s₁.setTop (mkF m 31 #[.val (.int p1), .val (.int p2), .val (.int p3), .val (.int p4), .val (.int p5), .val (.int ((p1 &&& (2147483647 : Int32)) % (6 : Int32))), .val (.int (((p1.toUInt32 >>> ((8 : Int32) &&& 31).toUInt32).toInt32) &&& (3 : Int32))), .val (.int ((p3 &&& (2147483647 : Int32)) % (7 : Int32))), .unset, .unset, .unset, .unset, .unset, .unset, .unset, .unset, .unset] [(.int (3 : Int32)), (.int ((p3.toUInt32 >>> ((8 : Int32) &&& 31).toUInt32).toInt32))])) _
  refine own_go (fun _ k => XS.iand X0.here hx rfl (hb hby at_31) rfl k) ?_
  show own_Go p e below (s₁.setTop (mkF m 32 #[.val (.int p1), .val (.int p2), .val (.int p3), .val (.int p4), .val (.int p5), .val (.int ((p1 &&& (2147483647 : Int32)) % (6 : Int32))), .val (.int (((p1.toUInt32 >>> ((8 : Int32) &&& 31).toUInt32).toInt32) &&& (3 : Int32))), .val (.int ((p3 &&& (2147483647 : Int32)) % (7 : Int32))), .unset, .unset, .unset, .unset, .unset, .unset, .unset, .unset, .unset] [(.int (((p3.toUInt32 >>> ((8 : Int32) &&& 31).toUInt32).toInt32) &&& (3 : Int32)))])) _
  refine own_go (fun _ k => XS.istore X0.here hx rfl (hb hby at_32) rfl (l' := #[.val (.int p1), .val (.int p2), .val (.int p3), .val (.int p4), .val (.int p5), .val (.int ((p1 &&& (2147483647 : Int32)) % (6 : Int32))), .val (.int (((p1.toUInt32 >>> ((8 : Int32) &&& 31).toUInt32).toInt32) &&& (3 : Int32))), .val (.int ((p3 &&& (2147483647 : Int32)) % (7 : Int32))), .val (.int (((p3.toUInt32 >>> ((8 : Int32) &&& 31).toUInt32).toInt32) &&& (3 : Int32))), .unset, .unset, .unset, .unset, .unset, .unset, .unset, .unset]) rfl k) ?_
  show own_Go p e below (s₁.setTop (mkF m 34 #[.val (.int p1), .val (.int p2), .val (.int p3), .val (.int p4), .val (.int p5), .val (.int ((p1 &&& (2147483647 : Int32)) % (6 : Int32))), .val (.int (((p1.toUInt32 >>> ((8 : Int32) &&& 31).toUInt32).toInt32) &&& (3 : Int32))), .val (.int ((p3 &&& (2147483647 : Int32)) % (7 : Int32))), .val (.int (((p3.toUInt32 >>> ((8 : Int32) &&& 31).toUInt32).toInt32) &&& (3 : Int32))), .unset, .unset, .unset, .unset, .unset, .unset, .unset, .unset] [])) _
  obtain ⟨tk, h_tk⟩ : ∃ z, z = ((p1 &&& (2147483647 : Int32)) % (6 : Int32)) := ⟨_, rfl⟩
  rw [← h_tk]
  obtain ⟨tl, h_tl⟩ : ∃ z, z = (((p1.toUInt32 >>> ((8 : Int32) &&& 31).toUInt32).toInt32) &&& (3 : Int32)) := ⟨_, rfl⟩
  rw [← h_tl]
  obtain ⟨qk, h_qk⟩ : ∃ z, z = ((p3 &&& (2147483647 : Int32)) % (7 : Int32)) := ⟨_, rfl⟩
  rw [← h_qk]
  obtain ⟨ql, h_ql⟩ : ∃ z, z = (((p3.toUInt32 >>> ((8 : Int32) &&& 31).toUInt32).toInt32) &&& (3 : Int32)) := ⟨_, rfl⟩
  rw [← h_ql]
  show own_Go p e below (s₁.setTop (mkF m 34 #[.val (.int p1), .val (.int p2), .val (.int p3), .val (.int p4), .val (.int p5), .val (.int tk), .val (.int tl), .val (.int qk), .val (.int ql), .unset, .unset, .unset, .unset, .unset, .unset, .unset, .unset] [])) _
  refine own_go (fun _ k => XS.iloadN X0.here hx rfl (hb hby at_34) rfl k) ?_
  show own_Go p e below (s₁.setTop (mkF m 35 #[.val (.int p1), .val (.int p2), .val (.int p3), .val (.int p4), .val (.int p5), .val (.int tk), .val (.int tl), .val (.int qk), .val (.int ql), .unset, .unset, .unset, .unset, .unset, .unset, .unset, .unset] [(.int p3)])) _
  refine own_go (fun _ k => XS.bipush X0.here hx rfl (hb hby at_35) k) ?_
  show own_Go p e below (s₁.setTop (mkF m 37 #[.val (.int p1), .val (.int p2), .val (.int p3), .val (.int p4), .val (.int p5), .val (.int tk), .val (.int tl), .val (.int qk), .val (.int ql), .unset, .unset, .unset, .unset, .unset, .unset, .unset, .unset] [(.int (10 : Int32)), (.int p3)])) _
  refine own_go (fun _ k => XS.iushr X0.here hx rfl (hb hby at_37) rfl k) ?_
  show own_Go p e below (s₁.setTop (mkF m 38 #[.val (.int p1), .val (.int p2), .val (.int p3), .val (.int p4), .val (.int p5), .val (.int tk), .val (.int tl), .val (.int qk), .val (.int ql), .unset, .unset, .unset, .unset, .unset, .unset, .unset, .unset] [(.int ((p3.toUInt32 >>> ((10 : Int32) &&& 31).toUInt32).toInt32))])) _
  refine own_go (fun _ k => XS.iconst X0.here hx rfl (hb hby at_38) k) ?_
  show own_Go p e below (s₁.setTop (mkF m 39 #[.val (.int p1), .val (.int p2), .val (.int p3), .val (.int p4), .val (.int p5), .val (.int tk), .val (.int tl), .val (.int qk), .val (.int ql), .unset, .unset, .unset, .unset, .unset, .unset, .unset, .unset] [(.int (1 : Int32)), (.int ((p3.toUInt32 >>> ((10 : Int32) &&& 31).toUInt32).toInt32))])) _
  refine own_go (fun _ k => XS.iand X0.here hx rfl (hb hby at_39) rfl k) ?_
  show own_Go p e below (s₁.setTop (mkF m 40 #[.val (.int p1), .val (.int p2), .val (.int p3), .val (.int p4), .val (.int p5), .val (.int tk), .val (.int tl), .val (.int qk), .val (.int ql), .unset, .unset, .unset, .unset, .unset, .unset, .unset, .unset] [(.int (((p3.toUInt32 >>> ((10 : Int32) &&& 31).toUInt32).toInt32) &&& (1 : Int32)))])) _
  by_cases hc133 : (((p3.toUInt32 >>> ((10 : Int32) &&& 31).toUInt32).toInt32) &&& (1 : Int32)) = (0 : Int32)
  · skip
    refine own_go (fun _ k => XS.ifYes X0.here hx rfl (pc0 := 40) (pc' := 47) rfl (hb hby at_40) rfl ((if0 _ _).trans (teq hc133).1) (by decide) (by decide) k) ?_
    show own_Go p e below (s₁.setTop (mkF m 47 #[.val (.int p1), .val (.int p2), .val (.int p3), .val (.int p4), .val (.int p5), .val (.int tk), .val (.int tl), .val (.int qk), .val (.int ql), .unset, .unset, .unset, .unset, .unset, .unset, .unset, .unset] [])) _
    refine own_go (fun _ k => XS.iconst X0.here hx rfl (hb hby at_47) k) ?_
    show own_Go p e below (s₁.setTop (mkF m 48 #[.val (.int p1), .val (.int p2), .val (.int p3), .val (.int p4), .val (.int p5), .val (.int tk), .val (.int tl), .val (.int qk), .val (.int ql), .unset, .unset, .unset, .unset, .unset, .unset, .unset, .unset] [(.int (0 : Int32))])) _
    refine own_go (fun _ k => XS.istore X0.here hx rfl (hb hby at_48) rfl (l' := #[.val (.int p1), .val (.int p2), .val (.int p3), .val (.int p4), .val (.int p5), .val (.int tk), .val (.int tl), .val (.int qk), .val (.int ql), .val (.int (0 : Int32)), .unset, .unset, .unset, .unset, .unset, .unset, .unset]) rfl k) ?_
    show own_Go p e below (s₁.setTop (mkF m 50 #[.val (.int p1), .val (.int p2), .val (.int p3), .val (.int p4), .val (.int p5), .val (.int tk), .val (.int tl), .val (.int qk), .val (.int ql), .val (.int (0 : Int32)), .unset, .unset, .unset, .unset, .unset, .unset, .unset] [])) _
    refine own_go (fun _ k => XS.iloadN X0.here hx rfl (hb hby at_50) rfl k) ?_
    show own_Go p e below (s₁.setTop (mkF m 51 #[.val (.int p1), .val (.int p2), .val (.int p3), .val (.int p4), .val (.int p5), .val (.int tk), .val (.int tl), .val (.int qk), .val (.int ql), .val (.int (0 : Int32)), .unset, .unset, .unset, .unset, .unset, .unset, .unset] [(.int p3)])) _
    refine own_go (fun _ k => XS.bipush X0.here hx rfl (hb hby at_51) k) ?_
    show own_Go p e below (s₁.setTop (mkF m 53 #[.val (.int p1), .val (.int p2), .val (.int p3), .val (.int p4), .val (.int p5), .val (.int tk), .val (.int tl), .val (.int qk), .val (.int ql), .val (.int (0 : Int32)), .unset, .unset, .unset, .unset, .unset, .unset, .unset] [(.int (11 : Int32)), (.int p3)])) _
    refine own_go (fun _ k => XS.iushr X0.here hx rfl (hb hby at_53) rfl k) ?_
    show own_Go p e below (s₁.setTop (mkF m 54 #[.val (.int p1), .val (.int p2), .val (.int p3), .val (.int p4), .val (.int p5), .val (.int tk), .val (.int tl), .val (.int qk), .val (.int ql), .val (.int (0 : Int32)), .unset, .unset, .unset, .unset, .unset, .unset, .unset] [(.int ((p3.toUInt32 >>> ((11 : Int32) &&& 31).toUInt32).toInt32))])) _
    refine own_go (fun _ k => XS.iconst X0.here hx rfl (hb hby at_54) k) ?_
    show own_Go p e below (s₁.setTop (mkF m 55 #[.val (.int p1), .val (.int p2), .val (.int p3), .val (.int p4), .val (.int p5), .val (.int tk), .val (.int tl), .val (.int qk), .val (.int ql), .val (.int (0 : Int32)), .unset, .unset, .unset, .unset, .unset, .unset, .unset] [(.int (1 : Int32)), (.int ((p3.toUInt32 >>> ((11 : Int32) &&& 31).toUInt32).toInt32))])) _
    refine own_go (fun _ k => XS.iand X0.here hx rfl (hb hby at_55) rfl k) ?_
    show own_Go p e below (s₁.setTop (mkF m 56 #[.val (.int p1), .val (.int p2), .val (.int p3), .val (.int p4), .val (.int p5), .val (.int tk), .val (.int tl), .val (.int qk), .val (.int ql), .val (.int (0 : Int32)), .unset, .unset, .unset, .unset, .unset, .unset, .unset] [(.int (((p3.toUInt32 >>> ((11 : Int32) &&& 31).toUInt32).toInt32) &&& (1 : Int32)))])) _
    by_cases hc134 : (((p3.toUInt32 >>> ((11 : Int32) &&& 31).toUInt32).toInt32) &&& (1 : Int32)) = (0 : Int32)
    · skip
      refine own_go (fun _ k => XS.ifYes X0.here hx rfl (pc0 := 56) (pc' := 63) rfl (hb hby at_56) rfl ((if0 _ _).trans (teq hc134).1) (by decide) (by decide) k) ?_
      show own_Go p e below (s₁.setTop (mkF m 63 #[.val (.int p1), .val (.int p2), .val (.int p3), .val (.int p4), .val (.int p5), .val (.int tk), .val (.int tl), .val (.int qk), .val (.int ql), .val (.int (0 : Int32)), .unset, .unset, .unset, .unset, .unset, .unset, .unset] [])) _
      refine own_go (fun _ k => XS.iconst X0.here hx rfl (hb hby at_63) k) ?_
      show own_Go p e below (s₁.setTop (mkF m 64 #[.val (.int p1), .val (.int p2), .val (.int p3), .val (.int p4), .val (.int p5), .val (.int tk), .val (.int tl), .val (.int qk), .val (.int ql), .val (.int (0 : Int32)), .unset, .unset, .unset, .unset, .unset, .unset, .unset] [(.int (0 : Int32))])) _
      refine own_go (fun _ k => XS.istore X0.here hx rfl (hb hby at_64) rfl (l' := #[.val (.int p1), .val (.int p2), .val (.int p3), .val (.int p4), .val (.int p5), .val (.int tk), .val (.int tl), .val (.int qk), .val (.int ql), .val (.int (0 : Int32)), .val (.int (0 : Int32)), .unset, .unset, .unset, .unset, .unset, .unset]) rfl k) ?_
      show own_Go p e below (s₁.setTop (mkF m 66 #[.val (.int p1), .val (.int p2), .val (.int p3), .val (.int p4), .val (.int p5), .val (.int tk), .val (.int tl), .val (.int qk), .val (.int ql), .val (.int (0 : Int32)), .val (.int (0 : Int32)), .unset, .unset, .unset, .unset, .unset, .unset] [])) _
      refine own_go (fun _ k => XS.iload X0.here hx rfl (hb hby at_66) rfl k) ?_
      show own_Go p e below (s₁.setTop (mkF m 68 #[.val (.int p1), .val (.int p2), .val (.int p3), .val (.int p4), .val (.int p5), .val (.int tk), .val (.int tl), .val (.int qk), .val (.int ql), .val (.int (0 : Int32)), .val (.int (0 : Int32)), .unset, .unset, .unset, .unset, .unset, .unset] [(.int (0 : Int32))])) _
      refine own_go (fun _ k => XS.ifYes X0.here hx rfl (pc0 := 68) (pc' := 75) rfl (hb hby at_68) rfl ((if0 _ _).trans (teq (by decide : (0 : Int32) = (0 : Int32))).1) (by decide) (by decide) k) ?_
      show own_Go p e below (s₁.setTop (mkF m 75 #[.val (.int p1), .val (.int p2), .val (.int p3), .val (.int p4), .val (.int p5), .val (.int tk), .val (.int tl), .val (.int qk), .val (.int ql), .val (.int (0 : Int32)), .val (.int (0 : Int32)), .unset, .unset, .unset, .unset, .unset, .unset] [])) _
      refine own_go (fun _ k => XS.iloadN X0.here hx rfl (hb hby at_75) rfl k) ?_
      show own_Go p e below (s₁.setTop (mkF m 76 #[.val (.int p1), .val (.int p2), .val (.int p3), .val (.int p4), .val (.int p5), .val (.int tk), .val (.int tl), .val (.int qk), .val (.int ql), .val (.int (0 : Int32)), .val (.int (0 : Int32)), .unset, .unset, .unset, .unset, .unset, .unset] [(.int p4)])) _
      refine own_go (fun _ k => XS.istore X0.here hx rfl (hb hby at_76) rfl (l' := #[.val (.int p1), .val (.int p2), .val (.int p3), .val (.int p4), .val (.int p5), .val (.int tk), .val (.int tl), .val (.int qk), .val (.int ql), .val (.int (0 : Int32)), .val (.int (0 : Int32)), .val (.int p4), .unset, .unset, .unset, .unset, .unset]) rfl k) ?_
      show own_Go p e below (s₁.setTop (mkF m 78 #[.val (.int p1), .val (.int p2), .val (.int p3), .val (.int p4), .val (.int p5), .val (.int tk), .val (.int tl), .val (.int qk), .val (.int ql), .val (.int (0 : Int32)), .val (.int (0 : Int32)), .val (.int p4), .unset, .unset, .unset, .unset, .unset] [])) _
      obtain ⟨T135, h135, X135, e135, E135, A135, D135, U135, st135⟩ := newO X0 hx hZ hown (hw _ (List.mem_of_getElem? (i := 1) rfl)) (hw _ (List.mem_of_getElem? (i := 2) rfl)) (hw _ (List.mem_of_getElem? (i := 3) rfl)) e0 (g := (mkF m 78 #[.val (.int p1), .val (.int p2), .val (.int p3), .val (.int p4), .val (.int p5), .val (.int tk), .val (.int tl), .val (.int qk), .val (.int ql), .val (.int (0 : Int32)), .val (.int (0 : Int32)), .val (.int p4), .unset, .unset, .unset, .unset, .unset] [])) rfl (hb hby at_78) (by decide) (by decide)
      obtain ⟨b135, g135⟩ : ∃ z, z = h0.size := ⟨_, rfl⟩
      rw [← g135] at A135 D135 U135 st135
      refine own_go st135 ?_
      have C136 := C0.trans (CHr.ext E135 C0.1)
      have F135_kind : Fld Z h135 b135 "com/example/sequela/sequela/Lexer$Token" "kind" "Lcom/example/sequela/sequela/Lexer$Kind;" .null := D135 (Or.inr (hw _ (List.mem_of_getElem? (i := 46) rfl))) (ty := (.object "com/example/sequela/sequela/Lexer$Kind")) (by decide)
      have F135_text : Fld Z h135 b135 "com/example/sequela/sequela/Lexer$Token" "text" "Ljava/lang/String;" .null := D135 (Or.inr (hw _ (List.mem_of_getElem? (i := 48) rfl))) (ty := (.object "java/lang/String")) (by decide)
      have F135_index : Fld Z h135 b135 "com/example/sequela/sequela/Lexer$Token" "index" "I" (.int (0 : Int32)) := D135 (Or.inr (hw _ (List.mem_of_getElem? (i := 50) rfl))) (ty := .int) (by decide)
      show own_Go p e below (T135.setTop (mkF m 81 #[.val (.int p1), .val (.int p2), .val (.int p3), .val (.int p4), .val (.int p5), .val (.int tk), .val (.int tl), .val (.int qk), .val (.int ql), .val (.int (0 : Int32)), .val (.int (0 : Int32)), .val (.int p4), .unset, .unset, .unset, .unset, .unset] [(.ref b135)])) _
      refine own_go (fun _ k => XS.dup X135.here hx rfl (hb hby at_81) rfl rfl k) ?_
      show own_Go p e below (T135.setTop (mkF m 82 #[.val (.int p1), .val (.int p2), .val (.int p3), .val (.int p4), .val (.int p5), .val (.int tk), .val (.int tl), .val (.int qk), .val (.int ql), .val (.int (0 : Int32)), .val (.int (0 : Int32)), .val (.int p4), .unset, .unset, .unset, .unset, .unset] [(.ref b135), (.ref b135)])) _
      refine own_go (fun _ k => XS.iload X135.here hx rfl (hb hby at_82) rfl k) ?_
      show own_Go p e below (T135.setTop (mkF m 84 #[.val (.int p1), .val (.int p2), .val (.int p3), .val (.int p4), .val (.int p5), .val (.int tk), .val (.int tl), .val (.int qk), .val (.int ql), .val (.int (0 : Int32)), .val (.int (0 : Int32)), .val (.int p4), .unset, .unset, .unset, .unset, .unset] [(.int tk), (.ref b135), (.ref b135)])) _
      obtain ⟨v137, _, ⟨T137, L137, k137, n137⟩, -, X137, ⟨Lc137, hQ137, l137, y137, z137⟩, st137⟩ := Jvm.LawKit.callS X135 hx (y := (⟨"com/example/sequela/sequela/TokenIsPinLaw", "kind", "(I)Lcom/example/sequela/sequela/Lexer$Kind;"⟩ : MethodName)) hown (mvT hZ (hw _ (List.mem_of_getElem? (i := 4) rfl))) (mvT hZ (hw _ (List.mem_of_getElem? (i := 5) rfl))) (mvT hZ (hw _ (List.mem_of_getElem? (i := 6) rfl))) (mvT hZ (hw _ (List.mem_of_getElem? (i := 7) rfl))) (by decide) (backOf (W := 2) (rm_kind l Z a0 hw [] tk z0 z1 z2 z3 z4 z5 h135 n0 (O0.ext E135) S0 S1 S2 S3 S4 S5) hZ (hw _ (List.mem_of_getElem? (i := 7) rfl)) (hw _ (List.mem_of_getElem? (i := 6) rfl)) (by decide) (by decide)) (g := (mkF m 84 #[.val (.int p1), .val (.int p2), .val (.int p3), .val (.int p4), .val (.int p5), .val (.int tk), .val (.int tl), .val (.int qk), .val (.int ql), .val (.int (0 : Int32)), .val (.int (0 : Int32)), .val (.int p4), .unset, .unset, .unset, .unset, .unset] [(.int tk), (.ref b135), (.ref b135)])) rfl (by rw [hml]; rfl) (argsL := [(.int tk)]) (rest := [(.ref b135), (.ref b135)]) (lenOf pd_4 rfl) rfl (by show 2 * 0 + _ ≤ _; exact Nat.le_of_eq rfl) (hb hby at_84) (fun _ _ => ⟨rfl, e135, (by decide : 1 + 0 ≤ _), (by decide : 3 + 0 ≤ _)⟩)
      dsimp only [Pt.U, Pt.locs, Pt.cells, Pt.slots] at X137 l137 y137 z137 st137 hQ137
      subst l137 y137 z137
      refine own_go st137 ?_
      obtain ⟨rfl, Nq137, e137⟩ := hQ137
      have N137 := Fr.app N0 Nq137
      show own_Go p e below (T137.setTop (mkF m 87 #[.val (.int p1), .val (.int p2), .val (.int p3), .val (.int p4), .val (.int p5), .val (.int tk), .val (.int tl), .val (.int qk), .val (.int ql), .val (.int (0 : Int32)), .val (.int (0 : Int32)), .val (.int p4), .unset, .unset, .unset, .unset, .unset] [(own_kind tk z0 z1 z2 z3 z4 z5), (.ref b135), (.ref b135)])) _
      refine own_go (fun _ k => XS.iload X137.here hx rfl (hb hby at_87) rfl k) ?_
      show own_Go p e below (T137.setTop (mkF m 89 #[.val (.int p1), .val (.int p2), .val (.int p3), .val (.int p4), .val (.int p5), .val (.int tk), .val (.int tl), .val (.int qk), .val (.int ql), .val (.int (0 : Int32)), .val (.int (0 : Int32)), .val (.int p4), .unset, .unset, .unset, .unset, .unset] [(.int tl), (own_kind tk z0 z1 z2 z3 z4 z5), (.ref b135), (.ref b135)])) _
      refine own_go (fun _ k => XS.iloadN X137.here hx rfl (hb hby at_89) rfl k) ?_
      show own_Go p e below (T137.setTop (mkF m 90 #[.val (.int p1), .val (.int p2), .val (.int p3), .val (.int p4), .val (.int p5), .val (.int tk), .val (.int tl), .val (.int qk), .val (.int ql), .val (.int (0 : Int32)), .val (.int (0 : Int32)), .val (.int p4), .unset, .unset, .unset, .unset, .unset] [(.int p2), (.int tl), (own_kind tk z0 z1 z2 z3 z4 z5), (.ref b135), (.ref b135)])) _
      obtain ⟨v138, _, ⟨T138, L138, k138, n138⟩, -, X138, hS138, hg138, ⟨Lc138, hQ138, l138, y138, z138, A138⟩, st138⟩ := callSS X137 hx (y := (⟨"com/example/sequela/sequela/TokenIsPinLaw", "text", "(II)Ljava/lang/String;"⟩ : MethodName)) hown (mvT hZ (hw _ (List.mem_of_getElem? (i := 11) rfl))) (mvT hZ (hw _ (List.mem_of_getElem? (i := 12) rfl))) (mvT hZ (hw _ (List.mem_of_getElem? (i := 6) rfl))) (mvT hZ (hw _ (List.mem_of_getElem? (i := 13) rfl))) (by decide) (backOfSH (W := 3) (rm_text l Z a0 hw [] tl p2 G1 h135 n0 (O0.ext E135) O2 P5) hZ (hw _ (List.mem_of_getElem? (i := 13) rfl)) (hw _ (List.mem_of_getElem? (i := 6) rfl)) (by decide) (by decide) own_hEL C136.1) (g := (mkF m 90 #[.val (.int p1), .val (.int p2), .val (.int p3), .val (.int p4), .val (.int p5), .val (.int tk), .val (.int tl), .val (.int qk), .val (.int ql), .val (.int (0 : Int32)), .val (.int (0 : Int32)), .val (.int p4), .unset, .unset, .unset, .unset, .unset] [(.int p2), (.int tl), (own_kind tk z0 z1 z2 z3 z4 z5), (.ref b135), (.ref b135)])) rfl (by rw [hml]; rfl) (argsL := [(.int tl), (.int p2)]) (rest := [(own_kind tk z0 z1 z2 z3 z4 z5), (.ref b135), (.ref b135)]) (lenOf pd_5 rfl) rfl (by show 2 * 0 + _ ≤ _; simp only [List.map, own_catR (own_kindR _ _ _ _ _ _ _)]; exact Nat.le_of_eq rfl) (hb hby at_90) (fun _ _ => ⟨rfl, e137, (by decide : 1 + 6 ≤ _), (by decide : 3 + 12 ≤ _)⟩)
      dsimp only [Pt.U, Pt.locs, Pt.cells, Pt.slots] at X138 l138 y138 z138 st138 hQ138 hS138 hg138 A138
      subst l138 y138 z138
      refine own_gos st138 ?_
      obtain ⟨X138, hS138, hZ138, hown138⟩ := rebS hS0 (k0 := _) (n1 := T137.heap.size) (by rw [e137]; exact (Nat.zero_le _)) X138 hS138 hg138 hZ hown
      obtain ⟨x138, t138, kt138, N2138, vs138, rfl, Nq138, K138, xg138, Ex138, Fv138, Fc138, Vt138, hC138⟩ := hQ138
      have C139 := C136.trans A138
      have N138 := Fr.app N137 Nq138
      have ne140 := Exa.neArv (A135.keep K138) Vt138 (hw _ (List.mem_of_getElem? (i := 2) rfl))
      show own_Go p e below (T138.setTop (mkF m 93 #[.val (.int p1), .val (.int p2), .val (.int p3), .val (.int p4), .val (.int p5), .val (.int tk), .val (.int tl), .val (.int qk), .val (.int ql), .val (.int (0 : Int32)), .val (.int (0 : Int32)), .val (.int p4), .unset, .unset, .unset, .unset, .unset] [(.ref x138), (own_kind tk z0 z1 z2 z3 z4 z5), (.ref b135), (.ref b135)])) _
      refine own_go (fun _ k => XS.iload X138.here hx rfl (hb hby at_93) rfl k) ?_
      show own_Go p e below (T138.setTop (mkF m 95 #[.val (.int p1), .val (.int p2), .val (.int p3), .val (.int p4), .val (.int p5), .val (.int tk), .val (.int tl), .val (.int qk), .val (.int ql), .val (.int (0 : Int32)), .val (.int (0 : Int32)), .val (.int p4), .unset, .unset, .unset, .unset, .unset] [(.int p5), (.ref x138), (own_kind tk z0 z1 z2 z3 z4 z5), (.ref b135), (.ref b135)])) _
      have f141 := (F135_kind.keep K138 nin0)
      have f142 := (F135_text.keep K138 nin0)
      have f143 := (F135_index.keep K138 nin0)
      have f144 := ((O0.ext E135).keep K138 all0)
      obtain ⟨v145, _, ⟨T145, L145, k145, n145⟩, -, X145, ⟨Lc145, hQ145, l145, y145, z145⟩, st145⟩ := X138.specialBack hx (y := (⟨"com/example/sequela/sequela/Lexer$Token", "<init>", "(Lcom/example/sequela/sequela/Lexer$Kind;Ljava/lang/String;I)V"⟩ : MethodName)) rfl hown138 (mvT hZ138 (hw _ (List.mem_of_getElem? (i := 36) rfl))) (mvT hZ138 (hw _ (List.mem_of_getElem? (i := 37) rfl))) (mvT hZ138 (hw _ (List.mem_of_getElem? (i := 38) rfl))) (by decide) (backOf (W := 1) (rm_tok l Z a0 hw [] b135 (own_kind tk z0 z1 z2 z3 z4 z5) x138 p5 T138.heap n0 f144 (own_kindR _ _ _ _ _ _ _) (A135.keep K138) f141 f142 f143 (Nat.le_trans Z0 (Nat.le_of_eq g135.symm))) hZ138 (hw _ (List.mem_of_getElem? (i := 38) rfl)) (hw _ (List.mem_of_getElem? (i := 3) rfl)) (by decide) (by decide)) (g := (mkF m 95 #[.val (.int p1), .val (.int p2), .val (.int p3), .val (.int p4), .val (.int p5), .val (.int tk), .val (.int tl), .val (.int qk), .val (.int ql), .val (.int (0 : Int32)), .val (.int (0 : Int32)), .val (.int p4), .unset, .unset, .unset, .unset, .unset] [(.int p5), (.ref x138), (own_kind tk z0 z1 z2 z3 z4 z5), (.ref b135), (.ref b135)])) rfl (by rw [hml]; rfl) (Steps.refl _) (a := b135) (argsL := [(own_kind tk z0 z1 z2 z3 z4 z5), (.ref x138), (.int p5)]) (rest := [(.ref b135)]) (lenOf pd_6 rfl) rfl (by show 2 * 0 + _ ≤ _; exact Nat.le_of_eq rfl) (hb hby at_95) (fun _ _ => ⟨rfl, (rfl : T138.heap = T138.heap), (by decide : 7 + 0 ≤ _), (by decide : 15 + 0 ≤ _)⟩)
      dsimp only [Pt.U, Pt.locs, Pt.cells, Pt.slots] at X145 l145 y145 z145 st145 hQ145
      subst l145 y145 z145
      refine own_gos st145 ?_
      obtain ⟨rfl, Nq145, K145, Fk145, Ft145⟩ := hQ145
      have f146 := (A138.safe A135.lt (Safe.ext E135 C0.1 (Safe.new (Nat.le_of_eq g135.symm))))
      have C147 := C139.trans (CHr.keep K145 (sfS f146 sf0) C139.1)
      have N145 := Fr.app N138 Nq145
      show own_Go p e below (T145.setTop (mkF m 98 #[.val (.int p1), .val (.int p2), .val (.int p3), .val (.int p4), .val (.int p5), .val (.int tk), .val (.int tl), .val (.int qk), .val (.int ql), .val (.int (0 : Int32)), .val (.int (0 : Int32)), .val (.int p4), .unset, .unset, .unset, .unset, .unset] [(.ref b135)])) _
      refine own_go (fun _ k => XS.astore X145.here hx rfl (hb hby at_98) rfl rfl (l' := #[.val (.int p1), .val (.int p2), .val (.int p3), .val (.int p4), .val (.int p5), .val (.int tk), .val (.int tl), .val (.int qk), .val (.int ql), .val (.int (0 : Int32)), .val (.int (0 : Int32)), .val (.int p4), .val (.ref b135), .unset, .unset, .unset, .unset]) rfl k) ?_
      show own_Go p e below (T145.setTop (mkF m 100 #[.val (.int p1), .val (.int p2), .val (.int p3), .val (.int p4), .val (.int p5), .val (.int tk), .val (.int tl), .val (.int qk), .val (.int ql), .val (.int (0 : Int32)), .val (.int (0 : Int32)), .val (.int p4), .val (.ref b135), .unset, .unset, .unset, .unset] [])) _
      refine own_go (fun _ k => XS.iload X145.here hx rfl (hb hby at_100) rfl k) ?_
      show own_Go p e below (T145.setTop (mkF m 102 #[.val (.int p1), .val (.int p2), .val (.int p3), .val (.int p4), .val (.int p5), .val (.int tk), .val (.int tl), .val (.int qk), .val (.int ql), .val (.int (0 : Int32)), .val (.int (0 : Int32)), .val (.int p4), .val (.ref b135), .unset, .unset, .unset, .unset] [(.int (0 : Int32))])) _
      refine own_go (fun _ k => XS.ifYes X145.here hx rfl (pc0 := 102) (pc' := 109) rfl (hb hby at_102) rfl ((if0 _ _).trans (teq (by decide : (0 : Int32) = (0 : Int32))).1) (by decide) (by decide) k) ?_
      show own_Go p e below (T145.setTop (mkF m 109 #[.val (.int p1), .val (.int p2), .val (.int p3), .val (.int p4), .val (.int p5), .val (.int tk), .val (.int tl), .val (.int qk), .val (.int ql), .val (.int (0 : Int32)), .val (.int (0 : Int32)), .val (.int p4), .val (.ref b135), .unset, .unset, .unset, .unset] [])) _
      refine own_go (fun _ k => XS.iload X145.here hx rfl (hb hby at_109) rfl k) ?_
      show own_Go p e below (T145.setTop (mkF m 111 #[.val (.int p1), .val (.int p2), .val (.int p3), .val (.int p4), .val (.int p5), .val (.int tk), .val (.int tl), .val (.int qk), .val (.int ql), .val (.int (0 : Int32)), .val (.int (0 : Int32)), .val (.int p4), .val (.ref b135), .unset, .unset, .unset, .unset] [(.int ql)])) _
      refine own_go (fun _ k => XS.iload X145.here hx rfl (hb hby at_111) rfl k) ?_
      show own_Go p e below (T145.setTop (mkF m 113 #[.val (.int p1), .val (.int p2), .val (.int p3), .val (.int p4), .val (.int p5), .val (.int tk), .val (.int tl), .val (.int qk), .val (.int ql), .val (.int (0 : Int32)), .val (.int (0 : Int32)), .val (.int p4), .val (.ref b135), .unset, .unset, .unset, .unset] [(.int p4), (.int ql)])) _
      have f148 := (f144.keep K145 (allS (Nat.le_trans Z0 (Nat.le_of_eq g135.symm)) all0))
      obtain ⟨v149, _, ⟨T149, L149, k149, n149⟩, -, X149, hS149, hg149, ⟨Lc149, hQ149, l149, y149, z149, A149⟩, st149⟩ := callSS X145 hx (y := (⟨"com/example/sequela/sequela/TokenIsPinLaw", "text", "(II)Ljava/lang/String;"⟩ : MethodName)) hown138 (mvT hZ138 (hw _ (List.mem_of_getElem? (i := 11) rfl))) (mvT hZ138 (hw _ (List.mem_of_getElem? (i := 12) rfl))) (mvT hZ138 (hw _ (List.mem_of_getElem? (i := 6) rfl))) (mvT hZ138 (hw _ (List.mem_of_getElem? (i := 13) rfl))) (by decide) (backOfSH (W := 0) (rm_text l Z a0 hw [] ql p4 G1 T145.heap n0 f148 O2 P5) hZ138 (hw _ (List.mem_of_getElem? (i := 13) rfl)) (hw _ (List.mem_of_getElem? (i := 6) rfl)) (by decide) (by decide) own_hEL C147.1) (g := (mkF m 113 #[.val (.int p1), .val (.int p2), .val (.int p3), .val (.int p4), .val (.int p5), .val (.int tk), .val (.int tl), .val (.int qk), .val (.int ql), .val (.int (0 : Int32)), .val (.int (0 : Int32)), .val (.int p4), .val (.ref b135), .unset, .unset, .unset, .unset] [(.int p4), (.int ql)])) rfl (by rw [hml]; rfl) (argsL := [(.int ql), (.int p4)]) (rest := []) (lenOf pd_5 rfl) rfl (by show 2 * 0 + _ ≤ _; exact Nat.le_of_eq rfl) (hb hby at_113) (fun _ _ => ⟨rfl, (rfl : T145.heap = T145.heap), (by decide : 7 + 6 ≤ _), (by decide : 15 + 12 ≤ _)⟩)
      dsimp only [Pt.U, Pt.locs, Pt.cells, Pt.slots] at X149 l149 y149 z149 st149 hQ149 hS149 hg149 A149
      subst l149 y149 z149
      refine own_gos st149 ?_
      obtain ⟨X149, hS149, hZ149, hown149⟩ := rebS hS138 (k0 := _) (n1 := T145.heap.size) (by rw [(rfl : T145.heap = T145.heap)]; exact (Nat.le_trans (Nat.le_refl _) K145.1)) X149 hS149 hg149 hZ138 hown138
      obtain ⟨x149, t149, kt149, N2149, vs149, rfl, Nq149, K149, xg149, Ex149, Fv149, Fc149, Vt149, hC149⟩ := hQ149
      have C150 := C147.trans A149
      have N149 := Fr.app N145 Nq149
      have f152 := (((A135.keep K138).keep K145).keep K149)
      have ne151 := Exa.neArv f152 Vt149 (hw _ (List.mem_of_getElem? (i := 2) rfl))
      show own_Go p e below (T149.setTop (mkF m 116 #[.val (.int p1), .val (.int p2), .val (.int p3), .val (.int p4), .val (.int p5), .val (.int tk), .val (.int tl), .val (.int qk), .val (.int ql), .val (.int (0 : Int32)), .val (.int (0 : Int32)), .val (.int p4), .val (.ref b135), .unset, .unset, .unset, .unset] [(.ref x149)])) _
      refine own_go (fun _ k => XS.astore X149.here hx rfl (hb hby at_116) rfl rfl (l' := #[.val (.int p1), .val (.int p2), .val (.int p3), .val (.int p4), .val (.int p5), .val (.int tk), .val (.int tl), .val (.int qk), .val (.int ql), .val (.int (0 : Int32)), .val (.int (0 : Int32)), .val (.int p4), .val (.ref b135), .val (.ref x149), .unset, .unset, .unset]) rfl k) ?_
      show own_Go p e below (T149.setTop (mkF m 118 #[.val (.int p1), .val (.int p2), .val (.int p3), .val (.int p4), .val (.int p5), .val (.int tk), .val (.int tl), .val (.int qk), .val (.int ql), .val (.int (0 : Int32)), .val (.int (0 : Int32)), .val (.int p4), .val (.ref b135), .val (.ref x149), .unset, .unset, .unset] [])) _
      refine own_go (fun _ k => XS.aload X149.here hx rfl (hb hby at_118) rfl rfl k) ?_
      show own_Go p e below (T149.setTop (mkF m 120 #[.val (.int p1), .val (.int p2), .val (.int p3), .val (.int p4), .val (.int p5), .val (.int tk), .val (.int tl), .val (.int qk), .val (.int ql), .val (.int (0 : Int32)), .val (.int (0 : Int32)), .val (.int p4), .val (.ref b135), .val (.ref x149), .unset, .unset, .unset] [(.ref b135)])) _
      refine own_go (fun _ k => XS.iload X149.here hx rfl (hb hby at_120) rfl k) ?_
      show own_Go p e below (T149.setTop (mkF m 122 #[.val (.int p1), .val (.int p2), .val (.int p3), .val (.int p4), .val (.int p5), .val (.int tk), .val (.int tl), .val (.int qk), .val (.int ql), .val (.int (0 : Int32)), .val (.int (0 : Int32)), .val (.int p4), .val (.ref b135), .val (.ref x149), .unset, .unset, .unset] [(.int qk), (.ref b135)])) _
      obtain ⟨v153, _, ⟨T153, L153, k153, n153⟩, -, X153, ⟨Lc153, hQ153, l153, y153, z153⟩, st153⟩ := Jvm.LawKit.callS X149 hx (y := (⟨"com/example/sequela/sequela/TokenIsPinLaw", "kind", "(I)Lcom/example/sequela/sequela/Lexer$Kind;"⟩ : MethodName)) hown149 (mvT hZ149 (hw _ (List.mem_of_getElem? (i := 4) rfl))) (mvT hZ149 (hw _ (List.mem_of_getElem? (i := 5) rfl))) (mvT hZ149 (hw _ (List.mem_of_getElem? (i := 6) rfl))) (mvT hZ149 (hw _ (List.mem_of_getElem? (i := 7) rfl))) (by decide) (backOf (W := 1) (rm_kind l Z a0 hw [] qk z0 z1 z2 z3 z4 z5 T149.heap n0 (f148.keep K149 all0) S0 S1 S2 S3 S4 S5) hZ149 (hw _ (List.mem_of_getElem? (i := 7) rfl)) (hw _ (List.mem_of_getElem? (i := 6) rfl)) (by decide) (by decide)) (g := (mkF m 122 #[.val (.int p1), .val (.int p2), .val (.int p3), .val (.int p4), .val (.int p5), .val (.int tk), .val (.int tl), .val (.int qk), .val (.int ql), .val (.int (0 : Int32)), .val (.int (0 : Int32)), .val (.int p4), .val (.ref b135), .val (.ref x149), .unset, .unset, .unset] [(.int qk), (.ref b135)])) rfl (by rw [hml]; rfl) (argsL := [(.int qk)]) (rest := [(.ref b135)]) (lenOf pd_4 rfl) rfl (by show 2 * 0 + _ ≤ _; exact Nat.le_of_eq rfl) (hb hby at_122) (fun _ _ => ⟨rfl, (rfl : T149.heap = T149.heap), (by decide : 13 + 0 ≤ _), (by decide : 27 + 0 ≤ _)⟩)
      dsimp only [Pt.U, Pt.locs, Pt.cells, Pt.slots] at X153 l153 y153 z153 st153 hQ153
      subst l153 y153 z153
      refine own_go st153 ?_
      obtain ⟨rfl, Nq153, e153⟩ := hQ153
      have N153 := Fr.app N149 Nq153
      show own_Go p e below (T153.setTop (mkF m 125 #[.val (.int p1), .val (.int p2), .val (.int p3), .val (.int p4), .val (.int p5), .val (.int tk), .val (.int tl), .val (.int qk), .val (.int ql), .val (.int (0 : Int32)), .val (.int (0 : Int32)), .val (.int p4), .val (.ref b135), .val (.ref x149), .unset, .unset, .unset] [(own_kind qk z0 z1 z2 z3 z4 z5), (.ref b135)])) _
      refine own_go (fun _ k => XS.aload X153.here hx rfl (hb hby at_125) rfl rfl k) ?_
      show own_Go p e below (T153.setTop (mkF m 127 #[.val (.int p1), .val (.int p2), .val (.int p3), .val (.int p4), .val (.int p5), .val (.int tk), .val (.int tl), .val (.int qk), .val (.int ql), .val (.int (0 : Int32)), .val (.int (0 : Int32)), .val (.int p4), .val (.ref b135), .val (.ref x149), .unset, .unset, .unset] [(.ref x149), (own_kind qk z0 z1 z2 z3 z4 z5), (.ref b135)])) _
      have f154 := ((Ex138.keep K145).keep K149)
      have ne155 : b135 ≠ x138 := Nat.ne_of_lt (Nat.lt_of_lt_of_le A135.lt xg138)
      have f156 := ((Fv138.keep K145 (ninS (Ne.symm ne155) nin0)).keep K149 nin0)
      have f157 := ((Fc138.keep K145 (ninS (Ne.symm ne155) nin0)).keep K149 nin0)
      have f158 := ((Vt138.keep K145 (ninS (Ne.symm ne140) nin0)).keep K149 nin0)
      obtain ⟨cq159, kq159, q159a, q159b, q159c⟩ := isOf hZ149 e153 f152
      obtain ⟨v159, _, ⟨T159, L159, k159, n159⟩, -, X159, ⟨Lc159, hQ159, l159, y159, z159⟩, st159⟩ := X153.virtualBack hx (y := (⟨"com/example/sequela/sequela/Lexer$Token", "is", "(Lcom/example/sequela/sequela/Lexer$Kind;Ljava/lang/String;)Z"⟩ : MethodName)) (z := (⟨"com/example/sequela/sequela/Lexer$Token", "is", "(Lcom/example/sequela/sequela/Lexer$Kind;Ljava/lang/String;)Z"⟩ : MethodName)) hown149 (mvT hZ149 (hw _ (List.mem_of_getElem? (i := 53) rfl))) (mvT hZ149 (hw _ (List.mem_of_getElem? (i := 54) rfl))) (notFace_of_selects (args := #[]) (mvT hZ149 (hw _ (List.mem_of_getElem? (i := 56) rfl)))) (mvT hZ149 (hw _ (List.mem_of_getElem? (i := 56) rfl))) (mvT hZ149 (hw _ (List.mem_of_getElem? (i := 55) rfl))) (by decide) (backOf (W := 0) (rm_is1 l Z a0 hw [] b135 (own_kind tk z0 z1 z2 z3 z4 z5) (own_kind qk z0 z1 z2 z3 z4 z5) x138 t138 kt138 N2138 vs138 (own_text tl p2) x149 t149 kt149 N2149 vs149 (own_text ql p4) G1 T149.heap n0 (f148.keep K149 all0) (own_kindR _ _ _ _ _ _ _) (own_kindR _ _ _ _ _ _ _) f152 (Fk145.keep K149 nin0) (Ft145.keep K149 nin0) f154 f156 f157 f158 hC138 (own_textB _ _) (own_textL _ _) Ex149 Fv149 Fc149 Vt149 hC149 (own_textB _ _) (own_textL _ _) O2 P5) hZ149 (hw _ (List.mem_of_getElem? (i := 57) rfl)) (hw _ (List.mem_of_getElem? (i := 3) rfl)) (by decide) (by decide)) q159a q159c (g := (mkF m 127 #[.val (.int p1), .val (.int p2), .val (.int p3), .val (.int p4), .val (.int p5), .val (.int tk), .val (.int tl), .val (.int qk), .val (.int ql), .val (.int (0 : Int32)), .val (.int (0 : Int32)), .val (.int p4), .val (.ref b135), .val (.ref x149), .unset, .unset, .unset] [(.ref x149), (own_kind qk z0 z1 z2 z3 z4 z5), (.ref b135)])) rfl (by rw [hml]; rfl) (Steps.refl _) (argsL := [(own_kind qk z0 z1 z2 z3 z4 z5), (.ref x149)]) (rest := []) (lenOf pd_7 rfl) rfl (by show 2 * 0 + _ ≤ _; exact Nat.le_of_eq rfl) (hb hby at_127) (fun _ _ => ⟨rfl, e153, (by decide : 13 + 0 ≤ _), (by decide : 27 + 0 ≤ _)⟩)
      dsimp only [Pt.U, Pt.locs, Pt.cells, Pt.slots] at X159 l159 y159 z159 st159 hQ159
      subst l159 y159 z159
      refine own_gos st159 ?_
      obtain ⟨rfl, Nq159, e159⟩ := hQ159
      have N159 := Fr.app N153 Nq159
      show own_Go p e below (T159.setTop (mkF m 130 #[.val (.int p1), .val (.int p2), .val (.int p3), .val (.int p4), .val (.int p5), .val (.int tk), .val (.int tl), .val (.int qk), .val (.int ql), .val (.int (0 : Int32)), .val (.int (0 : Int32)), .val (.int p4), .val (.ref b135), .val (.ref x149), .unset, .unset, .unset] [(.int (own_isr (own_kind tk z0 z1 z2 z3 z4 z5) (own_kind qk z0 z1 z2 z3 z4 z5) (own_text tl p2) (own_text ql p4)))])) _
      refine own_go (fun _ k => XS.istore X159.here hx rfl (hb hby at_130) rfl (l' := #[.val (.int p1), .val (.int p2), .val (.int p3), .val (.int p4), .val (.int p5), .val (.int tk), .val (.int tl), .val (.int qk), .val (.int ql), .val (.int (0 : Int32)), .val (.int (0 : Int32)), .val (.int p4), .val (.ref b135), .val (.ref x149), .val (.int (own_isr (own_kind tk z0 z1 z2 z3 z4 z5) (own_kind qk z0 z1 z2 z3 z4 z5) (own_text tl p2) (own_text ql p4))), .unset, .unset]) rfl k) ?_
      show own_Go p e below (T159.setTop (mkF m 132 #[.val (.int p1), .val (.int p2), .val (.int p3), .val (.int p4), .val (.int p5), .val (.int tk), .val (.int tl), .val (.int qk), .val (.int ql), .val (.int (0 : Int32)), .val (.int (0 : Int32)), .val (.int p4), .val (.ref b135), .val (.ref x149), .val (.int (own_isr (own_kind tk z0 z1 z2 z3 z4 z5) (own_kind qk z0 z1 z2 z3 z4 z5) (own_text tl p2) (own_text ql p4))), .unset, .unset] [])) _
      refine own_go (fun _ k => XS.iload X159.here hx rfl (hb hby at_132) rfl k) ?_
      show own_Go p e below (T159.setTop (mkF m 134 #[.val (.int p1), .val (.int p2), .val (.int p3), .val (.int p4), .val (.int p5), .val (.int tk), .val (.int tl), .val (.int qk), .val (.int ql), .val (.int (0 : Int32)), .val (.int (0 : Int32)), .val (.int p4), .val (.ref b135), .val (.ref x149), .val (.int (own_isr (own_kind tk z0 z1 z2 z3 z4 z5) (own_kind qk z0 z1 z2 z3 z4 z5) (own_text tl p2) (own_text ql p4))), .unset, .unset] [(.int tl)])) _
      by_cases hc160 : tl = (0 : Int32)
      · skip
        refine own_go (fun _ k => XS.ifNo X159.here hx rfl (hb hby at_134) rfl ((if0 _ _).trans (teq hc160).2) k) ?_
        show own_Go p e below (T159.setTop (mkF m 137 #[.val (.int p1), .val (.int p2), .val (.int p3), .val (.int p4), .val (.int p5), .val (.int tk), .val (.int tl), .val (.int qk), .val (.int ql), .val (.int (0 : Int32)), .val (.int (0 : Int32)), .val (.int p4), .val (.ref b135), .val (.ref x149), .val (.int (own_isr (own_kind tk z0 z1 z2 z3 z4 z5) (own_kind qk z0 z1 z2 z3 z4 z5) (own_text tl p2) (own_text ql p4))), .unset, .unset] [])) _
        refine own_go (fun _ k => XS.iconst X159.here hx rfl (hb hby at_137) k) ?_
        show own_Go p e below (T159.setTop (mkF m 138 #[.val (.int p1), .val (.int p2), .val (.int p3), .val (.int p4), .val (.int p5), .val (.int tk), .val (.int tl), .val (.int qk), .val (.int ql), .val (.int (0 : Int32)), .val (.int (0 : Int32)), .val (.int p4), .val (.ref b135), .val (.ref x149), .val (.int (own_isr (own_kind tk z0 z1 z2 z3 z4 z5) (own_kind qk z0 z1 z2 z3 z4 z5) (own_text tl p2) (own_text ql p4))), .unset, .unset] [(.int (0 : Int32))])) _
        refine own_go (fun _ k => XS.goto X159.here hx rfl (pc0 := 138) (pc' := 166) rfl (hb hby at_138) (by decide) (by decide) k) ?_
        show own_Go p e below (T159.setTop (mkF m 166 #[.val (.int p1), .val (.int p2), .val (.int p3), .val (.int p4), .val (.int p5), .val (.int tk), .val (.int tl), .val (.int qk), .val (.int ql), .val (.int (0 : Int32)), .val (.int (0 : Int32)), .val (.int p4), .val (.ref b135), .val (.ref x149), .val (.int (own_isr (own_kind tk z0 z1 z2 z3 z4 z5) (own_kind qk z0 z1 z2 z3 z4 z5) (own_text tl p2) (own_text ql p4))), .unset, .unset] [(.int (0 : Int32))])) _
        refine own_go (fun _ k => XS.istore X159.here hx rfl (hb hby at_166) rfl (l' := #[.val (.int p1), .val (.int p2), .val (.int p3), .val (.int p4), .val (.int p5), .val (.int tk), .val (.int tl), .val (.int qk), .val (.int ql), .val (.int (0 : Int32)), .val (.int (0 : Int32)), .val (.int p4), .val (.ref b135), .val (.ref x149), .val (.int (own_isr (own_kind tk z0 z1 z2 z3 z4 z5) (own_kind qk z0 z1 z2 z3 z4 z5) (own_text tl p2) (own_text ql p4))), .val (.int (0 : Int32)), .unset]) rfl k) ?_
        show own_Go p e below (T159.setTop (mkF m 168 #[.val (.int p1), .val (.int p2), .val (.int p3), .val (.int p4), .val (.int p5), .val (.int tk), .val (.int tl), .val (.int qk), .val (.int ql), .val (.int (0 : Int32)), .val (.int (0 : Int32)), .val (.int p4), .val (.ref b135), .val (.ref x149), .val (.int (own_isr (own_kind tk z0 z1 z2 z3 z4 z5) (own_kind qk z0 z1 z2 z3 z4 z5) (own_text tl p2) (own_text ql p4))), .val (.int (0 : Int32)), .unset] [])) _
        refine own_go (fun _ k => XS.iload X159.here hx rfl (hb hby at_168) rfl k) ?_
        show own_Go p e below (T159.setTop (mkF m 170 #[.val (.int p1), .val (.int p2), .val (.int p3), .val (.int p4), .val (.int p5), .val (.int tk), .val (.int tl), .val (.int qk), .val (.int ql), .val (.int (0 : Int32)), .val (.int (0 : Int32)), .val (.int p4), .val (.ref b135), .val (.ref x149), .val (.int (own_isr (own_kind tk z0 z1 z2 z3 z4 z5) (own_kind qk z0 z1 z2 z3 z4 z5) (own_text tl p2) (own_text ql p4))), .val (.int (0 : Int32)), .unset] [(.int qk)])) _
        refine own_go (fun _ k => XS.iload X159.here hx rfl (hb hby at_170) rfl k) ?_
        show own_Go p e below (T159.setTop (mkF m 172 #[.val (.int p1), .val (.int p2), .val (.int p3), .val (.int p4), .val (.int p5), .val (.int tk), .val (.int tl), .val (.int qk), .val (.int ql), .val (.int (0 : Int32)), .val (.int (0 : Int32)), .val (.int p4), .val (.ref b135), .val (.ref x149), .val (.int (own_isr (own_kind tk z0 z1 z2 z3 z4 z5) (own_kind qk z0 z1 z2 z3 z4 z5) (own_text tl p2) (own_text ql p4))), .val (.int (0 : Int32)), .unset] [(.int tk), (.int qk)])) _
        by_cases hc161 : qk = tk
        · skip
          refine own_go (fun _ k => XS.icmpNo X159.here hx rfl (hb hby at_172) rfl (teq hc161).2 k) ?_
          show own_Go p e below (T159.setTop (mkF m 175 #[.val (.int p1), .val (.int p2), .val (.int p3), .val (.int p4), .val (.int p5), .val (.int tk), .val (.int tl), .val (.int qk), .val (.int ql), .val (.int (0 : Int32)), .val (.int (0 : Int32)), .val (.int p4), .val (.ref b135), .val (.ref x149), .val (.int (own_isr (own_kind tk z0 z1 z2 z3 z4 z5) (own_kind qk z0 z1 z2 z3 z4 z5) (own_text tl p2) (own_text ql p4))), .val (.int (0 : Int32)), .unset] [])) _
          refine own_go (fun _ k => XS.iload X159.here hx rfl (hb hby at_175) rfl k) ?_
          show own_Go p e below (T159.setTop (mkF m 177 #[.val (.int p1), .val (.int p2), .val (.int p3), .val (.int p4), .val (.int p5), .val (.int tk), .val (.int tl), .val (.int qk), .val (.int ql), .val (.int (0 : Int32)), .val (.int (0 : Int32)), .val (.int p4), .val (.ref b135), .val (.ref x149), .val (.int (own_isr (own_kind tk z0 z1 z2 z3 z4 z5) (own_kind qk z0 z1 z2 z3 z4 z5) (own_text tl p2) (own_text ql p4))), .val (.int (0 : Int32)), .unset] [(.int (0 : Int32))])) _
          refine own_go (fun _ k => XS.ifNo X159.here hx rfl (hb hby at_177) rfl ((if0 _ _).trans (teq (by decide : (0 : Int32) = (0 : Int32))).2) k) ?_
          show own_Go p e below (T159.setTop (mkF m 180 #[.val (.int p1), .val (.int p2), .val (.int p3), .val (.int p4), .val (.int p5), .val (.int tk), .val (.int tl), .val (.int qk), .val (.int ql), .val (.int (0 : Int32)), .val (.int (0 : Int32)), .val (.int p4), .val (.ref b135), .val (.ref x149), .val (.int (own_isr (own_kind tk z0 z1 z2 z3 z4 z5) (own_kind qk z0 z1 z2 z3 z4 z5) (own_text tl p2) (own_text ql p4))), .val (.int (0 : Int32)), .unset] [])) _
          refine own_go (fun _ k => XS.iload X159.here hx rfl (hb hby at_180) rfl k) ?_
          show own_Go p e below (T159.setTop (mkF m 182 #[.val (.int p1), .val (.int p2), .val (.int p3), .val (.int p4), .val (.int p5), .val (.int tk), .val (.int tl), .val (.int qk), .val (.int ql), .val (.int (0 : Int32)), .val (.int (0 : Int32)), .val (.int p4), .val (.ref b135), .val (.ref x149), .val (.int (own_isr (own_kind tk z0 z1 z2 z3 z4 z5) (own_kind qk z0 z1 z2 z3 z4 z5) (own_text tl p2) (own_text ql p4))), .val (.int (0 : Int32)), .unset] [(.int tl)])) _
          refine own_go (fun _ k => XS.iload X159.here hx rfl (hb hby at_182) rfl k) ?_
          show own_Go p e below (T159.setTop (mkF m 184 #[.val (.int p1), .val (.int p2), .val (.int p3), .val (.int p4), .val (.int p5), .val (.int tk), .val (.int tl), .val (.int qk), .val (.int ql), .val (.int (0 : Int32)), .val (.int (0 : Int32)), .val (.int p4), .val (.ref b135), .val (.ref x149), .val (.int (own_isr (own_kind tk z0 z1 z2 z3 z4 z5) (own_kind qk z0 z1 z2 z3 z4 z5) (own_text tl p2) (own_text ql p4))), .val (.int (0 : Int32)), .unset] [(.int ql), (.int tl)])) _
          by_cases hc162 : tl = ql
          · skip
            refine own_go (fun _ k => XS.icmpNo X159.here hx rfl (hb hby at_184) rfl (teq hc162).2 k) ?_
            show own_Go p e below (T159.setTop (mkF m 187 #[.val (.int p1), .val (.int p2), .val (.int p3), .val (.int p4), .val (.int p5), .val (.int tk), .val (.int tl), .val (.int qk), .val (.int ql), .val (.int (0 : Int32)), .val (.int (0 : Int32)), .val (.int p4), .val (.ref b135), .val (.ref x149), .val (.int (own_isr (own_kind tk z0 z1 z2 z3 z4 z5) (own_kind qk z0 z1 z2 z3 z4 z5) (own_text tl p2) (own_text ql p4))), .val (.int (0 : Int32)), .unset] [])) _
            refine own_go (fun _ k => XS.iloadN X159.here hx rfl (hb hby at_187) rfl k) ?_
            show own_Go p e below (T159.setTop (mkF m 188 #[.val (.int p1), .val (.int p2), .val (.int p3), .val (.int p4), .val (.int p5), .val (.int tk), .val (.int tl), .val (.int qk), .val (.int ql), .val (.int (0 : Int32)), .val (.int (0 : Int32)), .val (.int p4), .val (.ref b135), .val (.ref x149), .val (.int (own_isr (own_kind tk z0 z1 z2 z3 z4 z5) (own_kind qk z0 z1 z2 z3 z4 z5) (own_text tl p2) (own_text ql p4))), .val (.int (0 : Int32)), .unset] [(.int p2)])) _
            refine own_go (fun _ k => XS.iload X159.here hx rfl (hb hby at_188) rfl k) ?_
            show own_Go p e below (T159.setTop (mkF m 190 #[.val (.int p1), .val (.int p2), .val (.int p3), .val (.int p4), .val (.int p5), .val (.int tk), .val (.int tl), .val (.int qk), .val (.int ql), .val (.int (0 : Int32)), .val (.int (0 : Int32)), .val (.int p4), .val (.ref b135), .val (.ref x149), .val (.int (own_isr (own_kind tk z0 z1 z2 z3 z4 z5) (own_kind qk z0 z1 z2 z3 z4 z5) (own_text tl p2) (own_text ql p4))), .val (.int (0 : Int32)), .unset] [(.int p4), (.int p2)])) _
            refine own_go (fun _ k => XS.ixor X159.here hx rfl (hb hby at_190) rfl k) ?_
            show own_Go p e below (T159.setTop (mkF m 191 #[.val (.int p1), .val (.int p2), .val (.int p3), .val (.int p4), .val (.int p5), .val (.int tk), .val (.int tl), .val (.int qk), .val (.int ql), .val (.int (0 : Int32)), .val (.int (0 : Int32)), .val (.int p4), .val (.ref b135), .val (.ref x149), .val (.int (own_isr (own_kind tk z0 z1 z2 z3 z4 z5) (own_kind qk z0 z1 z2 z3 z4 z5) (own_text tl p2) (own_text ql p4))), .val (.int (0 : Int32)), .unset] [(.int (p2 ^^^ p4))])) _
            refine own_go (fun _ k => XS.iload X159.here hx rfl (hb hby at_191) rfl k) ?_
            show own_Go p e below (T159.setTop (mkF m 193 #[.val (.int p1), .val (.int p2), .val (.int p3), .val (.int p4), .val (.int p5), .val (.int tk), .val (.int tl), .val (.int qk), .val (.int ql), .val (.int (0 : Int32)), .val (.int (0 : Int32)), .val (.int p4), .val (.ref b135), .val (.ref x149), .val (.int (own_isr (own_kind tk z0 z1 z2 z3 z4 z5) (own_kind qk z0 z1 z2 z3 z4 z5) (own_text tl p2) (own_text ql p4))), .val (.int (0 : Int32)), .unset] [(.int (0 : Int32)), (.int (p2 ^^^ p4))])) _
            refine own_go (fun _ k => XS.iand X159.here hx rfl (hb hby at_193) rfl k) ?_
            show own_Go p e below (T159.setTop (mkF m 194 #[.val (.int p1), .val (.int p2), .val (.int p3), .val (.int p4), .val (.int p5), .val (.int tk), .val (.int tl), .val (.int qk), .val (.int ql), .val (.int (0 : Int32)), .val (.int (0 : Int32)), .val (.int p4), .val (.ref b135), .val (.ref x149), .val (.int (own_isr (own_kind tk z0 z1 z2 z3 z4 z5) (own_kind qk z0 z1 z2 z3 z4 z5) (own_text tl p2) (own_text ql p4))), .val (.int (0 : Int32)), .unset] [(.int ((p2 ^^^ p4) &&& (0 : Int32)))])) _
            refine own_go (fun _ k => XS.ifNo X159.here hx rfl (hb hby at_194) rfl ((if0 _ _).trans (teq (own_and0 _)).2) k) ?_
            show own_Go p e below (T159.setTop (mkF m 197 #[.val (.int p1), .val (.int p2), .val (.int p3), .val (.int p4), .val (.int p5), .val (.int tk), .val (.int tl), .val (.int qk), .val (.int ql), .val (.int (0 : Int32)), .val (.int (0 : Int32)), .val (.int p4), .val (.ref b135), .val (.ref x149), .val (.int (own_isr (own_kind tk z0 z1 z2 z3 z4 z5) (own_kind qk z0 z1 z2 z3 z4 z5) (own_text tl p2) (own_text ql p4))), .val (.int (0 : Int32)), .unset] [])) _
            refine own_go (fun _ k => XS.iconst X159.here hx rfl (hb hby at_197) k) ?_
            show own_Go p e below (T159.setTop (mkF m 198 #[.val (.int p1), .val (.int p2), .val (.int p3), .val (.int p4), .val (.int p5), .val (.int tk), .val (.int tl), .val (.int qk), .val (.int ql), .val (.int (0 : Int32)), .val (.int (0 : Int32)), .val (.int p4), .val (.ref b135), .val (.ref x149), .val (.int (own_isr (own_kind tk z0 z1 z2 z3 z4 z5) (own_kind qk z0 z1 z2 z3 z4 z5) (own_text tl p2) (own_text ql p4))), .val (.int (0 : Int32)), .unset] [(.int (1 : Int32))])) _
            refine own_go (fun _ k => XS.goto X159.here hx rfl (pc0 := 198) (pc' := 202) rfl (hb hby at_198) (by decide) (by decide) k) ?_
            show own_Go p e below (T159.setTop (mkF m 202 #[.val (.int p1), .val (.int p2), .val (.int p3), .val (.int p4), .val (.int p5), .val (.int tk), .val (.int tl), .val (.int qk), .val (.int ql), .val (.int (0 : Int32)), .val (.int (0 : Int32)), .val (.int p4), .val (.ref b135), .val (.ref x149), .val (.int (own_isr (own_kind tk z0 z1 z2 z3 z4 z5) (own_kind qk z0 z1 z2 z3 z4 z5) (own_text tl p2) (own_text ql p4))), .val (.int (0 : Int32)), .unset] [(.int (1 : Int32))])) _
            refine own_go (fun _ k => XS.istore X159.here hx rfl (hb hby at_202) rfl (l' := #[.val (.int p1), .val (.int p2), .val (.int p3), .val (.int p4), .val (.int p5), .val (.int tk), .val (.int tl), .val (.int qk), .val (.int ql), .val (.int (0 : Int32)), .val (.int (0 : Int32)), .val (.int p4), .val (.ref b135), .val (.ref x149), .val (.int (own_isr (own_kind tk z0 z1 z2 z3 z4 z5) (own_kind qk z0 z1 z2 z3 z4 z5) (own_text tl p2) (own_text ql p4))), .val (.int (0 : Int32)), .val (.int (1 : Int32))]) rfl k) ?_
            show own_Go p e below (T159.setTop (mkF m 204 #[.val (.int p1), .val (.int p2), .val (.int p3), .val (.int p4), .val (.int p5), .val (.int tk), .val (.int tl), .val (.int qk), .val (.int ql), .val (.int (0 : Int32)), .val (.int (0 : Int32)), .val (.int p4), .val (.ref b135), .val (.ref x149), .val (.int (own_isr (own_kind tk z0 z1 z2 z3 z4 z5) (own_kind qk z0 z1 z2 z3 z4 z5) (own_text tl p2) (own_text ql p4))), .val (.int (0 : Int32)), .val (.int (1 : Int32))] [])) _
            refine own_go (fun _ k => XS.iload X159.here hx rfl (hb hby at_204) rfl k) ?_
            show own_Go p e below (T159.setTop (mkF m 206 #[.val (.int p1), .val (.int p2), .val (.int p3), .val (.int p4), .val (.int p5), .val (.int tk), .val (.int tl), .val (.int qk), .val (.int ql), .val (.int (0 : Int32)), .val (.int (0 : Int32)), .val (.int p4), .val (.ref b135), .val (.ref x149), .val (.int (own_isr (own_kind tk z0 z1 z2 z3 z4 z5) (own_kind qk z0 z1 z2 z3 z4 z5) (own_text tl p2) (own_text ql p4))), .val (.int (0 : Int32)), .val (.int (1 : Int32))] [(.int (own_isr (own_kind tk z0 z1 z2 z3 z4 z5) (own_kind qk z0 z1 z2 z3 z4 z5) (own_text tl p2) (own_text ql p4)))])) _
            refine own_go (fun _ k => XS.iload X159.here hx rfl (hb hby at_206) rfl k) ?_
            show own_Go p e below (T159.setTop (mkF m 208 #[.val (.int p1), .val (.int p2), .val (.int p3), .val (.int p4), .val (.int p5), .val (.int tk), .val (.int tl), .val (.int qk), .val (.int ql), .val (.int (0 : Int32)), .val (.int (0 : Int32)), .val (.int p4), .val (.ref b135), .val (.ref x149), .val (.int (own_isr (own_kind tk z0 z1 z2 z3 z4 z5) (own_kind qk z0 z1 z2 z3 z4 z5) (own_text tl p2) (own_text ql p4))), .val (.int (0 : Int32)), .val (.int (1 : Int32))] [(.int (1 : Int32)), (.int (own_isr (own_kind tk z0 z1 z2 z3 z4 z5) (own_kind qk z0 z1 z2 z3 z4 z5) (own_text tl p2) (own_text ql p4)))])) _
            refine own_go (fun _ k => XS.icmpNo X159.here hx rfl (hb hby at_208) rfl (teq (own_isr_yy (congrArg (fun z => own_kind z z0 z1 z2 z3 z4 z5) hc161.symm) (own_tx0 hc160 hc162))).2 k) ?_
            show own_Go p e below (T159.setTop (mkF m 211 #[.val (.int p1), .val (.int p2), .val (.int p3), .val (.int p4), .val (.int p5), .val (.int tk), .val (.int tl), .val (.int qk), .val (.int ql), .val (.int (0 : Int32)), .val (.int (0 : Int32)), .val (.int p4), .val (.ref b135), .val (.ref x149), .val (.int (own_isr (own_kind tk z0 z1 z2 z3 z4 z5) (own_kind qk z0 z1 z2 z3 z4 z5) (own_text tl p2) (own_text ql p4))), .val (.int (0 : Int32)), .val (.int (1 : Int32))] [])) _
            refine own_go (fun _ k => XS.iconst X159.here hx rfl (hb hby at_211) k) ?_
            show own_Go p e below (T159.setTop (mkF m 212 #[.val (.int p1), .val (.int p2), .val (.int p3), .val (.int p4), .val (.int p5), .val (.int tk), .val (.int tl), .val (.int qk), .val (.int ql), .val (.int (0 : Int32)), .val (.int (0 : Int32)), .val (.int p4), .val (.ref b135), .val (.ref x149), .val (.int (own_isr (own_kind tk z0 z1 z2 z3 z4 z5) (own_kind qk z0 z1 z2 z3 z4 z5) (own_text tl p2) (own_text ql p4))), .val (.int (0 : Int32)), .val (.int (1 : Int32))] [(.int (1 : Int32))])) _
            refine own_go (fun _ k => XS.goto X159.here hx rfl (pc0 := 212) (pc' := 216) rfl (hb hby at_212) (by decide) (by decide) k) ?_
            show own_Go p e below (T159.setTop (mkF m 216 #[.val (.int p1), .val (.int p2), .val (.int p3), .val (.int p4), .val (.int p5), .val (.int tk), .val (.int tl), .val (.int qk), .val (.int ql), .val (.int (0 : Int32)), .val (.int (0 : Int32)), .val (.int p4), .val (.ref b135), .val (.ref x149), .val (.int (own_isr (own_kind tk z0 z1 z2 z3 z4 z5) (own_kind qk z0 z1 z2 z3 z4 z5) (own_text tl p2) (own_text ql p4))), .val (.int (0 : Int32)), .val (.int (1 : Int32))] [(.int (1 : Int32))])) _
            refine own_finW (v := (some (.int (nar .boolean (1 : Int32))))) X159 hh hZ149 hS149 (by rw [e159]; exact (Nat.le_refl _)) (fun h => by rw [hrt] at h; cases h) hlk (fun fs hr => retN X159 hx (t := .boolean) hrt (by simp) (hb hby at_216) hr) (QQ := QQ0 n0) ?_ own_hEL e159 (C150) (by decide) (by decide)
            rw [e159]
            exact ⟨rfl, N159⟩
          · skip
            refine own_go (fun _ k => XS.icmpYes X159.here hx rfl (pc0 := 184) (pc' := 201) rfl (hb hby at_184) rfl (feq hc162).2 (by decide) (by decide) k) ?_
            show own_Go p e below (T159.setTop (mkF m 201 #[.val (.int p1), .val (.int p2), .val (.int p3), .val (.int p4), .val (.int p5), .val (.int tk), .val (.int tl), .val (.int qk), .val (.int ql), .val (.int (0 : Int32)), .val (.int (0 : Int32)), .val (.int p4), .val (.ref b135), .val (.ref x149), .val (.int (own_isr (own_kind tk z0 z1 z2 z3 z4 z5) (own_kind qk z0 z1 z2 z3 z4 z5) (own_text tl p2) (own_text ql p4))), .val (.int (0 : Int32)), .unset] [])) _
            refine own_go (fun _ k => XS.iconst X159.here hx rfl (hb hby at_201) k) ?_
            show own_Go p e below (T159.setTop (mkF m 202 #[.val (.int p1), .val (.int p2), .val (.int p3), .val (.int p4), .val (.int p5), .val (.int tk), .val (.int tl), .val (.int qk), .val (.int ql), .val (.int (0 : Int32)), .val (.int (0 : Int32)), .val (.int p4), .val (.ref b135), .val (.ref x149), .val (.int (own_isr (own_kind tk z0 z1 z2 z3 z4 z5) (own_kind qk z0 z1 z2 z3 z4 z5) (own_text tl p2) (own_text ql p4))), .val (.int (0 : Int32)), .unset] [(.int (0 : Int32))])) _
            refine own_go (fun _ k => XS.istore X159.here hx rfl (hb hby at_202) rfl (l' := #[.val (.int p1), .val (.int p2), .val (.int p3), .val (.int p4), .val (.int p5), .val (.int tk), .val (.int tl), .val (.int qk), .val (.int ql), .val (.int (0 : Int32)), .val (.int (0 : Int32)), .val (.int p4), .val (.ref b135), .val (.ref x149), .val (.int (own_isr (own_kind tk z0 z1 z2 z3 z4 z5) (own_kind qk z0 z1 z2 z3 z4 z5) (own_text tl p2) (own_text ql p4))), .val (.int (0 : Int32)), .val (.int (0 : Int32))]) rfl k) ?_
            show own_Go p e below (T159.setTop (mkF m 204 #[.val (.int p1), .val (.int p2), .val (.int p3), .val (.int p4), .val (.int p5), .val (.int tk), .val (.int tl), .val (.int qk), .val (.int ql), .val (.int (0 : Int32)), .val (.int (0 : Int32)), .val (.int p4), .val (.ref b135), .val (.ref x149), .val (.int (own_isr (own_kind tk z0 z1 z2 z3 z4 z5) (own_kind qk z0 z1 z2 z3 z4 z5) (own_text tl p2) (own_text ql p4))), .val (.int (0 : Int32)), .val (.int (0 : Int32))] [])) _
            refine own_go (fun _ k => XS.iload X159.here hx rfl (hb hby at_204) rfl k) ?_
            show own_Go p e below (T159.setTop (mkF m 206 #[.val (.int p1), .val (.int p2), .val (.int p3), .val (.int p4), .val (.int p5), .val (.int tk), .val (.int tl), .val (.int qk), .val (.int ql), .val (.int (0 : Int32)), .val (.int (0 : Int32)), .val (.int p4), .val (.ref b135), .val (.ref x149), .val (.int (own_isr (own_kind tk z0 z1 z2 z3 z4 z5) (own_kind qk z0 z1 z2 z3 z4 z5) (own_text tl p2) (own_text ql p4))), .val (.int (0 : Int32)), .val (.int (0 : Int32))] [(.int (own_isr (own_kind tk z0 z1 z2 z3 z4 z5) (own_kind qk z0 z1 z2 z3 z4 z5) (own_text tl p2) (own_text ql p4)))])) _
            refine own_go (fun _ k => XS.iload X159.here hx rfl (hb hby at_206) rfl k) ?_
            show own_Go p e below (T159.setTop (mkF m 208 #[.val (.int p1), .val (.int p2), .val (.int p3), .val (.int p4), .val (.int p5), .val (.int tk), .val (.int tl), .val (.int qk), .val (.int ql), .val (.int (0 : Int32)), .val (.int (0 : Int32)), .val (.int p4), .val (.ref b135), .val (.ref x149), .val (.int (own_isr (own_kind tk z0 z1 z2 z3 z4 z5) (own_kind qk z0 z1 z2 z3 z4 z5) (own_text tl p2) (own_text ql p4))), .val (.int (0 : Int32)), .val (.int (0 : Int32))] [(.int (0 : Int32)), (.int (own_isr (own_kind tk z0 z1 z2 z3 z4 z5) (own_kind qk z0 z1 z2 z3 z4 z5) (own_text tl p2) (own_text ql p4)))])) _
            refine own_go (fun _ k => XS.icmpNo X159.here hx rfl (hb hby at_208) rfl (teq (own_isr_m (own_text_ne (h_tl ▸ own_a3 _) (h_ql ▸ own_a3 _) hc162))).2 k) ?_
            show own_Go p e below (T159.setTop (mkF m 211 #[.val (.int p1), .val (.int p2), .val (.int p3), .val (.int p4), .val (.int p5), .val (.int tk), .val (.int tl), .val (.int qk), .val (.int ql), .val (.int (0 : Int32)), .val (.int (0 : Int32)), .val (.int p4), .val (.ref b135), .val (.ref x149), .val (.int (own_isr (own_kind tk z0 z1 z2 z3 z4 z5) (own_kind qk z0 z1 z2 z3 z4 z5) (own_text tl p2) (own_text ql p4))), .val (.int (0 : Int32)), .val (.int (0 : Int32))] [])) _
            refine own_go (fun _ k => XS.iconst X159.here hx rfl (hb hby at_211) k) ?_
            show own_Go p e below (T159.setTop (mkF m 212 #[.val (.int p1), .val (.int p2), .val (.int p3), .val (.int p4), .val (.int p5), .val (.int tk), .val (.int tl), .val (.int qk), .val (.int ql), .val (.int (0 : Int32)), .val (.int (0 : Int32)), .val (.int p4), .val (.ref b135), .val (.ref x149), .val (.int (own_isr (own_kind tk z0 z1 z2 z3 z4 z5) (own_kind qk z0 z1 z2 z3 z4 z5) (own_text tl p2) (own_text ql p4))), .val (.int (0 : Int32)), .val (.int (0 : Int32))] [(.int (1 : Int32))])) _
            refine own_go (fun _ k => XS.goto X159.here hx rfl (pc0 := 212) (pc' := 216) rfl (hb hby at_212) (by decide) (by decide) k) ?_
            show own_Go p e below (T159.setTop (mkF m 216 #[.val (.int p1), .val (.int p2), .val (.int p3), .val (.int p4), .val (.int p5), .val (.int tk), .val (.int tl), .val (.int qk), .val (.int ql), .val (.int (0 : Int32)), .val (.int (0 : Int32)), .val (.int p4), .val (.ref b135), .val (.ref x149), .val (.int (own_isr (own_kind tk z0 z1 z2 z3 z4 z5) (own_kind qk z0 z1 z2 z3 z4 z5) (own_text tl p2) (own_text ql p4))), .val (.int (0 : Int32)), .val (.int (0 : Int32))] [(.int (1 : Int32))])) _
            refine own_finW (v := (some (.int (nar .boolean (1 : Int32))))) X159 hh hZ149 hS149 (by rw [e159]; exact (Nat.le_refl _)) (fun h => by rw [hrt] at h; cases h) hlk (fun fs hr => retN X159 hx (t := .boolean) hrt (by simp) (hb hby at_216) hr) (QQ := QQ0 n0) ?_ own_hEL e159 (C150) (by decide) (by decide)
            rw [e159]
            exact ⟨rfl, N159⟩
        · skip
          refine own_go (fun _ k => XS.icmpYes X159.here hx rfl (pc0 := 172) (pc' := 201) rfl (hb hby at_172) rfl (feq hc161).2 (by decide) (by decide) k) ?_
          show own_Go p e below (T159.setTop (mkF m 201 #[.val (.int p1), .val (.int p2), .val (.int p3), .val (.int p4), .val (.int p5), .val (.int tk), .val (.int tl), .val (.int qk), .val (.int ql), .val (.int (0 : Int32)), .val (.int (0 : Int32)), .val (.int p4), .val (.ref b135), .val (.ref x149), .val (.int (own_isr (own_kind tk z0 z1 z2 z3 z4 z5) (own_kind qk z0 z1 z2 z3 z4 z5) (own_text tl p2) (own_text ql p4))), .val (.int (0 : Int32)), .unset] [])) _
          refine own_go (fun _ k => XS.iconst X159.here hx rfl (hb hby at_201) k) ?_
          show own_Go p e below (T159.setTop (mkF m 202 #[.val (.int p1), .val (.int p2), .val (.int p3), .val (.int p4), .val (.int p5), .val (.int tk), .val (.int tl), .val (.int qk), .val (.int ql), .val (.int (0 : Int32)), .val (.int (0 : Int32)), .val (.int p4), .val (.ref b135), .val (.ref x149), .val (.int (own_isr (own_kind tk z0 z1 z2 z3 z4 z5) (own_kind qk z0 z1 z2 z3 z4 z5) (own_text tl p2) (own_text ql p4))), .val (.int (0 : Int32)), .unset] [(.int (0 : Int32))])) _
          refine own_go (fun _ k => XS.istore X159.here hx rfl (hb hby at_202) rfl (l' := #[.val (.int p1), .val (.int p2), .val (.int p3), .val (.int p4), .val (.int p5), .val (.int tk), .val (.int tl), .val (.int qk), .val (.int ql), .val (.int (0 : Int32)), .val (.int (0 : Int32)), .val (.int p4), .val (.ref b135), .val (.ref x149), .val (.int (own_isr (own_kind tk z0 z1 z2 z3 z4 z5) (own_kind qk z0 z1 z2 z3 z4 z5) (own_text tl p2) (own_text ql p4))), .val (.int (0 : Int32)), .val (.int (0 : Int32))]) rfl k) ?_
          show own_Go p e below (T159.setTop (mkF m 204 #[.val (.int p1), .val (.int p2), .val (.int p3), .val (.int p4), .val (.int p5), .val (.int tk), .val (.int tl), .val (.int qk), .val (.int ql), .val (.int (0 : Int32)), .val (.int (0 : Int32)), .val (.int p4), .val (.ref b135), .val (.ref x149), .val (.int (own_isr (own_kind tk z0 z1 z2 z3 z4 z5) (own_kind qk z0 z1 z2 z3 z4 z5) (own_text tl p2) (own_text ql p4))), .val (.int (0 : Int32)), .val (.int (0 : Int32))] [])) _
          refine own_go (fun _ k => XS.iload X159.here hx rfl (hb hby at_204) rfl k) ?_
          show own_Go p e below (T159.setTop (mkF m 206 #[.val (.int p1), .val (.int p2), .val (.int p3), .val (.int p4), .val (.int p5), .val (.int tk), .val (.int tl), .val (.int qk), .val (.int ql), .val (.int (0 : Int32)), .val (.int (0 : Int32)), .val (.int p4), .val (.ref b135), .val (.ref x149), .val (.int (own_isr (own_kind tk z0 z1 z2 z3 z4 z5) (own_kind qk z0 z1 z2 z3 z4 z5) (own_text tl p2) (own_text ql p4))), .val (.int (0 : Int32)), .val (.int (0 : Int32))] [(.int (own_isr (own_kind tk z0 z1 z2 z3 z4 z5) (own_kind qk z0 z1 z2 z3 z4 z5) (own_text tl p2) (own_text ql p4)))])) _
          refine own_go (fun _ k => XS.iload X159.here hx rfl (hb hby at_206) rfl k) ?_
          show own_Go p e below (T159.setTop (mkF m 208 #[.val (.int p1), .val (.int p2), .val (.int p3), .val (.int p4), .val (.int p5), .val (.int tk), .val (.int tl), .val (.int qk), .val (.int ql), .val (.int (0 : Int32)), .val (.int (0 : Int32)), .val (.int p4), .val (.ref b135), .val (.ref x149), .val (.int (own_isr (own_kind tk z0 z1 z2 z3 z4 z5) (own_kind qk z0 z1 z2 z3 z4 z5) (own_text tl p2) (own_text ql p4))), .val (.int (0 : Int32)), .val (.int (0 : Int32))] [(.int (0 : Int32)), (.int (own_isr (own_kind tk z0 z1 z2 z3 z4 z5) (own_kind qk z0 z1 z2 z3 z4 z5) (own_text tl p2) (own_text ql p4)))])) _
          refine own_go (fun _ k => XS.icmpNo X159.here hx rfl (hb hby at_208) rfl (teq (own_isr_n1 (own_kind_ne hz (h_tk ▸ own_i6 p1) (h_qk ▸ own_i7 p3) (fun q => hc161 q.symm)))).2 k) ?_
          show own_Go p e below (T159.setTop (mkF m 211 #[.val (.int p1), .val (.int p2), .val (.int p3), .val (.int p4), .val (.int p5), .val (.int tk), .val (.int tl), .val (.int qk), .val (.int ql), .val (.int (0 : Int32)), .val (.int (0 : Int32)), .val (.int p4), .val (.ref b135), .val (.ref x149), .val (.int (own_isr (own_kind tk z0 z1 z2 z3 z4 z5) (own_kind qk z0 z1 z2 z3 z4 z5) (own_text tl p2) (own_text ql p4))), .val (.int (0 : Int32)), .val (.int (0 : Int32))] [])) _
          refine own_go (fun _ k => XS.iconst X159.here hx rfl (hb hby at_211) k) ?_
          show own_Go p e below (T159.setTop (mkF m 212 #[.val (.int p1), .val (.int p2), .val (.int p3), .val (.int p4), .val (.int p5), .val (.int tk), .val (.int tl), .val (.int qk), .val (.int ql), .val (.int (0 : Int32)), .val (.int (0 : Int32)), .val (.int p4), .val (.ref b135), .val (.ref x149), .val (.int (own_isr (own_kind tk z0 z1 z2 z3 z4 z5) (own_kind qk z0 z1 z2 z3 z4 z5) (own_text tl p2) (own_text ql p4))), .val (.int (0 : Int32)), .val (.int (0 : Int32))] [(.int (1 : Int32))])) _
          refine own_go (fun _ k => XS.goto X159.here hx rfl (pc0 := 212) (pc' := 216) rfl (hb hby at_212) (by decide) (by decide) k) ?_
          show own_Go p e below (T159.setTop (mkF m 216 #[.val (.int p1), .val (.int p2), .val (.int p3), .val (.int p4), .val (.int p5), .val (.int tk), .val (.int tl), .val (.int qk), .val (.int ql), .val (.int (0 : Int32)), .val (.int (0 : Int32)), .val (.int p4), .val (.ref b135), .val (.ref x149), .val (.int (own_isr (own_kind tk z0 z1 z2 z3 z4 z5) (own_kind qk z0 z1 z2 z3 z4 z5) (own_text tl p2) (own_text ql p4))), .val (.int (0 : Int32)), .val (.int (0 : Int32))] [(.int (1 : Int32))])) _
          refine own_finW (v := (some (.int (nar .boolean (1 : Int32))))) X159 hh hZ149 hS149 (by rw [e159]; exact (Nat.le_refl _)) (fun h => by rw [hrt] at h; cases h) hlk (fun fs hr => retN X159 hx (t := .boolean) hrt (by simp) (hb hby at_216) hr) (QQ := QQ0 n0) ?_ own_hEL e159 (C150) (by decide) (by decide)
          rw [e159]
          exact ⟨rfl, N159⟩
      · skip
        refine own_go (fun _ k => XS.ifYes X159.here hx rfl (pc0 := 134) (pc' := 141) rfl (hb hby at_134) rfl ((if0 _ _).trans (feq hc160).2) (by decide) (by decide) k) ?_
        show own_Go p e below (T159.setTop (mkF m 141 #[.val (.int p1), .val (.int p2), .val (.int p3), .val (.int p4), .val (.int p5), .val (.int tk), .val (.int tl), .val (.int qk), .val (.int ql), .val (.int (0 : Int32)), .val (.int (0 : Int32)), .val (.int p4), .val (.ref b135), .val (.ref x149), .val (.int (own_isr (own_kind tk z0 z1 z2 z3 z4 z5) (own_kind qk z0 z1 z2 z3 z4 z5) (own_text tl p2) (own_text ql p4))), .unset, .unset] [])) _
        refine own_go (fun _ k => XS.iload X159.here hx rfl (hb hby at_141) rfl k) ?_
        show own_Go p e below (T159.setTop (mkF m 143 #[.val (.int p1), .val (.int p2), .val (.int p3), .val (.int p4), .val (.int p5), .val (.int tk), .val (.int tl), .val (.int qk), .val (.int ql), .val (.int (0 : Int32)), .val (.int (0 : Int32)), .val (.int p4), .val (.ref b135), .val (.ref x149), .val (.int (own_isr (own_kind tk z0 z1 z2 z3 z4 z5) (own_kind qk z0 z1 z2 z3 z4 z5) (own_text tl p2) (own_text ql p4))), .unset, .unset] [(.int tl)])) _
        refine own_go (fun _ k => XS.iconst X159.here hx rfl (hb hby at_143) k) ?_
        show own_Go p e below (T159.setTop (mkF m 144 #[.val (.int p1), .val (.int p2), .val (.int p3), .val (.int p4), .val (.int p5), .val (.int tk), .val (.int tl), .val (.int qk), .val (.int ql), .val (.int (0 : Int32)), .val (.int (0 : Int32)), .val (.int p4), .val (.ref b135), .val (.ref x149), .val (.int (own_isr (own_kind tk z0 z1 z2 z3 z4 z5) (own_kind qk z0 z1 z2 z3 z4 z5) (own_text tl p2) (own_text ql p4))), .unset, .unset] [(.int (1 : Int32)), (.int tl)])) _
        by_cases hc163 : tl = (1 : Int32)
        · skip
          refine own_go (fun _ k => XS.icmpNo X159.here hx rfl (hb hby at_144) rfl (teq hc163).2 k) ?_
          show own_Go p e below (T159.setTop (mkF m 147 #[.val (.int p1), .val (.int p2), .val (.int p3), .val (.int p4), .val (.int p5), .val (.int tk), .val (.int tl), .val (.int qk), .val (.int ql), .val (.int (0 : Int32)), .val (.int (0 : Int32)), .val (.int p4), .val (.ref b135), .val (.ref x149), .val (.int (own_isr (own_kind tk z0 z1 z2 z3 z4 z5) (own_kind qk z0 z1 z2 z3 z4 z5) (own_text tl p2) (own_text ql p4))), .unset, .unset] [])) _
          refine own_go (fun _ k => XS.sipush X159.here hx rfl (hb hby at_147) k) ?_
          show own_Go p e below (T159.setTop (mkF m 150 #[.val (.int p1), .val (.int p2), .val (.int p3), .val (.int p4), .val (.int p5), .val (.int tk), .val (.int tl), .val (.int qk), .val (.int ql), .val (.int (0 : Int32)), .val (.int (0 : Int32)), .val (.int p4), .val (.ref b135), .val (.ref x149), .val (.int (own_isr (own_kind tk z0 z1 z2 z3 z4 z5) (own_kind qk z0 z1 z2 z3 z4 z5) (own_text tl p2) (own_text ql p4))), .unset, .unset] [(.int (255 : Int32))])) _
          refine own_go (fun _ k => XS.goto X159.here hx rfl (pc0 := 150) (pc' := 166) rfl (hb hby at_150) (by decide) (by decide) k) ?_
          show own_Go p e below (T159.setTop (mkF m 166 #[.val (.int p1), .val (.int p2), .val (.int p3), .val (.int p4), .val (.int p5), .val (.int tk), .val (.int tl), .val (.int qk), .val (.int ql), .val (.int (0 : Int32)), .val (.int (0 : Int32)), .val (.int p4), .val (.ref b135), .val (.ref x149), .val (.int (own_isr (own_kind tk z0 z1 z2 z3 z4 z5) (own_kind qk z0 z1 z2 z3 z4 z5) (own_text tl p2) (own_text ql p4))), .unset, .unset] [(.int (255 : Int32))])) _
          refine own_go (fun _ k => XS.istore X159.here hx rfl (hb hby at_166) rfl (l' := #[.val (.int p1), .val (.int p2), .val (.int p3), .val (.int p4), .val (.int p5), .val (.int tk), .val (.int tl), .val (.int qk), .val (.int ql), .val (.int (0 : Int32)), .val (.int (0 : Int32)), .val (.int p4), .val (.ref b135), .val (.ref x149), .val (.int (own_isr (own_kind tk z0 z1 z2 z3 z4 z5) (own_kind qk z0 z1 z2 z3 z4 z5) (own_text tl p2) (own_text ql p4))), .val (.int (255 : Int32)), .unset]) rfl k) ?_
          show own_Go p e below (T159.setTop (mkF m 168 #[.val (.int p1), .val (.int p2), .val (.int p3), .val (.int p4), .val (.int p5), .val (.int tk), .val (.int tl), .val (.int qk), .val (.int ql), .val (.int (0 : Int32)), .val (.int (0 : Int32)), .val (.int p4), .val (.ref b135), .val (.ref x149), .val (.int (own_isr (own_kind tk z0 z1 z2 z3 z4 z5) (own_kind qk z0 z1 z2 z3 z4 z5) (own_text tl p2) (own_text ql p4))), .val (.int (255 : Int32)), .unset] [])) _
          refine own_go (fun _ k => XS.iload X159.here hx rfl (hb hby at_168) rfl k) ?_
          show own_Go p e below (T159.setTop (mkF m 170 #[.val (.int p1), .val (.int p2), .val (.int p3), .val (.int p4), .val (.int p5), .val (.int tk), .val (.int tl), .val (.int qk), .val (.int ql), .val (.int (0 : Int32)), .val (.int (0 : Int32)), .val (.int p4), .val (.ref b135), .val (.ref x149), .val (.int (own_isr (own_kind tk z0 z1 z2 z3 z4 z5) (own_kind qk z0 z1 z2 z3 z4 z5) (own_text tl p2) (own_text ql p4))), .val (.int (255 : Int32)), .unset] [(.int qk)])) _
          refine own_go (fun _ k => XS.iload X159.here hx rfl (hb hby at_170) rfl k) ?_
          show own_Go p e below (T159.setTop (mkF m 172 #[.val (.int p1), .val (.int p2), .val (.int p3), .val (.int p4), .val (.int p5), .val (.int tk), .val (.int tl), .val (.int qk), .val (.int ql), .val (.int (0 : Int32)), .val (.int (0 : Int32)), .val (.int p4), .val (.ref b135), .val (.ref x149), .val (.int (own_isr (own_kind tk z0 z1 z2 z3 z4 z5) (own_kind qk z0 z1 z2 z3 z4 z5) (own_text tl p2) (own_text ql p4))), .val (.int (255 : Int32)), .unset] [(.int tk), (.int qk)])) _
          by_cases hc164 : qk = tk
          · skip
            refine own_go (fun _ k => XS.icmpNo X159.here hx rfl (hb hby at_172) rfl (teq hc164).2 k) ?_
            show own_Go p e below (T159.setTop (mkF m 175 #[.val (.int p1), .val (.int p2), .val (.int p3), .val (.int p4), .val (.int p5), .val (.int tk), .val (.int tl), .val (.int qk), .val (.int ql), .val (.int (0 : Int32)), .val (.int (0 : Int32)), .val (.int p4), .val (.ref b135), .val (.ref x149), .val (.int (own_isr (own_kind tk z0 z1 z2 z3 z4 z5) (own_kind qk z0 z1 z2 z3 z4 z5) (own_text tl p2) (own_text ql p4))), .val (.int (255 : Int32)), .unset] [])) _
            refine own_go (fun _ k => XS.iload X159.here hx rfl (hb hby at_175) rfl k) ?_
            show own_Go p e below (T159.setTop (mkF m 177 #[.val (.int p1), .val (.int p2), .val (.int p3), .val (.int p4), .val (.int p5), .val (.int tk), .val (.int tl), .val (.int qk), .val (.int ql), .val (.int (0 : Int32)), .val (.int (0 : Int32)), .val (.int p4), .val (.ref b135), .val (.ref x149), .val (.int (own_isr (own_kind tk z0 z1 z2 z3 z4 z5) (own_kind qk z0 z1 z2 z3 z4 z5) (own_text tl p2) (own_text ql p4))), .val (.int (255 : Int32)), .unset] [(.int (0 : Int32))])) _
            refine own_go (fun _ k => XS.ifNo X159.here hx rfl (hb hby at_177) rfl ((if0 _ _).trans (teq (by decide : (0 : Int32) = (0 : Int32))).2) k) ?_
            show own_Go p e below (T159.setTop (mkF m 180 #[.val (.int p1), .val (.int p2), .val (.int p3), .val (.int p4), .val (.int p5), .val (.int tk), .val (.int tl), .val (.int qk), .val (.int ql), .val (.int (0 : Int32)), .val (.int (0 : Int32)), .val (.int p4), .val (.ref b135), .val (.ref x149), .val (.int (own_isr (own_kind tk z0 z1 z2 z3 z4 z5) (own_kind qk z0 z1 z2 z3 z4 z5) (own_text tl p2) (own_text ql p4))), .val (.int (255 : Int32)), .unset] [])) _
            refine own_go (fun _ k => XS.iload X159.here hx rfl (hb hby at_180) rfl k) ?_
            show own_Go p e below (T159.setTop (mkF m 182 #[.val (.int p1), .val (.int p2), .val (.int p3), .val (.int p4), .val (.int p5), .val (.int tk), .val (.int tl), .val (.int qk), .val (.int ql), .val (.int (0 : Int32)), .val (.int (0 : Int32)), .val (.int p4), .val (.ref b135), .val (.ref x149), .val (.int (own_isr (own_kind tk z0 z1 z2 z3 z4 z5) (own_kind qk z0 z1 z2 z3 z4 z5) (own_text tl p2) (own_text ql p4))), .val (.int (255 : Int32)), .unset] [(.int tl)])) _
            refine own_go (fun _ k => XS.iload X159.here hx rfl (hb hby at_182) rfl k) ?_
            show own_Go p e below (T159.setTop (mkF m 184 #[.val (.int p1), .val (.int p2), .val (.int p3), .val (.int p4), .val (.int p5), .val (.int tk), .val (.int tl), .val (.int qk), .val (.int ql), .val (.int (0 : Int32)), .val (.int (0 : Int32)), .val (.int p4), .val (.ref b135), .val (.ref x149), .val (.int (own_isr (own_kind tk z0 z1 z2 z3 z4 z5) (own_kind qk z0 z1 z2 z3 z4 z5) (own_text tl p2) (own_text ql p4))), .val (.int (255 : Int32)), .unset] [(.int ql), (.int tl)])) _
            by_cases hc165 : tl = ql
            · skip
              refine own_go (fun _ k => XS.icmpNo X159.here hx rfl (hb hby at_184) rfl (teq hc165).2 k) ?_
              show own_Go p e below (T159.setTop (mkF m 187 #[.val (.int p1), .val (.int p2), .val (.int p3), .val (.int p4), .val (.int p5), .val (.int tk), .val (.int tl), .val (.int qk), .val (.int ql), .val (.int (0 : Int32)), .val (.int (0 : Int32)), .val (.int p4), .val (.ref b135), .val (.ref x149), .val (.int (own_isr (own_kind tk z0 z1 z2 z3 z4 z5) (own_kind qk z0 z1 z2 z3 z4 z5) (own_text tl p2) (own_text ql p4))), .val (.int (255 : Int32)), .unset] [])) _
              refine own_go (fun _ k => XS.iloadN X159.here hx rfl (hb hby at_187) rfl k) ?_
              show own_Go p e below (T159.setTop (mkF m 188 #[.val (.int p1), .val (.int p2), .val (.int p3), .val (.int p4), .val (.int p5), .val (.int tk), .val (.int tl), .val (.int qk), .val (.int ql), .val (.int (0 : Int32)), .val (.int (0 : Int32)), .val (.int p4), .val (.ref b135), .val (.ref x149), .val (.int (own_isr (own_kind tk z0 z1 z2 z3 z4 z5) (own_kind qk z0 z1 z2 z3 z4 z5) (own_text tl p2) (own_text ql p4))), .val (.int (255 : Int32)), .unset] [(.int p2)])) _
              refine own_go (fun _ k => XS.iload X159.here hx rfl (hb hby at_188) rfl k) ?_
              show own_Go p e below (T159.setTop (mkF m 190 #[.val (.int p1), .val (.int p2), .val (.int p3), .val (.int p4), .val (.int p5), .val (.int tk), .val (.int tl), .val (.int qk), .val (.int ql), .val (.int (0 : Int32)), .val (.int (0 : Int32)), .val (.int p4), .val (.ref b135), .val (.ref x149), .val (.int (own_isr (own_kind tk z0 z1 z2 z3 z4 z5) (own_kind qk z0 z1 z2 z3 z4 z5) (own_text tl p2) (own_text ql p4))), .val (.int (255 : Int32)), .unset] [(.int p4), (.int p2)])) _
              refine own_go (fun _ k => XS.ixor X159.here hx rfl (hb hby at_190) rfl k) ?_
              show own_Go p e below (T159.setTop (mkF m 191 #[.val (.int p1), .val (.int p2), .val (.int p3), .val (.int p4), .val (.int p5), .val (.int tk), .val (.int tl), .val (.int qk), .val (.int ql), .val (.int (0 : Int32)), .val (.int (0 : Int32)), .val (.int p4), .val (.ref b135), .val (.ref x149), .val (.int (own_isr (own_kind tk z0 z1 z2 z3 z4 z5) (own_kind qk z0 z1 z2 z3 z4 z5) (own_text tl p2) (own_text ql p4))), .val (.int (255 : Int32)), .unset] [(.int (p2 ^^^ p4))])) _
              refine own_go (fun _ k => XS.iload X159.here hx rfl (hb hby at_191) rfl k) ?_
              show own_Go p e below (T159.setTop (mkF m 193 #[.val (.int p1), .val (.int p2), .val (.int p3), .val (.int p4), .val (.int p5), .val (.int tk), .val (.int tl), .val (.int qk), .val (.int ql), .val (.int (0 : Int32)), .val (.int (0 : Int32)), .val (.int p4), .val (.ref b135), .val (.ref x149), .val (.int (own_isr (own_kind tk z0 z1 z2 z3 z4 z5) (own_kind qk z0 z1 z2 z3 z4 z5) (own_text tl p2) (own_text ql p4))), .val (.int (255 : Int32)), .unset] [(.int (255 : Int32)), (.int (p2 ^^^ p4))])) _
              refine own_go (fun _ k => XS.iand X159.here hx rfl (hb hby at_193) rfl k) ?_
              show own_Go p e below (T159.setTop (mkF m 194 #[.val (.int p1), .val (.int p2), .val (.int p3), .val (.int p4), .val (.int p5), .val (.int tk), .val (.int tl), .val (.int qk), .val (.int ql), .val (.int (0 : Int32)), .val (.int (0 : Int32)), .val (.int p4), .val (.ref b135), .val (.ref x149), .val (.int (own_isr (own_kind tk z0 z1 z2 z3 z4 z5) (own_kind qk z0 z1 z2 z3 z4 z5) (own_text tl p2) (own_text ql p4))), .val (.int (255 : Int32)), .unset] [(.int ((p2 ^^^ p4) &&& (255 : Int32)))])) _
              by_cases hc166 : ((p2 ^^^ p4) &&& (255 : Int32)) = (0 : Int32)
              · skip
                refine own_go (fun _ k => XS.ifNo X159.here hx rfl (hb hby at_194) rfl ((if0 _ _).trans (teq hc166).2) k) ?_
                show own_Go p e below (T159.setTop (mkF m 197 #[.val (.int p1), .val (.int p2), .val (.int p3), .val (.int p4), .val (.int p5), .val (.int tk), .val (.int tl), .val (.int qk), .val (.int ql), .val (.int (0 : Int32)), .val (.int (0 : Int32)), .val (.int p4), .val (.ref b135), .val (.ref x149), .val (.int (own_isr (own_kind tk z0 z1 z2 z3 z4 z5) (own_kind qk z0 z1 z2 z3 z4 z5) (own_text tl p2) (own_text ql p4))), .val (.int (255 : Int32)), .unset] [])) _
                refine own_go (fun _ k => XS.iconst X159.here hx rfl (hb hby at_197) k) ?_
                show own_Go p e below (T159.setTop (mkF m 198 #[.val (.int p1), .val (.int p2), .val (.int p3), .val (.int p4), .val (.int p5), .val (.int tk), .val (.int tl), .val (.int qk), .val (.int ql), .val (.int (0 : Int32)), .val (.int (0 : Int32)), .val (.int p4), .val (.ref b135), .val (.ref x149), .val (.int (own_isr (own_kind tk z0 z1 z2 z3 z4 z5) (own_kind qk z0 z1 z2 z3 z4 z5) (own_text tl p2) (own_text ql p4))), .val (.int (255 : Int32)), .unset] [(.int (1 : Int32))])) _
                refine own_go (fun _ k => XS.goto X159.here hx rfl (pc0 := 198) (pc' := 202) rfl (hb hby at_198) (by decide) (by decide) k) ?_
                show own_Go p e below (T159.setTop (mkF m 202 #[.val (.int p1), .val (.int p2), .val (.int p3), .val (.int p4), .val (.int p5), .val (.int tk), .val (.int tl), .val (.int qk), .val (.int ql), .val (.int (0 : Int32)), .val (.int (0 : Int32)), .val (.int p4), .val (.ref b135), .val (.ref x149), .val (.int (own_isr (own_kind tk z0 z1 z2 z3 z4 z5) (own_kind qk z0 z1 z2 z3 z4 z5) (own_text tl p2) (own_text ql p4))), .val (.int (255 : Int32)), .unset] [(.int (1 : Int32))])) _
                refine own_go (fun _ k => XS.istore X159.here hx rfl (hb hby at_202) rfl (l' := #[.val (.int p1), .val (.int p2), .val (.int p3), .val (.int p4), .val (.int p5), .val (.int tk), .val (.int tl), .val (.int qk), .val (.int ql), .val (.int (0 : Int32)), .val (.int (0 : Int32)), .val (.int p4), .val (.ref b135), .val (.ref x149), .val (.int (own_isr (own_kind tk z0 z1 z2 z3 z4 z5) (own_kind qk z0 z1 z2 z3 z4 z5) (own_text tl p2) (own_text ql p4))), .val (.int (255 : Int32)), .val (.int (1 : Int32))]) rfl k) ?_
                show own_Go p e below (T159.setTop (mkF m 204 #[.val (.int p1), .val (.int p2), .val (.int p3), .val (.int p4), .val (.int p5), .val (.int tk), .val (.int tl), .val (.int qk), .val (.int ql), .val (.int (0 : Int32)), .val (.int (0 : Int32)), .val (.int p4), .val (.ref b135), .val (.ref x149), .val (.int (own_isr (own_kind tk z0 z1 z2 z3 z4 z5) (own_kind qk z0 z1 z2 z3 z4 z5) (own_text tl p2) (own_text ql p4))), .val (.int (255 : Int32)), .val (.int (1 : Int32))] [])) _
                refine own_go (fun _ k => XS.iload X159.here hx rfl (hb hby at_204) rfl k) ?_
                show own_Go p e below (T159.setTop (mkF m 206 #[.val (.int p1), .val (.int p2), .val (.int p3), .val (.int p4), .val (.int p5), .val (.int tk), .val (.int tl), .val (.int qk), .val (.int ql), .val (.int (0 : Int32)), .val (.int (0 : Int32)), .val (.int p4), .val (.ref b135), .val (.ref x149), .val (.int (own_isr (own_kind tk z0 z1 z2 z3 z4 z5) (own_kind qk z0 z1 z2 z3 z4 z5) (own_text tl p2) (own_text ql p4))), .val (.int (255 : Int32)), .val (.int (1 : Int32))] [(.int (own_isr (own_kind tk z0 z1 z2 z3 z4 z5) (own_kind qk z0 z1 z2 z3 z4 z5) (own_text tl p2) (own_text ql p4)))])) _
                refine own_go (fun _ k => XS.iload X159.here hx rfl (hb hby at_206) rfl k) ?_
                show own_Go p e below (T159.setTop (mkF m 208 #[.val (.int p1), .val (.int p2), .val (.int p3), .val (.int p4), .val (.int p5), .val (.int tk), .val (.int tl), .val (.int qk), .val (.int ql), .val (.int (0 : Int32)), .val (.int (0 : Int32)), .val (.int p4), .val (.ref b135), .val (.ref x149), .val (.int (own_isr (own_kind tk z0 z1 z2 z3 z4 z5) (own_kind qk z0 z1 z2 z3 z4 z5) (own_text tl p2) (own_text ql p4))), .val (.int (255 : Int32)), .val (.int (1 : Int32))] [(.int (1 : Int32)), (.int (own_isr (own_kind tk z0 z1 z2 z3 z4 z5) (own_kind qk z0 z1 z2 z3 z4 z5) (own_text tl p2) (own_text ql p4)))])) _
                refine own_go (fun _ k => XS.icmpNo X159.here hx rfl (hb hby at_208) rfl (teq (own_isr_yy (congrArg (fun z => own_kind z z0 z1 z2 z3 z4 z5) hc164.symm) ((own_tx1 hc160 hc163 hc165).mpr hc166))).2 k) ?_
                show own_Go p e below (T159.setTop (mkF m 211 #[.val (.int p1), .val (.int p2), .val (.int p3), .val (.int p4), .val (.int p5), .val (.int tk), .val (.int tl), .val (.int qk), .val (.int ql), .val (.int (0 : Int32)), .val (.int (0 : Int32)), .val (.int p4), .val (.ref b135), .val (.ref x149), .val (.int (own_isr (own_kind tk z0 z1 z2 z3 z4 z5) (own_kind qk z0 z1 z2 z3 z4 z5) (own_text tl p2) (own_text ql p4))), .val (.int (255 : Int32)), .val (.int (1 : Int32))] [])) _
                refine own_go (fun _ k => XS.iconst X159.here hx rfl (hb hby at_211) k) ?_
                show own_Go p e below (T159.setTop (mkF m 212 #[.val (.int p1), .val (.int p2), .val (.int p3), .val (.int p4), .val (.int p5), .val (.int tk), .val (.int tl), .val (.int qk), .val (.int ql), .val (.int (0 : Int32)), .val (.int (0 : Int32)), .val (.int p4), .val (.ref b135), .val (.ref x149), .val (.int (own_isr (own_kind tk z0 z1 z2 z3 z4 z5) (own_kind qk z0 z1 z2 z3 z4 z5) (own_text tl p2) (own_text ql p4))), .val (.int (255 : Int32)), .val (.int (1 : Int32))] [(.int (1 : Int32))])) _
                refine own_go (fun _ k => XS.goto X159.here hx rfl (pc0 := 212) (pc' := 216) rfl (hb hby at_212) (by decide) (by decide) k) ?_
                show own_Go p e below (T159.setTop (mkF m 216 #[.val (.int p1), .val (.int p2), .val (.int p3), .val (.int p4), .val (.int p5), .val (.int tk), .val (.int tl), .val (.int qk), .val (.int ql), .val (.int (0 : Int32)), .val (.int (0 : Int32)), .val (.int p4), .val (.ref b135), .val (.ref x149), .val (.int (own_isr (own_kind tk z0 z1 z2 z3 z4 z5) (own_kind qk z0 z1 z2 z3 z4 z5) (own_text tl p2) (own_text ql p4))), .val (.int (255 : Int32)), .val (.int (1 : Int32))] [(.int (1 : Int32))])) _
                refine own_finW (v := (some (.int (nar .boolean (1 : Int32))))) X159 hh hZ149 hS149 (by rw [e159]; exact (Nat.le_refl _)) (fun h => by rw [hrt] at h; cases h) hlk (fun fs hr => retN X159 hx (t := .boolean) hrt (by simp) (hb hby at_216) hr) (QQ := QQ0 n0) ?_ own_hEL e159 (C150) (by decide) (by decide)
                rw [e159]
                exact ⟨rfl, N159⟩
              · skip
                refine own_go (fun _ k => XS.ifYes X159.here hx rfl (pc0 := 194) (pc' := 201) rfl (hb hby at_194) rfl ((if0 _ _).trans (feq hc166).2) (by decide) (by decide) k) ?_
                show own_Go p e below (T159.setTop (mkF m 201 #[.val (.int p1), .val (.int p2), .val (.int p3), .val (.int p4), .val (.int p5), .val (.int tk), .val (.int tl), .val (.int qk), .val (.int ql), .val (.int (0 : Int32)), .val (.int (0 : Int32)), .val (.int p4), .val (.ref b135), .val (.ref x149), .val (.int (own_isr (own_kind tk z0 z1 z2 z3 z4 z5) (own_kind qk z0 z1 z2 z3 z4 z5) (own_text tl p2) (own_text ql p4))), .val (.int (255 : Int32)), .unset] [])) _
                refine own_go (fun _ k => XS.iconst X159.here hx rfl (hb hby at_201) k) ?_
                show own_Go p e below (T159.setTop (mkF m 202 #[.val (.int p1), .val (.int p2), .val (.int p3), .val (.int p4), .val (.int p5), .val (.int tk), .val (.int tl), .val (.int qk), .val (.int ql), .val (.int (0 : Int32)), .val (.int (0 : Int32)), .val (.int p4), .val (.ref b135), .val (.ref x149), .val (.int (own_isr (own_kind tk z0 z1 z2 z3 z4 z5) (own_kind qk z0 z1 z2 z3 z4 z5) (own_text tl p2) (own_text ql p4))), .val (.int (255 : Int32)), .unset] [(.int (0 : Int32))])) _
                refine own_go (fun _ k => XS.istore X159.here hx rfl (hb hby at_202) rfl (l' := #[.val (.int p1), .val (.int p2), .val (.int p3), .val (.int p4), .val (.int p5), .val (.int tk), .val (.int tl), .val (.int qk), .val (.int ql), .val (.int (0 : Int32)), .val (.int (0 : Int32)), .val (.int p4), .val (.ref b135), .val (.ref x149), .val (.int (own_isr (own_kind tk z0 z1 z2 z3 z4 z5) (own_kind qk z0 z1 z2 z3 z4 z5) (own_text tl p2) (own_text ql p4))), .val (.int (255 : Int32)), .val (.int (0 : Int32))]) rfl k) ?_
                show own_Go p e below (T159.setTop (mkF m 204 #[.val (.int p1), .val (.int p2), .val (.int p3), .val (.int p4), .val (.int p5), .val (.int tk), .val (.int tl), .val (.int qk), .val (.int ql), .val (.int (0 : Int32)), .val (.int (0 : Int32)), .val (.int p4), .val (.ref b135), .val (.ref x149), .val (.int (own_isr (own_kind tk z0 z1 z2 z3 z4 z5) (own_kind qk z0 z1 z2 z3 z4 z5) (own_text tl p2) (own_text ql p4))), .val (.int (255 : Int32)), .val (.int (0 : Int32))] [])) _
                refine own_go (fun _ k => XS.iload X159.here hx rfl (hb hby at_204) rfl k) ?_
                show own_Go p e below (T159.setTop (mkF m 206 #[.val (.int p1), .val (.int p2), .val (.int p3), .val (.int p4), .val (.int p5), .val (.int tk), .val (.int tl), .val (.int qk), .val (.int ql), .val (.int (0 : Int32)), .val (.int (0 : Int32)), .val (.int p4), .val (.ref b135), .val (.ref x149), .val (.int (own_isr (own_kind tk z0 z1 z2 z3 z4 z5) (own_kind qk z0 z1 z2 z3 z4 z5) (own_text tl p2) (own_text ql p4))), .val (.int (255 : Int32)), .val (.int (0 : Int32))] [(.int (own_isr (own_kind tk z0 z1 z2 z3 z4 z5) (own_kind qk z0 z1 z2 z3 z4 z5) (own_text tl p2) (own_text ql p4)))])) _
                refine own_go (fun _ k => XS.iload X159.here hx rfl (hb hby at_206) rfl k) ?_
                show own_Go p e below (T159.setTop (mkF m 208 #[.val (.int p1), .val (.int p2), .val (.int p3), .val (.int p4), .val (.int p5), .val (.int tk), .val (.int tl), .val (.int qk), .val (.int ql), .val (.int (0 : Int32)), .val (.int (0 : Int32)), .val (.int p4), .val (.ref b135), .val (.ref x149), .val (.int (own_isr (own_kind tk z0 z1 z2 z3 z4 z5) (own_kind qk z0 z1 z2 z3 z4 z5) (own_text tl p2) (own_text ql p4))), .val (.int (255 : Int32)), .val (.int (0 : Int32))] [(.int (0 : Int32)), (.int (own_isr (own_kind tk z0 z1 z2 z3 z4 z5) (own_kind qk z0 z1 z2 z3 z4 z5) (own_text tl p2) (own_text ql p4)))])) _
                refine own_go (fun _ k => XS.icmpNo X159.here hx rfl (hb hby at_208) rfl (teq (own_isr_m (fun q => hc166 ((own_tx1 hc160 hc163 hc165).mp q)))).2 k) ?_
                show own_Go p e below (T159.setTop (mkF m 211 #[.val (.int p1), .val (.int p2), .val (.int p3), .val (.int p4), .val (.int p5), .val (.int tk), .val (.int tl), .val (.int qk), .val (.int ql), .val (.int (0 : Int32)), .val (.int (0 : Int32)), .val (.int p4), .val (.ref b135), .val (.ref x149), .val (.int (own_isr (own_kind tk z0 z1 z2 z3 z4 z5) (own_kind qk z0 z1 z2 z3 z4 z5) (own_text tl p2) (own_text ql p4))), .val (.int (255 : Int32)), .val (.int (0 : Int32))] [])) _
                refine own_go (fun _ k => XS.iconst X159.here hx rfl (hb hby at_211) k) ?_
                show own_Go p e below (T159.setTop (mkF m 212 #[.val (.int p1), .val (.int p2), .val (.int p3), .val (.int p4), .val (.int p5), .val (.int tk), .val (.int tl), .val (.int qk), .val (.int ql), .val (.int (0 : Int32)), .val (.int (0 : Int32)), .val (.int p4), .val (.ref b135), .val (.ref x149), .val (.int (own_isr (own_kind tk z0 z1 z2 z3 z4 z5) (own_kind qk z0 z1 z2 z3 z4 z5) (own_text tl p2) (own_text ql p4))), .val (.int (255 : Int32)), .val (.int (0 : Int32))] [(.int (1 : Int32))])) _
                refine own_go (fun _ k => XS.goto X159.here hx rfl (pc0 := 212) (pc' := 216) rfl (hb hby at_212) (by decide) (by decide) k) ?_
                show own_Go p e below (T159.setTop (mkF m 216 #[.val (.int p1), .val (.int p2), .val (.int p3), .val (.int p4), .val (.int p5), .val (.int tk), .val (.int tl), .val (.int qk), .val (.int ql), .val (.int (0 : Int32)), .val (.int (0 : Int32)), .val (.int p4), .val (.ref b135), .val (.ref x149), .val (.int (own_isr (own_kind tk z0 z1 z2 z3 z4 z5) (own_kind qk z0 z1 z2 z3 z4 z5) (own_text tl p2) (own_text ql p4))), .val (.int (255 : Int32)), .val (.int (0 : Int32))] [(.int (1 : Int32))])) _
                refine own_finW (v := (some (.int (nar .boolean (1 : Int32))))) X159 hh hZ149 hS149 (by rw [e159]; exact (Nat.le_refl _)) (fun h => by rw [hrt] at h; cases h) hlk (fun fs hr => retN X159 hx (t := .boolean) hrt (by simp) (hb hby at_216) hr) (QQ := QQ0 n0) ?_ own_hEL e159 (C150) (by decide) (by decide)
                rw [e159]
                exact ⟨rfl, N159⟩
            · skip
              refine own_go (fun _ k => XS.icmpYes X159.here hx rfl (pc0 := 184) (pc' := 201) rfl (hb hby at_184) rfl (feq hc165).2 (by decide) (by decide) k) ?_
              show own_Go p e below (T159.setTop (mkF m 201 #[.val (.int p1), .val (.int p2), .val (.int p3), .val (.int p4), .val (.int p5), .val (.int tk), .val (.int tl), .val (.int qk), .val (.int ql), .val (.int (0 : Int32)), .val (.int (0 : Int32)), .val (.int p4), .val (.ref b135), .val (.ref x149), .val (.int (own_isr (own_kind tk z0 z1 z2 z3 z4 z5) (own_kind qk z0 z1 z2 z3 z4 z5) (own_text tl p2) (own_text ql p4))), .val (.int (255 : Int32)), .unset] [])) _
              refine own_go (fun _ k => XS.iconst X159.here hx rfl (hb hby at_201) k) ?_
              show own_Go p e below (T159.setTop (mkF m 202 #[.val (.int p1), .val (.int p2), .val (.int p3), .val (.int p4), .val (.int p5), .val (.int tk), .val (.int tl), .val (.int qk), .val (.int ql), .val (.int (0 : Int32)), .val (.int (0 : Int32)), .val (.int p4), .val (.ref b135), .val (.ref x149), .val (.int (own_isr (own_kind tk z0 z1 z2 z3 z4 z5) (own_kind qk z0 z1 z2 z3 z4 z5) (own_text tl p2) (own_text ql p4))), .val (.int (255 : Int32)), .unset] [(.int (0 : Int32))])) _
              refine own_go (fun _ k => XS.istore X159.here hx rfl (hb hby at_202) rfl (l' := #[.val (.int p1), .val (.int p2), .val (.int p3), .val (.int p4), .val (.int p5), .val (.int tk), .val (.int tl), .val (.int qk), .val (.int ql), .val (.int (0 : Int32)), .val (.int (0 : Int32)), .val (.int p4), .val (.ref b135), .val (.ref x149), .val (.int (own_isr (own_kind tk z0 z1 z2 z3 z4 z5) (own_kind qk z0 z1 z2 z3 z4 z5) (own_text tl p2) (own_text ql p4))), .val (.int (255 : Int32)), .val (.int (0 : Int32))]) rfl k) ?_
              show own_Go p e below (T159.setTop (mkF m 204 #[.val (.int p1), .val (.int p2), .val (.int p3), .val (.int p4), .val (.int p5), .val (.int tk), .val (.int tl), .val (.int qk), .val (.int ql), .val (.int (0 : Int32)), .val (.int (0 : Int32)), .val (.int p4), .val (.ref b135), .val (.ref x149), .val (.int (own_isr (own_kind tk z0 z1 z2 z3 z4 z5) (own_kind qk z0 z1 z2 z3 z4 z5) (own_text tl p2) (own_text ql p4))), .val (.int (255 : Int32)), .val (.int (0 : Int32))] [])) _
              refine own_go (fun _ k => XS.iload X159.here hx rfl (hb hby at_204) rfl k) ?_
              show own_Go p e below (T159.setTop (mkF m 206 #[.val (.int p1), .val (.int p2), .val (.int p3), .val (.int p4), .val (.int p5), .val (.int tk), .val (.int tl), .val (.int qk), .val (.int ql), .val (.int (0 : Int32)), .val (.int (0 : Int32)), .val (.int p4), .val (.ref b135), .val (.ref x149), .val (.int (own_isr (own_kind tk z0 z1 z2 z3 z4 z5) (own_kind qk z0 z1 z2 z3 z4 z5) (own_text tl p2) (own_text ql p4))), .val (.int (255 : Int32)), .val (.int (0 : Int32))] [(.int (own_isr (own_kind tk z0 z1 z2 z3 z4 z5) (own_kind qk z0 z1 z2 z3 z4 z5) (own_text tl p2) (own_text ql p4)))])) _
              refine own_go (fun _ k => XS.iload X159.here hx rfl (hb hby at_206) rfl k) ?_
              show own_Go p e below (T159.setTop (mkF m 208 #[.val (.int p1), .val (.int p2), .val (.int p3), .val (.int p4), .val (.int p5), .val (.int tk), .val (.int tl), .val (.int qk), .val (.int ql), .val (.int (0 : Int32)), .val (.int (0 : Int32)), .val (.int p4), .val (.ref b135), .val (.ref x149), .val (.int (own_isr (own_kind tk z0 z1 z2 z3 z4 z5) (own_kind qk z0 z1 z2 z3 z4 z5) (own_text tl p2) (own_text ql p4))), .val (.int (255 : Int32)), .val (.int (0 : Int32))] [(.int (0 : Int32)), (.int (own_isr (own_kind tk z0 z1 z2 z3 z4 z5) (own_kind qk z0 z1 z2 z3 z4 z5) (own_text tl p2) (own_text ql p4)))])) _
              refine own_go (fun _ k => XS.icmpNo X159.here hx rfl (hb hby at_208) rfl (teq (own_isr_m (own_text_ne (h_tl ▸ own_a3 _) (h_ql ▸ own_a3 _) hc165))).2 k) ?_
              show own_Go p e below (T159.setTop (mkF m 211 #[.val (.int p1), .val (.int p2), .val (.int p3), .val (.int p4), .val (.int p5), .val (.int tk), .val (.int tl), .val (.int qk), .val (.int ql), .val (.int (0 : Int32)), .val (.int (0 : Int32)), .val (.int p4), .val (.ref b135), .val (.ref x149), .val (.int (own_isr (own_kind tk z0 z1 z2 z3 z4 z5) (own_kind qk z0 z1 z2 z3 z4 z5) (own_text tl p2) (own_text ql p4))), .val (.int (255 : Int32)), .val (.int (0 : Int32))] [])) _
              refine own_go (fun _ k => XS.iconst X159.here hx rfl (hb hby at_211) k) ?_
              show own_Go p e below (T159.setTop (mkF m 212 #[.val (.int p1), .val (.int p2), .val (.int p3), .val (.int p4), .val (.int p5), .val (.int tk), .val (.int tl), .val (.int qk), .val (.int ql), .val (.int (0 : Int32)), .val (.int (0 : Int32)), .val (.int p4), .val (.ref b135), .val (.ref x149), .val (.int (own_isr (own_kind tk z0 z1 z2 z3 z4 z5) (own_kind qk z0 z1 z2 z3 z4 z5) (own_text tl p2) (own_text ql p4))), .val (.int (255 : Int32)), .val (.int (0 : Int32))] [(.int (1 : Int32))])) _
              refine own_go (fun _ k => XS.goto X159.here hx rfl (pc0 := 212) (pc' := 216) rfl (hb hby at_212) (by decide) (by decide) k) ?_
              show own_Go p e below (T159.setTop (mkF m 216 #[.val (.int p1), .val (.int p2), .val (.int p3), .val (.int p4), .val (.int p5), .val (.int tk), .val (.int tl), .val (.int qk), .val (.int ql), .val (.int (0 : Int32)), .val (.int (0 : Int32)), .val (.int p4), .val (.ref b135), .val (.ref x149), .val (.int (own_isr (own_kind tk z0 z1 z2 z3 z4 z5) (own_kind qk z0 z1 z2 z3 z4 z5) (own_text tl p2) (own_text ql p4))), .val (.int (255 : Int32)), .val (.int (0 : Int32))] [(.int (1 : Int32))])) _
              refine own_finW (v := (some (.int (nar .boolean (1 : Int32))))) X159 hh hZ149 hS149 (by rw [e159]; exact (Nat.le_refl _)) (fun h => by rw [hrt] at h; cases h) hlk (fun fs hr => retN X159 hx (t := .boolean) hrt (by simp) (hb hby at_216) hr) (QQ := QQ0 n0) ?_ own_hEL e159 (C150) (by decide) (by decide)
              rw [e159]
              exact ⟨rfl, N159⟩
          · skip
            refine own_go (fun _ k => XS.icmpYes X159.here hx rfl (pc0 := 172) (pc' := 201) rfl (hb hby at_172) rfl (feq hc164).2 (by decide) (by decide) k) ?_
            show own_Go p e below (T159.setTop (mkF m 201 #[.val (.int p1), .val (.int p2), .val (.int p3), .val (.int p4), .val (.int p5), .val (.int tk), .val (.int tl), .val (.int qk), .val (.int ql), .val (.int (0 : Int32)), .val (.int (0 : Int32)), .val (.int p4), .val (.ref b135), .val (.ref x149), .val (.int (own_isr (own_kind tk z0 z1 z2 z3 z4 z5) (own_kind qk z0 z1 z2 z3 z4 z5) (own_text tl p2) (own_text ql p4))), .val (.int (255 : Int32)), .unset] [])) _
            refine own_go (fun _ k => XS.iconst X159.here hx rfl (hb hby at_201) k) ?_
            show own_Go p e below (T159.setTop (mkF m 202 #[.val (.int p1), .val (.int p2), .val (.int p3), .val (.int p4), .val (.int p5), .val (.int tk), .val (.int tl), .val (.int qk), .val (.int ql), .val (.int (0 : Int32)), .val (.int (0 : Int32)), .val (.int p4), .val (.ref b135), .val (.ref x149), .val (.int (own_isr (own_kind tk z0 z1 z2 z3 z4 z5) (own_kind qk z0 z1 z2 z3 z4 z5) (own_text tl p2) (own_text ql p4))), .val (.int (255 : Int32)), .unset] [(.int (0 : Int32))])) _
            refine own_go (fun _ k => XS.istore X159.here hx rfl (hb hby at_202) rfl (l' := #[.val (.int p1), .val (.int p2), .val (.int p3), .val (.int p4), .val (.int p5), .val (.int tk), .val (.int tl), .val (.int qk), .val (.int ql), .val (.int (0 : Int32)), .val (.int (0 : Int32)), .val (.int p4), .val (.ref b135), .val (.ref x149), .val (.int (own_isr (own_kind tk z0 z1 z2 z3 z4 z5) (own_kind qk z0 z1 z2 z3 z4 z5) (own_text tl p2) (own_text ql p4))), .val (.int (255 : Int32)), .val (.int (0 : Int32))]) rfl k) ?_
            show own_Go p e below (T159.setTop (mkF m 204 #[.val (.int p1), .val (.int p2), .val (.int p3), .val (.int p4), .val (.int p5), .val (.int tk), .val (.int tl), .val (.int qk), .val (.int ql), .val (.int (0 : Int32)), .val (.int (0 : Int32)), .val (.int p4), .val (.ref b135), .val (.ref x149), .val (.int (own_isr (own_kind tk z0 z1 z2 z3 z4 z5) (own_kind qk z0 z1 z2 z3 z4 z5) (own_text tl p2) (own_text ql p4))), .val (.int (255 : Int32)), .val (.int (0 : Int32))] [])) _
            refine own_go (fun _ k => XS.iload X159.here hx rfl (hb hby at_204) rfl k) ?_
            show own_Go p e below (T159.setTop (mkF m 206 #[.val (.int p1), .val (.int p2), .val (.int p3), .val (.int p4), .val (.int p5), .val (.int tk), .val (.int tl), .val (.int qk), .val (.int ql), .val (.int (0 : Int32)), .val (.int (0 : Int32)), .val (.int p4), .val (.ref b135), .val (.ref x149), .val (.int (own_isr (own_kind tk z0 z1 z2 z3 z4 z5) (own_kind qk z0 z1 z2 z3 z4 z5) (own_text tl p2) (own_text ql p4))), .val (.int (255 : Int32)), .val (.int (0 : Int32))] [(.int (own_isr (own_kind tk z0 z1 z2 z3 z4 z5) (own_kind qk z0 z1 z2 z3 z4 z5) (own_text tl p2) (own_text ql p4)))])) _
            refine own_go (fun _ k => XS.iload X159.here hx rfl (hb hby at_206) rfl k) ?_
            show own_Go p e below (T159.setTop (mkF m 208 #[.val (.int p1), .val (.int p2), .val (.int p3), .val (.int p4), .val (.int p5), .val (.int tk), .val (.int tl), .val (.int qk), .val (.int ql), .val (.int (0 : Int32)), .val (.int (0 : Int32)), .val (.int p4), .val (.ref b135), .val (.ref x149), .val (.int (own_isr (own_kind tk z0 z1 z2 z3 z4 z5) (own_kind qk z0 z1 z2 z3 z4 z5) (own_text tl p2) (own_text ql p4))), .val (.int (255 : Int32)), .val (.int (0 : Int32))] [(.int (0 : Int32)), (.int (own_isr (own_kind tk z0 z1 z2 z3 z4 z5) (own_kind qk z0 z1 z2 z3 z4 z5) (own_text tl p2) (own_text ql p4)))])) _
            refine own_go (fun _ k => XS.icmpNo X159.here hx rfl (hb hby at_208) rfl (teq (own_isr_n1 (own_kind_ne hz (h_tk ▸ own_i6 p1) (h_qk ▸ own_i7 p3) (fun q => hc164 q.symm)))).2 k) ?_
            show own_Go p e below (T159.setTop (mkF m 211 #[.val (.int p1), .val (.int p2), .val (.int p3), .val (.int p4), .val (.int p5), .val (.int tk), .val (.int tl), .val (.int qk), .val (.int ql), .val (.int (0 : Int32)), .val (.int (0 : Int32)), .val (.int p4), .val (.ref b135), .val (.ref x149), .val (.int (own_isr (own_kind tk z0 z1 z2 z3 z4 z5) (own_kind qk z0 z1 z2 z3 z4 z5) (own_text tl p2) (own_text ql p4))), .val (.int (255 : Int32)), .val (.int (0 : Int32))] [])) _
            refine own_go (fun _ k => XS.iconst X159.here hx rfl (hb hby at_211) k) ?_
            show own_Go p e below (T159.setTop (mkF m 212 #[.val (.int p1), .val (.int p2), .val (.int p3), .val (.int p4), .val (.int p5), .val (.int tk), .val (.int tl), .val (.int qk), .val (.int ql), .val (.int (0 : Int32)), .val (.int (0 : Int32)), .val (.int p4), .val (.ref b135), .val (.ref x149), .val (.int (own_isr (own_kind tk z0 z1 z2 z3 z4 z5) (own_kind qk z0 z1 z2 z3 z4 z5) (own_text tl p2) (own_text ql p4))), .val (.int (255 : Int32)), .val (.int (0 : Int32))] [(.int (1 : Int32))])) _
            refine own_go (fun _ k => XS.goto X159.here hx rfl (pc0 := 212) (pc' := 216) rfl (hb hby at_212) (by decide) (by decide) k) ?_
            show own_Go p e below (T159.setTop (mkF m 216 #[.val (.int p1), .val (.int p2), .val (.int p3), .val (.int p4), .val (.int p5), .val (.int tk), .val (.int tl), .val (.int qk), .val (.int ql), .val (.int (0 : Int32)), .val (.int (0 : Int32)), .val (.int p4), .val (.ref b135), .val (.ref x149), .val (.int (own_isr (own_kind tk z0 z1 z2 z3 z4 z5) (own_kind qk z0 z1 z2 z3 z4 z5) (own_text tl p2) (own_text ql p4))), .val (.int (255 : Int32)), .val (.int (0 : Int32))] [(.int (1 : Int32))])) _
            refine own_finW (v := (some (.int (nar .boolean (1 : Int32))))) X159 hh hZ149 hS149 (by rw [e159]; exact (Nat.le_refl _)) (fun h => by rw [hrt] at h; cases h) hlk (fun fs hr => retN X159 hx (t := .boolean) hrt (by simp) (hb hby at_216) hr) (QQ := QQ0 n0) ?_ own_hEL e159 (C150) (by decide) (by decide)
            rw [e159]
            exact ⟨rfl, N159⟩
        · skip
          refine own_go (fun _ k => XS.icmpYes X159.here hx rfl (pc0 := 144) (pc' := 153) rfl (hb hby at_144) rfl (feq hc163).2 (by decide) (by decide) k) ?_
          show own_Go p e below (T159.setTop (mkF m 153 #[.val (.int p1), .val (.int p2), .val (.int p3), .val (.int p4), .val (.int p5), .val (.int tk), .val (.int tl), .val (.int qk), .val (.int ql), .val (.int (0 : Int32)), .val (.int (0 : Int32)), .val (.int p4), .val (.ref b135), .val (.ref x149), .val (.int (own_isr (own_kind tk z0 z1 z2 z3 z4 z5) (own_kind qk z0 z1 z2 z3 z4 z5) (own_text tl p2) (own_text ql p4))), .unset, .unset] [])) _
          refine own_go (fun _ k => XS.iload X159.here hx rfl (hb hby at_153) rfl k) ?_
          show own_Go p e below (T159.setTop (mkF m 155 #[.val (.int p1), .val (.int p2), .val (.int p3), .val (.int p4), .val (.int p5), .val (.int tk), .val (.int tl), .val (.int qk), .val (.int ql), .val (.int (0 : Int32)), .val (.int (0 : Int32)), .val (.int p4), .val (.ref b135), .val (.ref x149), .val (.int (own_isr (own_kind tk z0 z1 z2 z3 z4 z5) (own_kind qk z0 z1 z2 z3 z4 z5) (own_text tl p2) (own_text ql p4))), .unset, .unset] [(.int tl)])) _
          refine own_go (fun _ k => XS.iconst X159.here hx rfl (hb hby at_155) k) ?_
          show own_Go p e below (T159.setTop (mkF m 156 #[.val (.int p1), .val (.int p2), .val (.int p3), .val (.int p4), .val (.int p5), .val (.int tk), .val (.int tl), .val (.int qk), .val (.int ql), .val (.int (0 : Int32)), .val (.int (0 : Int32)), .val (.int p4), .val (.ref b135), .val (.ref x149), .val (.int (own_isr (own_kind tk z0 z1 z2 z3 z4 z5) (own_kind qk z0 z1 z2 z3 z4 z5) (own_text tl p2) (own_text ql p4))), .unset, .unset] [(.int (2 : Int32)), (.int tl)])) _
          by_cases hc167 : tl = (2 : Int32)
          · skip
            refine own_go (fun _ k => XS.icmpNo X159.here hx rfl (hb hby at_156) rfl (teq hc167).2 k) ?_
            show own_Go p e below (T159.setTop (mkF m 159 #[.val (.int p1), .val (.int p2), .val (.int p3), .val (.int p4), .val (.int p5), .val (.int tk), .val (.int tl), .val (.int qk), .val (.int ql), .val (.int (0 : Int32)), .val (.int (0 : Int32)), .val (.int p4), .val (.ref b135), .val (.ref x149), .val (.int (own_isr (own_kind tk z0 z1 z2 z3 z4 z5) (own_kind qk z0 z1 z2 z3 z4 z5) (own_text tl p2) (own_text ql p4))), .unset, .unset] [])) _
            refine own_go (fun _ k => X159.ldcInt hx hown149 (mvT hZ149 (hw _ (List.mem_of_getElem? (i := 88) rfl))) (g := (mkF m 159 #[.val (.int p1), .val (.int p2), .val (.int p3), .val (.int p4), .val (.int p5), .val (.int tk), .val (.int tl), .val (.int qk), .val (.int ql), .val (.int (0 : Int32)), .val (.int (0 : Int32)), .val (.int p4), .val (.ref b135), .val (.ref x149), .val (.int (own_isr (own_kind tk z0 z1 z2 z3 z4 z5) (own_kind qk z0 z1 z2 z3 z4 z5) (own_text tl p2) (own_text ql p4))), .unset, .unset] [])) rfl (hb hby at_159) _ k) ?_
            show own_Go p e below (T159.setTop (mkF m 161 #[.val (.int p1), .val (.int p2), .val (.int p3), .val (.int p4), .val (.int p5), .val (.int tk), .val (.int tl), .val (.int qk), .val (.int ql), .val (.int (0 : Int32)), .val (.int (0 : Int32)), .val (.int p4), .val (.ref b135), .val (.ref x149), .val (.int (own_isr (own_kind tk z0 z1 z2 z3 z4 z5) (own_kind qk z0 z1 z2 z3 z4 z5) (own_text tl p2) (own_text ql p4))), .unset, .unset] [(.int (65535 : Int32))])) _
            refine own_go (fun _ k => XS.goto X159.here hx rfl (pc0 := 161) (pc' := 166) rfl (hb hby at_161) (by decide) (by decide) k) ?_
            show own_Go p e below (T159.setTop (mkF m 166 #[.val (.int p1), .val (.int p2), .val (.int p3), .val (.int p4), .val (.int p5), .val (.int tk), .val (.int tl), .val (.int qk), .val (.int ql), .val (.int (0 : Int32)), .val (.int (0 : Int32)), .val (.int p4), .val (.ref b135), .val (.ref x149), .val (.int (own_isr (own_kind tk z0 z1 z2 z3 z4 z5) (own_kind qk z0 z1 z2 z3 z4 z5) (own_text tl p2) (own_text ql p4))), .unset, .unset] [(.int (65535 : Int32))])) _
            refine own_go (fun _ k => XS.istore X159.here hx rfl (hb hby at_166) rfl (l' := #[.val (.int p1), .val (.int p2), .val (.int p3), .val (.int p4), .val (.int p5), .val (.int tk), .val (.int tl), .val (.int qk), .val (.int ql), .val (.int (0 : Int32)), .val (.int (0 : Int32)), .val (.int p4), .val (.ref b135), .val (.ref x149), .val (.int (own_isr (own_kind tk z0 z1 z2 z3 z4 z5) (own_kind qk z0 z1 z2 z3 z4 z5) (own_text tl p2) (own_text ql p4))), .val (.int (65535 : Int32)), .unset]) rfl k) ?_
            show own_Go p e below (T159.setTop (mkF m 168 #[.val (.int p1), .val (.int p2), .val (.int p3), .val (.int p4), .val (.int p5), .val (.int tk), .val (.int tl), .val (.int qk), .val (.int ql), .val (.int (0 : Int32)), .val (.int (0 : Int32)), .val (.int p4), .val (.ref b135), .val (.ref x149), .val (.int (own_isr (own_kind tk z0 z1 z2 z3 z4 z5) (own_kind qk z0 z1 z2 z3 z4 z5) (own_text tl p2) (own_text ql p4))), .val (.int (65535 : Int32)), .unset] [])) _
            refine own_go (fun _ k => XS.iload X159.here hx rfl (hb hby at_168) rfl k) ?_
            show own_Go p e below (T159.setTop (mkF m 170 #[.val (.int p1), .val (.int p2), .val (.int p3), .val (.int p4), .val (.int p5), .val (.int tk), .val (.int tl), .val (.int qk), .val (.int ql), .val (.int (0 : Int32)), .val (.int (0 : Int32)), .val (.int p4), .val (.ref b135), .val (.ref x149), .val (.int (own_isr (own_kind tk z0 z1 z2 z3 z4 z5) (own_kind qk z0 z1 z2 z3 z4 z5) (own_text tl p2) (own_text ql p4))), .val (.int (65535 : Int32)), .unset] [(.int qk)])) _
            refine own_go (fun _ k => XS.iload X159.here hx rfl (hb hby at_170) rfl k) ?_
            show own_Go p e below (T159.setTop (mkF m 172 #[.val (.int p1), .val (.int p2), .val (.int p3), .val (.int p4), .val (.int p5), .val (.int tk), .val (.int tl), .val (.int qk), .val (.int ql), .val (.int (0 : Int32)), .val (.int (0 : Int32)), .val (.int p4), .val (.ref b135), .val (.ref x149), .val (.int (own_isr (own_kind tk z0 z1 z2 z3 z4 z5) (own_kind qk z0 z1 z2 z3 z4 z5) (own_text tl p2) (own_text ql p4))), .val (.int (65535 : Int32)), .unset] [(.int tk), (.int qk)])) _
            by_cases hc168 : qk = tk
            · skip
              refine own_go (fun _ k => XS.icmpNo X159.here hx rfl (hb hby at_172) rfl (teq hc168).2 k) ?_
              show own_Go p e below (T159.setTop (mkF m 175 #[.val (.int p1), .val (.int p2), .val (.int p3), .val (.int p4), .val (.int p5), .val (.int tk), .val (.int tl), .val (.int qk), .val (.int ql), .val (.int (0 : Int32)), .val (.int (0 : Int32)), .val (.int p4), .val (.ref b135), .val (.ref x149), .val (.int (own_isr (own_kind tk z0 z1 z2 z3 z4 z5) (own_kind qk z0 z1 z2 z3 z4 z5) (own_text tl p2) (own_text ql p4))), .val (.int (65535 : Int32)), .unset] [])) _
              refine own_go (fun _ k => XS.iload X159.here hx rfl (hb hby at_175) rfl k) ?_
              show own_Go p e below (T159.setTop (mkF m 177 #[.val (.int p1), .val (.int p2), .val (.int p3), .val (.int p4), .val (.int p5), .val (.int tk), .val (.int tl), .val (.int qk), .val (.int ql), .val (.int (0 : Int32)), .val (.int (0 : Int32)), .val (.int p4), .val (.ref b135), .val (.ref x149), .val (.int (own_isr (own_kind tk z0 z1 z2 z3 z4 z5) (own_kind qk z0 z1 z2 z3 z4 z5) (own_text tl p2) (own_text ql p4))), .val (.int (65535 : Int32)), .unset] [(.int (0 : Int32))])) _
              refine own_go (fun _ k => XS.ifNo X159.here hx rfl (hb hby at_177) rfl ((if0 _ _).trans (teq (by decide : (0 : Int32) = (0 : Int32))).2) k) ?_
              show own_Go p e below (T159.setTop (mkF m 180 #[.val (.int p1), .val (.int p2), .val (.int p3), .val (.int p4), .val (.int p5), .val (.int tk), .val (.int tl), .val (.int qk), .val (.int ql), .val (.int (0 : Int32)), .val (.int (0 : Int32)), .val (.int p4), .val (.ref b135), .val (.ref x149), .val (.int (own_isr (own_kind tk z0 z1 z2 z3 z4 z5) (own_kind qk z0 z1 z2 z3 z4 z5) (own_text tl p2) (own_text ql p4))), .val (.int (65535 : Int32)), .unset] [])) _
              refine own_go (fun _ k => XS.iload X159.here hx rfl (hb hby at_180) rfl k) ?_
              show own_Go p e below (T159.setTop (mkF m 182 #[.val (.int p1), .val (.int p2), .val (.int p3), .val (.int p4), .val (.int p5), .val (.int tk), .val (.int tl), .val (.int qk), .val (.int ql), .val (.int (0 : Int32)), .val (.int (0 : Int32)), .val (.int p4), .val (.ref b135), .val (.ref x149), .val (.int (own_isr (own_kind tk z0 z1 z2 z3 z4 z5) (own_kind qk z0 z1 z2 z3 z4 z5) (own_text tl p2) (own_text ql p4))), .val (.int (65535 : Int32)), .unset] [(.int tl)])) _
              refine own_go (fun _ k => XS.iload X159.here hx rfl (hb hby at_182) rfl k) ?_
              show own_Go p e below (T159.setTop (mkF m 184 #[.val (.int p1), .val (.int p2), .val (.int p3), .val (.int p4), .val (.int p5), .val (.int tk), .val (.int tl), .val (.int qk), .val (.int ql), .val (.int (0 : Int32)), .val (.int (0 : Int32)), .val (.int p4), .val (.ref b135), .val (.ref x149), .val (.int (own_isr (own_kind tk z0 z1 z2 z3 z4 z5) (own_kind qk z0 z1 z2 z3 z4 z5) (own_text tl p2) (own_text ql p4))), .val (.int (65535 : Int32)), .unset] [(.int ql), (.int tl)])) _
              by_cases hc169 : tl = ql
              · skip
                refine own_go (fun _ k => XS.icmpNo X159.here hx rfl (hb hby at_184) rfl (teq hc169).2 k) ?_
                show own_Go p e below (T159.setTop (mkF m 187 #[.val (.int p1), .val (.int p2), .val (.int p3), .val (.int p4), .val (.int p5), .val (.int tk), .val (.int tl), .val (.int qk), .val (.int ql), .val (.int (0 : Int32)), .val (.int (0 : Int32)), .val (.int p4), .val (.ref b135), .val (.ref x149), .val (.int (own_isr (own_kind tk z0 z1 z2 z3 z4 z5) (own_kind qk z0 z1 z2 z3 z4 z5) (own_text tl p2) (own_text ql p4))), .val (.int (65535 : Int32)), .unset] [])) _
                refine own_go (fun _ k => XS.iloadN X159.here hx rfl (hb hby at_187) rfl k) ?_
                show own_Go p e below (T159.setTop (mkF m 188 #[.val (.int p1), .val (.int p2), .val (.int p3), .val (.int p4), .val (.int p5), .val (.int tk), .val (.int tl), .val (.int qk), .val (.int ql), .val (.int (0 : Int32)), .val (.int (0 : Int32)), .val (.int p4), .val (.ref b135), .val (.ref x149), .val (.int (own_isr (own_kind tk z0 z1 z2 z3 z4 z5) (own_kind qk z0 z1 z2 z3 z4 z5) (own_text tl p2) (own_text ql p4))), .val (.int (65535 : Int32)), .unset] [(.int p2)])) _
                refine own_go (fun _ k => XS.iload X159.here hx rfl (hb hby at_188) rfl k) ?_
                show own_Go p e below (T159.setTop (mkF m 190 #[.val (.int p1), .val (.int p2), .val (.int p3), .val (.int p4), .val (.int p5), .val (.int tk), .val (.int tl), .val (.int qk), .val (.int ql), .val (.int (0 : Int32)), .val (.int (0 : Int32)), .val (.int p4), .val (.ref b135), .val (.ref x149), .val (.int (own_isr (own_kind tk z0 z1 z2 z3 z4 z5) (own_kind qk z0 z1 z2 z3 z4 z5) (own_text tl p2) (own_text ql p4))), .val (.int (65535 : Int32)), .unset] [(.int p4), (.int p2)])) _
                refine own_go (fun _ k => XS.ixor X159.here hx rfl (hb hby at_190) rfl k) ?_
                show own_Go p e below (T159.setTop (mkF m 191 #[.val (.int p1), .val (.int p2), .val (.int p3), .val (.int p4), .val (.int p5), .val (.int tk), .val (.int tl), .val (.int qk), .val (.int ql), .val (.int (0 : Int32)), .val (.int (0 : Int32)), .val (.int p4), .val (.ref b135), .val (.ref x149), .val (.int (own_isr (own_kind tk z0 z1 z2 z3 z4 z5) (own_kind qk z0 z1 z2 z3 z4 z5) (own_text tl p2) (own_text ql p4))), .val (.int (65535 : Int32)), .unset] [(.int (p2 ^^^ p4))])) _
                refine own_go (fun _ k => XS.iload X159.here hx rfl (hb hby at_191) rfl k) ?_
                show own_Go p e below (T159.setTop (mkF m 193 #[.val (.int p1), .val (.int p2), .val (.int p3), .val (.int p4), .val (.int p5), .val (.int tk), .val (.int tl), .val (.int qk), .val (.int ql), .val (.int (0 : Int32)), .val (.int (0 : Int32)), .val (.int p4), .val (.ref b135), .val (.ref x149), .val (.int (own_isr (own_kind tk z0 z1 z2 z3 z4 z5) (own_kind qk z0 z1 z2 z3 z4 z5) (own_text tl p2) (own_text ql p4))), .val (.int (65535 : Int32)), .unset] [(.int (65535 : Int32)), (.int (p2 ^^^ p4))])) _
                refine own_go (fun _ k => XS.iand X159.here hx rfl (hb hby at_193) rfl k) ?_
                show own_Go p e below (T159.setTop (mkF m 194 #[.val (.int p1), .val (.int p2), .val (.int p3), .val (.int p4), .val (.int p5), .val (.int tk), .val (.int tl), .val (.int qk), .val (.int ql), .val (.int (0 : Int32)), .val (.int (0 : Int32)), .val (.int p4), .val (.ref b135), .val (.ref x149), .val (.int (own_isr (own_kind tk z0 z1 z2 z3 z4 z5) (own_kind qk z0 z1 z2 z3 z4 z5) (own_text tl p2) (own_text ql p4))), .val (.int (65535 : Int32)), .unset] [(.int ((p2 ^^^ p4) &&& (65535 : Int32)))])) _
                by_cases hc170 : ((p2 ^^^ p4) &&& (65535 : Int32)) = (0 : Int32)
                · skip
                  refine own_go (fun _ k => XS.ifNo X159.here hx rfl (hb hby at_194) rfl ((if0 _ _).trans (teq hc170).2) k) ?_
                  show own_Go p e below (T159.setTop (mkF m 197 #[.val (.int p1), .val (.int p2), .val (.int p3), .val (.int p4), .val (.int p5), .val (.int tk), .val (.int tl), .val (.int qk), .val (.int ql), .val (.int (0 : Int32)), .val (.int (0 : Int32)), .val (.int p4), .val (.ref b135), .val (.ref x149), .val (.int (own_isr (own_kind tk z0 z1 z2 z3 z4 z5) (own_kind qk z0 z1 z2 z3 z4 z5) (own_text tl p2) (own_text ql p4))), .val (.int (65535 : Int32)), .unset] [])) _
                  refine own_go (fun _ k => XS.iconst X159.here hx rfl (hb hby at_197) k) ?_
                  show own_Go p e below (T159.setTop (mkF m 198 #[.val (.int p1), .val (.int p2), .val (.int p3), .val (.int p4), .val (.int p5), .val (.int tk), .val (.int tl), .val (.int qk), .val (.int ql), .val (.int (0 : Int32)), .val (.int (0 : Int32)), .val (.int p4), .val (.ref b135), .val (.ref x149), .val (.int (own_isr (own_kind tk z0 z1 z2 z3 z4 z5) (own_kind qk z0 z1 z2 z3 z4 z5) (own_text tl p2) (own_text ql p4))), .val (.int (65535 : Int32)), .unset] [(.int (1 : Int32))])) _
                  refine own_go (fun _ k => XS.goto X159.here hx rfl (pc0 := 198) (pc' := 202) rfl (hb hby at_198) (by decide) (by decide) k) ?_
                  show own_Go p e below (T159.setTop (mkF m 202 #[.val (.int p1), .val (.int p2), .val (.int p3), .val (.int p4), .val (.int p5), .val (.int tk), .val (.int tl), .val (.int qk), .val (.int ql), .val (.int (0 : Int32)), .val (.int (0 : Int32)), .val (.int p4), .val (.ref b135), .val (.ref x149), .val (.int (own_isr (own_kind tk z0 z1 z2 z3 z4 z5) (own_kind qk z0 z1 z2 z3 z4 z5) (own_text tl p2) (own_text ql p4))), .val (.int (65535 : Int32)), .unset] [(.int (1 : Int32))])) _
                  refine own_go (fun _ k => XS.istore X159.here hx rfl (hb hby at_202) rfl (l' := #[.val (.int p1), .val (.int p2), .val (.int p3), .val (.int p4), .val (.int p5), .val (.int tk), .val (.int tl), .val (.int qk), .val (.int ql), .val (.int (0 : Int32)), .val (.int (0 : Int32)), .val (.int p4), .val (.ref b135), .val (.ref x149), .val (.int (own_isr (own_kind tk z0 z1 z2 z3 z4 z5) (own_kind qk z0 z1 z2 z3 z4 z5) (own_text tl p2) (own_text ql p4))), .val (.int (65535 : Int32)), .val (.int (1 : Int32))]) rfl k) ?_
                  show own_Go p e below (T159.setTop (mkF m 204 #[.val (.int p1), .val (.int p2), .val (.int p3), .val (.int p4), .val (.int p5), .val (.int tk), .val (.int tl), .val (.int qk), .val (.int ql), .val (.int (0 : Int32)), .val (.int (0 : Int32)), .val (.int p4), .val (.ref b135), .val (.ref x149), .val (.int (own_isr (own_kind tk z0 z1 z2 z3 z4 z5) (own_kind qk z0 z1 z2 z3 z4 z5) (own_text tl p2) (own_text ql p4))), .val (.int (65535 : Int32)), .val (.int (1 : Int32))] [])) _
                  refine own_go (fun _ k => XS.iload X159.here hx rfl (hb hby at_204) rfl k) ?_
                  show own_Go p e below (T159.setTop (mkF m 206 #[.val (.int p1), .val (.int p2), .val (.int p3), .val (.int p4), .val (.int p5), .val (.int tk), .val (.int tl), .val (.int qk), .val (.int ql), .val (.int (0 : Int32)), .val (.int (0 : Int32)), .val (.int p4), .val (.ref b135), .val (.ref x149), .val (.int (own_isr (own_kind tk z0 z1 z2 z3 z4 z5) (own_kind qk z0 z1 z2 z3 z4 z5) (own_text tl p2) (own_text ql p4))), .val (.int (65535 : Int32)), .val (.int (1 : Int32))] [(.int (own_isr (own_kind tk z0 z1 z2 z3 z4 z5) (own_kind qk z0 z1 z2 z3 z4 z5) (own_text tl p2) (own_text ql p4)))])) _
                  refine own_go (fun _ k => XS.iload X159.here hx rfl (hb hby at_206) rfl k) ?_
                  show own_Go p e below (T159.setTop (mkF m 208 #[.val (.int p1), .val (.int p2), .val (.int p3), .val (.int p4), .val (.int p5), .val (.int tk), .val (.int tl), .val (.int qk), .val (.int ql), .val (.int (0 : Int32)), .val (.int (0 : Int32)), .val (.int p4), .val (.ref b135), .val (.ref x149), .val (.int (own_isr (own_kind tk z0 z1 z2 z3 z4 z5) (own_kind qk z0 z1 z2 z3 z4 z5) (own_text tl p2) (own_text ql p4))), .val (.int (65535 : Int32)), .val (.int (1 : Int32))] [(.int (1 : Int32)), (.int (own_isr (own_kind tk z0 z1 z2 z3 z4 z5) (own_kind qk z0 z1 z2 z3 z4 z5) (own_text tl p2) (own_text ql p4)))])) _
                  refine own_go (fun _ k => XS.icmpNo X159.here hx rfl (hb hby at_208) rfl (teq (own_isr_yy (congrArg (fun z => own_kind z z0 z1 z2 z3 z4 z5) hc168.symm) ((own_tx2 hc160 hc163 hc167 hc169).mpr hc170))).2 k) ?_
                  show own_Go p e below (T159.setTop (mkF m 211 #[.val (.int p1), .val (.int p2), .val (.int p3), .val (.int p4), .val (.int p5), .val (.int tk), .val (.int tl), .val (.int qk), .val (.int ql), .val (.int (0 : Int32)), .val (.int (0 : Int32)), .val (.int p4), .val (.ref b135), .val (.ref x149), .val (.int (own_isr (own_kind tk z0 z1 z2 z3 z4 z5) (own_kind qk z0 z1 z2 z3 z4 z5) (own_text tl p2) (own_text ql p4))), .val (.int (65535 : Int32)), .val (.int (1 : Int32))] [])) _
                  refine own_go (fun _ k => XS.iconst X159.here hx rfl (hb hby at_211) k) ?_
                  show own_Go p e below (T159.setTop (mkF m 212 #[.val (.int p1), .val (.int p2), .val (.int p3), .val (.int p4), .val (.int p5), .val (.int tk), .val (.int tl), .val (.int qk), .val (.int ql), .val (.int (0 : Int32)), .val (.int (0 : Int32)), .val (.int p4), .val (.ref b135), .val (.ref x149), .val (.int (own_isr (own_kind tk z0 z1 z2 z3 z4 z5) (own_kind qk z0 z1 z2 z3 z4 z5) (own_text tl p2) (own_text ql p4))), .val (.int (65535 : Int32)), .val (.int (1 : Int32))] [(.int (1 : Int32))])) _
                  refine own_go (fun _ k => XS.goto X159.here hx rfl (pc0 := 212) (pc' := 216) rfl (hb hby at_212) (by decide) (by decide) k) ?_
                  show own_Go p e below (T159.setTop (mkF m 216 #[.val (.int p1), .val (.int p2), .val (.int p3), .val (.int p4), .val (.int p5), .val (.int tk), .val (.int tl), .val (.int qk), .val (.int ql), .val (.int (0 : Int32)), .val (.int (0 : Int32)), .val (.int p4), .val (.ref b135), .val (.ref x149), .val (.int (own_isr (own_kind tk z0 z1 z2 z3 z4 z5) (own_kind qk z0 z1 z2 z3 z4 z5) (own_text tl p2) (own_text ql p4))), .val (.int (65535 : Int32)), .val (.int (1 : Int32))] [(.int (1 : Int32))])) _
                  refine own_finW (v := (some (.int (nar .boolean (1 : Int32))))) X159 hh hZ149 hS149 (by rw [e159]; exact (Nat.le_refl _)) (fun h => by rw [hrt] at h; cases h) hlk (fun fs hr => retN X159 hx (t := .boolean) hrt (by simp) (hb hby at_216) hr) (QQ := QQ0 n0) ?_ own_hEL e159 (C150) (by decide) (by decide)
                  rw [e159]
                  exact ⟨rfl, N159⟩
                · skip
                  refine own_go (fun _ k => XS.ifYes X159.here hx rfl (pc0 := 194) (pc' := 201) rfl (hb hby at_194) rfl ((if0 _ _).trans (feq hc170).2) (by decide) (by decide) k) ?_
                  show own_Go p e below (T159.setTop (mkF m 201 #[.val (.int p1), .val (.int p2), .val (.int p3), .val (.int p4), .val (.int p5), .val (.int tk), .val (.int tl), .val (.int qk), .val (.int ql), .val (.int (0 : Int32)), .val (.int (0 : Int32)), .val (.int p4), .val (.ref b135), .val (.ref x149), .val (.int (own_isr (own_kind tk z0 z1 z2 z3 z4 z5) (own_kind qk z0 z1 z2 z3 z4 z5) (own_text tl p2) (own_text ql p4))), .val (.int (65535 : Int32)), .unset] [])) _
                  refine own_go (fun _ k => XS.iconst X159.here hx rfl (hb hby at_201) k) ?_
                  show own_Go p e below (T159.setTop (mkF m 202 #[.val (.int p1), .val (.int p2), .val (.int p3), .val (.int p4), .val (.int p5), .val (.int tk), .val (.int tl), .val (.int qk), .val (.int ql), .val (.int (0 : Int32)), .val (.int (0 : Int32)), .val (.int p4), .val (.ref b135), .val (.ref x149), .val (.int (own_isr (own_kind tk z0 z1 z2 z3 z4 z5) (own_kind qk z0 z1 z2 z3 z4 z5) (own_text tl p2) (own_text ql p4))), .val (.int (65535 : Int32)), .unset] [(.int (0 : Int32))])) _
                  refine own_go (fun _ k => XS.istore X159.here hx rfl (hb hby at_202) rfl (l' := #[.val (.int p1), .val (.int p2), .val (.int p3), .val (.int p4), .val (.int p5), .val (.int tk), .val (.int tl), .val (.int qk), .val (.int ql), .val (.int (0 : Int32)), .val (.int (0 : Int32)), .val (.int p4), .val (.ref b135), .val (.ref x149), .val (.int (own_isr (own_kind tk z0 z1 z2 z3 z4 z5) (own_kind qk z0 z1 z2 z3 z4 z5) (own_text tl p2) (own_text ql p4))), .val (.int (65535 : Int32)), .val (.int (0 : Int32))]) rfl k) ?_
                  show own_Go p e below (T159.setTop (mkF m 204 #[.val (.int p1), .val (.int p2), .val (.int p3), .val (.int p4), .val (.int p5), .val (.int tk), .val (.int tl), .val (.int qk), .val (.int ql), .val (.int (0 : Int32)), .val (.int (0 : Int32)), .val (.int p4), .val (.ref b135), .val (.ref x149), .val (.int (own_isr (own_kind tk z0 z1 z2 z3 z4 z5) (own_kind qk z0 z1 z2 z3 z4 z5) (own_text tl p2) (own_text ql p4))), .val (.int (65535 : Int32)), .val (.int (0 : Int32))] [])) _
                  refine own_go (fun _ k => XS.iload X159.here hx rfl (hb hby at_204) rfl k) ?_
                  show own_Go p e below (T159.setTop (mkF m 206 #[.val (.int p1), .val (.int p2), .val (.int p3), .val (.int p4), .val (.int p5), .val (.int tk), .val (.int tl), .val (.int qk), .val (.int ql), .val (.int (0 : Int32)), .val (.int (0 : Int32)), .val (.int p4), .val (.ref b135), .val (.ref x149), .val (.int (own_isr (own_kind tk z0 z1 z2 z3 z4 z5) (own_kind qk z0 z1 z2 z3 z4 z5) (own_text tl p2) (own_text ql p4))), .val (.int (65535 : Int32)), .val (.int (0 : Int32))] [(.int (own_isr (own_kind tk z0 z1 z2 z3 z4 z5) (own_kind qk z0 z1 z2 z3 z4 z5) (own_text tl p2) (own_text ql p4)))])) _
                  refine own_go (fun _ k => XS.iload X159.here hx rfl (hb hby at_206) rfl k) ?_
                  show own_Go p e below (T159.setTop (mkF m 208 #[.val (.int p1), .val (.int p2), .val (.int p3), .val (.int p4), .val (.int p5), .val (.int tk), .val (.int tl), .val (.int qk), .val (.int ql), .val (.int (0 : Int32)), .val (.int (0 : Int32)), .val (.int p4), .val (.ref b135), .val (.ref x149), .val (.int (own_isr (own_kind tk z0 z1 z2 z3 z4 z5) (own_kind qk z0 z1 z2 z3 z4 z5) (own_text tl p2) (own_text ql p4))), .val (.int (65535 : Int32)), .val (.int (0 : Int32))] [(.int (0 : Int32)), (.int (own_isr (own_kind tk z0 z1 z2 z3 z4 z5) (own_kind qk z0 z1 z2 z3 z4 z5) (own_text tl p2) (own_text ql p4)))])) _
                  refine own_go (fun _ k => XS.icmpNo X159.here hx rfl (hb hby at_208) rfl (teq (own_isr_m (fun q => hc170 ((own_tx2 hc160 hc163 hc167 hc169).mp q)))).2 k) ?_
                  show own_Go p e below (T159.setTop (mkF m 211 #[.val (.int p1), .val (.int p2), .val (.int p3), .val (.int p4), .val (.int p5), .val (.int tk), .val (.int tl), .val (.int qk), .val (.int ql), .val (.int (0 : Int32)), .val (.int (0 : Int32)), .val (.int p4), .val (.ref b135), .val (.ref x149), .val (.int (own_isr (own_kind tk z0 z1 z2 z3 z4 z5) (own_kind qk z0 z1 z2 z3 z4 z5) (own_text tl p2) (own_text ql p4))), .val (.int (65535 : Int32)), .val (.int (0 : Int32))] [])) _
                  refine own_go (fun _ k => XS.iconst X159.here hx rfl (hb hby at_211) k) ?_
                  show own_Go p e below (T159.setTop (mkF m 212 #[.val (.int p1), .val (.int p2), .val (.int p3), .val (.int p4), .val (.int p5), .val (.int tk), .val (.int tl), .val (.int qk), .val (.int ql), .val (.int (0 : Int32)), .val (.int (0 : Int32)), .val (.int p4), .val (.ref b135), .val (.ref x149), .val (.int (own_isr (own_kind tk z0 z1 z2 z3 z4 z5) (own_kind qk z0 z1 z2 z3 z4 z5) (own_text tl p2) (own_text ql p4))), .val (.int (65535 : Int32)), .val (.int (0 : Int32))] [(.int (1 : Int32))])) _
                  refine own_go (fun _ k => XS.goto X159.here hx rfl (pc0 := 212) (pc' := 216) rfl (hb hby at_212) (by decide) (by decide) k) ?_
                  show own_Go p e below (T159.setTop (mkF m 216 #[.val (.int p1), .val (.int p2), .val (.int p3), .val (.int p4), .val (.int p5), .val (.int tk), .val (.int tl), .val (.int qk), .val (.int ql), .val (.int (0 : Int32)), .val (.int (0 : Int32)), .val (.int p4), .val (.ref b135), .val (.ref x149), .val (.int (own_isr (own_kind tk z0 z1 z2 z3 z4 z5) (own_kind qk z0 z1 z2 z3 z4 z5) (own_text tl p2) (own_text ql p4))), .val (.int (65535 : Int32)), .val (.int (0 : Int32))] [(.int (1 : Int32))])) _
                  refine own_finW (v := (some (.int (nar .boolean (1 : Int32))))) X159 hh hZ149 hS149 (by rw [e159]; exact (Nat.le_refl _)) (fun h => by rw [hrt] at h; cases h) hlk (fun fs hr => retN X159 hx (t := .boolean) hrt (by simp) (hb hby at_216) hr) (QQ := QQ0 n0) ?_ own_hEL e159 (C150) (by decide) (by decide)
                  rw [e159]
                  exact ⟨rfl, N159⟩
              · skip
                refine own_go (fun _ k => XS.icmpYes X159.here hx rfl (pc0 := 184) (pc' := 201) rfl (hb hby at_184) rfl (feq hc169).2 (by decide) (by decide) k) ?_
                show own_Go p e below (T159.setTop (mkF m 201 #[.val (.int p1), .val (.int p2), .val (.int p3), .val (.int p4), .val (.int p5), .val (.int tk), .val (.int tl), .val (.int qk), .val (.int ql), .val (.int (0 : Int32)), .val (.int (0 : Int32)), .val (.int p4), .val (.ref b135), .val (.ref x149), .val (.int (own_isr (own_kind tk z0 z1 z2 z3 z4 z5) (own_kind qk z0 z1 z2 z3 z4 z5) (own_text tl p2) (own_text ql p4))), .val (.int (65535 : Int32)), .unset] [])) _
                refine own_go (fun _ k => XS.iconst X159.here hx rfl (hb hby at_201) k) ?_
                show own_Go p e below (T159.setTop (mkF m 202 #[.val (.int p1), .val (.int p2), .val (.int p3), .val (.int p4), .val (.int p5), .val (.int tk), .val (.int tl), .val (.int qk), .val (.int ql), .val (.int (0 : Int32)), .val (.int (0 : Int32)), .val (.int p4), .val (.ref b135), .val (.ref x149), .val (.int (own_isr (own_kind tk z0 z1 z2 z3 z4 z5) (own_kind qk z0 z1 z2 z3 z4 z5) (own_text tl p2) (own_text ql p4))), .val (.int (65535 : Int32)), .unset] [(.int (0 : Int32))])) _
                refine own_go (fun _ k => XS.istore X159.here hx rfl (hb hby at_202) rfl (l' := #[.val (.int p1), .val (.int p2), .val (.int p3), .val (.int p4), .val (.int p5), .val (.int tk), .val (.int tl), .val (.int qk), .val (.int ql), .val (.int (0 : Int32)), .val (.int (0 : Int32)), .val (.int p4), .val (.ref b135), .val (.ref x149), .val (.int (own_isr (own_kind tk z0 z1 z2 z3 z4 z5) (own_kind qk z0 z1 z2 z3 z4 z5) (own_text tl p2) (own_text ql p4))), .val (.int (65535 : Int32)), .val (.int (0 : Int32))]) rfl k) ?_
                show own_Go p e below (T159.setTop (mkF m 204 #[.val (.int p1), .val (.int p2), .val (.int p3), .val (.int p4), .val (.int p5), .val (.int tk), .val (.int tl), .val (.int qk), .val (.int ql), .val (.int (0 : Int32)), .val (.int (0 : Int32)), .val (.int p4), .val (.ref b135), .val (.ref x149), .val (.int (own_isr (own_kind tk z0 z1 z2 z3 z4 z5) (own_kind qk z0 z1 z2 z3 z4 z5) (own_text tl p2) (own_text ql p4))), .val (.int (65535 : Int32)), .val (.int (0 : Int32))] [])) _
                refine own_go (fun _ k => XS.iload X159.here hx rfl (hb hby at_204) rfl k) ?_
                show own_Go p e below (T159.setTop (mkF m 206 #[.val (.int p1), .val (.int p2), .val (.int p3), .val (.int p4), .val (.int p5), .val (.int tk), .val (.int tl), .val (.int qk), .val (.int ql), .val (.int (0 : Int32)), .val (.int (0 : Int32)), .val (.int p4), .val (.ref b135), .val (.ref x149), .val (.int (own_isr (own_kind tk z0 z1 z2 z3 z4 z5) (own_kind qk z0 z1 z2 z3 z4 z5) (own_text tl p2) (own_text ql p4))), .val (.int (65535 : Int32)), .val (.int (0 : Int32))] [(.int (own_isr (own_kind tk z0 z1 z2 z3 z4 z5) (own_kind qk z0 z1 z2 z3 z4 z5) (own_text tl p2) (own_text ql p4)))])) _
                refine own_go (fun _ k => XS.iload X159.here hx rfl (hb hby at_206) rfl k) ?_
                show own_Go p e below (T159.setTop (mkF m 208 #[.val (.int p1), .val (.int p2), .val (.int p3), .val (.int p4), .val (.int p5), .val (.int tk), .val (.int tl), .val (.int qk), .val (.int ql), .val (.int (0 : Int32)), .val (.int (0 : Int32)), .val (.int p4), .val (.ref b135), .val (.ref x149), .val (.int (own_isr (own_kind tk z0 z1 z2 z3 z4 z5) (own_kind qk z0 z1 z2 z3 z4 z5) (own_text tl p2) (own_text ql p4))), .val (.int (65535 : Int32)), .val (.int (0 : Int32))] [(.int (0 : Int32)), (.int (own_isr (own_kind tk z0 z1 z2 z3 z4 z5) (own_kind qk z0 z1 z2 z3 z4 z5) (own_text tl p2) (own_text ql p4)))])) _
                refine own_go (fun _ k => XS.icmpNo X159.here hx rfl (hb hby at_208) rfl (teq (own_isr_m (own_text_ne (h_tl ▸ own_a3 _) (h_ql ▸ own_a3 _) hc169))).2 k) ?_
                show own_Go p e below (T159.setTop (mkF m 211 #[.val (.int p1), .val (.int p2), .val (.int p3), .val (.int p4), .val (.int p5), .val (.int tk), .val (.int tl), .val (.int qk), .val (.int ql), .val (.int (0 : Int32)), .val (.int (0 : Int32)), .val (.int p4), .val (.ref b135), .val (.ref x149), .val (.int (own_isr (own_kind tk z0 z1 z2 z3 z4 z5) (own_kind qk z0 z1 z2 z3 z4 z5) (own_text tl p2) (own_text ql p4))), .val (.int (65535 : Int32)), .val (.int (0 : Int32))] [])) _
                refine own_go (fun _ k => XS.iconst X159.here hx rfl (hb hby at_211) k) ?_
                show own_Go p e below (T159.setTop (mkF m 212 #[.val (.int p1), .val (.int p2), .val (.int p3), .val (.int p4), .val (.int p5), .val (.int tk), .val (.int tl), .val (.int qk), .val (.int ql), .val (.int (0 : Int32)), .val (.int (0 : Int32)), .val (.int p4), .val (.ref b135), .val (.ref x149), .val (.int (own_isr (own_kind tk z0 z1 z2 z3 z4 z5) (own_kind qk z0 z1 z2 z3 z4 z5) (own_text tl p2) (own_text ql p4))), .val (.int (65535 : Int32)), .val (.int (0 : Int32))] [(.int (1 : Int32))])) _
                refine own_go (fun _ k => XS.goto X159.here hx rfl (pc0 := 212) (pc' := 216) rfl (hb hby at_212) (by decide) (by decide) k) ?_
                show own_Go p e below (T159.setTop (mkF m 216 #[.val (.int p1), .val (.int p2), .val (.int p3), .val (.int p4), .val (.int p5), .val (.int tk), .val (.int tl), .val (.int qk), .val (.int ql), .val (.int (0 : Int32)), .val (.int (0 : Int32)), .val (.int p4), .val (.ref b135), .val (.ref x149), .val (.int (own_isr (own_kind tk z0 z1 z2 z3 z4 z5) (own_kind qk z0 z1 z2 z3 z4 z5) (own_text tl p2) (own_text ql p4))), .val (.int (65535 : Int32)), .val (.int (0 : Int32))] [(.int (1 : Int32))])) _
                refine own_finW (v := (some (.int (nar .boolean (1 : Int32))))) X159 hh hZ149 hS149 (by rw [e159]; exact (Nat.le_refl _)) (fun h => by rw [hrt] at h; cases h) hlk (fun fs hr => retN X159 hx (t := .boolean) hrt (by simp) (hb hby at_216) hr) (QQ := QQ0 n0) ?_ own_hEL e159 (C150) (by decide) (by decide)
                rw [e159]
                exact ⟨rfl, N159⟩
            · skip
              refine own_go (fun _ k => XS.icmpYes X159.here hx rfl (pc0 := 172) (pc' := 201) rfl (hb hby at_172) rfl (feq hc168).2 (by decide) (by decide) k) ?_
              show own_Go p e below (T159.setTop (mkF m 201 #[.val (.int p1), .val (.int p2), .val (.int p3), .val (.int p4), .val (.int p5), .val (.int tk), .val (.int tl), .val (.int qk), .val (.int ql), .val (.int (0 : Int32)), .val (.int (0 : Int32)), .val (.int p4), .val (.ref b135), .val (.ref x149), .val (.int (own_isr (own_kind tk z0 z1 z2 z3 z4 z5) (own_kind qk z0 z1 z2 z3 z4 z5) (own_text tl p2) (own_text ql p4))), .val (.int (65535 : Int32)), .unset] [])) _
              refine own_go (fun _ k => XS.iconst X159.here hx rfl (hb hby at_201) k) ?_
              show own_Go p e below (T159.setTop (mkF m 202 #[.val (.int p1), .val (.int p2), .val (.int p3), .val (.int p4), .val (.int p5), .val (.int tk), .val (.int tl), .val (.int qk), .val (.int ql), .val (.int (0 : Int32)), .val (.int (0 : Int32)), .val (.int p4), .val (.ref b135), .val (.ref x149), .val (.int (own_isr (own_kind tk z0 z1 z2 z3 z4 z5) (own_kind qk z0 z1 z2 z3 z4 z5) (own_text tl p2) (own_text ql p4))), .val (.int (65535 : Int32)), .unset] [(.int (0 : Int32))])) _
              refine own_go (fun _ k => XS.istore X159.here hx rfl (hb hby at_202) rfl (l' := #[.val (.int p1), .val (.int p2), .val (.int p3), .val (.int p4), .val (.int p5), .val (.int tk), .val (.int tl), .val (.int qk), .val (.int ql), .val (.int (0 : Int32)), .val (.int (0 : Int32)), .val (.int p4), .val (.ref b135), .val (.ref x149), .val (.int (own_isr (own_kind tk z0 z1 z2 z3 z4 z5) (own_kind qk z0 z1 z2 z3 z4 z5) (own_text tl p2) (own_text ql p4))), .val (.int (65535 : Int32)), .val (.int (0 : Int32))]) rfl k) ?_
              show own_Go p e below (T159.setTop (mkF m 204 #[.val (.int p1), .val (.int p2), .val (.int p3), .val (.int p4), .val (.int p5), .val (.int tk), .val (.int tl), .val (.int qk), .val (.int ql), .val (.int (0 : Int32)), .val (.int (0 : Int32)), .val (.int p4), .val (.ref b135), .val (.ref x149), .val (.int (own_isr (own_kind tk z0 z1 z2 z3 z4 z5) (own_kind qk z0 z1 z2 z3 z4 z5) (own_text tl p2) (own_text ql p4))), .val (.int (65535 : Int32)), .val (.int (0 : Int32))] [])) _
              refine own_go (fun _ k => XS.iload X159.here hx rfl (hb hby at_204) rfl k) ?_
              show own_Go p e below (T159.setTop (mkF m 206 #[.val (.int p1), .val (.int p2), .val (.int p3), .val (.int p4), .val (.int p5), .val (.int tk), .val (.int tl), .val (.int qk), .val (.int ql), .val (.int (0 : Int32)), .val (.int (0 : Int32)), .val (.int p4), .val (.ref b135), .val (.ref x149), .val (.int (own_isr (own_kind tk z0 z1 z2 z3 z4 z5) (own_kind qk z0 z1 z2 z3 z4 z5) (own_text tl p2) (own_text ql p4))), .val (.int (65535 : Int32)), .val (.int (0 : Int32))] [(.int (own_isr (own_kind tk z0 z1 z2 z3 z4 z5) (own_kind qk z0 z1 z2 z3 z4 z5) (own_text tl p2) (own_text ql p4)))])) _
              refine own_go (fun _ k => XS.iload X159.here hx rfl (hb hby at_206) rfl k) ?_
              show own_Go p e below (T159.setTop (mkF m 208 #[.val (.int p1), .val (.int p2), .val (.int p3), .val (.int p4), .val (.int p5), .val (.int tk), .val (.int tl), .val (.int qk), .val (.int ql), .val (.int (0 : Int32)), .val (.int (0 : Int32)), .val (.int p4), .val (.ref b135), .val (.ref x149), .val (.int (own_isr (own_kind tk z0 z1 z2 z3 z4 z5) (own_kind qk z0 z1 z2 z3 z4 z5) (own_text tl p2) (own_text ql p4))), .val (.int (65535 : Int32)), .val (.int (0 : Int32))] [(.int (0 : Int32)), (.int (own_isr (own_kind tk z0 z1 z2 z3 z4 z5) (own_kind qk z0 z1 z2 z3 z4 z5) (own_text tl p2) (own_text ql p4)))])) _
              refine own_go (fun _ k => XS.icmpNo X159.here hx rfl (hb hby at_208) rfl (teq (own_isr_n1 (own_kind_ne hz (h_tk ▸ own_i6 p1) (h_qk ▸ own_i7 p3) (fun q => hc168 q.symm)))).2 k) ?_
              show own_Go p e below (T159.setTop (mkF m 211 #[.val (.int p1), .val (.int p2), .val (.int p3), .val (.int p4), .val (.int p5), .val (.int tk), .val (.int tl), .val (.int qk), .val (.int ql), .val (.int (0 : Int32)), .val (.int (0 : Int32)), .val (.int p4), .val (.ref b135), .val (.ref x149), .val (.int (own_isr (own_kind tk z0 z1 z2 z3 z4 z5) (own_kind qk z0 z1 z2 z3 z4 z5) (own_text tl p2) (own_text ql p4))), .val (.int (65535 : Int32)), .val (.int (0 : Int32))] [])) _
              refine own_go (fun _ k => XS.iconst X159.here hx rfl (hb hby at_211) k) ?_
              show own_Go p e below (T159.setTop (mkF m 212 #[.val (.int p1), .val (.int p2), .val (.int p3), .val (.int p4), .val (.int p5), .val (.int tk), .val (.int tl), .val (.int qk), .val (.int ql), .val (.int (0 : Int32)), .val (.int (0 : Int32)), .val (.int p4), .val (.ref b135), .val (.ref x149), .val (.int (own_isr (own_kind tk z0 z1 z2 z3 z4 z5) (own_kind qk z0 z1 z2 z3 z4 z5) (own_text tl p2) (own_text ql p4))), .val (.int (65535 : Int32)), .val (.int (0 : Int32))] [(.int (1 : Int32))])) _
              refine own_go (fun _ k => XS.goto X159.here hx rfl (pc0 := 212) (pc' := 216) rfl (hb hby at_212) (by decide) (by decide) k) ?_
              show own_Go p e below (T159.setTop (mkF m 216 #[.val (.int p1), .val (.int p2), .val (.int p3), .val (.int p4), .val (.int p5), .val (.int tk), .val (.int tl), .val (.int qk), .val (.int ql), .val (.int (0 : Int32)), .val (.int (0 : Int32)), .val (.int p4), .val (.ref b135), .val (.ref x149), .val (.int (own_isr (own_kind tk z0 z1 z2 z3 z4 z5) (own_kind qk z0 z1 z2 z3 z4 z5) (own_text tl p2) (own_text ql p4))), .val (.int (65535 : Int32)), .val (.int (0 : Int32))] [(.int (1 : Int32))])) _
              refine own_finW (v := (some (.int (nar .boolean (1 : Int32))))) X159 hh hZ149 hS149 (by rw [e159]; exact (Nat.le_refl _)) (fun h => by rw [hrt] at h; cases h) hlk (fun fs hr => retN X159 hx (t := .boolean) hrt (by simp) (hb hby at_216) hr) (QQ := QQ0 n0) ?_ own_hEL e159 (C150) (by decide) (by decide)
              rw [e159]
              exact ⟨rfl, N159⟩
          · skip
            refine own_go (fun _ k => XS.icmpYes X159.here hx rfl (pc0 := 156) (pc' := 164) rfl (hb hby at_156) rfl (feq hc167).2 (by decide) (by decide) k) ?_
            show own_Go p e below (T159.setTop (mkF m 164 #[.val (.int p1), .val (.int p2), .val (.int p3), .val (.int p4), .val (.int p5), .val (.int tk), .val (.int tl), .val (.int qk), .val (.int ql), .val (.int (0 : Int32)), .val (.int (0 : Int32)), .val (.int p4), .val (.ref b135), .val (.ref x149), .val (.int (own_isr (own_kind tk z0 z1 z2 z3 z4 z5) (own_kind qk z0 z1 z2 z3 z4 z5) (own_text tl p2) (own_text ql p4))), .unset, .unset] [])) _
            refine own_go (fun _ k => X159.ldcInt hx hown149 (mvT hZ149 (hw _ (List.mem_of_getElem? (i := 85) rfl))) (g := (mkF m 164 #[.val (.int p1), .val (.int p2), .val (.int p3), .val (.int p4), .val (.int p5), .val (.int tk), .val (.int tl), .val (.int qk), .val (.int ql), .val (.int (0 : Int32)), .val (.int (0 : Int32)), .val (.int p4), .val (.ref b135), .val (.ref x149), .val (.int (own_isr (own_kind tk z0 z1 z2 z3 z4 z5) (own_kind qk z0 z1 z2 z3 z4 z5) (own_text tl p2) (own_text ql p4))), .unset, .unset] [])) rfl (hb hby at_164) _ k) ?_
            show own_Go p e below (T159.setTop (mkF m 166 #[.val (.int p1), .val (.int p2), .val (.int p3), .val (.int p4), .val (.int p5), .val (.int tk), .val (.int tl), .val (.int qk), .val (.int ql), .val (.int (0 : Int32)), .val (.int (0 : Int32)), .val (.int p4), .val (.ref b135), .val (.ref x149), .val (.int (own_isr (own_kind tk z0 z1 z2 z3 z4 z5) (own_kind qk z0 z1 z2 z3 z4 z5) (own_text tl p2) (own_text ql p4))), .unset, .unset] [(.int (16777215 : Int32))])) _
            refine own_go (fun _ k => XS.istore X159.here hx rfl (hb hby at_166) rfl (l' := #[.val (.int p1), .val (.int p2), .val (.int p3), .val (.int p4), .val (.int p5), .val (.int tk), .val (.int tl), .val (.int qk), .val (.int ql), .val (.int (0 : Int32)), .val (.int (0 : Int32)), .val (.int p4), .val (.ref b135), .val (.ref x149), .val (.int (own_isr (own_kind tk z0 z1 z2 z3 z4 z5) (own_kind qk z0 z1 z2 z3 z4 z5) (own_text tl p2) (own_text ql p4))), .val (.int (16777215 : Int32)), .unset]) rfl k) ?_
            show own_Go p e below (T159.setTop (mkF m 168 #[.val (.int p1), .val (.int p2), .val (.int p3), .val (.int p4), .val (.int p5), .val (.int tk), .val (.int tl), .val (.int qk), .val (.int ql), .val (.int (0 : Int32)), .val (.int (0 : Int32)), .val (.int p4), .val (.ref b135), .val (.ref x149), .val (.int (own_isr (own_kind tk z0 z1 z2 z3 z4 z5) (own_kind qk z0 z1 z2 z3 z4 z5) (own_text tl p2) (own_text ql p4))), .val (.int (16777215 : Int32)), .unset] [])) _
            refine own_go (fun _ k => XS.iload X159.here hx rfl (hb hby at_168) rfl k) ?_
            show own_Go p e below (T159.setTop (mkF m 170 #[.val (.int p1), .val (.int p2), .val (.int p3), .val (.int p4), .val (.int p5), .val (.int tk), .val (.int tl), .val (.int qk), .val (.int ql), .val (.int (0 : Int32)), .val (.int (0 : Int32)), .val (.int p4), .val (.ref b135), .val (.ref x149), .val (.int (own_isr (own_kind tk z0 z1 z2 z3 z4 z5) (own_kind qk z0 z1 z2 z3 z4 z5) (own_text tl p2) (own_text ql p4))), .val (.int (16777215 : Int32)), .unset] [(.int qk)])) _
            refine own_go (fun _ k => XS.iload X159.here hx rfl (hb hby at_170) rfl k) ?_
            show own_Go p e below (T159.setTop (mkF m 172 #[.val (.int p1), .val (.int p2), .val (.int p3), .val (.int p4), .val (.int p5), .val (.int tk), .val (.int tl), .val (.int qk), .val (.int ql), .val (.int (0 : Int32)), .val (.int (0 : Int32)), .val (.int p4), .val (.ref b135), .val (.ref x149), .val (.int (own_isr (own_kind tk z0 z1 z2 z3 z4 z5) (own_kind qk z0 z1 z2 z3 z4 z5) (own_text tl p2) (own_text ql p4))), .val (.int (16777215 : Int32)), .unset] [(.int tk), (.int qk)])) _
            by_cases hc171 : qk = tk
            · skip
              refine own_go (fun _ k => XS.icmpNo X159.here hx rfl (hb hby at_172) rfl (teq hc171).2 k) ?_
              show own_Go p e below (T159.setTop (mkF m 175 #[.val (.int p1), .val (.int p2), .val (.int p3), .val (.int p4), .val (.int p5), .val (.int tk), .val (.int tl), .val (.int qk), .val (.int ql), .val (.int (0 : Int32)), .val (.int (0 : Int32)), .val (.int p4), .val (.ref b135), .val (.ref x149), .val (.int (own_isr (own_kind tk z0 z1 z2 z3 z4 z5) (own_kind qk z0 z1 z2 z3 z4 z5) (own_text tl p2) (own_text ql p4))), .val (.int (16777215 : Int32)), .unset] [])) _
              refine own_go (fun _ k => XS.iload X159.here hx rfl (hb hby at_175) rfl k) ?_
              show own_Go p e below (T159.setTop (mkF m 177 #[.val (.int p1), .val (.int p2), .val (.int p3), .val (.int p4), .val (.int p5), .val (.int tk), .val (.int tl), .val (.int qk), .val (.int ql), .val (.int (0 : Int32)), .val (.int (0 : Int32)), .val (.int p4), .val (.ref b135), .val (.ref x149), .val (.int (own_isr (own_kind tk z0 z1 z2 z3 z4 z5) (own_kind qk z0 z1 z2 z3 z4 z5) (own_text tl p2) (own_text ql p4))), .val (.int (16777215 : Int32)), .unset] [(.int (0 : Int32))])) _
              refine own_go (fun _ k => XS.ifNo X159.here hx rfl (hb hby at_177) rfl ((if0 _ _).trans (teq (by decide : (0 : Int32) = (0 : Int32))).2) k) ?_
              show own_Go p e below (T159.setTop (mkF m 180 #[.val (.int p1), .val (.int p2), .val (.int p3), .val (.int p4), .val (.int p5), .val (.int tk), .val (.int tl), .val (.int qk), .val (.int ql), .val (.int (0 : Int32)), .val (.int (0 : Int32)), .val (.int p4), .val (.ref b135), .val (.ref x149), .val (.int (own_isr (own_kind tk z0 z1 z2 z3 z4 z5) (own_kind qk z0 z1 z2 z3 z4 z5) (own_text tl p2) (own_text ql p4))), .val (.int (16777215 : Int32)), .unset] [])) _
              refine own_go (fun _ k => XS.iload X159.here hx rfl (hb hby at_180) rfl k) ?_
              show own_Go p e below (T159.setTop (mkF m 182 #[.val (.int p1), .val (.int p2), .val (.int p3), .val (.int p4), .val (.int p5), .val (.int tk), .val (.int tl), .val (.int qk), .val (.int ql), .val (.int (0 : Int32)), .val (.int (0 : Int32)), .val (.int p4), .val (.ref b135), .val (.ref x149), .val (.int (own_isr (own_kind tk z0 z1 z2 z3 z4 z5) (own_kind qk z0 z1 z2 z3 z4 z5) (own_text tl p2) (own_text ql p4))), .val (.int (16777215 : Int32)), .unset] [(.int tl)])) _
              refine own_go (fun _ k => XS.iload X159.here hx rfl (hb hby at_182) rfl k) ?_
              show own_Go p e below (T159.setTop (mkF m 184 #[.val (.int p1), .val (.int p2), .val (.int p3), .val (.int p4), .val (.int p5), .val (.int tk), .val (.int tl), .val (.int qk), .val (.int ql), .val (.int (0 : Int32)), .val (.int (0 : Int32)), .val (.int p4), .val (.ref b135), .val (.ref x149), .val (.int (own_isr (own_kind tk z0 z1 z2 z3 z4 z5) (own_kind qk z0 z1 z2 z3 z4 z5) (own_text tl p2) (own_text ql p4))), .val (.int (16777215 : Int32)), .unset] [(.int ql), (.int tl)])) _
              by_cases hc172 : tl = ql
              · skip
                refine own_go (fun _ k => XS.icmpNo X159.here hx rfl (hb hby at_184) rfl (teq hc172).2 k) ?_
                show own_Go p e below (T159.setTop (mkF m 187 #[.val (.int p1), .val (.int p2), .val (.int p3), .val (.int p4), .val (.int p5), .val (.int tk), .val (.int tl), .val (.int qk), .val (.int ql), .val (.int (0 : Int32)), .val (.int (0 : Int32)), .val (.int p4), .val (.ref b135), .val (.ref x149), .val (.int (own_isr (own_kind tk z0 z1 z2 z3 z4 z5) (own_kind qk z0 z1 z2 z3 z4 z5) (own_text tl p2) (own_text ql p4))), .val (.int (16777215 : Int32)), .unset] [])) _
                refine own_go (fun _ k => XS.iloadN X159.here hx rfl (hb hby at_187) rfl k) ?_
                show own_Go p e below (T159.setTop (mkF m 188 #[.val (.int p1), .val (.int p2), .val (.int p3), .val (.int p4), .val (.int p5), .val (.int tk), .val (.int tl), .val (.int qk), .val (.int ql), .val (.int (0 : Int32)), .val (.int (0 : Int32)), .val (.int p4), .val (.ref b135), .val (.ref x149), .val (.int (own_isr (own_kind tk z0 z1 z2 z3 z4 z5) (own_kind qk z0 z1 z2 z3 z4 z5) (own_text tl p2) (own_text ql p4))), .val (.int (16777215 : Int32)), .unset] [(.int p2)])) _
                refine own_go (fun _ k => XS.iload X159.here hx rfl (hb hby at_188) rfl k) ?_
                show own_Go p e below (T159.setTop (mkF m 190 #[.val (.int p1), .val (.int p2), .val (.int p3), .val (.int p4), .val (.int p5), .val (.int tk), .val (.int tl), .val (.int qk), .val (.int ql), .val (.int (0 : Int32)), .val (.int (0 : Int32)), .val (.int p4), .val (.ref b135), .val (.ref x149), .val (.int (own_isr (own_kind tk z0 z1 z2 z3 z4 z5) (own_kind qk z0 z1 z2 z3 z4 z5) (own_text tl p2) (own_text ql p4))), .val (.int (16777215 : Int32)), .unset] [(.int p4), (.int p2)])) _
                refine own_go (fun _ k => XS.ixor X159.here hx rfl (hb hby at_190) rfl k) ?_
                show own_Go p e below (T159.setTop (mkF m 191 #[.val (.int p1), .val (.int p2), .val (.int p3), .val (.int p4), .val (.int p5), .val (.int tk), .val (.int tl), .val (.int qk), .val (.int ql), .val (.int (0 : Int32)), .val (.int (0 : Int32)), .val (.int p4), .val (.ref b135), .val (.ref x149), .val (.int (own_isr (own_kind tk z0 z1 z2 z3 z4 z5) (own_kind qk z0 z1 z2 z3 z4 z5) (own_text tl p2) (own_text ql p4))), .val (.int (16777215 : Int32)), .unset] [(.int (p2 ^^^ p4))])) _
                refine own_go (fun _ k => XS.iload X159.here hx rfl (hb hby at_191) rfl k) ?_
                show own_Go p e below (T159.setTop (mkF m 193 #[.val (.int p1), .val (.int p2), .val (.int p3), .val (.int p4), .val (.int p5), .val (.int tk), .val (.int tl), .val (.int qk), .val (.int ql), .val (.int (0 : Int32)), .val (.int (0 : Int32)), .val (.int p4), .val (.ref b135), .val (.ref x149), .val (.int (own_isr (own_kind tk z0 z1 z2 z3 z4 z5) (own_kind qk z0 z1 z2 z3 z4 z5) (own_text tl p2) (own_text ql p4))), .val (.int (16777215 : Int32)), .unset] [(.int (16777215 : Int32)), (.int (p2 ^^^ p4))])) _
                refine own_go (fun _ k => XS.iand X159.here hx rfl (hb hby at_193) rfl k) ?_
                show own_Go p e below (T159.setTop (mkF m 194 #[.val (.int p1), .val (.int p2), .val (.int p3), .val (.int p4), .val (.int p5), .val (.int tk), .val (.int tl), .val (.int qk), .val (.int ql), .val (.int (0 : Int32)), .val (.int (0 : Int32)), .val (.int p4), .val (.ref b135), .val (.ref x149), .val (.int (own_isr (own_kind tk z0 z1 z2 z3 z4 z5) (own_kind qk z0 z1 z2 z3 z4 z5) (own_text tl p2) (own_text ql p4))), .val (.int (16777215 : Int32)), .unset] [(.int ((p2 ^^^ p4) &&& (16777215 : Int32)))])) _
                by_cases hc173 : ((p2 ^^^ p4) &&& (16777215 : Int32)) = (0 : Int32)
                · skip
                  refine own_go (fun _ k => XS.ifNo X159.here hx rfl (hb hby at_194) rfl ((if0 _ _).trans (teq hc173).2) k) ?_
                  show own_Go p e below (T159.setTop (mkF m 197 #[.val (.int p1), .val (.int p2), .val (.int p3), .val (.int p4), .val (.int p5), .val (.int tk), .val (.int tl), .val (.int qk), .val (.int ql), .val (.int (0 : Int32)), .val (.int (0 : Int32)), .val (.int p4), .val (.ref b135), .val (.ref x149), .val (.int (own_isr (own_kind tk z0 z1 z2 z3 z4 z5) (own_kind qk z0 z1 z2 z3 z4 z5) (own_text tl p2) (own_text ql p4))), .val (.int (16777215 : Int32)), .unset] [])) _
                  refine own_go (fun _ k => XS.iconst X159.here hx rfl (hb hby at_197) k) ?_
                  show own_Go p e below (T159.setTop (mkF m 198 #[.val (.int p1), .val (.int p2), .val (.int p3), .val (.int p4), .val (.int p5), .val (.int tk), .val (.int tl), .val (.int qk), .val (.int ql), .val (.int (0 : Int32)), .val (.int (0 : Int32)), .val (.int p4), .val (.ref b135), .val (.ref x149), .val (.int (own_isr (own_kind tk z0 z1 z2 z3 z4 z5) (own_kind qk z0 z1 z2 z3 z4 z5) (own_text tl p2) (own_text ql p4))), .val (.int (16777215 : Int32)), .unset] [(.int (1 : Int32))])) _
                  refine own_go (fun _ k => XS.goto X159.here hx rfl (pc0 := 198) (pc' := 202) rfl (hb hby at_198) (by decide) (by decide) k) ?_
                  show own_Go p e below (T159.setTop (mkF m 202 #[.val (.int p1), .val (.int p2), .val (.int p3), .val (.int p4), .val (.int p5), .val (.int tk), .val (.int tl), .val (.int qk), .val (.int ql), .val (.int (0 : Int32)), .val (.int (0 : Int32)), .val (.int p4), .val (.ref b135), .val (.ref x149), .val (.int (own_isr (own_kind tk z0 z1 z2 z3 z4 z5) (own_kind qk z0 z1 z2 z3 z4 z5) (own_text tl p2) (own_text ql p4))), .val (.int (16777215 : Int32)), .unset] [(.int (1 : Int32))])) _
                  refine own_go (fun _ k => XS.istore X159.here hx rfl (hb hby at_202) rfl (l' := #[.val (.int p1), .val (.int p2), .val (.int p3), .val (.int p4), .val (.int p5), .val (.int tk), .val (.int tl), .val (.int qk), .val (.int ql), .val (.int (0 : Int32)), .val (.int (0 : Int32)), .val (.int p4), .val (.ref b135), .val (.ref x149), .val (.int (own_isr (own_kind tk z0 z1 z2 z3 z4 z5) (own_kind qk z0 z1 z2 z3 z4 z5) (own_text tl p2) (own_text ql p4))), .val (.int (16777215 : Int32)), .val (.int (1 : Int32))]) rfl k) ?_
                  show own_Go p e below (T159.setTop (mkF m 204 #[.val (.int p1), .val (.int p2), .val (.int p3), .val (.int p4), .val (.int p5), .val (.int tk), .val (.int tl), .val (.int qk), .val (.int ql), .val (.int (0 : Int32)), .val (.int (0 : Int32)), .val (.int p4), .val (.ref b135), .val (.ref x149), .val (.int (own_isr (own_kind tk z0 z1 z2 z3 z4 z5) (own_kind qk z0 z1 z2 z3 z4 z5) (own_text tl p2) (own_text ql p4))), .val (.int (16777215 : Int32)), .val (.int (1 : Int32))] [])) _
                  refine own_go (fun _ k => XS.iload X159.here hx rfl (hb hby at_204) rfl k) ?_
                  show own_Go p e below (T159.setTop (mkF m 206 #[.val (.int p1), .val (.int p2), .val (.int p3), .val (.int p4), .val (.int p5), .val (.int tk), .val (.int tl), .val (.int qk), .val (.int ql), .val (.int (0 : Int32)), .val (.int (0 : Int32)), .val (.int p4), .val (.ref b135), .val (.ref x149), .val (.int (own_isr (own_kind tk z0 z1 z2 z3 z4 z5) (own_kind qk z0 z1 z2 z3 z4 z5) (own_text tl p2) (own_text ql p4))), .val (.int (16777215 : Int32)), .val (.int (1 : Int32))] [(.int (own_isr (own_kind tk z0 z1 z2 z3 z4 z5) (own_kind qk z0 z1 z2 z3 z4 z5) (own_text tl p2) (own_text ql p4)))])) _
                  refine own_go (fun _ k => XS.iload X159.here hx rfl (hb hby at_206) rfl k) ?_
                  show own_Go p e below (T159.setTop (mkF m 208 #[.val (.int p1), .val (.int p2), .val (.int p3), .val (.int p4), .val (.int p5), .val (.int tk), .val (.int tl), .val (.int qk), .val (.int ql), .val (.int (0 : Int32)), .val (.int (0 : Int32)), .val (.int p4), .val (.ref b135), .val (.ref x149), .val (.int (own_isr (own_kind tk z0 z1 z2 z3 z4 z5) (own_kind qk z0 z1 z2 z3 z4 z5) (own_text tl p2) (own_text ql p4))), .val (.int (16777215 : Int32)), .val (.int (1 : Int32))] [(.int (1 : Int32)), (.int (own_isr (own_kind tk z0 z1 z2 z3 z4 z5) (own_kind qk z0 z1 z2 z3 z4 z5) (own_text tl p2) (own_text ql p4)))])) _
                  refine own_go (fun _ k => XS.icmpNo X159.here hx rfl (hb hby at_208) rfl (teq (own_isr_yy (congrArg (fun z => own_kind z z0 z1 z2 z3 z4 z5) hc171.symm) ((own_tx3 hc160 hc163 hc167 hc172).mpr hc173))).2 k) ?_
                  show own_Go p e below (T159.setTop (mkF m 211 #[.val (.int p1), .val (.int p2), .val (.int p3), .val (.int p4), .val (.int p5), .val (.int tk), .val (.int tl), .val (.int qk), .val (.int ql), .val (.int (0 : Int32)), .val (.int (0 : Int32)), .val (.int p4), .val (.ref b135), .val (.ref x149), .val (.int (own_isr (own_kind tk z0 z1 z2 z3 z4 z5) (own_kind qk z0 z1 z2 z3 z4 z5) (own_text tl p2) (own_text ql p4))), .val (.int (16777215 : Int32)), .val (.int (1 : Int32))] [])) _
                  refine own_go (fun _ k => XS.iconst X159.here hx rfl (hb hby at_211) k) ?_
                  show own_Go p e below (T159.setTop (mkF m 212 #[.val (.int p1), .val (.int p2), .val (.int p3), .val (.int p4), .val (.int p5), .val (.int tk), .val (.int tl), .val (.int qk), .val (.int ql), .val (.int (0 : Int32)), .val (.int (0 : Int32)), .val (.int p4), .val (.ref b135), .val (.ref x149), .val (.int (own_isr (own_kind tk z0 z1 z2 z3 z4 z5) (own_kind qk z0 z1 z2 z3 z4 z5) (own_text tl p2) (own_text ql p4))), .val (.int (16777215 : Int32)), .val (.int (1 : Int32))] [(.int (1 : Int32))])) _
                  refine own_go (fun _ k => XS.goto X159.here hx rfl (pc0 := 212) (pc' := 216) rfl (hb hby at_212) (by decide) (by decide) k) ?_
                  show own_Go p e below (T159.setTop (mkF m 216 #[.val (.int p1), .val (.int p2), .val (.int p3), .val (.int p4), .val (.int p5), .val (.int tk), .val (.int tl), .val (.int qk), .val (.int ql), .val (.int (0 : Int32)), .val (.int (0 : Int32)), .val (.int p4), .val (.ref b135), .val (.ref x149), .val (.int (own_isr (own_kind tk z0 z1 z2 z3 z4 z5) (own_kind qk z0 z1 z2 z3 z4 z5) (own_text tl p2) (own_text ql p4))), .val (.int (16777215 : Int32)), .val (.int (1 : Int32))] [(.int (1 : Int32))])) _
                  refine own_finW (v := (some (.int (nar .boolean (1 : Int32))))) X159 hh hZ149 hS149 (by rw [e159]; exact (Nat.le_refl _)) (fun h => by rw [hrt] at h; cases h) hlk (fun fs hr => retN X159 hx (t := .boolean) hrt (by simp) (hb hby at_216) hr) (QQ := QQ0 n0) ?_ own_hEL e159 (C150) (by decide) (by decide)
                  rw [e159]
                  exact ⟨rfl, N159⟩
                · skip
                  refine own_go (fun _ k => XS.ifYes X159.here hx rfl (pc0 := 194) (pc' := 201) rfl (hb hby at_194) rfl ((if0 _ _).trans (feq hc173).2) (by decide) (by decide) k) ?_
                  show own_Go p e below (T159.setTop (mkF m 201 #[.val (.int p1), .val (.int p2), .val (.int p3), .val (.int p4), .val (.int p5), .val (.int tk), .val (.int tl), .val (.int qk), .val (.int ql), .val (.int (0 : Int32)), .val (.int (0 : Int32)), .val (.int p4), .val (.ref b135), .val (.ref x149), .val (.int (own_isr (own_kind tk z0 z1 z2 z3 z4 z5) (own_kind qk z0 z1 z2 z3 z4 z5) (own_text tl p2) (own_text ql p4))), .val (.int (16777215 : Int32)), .unset] [])) _
                  refine own_go (fun _ k => XS.iconst X159.here hx rfl (hb hby at_201) k) ?_
                  show own_Go p e below (T159.setTop (mkF m 202 #[.val (.int p1), .val (.int p2), .val (.int p3), .val (.int p4), .val (.int p5), .val (.int tk), .val (.int tl), .val (.int qk), .val (.int ql), .val (.int (0 : Int32)), .val (.int (0 : Int32)), .val (.int p4), .val (.ref b135), .val (.ref x149), .val (.int (own_isr (own_kind tk z0 z1 z2 z3 z4 z5) (own_kind qk z0 z1 z2 z3 z4 z5) (own_text tl p2) (own_text ql p4))), .val (.int (16777215 : Int32)), .unset] [(.int (0 : Int32))])) _
                  refine own_go (fun _ k => XS.istore X159.here hx rfl (hb hby at_202) rfl (l' := #[.val (.int p1), .val (.int p2), .val (.int p3), .val (.int p4), .val (.int p5), .val (.int tk), .val (.int tl), .val (.int qk), .val (.int ql), .val (.int (0 : Int32)), .val (.int (0 : Int32)), .val (.int p4), .val (.ref b135), .val (.ref x149), .val (.int (own_isr (own_kind tk z0 z1 z2 z3 z4 z5) (own_kind qk z0 z1 z2 z3 z4 z5) (own_text tl p2) (own_text ql p4))), .val (.int (16777215 : Int32)), .val (.int (0 : Int32))]) rfl k) ?_
                  show own_Go p e below (T159.setTop (mkF m 204 #[.val (.int p1), .val (.int p2), .val (.int p3), .val (.int p4), .val (.int p5), .val (.int tk), .val (.int tl), .val (.int qk), .val (.int ql), .val (.int (0 : Int32)), .val (.int (0 : Int32)), .val (.int p4), .val (.ref b135), .val (.ref x149), .val (.int (own_isr (own_kind tk z0 z1 z2 z3 z4 z5) (own_kind qk z0 z1 z2 z3 z4 z5) (own_text tl p2) (own_text ql p4))), .val (.int (16777215 : Int32)), .val (.int (0 : Int32))] [])) _
                  refine own_go (fun _ k => XS.iload X159.here hx rfl (hb hby at_204) rfl k) ?_
                  show own_Go p e below (T159.setTop (mkF m 206 #[.val (.int p1), .val (.int p2), .val (.int p3), .val (.int p4), .val (.int p5), .val (.int tk), .val (.int tl), .val (.int qk), .val (.int ql), .val (.int (0 : Int32)), .val (.int (0 : Int32)), .val (.int p4), .val (.ref b135), .val (.ref x149), .val (.int (own_isr (own_kind tk z0 z1 z2 z3 z4 z5) (own_kind qk z0 z1 z2 z3 z4 z5) (own_text tl p2) (own_text ql p4))), .val (.int (16777215 : Int32)), .val (.int (0 : Int32))] [(.int (own_isr (own_kind tk z0 z1 z2 z3 z4 z5) (own_kind qk z0 z1 z2 z3 z4 z5) (own_text tl p2) (own_text ql p4)))])) _
                  refine own_go (fun _ k => XS.iload X159.here hx rfl (hb hby at_206) rfl k) ?_
                  show own_Go p e below (T159.setTop (mkF m 208 #[.val (.int p1), .val (.int p2), .val (.int p3), .val (.int p4), .val (.int p5), .val (.int tk), .val (.int tl), .val (.int qk), .val (.int ql), .val (.int (0 : Int32)), .val (.int (0 : Int32)), .val (.int p4), .val (.ref b135), .val (.ref x149), .val (.int (own_isr (own_kind tk z0 z1 z2 z3 z4 z5) (own_kind qk z0 z1 z2 z3 z4 z5) (own_text tl p2) (own_text ql p4))), .val (.int (16777215 : Int32)), .val (.int (0 : Int32))] [(.int (0 : Int32)), (.int (own_isr (own_kind tk z0 z1 z2 z3 z4 z5) (own_kind qk z0 z1 z2 z3 z4 z5) (own_text tl p2) (own_text ql p4)))])) _
                  refine own_go (fun _ k => XS.icmpNo X159.here hx rfl (hb hby at_208) rfl (teq (own_isr_m (fun q => hc173 ((own_tx3 hc160 hc163 hc167 hc172).mp q)))).2 k) ?_
                  show own_Go p e below (T159.setTop (mkF m 211 #[.val (.int p1), .val (.int p2), .val (.int p3), .val (.int p4), .val (.int p5), .val (.int tk), .val (.int tl), .val (.int qk), .val (.int ql), .val (.int (0 : Int32)), .val (.int (0 : Int32)), .val (.int p4), .val (.ref b135), .val (.ref x149), .val (.int (own_isr (own_kind tk z0 z1 z2 z3 z4 z5) (own_kind qk z0 z1 z2 z3 z4 z5) (own_text tl p2) (own_text ql p4))), .val (.int (16777215 : Int32)), .val (.int (0 : Int32))] [])) _
                  refine own_go (fun _ k => XS.iconst X159.here hx rfl (hb hby at_211) k) ?_
                  show own_Go p e below (T159.setTop (mkF m 212 #[.val (.int p1), .val (.int p2), .val (.int p3), .val (.int p4), .val (.int p5), .val (.int tk), .val (.int tl), .val (.int qk), .val (.int ql), .val (.int (0 : Int32)), .val (.int (0 : Int32)), .val (.int p4), .val (.ref b135), .val (.ref x149), .val (.int (own_isr (own_kind tk z0 z1 z2 z3 z4 z5) (own_kind qk z0 z1 z2 z3 z4 z5) (own_text tl p2) (own_text ql p4))), .val (.int (16777215 : Int32)), .val (.int (0 : Int32))] [(.int (1 : Int32))])) _
                  refine own_go (fun _ k => XS.goto X159.here hx rfl (pc0 := 212) (pc' := 216) rfl (hb hby at_212) (by decide) (by decide) k) ?_
                  show own_Go p e below (T159.setTop (mkF m 216 #[.val (.int p1), .val (.int p2), .val (.int p3), .val (.int p4), .val (.int p5), .val (.int tk), .val (.int tl), .val (.int qk), .val (.int ql), .val (.int (0 : Int32)), .val (.int (0 : Int32)), .val (.int p4), .val (.ref b135), .val (.ref x149), .val (.int (own_isr (own_kind tk z0 z1 z2 z3 z4 z5) (own_kind qk z0 z1 z2 z3 z4 z5) (own_text tl p2) (own_text ql p4))), .val (.int (16777215 : Int32)), .val (.int (0 : Int32))] [(.int (1 : Int32))])) _
                  refine own_finW (v := (some (.int (nar .boolean (1 : Int32))))) X159 hh hZ149 hS149 (by rw [e159]; exact (Nat.le_refl _)) (fun h => by rw [hrt] at h; cases h) hlk (fun fs hr => retN X159 hx (t := .boolean) hrt (by simp) (hb hby at_216) hr) (QQ := QQ0 n0) ?_ own_hEL e159 (C150) (by decide) (by decide)
                  rw [e159]
                  exact ⟨rfl, N159⟩
              · skip
                refine own_go (fun _ k => XS.icmpYes X159.here hx rfl (pc0 := 184) (pc' := 201) rfl (hb hby at_184) rfl (feq hc172).2 (by decide) (by decide) k) ?_
                show own_Go p e below (T159.setTop (mkF m 201 #[.val (.int p1), .val (.int p2), .val (.int p3), .val (.int p4), .val (.int p5), .val (.int tk), .val (.int tl), .val (.int qk), .val (.int ql), .val (.int (0 : Int32)), .val (.int (0 : Int32)), .val (.int p4), .val (.ref b135), .val (.ref x149), .val (.int (own_isr (own_kind tk z0 z1 z2 z3 z4 z5) (own_kind qk z0 z1 z2 z3 z4 z5) (own_text tl p2) (own_text ql p4))), .val (.int (16777215 : Int32)), .unset] [])) _
                refine own_go (fun _ k => XS.iconst X159.here hx rfl (hb hby at_201) k) ?_
                show own_Go p e below (T159.setTop (mkF m 202 #[.val (.int p1), .val (.int p2), .val (.int p3), .val (.int p4), .val (.int p5), .val (.int tk), .val (.int tl), .val (.int qk), .val (.int ql), .val (.int (0 : Int32)), .val (.int (0 : Int32)), .val (.int p4), .val (.ref b135), .val (.ref x149), .val (.int (own_isr (own_kind tk z0 z1 z2 z3 z4 z5) (own_kind qk z0 z1 z2 z3 z4 z5) (own_text tl p2) (own_text ql p4))), .val (.int (16777215 : Int32)), .unset] [(.int (0 : Int32))])) _
                refine own_go (fun _ k => XS.istore X159.here hx rfl (hb hby at_202) rfl (l' := #[.val (.int p1), .val (.int p2), .val (.int p3), .val (.int p4), .val (.int p5), .val (.int tk), .val (.int tl), .val (.int qk), .val (.int ql), .val (.int (0 : Int32)), .val (.int (0 : Int32)), .val (.int p4), .val (.ref b135), .val (.ref x149), .val (.int (own_isr (own_kind tk z0 z1 z2 z3 z4 z5) (own_kind qk z0 z1 z2 z3 z4 z5) (own_text tl p2) (own_text ql p4))), .val (.int (16777215 : Int32)), .val (.int (0 : Int32))]) rfl k) ?_
                show own_Go p e below (T159.setTop (mkF m 204 #[.val (.int p1), .val (.int p2), .val (.int p3), .val (.int p4), .val (.int p5), .val (.int tk), .val (.int tl), .val (.int qk), .val (.int ql), .val (.int (0 : Int32)), .val (.int (0 : Int32)), .val (.int p4), .val (.ref b135), .val (.ref x149), .val (.int (own_isr (own_kind tk z0 z1 z2 z3 z4 z5) (own_kind qk z0 z1 z2 z3 z4 z5) (own_text tl p2) (own_text ql p4))), .val (.int (16777215 : Int32)), .val (.int (0 : Int32))] [])) _
                refine own_go (fun _ k => XS.iload X159.here hx rfl (hb hby at_204) rfl k) ?_
                show own_Go p e below (T159.setTop (mkF m 206 #[.val (.int p1), .val (.int p2), .val (.int p3), .val (.int p4), .val (.int p5), .val (.int tk), .val (.int tl), .val (.int qk), .val (.int ql), .val (.int (0 : Int32)), .val (.int (0 : Int32)), .val (.int p4), .val (.ref b135), .val (.ref x149), .val (.int (own_isr (own_kind tk z0 z1 z2 z3 z4 z5) (own_kind qk z0 z1 z2 z3 z4 z5) (own_text tl p2) (own_text ql p4))), .val (.int (16777215 : Int32)), .val (.int (0 : Int32))] [(.int (own_isr (own_kind tk z0 z1 z2 z3 z4 z5) (own_kind qk z0 z1 z2 z3 z4 z5) (own_text tl p2) (own_text ql p4)))])) _
                refine own_go (fun _ k => XS.iload X159.here hx rfl (hb hby at_206) rfl k) ?_
                show own_Go p e below (T159.setTop (mkF m 208 #[.val (.int p1), .val (.int p2), .val (.int p3), .val (.int p4), .val (.int p5), .val (.int tk), .val (.int tl), .val (.int qk), .val (.int ql), .val (.int (0 : Int32)), .val (.int (0 : Int32)), .val (.int p4), .val (.ref b135), .val (.ref x149), .val (.int (own_isr (own_kind tk z0 z1 z2 z3 z4 z5) (own_kind qk z0 z1 z2 z3 z4 z5) (own_text tl p2) (own_text ql p4))), .val (.int (16777215 : Int32)), .val (.int (0 : Int32))] [(.int (0 : Int32)), (.int (own_isr (own_kind tk z0 z1 z2 z3 z4 z5) (own_kind qk z0 z1 z2 z3 z4 z5) (own_text tl p2) (own_text ql p4)))])) _
                refine own_go (fun _ k => XS.icmpNo X159.here hx rfl (hb hby at_208) rfl (teq (own_isr_m (own_text_ne (h_tl ▸ own_a3 _) (h_ql ▸ own_a3 _) hc172))).2 k) ?_
                show own_Go p e below (T159.setTop (mkF m 211 #[.val (.int p1), .val (.int p2), .val (.int p3), .val (.int p4), .val (.int p5), .val (.int tk), .val (.int tl), .val (.int qk), .val (.int ql), .val (.int (0 : Int32)), .val (.int (0 : Int32)), .val (.int p4), .val (.ref b135), .val (.ref x149), .val (.int (own_isr (own_kind tk z0 z1 z2 z3 z4 z5) (own_kind qk z0 z1 z2 z3 z4 z5) (own_text tl p2) (own_text ql p4))), .val (.int (16777215 : Int32)), .val (.int (0 : Int32))] [])) _
                refine own_go (fun _ k => XS.iconst X159.here hx rfl (hb hby at_211) k) ?_
                show own_Go p e below (T159.setTop (mkF m 212 #[.val (.int p1), .val (.int p2), .val (.int p3), .val (.int p4), .val (.int p5), .val (.int tk), .val (.int tl), .val (.int qk), .val (.int ql), .val (.int (0 : Int32)), .val (.int (0 : Int32)), .val (.int p4), .val (.ref b135), .val (.ref x149), .val (.int (own_isr (own_kind tk z0 z1 z2 z3 z4 z5) (own_kind qk z0 z1 z2 z3 z4 z5) (own_text tl p2) (own_text ql p4))), .val (.int (16777215 : Int32)), .val (.int (0 : Int32))] [(.int (1 : Int32))])) _
                refine own_go (fun _ k => XS.goto X159.here hx rfl (pc0 := 212) (pc' := 216) rfl (hb hby at_212) (by decide) (by decide) k) ?_
                show own_Go p e below (T159.setTop (mkF m 216 #[.val (.int p1), .val (.int p2), .val (.int p3), .val (.int p4), .val (.int p5), .val (.int tk), .val (.int tl), .val (.int qk), .val (.int ql), .val (.int (0 : Int32)), .val (.int (0 : Int32)), .val (.int p4), .val (.ref b135), .val (.ref x149), .val (.int (own_isr (own_kind tk z0 z1 z2 z3 z4 z5) (own_kind qk z0 z1 z2 z3 z4 z5) (own_text tl p2) (own_text ql p4))), .val (.int (16777215 : Int32)), .val (.int (0 : Int32))] [(.int (1 : Int32))])) _
                refine own_finW (v := (some (.int (nar .boolean (1 : Int32))))) X159 hh hZ149 hS149 (by rw [e159]; exact (Nat.le_refl _)) (fun h => by rw [hrt] at h; cases h) hlk (fun fs hr => retN X159 hx (t := .boolean) hrt (by simp) (hb hby at_216) hr) (QQ := QQ0 n0) ?_ own_hEL e159 (C150) (by decide) (by decide)
                rw [e159]
                exact ⟨rfl, N159⟩
            · skip
              refine own_go (fun _ k => XS.icmpYes X159.here hx rfl (pc0 := 172) (pc' := 201) rfl (hb hby at_172) rfl (feq hc171).2 (by decide) (by decide) k) ?_
              show own_Go p e below (T159.setTop (mkF m 201 #[.val (.int p1), .val (.int p2), .val (.int p3), .val (.int p4), .val (.int p5), .val (.int tk), .val (.int tl), .val (.int qk), .val (.int ql), .val (.int (0 : Int32)), .val (.int (0 : Int32)), .val (.int p4), .val (.ref b135), .val (.ref x149), .val (.int (own_isr (own_kind tk z0 z1 z2 z3 z4 z5) (own_kind qk z0 z1 z2 z3 z4 z5) (own_text tl p2) (own_text ql p4))), .val (.int (16777215 : Int32)), .unset] [])) _
              refine own_go (fun _ k => XS.iconst X159.here hx rfl (hb hby at_201) k) ?_
              show own_Go p e below (T159.setTop (mkF m 202 #[.val (.int p1), .val (.int p2), .val (.int p3), .val (.int p4), .val (.int p5), .val (.int tk), .val (.int tl), .val (.int qk), .val (.int ql), .val (.int (0 : Int32)), .val (.int (0 : Int32)), .val (.int p4), .val (.ref b135), .val (.ref x149), .val (.int (own_isr (own_kind tk z0 z1 z2 z3 z4 z5) (own_kind qk z0 z1 z2 z3 z4 z5) (own_text tl p2) (own_text ql p4))), .val (.int (16777215 : Int32)), .unset] [(.int (0 : Int32))])) _
              refine own_go (fun _ k => XS.istore X159.here hx rfl (hb hby at_202) rfl (l' := #[.val (.int p1), .val (.int p2), .val (.int p3), .val (.int p4), .val (.int p5), .val (.int tk), .val (.int tl), .val (.int qk), .val (.int ql), .val (.int (0 : Int32)), .val (.int (0 : Int32)), .val (.int p4), .val (.ref b135), .val (.ref x149), .val (.int (own_isr (own_kind tk z0 z1 z2 z3 z4 z5) (own_kind qk z0 z1 z2 z3 z4 z5) (own_text tl p2) (own_text ql p4))), .val (.int (16777215 : Int32)), .val (.int (0 : Int32))]) rfl k) ?_
              show own_Go p e below (T159.setTop (mkF m 204 #[.val (.int p1), .val (.int p2), .val (.int p3), .val (.int p4), .val (.int p5), .val (.int tk), .val (.int tl), .val (.int qk), .val (.int ql), .val (.int (0 : Int32)), .val (.int (0 : Int32)), .val (.int p4), .val (.ref b135), .val (.ref x149), .val (.int (own_isr (own_kind tk z0 z1 z2 z3 z4 z5) (own_kind qk z0 z1 z2 z3 z4 z5) (own_text tl p2) (own_text ql p4))), .val (.int (16777215 : Int32)), .val (.int (0 : Int32))] [])) _
              refine own_go (fun _ k => XS.iload X159.here hx rfl (hb hby at_204) rfl k) ?_
              show own_Go p e below (T159.setTop (mkF m 206 #[.val (.int p1), .val (.int p2), .val (.int p3), .val (.int p4), .val (.int p5), .val (.int tk), .val (.int tl), .val (.int qk), .val (.int ql), .val (.int (0 : Int32)), .val (.int (0 : Int32)), .val (.int p4), .val (.ref b135), .val (.ref x149), .val (.int (own_isr (own_kind tk z0 z1 z2 z3 z4 z5) (own_kind qk z0 z1 z2 z3 z4 z5) (own_text tl p2) (own_text ql p4))), .val (.int (16777215 : Int32)), .val (.int (0 : Int32))] [(.int (own_isr (own_kind tk z0 z1 z2 z3 z4 z5) (own_kind qk z0 z1 z2 z3 z4 z5) (own_text tl p2) (own_text ql p4)))])) _
              refine own_go (fun _ k => XS.iload X159.here hx rfl (hb hby at_206) rfl k) ?_
              show own_Go p e below (T159.setTop (mkF m 208 #[.val (.int p1), .val (.int p2), .val (.int p3), .val (.int p4), .val (.int p5), .val (.int tk), .val (.int tl), .val (.int qk), .val (.int ql), .val (.int (0 : Int32)), .val (.int (0 : Int32)), .val (.int p4), .val (.ref b135), .val (.ref x149), .val (.int (own_isr (own_kind tk z0 z1 z2 z3 z4 z5) (own_kind qk z0 z1 z2 z3 z4 z5) (own_text tl p2) (own_text ql p4))), .val (.int (16777215 : Int32)), .val (.int (0 : Int32))] [(.int (0 : Int32)), (.int (own_isr (own_kind tk z0 z1 z2 z3 z4 z5) (own_kind qk z0 z1 z2 z3 z4 z5) (own_text tl p2) (own_text ql p4)))])) _
              refine own_go (fun _ k => XS.icmpNo X159.here hx rfl (hb hby at_208) rfl (teq (own_isr_n1 (own_kind_ne hz (h_tk ▸ own_i6 p1) (h_qk ▸ own_i7 p3) (fun q => hc171 q.symm)))).2 k) ?_
              show own_Go p e below (T159.setTop (mkF m 211 #[.val (.int p1), .val (.int p2), .val (.int p3), .val (.int p4), .val (.int p5), .val (.int tk), .val (.int tl), .val (.int qk), .val (.int ql), .val (.int (0 : Int32)), .val (.int (0 : Int32)), .val (.int p4), .val (.ref b135), .val (.ref x149), .val (.int (own_isr (own_kind tk z0 z1 z2 z3 z4 z5) (own_kind qk z0 z1 z2 z3 z4 z5) (own_text tl p2) (own_text ql p4))), .val (.int (16777215 : Int32)), .val (.int (0 : Int32))] [])) _
              refine own_go (fun _ k => XS.iconst X159.here hx rfl (hb hby at_211) k) ?_
              show own_Go p e below (T159.setTop (mkF m 212 #[.val (.int p1), .val (.int p2), .val (.int p3), .val (.int p4), .val (.int p5), .val (.int tk), .val (.int tl), .val (.int qk), .val (.int ql), .val (.int (0 : Int32)), .val (.int (0 : Int32)), .val (.int p4), .val (.ref b135), .val (.ref x149), .val (.int (own_isr (own_kind tk z0 z1 z2 z3 z4 z5) (own_kind qk z0 z1 z2 z3 z4 z5) (own_text tl p2) (own_text ql p4))), .val (.int (16777215 : Int32)), .val (.int (0 : Int32))] [(.int (1 : Int32))])) _
              refine own_go (fun _ k => XS.goto X159.here hx rfl (pc0 := 212) (pc' := 216) rfl (hb hby at_212) (by decide) (by decide) k) ?_
              show own_Go p e below (T159.setTop (mkF m 216 #[.val (.int p1), .val (.int p2), .val (.int p3), .val (.int p4), .val (.int p5), .val (.int tk), .val (.int tl), .val (.int qk), .val (.int ql), .val (.int (0 : Int32)), .val (.int (0 : Int32)), .val (.int p4), .val (.ref b135), .val (.ref x149), .val (.int (own_isr (own_kind tk z0 z1 z2 z3 z4 z5) (own_kind qk z0 z1 z2 z3 z4 z5) (own_text tl p2) (own_text ql p4))), .val (.int (16777215 : Int32)), .val (.int (0 : Int32))] [(.int (1 : Int32))])) _
              refine own_finW (v := (some (.int (nar .boolean (1 : Int32))))) X159 hh hZ149 hS149 (by rw [e159]; exact (Nat.le_refl _)) (fun h => by rw [hrt] at h; cases h) hlk (fun fs hr => retN X159 hx (t := .boolean) hrt (by simp) (hb hby at_216) hr) (QQ := QQ0 n0) ?_ own_hEL e159 (C150) (by decide) (by decide)
              rw [e159]
              exact ⟨rfl, N159⟩
    · skip
      refine own_go (fun _ k => XS.ifNo X0.here hx rfl (hb hby at_56) rfl ((if0 _ _).trans (feq hc134).1) k) ?_
      show own_Go p e below (s₁.setTop (mkF m 59 #[.val (.int p1), .val (.int p2), .val (.int p3), .val (.int p4), .val (.int p5), .val (.int tk), .val (.int tl), .val (.int qk), .val (.int ql), .val (.int (0 : Int32)), .unset, .unset, .unset, .unset, .unset, .unset, .unset] [])) _
      refine own_go (fun _ k => XS.iconst X0.here hx rfl (hb hby at_59) k) ?_
      show own_Go p e below (s₁.setTop (mkF m 60 #[.val (.int p1), .val (.int p2), .val (.int p3), .val (.int p4), .val (.int p5), .val (.int tk), .val (.int tl), .val (.int qk), .val (.int ql), .val (.int (0 : Int32)), .unset, .unset, .unset, .unset, .unset, .unset, .unset] [(.int (1 : Int32))])) _
      refine own_go (fun _ k => XS.goto X0.here hx rfl (pc0 := 60) (pc' := 64) rfl (hb hby at_60) (by decide) (by decide) k) ?_
      show own_Go p e below (s₁.setTop (mkF m 64 #[.val (.int p1), .val (.int p2), .val (.int p3), .val (.int p4), .val (.int p5), .val (.int tk), .val (.int tl), .val (.int qk), .val (.int ql), .val (.int (0 : Int32)), .unset, .unset, .unset, .unset, .unset, .unset, .unset] [(.int (1 : Int32))])) _
      refine own_go (fun _ k => XS.istore X0.here hx rfl (hb hby at_64) rfl (l' := #[.val (.int p1), .val (.int p2), .val (.int p3), .val (.int p4), .val (.int p5), .val (.int tk), .val (.int tl), .val (.int qk), .val (.int ql), .val (.int (0 : Int32)), .val (.int (1 : Int32)), .unset, .unset, .unset, .unset, .unset, .unset]) rfl k) ?_
      show own_Go p e below (s₁.setTop (mkF m 66 #[.val (.int p1), .val (.int p2), .val (.int p3), .val (.int p4), .val (.int p5), .val (.int tk), .val (.int tl), .val (.int qk), .val (.int ql), .val (.int (0 : Int32)), .val (.int (1 : Int32)), .unset, .unset, .unset, .unset, .unset, .unset] [])) _
      refine own_go (fun _ k => XS.iload X0.here hx rfl (hb hby at_66) rfl k) ?_
      show own_Go p e below (s₁.setTop (mkF m 68 #[.val (.int p1), .val (.int p2), .val (.int p3), .val (.int p4), .val (.int p5), .val (.int tk), .val (.int tl), .val (.int qk), .val (.int ql), .val (.int (0 : Int32)), .val (.int (1 : Int32)), .unset, .unset, .unset, .unset, .unset, .unset] [(.int (1 : Int32))])) _
      refine own_go (fun _ k => XS.ifNo X0.here hx rfl (hb hby at_68) rfl ((if0 _ _).trans (feq (by decide : ¬ ((1 : Int32) = (0 : Int32)))).1) k) ?_
      show own_Go p e below (s₁.setTop (mkF m 71 #[.val (.int p1), .val (.int p2), .val (.int p3), .val (.int p4), .val (.int p5), .val (.int tk), .val (.int tl), .val (.int qk), .val (.int ql), .val (.int (0 : Int32)), .val (.int (1 : Int32)), .unset, .unset, .unset, .unset, .unset, .unset] [])) _
      refine own_go (fun _ k => XS.iloadN X0.here hx rfl (hb hby at_71) rfl k) ?_
      show own_Go p e below (s₁.setTop (mkF m 72 #[.val (.int p1), .val (.int p2), .val (.int p3), .val (.int p4), .val (.int p5), .val (.int tk), .val (.int tl), .val (.int qk), .val (.int ql), .val (.int (0 : Int32)), .val (.int (1 : Int32)), .unset, .unset, .unset, .unset, .unset, .unset] [(.int p2)])) _
      refine own_go (fun _ k => XS.goto X0.here hx rfl (pc0 := 72) (pc' := 76) rfl (hb hby at_72) (by decide) (by decide) k) ?_
      show own_Go p e below (s₁.setTop (mkF m 76 #[.val (.int p1), .val (.int p2), .val (.int p3), .val (.int p4), .val (.int p5), .val (.int tk), .val (.int tl), .val (.int qk), .val (.int ql), .val (.int (0 : Int32)), .val (.int (1 : Int32)), .unset, .unset, .unset, .unset, .unset, .unset] [(.int p2)])) _
      refine own_go (fun _ k => XS.istore X0.here hx rfl (hb hby at_76) rfl (l' := #[.val (.int p1), .val (.int p2), .val (.int p3), .val (.int p4), .val (.int p5), .val (.int tk), .val (.int tl), .val (.int qk), .val (.int ql), .val (.int (0 : Int32)), .val (.int (1 : Int32)), .val (.int p2), .unset, .unset, .unset, .unset, .unset]) rfl k) ?_
      show own_Go p e below (s₁.setTop (mkF m 78 #[.val (.int p1), .val (.int p2), .val (.int p3), .val (.int p4), .val (.int p5), .val (.int tk), .val (.int tl), .val (.int qk), .val (.int ql), .val (.int (0 : Int32)), .val (.int (1 : Int32)), .val (.int p2), .unset, .unset, .unset, .unset, .unset] [])) _
      obtain ⟨T174, h174, X174, e174, E174, A174, D174, U174, st174⟩ := newO X0 hx hZ hown (hw _ (List.mem_of_getElem? (i := 1) rfl)) (hw _ (List.mem_of_getElem? (i := 2) rfl)) (hw _ (List.mem_of_getElem? (i := 3) rfl)) e0 (g := (mkF m 78 #[.val (.int p1), .val (.int p2), .val (.int p3), .val (.int p4), .val (.int p5), .val (.int tk), .val (.int tl), .val (.int qk), .val (.int ql), .val (.int (0 : Int32)), .val (.int (1 : Int32)), .val (.int p2), .unset, .unset, .unset, .unset, .unset] [])) rfl (hb hby at_78) (by decide) (by decide)
      obtain ⟨b174, g174⟩ : ∃ z, z = h0.size := ⟨_, rfl⟩
      rw [← g174] at A174 D174 U174 st174
      refine own_go st174 ?_
      have C175 := C0.trans (CHr.ext E174 C0.1)
      have F174_kind : Fld Z h174 b174 "com/example/sequela/sequela/Lexer$Token" "kind" "Lcom/example/sequela/sequela/Lexer$Kind;" .null := D174 (Or.inr (hw _ (List.mem_of_getElem? (i := 46) rfl))) (ty := (.object "com/example/sequela/sequela/Lexer$Kind")) (by decide)
      have F174_text : Fld Z h174 b174 "com/example/sequela/sequela/Lexer$Token" "text" "Ljava/lang/String;" .null := D174 (Or.inr (hw _ (List.mem_of_getElem? (i := 48) rfl))) (ty := (.object "java/lang/String")) (by decide)
      have F174_index : Fld Z h174 b174 "com/example/sequela/sequela/Lexer$Token" "index" "I" (.int (0 : Int32)) := D174 (Or.inr (hw _ (List.mem_of_getElem? (i := 50) rfl))) (ty := .int) (by decide)
      show own_Go p e below (T174.setTop (mkF m 81 #[.val (.int p1), .val (.int p2), .val (.int p3), .val (.int p4), .val (.int p5), .val (.int tk), .val (.int tl), .val (.int qk), .val (.int ql), .val (.int (0 : Int32)), .val (.int (1 : Int32)), .val (.int p2), .unset, .unset, .unset, .unset, .unset] [(.ref b174)])) _
      refine own_go (fun _ k => XS.dup X174.here hx rfl (hb hby at_81) rfl rfl k) ?_
      show own_Go p e below (T174.setTop (mkF m 82 #[.val (.int p1), .val (.int p2), .val (.int p3), .val (.int p4), .val (.int p5), .val (.int tk), .val (.int tl), .val (.int qk), .val (.int ql), .val (.int (0 : Int32)), .val (.int (1 : Int32)), .val (.int p2), .unset, .unset, .unset, .unset, .unset] [(.ref b174), (.ref b174)])) _
      refine own_go (fun _ k => XS.iload X174.here hx rfl (hb hby at_82) rfl k) ?_
      show own_Go p e below (T174.setTop (mkF m 84 #[.val (.int p1), .val (.int p2), .val (.int p3), .val (.int p4), .val (.int p5), .val (.int tk), .val (.int tl), .val (.int qk), .val (.int ql), .val (.int (0 : Int32)), .val (.int (1 : Int32)), .val (.int p2), .unset, .unset, .unset, .unset, .unset] [(.int tk), (.ref b174), (.ref b174)])) _
      obtain ⟨v176, _, ⟨T176, L176, k176, n176⟩, -, X176, ⟨Lc176, hQ176, l176, y176, z176⟩, st176⟩ := Jvm.LawKit.callS X174 hx (y := (⟨"com/example/sequela/sequela/TokenIsPinLaw", "kind", "(I)Lcom/example/sequela/sequela/Lexer$Kind;"⟩ : MethodName)) hown (mvT hZ (hw _ (List.mem_of_getElem? (i := 4) rfl))) (mvT hZ (hw _ (List.mem_of_getElem? (i := 5) rfl))) (mvT hZ (hw _ (List.mem_of_getElem? (i := 6) rfl))) (mvT hZ (hw _ (List.mem_of_getElem? (i := 7) rfl))) (by decide) (backOf (W := 2) (rm_kind l Z a0 hw [] tk z0 z1 z2 z3 z4 z5 h174 n0 (O0.ext E174) S0 S1 S2 S3 S4 S5) hZ (hw _ (List.mem_of_getElem? (i := 7) rfl)) (hw _ (List.mem_of_getElem? (i := 6) rfl)) (by decide) (by decide)) (g := (mkF m 84 #[.val (.int p1), .val (.int p2), .val (.int p3), .val (.int p4), .val (.int p5), .val (.int tk), .val (.int tl), .val (.int qk), .val (.int ql), .val (.int (0 : Int32)), .val (.int (1 : Int32)), .val (.int p2), .unset, .unset, .unset, .unset, .unset] [(.int tk), (.ref b174), (.ref b174)])) rfl (by rw [hml]; rfl) (argsL := [(.int tk)]) (rest := [(.ref b174), (.ref b174)]) (lenOf pd_4 rfl) rfl (by show 2 * 0 + _ ≤ _; exact Nat.le_of_eq rfl) (hb hby at_84) (fun _ _ => ⟨rfl, e174, (by decide : 1 + 0 ≤ _), (by decide : 3 + 0 ≤ _)⟩)
      dsimp only [Pt.U, Pt.locs, Pt.cells, Pt.slots] at X176 l176 y176 z176 st176 hQ176
      subst l176 y176 z176
      refine own_go st176 ?_
      obtain ⟨rfl, Nq176, e176⟩ := hQ176
      have N176 := Fr.app N0 Nq176
      show own_Go p e below (T176.setTop (mkF m 87 #[.val (.int p1), .val (.int p2), .val (.int p3), .val (.int p4), .val (.int p5), .val (.int tk), .val (.int tl), .val (.int qk), .val (.int ql), .val (.int (0 : Int32)), .val (.int (1 : Int32)), .val (.int p2), .unset, .unset, .unset, .unset, .unset] [(own_kind tk z0 z1 z2 z3 z4 z5), (.ref b174), (.ref b174)])) _
      refine own_go (fun _ k => XS.iload X176.here hx rfl (hb hby at_87) rfl k) ?_
      show own_Go p e below (T176.setTop (mkF m 89 #[.val (.int p1), .val (.int p2), .val (.int p3), .val (.int p4), .val (.int p5), .val (.int tk), .val (.int tl), .val (.int qk), .val (.int ql), .val (.int (0 : Int32)), .val (.int (1 : Int32)), .val (.int p2), .unset, .unset, .unset, .unset, .unset] [(.int tl), (own_kind tk z0 z1 z2 z3 z4 z5), (.ref b174), (.ref b174)])) _
      refine own_go (fun _ k => XS.iloadN X176.here hx rfl (hb hby at_89) rfl k) ?_
      show own_Go p e below (T176.setTop (mkF m 90 #[.val (.int p1), .val (.int p2), .val (.int p3), .val (.int p4), .val (.int p5), .val (.int tk), .val (.int tl), .val (.int qk), .val (.int ql), .val (.int (0 : Int32)), .val (.int (1 : Int32)), .val (.int p2), .unset, .unset, .unset, .unset, .unset] [(.int p2), (.int tl), (own_kind tk z0 z1 z2 z3 z4 z5), (.ref b174), (.ref b174)])) _
      obtain ⟨v177, _, ⟨T177, L177, k177, n177⟩, -, X177, hS177, hg177, ⟨Lc177, hQ177, l177, y177, z177, A177⟩, st177⟩ := callSS X176 hx (y := (⟨"com/example/sequela/sequela/TokenIsPinLaw", "text", "(II)Ljava/lang/String;"⟩ : MethodName)) hown (mvT hZ (hw _ (List.mem_of_getElem? (i := 11) rfl))) (mvT hZ (hw _ (List.mem_of_getElem? (i := 12) rfl))) (mvT hZ (hw _ (List.mem_of_getElem? (i := 6) rfl))) (mvT hZ (hw _ (List.mem_of_getElem? (i := 13) rfl))) (by decide) (backOfSH (W := 3) (rm_text l Z a0 hw [] tl p2 G1 h174 n0 (O0.ext E174) O2 P5) hZ (hw _ (List.mem_of_getElem? (i := 13) rfl)) (hw _ (List.mem_of_getElem? (i := 6) rfl)) (by decide) (by decide) own_hEL C175.1) (g := (mkF m 90 #[.val (.int p1), .val (.int p2), .val (.int p3), .val (.int p4), .val (.int p5), .val (.int tk), .val (.int tl), .val (.int qk), .val (.int ql), .val (.int (0 : Int32)), .val (.int (1 : Int32)), .val (.int p2), .unset, .unset, .unset, .unset, .unset] [(.int p2), (.int tl), (own_kind tk z0 z1 z2 z3 z4 z5), (.ref b174), (.ref b174)])) rfl (by rw [hml]; rfl) (argsL := [(.int tl), (.int p2)]) (rest := [(own_kind tk z0 z1 z2 z3 z4 z5), (.ref b174), (.ref b174)]) (lenOf pd_5 rfl) rfl (by show 2 * 0 + _ ≤ _; simp only [List.map, own_catR (own_kindR _ _ _ _ _ _ _)]; exact Nat.le_of_eq rfl) (hb hby at_90) (fun _ _ => ⟨rfl, e176, (by decide : 1 + 6 ≤ _), (by decide : 3 + 12 ≤ _)⟩)
      dsimp only [Pt.U, Pt.locs, Pt.cells, Pt.slots] at X177 l177 y177 z177 st177 hQ177 hS177 hg177 A177
      subst l177 y177 z177
      refine own_gos st177 ?_
      obtain ⟨X177, hS177, hZ177, hown177⟩ := rebS hS0 (k0 := _) (n1 := T176.heap.size) (by rw [e176]; exact (Nat.zero_le _)) X177 hS177 hg177 hZ hown
      obtain ⟨x177, t177, kt177, N2177, vs177, rfl, Nq177, K177, xg177, Ex177, Fv177, Fc177, Vt177, hC177⟩ := hQ177
      have C178 := C175.trans A177
      have N177 := Fr.app N176 Nq177
      have ne179 := Exa.neArv (A174.keep K177) Vt177 (hw _ (List.mem_of_getElem? (i := 2) rfl))
      show own_Go p e below (T177.setTop (mkF m 93 #[.val (.int p1), .val (.int p2), .val (.int p3), .val (.int p4), .val (.int p5), .val (.int tk), .val (.int tl), .val (.int qk), .val (.int ql), .val (.int (0 : Int32)), .val (.int (1 : Int32)), .val (.int p2), .unset, .unset, .unset, .unset, .unset] [(.ref x177), (own_kind tk z0 z1 z2 z3 z4 z5), (.ref b174), (.ref b174)])) _
      refine own_go (fun _ k => XS.iload X177.here hx rfl (hb hby at_93) rfl k) ?_
      show own_Go p e below (T177.setTop (mkF m 95 #[.val (.int p1), .val (.int p2), .val (.int p3), .val (.int p4), .val (.int p5), .val (.int tk), .val (.int tl), .val (.int qk), .val (.int ql), .val (.int (0 : Int32)), .val (.int (1 : Int32)), .val (.int p2), .unset, .unset, .unset, .unset, .unset] [(.int p5), (.ref x177), (own_kind tk z0 z1 z2 z3 z4 z5), (.ref b174), (.ref b174)])) _
      have f180 := (F174_kind.keep K177 nin0)
      have f181 := (F174_text.keep K177 nin0)
      have f182 := (F174_index.keep K177 nin0)
      have f183 := ((O0.ext E174).keep K177 all0)
      obtain ⟨v184, _, ⟨T184, L184, k184, n184⟩, -, X184, ⟨Lc184, hQ184, l184, y184, z184⟩, st184⟩ := X177.specialBack hx (y := (⟨"com/example/sequela/sequela/Lexer$Token", "<init>", "(Lcom/example/sequela/sequela/Lexer$Kind;Ljava/lang/String;I)V"⟩ : MethodName)) rfl hown177 (mvT hZ177 (hw _ (List.mem_of_getElem? (i := 36) rfl))) (mvT hZ177 (hw _ (List.mem_of_getElem? (i := 37) rfl))) (mvT hZ177 (hw _ (List.mem_of_getElem? (i := 38) rfl))) (by decide) (backOf (W := 1) (rm_tok l Z a0 hw [] b174 (own_kind tk z0 z1 z2 z3 z4 z5) x177 p5 T177.heap n0 f183 (own_kindR _ _ _ _ _ _ _) (A174.keep K177) f180 f181 f182 (Nat.le_trans Z0 (Nat.le_of_eq g174.symm))) hZ177 (hw _ (List.mem_of_getElem? (i := 38) rfl)) (hw _ (List.mem_of_getElem? (i := 3) rfl)) (by decide) (by decide)) (g := (mkF m 95 #[.val (.int p1), .val (.int p2), .val (.int p3), .val (.int p4), .val (.int p5), .val (.int tk), .val (.int tl), .val (.int qk), .val (.int ql), .val (.int (0 : Int32)), .val (.int (1 : Int32)), .val (.int p2), .unset, .unset, .unset, .unset, .unset] [(.int p5), (.ref x177), (own_kind tk z0 z1 z2 z3 z4 z5), (.ref b174), (.ref b174)])) rfl (by rw [hml]; rfl) (Steps.refl _) (a := b174) (argsL := [(own_kind tk z0 z1 z2 z3 z4 z5), (.ref x177), (.int p5)]) (rest := [(.ref b174)]) (lenOf pd_6 rfl) rfl (by show 2 * 0 + _ ≤ _; exact Nat.le_of_eq rfl) (hb hby at_95) (fun _ _ => ⟨rfl, (rfl : T177.heap = T177.heap), (by decide : 7 + 0 ≤ _), (by decide : 15 + 0 ≤ _)⟩)
      dsimp only [Pt.U, Pt.locs, Pt.cells, Pt.slots] at X184 l184 y184 z184 st184 hQ184
      subst l184 y184 z184
      refine own_gos st184 ?_
      obtain ⟨rfl, Nq184, K184, Fk184, Ft184⟩ := hQ184
      have f185 := (A177.safe A174.lt (Safe.ext E174 C0.1 (Safe.new (Nat.le_of_eq g174.symm))))
      have C186 := C178.trans (CHr.keep K184 (sfS f185 sf0) C178.1)
      have N184 := Fr.app N177 Nq184
      show own_Go p e below (T184.setTop (mkF m 98 #[.val (.int p1), .val (.int p2), .val (.int p3), .val (.int p4), .val (.int p5), .val (.int tk), .val (.int tl), .val (.int qk), .val (.int ql), .val (.int (0 : Int32)), .val (.int (1 : Int32)), .val (.int p2), .unset, .unset, .unset, .unset, .unset] [(.ref b174)])) _
      refine own_go (fun _ k => XS.astore X184.here hx rfl (hb hby at_98) rfl rfl (l' := #[.val (.int p1), .val (.int p2), .val (.int p3), .val (.int p4), .val (.int p5), .val (.int tk), .val (.int tl), .val (.int qk), .val (.int ql), .val (.int (0 : Int32)), .val (.int (1 : Int32)), .val (.int p2), .val (.ref b174), .unset, .unset, .unset, .unset]) rfl k) ?_
      show own_Go p e below (T184.setTop (mkF m 100 #[.val (.int p1), .val (.int p2), .val (.int p3), .val (.int p4), .val (.int p5), .val (.int tk), .val (.int tl), .val (.int qk), .val (.int ql), .val (.int (0 : Int32)), .val (.int (1 : Int32)), .val (.int p2), .val (.ref b174), .unset, .unset, .unset, .unset] [])) _
      refine own_go (fun _ k => XS.iload X184.here hx rfl (hb hby at_100) rfl k) ?_
      show own_Go p e below (T184.setTop (mkF m 102 #[.val (.int p1), .val (.int p2), .val (.int p3), .val (.int p4), .val (.int p5), .val (.int tk), .val (.int tl), .val (.int qk), .val (.int ql), .val (.int (0 : Int32)), .val (.int (1 : Int32)), .val (.int p2), .val (.ref b174), .unset, .unset, .unset, .unset] [(.int (0 : Int32))])) _
      refine own_go (fun _ k => XS.ifYes X184.here hx rfl (pc0 := 102) (pc' := 109) rfl (hb hby at_102) rfl ((if0 _ _).trans (teq (by decide : (0 : Int32) = (0 : Int32))).1) (by decide) (by decide) k) ?_
      show own_Go p e below (T184.setTop (mkF m 109 #[.val (.int p1), .val (.int p2), .val (.int p3), .val (.int p4), .val (.int p5), .val (.int tk), .val (.int tl), .val (.int qk), .val (.int ql), .val (.int (0 : Int32)), .val (.int (1 : Int32)), .val (.int p2), .val (.ref b174), .unset, .unset, .unset, .unset] [])) _
      refine own_go (fun _ k => XS.iload X184.here hx rfl (hb hby at_109) rfl k) ?_
      show own_Go p e below (T184.setTop (mkF m 111 #[.val (.int p1), .val (.int p2), .val (.int p3), .val (.int p4), .val (.int p5), .val (.int tk), .val (.int tl), .val (.int qk), .val (.int ql), .val (.int (0 : Int32)), .val (.int (1 : Int32)), .val (.int p2), .val (.ref b174), .unset, .unset, .unset, .unset] [(.int ql)])) _
      refine own_go (fun _ k => XS.iload X184.here hx rfl (hb hby at_111) rfl k) ?_
      show own_Go p e below (T184.setTop (mkF m 113 #[.val (.int p1), .val (.int p2), .val (.int p3), .val (.int p4), .val (.int p5), .val (.int tk), .val (.int tl), .val (.int qk), .val (.int ql), .val (.int (0 : Int32)), .val (.int (1 : Int32)), .val (.int p2), .val (.ref b174), .unset, .unset, .unset, .unset] [(.int p2), (.int ql)])) _
      have f187 := (f183.keep K184 (allS (Nat.le_trans Z0 (Nat.le_of_eq g174.symm)) all0))
      obtain ⟨v188, _, ⟨T188, L188, k188, n188⟩, -, X188, hS188, hg188, ⟨Lc188, hQ188, l188, y188, z188, A188⟩, st188⟩ := callSS X184 hx (y := (⟨"com/example/sequela/sequela/TokenIsPinLaw", "text", "(II)Ljava/lang/String;"⟩ : MethodName)) hown177 (mvT hZ177 (hw _ (List.mem_of_getElem? (i := 11) rfl))) (mvT hZ177 (hw _ (List.mem_of_getElem? (i := 12) rfl))) (mvT hZ177 (hw _ (List.mem_of_getElem? (i := 6) rfl))) (mvT hZ177 (hw _ (List.mem_of_getElem? (i := 13) rfl))) (by decide) (backOfSH (W := 0) (rm_text l Z a0 hw [] ql p2 G1 T184.heap n0 f187 O2 P5) hZ177 (hw _ (List.mem_of_getElem? (i := 13) rfl)) (hw _ (List.mem_of_getElem? (i := 6) rfl)) (by decide) (by decide) own_hEL C186.1) (g := (mkF m 113 #[.val (.int p1), .val (.int p2), .val (.int p3), .val (.int p4), .val (.int p5), .val (.int tk), .val (.int tl), .val (.int qk), .val (.int ql), .val (.int (0 : Int32)), .val (.int (1 : Int32)), .val (.int p2), .val (.ref b174), .unset, .unset, .unset, .unset] [(.int p2), (.int ql)])) rfl (by rw [hml]; rfl) (argsL := [(.int ql), (.int p2)]) (rest := []) (lenOf pd_5 rfl) rfl (by show 2 * 0 + _ ≤ _; exact Nat.le_of_eq rfl) (hb hby at_113) (fun _ _ => ⟨rfl, (rfl : T184.heap = T184.heap), (by decide : 7 + 6 ≤ _), (by decide : 15 + 12 ≤ _)⟩)
      dsimp only [Pt.U, Pt.locs, Pt.cells, Pt.slots] at X188 l188 y188 z188 st188 hQ188 hS188 hg188 A188
      subst l188 y188 z188
      refine own_gos st188 ?_
      obtain ⟨X188, hS188, hZ188, hown188⟩ := rebS hS177 (k0 := _) (n1 := T184.heap.size) (by rw [(rfl : T184.heap = T184.heap)]; exact (Nat.le_trans (Nat.le_refl _) K184.1)) X188 hS188 hg188 hZ177 hown177
      obtain ⟨x188, t188, kt188, N2188, vs188, rfl, Nq188, K188, xg188, Ex188, Fv188, Fc188, Vt188, hC188⟩ := hQ188
      have C189 := C186.trans A188
      have N188 := Fr.app N184 Nq188
      have f191 := (((A174.keep K177).keep K184).keep K188)
      have ne190 := Exa.neArv f191 Vt188 (hw _ (List.mem_of_getElem? (i := 2) rfl))
      show own_Go p e below (T188.setTop (mkF m 116 #[.val (.int p1), .val (.int p2), .val (.int p3), .val (.int p4), .val (.int p5), .val (.int tk), .val (.int tl), .val (.int qk), .val (.int ql), .val (.int (0 : Int32)), .val (.int (1 : Int32)), .val (.int p2), .val (.ref b174), .unset, .unset, .unset, .unset] [(.ref x188)])) _
      refine own_go (fun _ k => XS.astore X188.here hx rfl (hb hby at_116) rfl rfl (l' := #[.val (.int p1), .val (.int p2), .val (.int p3), .val (.int p4), .val (.int p5), .val (.int tk), .val (.int tl), .val (.int qk), .val (.int ql), .val (.int (0 : Int32)), .val (.int (1 : Int32)), .val (.int p2), .val (.ref b174), .val (.ref x188), .unset, .unset, .unset]) rfl k) ?_
      show own_Go p e below (T188.setTop (mkF m 118 #[.val (.int p1), .val (.int p2), .val (.int p3), .val (.int p4), .val (.int p5), .val (.int tk), .val (.int tl), .val (.int qk), .val (.int ql), .val (.int (0 : Int32)), .val (.int (1 : Int32)), .val (.int p2), .val (.ref b174), .val (.ref x188), .unset, .unset, .unset] [])) _
      refine own_go (fun _ k => XS.aload X188.here hx rfl (hb hby at_118) rfl rfl k) ?_
      show own_Go p e below (T188.setTop (mkF m 120 #[.val (.int p1), .val (.int p2), .val (.int p3), .val (.int p4), .val (.int p5), .val (.int tk), .val (.int tl), .val (.int qk), .val (.int ql), .val (.int (0 : Int32)), .val (.int (1 : Int32)), .val (.int p2), .val (.ref b174), .val (.ref x188), .unset, .unset, .unset] [(.ref b174)])) _
      refine own_go (fun _ k => XS.iload X188.here hx rfl (hb hby at_120) rfl k) ?_
      show own_Go p e below (T188.setTop (mkF m 122 #[.val (.int p1), .val (.int p2), .val (.int p3), .val (.int p4), .val (.int p5), .val (.int tk), .val (.int tl), .val (.int qk), .val (.int ql), .val (.int (0 : Int32)), .val (.int (1 : Int32)), .val (.int p2), .val (.ref b174), .val (.ref x188), .unset, .unset, .unset] [(.int qk), (.ref b174)])) _
      obtain ⟨v192, _, ⟨T192, L192, k192, n192⟩, -, X192, ⟨Lc192, hQ192, l192, y192, z192⟩, st192⟩ := Jvm.LawKit.callS X188 hx (y := (⟨"com/example/sequela/sequela/TokenIsPinLaw", "kind", "(I)Lcom/example/sequela/sequela/Lexer$Kind;"⟩ : MethodName)) hown188 (mvT hZ188 (hw _ (List.mem_of_getElem? (i := 4) rfl))) (mvT hZ188 (hw _ (List.mem_of_getElem? (i := 5) rfl))) (mvT hZ188 (hw _ (List.mem_of_getElem? (i := 6) rfl))) (mvT hZ188 (hw _ (List.mem_of_getElem? (i := 7) rfl))) (by decide) (backOf (W := 1) (rm_kind l Z a0 hw [] qk z0 z1 z2 z3 z4 z5 T188.heap n0 (f187.keep K188 all0) S0 S1 S2 S3 S4 S5) hZ188 (hw _ (List.mem_of_getElem? (i := 7) rfl)) (hw _ (List.mem_of_getElem? (i := 6) rfl)) (by decide) (by decide)) (g := (mkF m 122 #[.val (.int p1), .val (.int p2), .val (.int p3), .val (.int p4), .val (.int p5), .val (.int tk), .val (.int tl), .val (.int qk), .val (.int ql), .val (.int (0 : Int32)), .val (.int (1 : Int32)), .val (.int p2), .val (.ref b174), .val (.ref x188), .unset, .unset, .unset] [(.int qk), (.ref b174)])) rfl (by rw [hml]; rfl) (argsL := [(.int qk)]) (rest := [(.ref b174)]) (lenOf pd_4 rfl) rfl (by show 2 * 0 + _ ≤ _; exact Nat.le_of_eq rfl) (hb hby at_122) (fun _ _ => ⟨rfl, (rfl : T188.heap = T188.heap), (by decide : 13 + 0 ≤ _), (by decide : 27 + 0 ≤ _)⟩)
      dsimp only [Pt.U, Pt.locs, Pt.cells, Pt.slots] at X192 l192 y192 z192 st192 hQ192
      subst l192 y192 z192
      refine own_go st192 ?_
      obtain ⟨rfl, Nq192, e192⟩ := hQ192
      have N192 := Fr.app N188 Nq192
      show own_Go p e below (T192.setTop (mkF m 125 #[.val (.int p1), .val (.int p2), .val (.int p3), .val (.int p4), .val (.int p5), .val (.int tk), .val (.int tl), .val (.int qk), .val (.int ql), .val (.int (0 : Int32)), .val (.int (1 : Int32)), .val (.int p2), .val (.ref b174), .val (.ref x188), .unset, .unset, .unset] [(own_kind qk z0 z1 z2 z3 z4 z5), (.ref b174)])) _
      refine own_go (fun _ k => XS.aload X192.here hx rfl (hb hby at_125) rfl rfl k) ?_
      show own_Go p e below (T192.setTop (mkF m 127 #[.val (.int p1), .val (.int p2), .val (.int p3), .val (.int p4), .val (.int p5), .val (.int tk), .val (.int tl), .val (.int qk), .val (.int ql), .val (.int (0 : Int32)), .val (.int (1 : Int32)), .val (.int p2), .val (.ref b174), .val (.ref x188), .unset, .unset, .unset] [(.ref x188), (own_kind qk z0 z1 z2 z3 z4 z5), (.ref b174)])) _
      have f193 := ((Ex177.keep K184).keep K188)
      have ne194 : b174 ≠ x177 := Nat.ne_of_lt (Nat.lt_of_lt_of_le A174.lt xg177)
      have f195 := ((Fv177.keep K184 (ninS (Ne.symm ne194) nin0)).keep K188 nin0)
      have f196 := ((Fc177.keep K184 (ninS (Ne.symm ne194) nin0)).keep K188 nin0)
      have f197 := ((Vt177.keep K184 (ninS (Ne.symm ne179) nin0)).keep K188 nin0)
      obtain ⟨cq198, kq198, q198a, q198b, q198c⟩ := isOf hZ188 e192 f191
      obtain ⟨v198, _, ⟨T198, L198, k198, n198⟩, -, X198, ⟨Lc198, hQ198, l198, y198, z198⟩, st198⟩ := X192.virtualBack hx (y := (⟨"com/example/sequela/sequela/Lexer$Token", "is", "(Lcom/example/sequela/sequela/Lexer$Kind;Ljava/lang/String;)Z"⟩ : MethodName)) (z := (⟨"com/example/sequela/sequela/Lexer$Token", "is", "(Lcom/example/sequela/sequela/Lexer$Kind;Ljava/lang/String;)Z"⟩ : MethodName)) hown188 (mvT hZ188 (hw _ (List.mem_of_getElem? (i := 53) rfl))) (mvT hZ188 (hw _ (List.mem_of_getElem? (i := 54) rfl))) (notFace_of_selects (args := #[]) (mvT hZ188 (hw _ (List.mem_of_getElem? (i := 56) rfl)))) (mvT hZ188 (hw _ (List.mem_of_getElem? (i := 56) rfl))) (mvT hZ188 (hw _ (List.mem_of_getElem? (i := 55) rfl))) (by decide) (backOf (W := 0) (rm_is1 l Z a0 hw [] b174 (own_kind tk z0 z1 z2 z3 z4 z5) (own_kind qk z0 z1 z2 z3 z4 z5) x177 t177 kt177 N2177 vs177 (own_text tl p2) x188 t188 kt188 N2188 vs188 (own_text ql p2) G1 T188.heap n0 (f187.keep K188 all0) (own_kindR _ _ _ _ _ _ _) (own_kindR _ _ _ _ _ _ _) f191 (Fk184.keep K188 nin0) (Ft184.keep K188 nin0) f193 f195 f196 f197 hC177 (own_textB _ _) (own_textL _ _) Ex188 Fv188 Fc188 Vt188 hC188 (own_textB _ _) (own_textL _ _) O2 P5) hZ188 (hw _ (List.mem_of_getElem? (i := 57) rfl)) (hw _ (List.mem_of_getElem? (i := 3) rfl)) (by decide) (by decide)) q198a q198c (g := (mkF m 127 #[.val (.int p1), .val (.int p2), .val (.int p3), .val (.int p4), .val (.int p5), .val (.int tk), .val (.int tl), .val (.int qk), .val (.int ql), .val (.int (0 : Int32)), .val (.int (1 : Int32)), .val (.int p2), .val (.ref b174), .val (.ref x188), .unset, .unset, .unset] [(.ref x188), (own_kind qk z0 z1 z2 z3 z4 z5), (.ref b174)])) rfl (by rw [hml]; rfl) (Steps.refl _) (argsL := [(own_kind qk z0 z1 z2 z3 z4 z5), (.ref x188)]) (rest := []) (lenOf pd_7 rfl) rfl (by show 2 * 0 + _ ≤ _; exact Nat.le_of_eq rfl) (hb hby at_127) (fun _ _ => ⟨rfl, e192, (by decide : 13 + 0 ≤ _), (by decide : 27 + 0 ≤ _)⟩)
      dsimp only [Pt.U, Pt.locs, Pt.cells, Pt.slots] at X198 l198 y198 z198 st198 hQ198
      subst l198 y198 z198
      refine own_gos st198 ?_
      obtain ⟨rfl, Nq198, e198⟩ := hQ198
      have N198 := Fr.app N192 Nq198
      show own_Go p e below (T198.setTop (mkF m 130 #[.val (.int p1), .val (.int p2), .val (.int p3), .val (.int p4), .val (.int p5), .val (.int tk), .val (.int tl), .val (.int qk), .val (.int ql), .val (.int (0 : Int32)), .val (.int (1 : Int32)), .val (.int p2), .val (.ref b174), .val (.ref x188), .unset, .unset, .unset] [(.int (own_isr (own_kind tk z0 z1 z2 z3 z4 z5) (own_kind qk z0 z1 z2 z3 z4 z5) (own_text tl p2) (own_text ql p2)))])) _
      refine own_go (fun _ k => XS.istore X198.here hx rfl (hb hby at_130) rfl (l' := #[.val (.int p1), .val (.int p2), .val (.int p3), .val (.int p4), .val (.int p5), .val (.int tk), .val (.int tl), .val (.int qk), .val (.int ql), .val (.int (0 : Int32)), .val (.int (1 : Int32)), .val (.int p2), .val (.ref b174), .val (.ref x188), .val (.int (own_isr (own_kind tk z0 z1 z2 z3 z4 z5) (own_kind qk z0 z1 z2 z3 z4 z5) (own_text tl p2) (own_text ql p2))), .unset, .unset]) rfl k) ?_
      show own_Go p e below (T198.setTop (mkF m 132 #[.val (.int p1), .val (.int p2), .val (.int p3), .val (.int p4), .val (.int p5), .val (.int tk), .val (.int tl), .val (.int qk), .val (.int ql), .val (.int (0 : Int32)), .val (.int (1 : Int32)), .val (.int p2), .val (.ref b174), .val (.ref x188), .val (.int (own_isr (own_kind tk z0 z1 z2 z3 z4 z5) (own_kind qk z0 z1 z2 z3 z4 z5) (own_text tl p2) (own_text ql p2))), .unset, .unset] [])) _
      refine own_go (fun _ k => XS.iload X198.here hx rfl (hb hby at_132) rfl k) ?_
      show own_Go p e below (T198.setTop (mkF m 134 #[.val (.int p1), .val (.int p2), .val (.int p3), .val (.int p4), .val (.int p5), .val (.int tk), .val (.int tl), .val (.int qk), .val (.int ql), .val (.int (0 : Int32)), .val (.int (1 : Int32)), .val (.int p2), .val (.ref b174), .val (.ref x188), .val (.int (own_isr (own_kind tk z0 z1 z2 z3 z4 z5) (own_kind qk z0 z1 z2 z3 z4 z5) (own_text tl p2) (own_text ql p2))), .unset, .unset] [(.int tl)])) _
      by_cases hc199 : tl = (0 : Int32)
      · skip
        refine own_go (fun _ k => XS.ifNo X198.here hx rfl (hb hby at_134) rfl ((if0 _ _).trans (teq hc199).2) k) ?_
        show own_Go p e below (T198.setTop (mkF m 137 #[.val (.int p1), .val (.int p2), .val (.int p3), .val (.int p4), .val (.int p5), .val (.int tk), .val (.int tl), .val (.int qk), .val (.int ql), .val (.int (0 : Int32)), .val (.int (1 : Int32)), .val (.int p2), .val (.ref b174), .val (.ref x188), .val (.int (own_isr (own_kind tk z0 z1 z2 z3 z4 z5) (own_kind qk z0 z1 z2 z3 z4 z5) (own_text tl p2) (own_text ql p2))), .unset, .unset] [])) _
        refine own_go (fun _ k => XS.iconst X198.here hx rfl (hb hby at_137) k) ?_
        show own_Go p e below (T198.setTop (mkF m 138 #[.val (.int p1), .val (.int p2), .val (.int p3), .val (.int p4), .val (.int p5), .val (.int tk), .val (.int tl), .val (.int qk), .val (.int ql), .val (.int (0 : Int32)), .val (.int (1 : Int32)), .val (.int p2), .val (.ref b174), .val (.ref x188), .val (.int (own_isr (own_kind tk z0 z1 z2 z3 z4 z5) (own_kind qk z0 z1 z2 z3 z4 z5) (own_text tl p2) (own_text ql p2))), .unset, .unset] [(.int (0 : Int32))])) _
        refine own_go (fun _ k => XS.goto X198.here hx rfl (pc0 := 138) (pc' := 166) rfl (hb hby at_138) (by decide) (by decide) k) ?_
        show own_Go p e below (T198.setTop (mkF m 166 #[.val (.int p1), .val (.int p2), .val (.int p3), .val (.int p4), .val (.int p5), .val (.int tk), .val (.int tl), .val (.int qk), .val (.int ql), .val (.int (0 : Int32)), .val (.int (1 : Int32)), .val (.int p2), .val (.ref b174), .val (.ref x188), .val (.int (own_isr (own_kind tk z0 z1 z2 z3 z4 z5) (own_kind qk z0 z1 z2 z3 z4 z5) (own_text tl p2) (own_text ql p2))), .unset, .unset] [(.int (0 : Int32))])) _
        refine own_go (fun _ k => XS.istore X198.here hx rfl (hb hby at_166) rfl (l' := #[.val (.int p1), .val (.int p2), .val (.int p3), .val (.int p4), .val (.int p5), .val (.int tk), .val (.int tl), .val (.int qk), .val (.int ql), .val (.int (0 : Int32)), .val (.int (1 : Int32)), .val (.int p2), .val (.ref b174), .val (.ref x188), .val (.int (own_isr (own_kind tk z0 z1 z2 z3 z4 z5) (own_kind qk z0 z1 z2 z3 z4 z5) (own_text tl p2) (own_text ql p2))), .val (.int (0 : Int32)), .unset]) rfl k) ?_
        show own_Go p e below (T198.setTop (mkF m 168 #[.val (.int p1), .val (.int p2), .val (.int p3), .val (.int p4), .val (.int p5), .val (.int tk), .val (.int tl), .val (.int qk), .val (.int ql), .val (.int (0 : Int32)), .val (.int (1 : Int32)), .val (.int p2), .val (.ref b174), .val (.ref x188), .val (.int (own_isr (own_kind tk z0 z1 z2 z3 z4 z5) (own_kind qk z0 z1 z2 z3 z4 z5) (own_text tl p2) (own_text ql p2))), .val (.int (0 : Int32)), .unset] [])) _
        refine own_go (fun _ k => XS.iload X198.here hx rfl (hb hby at_168) rfl k) ?_
        show own_Go p e below (T198.setTop (mkF m 170 #[.val (.int p1), .val (.int p2), .val (.int p3), .val (.int p4), .val (.int p5), .val (.int tk), .val (.int tl), .val (.int qk), .val (.int ql), .val (.int (0 : Int32)), .val (.int (1 : Int32)), .val (.int p2), .val (.ref b174), .val (.ref x188), .val (.int (own_isr (own_kind tk z0 z1 z2 z3 z4 z5) (own_kind qk z0 z1 z2 z3 z4 z5) (own_text tl p2) (own_text ql p2))), .val (.int (0 : Int32)), .unset] [(.int qk)])) _
        refine own_go (fun _ k => XS.iload X198.here hx rfl (hb hby at_170) rfl k) ?_
        show own_Go p e below (T198.setTop (mkF m 172 #[.val (.int p1), .val (.int p2), .val (.int p3), .val (.int p4), .val (.int p5), .val (.int tk), .val (.int tl), .val (.int qk), .val (.int ql), .val (.int (0 : Int32)), .val (.int (1 : Int32)), .val (.int p2), .val (.ref b174), .val (.ref x188), .val (.int (own_isr (own_kind tk z0 z1 z2 z3 z4 z5) (own_kind qk z0 z1 z2 z3 z4 z5) (own_text tl p2) (own_text ql p2))), .val (.int (0 : Int32)), .unset] [(.int tk), (.int qk)])) _
        by_cases hc200 : qk = tk
        · skip
          refine own_go (fun _ k => XS.icmpNo X198.here hx rfl (hb hby at_172) rfl (teq hc200).2 k) ?_
          show own_Go p e below (T198.setTop (mkF m 175 #[.val (.int p1), .val (.int p2), .val (.int p3), .val (.int p4), .val (.int p5), .val (.int tk), .val (.int tl), .val (.int qk), .val (.int ql), .val (.int (0 : Int32)), .val (.int (1 : Int32)), .val (.int p2), .val (.ref b174), .val (.ref x188), .val (.int (own_isr (own_kind tk z0 z1 z2 z3 z4 z5) (own_kind qk z0 z1 z2 z3 z4 z5) (own_text tl p2) (own_text ql p2))), .val (.int (0 : Int32)), .unset] [])) _
          refine own_go (fun _ k => XS.iload X198.here hx rfl (hb hby at_175) rfl k) ?_
          show own_Go p e below (T198.setTop (mkF m 177 #[.val (.int p1), .val (.int p2), .val (.int p3), .val (.int p4), .val (.int p5), .val (.int tk), .val (.int tl), .val (.int qk), .val (.int ql), .val (.int (0 : Int32)), .val (.int (1 : Int32)), .val (.int p2), .val (.ref b174), .val (.ref x188), .val (.int (own_isr (own_kind tk z0 z1 z2 z3 z4 z5) (own_kind qk z0 z1 z2 z3 z4 z5) (own_text tl p2) (own_text ql p2))), .val (.int (0 : Int32)), .unset] [(.int (0 : Int32))])) _
          refine own_go (fun _ k => XS.ifNo X198.here hx rfl (hb hby at_177) rfl ((if0 _ _).trans (teq (by decide : (0 : Int32) = (0 : Int32))).2) k) ?_
          show own_Go p e below (T198.setTop (mkF m 180 #[.val (.int p1), .val (.int p2), .val (.int p3), .val (.int p4), .val (.int p5), .val (.int tk), .val (.int tl), .val (.int qk), .val (.int ql), .val (.int (0 : Int32)), .val (.int (1 : Int32)), .val (.int p2), .val (.ref b174), .val (.ref x188), .val (.int (own_isr (own_kind tk z0 z1 z2 z3 z4 z5) (own_kind qk z0 z1 z2 z3 z4 z5) (own_text tl p2) (own_text ql p2))), .val (.int (0 : Int32)), .unset] [])) _
          refine own_go (fun _ k => XS.iload X198.here hx rfl (hb hby at_180) rfl k) ?_
          show own_Go p e below (T198.setTop (mkF m 182 #[.val (.int p1), .val (.int p2), .val (.int p3), .val (.int p4), .val (.int p5), .val (.int tk), .val (.int tl), .val (.int qk), .val (.int ql), .val (.int (0 : Int32)), .val (.int (1 : Int32)), .val (.int p2), .val (.ref b174), .val (.ref x188), .val (.int (own_isr (own_kind tk z0 z1 z2 z3 z4 z5) (own_kind qk z0 z1 z2 z3 z4 z5) (own_text tl p2) (own_text ql p2))), .val (.int (0 : Int32)), .unset] [(.int tl)])) _
          refine own_go (fun _ k => XS.iload X198.here hx rfl (hb hby at_182) rfl k) ?_
          show own_Go p e below (T198.setTop (mkF m 184 #[.val (.int p1), .val (.int p2), .val (.int p3), .val (.int p4), .val (.int p5), .val (.int tk), .val (.int tl), .val (.int qk), .val (.int ql), .val (.int (0 : Int32)), .val (.int (1 : Int32)), .val (.int p2), .val (.ref b174), .val (.ref x188), .val (.int (own_isr (own_kind tk z0 z1 z2 z3 z4 z5) (own_kind qk z0 z1 z2 z3 z4 z5) (own_text tl p2) (own_text ql p2))), .val (.int (0 : Int32)), .unset] [(.int ql), (.int tl)])) _
          by_cases hc201 : tl = ql
          · skip
            refine own_go (fun _ k => XS.icmpNo X198.here hx rfl (hb hby at_184) rfl (teq hc201).2 k) ?_
            show own_Go p e below (T198.setTop (mkF m 187 #[.val (.int p1), .val (.int p2), .val (.int p3), .val (.int p4), .val (.int p5), .val (.int tk), .val (.int tl), .val (.int qk), .val (.int ql), .val (.int (0 : Int32)), .val (.int (1 : Int32)), .val (.int p2), .val (.ref b174), .val (.ref x188), .val (.int (own_isr (own_kind tk z0 z1 z2 z3 z4 z5) (own_kind qk z0 z1 z2 z3 z4 z5) (own_text tl p2) (own_text ql p2))), .val (.int (0 : Int32)), .unset] [])) _
            refine own_go (fun _ k => XS.iloadN X198.here hx rfl (hb hby at_187) rfl k) ?_
            show own_Go p e below (T198.setTop (mkF m 188 #[.val (.int p1), .val (.int p2), .val (.int p3), .val (.int p4), .val (.int p5), .val (.int tk), .val (.int tl), .val (.int qk), .val (.int ql), .val (.int (0 : Int32)), .val (.int (1 : Int32)), .val (.int p2), .val (.ref b174), .val (.ref x188), .val (.int (own_isr (own_kind tk z0 z1 z2 z3 z4 z5) (own_kind qk z0 z1 z2 z3 z4 z5) (own_text tl p2) (own_text ql p2))), .val (.int (0 : Int32)), .unset] [(.int p2)])) _
            refine own_go (fun _ k => XS.iload X198.here hx rfl (hb hby at_188) rfl k) ?_
            show own_Go p e below (T198.setTop (mkF m 190 #[.val (.int p1), .val (.int p2), .val (.int p3), .val (.int p4), .val (.int p5), .val (.int tk), .val (.int tl), .val (.int qk), .val (.int ql), .val (.int (0 : Int32)), .val (.int (1 : Int32)), .val (.int p2), .val (.ref b174), .val (.ref x188), .val (.int (own_isr (own_kind tk z0 z1 z2 z3 z4 z5) (own_kind qk z0 z1 z2 z3 z4 z5) (own_text tl p2) (own_text ql p2))), .val (.int (0 : Int32)), .unset] [(.int p2), (.int p2)])) _
            refine own_go (fun _ k => XS.ixor X198.here hx rfl (hb hby at_190) rfl k) ?_
            show own_Go p e below (T198.setTop (mkF m 191 #[.val (.int p1), .val (.int p2), .val (.int p3), .val (.int p4), .val (.int p5), .val (.int tk), .val (.int tl), .val (.int qk), .val (.int ql), .val (.int (0 : Int32)), .val (.int (1 : Int32)), .val (.int p2), .val (.ref b174), .val (.ref x188), .val (.int (own_isr (own_kind tk z0 z1 z2 z3 z4 z5) (own_kind qk z0 z1 z2 z3 z4 z5) (own_text tl p2) (own_text ql p2))), .val (.int (0 : Int32)), .unset] [(.int (p2 ^^^ p2))])) _
            refine own_go (fun _ k => XS.iload X198.here hx rfl (hb hby at_191) rfl k) ?_
            show own_Go p e below (T198.setTop (mkF m 193 #[.val (.int p1), .val (.int p2), .val (.int p3), .val (.int p4), .val (.int p5), .val (.int tk), .val (.int tl), .val (.int qk), .val (.int ql), .val (.int (0 : Int32)), .val (.int (1 : Int32)), .val (.int p2), .val (.ref b174), .val (.ref x188), .val (.int (own_isr (own_kind tk z0 z1 z2 z3 z4 z5) (own_kind qk z0 z1 z2 z3 z4 z5) (own_text tl p2) (own_text ql p2))), .val (.int (0 : Int32)), .unset] [(.int (0 : Int32)), (.int (p2 ^^^ p2))])) _
            refine own_go (fun _ k => XS.iand X198.here hx rfl (hb hby at_193) rfl k) ?_
            show own_Go p e below (T198.setTop (mkF m 194 #[.val (.int p1), .val (.int p2), .val (.int p3), .val (.int p4), .val (.int p5), .val (.int tk), .val (.int tl), .val (.int qk), .val (.int ql), .val (.int (0 : Int32)), .val (.int (1 : Int32)), .val (.int p2), .val (.ref b174), .val (.ref x188), .val (.int (own_isr (own_kind tk z0 z1 z2 z3 z4 z5) (own_kind qk z0 z1 z2 z3 z4 z5) (own_text tl p2) (own_text ql p2))), .val (.int (0 : Int32)), .unset] [(.int ((p2 ^^^ p2) &&& (0 : Int32)))])) _
            refine own_go (fun _ k => XS.ifNo X198.here hx rfl (hb hby at_194) rfl ((if0 _ _).trans (teq (own_and0 _)).2) k) ?_
            show own_Go p e below (T198.setTop (mkF m 197 #[.val (.int p1), .val (.int p2), .val (.int p3), .val (.int p4), .val (.int p5), .val (.int tk), .val (.int tl), .val (.int qk), .val (.int ql), .val (.int (0 : Int32)), .val (.int (1 : Int32)), .val (.int p2), .val (.ref b174), .val (.ref x188), .val (.int (own_isr (own_kind tk z0 z1 z2 z3 z4 z5) (own_kind qk z0 z1 z2 z3 z4 z5) (own_text tl p2) (own_text ql p2))), .val (.int (0 : Int32)), .unset] [])) _
            refine own_go (fun _ k => XS.iconst X198.here hx rfl (hb hby at_197) k) ?_
            show own_Go p e below (T198.setTop (mkF m 198 #[.val (.int p1), .val (.int p2), .val (.int p3), .val (.int p4), .val (.int p5), .val (.int tk), .val (.int tl), .val (.int qk), .val (.int ql), .val (.int (0 : Int32)), .val (.int (1 : Int32)), .val (.int p2), .val (.ref b174), .val (.ref x188), .val (.int (own_isr (own_kind tk z0 z1 z2 z3 z4 z5) (own_kind qk z0 z1 z2 z3 z4 z5) (own_text tl p2) (own_text ql p2))), .val (.int (0 : Int32)), .unset] [(.int (1 : Int32))])) _
            refine own_go (fun _ k => XS.goto X198.here hx rfl (pc0 := 198) (pc' := 202) rfl (hb hby at_198) (by decide) (by decide) k) ?_
            show own_Go p e below (T198.setTop (mkF m 202 #[.val (.int p1), .val (.int p2), .val (.int p3), .val (.int p4), .val (.int p5), .val (.int tk), .val (.int tl), .val (.int qk), .val (.int ql), .val (.int (0 : Int32)), .val (.int (1 : Int32)), .val (.int p2), .val (.ref b174), .val (.ref x188), .val (.int (own_isr (own_kind tk z0 z1 z2 z3 z4 z5) (own_kind qk z0 z1 z2 z3 z4 z5) (own_text tl p2) (own_text ql p2))), .val (.int (0 : Int32)), .unset] [(.int (1 : Int32))])) _
            refine own_go (fun _ k => XS.istore X198.here hx rfl (hb hby at_202) rfl (l' := #[.val (.int p1), .val (.int p2), .val (.int p3), .val (.int p4), .val (.int p5), .val (.int tk), .val (.int tl), .val (.int qk), .val (.int ql), .val (.int (0 : Int32)), .val (.int (1 : Int32)), .val (.int p2), .val (.ref b174), .val (.ref x188), .val (.int (own_isr (own_kind tk z0 z1 z2 z3 z4 z5) (own_kind qk z0 z1 z2 z3 z4 z5) (own_text tl p2) (own_text ql p2))), .val (.int (0 : Int32)), .val (.int (1 : Int32))]) rfl k) ?_
            show own_Go p e below (T198.setTop (mkF m 204 #[.val (.int p1), .val (.int p2), .val (.int p3), .val (.int p4), .val (.int p5), .val (.int tk), .val (.int tl), .val (.int qk), .val (.int ql), .val (.int (0 : Int32)), .val (.int (1 : Int32)), .val (.int p2), .val (.ref b174), .val (.ref x188), .val (.int (own_isr (own_kind tk z0 z1 z2 z3 z4 z5) (own_kind qk z0 z1 z2 z3 z4 z5) (own_text tl p2) (own_text ql p2))), .val (.int (0 : Int32)), .val (.int (1 : Int32))] [])) _
            refine own_go (fun _ k => XS.iload X198.here hx rfl (hb hby at_204) rfl k) ?_
            show own_Go p e below (T198.setTop (mkF m 206 #[.val (.int p1), .val (.int p2), .val (.int p3), .val (.int p4), .val (.int p5), .val (.int tk), .val (.int tl), .val (.int qk), .val (.int ql), .val (.int (0 : Int32)), .val (.int (1 : Int32)), .val (.int p2), .val (.ref b174), .val (.ref x188), .val (.int (own_isr (own_kind tk z0 z1 z2 z3 z4 z5) (own_kind qk z0 z1 z2 z3 z4 z5) (own_text tl p2) (own_text ql p2))), .val (.int (0 : Int32)), .val (.int (1 : Int32))] [(.int (own_isr (own_kind tk z0 z1 z2 z3 z4 z5) (own_kind qk z0 z1 z2 z3 z4 z5) (own_text tl p2) (own_text ql p2)))])) _
            refine own_go (fun _ k => XS.iload X198.here hx rfl (hb hby at_206) rfl k) ?_
            show own_Go p e below (T198.setTop (mkF m 208 #[.val (.int p1), .val (.int p2), .val (.int p3), .val (.int p4), .val (.int p5), .val (.int tk), .val (.int tl), .val (.int qk), .val (.int ql), .val (.int (0 : Int32)), .val (.int (1 : Int32)), .val (.int p2), .val (.ref b174), .val (.ref x188), .val (.int (own_isr (own_kind tk z0 z1 z2 z3 z4 z5) (own_kind qk z0 z1 z2 z3 z4 z5) (own_text tl p2) (own_text ql p2))), .val (.int (0 : Int32)), .val (.int (1 : Int32))] [(.int (1 : Int32)), (.int (own_isr (own_kind tk z0 z1 z2 z3 z4 z5) (own_kind qk z0 z1 z2 z3 z4 z5) (own_text tl p2) (own_text ql p2)))])) _
            refine own_go (fun _ k => XS.icmpNo X198.here hx rfl (hb hby at_208) rfl (teq (own_isr_yy (congrArg (fun z => own_kind z z0 z1 z2 z3 z4 z5) hc200.symm) (own_tx0 hc199 hc201))).2 k) ?_
            show own_Go p e below (T198.setTop (mkF m 211 #[.val (.int p1), .val (.int p2), .val (.int p3), .val (.int p4), .val (.int p5), .val (.int tk), .val (.int tl), .val (.int qk), .val (.int ql), .val (.int (0 : Int32)), .val (.int (1 : Int32)), .val (.int p2), .val (.ref b174), .val (.ref x188), .val (.int (own_isr (own_kind tk z0 z1 z2 z3 z4 z5) (own_kind qk z0 z1 z2 z3 z4 z5) (own_text tl p2) (own_text ql p2))), .val (.int (0 : Int32)), .val (.int (1 : Int32))] [])) _
            refine own_go (fun _ k => XS.iconst X198.here hx rfl (hb hby at_211) k) ?_
            show own_Go p e below (T198.setTop (mkF m 212 #[.val (.int p1), .val (.int p2), .val (.int p3), .val (.int p4), .val (.int p5), .val (.int tk), .val (.int tl), .val (.int qk), .val (.int ql), .val (.int (0 : Int32)), .val (.int (1 : Int32)), .val (.int p2), .val (.ref b174), .val (.ref x188), .val (.int (own_isr (own_kind tk z0 z1 z2 z3 z4 z5) (own_kind qk z0 z1 z2 z3 z4 z5) (own_text tl p2) (own_text ql p2))), .val (.int (0 : Int32)), .val (.int (1 : Int32))] [(.int (1 : Int32))])) _
            refine own_go (fun _ k => XS.goto X198.here hx rfl (pc0 := 212) (pc' := 216) rfl (hb hby at_212) (by decide) (by decide) k) ?_
            show own_Go p e below (T198.setTop (mkF m 216 #[.val (.int p1), .val (.int p2), .val (.int p3), .val (.int p4), .val (.int p5), .val (.int tk), .val (.int tl), .val (.int qk), .val (.int ql), .val (.int (0 : Int32)), .val (.int (1 : Int32)), .val (.int p2), .val (.ref b174), .val (.ref x188), .val (.int (own_isr (own_kind tk z0 z1 z2 z3 z4 z5) (own_kind qk z0 z1 z2 z3 z4 z5) (own_text tl p2) (own_text ql p2))), .val (.int (0 : Int32)), .val (.int (1 : Int32))] [(.int (1 : Int32))])) _
            refine own_finW (v := (some (.int (nar .boolean (1 : Int32))))) X198 hh hZ188 hS188 (by rw [e198]; exact (Nat.le_refl _)) (fun h => by rw [hrt] at h; cases h) hlk (fun fs hr => retN X198 hx (t := .boolean) hrt (by simp) (hb hby at_216) hr) (QQ := QQ0 n0) ?_ own_hEL e198 (C189) (by decide) (by decide)
            rw [e198]
            exact ⟨rfl, N198⟩
          · skip
            refine own_go (fun _ k => XS.icmpYes X198.here hx rfl (pc0 := 184) (pc' := 201) rfl (hb hby at_184) rfl (feq hc201).2 (by decide) (by decide) k) ?_
            show own_Go p e below (T198.setTop (mkF m 201 #[.val (.int p1), .val (.int p2), .val (.int p3), .val (.int p4), .val (.int p5), .val (.int tk), .val (.int tl), .val (.int qk), .val (.int ql), .val (.int (0 : Int32)), .val (.int (1 : Int32)), .val (.int p2), .val (.ref b174), .val (.ref x188), .val (.int (own_isr (own_kind tk z0 z1 z2 z3 z4 z5) (own_kind qk z0 z1 z2 z3 z4 z5) (own_text tl p2) (own_text ql p2))), .val (.int (0 : Int32)), .unset] [])) _
            refine own_go (fun _ k => XS.iconst X198.here hx rfl (hb hby at_201) k) ?_
            show own_Go p e below (T198.setTop (mkF m 202 #[.val (.int p1), .val (.int p2), .val (.int p3), .val (.int p4), .val (.int p5), .val (.int tk), .val (.int tl), .val (.int qk), .val (.int ql), .val (.int (0 : Int32)), .val (.int (1 : Int32)), .val (.int p2), .val (.ref b174), .val (.ref x188), .val (.int (own_isr (own_kind tk z0 z1 z2 z3 z4 z5) (own_kind qk z0 z1 z2 z3 z4 z5) (own_text tl p2) (own_text ql p2))), .val (.int (0 : Int32)), .unset] [(.int (0 : Int32))])) _
            refine own_go (fun _ k => XS.istore X198.here hx rfl (hb hby at_202) rfl (l' := #[.val (.int p1), .val (.int p2), .val (.int p3), .val (.int p4), .val (.int p5), .val (.int tk), .val (.int tl), .val (.int qk), .val (.int ql), .val (.int (0 : Int32)), .val (.int (1 : Int32)), .val (.int p2), .val (.ref b174), .val (.ref x188), .val (.int (own_isr (own_kind tk z0 z1 z2 z3 z4 z5) (own_kind qk z0 z1 z2 z3 z4 z5) (own_text tl p2) (own_text ql p2))), .val (.int (0 : Int32)), .val (.int (0 : Int32))]) rfl k) ?_
            show own_Go p e below (T198.setTop (mkF m 204 #[.val (.int p1), .val (.int p2), .val (.int p3), .val (.int p4), .val (.int p5), .val (.int tk), .val (.int tl), .val (.int qk), .val (.int ql), .val (.int (0 : Int32)), .val (.int (1 : Int32)), .val (.int p2), .val (.ref b174), .val (.ref x188), .val (.int (own_isr (own_kind tk z0 z1 z2 z3 z4 z5) (own_kind qk z0 z1 z2 z3 z4 z5) (own_text tl p2) (own_text ql p2))), .val (.int (0 : Int32)), .val (.int (0 : Int32))] [])) _
            refine own_go (fun _ k => XS.iload X198.here hx rfl (hb hby at_204) rfl k) ?_
            show own_Go p e below (T198.setTop (mkF m 206 #[.val (.int p1), .val (.int p2), .val (.int p3), .val (.int p4), .val (.int p5), .val (.int tk), .val (.int tl), .val (.int qk), .val (.int ql), .val (.int (0 : Int32)), .val (.int (1 : Int32)), .val (.int p2), .val (.ref b174), .val (.ref x188), .val (.int (own_isr (own_kind tk z0 z1 z2 z3 z4 z5) (own_kind qk z0 z1 z2 z3 z4 z5) (own_text tl p2) (own_text ql p2))), .val (.int (0 : Int32)), .val (.int (0 : Int32))] [(.int (own_isr (own_kind tk z0 z1 z2 z3 z4 z5) (own_kind qk z0 z1 z2 z3 z4 z5) (own_text tl p2) (own_text ql p2)))])) _
            refine own_go (fun _ k => XS.iload X198.here hx rfl (hb hby at_206) rfl k) ?_
            show own_Go p e below (T198.setTop (mkF m 208 #[.val (.int p1), .val (.int p2), .val (.int p3), .val (.int p4), .val (.int p5), .val (.int tk), .val (.int tl), .val (.int qk), .val (.int ql), .val (.int (0 : Int32)), .val (.int (1 : Int32)), .val (.int p2), .val (.ref b174), .val (.ref x188), .val (.int (own_isr (own_kind tk z0 z1 z2 z3 z4 z5) (own_kind qk z0 z1 z2 z3 z4 z5) (own_text tl p2) (own_text ql p2))), .val (.int (0 : Int32)), .val (.int (0 : Int32))] [(.int (0 : Int32)), (.int (own_isr (own_kind tk z0 z1 z2 z3 z4 z5) (own_kind qk z0 z1 z2 z3 z4 z5) (own_text tl p2) (own_text ql p2)))])) _
            refine own_go (fun _ k => XS.icmpNo X198.here hx rfl (hb hby at_208) rfl (teq (own_isr_m (own_text_ne (h_tl ▸ own_a3 _) (h_ql ▸ own_a3 _) hc201))).2 k) ?_
            show own_Go p e below (T198.setTop (mkF m 211 #[.val (.int p1), .val (.int p2), .val (.int p3), .val (.int p4), .val (.int p5), .val (.int tk), .val (.int tl), .val (.int qk), .val (.int ql), .val (.int (0 : Int32)), .val (.int (1 : Int32)), .val (.int p2), .val (.ref b174), .val (.ref x188), .val (.int (own_isr (own_kind tk z0 z1 z2 z3 z4 z5) (own_kind qk z0 z1 z2 z3 z4 z5) (own_text tl p2) (own_text ql p2))), .val (.int (0 : Int32)), .val (.int (0 : Int32))] [])) _
            refine own_go (fun _ k => XS.iconst X198.here hx rfl (hb hby at_211) k) ?_
            show own_Go p e below (T198.setTop (mkF m 212 #[.val (.int p1), .val (.int p2), .val (.int p3), .val (.int p4), .val (.int p5), .val (.int tk), .val (.int tl), .val (.int qk), .val (.int ql), .val (.int (0 : Int32)), .val (.int (1 : Int32)), .val (.int p2), .val (.ref b174), .val (.ref x188), .val (.int (own_isr (own_kind tk z0 z1 z2 z3 z4 z5) (own_kind qk z0 z1 z2 z3 z4 z5) (own_text tl p2) (own_text ql p2))), .val (.int (0 : Int32)), .val (.int (0 : Int32))] [(.int (1 : Int32))])) _
            refine own_go (fun _ k => XS.goto X198.here hx rfl (pc0 := 212) (pc' := 216) rfl (hb hby at_212) (by decide) (by decide) k) ?_
            show own_Go p e below (T198.setTop (mkF m 216 #[.val (.int p1), .val (.int p2), .val (.int p3), .val (.int p4), .val (.int p5), .val (.int tk), .val (.int tl), .val (.int qk), .val (.int ql), .val (.int (0 : Int32)), .val (.int (1 : Int32)), .val (.int p2), .val (.ref b174), .val (.ref x188), .val (.int (own_isr (own_kind tk z0 z1 z2 z3 z4 z5) (own_kind qk z0 z1 z2 z3 z4 z5) (own_text tl p2) (own_text ql p2))), .val (.int (0 : Int32)), .val (.int (0 : Int32))] [(.int (1 : Int32))])) _
            refine own_finW (v := (some (.int (nar .boolean (1 : Int32))))) X198 hh hZ188 hS188 (by rw [e198]; exact (Nat.le_refl _)) (fun h => by rw [hrt] at h; cases h) hlk (fun fs hr => retN X198 hx (t := .boolean) hrt (by simp) (hb hby at_216) hr) (QQ := QQ0 n0) ?_ own_hEL e198 (C189) (by decide) (by decide)
            rw [e198]
            exact ⟨rfl, N198⟩
        · skip
          refine own_go (fun _ k => XS.icmpYes X198.here hx rfl (pc0 := 172) (pc' := 201) rfl (hb hby at_172) rfl (feq hc200).2 (by decide) (by decide) k) ?_
          show own_Go p e below (T198.setTop (mkF m 201 #[.val (.int p1), .val (.int p2), .val (.int p3), .val (.int p4), .val (.int p5), .val (.int tk), .val (.int tl), .val (.int qk), .val (.int ql), .val (.int (0 : Int32)), .val (.int (1 : Int32)), .val (.int p2), .val (.ref b174), .val (.ref x188), .val (.int (own_isr (own_kind tk z0 z1 z2 z3 z4 z5) (own_kind qk z0 z1 z2 z3 z4 z5) (own_text tl p2) (own_text ql p2))), .val (.int (0 : Int32)), .unset] [])) _
          refine own_go (fun _ k => XS.iconst X198.here hx rfl (hb hby at_201) k) ?_
          show own_Go p e below (T198.setTop (mkF m 202 #[.val (.int p1), .val (.int p2), .val (.int p3), .val (.int p4), .val (.int p5), .val (.int tk), .val (.int tl), .val (.int qk), .val (.int ql), .val (.int (0 : Int32)), .val (.int (1 : Int32)), .val (.int p2), .val (.ref b174), .val (.ref x188), .val (.int (own_isr (own_kind tk z0 z1 z2 z3 z4 z5) (own_kind qk z0 z1 z2 z3 z4 z5) (own_text tl p2) (own_text ql p2))), .val (.int (0 : Int32)), .unset] [(.int (0 : Int32))])) _
          refine own_go (fun _ k => XS.istore X198.here hx rfl (hb hby at_202) rfl (l' := #[.val (.int p1), .val (.int p2), .val (.int p3), .val (.int p4), .val (.int p5), .val (.int tk), .val (.int tl), .val (.int qk), .val (.int ql), .val (.int (0 : Int32)), .val (.int (1 : Int32)), .val (.int p2), .val (.ref b174), .val (.ref x188), .val (.int (own_isr (own_kind tk z0 z1 z2 z3 z4 z5) (own_kind qk z0 z1 z2 z3 z4 z5) (own_text tl p2) (own_text ql p2))), .val (.int (0 : Int32)), .val (.int (0 : Int32))]) rfl k) ?_
          show own_Go p e below (T198.setTop (mkF m 204 #[.val (.int p1), .val (.int p2), .val (.int p3), .val (.int p4), .val (.int p5), .val (.int tk), .val (.int tl), .val (.int qk), .val (.int ql), .val (.int (0 : Int32)), .val (.int (1 : Int32)), .val (.int p2), .val (.ref b174), .val (.ref x188), .val (.int (own_isr (own_kind tk z0 z1 z2 z3 z4 z5) (own_kind qk z0 z1 z2 z3 z4 z5) (own_text tl p2) (own_text ql p2))), .val (.int (0 : Int32)), .val (.int (0 : Int32))] [])) _
          refine own_go (fun _ k => XS.iload X198.here hx rfl (hb hby at_204) rfl k) ?_
          show own_Go p e below (T198.setTop (mkF m 206 #[.val (.int p1), .val (.int p2), .val (.int p3), .val (.int p4), .val (.int p5), .val (.int tk), .val (.int tl), .val (.int qk), .val (.int ql), .val (.int (0 : Int32)), .val (.int (1 : Int32)), .val (.int p2), .val (.ref b174), .val (.ref x188), .val (.int (own_isr (own_kind tk z0 z1 z2 z3 z4 z5) (own_kind qk z0 z1 z2 z3 z4 z5) (own_text tl p2) (own_text ql p2))), .val (.int (0 : Int32)), .val (.int (0 : Int32))] [(.int (own_isr (own_kind tk z0 z1 z2 z3 z4 z5) (own_kind qk z0 z1 z2 z3 z4 z5) (own_text tl p2) (own_text ql p2)))])) _
          refine own_go (fun _ k => XS.iload X198.here hx rfl (hb hby at_206) rfl k) ?_
          show own_Go p e below (T198.setTop (mkF m 208 #[.val (.int p1), .val (.int p2), .val (.int p3), .val (.int p4), .val (.int p5), .val (.int tk), .val (.int tl), .val (.int qk), .val (.int ql), .val (.int (0 : Int32)), .val (.int (1 : Int32)), .val (.int p2), .val (.ref b174), .val (.ref x188), .val (.int (own_isr (own_kind tk z0 z1 z2 z3 z4 z5) (own_kind qk z0 z1 z2 z3 z4 z5) (own_text tl p2) (own_text ql p2))), .val (.int (0 : Int32)), .val (.int (0 : Int32))] [(.int (0 : Int32)), (.int (own_isr (own_kind tk z0 z1 z2 z3 z4 z5) (own_kind qk z0 z1 z2 z3 z4 z5) (own_text tl p2) (own_text ql p2)))])) _
          refine own_go (fun _ k => XS.icmpNo X198.here hx rfl (hb hby at_208) rfl (teq (own_isr_n1 (own_kind_ne hz (h_tk ▸ own_i6 p1) (h_qk ▸ own_i7 p3) (fun q => hc200 q.symm)))).2 k) ?_
          show own_Go p e below (T198.setTop (mkF m 211 #[.val (.int p1), .val (.int p2), .val (.int p3), .val (.int p4), .val (.int p5), .val (.int tk), .val (.int tl), .val (.int qk), .val (.int ql), .val (.int (0 : Int32)), .val (.int (1 : Int32)), .val (.int p2), .val (.ref b174), .val (.ref x188), .val (.int (own_isr (own_kind tk z0 z1 z2 z3 z4 z5) (own_kind qk z0 z1 z2 z3 z4 z5) (own_text tl p2) (own_text ql p2))), .val (.int (0 : Int32)), .val (.int (0 : Int32))] [])) _
          refine own_go (fun _ k => XS.iconst X198.here hx rfl (hb hby at_211) k) ?_
          show own_Go p e below (T198.setTop (mkF m 212 #[.val (.int p1), .val (.int p2), .val (.int p3), .val (.int p4), .val (.int p5), .val (.int tk), .val (.int tl), .val (.int qk), .val (.int ql), .val (.int (0 : Int32)), .val (.int (1 : Int32)), .val (.int p2), .val (.ref b174), .val (.ref x188), .val (.int (own_isr (own_kind tk z0 z1 z2 z3 z4 z5) (own_kind qk z0 z1 z2 z3 z4 z5) (own_text tl p2) (own_text ql p2))), .val (.int (0 : Int32)), .val (.int (0 : Int32))] [(.int (1 : Int32))])) _
          refine own_go (fun _ k => XS.goto X198.here hx rfl (pc0 := 212) (pc' := 216) rfl (hb hby at_212) (by decide) (by decide) k) ?_
          show own_Go p e below (T198.setTop (mkF m 216 #[.val (.int p1), .val (.int p2), .val (.int p3), .val (.int p4), .val (.int p5), .val (.int tk), .val (.int tl), .val (.int qk), .val (.int ql), .val (.int (0 : Int32)), .val (.int (1 : Int32)), .val (.int p2), .val (.ref b174), .val (.ref x188), .val (.int (own_isr (own_kind tk z0 z1 z2 z3 z4 z5) (own_kind qk z0 z1 z2 z3 z4 z5) (own_text tl p2) (own_text ql p2))), .val (.int (0 : Int32)), .val (.int (0 : Int32))] [(.int (1 : Int32))])) _
          refine own_finW (v := (some (.int (nar .boolean (1 : Int32))))) X198 hh hZ188 hS188 (by rw [e198]; exact (Nat.le_refl _)) (fun h => by rw [hrt] at h; cases h) hlk (fun fs hr => retN X198 hx (t := .boolean) hrt (by simp) (hb hby at_216) hr) (QQ := QQ0 n0) ?_ own_hEL e198 (C189) (by decide) (by decide)
          rw [e198]
          exact ⟨rfl, N198⟩
      · skip
        refine own_go (fun _ k => XS.ifYes X198.here hx rfl (pc0 := 134) (pc' := 141) rfl (hb hby at_134) rfl ((if0 _ _).trans (feq hc199).2) (by decide) (by decide) k) ?_
        show own_Go p e below (T198.setTop (mkF m 141 #[.val (.int p1), .val (.int p2), .val (.int p3), .val (.int p4), .val (.int p5), .val (.int tk), .val (.int tl), .val (.int qk), .val (.int ql), .val (.int (0 : Int32)), .val (.int (1 : Int32)), .val (.int p2), .val (.ref b174), .val (.ref x188), .val (.int (own_isr (own_kind tk z0 z1 z2 z3 z4 z5) (own_kind qk z0 z1 z2 z3 z4 z5) (own_text tl p2) (own_text ql p2))), .unset, .unset] [])) _
        refine own_go (fun _ k => XS.iload X198.here hx rfl (hb hby at_141) rfl k) ?_
        show own_Go p e below (T198.setTop (mkF m 143 #[.val (.int p1), .val (.int p2), .val (.int p3), .val (.int p4), .val (.int p5), .val (.int tk), .val (.int tl), .val (.int qk), .val (.int ql), .val (.int (0 : Int32)), .val (.int (1 : Int32)), .val (.int p2), .val (.ref b174), .val (.ref x188), .val (.int (own_isr (own_kind tk z0 z1 z2 z3 z4 z5) (own_kind qk z0 z1 z2 z3 z4 z5) (own_text tl p2) (own_text ql p2))), .unset, .unset] [(.int tl)])) _
        refine own_go (fun _ k => XS.iconst X198.here hx rfl (hb hby at_143) k) ?_
        show own_Go p e below (T198.setTop (mkF m 144 #[.val (.int p1), .val (.int p2), .val (.int p3), .val (.int p4), .val (.int p5), .val (.int tk), .val (.int tl), .val (.int qk), .val (.int ql), .val (.int (0 : Int32)), .val (.int (1 : Int32)), .val (.int p2), .val (.ref b174), .val (.ref x188), .val (.int (own_isr (own_kind tk z0 z1 z2 z3 z4 z5) (own_kind qk z0 z1 z2 z3 z4 z5) (own_text tl p2) (own_text ql p2))), .unset, .unset] [(.int (1 : Int32)), (.int tl)])) _
        by_cases hc202 : tl = (1 : Int32)
        · skip
          refine own_go (fun _ k => XS.icmpNo X198.here hx rfl (hb hby at_144) rfl (teq hc202).2 k) ?_
          show own_Go p e below (T198.setTop (mkF m 147 #[.val (.int p1), .val (.int p2), .val (.int p3), .val (.int p4), .val (.int p5), .val (.int tk), .val (.int tl), .val (.int qk), .val (.int ql), .val (.int (0 : Int32)), .val (.int (1 : Int32)), .val (.int p2), .val (.ref b174), .val (.ref x188), .val (.int (own_isr (own_kind tk z0 z1 z2 z3 z4 z5) (own_kind qk z0 z1 z2 z3 z4 z5) (own_text tl p2) (own_text ql p2))), .unset, .unset] [])) _
          refine own_go (fun _ k => XS.sipush X198.here hx rfl (hb hby at_147) k) ?_
          show own_Go p e below (T198.setTop (mkF m 150 #[.val (.int p1), .val (.int p2), .val (.int p3), .val (.int p4), .val (.int p5), .val (.int tk), .val (.int tl), .val (.int qk), .val (.int ql), .val (.int (0 : Int32)), .val (.int (1 : Int32)), .val (.int p2), .val (.ref b174), .val (.ref x188), .val (.int (own_isr (own_kind tk z0 z1 z2 z3 z4 z5) (own_kind qk z0 z1 z2 z3 z4 z5) (own_text tl p2) (own_text ql p2))), .unset, .unset] [(.int (255 : Int32))])) _
          refine own_go (fun _ k => XS.goto X198.here hx rfl (pc0 := 150) (pc' := 166) rfl (hb hby at_150) (by decide) (by decide) k) ?_
          show own_Go p e below (T198.setTop (mkF m 166 #[.val (.int p1), .val (.int p2), .val (.int p3), .val (.int p4), .val (.int p5), .val (.int tk), .val (.int tl), .val (.int qk), .val (.int ql), .val (.int (0 : Int32)), .val (.int (1 : Int32)), .val (.int p2), .val (.ref b174), .val (.ref x188), .val (.int (own_isr (own_kind tk z0 z1 z2 z3 z4 z5) (own_kind qk z0 z1 z2 z3 z4 z5) (own_text tl p2) (own_text ql p2))), .unset, .unset] [(.int (255 : Int32))])) _
          refine own_go (fun _ k => XS.istore X198.here hx rfl (hb hby at_166) rfl (l' := #[.val (.int p1), .val (.int p2), .val (.int p3), .val (.int p4), .val (.int p5), .val (.int tk), .val (.int tl), .val (.int qk), .val (.int ql), .val (.int (0 : Int32)), .val (.int (1 : Int32)), .val (.int p2), .val (.ref b174), .val (.ref x188), .val (.int (own_isr (own_kind tk z0 z1 z2 z3 z4 z5) (own_kind qk z0 z1 z2 z3 z4 z5) (own_text tl p2) (own_text ql p2))), .val (.int (255 : Int32)), .unset]) rfl k) ?_
          show own_Go p e below (T198.setTop (mkF m 168 #[.val (.int p1), .val (.int p2), .val (.int p3), .val (.int p4), .val (.int p5), .val (.int tk), .val (.int tl), .val (.int qk), .val (.int ql), .val (.int (0 : Int32)), .val (.int (1 : Int32)), .val (.int p2), .val (.ref b174), .val (.ref x188), .val (.int (own_isr (own_kind tk z0 z1 z2 z3 z4 z5) (own_kind qk z0 z1 z2 z3 z4 z5) (own_text tl p2) (own_text ql p2))), .val (.int (255 : Int32)), .unset] [])) _
          refine own_go (fun _ k => XS.iload X198.here hx rfl (hb hby at_168) rfl k) ?_
          show own_Go p e below (T198.setTop (mkF m 170 #[.val (.int p1), .val (.int p2), .val (.int p3), .val (.int p4), .val (.int p5), .val (.int tk), .val (.int tl), .val (.int qk), .val (.int ql), .val (.int (0 : Int32)), .val (.int (1 : Int32)), .val (.int p2), .val (.ref b174), .val (.ref x188), .val (.int (own_isr (own_kind tk z0 z1 z2 z3 z4 z5) (own_kind qk z0 z1 z2 z3 z4 z5) (own_text tl p2) (own_text ql p2))), .val (.int (255 : Int32)), .unset] [(.int qk)])) _
          refine own_go (fun _ k => XS.iload X198.here hx rfl (hb hby at_170) rfl k) ?_
          show own_Go p e below (T198.setTop (mkF m 172 #[.val (.int p1), .val (.int p2), .val (.int p3), .val (.int p4), .val (.int p5), .val (.int tk), .val (.int tl), .val (.int qk), .val (.int ql), .val (.int (0 : Int32)), .val (.int (1 : Int32)), .val (.int p2), .val (.ref b174), .val (.ref x188), .val (.int (own_isr (own_kind tk z0 z1 z2 z3 z4 z5) (own_kind qk z0 z1 z2 z3 z4 z5) (own_text tl p2) (own_text ql p2))), .val (.int (255 : Int32)), .unset] [(.int tk), (.int qk)])) _
          by_cases hc203 : qk = tk
          · skip
            refine own_go (fun _ k => XS.icmpNo X198.here hx rfl (hb hby at_172) rfl (teq hc203).2 k) ?_
            show own_Go p e below (T198.setTop (mkF m 175 #[.val (.int p1), .val (.int p2), .val (.int p3), .val (.int p4), .val (.int p5), .val (.int tk), .val (.int tl), .val (.int qk), .val (.int ql), .val (.int (0 : Int32)), .val (.int (1 : Int32)), .val (.int p2), .val (.ref b174), .val (.ref x188), .val (.int (own_isr (own_kind tk z0 z1 z2 z3 z4 z5) (own_kind qk z0 z1 z2 z3 z4 z5) (own_text tl p2) (own_text ql p2))), .val (.int (255 : Int32)), .unset] [])) _
            refine own_go (fun _ k => XS.iload X198.here hx rfl (hb hby at_175) rfl k) ?_
            show own_Go p e below (T198.setTop (mkF m 177 #[.val (.int p1), .val (.int p2), .val (.int p3), .val (.int p4), .val (.int p5), .val (.int tk), .val (.int tl), .val (.int qk), .val (.int ql), .val (.int (0 : Int32)), .val (.int (1 : Int32)), .val (.int p2), .val (.ref b174), .val (.ref x188), .val (.int (own_isr (own_kind tk z0 z1 z2 z3 z4 z5) (own_kind qk z0 z1 z2 z3 z4 z5) (own_text tl p2) (own_text ql p2))), .val (.int (255 : Int32)), .unset] [(.int (0 : Int32))])) _
            refine own_go (fun _ k => XS.ifNo X198.here hx rfl (hb hby at_177) rfl ((if0 _ _).trans (teq (by decide : (0 : Int32) = (0 : Int32))).2) k) ?_
            show own_Go p e below (T198.setTop (mkF m 180 #[.val (.int p1), .val (.int p2), .val (.int p3), .val (.int p4), .val (.int p5), .val (.int tk), .val (.int tl), .val (.int qk), .val (.int ql), .val (.int (0 : Int32)), .val (.int (1 : Int32)), .val (.int p2), .val (.ref b174), .val (.ref x188), .val (.int (own_isr (own_kind tk z0 z1 z2 z3 z4 z5) (own_kind qk z0 z1 z2 z3 z4 z5) (own_text tl p2) (own_text ql p2))), .val (.int (255 : Int32)), .unset] [])) _
            refine own_go (fun _ k => XS.iload X198.here hx rfl (hb hby at_180) rfl k) ?_
            show own_Go p e below (T198.setTop (mkF m 182 #[.val (.int p1), .val (.int p2), .val (.int p3), .val (.int p4), .val (.int p5), .val (.int tk), .val (.int tl), .val (.int qk), .val (.int ql), .val (.int (0 : Int32)), .val (.int (1 : Int32)), .val (.int p2), .val (.ref b174), .val (.ref x188), .val (.int (own_isr (own_kind tk z0 z1 z2 z3 z4 z5) (own_kind qk z0 z1 z2 z3 z4 z5) (own_text tl p2) (own_text ql p2))), .val (.int (255 : Int32)), .unset] [(.int tl)])) _
            refine own_go (fun _ k => XS.iload X198.here hx rfl (hb hby at_182) rfl k) ?_
            show own_Go p e below (T198.setTop (mkF m 184 #[.val (.int p1), .val (.int p2), .val (.int p3), .val (.int p4), .val (.int p5), .val (.int tk), .val (.int tl), .val (.int qk), .val (.int ql), .val (.int (0 : Int32)), .val (.int (1 : Int32)), .val (.int p2), .val (.ref b174), .val (.ref x188), .val (.int (own_isr (own_kind tk z0 z1 z2 z3 z4 z5) (own_kind qk z0 z1 z2 z3 z4 z5) (own_text tl p2) (own_text ql p2))), .val (.int (255 : Int32)), .unset] [(.int ql), (.int tl)])) _
            by_cases hc204 : tl = ql
            · skip
              refine own_go (fun _ k => XS.icmpNo X198.here hx rfl (hb hby at_184) rfl (teq hc204).2 k) ?_
              show own_Go p e below (T198.setTop (mkF m 187 #[.val (.int p1), .val (.int p2), .val (.int p3), .val (.int p4), .val (.int p5), .val (.int tk), .val (.int tl), .val (.int qk), .val (.int ql), .val (.int (0 : Int32)), .val (.int (1 : Int32)), .val (.int p2), .val (.ref b174), .val (.ref x188), .val (.int (own_isr (own_kind tk z0 z1 z2 z3 z4 z5) (own_kind qk z0 z1 z2 z3 z4 z5) (own_text tl p2) (own_text ql p2))), .val (.int (255 : Int32)), .unset] [])) _
              refine own_go (fun _ k => XS.iloadN X198.here hx rfl (hb hby at_187) rfl k) ?_
              show own_Go p e below (T198.setTop (mkF m 188 #[.val (.int p1), .val (.int p2), .val (.int p3), .val (.int p4), .val (.int p5), .val (.int tk), .val (.int tl), .val (.int qk), .val (.int ql), .val (.int (0 : Int32)), .val (.int (1 : Int32)), .val (.int p2), .val (.ref b174), .val (.ref x188), .val (.int (own_isr (own_kind tk z0 z1 z2 z3 z4 z5) (own_kind qk z0 z1 z2 z3 z4 z5) (own_text tl p2) (own_text ql p2))), .val (.int (255 : Int32)), .unset] [(.int p2)])) _
              refine own_go (fun _ k => XS.iload X198.here hx rfl (hb hby at_188) rfl k) ?_
              show own_Go p e below (T198.setTop (mkF m 190 #[.val (.int p1), .val (.int p2), .val (.int p3), .val (.int p4), .val (.int p5), .val (.int tk), .val (.int tl), .val (.int qk), .val (.int ql), .val (.int (0 : Int32)), .val (.int (1 : Int32)), .val (.int p2), .val (.ref b174), .val (.ref x188), .val (.int (own_isr (own_kind tk z0 z1 z2 z3 z4 z5) (own_kind qk z0 z1 z2 z3 z4 z5) (own_text tl p2) (own_text ql p2))), .val (.int (255 : Int32)), .unset] [(.int p2), (.int p2)])) _
              refine own_go (fun _ k => XS.ixor X198.here hx rfl (hb hby at_190) rfl k) ?_
              show own_Go p e below (T198.setTop (mkF m 191 #[.val (.int p1), .val (.int p2), .val (.int p3), .val (.int p4), .val (.int p5), .val (.int tk), .val (.int tl), .val (.int qk), .val (.int ql), .val (.int (0 : Int32)), .val (.int (1 : Int32)), .val (.int p2), .val (.ref b174), .val (.ref x188), .val (.int (own_isr (own_kind tk z0 z1 z2 z3 z4 z5) (own_kind qk z0 z1 z2 z3 z4 z5) (own_text tl p2) (own_text ql p2))), .val (.int (255 : Int32)), .unset] [(.int (p2 ^^^ p2))])) _
              refine own_go (fun _ k => XS.iload X198.here hx rfl (hb hby at_191) rfl k) ?_
              show own_Go p e below (T198.setTop (mkF m 193 #[.val (.int p1), .val (.int p2), .val (.int p3), .val (.int p4), .val (.int p5), .val (.int tk), .val (.int tl), .val (.int qk), .val (.int ql), .val (.int (0 : Int32)), .val (.int (1 : Int32)), .val (.int p2), .val (.ref b174), .val (.ref x188), .val (.int (own_isr (own_kind tk z0 z1 z2 z3 z4 z5) (own_kind qk z0 z1 z2 z3 z4 z5) (own_text tl p2) (own_text ql p2))), .val (.int (255 : Int32)), .unset] [(.int (255 : Int32)), (.int (p2 ^^^ p2))])) _
              refine own_go (fun _ k => XS.iand X198.here hx rfl (hb hby at_193) rfl k) ?_
              show own_Go p e below (T198.setTop (mkF m 194 #[.val (.int p1), .val (.int p2), .val (.int p3), .val (.int p4), .val (.int p5), .val (.int tk), .val (.int tl), .val (.int qk), .val (.int ql), .val (.int (0 : Int32)), .val (.int (1 : Int32)), .val (.int p2), .val (.ref b174), .val (.ref x188), .val (.int (own_isr (own_kind tk z0 z1 z2 z3 z4 z5) (own_kind qk z0 z1 z2 z3 z4 z5) (own_text tl p2) (own_text ql p2))), .val (.int (255 : Int32)), .unset] [(.int ((p2 ^^^ p2) &&& (255 : Int32)))])) _
              by_cases hc205 : ((p2 ^^^ p2) &&& (255 : Int32)) = (0 : Int32)
              · skip
                refine own_go (fun _ k => XS.ifNo X198.here hx rfl (hb hby at_194) rfl ((if0 _ _).trans (teq hc205).2) k) ?_
                show own_Go p e below (T198.setTop (mkF m 197 #[.val (.int p1), .val (.int p2), .val (.int p3), .val (.int p4), .val (.int p5), .val (.int tk), .val (.int tl), .val (.int qk), .val (.int ql), .val (.int (0 : Int32)), .val (.int (1 : Int32)), .val (.int p2), .val (.ref b174), .val (.ref x188), .val (.int (own_isr (own_kind tk z0 z1 z2 z3 z4 z5) (own_kind qk z0 z1 z2 z3 z4 z5) (own_text tl p2) (own_text ql p2))), .val (.int (255 : Int32)), .unset] [])) _
                refine own_go (fun _ k => XS.iconst X198.here hx rfl (hb hby at_197) k) ?_
                show own_Go p e below (T198.setTop (mkF m 198 #[.val (.int p1), .val (.int p2), .val (.int p3), .val (.int p4), .val (.int p5), .val (.int tk), .val (.int tl), .val (.int qk), .val (.int ql), .val (.int (0 : Int32)), .val (.int (1 : Int32)), .val (.int p2), .val (.ref b174), .val (.ref x188), .val (.int (own_isr (own_kind tk z0 z1 z2 z3 z4 z5) (own_kind qk z0 z1 z2 z3 z4 z5) (own_text tl p2) (own_text ql p2))), .val (.int (255 : Int32)), .unset] [(.int (1 : Int32))])) _
                refine own_go (fun _ k => XS.goto X198.here hx rfl (pc0 := 198) (pc' := 202) rfl (hb hby at_198) (by decide) (by decide) k) ?_
                show own_Go p e below (T198.setTop (mkF m 202 #[.val (.int p1), .val (.int p2), .val (.int p3), .val (.int p4), .val (.int p5), .val (.int tk), .val (.int tl), .val (.int qk), .val (.int ql), .val (.int (0 : Int32)), .val (.int (1 : Int32)), .val (.int p2), .val (.ref b174), .val (.ref x188), .val (.int (own_isr (own_kind tk z0 z1 z2 z3 z4 z5) (own_kind qk z0 z1 z2 z3 z4 z5) (own_text tl p2) (own_text ql p2))), .val (.int (255 : Int32)), .unset] [(.int (1 : Int32))])) _
                refine own_go (fun _ k => XS.istore X198.here hx rfl (hb hby at_202) rfl (l' := #[.val (.int p1), .val (.int p2), .val (.int p3), .val (.int p4), .val (.int p5), .val (.int tk), .val (.int tl), .val (.int qk), .val (.int ql), .val (.int (0 : Int32)), .val (.int (1 : Int32)), .val (.int p2), .val (.ref b174), .val (.ref x188), .val (.int (own_isr (own_kind tk z0 z1 z2 z3 z4 z5) (own_kind qk z0 z1 z2 z3 z4 z5) (own_text tl p2) (own_text ql p2))), .val (.int (255 : Int32)), .val (.int (1 : Int32))]) rfl k) ?_
                show own_Go p e below (T198.setTop (mkF m 204 #[.val (.int p1), .val (.int p2), .val (.int p3), .val (.int p4), .val (.int p5), .val (.int tk), .val (.int tl), .val (.int qk), .val (.int ql), .val (.int (0 : Int32)), .val (.int (1 : Int32)), .val (.int p2), .val (.ref b174), .val (.ref x188), .val (.int (own_isr (own_kind tk z0 z1 z2 z3 z4 z5) (own_kind qk z0 z1 z2 z3 z4 z5) (own_text tl p2) (own_text ql p2))), .val (.int (255 : Int32)), .val (.int (1 : Int32))] [])) _
                refine own_go (fun _ k => XS.iload X198.here hx rfl (hb hby at_204) rfl k) ?_
                show own_Go p e below (T198.setTop (mkF m 206 #[.val (.int p1), .val (.int p2), .val (.int p3), .val (.int p4), .val (.int p5), .val (.int tk), .val (.int tl), .val (.int qk), .val (.int ql), .val (.int (0 : Int32)), .val (.int (1 : Int32)), .val (.int p2), .val (.ref b174), .val (.ref x188), .val (.int (own_isr (own_kind tk z0 z1 z2 z3 z4 z5) (own_kind qk z0 z1 z2 z3 z4 z5) (own_text tl p2) (own_text ql p2))), .val (.int (255 : Int32)), .val (.int (1 : Int32))] [(.int (own_isr (own_kind tk z0 z1 z2 z3 z4 z5) (own_kind qk z0 z1 z2 z3 z4 z5) (own_text tl p2) (own_text ql p2)))])) _
                refine own_go (fun _ k => XS.iload X198.here hx rfl (hb hby at_206) rfl k) ?_
                show own_Go p e below (T198.setTop (mkF m 208 #[.val (.int p1), .val (.int p2), .val (.int p3), .val (.int p4), .val (.int p5), .val (.int tk), .val (.int tl), .val (.int qk), .val (.int ql), .val (.int (0 : Int32)), .val (.int (1 : Int32)), .val (.int p2), .val (.ref b174), .val (.ref x188), .val (.int (own_isr (own_kind tk z0 z1 z2 z3 z4 z5) (own_kind qk z0 z1 z2 z3 z4 z5) (own_text tl p2) (own_text ql p2))), .val (.int (255 : Int32)), .val (.int (1 : Int32))] [(.int (1 : Int32)), (.int (own_isr (own_kind tk z0 z1 z2 z3 z4 z5) (own_kind qk z0 z1 z2 z3 z4 z5) (own_text tl p2) (own_text ql p2)))])) _
                refine own_go (fun _ k => XS.icmpNo X198.here hx rfl (hb hby at_208) rfl (teq (own_isr_yy (congrArg (fun z => own_kind z z0 z1 z2 z3 z4 z5) hc203.symm) ((own_tx1 hc199 hc202 hc204).mpr hc205))).2 k) ?_
                show own_Go p e below (T198.setTop (mkF m 211 #[.val (.int p1), .val (.int p2), .val (.int p3), .val (.int p4), .val (.int p5), .val (.int tk), .val (.int tl), .val (.int qk), .val (.int ql), .val (.int (0 : Int32)), .val (.int (1 : Int32)), .val (.int p2), .val (.ref b174), .val (.ref x188), .val (.int (own_isr (own_kind tk z0 z1 z2 z3 z4 z5) (own_kind qk z0 z1 z2 z3 z4 z5) (own_text tl p2) (own_text ql p2))), .val (.int (255 : Int32)), .val (.int (1 : Int32))] [])) _
                refine own_go (fun _ k => XS.iconst X198.here hx rfl (hb hby at_211) k) ?_
                show own_Go p e below (T198.setTop (mkF m 212 #[.val (.int p1), .val (.int p2), .val (.int p3), .val (.int p4), .val (.int p5), .val (.int tk), .val (.int tl), .val (.int qk), .val (.int ql), .val (.int (0 : Int32)), .val (.int (1 : Int32)), .val (.int p2), .val (.ref b174), .val (.ref x188), .val (.int (own_isr (own_kind tk z0 z1 z2 z3 z4 z5) (own_kind qk z0 z1 z2 z3 z4 z5) (own_text tl p2) (own_text ql p2))), .val (.int (255 : Int32)), .val (.int (1 : Int32))] [(.int (1 : Int32))])) _
                refine own_go (fun _ k => XS.goto X198.here hx rfl (pc0 := 212) (pc' := 216) rfl (hb hby at_212) (by decide) (by decide) k) ?_
                show own_Go p e below (T198.setTop (mkF m 216 #[.val (.int p1), .val (.int p2), .val (.int p3), .val (.int p4), .val (.int p5), .val (.int tk), .val (.int tl), .val (.int qk), .val (.int ql), .val (.int (0 : Int32)), .val (.int (1 : Int32)), .val (.int p2), .val (.ref b174), .val (.ref x188), .val (.int (own_isr (own_kind tk z0 z1 z2 z3 z4 z5) (own_kind qk z0 z1 z2 z3 z4 z5) (own_text tl p2) (own_text ql p2))), .val (.int (255 : Int32)), .val (.int (1 : Int32))] [(.int (1 : Int32))])) _
                refine own_finW (v := (some (.int (nar .boolean (1 : Int32))))) X198 hh hZ188 hS188 (by rw [e198]; exact (Nat.le_refl _)) (fun h => by rw [hrt] at h; cases h) hlk (fun fs hr => retN X198 hx (t := .boolean) hrt (by simp) (hb hby at_216) hr) (QQ := QQ0 n0) ?_ own_hEL e198 (C189) (by decide) (by decide)
                rw [e198]
                exact ⟨rfl, N198⟩
              · skip
                refine own_go (fun _ k => XS.ifYes X198.here hx rfl (pc0 := 194) (pc' := 201) rfl (hb hby at_194) rfl ((if0 _ _).trans (feq hc205).2) (by decide) (by decide) k) ?_
                show own_Go p e below (T198.setTop (mkF m 201 #[.val (.int p1), .val (.int p2), .val (.int p3), .val (.int p4), .val (.int p5), .val (.int tk), .val (.int tl), .val (.int qk), .val (.int ql), .val (.int (0 : Int32)), .val (.int (1 : Int32)), .val (.int p2), .val (.ref b174), .val (.ref x188), .val (.int (own_isr (own_kind tk z0 z1 z2 z3 z4 z5) (own_kind qk z0 z1 z2 z3 z4 z5) (own_text tl p2) (own_text ql p2))), .val (.int (255 : Int32)), .unset] [])) _
                refine own_go (fun _ k => XS.iconst X198.here hx rfl (hb hby at_201) k) ?_
                show own_Go p e below (T198.setTop (mkF m 202 #[.val (.int p1), .val (.int p2), .val (.int p3), .val (.int p4), .val (.int p5), .val (.int tk), .val (.int tl), .val (.int qk), .val (.int ql), .val (.int (0 : Int32)), .val (.int (1 : Int32)), .val (.int p2), .val (.ref b174), .val (.ref x188), .val (.int (own_isr (own_kind tk z0 z1 z2 z3 z4 z5) (own_kind qk z0 z1 z2 z3 z4 z5) (own_text tl p2) (own_text ql p2))), .val (.int (255 : Int32)), .unset] [(.int (0 : Int32))])) _
                refine own_go (fun _ k => XS.istore X198.here hx rfl (hb hby at_202) rfl (l' := #[.val (.int p1), .val (.int p2), .val (.int p3), .val (.int p4), .val (.int p5), .val (.int tk), .val (.int tl), .val (.int qk), .val (.int ql), .val (.int (0 : Int32)), .val (.int (1 : Int32)), .val (.int p2), .val (.ref b174), .val (.ref x188), .val (.int (own_isr (own_kind tk z0 z1 z2 z3 z4 z5) (own_kind qk z0 z1 z2 z3 z4 z5) (own_text tl p2) (own_text ql p2))), .val (.int (255 : Int32)), .val (.int (0 : Int32))]) rfl k) ?_
                show own_Go p e below (T198.setTop (mkF m 204 #[.val (.int p1), .val (.int p2), .val (.int p3), .val (.int p4), .val (.int p5), .val (.int tk), .val (.int tl), .val (.int qk), .val (.int ql), .val (.int (0 : Int32)), .val (.int (1 : Int32)), .val (.int p2), .val (.ref b174), .val (.ref x188), .val (.int (own_isr (own_kind tk z0 z1 z2 z3 z4 z5) (own_kind qk z0 z1 z2 z3 z4 z5) (own_text tl p2) (own_text ql p2))), .val (.int (255 : Int32)), .val (.int (0 : Int32))] [])) _
                refine own_go (fun _ k => XS.iload X198.here hx rfl (hb hby at_204) rfl k) ?_
                show own_Go p e below (T198.setTop (mkF m 206 #[.val (.int p1), .val (.int p2), .val (.int p3), .val (.int p4), .val (.int p5), .val (.int tk), .val (.int tl), .val (.int qk), .val (.int ql), .val (.int (0 : Int32)), .val (.int (1 : Int32)), .val (.int p2), .val (.ref b174), .val (.ref x188), .val (.int (own_isr (own_kind tk z0 z1 z2 z3 z4 z5) (own_kind qk z0 z1 z2 z3 z4 z5) (own_text tl p2) (own_text ql p2))), .val (.int (255 : Int32)), .val (.int (0 : Int32))] [(.int (own_isr (own_kind tk z0 z1 z2 z3 z4 z5) (own_kind qk z0 z1 z2 z3 z4 z5) (own_text tl p2) (own_text ql p2)))])) _
                refine own_go (fun _ k => XS.iload X198.here hx rfl (hb hby at_206) rfl k) ?_
                show own_Go p e below (T198.setTop (mkF m 208 #[.val (.int p1), .val (.int p2), .val (.int p3), .val (.int p4), .val (.int p5), .val (.int tk), .val (.int tl), .val (.int qk), .val (.int ql), .val (.int (0 : Int32)), .val (.int (1 : Int32)), .val (.int p2), .val (.ref b174), .val (.ref x188), .val (.int (own_isr (own_kind tk z0 z1 z2 z3 z4 z5) (own_kind qk z0 z1 z2 z3 z4 z5) (own_text tl p2) (own_text ql p2))), .val (.int (255 : Int32)), .val (.int (0 : Int32))] [(.int (0 : Int32)), (.int (own_isr (own_kind tk z0 z1 z2 z3 z4 z5) (own_kind qk z0 z1 z2 z3 z4 z5) (own_text tl p2) (own_text ql p2)))])) _
                refine own_go (fun _ k => XS.icmpNo X198.here hx rfl (hb hby at_208) rfl (teq (own_isr_m (fun q => hc205 ((own_tx1 hc199 hc202 hc204).mp q)))).2 k) ?_
                show own_Go p e below (T198.setTop (mkF m 211 #[.val (.int p1), .val (.int p2), .val (.int p3), .val (.int p4), .val (.int p5), .val (.int tk), .val (.int tl), .val (.int qk), .val (.int ql), .val (.int (0 : Int32)), .val (.int (1 : Int32)), .val (.int p2), .val (.ref b174), .val (.ref x188), .val (.int (own_isr (own_kind tk z0 z1 z2 z3 z4 z5) (own_kind qk z0 z1 z2 z3 z4 z5) (own_text tl p2) (own_text ql p2))), .val (.int (255 : Int32)), .val (.int (0 : Int32))] [])) _
                refine own_go (fun _ k => XS.iconst X198.here hx rfl (hb hby at_211) k) ?_
                show own_Go p e below (T198.setTop (mkF m 212 #[.val (.int p1), .val (.int p2), .val (.int p3), .val (.int p4), .val (.int p5), .val (.int tk), .val (.int tl), .val (.int qk), .val (.int ql), .val (.int (0 : Int32)), .val (.int (1 : Int32)), .val (.int p2), .val (.ref b174), .val (.ref x188), .val (.int (own_isr (own_kind tk z0 z1 z2 z3 z4 z5) (own_kind qk z0 z1 z2 z3 z4 z5) (own_text tl p2) (own_text ql p2))), .val (.int (255 : Int32)), .val (.int (0 : Int32))] [(.int (1 : Int32))])) _
                refine own_go (fun _ k => XS.goto X198.here hx rfl (pc0 := 212) (pc' := 216) rfl (hb hby at_212) (by decide) (by decide) k) ?_
                show own_Go p e below (T198.setTop (mkF m 216 #[.val (.int p1), .val (.int p2), .val (.int p3), .val (.int p4), .val (.int p5), .val (.int tk), .val (.int tl), .val (.int qk), .val (.int ql), .val (.int (0 : Int32)), .val (.int (1 : Int32)), .val (.int p2), .val (.ref b174), .val (.ref x188), .val (.int (own_isr (own_kind tk z0 z1 z2 z3 z4 z5) (own_kind qk z0 z1 z2 z3 z4 z5) (own_text tl p2) (own_text ql p2))), .val (.int (255 : Int32)), .val (.int (0 : Int32))] [(.int (1 : Int32))])) _
                refine own_finW (v := (some (.int (nar .boolean (1 : Int32))))) X198 hh hZ188 hS188 (by rw [e198]; exact (Nat.le_refl _)) (fun h => by rw [hrt] at h; cases h) hlk (fun fs hr => retN X198 hx (t := .boolean) hrt (by simp) (hb hby at_216) hr) (QQ := QQ0 n0) ?_ own_hEL e198 (C189) (by decide) (by decide)
                rw [e198]
                exact ⟨rfl, N198⟩
            · skip
              refine own_go (fun _ k => XS.icmpYes X198.here hx rfl (pc0 := 184) (pc' := 201) rfl (hb hby at_184) rfl (feq hc204).2 (by decide) (by decide) k) ?_
              show own_Go p e below (T198.setTop (mkF m 201 #[.val (.int p1), .val (.int p2), .val (.int p3), .val (.int p4), .val (.int p5), .val (.int tk), .val (.int tl), .val (.int qk), .val (.int ql), .val (.int (0 : Int32)), .val (.int (1 : Int32)), .val (.int p2), .val (.ref b174), .val (.ref x188), .val (.int (own_isr (own_kind tk z0 z1 z2 z3 z4 z5) (own_kind qk z0 z1 z2 z3 z4 z5) (own_text tl p2) (own_text ql p2))), .val (.int (255 : Int32)), .unset] [])) _
              refine own_go (fun _ k => XS.iconst X198.here hx rfl (hb hby at_201) k) ?_
              show own_Go p e below (T198.setTop (mkF m 202 #[.val (.int p1), .val (.int p2), .val (.int p3), .val (.int p4), .val (.int p5), .val (.int tk), .val (.int tl), .val (.int qk), .val (.int ql), .val (.int (0 : Int32)), .val (.int (1 : Int32)), .val (.int p2), .val (.ref b174), .val (.ref x188), .val (.int (own_isr (own_kind tk z0 z1 z2 z3 z4 z5) (own_kind qk z0 z1 z2 z3 z4 z5) (own_text tl p2) (own_text ql p2))), .val (.int (255 : Int32)), .unset] [(.int (0 : Int32))])) _
              refine own_go (fun _ k => XS.istore X198.here hx rfl (hb hby at_202) rfl (l' := #[.val (.int p1), .val (.int p2), .val (.int p3), .val (.int p4), .val (.int p5), .val (.int tk), .val (.int tl), .val (.int qk), .val (.int ql), .val (.int (0 : Int32)), .val (.int (1 : Int32)), .val (.int p2), .val (.ref b174), .val (.ref x188), .val (.int (own_isr (own_kind tk z0 z1 z2 z3 z4 z5) (own_kind qk z0 z1 z2 z3 z4 z5) (own_text tl p2) (own_text ql p2))), .val (.int (255 : Int32)), .val (.int (0 : Int32))]) rfl k) ?_
              show own_Go p e below (T198.setTop (mkF m 204 #[.val (.int p1), .val (.int p2), .val (.int p3), .val (.int p4), .val (.int p5), .val (.int tk), .val (.int tl), .val (.int qk), .val (.int ql), .val (.int (0 : Int32)), .val (.int (1 : Int32)), .val (.int p2), .val (.ref b174), .val (.ref x188), .val (.int (own_isr (own_kind tk z0 z1 z2 z3 z4 z5) (own_kind qk z0 z1 z2 z3 z4 z5) (own_text tl p2) (own_text ql p2))), .val (.int (255 : Int32)), .val (.int (0 : Int32))] [])) _
              refine own_go (fun _ k => XS.iload X198.here hx rfl (hb hby at_204) rfl k) ?_
              show own_Go p e below (T198.setTop (mkF m 206 #[.val (.int p1), .val (.int p2), .val (.int p3), .val (.int p4), .val (.int p5), .val (.int tk), .val (.int tl), .val (.int qk), .val (.int ql), .val (.int (0 : Int32)), .val (.int (1 : Int32)), .val (.int p2), .val (.ref b174), .val (.ref x188), .val (.int (own_isr (own_kind tk z0 z1 z2 z3 z4 z5) (own_kind qk z0 z1 z2 z3 z4 z5) (own_text tl p2) (own_text ql p2))), .val (.int (255 : Int32)), .val (.int (0 : Int32))] [(.int (own_isr (own_kind tk z0 z1 z2 z3 z4 z5) (own_kind qk z0 z1 z2 z3 z4 z5) (own_text tl p2) (own_text ql p2)))])) _
              refine own_go (fun _ k => XS.iload X198.here hx rfl (hb hby at_206) rfl k) ?_
              show own_Go p e below (T198.setTop (mkF m 208 #[.val (.int p1), .val (.int p2), .val (.int p3), .val (.int p4), .val (.int p5), .val (.int tk), .val (.int tl), .val (.int qk), .val (.int ql), .val (.int (0 : Int32)), .val (.int (1 : Int32)), .val (.int p2), .val (.ref b174), .val (.ref x188), .val (.int (own_isr (own_kind tk z0 z1 z2 z3 z4 z5) (own_kind qk z0 z1 z2 z3 z4 z5) (own_text tl p2) (own_text ql p2))), .val (.int (255 : Int32)), .val (.int (0 : Int32))] [(.int (0 : Int32)), (.int (own_isr (own_kind tk z0 z1 z2 z3 z4 z5) (own_kind qk z0 z1 z2 z3 z4 z5) (own_text tl p2) (own_text ql p2)))])) _
              refine own_go (fun _ k => XS.icmpNo X198.here hx rfl (hb hby at_208) rfl (teq (own_isr_m (own_text_ne (h_tl ▸ own_a3 _) (h_ql ▸ own_a3 _) hc204))).2 k) ?_
              show own_Go p e below (T198.setTop (mkF m 211 #[.val (.int p1), .val (.int p2), .val (.int p3), .val (.int p4), .val (.int p5), .val (.int tk), .val (.int tl), .val (.int qk), .val (.int ql), .val (.int (0 : Int32)), .val (.int (1 : Int32)), .val (.int p2), .val (.ref b174), .val (.ref x188), .val (.int (own_isr (own_kind tk z0 z1 z2 z3 z4 z5) (own_kind qk z0 z1 z2 z3 z4 z5) (own_text tl p2) (own_text ql p2))), .val (.int (255 : Int32)), .val (.int (0 : Int32))] [])) _
              refine own_go (fun _ k => XS.iconst X198.here hx rfl (hb hby at_211) k) ?_
              show own_Go p e below (T198.setTop (mkF m 212 #[.val (.int p1), .val (.int p2), .val (.int p3), .val (.int p4), .val (.int p5), .val (.int tk), .val (.int tl), .val (.int qk), .val (.int ql), .val (.int (0 : Int32)), .val (.int (1 : Int32)), .val (.int p2), .val (.ref b174), .val (.ref x188), .val (.int (own_isr (own_kind tk z0 z1 z2 z3 z4 z5) (own_kind qk z0 z1 z2 z3 z4 z5) (own_text tl p2) (own_text ql p2))), .val (.int (255 : Int32)), .val (.int (0 : Int32))] [(.int (1 : Int32))])) _
              refine own_go (fun _ k => XS.goto X198.here hx rfl (pc0 := 212) (pc' := 216) rfl (hb hby at_212) (by decide) (by decide) k) ?_
              show own_Go p e below (T198.setTop (mkF m 216 #[.val (.int p1), .val (.int p2), .val (.int p3), .val (.int p4), .val (.int p5), .val (.int tk), .val (.int tl), .val (.int qk), .val (.int ql), .val (.int (0 : Int32)), .val (.int (1 : Int32)), .val (.int p2), .val (.ref b174), .val (.ref x188), .val (.int (own_isr (own_kind tk z0 z1 z2 z3 z4 z5) (own_kind qk z0 z1 z2 z3 z4 z5) (own_text tl p2) (own_text ql p2))), .val (.int (255 : Int32)), .val (.int (0 : Int32))] [(.int (1 : Int32))])) _
              refine own_finW (v := (some (.int (nar .boolean (1 : Int32))))) X198 hh hZ188 hS188 (by rw [e198]; exact (Nat.le_refl _)) (fun h => by rw [hrt] at h; cases h) hlk (fun fs hr => retN X198 hx (t := .boolean) hrt (by simp) (hb hby at_216) hr) (QQ := QQ0 n0) ?_ own_hEL e198 (C189) (by decide) (by decide)
              rw [e198]
              exact ⟨rfl, N198⟩
          · skip
            refine own_go (fun _ k => XS.icmpYes X198.here hx rfl (pc0 := 172) (pc' := 201) rfl (hb hby at_172) rfl (feq hc203).2 (by decide) (by decide) k) ?_
            show own_Go p e below (T198.setTop (mkF m 201 #[.val (.int p1), .val (.int p2), .val (.int p3), .val (.int p4), .val (.int p5), .val (.int tk), .val (.int tl), .val (.int qk), .val (.int ql), .val (.int (0 : Int32)), .val (.int (1 : Int32)), .val (.int p2), .val (.ref b174), .val (.ref x188), .val (.int (own_isr (own_kind tk z0 z1 z2 z3 z4 z5) (own_kind qk z0 z1 z2 z3 z4 z5) (own_text tl p2) (own_text ql p2))), .val (.int (255 : Int32)), .unset] [])) _
            refine own_go (fun _ k => XS.iconst X198.here hx rfl (hb hby at_201) k) ?_
            show own_Go p e below (T198.setTop (mkF m 202 #[.val (.int p1), .val (.int p2), .val (.int p3), .val (.int p4), .val (.int p5), .val (.int tk), .val (.int tl), .val (.int qk), .val (.int ql), .val (.int (0 : Int32)), .val (.int (1 : Int32)), .val (.int p2), .val (.ref b174), .val (.ref x188), .val (.int (own_isr (own_kind tk z0 z1 z2 z3 z4 z5) (own_kind qk z0 z1 z2 z3 z4 z5) (own_text tl p2) (own_text ql p2))), .val (.int (255 : Int32)), .unset] [(.int (0 : Int32))])) _
            refine own_go (fun _ k => XS.istore X198.here hx rfl (hb hby at_202) rfl (l' := #[.val (.int p1), .val (.int p2), .val (.int p3), .val (.int p4), .val (.int p5), .val (.int tk), .val (.int tl), .val (.int qk), .val (.int ql), .val (.int (0 : Int32)), .val (.int (1 : Int32)), .val (.int p2), .val (.ref b174), .val (.ref x188), .val (.int (own_isr (own_kind tk z0 z1 z2 z3 z4 z5) (own_kind qk z0 z1 z2 z3 z4 z5) (own_text tl p2) (own_text ql p2))), .val (.int (255 : Int32)), .val (.int (0 : Int32))]) rfl k) ?_
            show own_Go p e below (T198.setTop (mkF m 204 #[.val (.int p1), .val (.int p2), .val (.int p3), .val (.int p4), .val (.int p5), .val (.int tk), .val (.int tl), .val (.int qk), .val (.int ql), .val (.int (0 : Int32)), .val (.int (1 : Int32)), .val (.int p2), .val (.ref b174), .val (.ref x188), .val (.int (own_isr (own_kind tk z0 z1 z2 z3 z4 z5) (own_kind qk z0 z1 z2 z3 z4 z5) (own_text tl p2) (own_text ql p2))), .val (.int (255 : Int32)), .val (.int (0 : Int32))] [])) _
            refine own_go (fun _ k => XS.iload X198.here hx rfl (hb hby at_204) rfl k) ?_
            show own_Go p e below (T198.setTop (mkF m 206 #[.val (.int p1), .val (.int p2), .val (.int p3), .val (.int p4), .val (.int p5), .val (.int tk), .val (.int tl), .val (.int qk), .val (.int ql), .val (.int (0 : Int32)), .val (.int (1 : Int32)), .val (.int p2), .val (.ref b174), .val (.ref x188), .val (.int (own_isr (own_kind tk z0 z1 z2 z3 z4 z5) (own_kind qk z0 z1 z2 z3 z4 z5) (own_text tl p2) (own_text ql p2))), .val (.int (255 : Int32)), .val (.int (0 : Int32))] [(.int (own_isr (own_kind tk z0 z1 z2 z3 z4 z5) (own_kind qk z0 z1 z2 z3 z4 z5) (own_text tl p2) (own_text ql p2)))])) _
            refine own_go (fun _ k => XS.iload X198.here hx rfl (hb hby at_206) rfl k) ?_
            show own_Go p e below (T198.setTop (mkF m 208 #[.val (.int p1), .val (.int p2), .val (.int p3), .val (.int p4), .val (.int p5), .val (.int tk), .val (.int tl), .val (.int qk), .val (.int ql), .val (.int (0 : Int32)), .val (.int (1 : Int32)), .val (.int p2), .val (.ref b174), .val (.ref x188), .val (.int (own_isr (own_kind tk z0 z1 z2 z3 z4 z5) (own_kind qk z0 z1 z2 z3 z4 z5) (own_text tl p2) (own_text ql p2))), .val (.int (255 : Int32)), .val (.int (0 : Int32))] [(.int (0 : Int32)), (.int (own_isr (own_kind tk z0 z1 z2 z3 z4 z5) (own_kind qk z0 z1 z2 z3 z4 z5) (own_text tl p2) (own_text ql p2)))])) _
            refine own_go (fun _ k => XS.icmpNo X198.here hx rfl (hb hby at_208) rfl (teq (own_isr_n1 (own_kind_ne hz (h_tk ▸ own_i6 p1) (h_qk ▸ own_i7 p3) (fun q => hc203 q.symm)))).2 k) ?_
            show own_Go p e below (T198.setTop (mkF m 211 #[.val (.int p1), .val (.int p2), .val (.int p3), .val (.int p4), .val (.int p5), .val (.int tk), .val (.int tl), .val (.int qk), .val (.int ql), .val (.int (0 : Int32)), .val (.int (1 : Int32)), .val (.int p2), .val (.ref b174), .val (.ref x188), .val (.int (own_isr (own_kind tk z0 z1 z2 z3 z4 z5) (own_kind qk z0 z1 z2 z3 z4 z5) (own_text tl p2) (own_text ql p2))), .val (.int (255 : Int32)), .val (.int (0 : Int32))] [])) _
            refine own_go (fun _ k => XS.iconst X198.here hx rfl (hb hby at_211) k) ?_
            show own_Go p e below (T198.setTop (mkF m 212 #[.val (.int p1), .val (.int p2), .val (.int p3), .val (.int p4), .val (.int p5), .val (.int tk), .val (.int tl), .val (.int qk), .val (.int ql), .val (.int (0 : Int32)), .val (.int (1 : Int32)), .val (.int p2), .val (.ref b174), .val (.ref x188), .val (.int (own_isr (own_kind tk z0 z1 z2 z3 z4 z5) (own_kind qk z0 z1 z2 z3 z4 z5) (own_text tl p2) (own_text ql p2))), .val (.int (255 : Int32)), .val (.int (0 : Int32))] [(.int (1 : Int32))])) _
            refine own_go (fun _ k => XS.goto X198.here hx rfl (pc0 := 212) (pc' := 216) rfl (hb hby at_212) (by decide) (by decide) k) ?_
            show own_Go p e below (T198.setTop (mkF m 216 #[.val (.int p1), .val (.int p2), .val (.int p3), .val (.int p4), .val (.int p5), .val (.int tk), .val (.int tl), .val (.int qk), .val (.int ql), .val (.int (0 : Int32)), .val (.int (1 : Int32)), .val (.int p2), .val (.ref b174), .val (.ref x188), .val (.int (own_isr (own_kind tk z0 z1 z2 z3 z4 z5) (own_kind qk z0 z1 z2 z3 z4 z5) (own_text tl p2) (own_text ql p2))), .val (.int (255 : Int32)), .val (.int (0 : Int32))] [(.int (1 : Int32))])) _
            refine own_finW (v := (some (.int (nar .boolean (1 : Int32))))) X198 hh hZ188 hS188 (by rw [e198]; exact (Nat.le_refl _)) (fun h => by rw [hrt] at h; cases h) hlk (fun fs hr => retN X198 hx (t := .boolean) hrt (by simp) (hb hby at_216) hr) (QQ := QQ0 n0) ?_ own_hEL e198 (C189) (by decide) (by decide)
            rw [e198]
            exact ⟨rfl, N198⟩
        · skip
          refine own_go (fun _ k => XS.icmpYes X198.here hx rfl (pc0 := 144) (pc' := 153) rfl (hb hby at_144) rfl (feq hc202).2 (by decide) (by decide) k) ?_
          show own_Go p e below (T198.setTop (mkF m 153 #[.val (.int p1), .val (.int p2), .val (.int p3), .val (.int p4), .val (.int p5), .val (.int tk), .val (.int tl), .val (.int qk), .val (.int ql), .val (.int (0 : Int32)), .val (.int (1 : Int32)), .val (.int p2), .val (.ref b174), .val (.ref x188), .val (.int (own_isr (own_kind tk z0 z1 z2 z3 z4 z5) (own_kind qk z0 z1 z2 z3 z4 z5) (own_text tl p2) (own_text ql p2))), .unset, .unset] [])) _
          refine own_go (fun _ k => XS.iload X198.here hx rfl (hb hby at_153) rfl k) ?_
          show own_Go p e below (T198.setTop (mkF m 155 #[.val (.int p1), .val (.int p2), .val (.int p3), .val (.int p4), .val (.int p5), .val (.int tk), .val (.int tl), .val (.int qk), .val (.int ql), .val (.int (0 : Int32)), .val (.int (1 : Int32)), .val (.int p2), .val (.ref b174), .val (.ref x188), .val (.int (own_isr (own_kind tk z0 z1 z2 z3 z4 z5) (own_kind qk z0 z1 z2 z3 z4 z5) (own_text tl p2) (own_text ql p2))), .unset, .unset] [(.int tl)])) _
          refine own_go (fun _ k => XS.iconst X198.here hx rfl (hb hby at_155) k) ?_
          show own_Go p e below (T198.setTop (mkF m 156 #[.val (.int p1), .val (.int p2), .val (.int p3), .val (.int p4), .val (.int p5), .val (.int tk), .val (.int tl), .val (.int qk), .val (.int ql), .val (.int (0 : Int32)), .val (.int (1 : Int32)), .val (.int p2), .val (.ref b174), .val (.ref x188), .val (.int (own_isr (own_kind tk z0 z1 z2 z3 z4 z5) (own_kind qk z0 z1 z2 z3 z4 z5) (own_text tl p2) (own_text ql p2))), .unset, .unset] [(.int (2 : Int32)), (.int tl)])) _
          by_cases hc206 : tl = (2 : Int32)
          · skip
            refine own_go (fun _ k => XS.icmpNo X198.here hx rfl (hb hby at_156) rfl (teq hc206).2 k) ?_
            show own_Go p e below (T198.setTop (mkF m 159 #[.val (.int p1), .val (.int p2), .val (.int p3), .val (.int p4), .val (.int p5), .val (.int tk), .val (.int tl), .val (.int qk), .val (.int ql), .val (.int (0 : Int32)), .val (.int (1 : Int32)), .val (.int p2), .val (.ref b174), .val (.ref x188), .val (.int (own_isr (own_kind tk z0 z1 z2 z3 z4 z5) (own_kind qk z0 z1 z2 z3 z4 z5) (own_text tl p2) (own_text ql p2))), .unset, .unset] [])) _
            refine own_go (fun _ k => X198.ldcInt hx hown188 (mvT hZ188 (hw _ (List.mem_of_getElem? (i := 88) rfl))) (g := (mkF m 159 #[.val (.int p1), .val (.int p2), .val (.int p3), .val (.int p4), .val (.int p5), .val (.int tk), .val (.int tl), .val (.int qk), .val (.int ql), .val (.int (0 : Int32)), .val (.int (1 : Int32)), .val (.int p2), .val (.ref b174), .val (.ref x188), .val (.int (own_isr (own_kind tk z0 z1 z2 z3 z4 z5) (own_kind qk z0 z1 z2 z3 z4 z5) (own_text tl p2) (own_text ql p2))), .unset, .unset] [])) rfl (hb hby at_159) _ k) ?_
            show own_Go p e below (T198.setTop (mkF m 161 #[.val (.int p1), .val (.int p2), .val (.int p3), .val (.int p4), .val (.int p5), .val (.int tk), .val (.int tl), .val (.int qk), .val (.int ql), .val (.int (0 : Int32)), .val (.int (1 : Int32)), .val (.int p2), .val (.ref b174), .val (.ref x188), .val (.int (own_isr (own_kind tk z0 z1 z2 z3 z4 z5) (own_kind qk z0 z1 z2 z3 z4 z5) (own_text tl p2) (own_text ql p2))), .unset, .unset] [(.int (65535 : Int32))])) _
            refine own_go (fun _ k => XS.goto X198.here hx rfl (pc0 := 161) (pc' := 166) rfl (hb hby at_161) (by decide) (by decide) k) ?_
            show own_Go p e below (T198.setTop (mkF m 166 #[.val (.int p1), .val (.int p2), .val (.int p3), .val (.int p4), .val (.int p5), .val (.int tk), .val (.int tl), .val (.int qk), .val (.int ql), .val (.int (0 : Int32)), .val (.int (1 : Int32)), .val (.int p2), .val (.ref b174), .val (.ref x188), .val (.int (own_isr (own_kind tk z0 z1 z2 z3 z4 z5) (own_kind qk z0 z1 z2 z3 z4 z5) (own_text tl p2) (own_text ql p2))), .unset, .unset] [(.int (65535 : Int32))])) _
            refine own_go (fun _ k => XS.istore X198.here hx rfl (hb hby at_166) rfl (l' := #[.val (.int p1), .val (.int p2), .val (.int p3), .val (.int p4), .val (.int p5), .val (.int tk), .val (.int tl), .val (.int qk), .val (.int ql), .val (.int (0 : Int32)), .val (.int (1 : Int32)), .val (.int p2), .val (.ref b174), .val (.ref x188), .val (.int (own_isr (own_kind tk z0 z1 z2 z3 z4 z5) (own_kind qk z0 z1 z2 z3 z4 z5) (own_text tl p2) (own_text ql p2))), .val (.int (65535 : Int32)), .unset]) rfl k) ?_
            show own_Go p e below (T198.setTop (mkF m 168 #[.val (.int p1), .val (.int p2), .val (.int p3), .val (.int p4), .val (.int p5), .val (.int tk), .val (.int tl), .val (.int qk), .val (.int ql), .val (.int (0 : Int32)), .val (.int (1 : Int32)), .val (.int p2), .val (.ref b174), .val (.ref x188), .val (.int (own_isr (own_kind tk z0 z1 z2 z3 z4 z5) (own_kind qk z0 z1 z2 z3 z4 z5) (own_text tl p2) (own_text ql p2))), .val (.int (65535 : Int32)), .unset] [])) _
            refine own_go (fun _ k => XS.iload X198.here hx rfl (hb hby at_168) rfl k) ?_
            show own_Go p e below (T198.setTop (mkF m 170 #[.val (.int p1), .val (.int p2), .val (.int p3), .val (.int p4), .val (.int p5), .val (.int tk), .val (.int tl), .val (.int qk), .val (.int ql), .val (.int (0 : Int32)), .val (.int (1 : Int32)), .val (.int p2), .val (.ref b174), .val (.ref x188), .val (.int (own_isr (own_kind tk z0 z1 z2 z3 z4 z5) (own_kind qk z0 z1 z2 z3 z4 z5) (own_text tl p2) (own_text ql p2))), .val (.int (65535 : Int32)), .unset] [(.int qk)])) _
            refine own_go (fun _ k => XS.iload X198.here hx rfl (hb hby at_170) rfl k) ?_
            show own_Go p e below (T198.setTop (mkF m 172 #[.val (.int p1), .val (.int p2), .val (.int p3), .val (.int p4), .val (.int p5), .val (.int tk), .val (.int tl), .val (.int qk), .val (.int ql), .val (.int (0 : Int32)), .val (.int (1 : Int32)), .val (.int p2), .val (.ref b174), .val (.ref x188), .val (.int (own_isr (own_kind tk z0 z1 z2 z3 z4 z5) (own_kind qk z0 z1 z2 z3 z4 z5) (own_text tl p2) (own_text ql p2))), .val (.int (65535 : Int32)), .unset] [(.int tk), (.int qk)])) _
            by_cases hc207 : qk = tk
            · skip
              refine own_go (fun _ k => XS.icmpNo X198.here hx rfl (hb hby at_172) rfl (teq hc207).2 k) ?_
              show own_Go p e below (T198.setTop (mkF m 175 #[.val (.int p1), .val (.int p2), .val (.int p3), .val (.int p4), .val (.int p5), .val (.int tk), .val (.int tl), .val (.int qk), .val (.int ql), .val (.int (0 : Int32)), .val (.int (1 : Int32)), .val (.int p2), .val (.ref b174), .val (.ref x188), .val (.int (own_isr (own_kind tk z0 z1 z2 z3 z4 z5) (own_kind qk z0 z1 z2 z3 z4 z5) (own_text tl p2) (own_text ql p2))), .val (.int (65535 : Int32)), .unset] [])) _
              refine own_go (fun _ k => XS.iload X198.here hx rfl (hb hby at_175) rfl k) ?_
              show own_Go p e below (T198.setTop (mkF m 177 #[.val (.int p1), .val (.int p2), .val (.int p3), .val (.int p4), .val (.int p5), .val (.int tk), .val (.int tl), .val (.int qk), .val (.int ql), .val (.int (0 : Int32)), .val (.int (1 : Int32)), .val (.int p2), .val (.ref b174), .val (.ref x188), .val (.int (own_isr (own_kind tk z0 z1 z2 z3 z4 z5) (own_kind qk z0 z1 z2 z3 z4 z5) (own_text tl p2) (own_text ql p2))), .val (.int (65535 : Int32)), .unset] [(.int (0 : Int32))])) _
              refine own_go (fun _ k => XS.ifNo X198.here hx rfl (hb hby at_177) rfl ((if0 _ _).trans (teq (by decide : (0 : Int32) = (0 : Int32))).2) k) ?_
              show own_Go p e below (T198.setTop (mkF m 180 #[.val (.int p1), .val (.int p2), .val (.int p3), .val (.int p4), .val (.int p5), .val (.int tk), .val (.int tl), .val (.int qk), .val (.int ql), .val (.int (0 : Int32)), .val (.int (1 : Int32)), .val (.int p2), .val (.ref b174), .val (.ref x188), .val (.int (own_isr (own_kind tk z0 z1 z2 z3 z4 z5) (own_kind qk z0 z1 z2 z3 z4 z5) (own_text tl p2) (own_text ql p2))), .val (.int (65535 : Int32)), .unset] [])) _
              refine own_go (fun _ k => XS.iload X198.here hx rfl (hb hby at_180) rfl k) ?_
              show own_Go p e below (T198.setTop (mkF m 182 #[.val (.int p1), .val (.int p2), .val (.int p3), .val (.int p4), .val (.int p5), .val (.int tk), .val (.int tl), .val (.int qk), .val (.int ql), .val (.int (0 : Int32)), .val (.int (1 : Int32)), .val (.int p2), .val (.ref b174), .val (.ref x188), .val (.int (own_isr (own_kind tk z0 z1 z2 z3 z4 z5) (own_kind qk z0 z1 z2 z3 z4 z5) (own_text tl p2) (own_text ql p2))), .val (.int (65535 : Int32)), .unset] [(.int tl)])) _
              refine own_go (fun _ k => XS.iload X198.here hx rfl (hb hby at_182) rfl k) ?_
              show own_Go p e below (T198.setTop (mkF m 184 #[.val (.int p1), .val (.int p2), .val (.int p3), .val (.int p4), .val (.int p5), .val (.int tk), .val (.int tl), .val (.int qk), .val (.int ql), .val (.int (0 : Int32)), .val (.int (1 : Int32)), .val (.int p2), .val (.ref b174), .val (.ref x188), .val (.int (own_isr (own_kind tk z0 z1 z2 z3 z4 z5) (own_kind qk z0 z1 z2 z3 z4 z5) (own_text tl p2) (own_text ql p2))), .val (.int (65535 : Int32)), .unset] [(.int ql), (.int tl)])) _
              by_cases hc208 : tl = ql
              · skip
                refine own_go (fun _ k => XS.icmpNo X198.here hx rfl (hb hby at_184) rfl (teq hc208).2 k) ?_
                show own_Go p e below (T198.setTop (mkF m 187 #[.val (.int p1), .val (.int p2), .val (.int p3), .val (.int p4), .val (.int p5), .val (.int tk), .val (.int tl), .val (.int qk), .val (.int ql), .val (.int (0 : Int32)), .val (.int (1 : Int32)), .val (.int p2), .val (.ref b174), .val (.ref x188), .val (.int (own_isr (own_kind tk z0 z1 z2 z3 z4 z5) (own_kind qk z0 z1 z2 z3 z4 z5) (own_text tl p2) (own_text ql p2))), .val (.int (65535 : Int32)), .unset] [])) _
                refine own_go (fun _ k => XS.iloadN X198.here hx rfl (hb hby at_187) rfl k) ?_
                show own_Go p e below (T198.setTop (mkF m 188 #[.val (.int p1), .val (.int p2), .val (.int p3), .val (.int p4), .val (.int p5), .val (.int tk), .val (.int tl), .val (.int qk), .val (.int ql), .val (.int (0 : Int32)), .val (.int (1 : Int32)), .val (.int p2), .val (.ref b174), .val (.ref x188), .val (.int (own_isr (own_kind tk z0 z1 z2 z3 z4 z5) (own_kind qk z0 z1 z2 z3 z4 z5) (own_text tl p2) (own_text ql p2))), .val (.int (65535 : Int32)), .unset] [(.int p2)])) _
                refine own_go (fun _ k => XS.iload X198.here hx rfl (hb hby at_188) rfl k) ?_
                show own_Go p e below (T198.setTop (mkF m 190 #[.val (.int p1), .val (.int p2), .val (.int p3), .val (.int p4), .val (.int p5), .val (.int tk), .val (.int tl), .val (.int qk), .val (.int ql), .val (.int (0 : Int32)), .val (.int (1 : Int32)), .val (.int p2), .val (.ref b174), .val (.ref x188), .val (.int (own_isr (own_kind tk z0 z1 z2 z3 z4 z5) (own_kind qk z0 z1 z2 z3 z4 z5) (own_text tl p2) (own_text ql p2))), .val (.int (65535 : Int32)), .unset] [(.int p2), (.int p2)])) _
                refine own_go (fun _ k => XS.ixor X198.here hx rfl (hb hby at_190) rfl k) ?_
                show own_Go p e below (T198.setTop (mkF m 191 #[.val (.int p1), .val (.int p2), .val (.int p3), .val (.int p4), .val (.int p5), .val (.int tk), .val (.int tl), .val (.int qk), .val (.int ql), .val (.int (0 : Int32)), .val (.int (1 : Int32)), .val (.int p2), .val (.ref b174), .val (.ref x188), .val (.int (own_isr (own_kind tk z0 z1 z2 z3 z4 z5) (own_kind qk z0 z1 z2 z3 z4 z5) (own_text tl p2) (own_text ql p2))), .val (.int (65535 : Int32)), .unset] [(.int (p2 ^^^ p2))])) _
                refine own_go (fun _ k => XS.iload X198.here hx rfl (hb hby at_191) rfl k) ?_
                show own_Go p e below (T198.setTop (mkF m 193 #[.val (.int p1), .val (.int p2), .val (.int p3), .val (.int p4), .val (.int p5), .val (.int tk), .val (.int tl), .val (.int qk), .val (.int ql), .val (.int (0 : Int32)), .val (.int (1 : Int32)), .val (.int p2), .val (.ref b174), .val (.ref x188), .val (.int (own_isr (own_kind tk z0 z1 z2 z3 z4 z5) (own_kind qk z0 z1 z2 z3 z4 z5) (own_text tl p2) (own_text ql p2))), .val (.int (65535 : Int32)), .unset] [(.int (65535 : Int32)), (.int (p2 ^^^ p2))])) _
                refine own_go (fun _ k => XS.iand X198.here hx rfl (hb hby at_193) rfl k) ?_
                show own_Go p e below (T198.setTop (mkF m 194 #[.val (.int p1), .val (.int p2), .val (.int p3), .val (.int p4), .val (.int p5), .val (.int tk), .val (.int tl), .val (.int qk), .val (.int ql), .val (.int (0 : Int32)), .val (.int (1 : Int32)), .val (.int p2), .val (.ref b174), .val (.ref x188), .val (.int (own_isr (own_kind tk z0 z1 z2 z3 z4 z5) (own_kind qk z0 z1 z2 z3 z4 z5) (own_text tl p2) (own_text ql p2))), .val (.int (65535 : Int32)), .unset] [(.int ((p2 ^^^ p2) &&& (65535 : Int32)))])) _
                by_cases hc209 : ((p2 ^^^ p2) &&& (65535 : Int32)) = (0 : Int32)
                · skip
                  refine own_go (fun _ k => XS.ifNo X198.here hx rfl (hb hby at_194) rfl ((if0 _ _).trans (teq hc209).2) k) ?_
                  show own_Go p e below (T198.setTop (mkF m 197 #[.val (.int p1), .val (.int p2), .val (.int p3), .val (.int p4), .val (.int p5), .val (.int tk), .val (.int tl), .val (.int qk), .val (.int ql), .val (.int (0 : Int32)), .val (.int (1 : Int32)), .val (.int p2), .val (.ref b174), .val (.ref x188), .val (.int (own_isr (own_kind tk z0 z1 z2 z3 z4 z5) (own_kind qk z0 z1 z2 z3 z4 z5) (own_text tl p2) (own_text ql p2))), .val (.int (65535 : Int32)), .unset] [])) _
                  refine own_go (fun _ k => XS.iconst X198.here hx rfl (hb hby at_197) k) ?_
                  show own_Go p e below (T198.setTop (mkF m 198 #[.val (.int p1), .val (.int p2), .val (.int p3), .val (.int p4), .val (.int p5), .val (.int tk), .val (.int tl), .val (.int qk), .val (.int ql), .val (.int (0 : Int32)), .val (.int (1 : Int32)), .val (.int p2), .val (.ref b174), .val (.ref x188), .val (.int (own_isr (own_kind tk z0 z1 z2 z3 z4 z5) (own_kind qk z0 z1 z2 z3 z4 z5) (own_text tl p2) (own_text ql p2))), .val (.int (65535 : Int32)), .unset] [(.int (1 : Int32))])) _
                  refine own_go (fun _ k => XS.goto X198.here hx rfl (pc0 := 198) (pc' := 202) rfl (hb hby at_198) (by decide) (by decide) k) ?_
                  show own_Go p e below (T198.setTop (mkF m 202 #[.val (.int p1), .val (.int p2), .val (.int p3), .val (.int p4), .val (.int p5), .val (.int tk), .val (.int tl), .val (.int qk), .val (.int ql), .val (.int (0 : Int32)), .val (.int (1 : Int32)), .val (.int p2), .val (.ref b174), .val (.ref x188), .val (.int (own_isr (own_kind tk z0 z1 z2 z3 z4 z5) (own_kind qk z0 z1 z2 z3 z4 z5) (own_text tl p2) (own_text ql p2))), .val (.int (65535 : Int32)), .unset] [(.int (1 : Int32))])) _
                  refine own_go (fun _ k => XS.istore X198.here hx rfl (hb hby at_202) rfl (l' := #[.val (.int p1), .val (.int p2), .val (.int p3), .val (.int p4), .val (.int p5), .val (.int tk), .val (.int tl), .val (.int qk), .val (.int ql), .val (.int (0 : Int32)), .val (.int (1 : Int32)), .val (.int p2), .val (.ref b174), .val (.ref x188), .val (.int (own_isr (own_kind tk z0 z1 z2 z3 z4 z5) (own_kind qk z0 z1 z2 z3 z4 z5) (own_text tl p2) (own_text ql p2))), .val (.int (65535 : Int32)), .val (.int (1 : Int32))]) rfl k) ?_
                  show own_Go p e below (T198.setTop (mkF m 204 #[.val (.int p1), .val (.int p2), .val (.int p3), .val (.int p4), .val (.int p5), .val (.int tk), .val (.int tl), .val (.int qk), .val (.int ql), .val (.int (0 : Int32)), .val (.int (1 : Int32)), .val (.int p2), .val (.ref b174), .val (.ref x188), .val (.int (own_isr (own_kind tk z0 z1 z2 z3 z4 z5) (own_kind qk z0 z1 z2 z3 z4 z5) (own_text tl p2) (own_text ql p2))), .val (.int (65535 : Int32)), .val (.int (1 : Int32))] [])) _
                  refine own_go (fun _ k => XS.iload X198.here hx rfl (hb hby at_204) rfl k) ?_
                  show own_Go p e below (T198.setTop (mkF m 206 #[.val (.int p1), .val (.int p2), .val (.int p3), .val (.int p4), .val (.int p5), .val (.int tk), .val (.int tl), .val (.int qk), .val (.int ql), .val (.int (0 : Int32)), .val (.int (1 : Int32)), .val (.int p2), .val (.ref b174), .val (.ref x188), .val (.int (own_isr (own_kind tk z0 z1 z2 z3 z4 z5) (own_kind qk z0 z1 z2 z3 z4 z5) (own_text tl p2) (own_text ql p2))), .val (.int (65535 : Int32)), .val (.int (1 : Int32))] [(.int (own_isr (own_kind tk z0 z1 z2 z3 z4 z5) (own_kind qk z0 z1 z2 z3 z4 z5) (own_text tl p2) (own_text ql p2)))])) _
                  refine own_go (fun _ k => XS.iload X198.here hx rfl (hb hby at_206) rfl k) ?_
                  show own_Go p e below (T198.setTop (mkF m 208 #[.val (.int p1), .val (.int p2), .val (.int p3), .val (.int p4), .val (.int p5), .val (.int tk), .val (.int tl), .val (.int qk), .val (.int ql), .val (.int (0 : Int32)), .val (.int (1 : Int32)), .val (.int p2), .val (.ref b174), .val (.ref x188), .val (.int (own_isr (own_kind tk z0 z1 z2 z3 z4 z5) (own_kind qk z0 z1 z2 z3 z4 z5) (own_text tl p2) (own_text ql p2))), .val (.int (65535 : Int32)), .val (.int (1 : Int32))] [(.int (1 : Int32)), (.int (own_isr (own_kind tk z0 z1 z2 z3 z4 z5) (own_kind qk z0 z1 z2 z3 z4 z5) (own_text tl p2) (own_text ql p2)))])) _
                  refine own_go (fun _ k => XS.icmpNo X198.here hx rfl (hb hby at_208) rfl (teq (own_isr_yy (congrArg (fun z => own_kind z z0 z1 z2 z3 z4 z5) hc207.symm) ((own_tx2 hc199 hc202 hc206 hc208).mpr hc209))).2 k) ?_
                  show own_Go p e below (T198.setTop (mkF m 211 #[.val (.int p1), .val (.int p2), .val (.int p3), .val (.int p4), .val (.int p5), .val (.int tk), .val (.int tl), .val (.int qk), .val (.int ql), .val (.int (0 : Int32)), .val (.int (1 : Int32)), .val (.int p2), .val (.ref b174), .val (.ref x188), .val (.int (own_isr (own_kind tk z0 z1 z2 z3 z4 z5) (own_kind qk z0 z1 z2 z3 z4 z5) (own_text tl p2) (own_text ql p2))), .val (.int (65535 : Int32)), .val (.int (1 : Int32))] [])) _
                  refine own_go (fun _ k => XS.iconst X198.here hx rfl (hb hby at_211) k) ?_
                  show own_Go p e below (T198.setTop (mkF m 212 #[.val (.int p1), .val (.int p2), .val (.int p3), .val (.int p4), .val (.int p5), .val (.int tk), .val (.int tl), .val (.int qk), .val (.int ql), .val (.int (0 : Int32)), .val (.int (1 : Int32)), .val (.int p2), .val (.ref b174), .val (.ref x188), .val (.int (own_isr (own_kind tk z0 z1 z2 z3 z4 z5) (own_kind qk z0 z1 z2 z3 z4 z5) (own_text tl p2) (own_text ql p2))), .val (.int (65535 : Int32)), .val (.int (1 : Int32))] [(.int (1 : Int32))])) _
                  refine own_go (fun _ k => XS.goto X198.here hx rfl (pc0 := 212) (pc' := 216) rfl (hb hby at_212) (by decide) (by decide) k) ?_
                  show own_Go p e below (T198.setTop (mkF m 216 #[.val (.int p1), .val (.int p2), .val (.int p3), .val (.int p4), .val (.int p5), .val (.int tk), .val (.int tl), .val (.int qk), .val (.int ql), .val (.int (0 : Int32)), .val (.int (1 : Int32)), .val (.int p2), .val (.ref b174), .val (.ref x188), .val (.int (own_isr (own_kind tk z0 z1 z2 z3 z4 z5) (own_kind qk z0 z1 z2 z3 z4 z5) (own_text tl p2) (own_text ql p2))), .val (.int (65535 : Int32)), .val (.int (1 : Int32))] [(.int (1 : Int32))])) _
                  refine own_finW (v := (some (.int (nar .boolean (1 : Int32))))) X198 hh hZ188 hS188 (by rw [e198]; exact (Nat.le_refl _)) (fun h => by rw [hrt] at h; cases h) hlk (fun fs hr => retN X198 hx (t := .boolean) hrt (by simp) (hb hby at_216) hr) (QQ := QQ0 n0) ?_ own_hEL e198 (C189) (by decide) (by decide)
                  rw [e198]
                  exact ⟨rfl, N198⟩
                · skip
                  refine own_go (fun _ k => XS.ifYes X198.here hx rfl (pc0 := 194) (pc' := 201) rfl (hb hby at_194) rfl ((if0 _ _).trans (feq hc209).2) (by decide) (by decide) k) ?_
                  show own_Go p e below (T198.setTop (mkF m 201 #[.val (.int p1), .val (.int p2), .val (.int p3), .val (.int p4), .val (.int p5), .val (.int tk), .val (.int tl), .val (.int qk), .val (.int ql), .val (.int (0 : Int32)), .val (.int (1 : Int32)), .val (.int p2), .val (.ref b174), .val (.ref x188), .val (.int (own_isr (own_kind tk z0 z1 z2 z3 z4 z5) (own_kind qk z0 z1 z2 z3 z4 z5) (own_text tl p2) (own_text ql p2))), .val (.int (65535 : Int32)), .unset] [])) _
                  refine own_go (fun _ k => XS.iconst X198.here hx rfl (hb hby at_201) k) ?_
                  show own_Go p e below (T198.setTop (mkF m 202 #[.val (.int p1), .val (.int p2), .val (.int p3), .val (.int p4), .val (.int p5), .val (.int tk), .val (.int tl), .val (.int qk), .val (.int ql), .val (.int (0 : Int32)), .val (.int (1 : Int32)), .val (.int p2), .val (.ref b174), .val (.ref x188), .val (.int (own_isr (own_kind tk z0 z1 z2 z3 z4 z5) (own_kind qk z0 z1 z2 z3 z4 z5) (own_text tl p2) (own_text ql p2))), .val (.int (65535 : Int32)), .unset] [(.int (0 : Int32))])) _
                  refine own_go (fun _ k => XS.istore X198.here hx rfl (hb hby at_202) rfl (l' := #[.val (.int p1), .val (.int p2), .val (.int p3), .val (.int p4), .val (.int p5), .val (.int tk), .val (.int tl), .val (.int qk), .val (.int ql), .val (.int (0 : Int32)), .val (.int (1 : Int32)), .val (.int p2), .val (.ref b174), .val (.ref x188), .val (.int (own_isr (own_kind tk z0 z1 z2 z3 z4 z5) (own_kind qk z0 z1 z2 z3 z4 z5) (own_text tl p2) (own_text ql p2))), .val (.int (65535 : Int32)), .val (.int (0 : Int32))]) rfl k) ?_
                  show own_Go p e below (T198.setTop (mkF m 204 #[.val (.int p1), .val (.int p2), .val (.int p3), .val (.int p4), .val (.int p5), .val (.int tk), .val (.int tl), .val (.int qk), .val (.int ql), .val (.int (0 : Int32)), .val (.int (1 : Int32)), .val (.int p2), .val (.ref b174), .val (.ref x188), .val (.int (own_isr (own_kind tk z0 z1 z2 z3 z4 z5) (own_kind qk z0 z1 z2 z3 z4 z5) (own_text tl p2) (own_text ql p2))), .val (.int (65535 : Int32)), .val (.int (0 : Int32))] [])) _
                  refine own_go (fun _ k => XS.iload X198.here hx rfl (hb hby at_204) rfl k) ?_
                  show own_Go p e below (T198.setTop (mkF m 206 #[.val (.int p1), .val (.int p2), .val (.int p3), .val (.int p4), .val (.int p5), .val (.int tk), .val (.int tl), .val (.int qk), .val (.int ql), .val (.int (0 : Int32)), .val (.int (1 : Int32)), .val (.int p2), .val (.ref b174), .val (.ref x188), .val (.int (own_isr (own_kind tk z0 z1 z2 z3 z4 z5) (own_kind qk z0 z1 z2 z3 z4 z5) (own_text tl p2) (own_text ql p2))), .val (.int (65535 : Int32)), .val (.int (0 : Int32))] [(.int (own_isr (own_kind tk z0 z1 z2 z3 z4 z5) (own_kind qk z0 z1 z2 z3 z4 z5) (own_text tl p2) (own_text ql p2)))])) _
                  refine own_go (fun _ k => XS.iload X198.here hx rfl (hb hby at_206) rfl k) ?_
                  show own_Go p e below (T198.setTop (mkF m 208 #[.val (.int p1), .val (.int p2), .val (.int p3), .val (.int p4), .val (.int p5), .val (.int tk), .val (.int tl), .val (.int qk), .val (.int ql), .val (.int (0 : Int32)), .val (.int (1 : Int32)), .val (.int p2), .val (.ref b174), .val (.ref x188), .val (.int (own_isr (own_kind tk z0 z1 z2 z3 z4 z5) (own_kind qk z0 z1 z2 z3 z4 z5) (own_text tl p2) (own_text ql p2))), .val (.int (65535 : Int32)), .val (.int (0 : Int32))] [(.int (0 : Int32)), (.int (own_isr (own_kind tk z0 z1 z2 z3 z4 z5) (own_kind qk z0 z1 z2 z3 z4 z5) (own_text tl p2) (own_text ql p2)))])) _
                  refine own_go (fun _ k => XS.icmpNo X198.here hx rfl (hb hby at_208) rfl (teq (own_isr_m (fun q => hc209 ((own_tx2 hc199 hc202 hc206 hc208).mp q)))).2 k) ?_
                  show own_Go p e below (T198.setTop (mkF m 211 #[.val (.int p1), .val (.int p2), .val (.int p3), .val (.int p4), .val (.int p5), .val (.int tk), .val (.int tl), .val (.int qk), .val (.int ql), .val (.int (0 : Int32)), .val (.int (1 : Int32)), .val (.int p2), .val (.ref b174), .val (.ref x188), .val (.int (own_isr (own_kind tk z0 z1 z2 z3 z4 z5) (own_kind qk z0 z1 z2 z3 z4 z5) (own_text tl p2) (own_text ql p2))), .val (.int (65535 : Int32)), .val (.int (0 : Int32))] [])) _
                  refine own_go (fun _ k => XS.iconst X198.here hx rfl (hb hby at_211) k) ?_
                  show own_Go p e below (T198.setTop (mkF m 212 #[.val (.int p1), .val (.int p2), .val (.int p3), .val (.int p4), .val (.int p5), .val (.int tk), .val (.int tl), .val (.int qk), .val (.int ql), .val (.int (0 : Int32)), .val (.int (1 : Int32)), .val (.int p2), .val (.ref b174), .val (.ref x188), .val (.int (own_isr (own_kind tk z0 z1 z2 z3 z4 z5) (own_kind qk z0 z1 z2 z3 z4 z5) (own_text tl p2) (own_text ql p2))), .val (.int (65535 : Int32)), .val (.int (0 : Int32))] [(.int (1 : Int32))])) _
                  refine own_go (fun _ k => XS.goto X198.here hx rfl (pc0 := 212) (pc' := 216) rfl (hb hby at_212) (by decide) (by decide) k) ?_
                  show own_Go p e below (T198.setTop (mkF m 216 #[.val (.int p1), .val (.int p2), .val (.int p3), .val (.int p4), .val (.int p5), .val (.int tk), .val (.int tl), .val (.int qk), .val (.int ql), .val (.int (0 : Int32)), .val (.int (1 : Int32)), .val (.int p2), .val (.ref b174), .val (.ref x188), .val (.int (own_isr (own_kind tk z0 z1 z2 z3 z4 z5) (own_kind qk z0 z1 z2 z3 z4 z5) (own_text tl p2) (own_text ql p2))), .val (.int (65535 : Int32)), .val (.int (0 : Int32))] [(.int (1 : Int32))])) _
                  refine own_finW (v := (some (.int (nar .boolean (1 : Int32))))) X198 hh hZ188 hS188 (by rw [e198]; exact (Nat.le_refl _)) (fun h => by rw [hrt] at h; cases h) hlk (fun fs hr => retN X198 hx (t := .boolean) hrt (by simp) (hb hby at_216) hr) (QQ := QQ0 n0) ?_ own_hEL e198 (C189) (by decide) (by decide)
                  rw [e198]
                  exact ⟨rfl, N198⟩
              · skip
                refine own_go (fun _ k => XS.icmpYes X198.here hx rfl (pc0 := 184) (pc' := 201) rfl (hb hby at_184) rfl (feq hc208).2 (by decide) (by decide) k) ?_
                show own_Go p e below (T198.setTop (mkF m 201 #[.val (.int p1), .val (.int p2), .val (.int p3), .val (.int p4), .val (.int p5), .val (.int tk), .val (.int tl), .val (.int qk), .val (.int ql), .val (.int (0 : Int32)), .val (.int (1 : Int32)), .val (.int p2), .val (.ref b174), .val (.ref x188), .val (.int (own_isr (own_kind tk z0 z1 z2 z3 z4 z5) (own_kind qk z0 z1 z2 z3 z4 z5) (own_text tl p2) (own_text ql p2))), .val (.int (65535 : Int32)), .unset] [])) _
                refine own_go (fun _ k => XS.iconst X198.here hx rfl (hb hby at_201) k) ?_
                show own_Go p e below (T198.setTop (mkF m 202 #[.val (.int p1), .val (.int p2), .val (.int p3), .val (.int p4), .val (.int p5), .val (.int tk), .val (.int tl), .val (.int qk), .val (.int ql), .val (.int (0 : Int32)), .val (.int (1 : Int32)), .val (.int p2), .val (.ref b174), .val (.ref x188), .val (.int (own_isr (own_kind tk z0 z1 z2 z3 z4 z5) (own_kind qk z0 z1 z2 z3 z4 z5) (own_text tl p2) (own_text ql p2))), .val (.int (65535 : Int32)), .unset] [(.int (0 : Int32))])) _
                refine own_go (fun _ k => XS.istore X198.here hx rfl (hb hby at_202) rfl (l' := #[.val (.int p1), .val (.int p2), .val (.int p3), .val (.int p4), .val (.int p5), .val (.int tk), .val (.int tl), .val (.int qk), .val (.int ql), .val (.int (0 : Int32)), .val (.int (1 : Int32)), .val (.int p2), .val (.ref b174), .val (.ref x188), .val (.int (own_isr (own_kind tk z0 z1 z2 z3 z4 z5) (own_kind qk z0 z1 z2 z3 z4 z5) (own_text tl p2) (own_text ql p2))), .val (.int (65535 : Int32)), .val (.int (0 : Int32))]) rfl k) ?_
                show own_Go p e below (T198.setTop (mkF m 204 #[.val (.int p1), .val (.int p2), .val (.int p3), .val (.int p4), .val (.int p5), .val (.int tk), .val (.int tl), .val (.int qk), .val (.int ql), .val (.int (0 : Int32)), .val (.int (1 : Int32)), .val (.int p2), .val (.ref b174), .val (.ref x188), .val (.int (own_isr (own_kind tk z0 z1 z2 z3 z4 z5) (own_kind qk z0 z1 z2 z3 z4 z5) (own_text tl p2) (own_text ql p2))), .val (.int (65535 : Int32)), .val (.int (0 : Int32))] [])) _
                refine own_go (fun _ k => XS.iload X198.here hx rfl (hb hby at_204) rfl k) ?_
                show own_Go p e below (T198.setTop (mkF m 206 #[.val (.int p1), .val (.int p2), .val (.int p3), .val (.int p4), .val (.int p5), .val (.int tk), .val (.int tl), .val (.int qk), .val (.int ql), .val (.int (0 : Int32)), .val (.int (1 : Int32)), .val (.int p2), .val (.ref b174), .val (.ref x188), .val (.int (own_isr (own_kind tk z0 z1 z2 z3 z4 z5) (own_kind qk z0 z1 z2 z3 z4 z5) (own_text tl p2) (own_text ql p2))), .val (.int (65535 : Int32)), .val (.int (0 : Int32))] [(.int (own_isr (own_kind tk z0 z1 z2 z3 z4 z5) (own_kind qk z0 z1 z2 z3 z4 z5) (own_text tl p2) (own_text ql p2)))])) _
                refine own_go (fun _ k => XS.iload X198.here hx rfl (hb hby at_206) rfl k) ?_
                show own_Go p e below (T198.setTop (mkF m 208 #[.val (.int p1), .val (.int p2), .val (.int p3), .val (.int p4), .val (.int p5), .val (.int tk), .val (.int tl), .val (.int qk), .val (.int ql), .val (.int (0 : Int32)), .val (.int (1 : Int32)), .val (.int p2), .val (.ref b174), .val (.ref x188), .val (.int (own_isr (own_kind tk z0 z1 z2 z3 z4 z5) (own_kind qk z0 z1 z2 z3 z4 z5) (own_text tl p2) (own_text ql p2))), .val (.int (65535 : Int32)), .val (.int (0 : Int32))] [(.int (0 : Int32)), (.int (own_isr (own_kind tk z0 z1 z2 z3 z4 z5) (own_kind qk z0 z1 z2 z3 z4 z5) (own_text tl p2) (own_text ql p2)))])) _
                refine own_go (fun _ k => XS.icmpNo X198.here hx rfl (hb hby at_208) rfl (teq (own_isr_m (own_text_ne (h_tl ▸ own_a3 _) (h_ql ▸ own_a3 _) hc208))).2 k) ?_
                show own_Go p e below (T198.setTop (mkF m 211 #[.val (.int p1), .val (.int p2), .val (.int p3), .val (.int p4), .val (.int p5), .val (.int tk), .val (.int tl), .val (.int qk), .val (.int ql), .val (.int (0 : Int32)), .val (.int (1 : Int32)), .val (.int p2), .val (.ref b174), .val (.ref x188), .val (.int (own_isr (own_kind tk z0 z1 z2 z3 z4 z5) (own_kind qk z0 z1 z2 z3 z4 z5) (own_text tl p2) (own_text ql p2))), .val (.int (65535 : Int32)), .val (.int (0 : Int32))] [])) _
                refine own_go (fun _ k => XS.iconst X198.here hx rfl (hb hby at_211) k) ?_
                show own_Go p e below (T198.setTop (mkF m 212 #[.val (.int p1), .val (.int p2), .val (.int p3), .val (.int p4), .val (.int p5), .val (.int tk), .val (.int tl), .val (.int qk), .val (.int ql), .val (.int (0 : Int32)), .val (.int (1 : Int32)), .val (.int p2), .val (.ref b174), .val (.ref x188), .val (.int (own_isr (own_kind tk z0 z1 z2 z3 z4 z5) (own_kind qk z0 z1 z2 z3 z4 z5) (own_text tl p2) (own_text ql p2))), .val (.int (65535 : Int32)), .val (.int (0 : Int32))] [(.int (1 : Int32))])) _
                refine own_go (fun _ k => XS.goto X198.here hx rfl (pc0 := 212) (pc' := 216) rfl (hb hby at_212) (by decide) (by decide) k) ?_
                show own_Go p e below (T198.setTop (mkF m 216 #[.val (.int p1), .val (.int p2), .val (.int p3), .val (.int p4), .val (.int p5), .val (.int tk), .val (.int tl), .val (.int qk), .val (.int ql), .val (.int (0 : Int32)), .val (.int (1 : Int32)), .val (.int p2), .val (.ref b174), .val (.ref x188), .val (.int (own_isr (own_kind tk z0 z1 z2 z3 z4 z5) (own_kind qk z0 z1 z2 z3 z4 z5) (own_text tl p2) (own_text ql p2))), .val (.int (65535 : Int32)), .val (.int (0 : Int32))] [(.int (1 : Int32))])) _
                refine own_finW (v := (some (.int (nar .boolean (1 : Int32))))) X198 hh hZ188 hS188 (by rw [e198]; exact (Nat.le_refl _)) (fun h => by rw [hrt] at h; cases h) hlk (fun fs hr => retN X198 hx (t := .boolean) hrt (by simp) (hb hby at_216) hr) (QQ := QQ0 n0) ?_ own_hEL e198 (C189) (by decide) (by decide)
                rw [e198]
                exact ⟨rfl, N198⟩
            · skip
              refine own_go (fun _ k => XS.icmpYes X198.here hx rfl (pc0 := 172) (pc' := 201) rfl (hb hby at_172) rfl (feq hc207).2 (by decide) (by decide) k) ?_
              show own_Go p e below (T198.setTop (mkF m 201 #[.val (.int p1), .val (.int p2), .val (.int p3), .val (.int p4), .val (.int p5), .val (.int tk), .val (.int tl), .val (.int qk), .val (.int ql), .val (.int (0 : Int32)), .val (.int (1 : Int32)), .val (.int p2), .val (.ref b174), .val (.ref x188), .val (.int (own_isr (own_kind tk z0 z1 z2 z3 z4 z5) (own_kind qk z0 z1 z2 z3 z4 z5) (own_text tl p2) (own_text ql p2))), .val (.int (65535 : Int32)), .unset] [])) _
              refine own_go (fun _ k => XS.iconst X198.here hx rfl (hb hby at_201) k) ?_
              show own_Go p e below (T198.setTop (mkF m 202 #[.val (.int p1), .val (.int p2), .val (.int p3), .val (.int p4), .val (.int p5), .val (.int tk), .val (.int tl), .val (.int qk), .val (.int ql), .val (.int (0 : Int32)), .val (.int (1 : Int32)), .val (.int p2), .val (.ref b174), .val (.ref x188), .val (.int (own_isr (own_kind tk z0 z1 z2 z3 z4 z5) (own_kind qk z0 z1 z2 z3 z4 z5) (own_text tl p2) (own_text ql p2))), .val (.int (65535 : Int32)), .unset] [(.int (0 : Int32))])) _
              refine own_go (fun _ k => XS.istore X198.here hx rfl (hb hby at_202) rfl (l' := #[.val (.int p1), .val (.int p2), .val (.int p3), .val (.int p4), .val (.int p5), .val (.int tk), .val (.int tl), .val (.int qk), .val (.int ql), .val (.int (0 : Int32)), .val (.int (1 : Int32)), .val (.int p2), .val (.ref b174), .val (.ref x188), .val (.int (own_isr (own_kind tk z0 z1 z2 z3 z4 z5) (own_kind qk z0 z1 z2 z3 z4 z5) (own_text tl p2) (own_text ql p2))), .val (.int (65535 : Int32)), .val (.int (0 : Int32))]) rfl k) ?_
              show own_Go p e below (T198.setTop (mkF m 204 #[.val (.int p1), .val (.int p2), .val (.int p3), .val (.int p4), .val (.int p5), .val (.int tk), .val (.int tl), .val (.int qk), .val (.int ql), .val (.int (0 : Int32)), .val (.int (1 : Int32)), .val (.int p2), .val (.ref b174), .val (.ref x188), .val (.int (own_isr (own_kind tk z0 z1 z2 z3 z4 z5) (own_kind qk z0 z1 z2 z3 z4 z5) (own_text tl p2) (own_text ql p2))), .val (.int (65535 : Int32)), .val (.int (0 : Int32))] [])) _
              refine own_go (fun _ k => XS.iload X198.here hx rfl (hb hby at_204) rfl k) ?_
              show own_Go p e below (T198.setTop (mkF m 206 #[.val (.int p1), .val (.int p2), .val (.int p3), .val (.int p4), .val (.int p5), .val (.int tk), .val (.int tl), .val (.int qk), .val (.int ql), .val (.int (0 : Int32)), .val (.int (1 : Int32)), .val (.int p2), .val (.ref b174), .val (.ref x188), .val (.int (own_isr (own_kind tk z0 z1 z2 z3 z4 z5) (own_kind qk z0 z1 z2 z3 z4 z5) (own_text tl p2) (own_text ql p2))), .val (.int (65535 : Int32)), .val (.int (0 : Int32))] [(.int (own_isr (own_kind tk z0 z1 z2 z3 z4 z5) (own_kind qk z0 z1 z2 z3 z4 z5) (own_text tl p2) (own_text ql p2)))])) _
              refine own_go (fun _ k => XS.iload X198.here hx rfl (hb hby at_206) rfl k) ?_
              show own_Go p e below (T198.setTop (mkF m 208 #[.val (.int p1), .val (.int p2), .val (.int p3), .val (.int p4), .val (.int p5), .val (.int tk), .val (.int tl), .val (.int qk), .val (.int ql), .val (.int (0 : Int32)), .val (.int (1 : Int32)), .val (.int p2), .val (.ref b174), .val (.ref x188), .val (.int (own_isr (own_kind tk z0 z1 z2 z3 z4 z5) (own_kind qk z0 z1 z2 z3 z4 z5) (own_text tl p2) (own_text ql p2))), .val (.int (65535 : Int32)), .val (.int (0 : Int32))] [(.int (0 : Int32)), (.int (own_isr (own_kind tk z0 z1 z2 z3 z4 z5) (own_kind qk z0 z1 z2 z3 z4 z5) (own_text tl p2) (own_text ql p2)))])) _
              refine own_go (fun _ k => XS.icmpNo X198.here hx rfl (hb hby at_208) rfl (teq (own_isr_n1 (own_kind_ne hz (h_tk ▸ own_i6 p1) (h_qk ▸ own_i7 p3) (fun q => hc207 q.symm)))).2 k) ?_
              show own_Go p e below (T198.setTop (mkF m 211 #[.val (.int p1), .val (.int p2), .val (.int p3), .val (.int p4), .val (.int p5), .val (.int tk), .val (.int tl), .val (.int qk), .val (.int ql), .val (.int (0 : Int32)), .val (.int (1 : Int32)), .val (.int p2), .val (.ref b174), .val (.ref x188), .val (.int (own_isr (own_kind tk z0 z1 z2 z3 z4 z5) (own_kind qk z0 z1 z2 z3 z4 z5) (own_text tl p2) (own_text ql p2))), .val (.int (65535 : Int32)), .val (.int (0 : Int32))] [])) _
              refine own_go (fun _ k => XS.iconst X198.here hx rfl (hb hby at_211) k) ?_
              show own_Go p e below (T198.setTop (mkF m 212 #[.val (.int p1), .val (.int p2), .val (.int p3), .val (.int p4), .val (.int p5), .val (.int tk), .val (.int tl), .val (.int qk), .val (.int ql), .val (.int (0 : Int32)), .val (.int (1 : Int32)), .val (.int p2), .val (.ref b174), .val (.ref x188), .val (.int (own_isr (own_kind tk z0 z1 z2 z3 z4 z5) (own_kind qk z0 z1 z2 z3 z4 z5) (own_text tl p2) (own_text ql p2))), .val (.int (65535 : Int32)), .val (.int (0 : Int32))] [(.int (1 : Int32))])) _
              refine own_go (fun _ k => XS.goto X198.here hx rfl (pc0 := 212) (pc' := 216) rfl (hb hby at_212) (by decide) (by decide) k) ?_
              show own_Go p e below (T198.setTop (mkF m 216 #[.val (.int p1), .val (.int p2), .val (.int p3), .val (.int p4), .val (.int p5), .val (.int tk), .val (.int tl), .val (.int qk), .val (.int ql), .val (.int (0 : Int32)), .val (.int (1 : Int32)), .val (.int p2), .val (.ref b174), .val (.ref x188), .val (.int (own_isr (own_kind tk z0 z1 z2 z3 z4 z5) (own_kind qk z0 z1 z2 z3 z4 z5) (own_text tl p2) (own_text ql p2))), .val (.int (65535 : Int32)), .val (.int (0 : Int32))] [(.int (1 : Int32))])) _
              refine own_finW (v := (some (.int (nar .boolean (1 : Int32))))) X198 hh hZ188 hS188 (by rw [e198]; exact (Nat.le_refl _)) (fun h => by rw [hrt] at h; cases h) hlk (fun fs hr => retN X198 hx (t := .boolean) hrt (by simp) (hb hby at_216) hr) (QQ := QQ0 n0) ?_ own_hEL e198 (C189) (by decide) (by decide)
              rw [e198]
              exact ⟨rfl, N198⟩
          · skip
            refine own_go (fun _ k => XS.icmpYes X198.here hx rfl (pc0 := 156) (pc' := 164) rfl (hb hby at_156) rfl (feq hc206).2 (by decide) (by decide) k) ?_
            show own_Go p e below (T198.setTop (mkF m 164 #[.val (.int p1), .val (.int p2), .val (.int p3), .val (.int p4), .val (.int p5), .val (.int tk), .val (.int tl), .val (.int qk), .val (.int ql), .val (.int (0 : Int32)), .val (.int (1 : Int32)), .val (.int p2), .val (.ref b174), .val (.ref x188), .val (.int (own_isr (own_kind tk z0 z1 z2 z3 z4 z5) (own_kind qk z0 z1 z2 z3 z4 z5) (own_text tl p2) (own_text ql p2))), .unset, .unset] [])) _
            refine own_go (fun _ k => X198.ldcInt hx hown188 (mvT hZ188 (hw _ (List.mem_of_getElem? (i := 85) rfl))) (g := (mkF m 164 #[.val (.int p1), .val (.int p2), .val (.int p3), .val (.int p4), .val (.int p5), .val (.int tk), .val (.int tl), .val (.int qk), .val (.int ql), .val (.int (0 : Int32)), .val (.int (1 : Int32)), .val (.int p2), .val (.ref b174), .val (.ref x188), .val (.int (own_isr (own_kind tk z0 z1 z2 z3 z4 z5) (own_kind qk z0 z1 z2 z3 z4 z5) (own_text tl p2) (own_text ql p2))), .unset, .unset] [])) rfl (hb hby at_164) _ k) ?_
            show own_Go p e below (T198.setTop (mkF m 166 #[.val (.int p1), .val (.int p2), .val (.int p3), .val (.int p4), .val (.int p5), .val (.int tk), .val (.int tl), .val (.int qk), .val (.int ql), .val (.int (0 : Int32)), .val (.int (1 : Int32)), .val (.int p2), .val (.ref b174), .val (.ref x188), .val (.int (own_isr (own_kind tk z0 z1 z2 z3 z4 z5) (own_kind qk z0 z1 z2 z3 z4 z5) (own_text tl p2) (own_text ql p2))), .unset, .unset] [(.int (16777215 : Int32))])) _
            refine own_go (fun _ k => XS.istore X198.here hx rfl (hb hby at_166) rfl (l' := #[.val (.int p1), .val (.int p2), .val (.int p3), .val (.int p4), .val (.int p5), .val (.int tk), .val (.int tl), .val (.int qk), .val (.int ql), .val (.int (0 : Int32)), .val (.int (1 : Int32)), .val (.int p2), .val (.ref b174), .val (.ref x188), .val (.int (own_isr (own_kind tk z0 z1 z2 z3 z4 z5) (own_kind qk z0 z1 z2 z3 z4 z5) (own_text tl p2) (own_text ql p2))), .val (.int (16777215 : Int32)), .unset]) rfl k) ?_
            show own_Go p e below (T198.setTop (mkF m 168 #[.val (.int p1), .val (.int p2), .val (.int p3), .val (.int p4), .val (.int p5), .val (.int tk), .val (.int tl), .val (.int qk), .val (.int ql), .val (.int (0 : Int32)), .val (.int (1 : Int32)), .val (.int p2), .val (.ref b174), .val (.ref x188), .val (.int (own_isr (own_kind tk z0 z1 z2 z3 z4 z5) (own_kind qk z0 z1 z2 z3 z4 z5) (own_text tl p2) (own_text ql p2))), .val (.int (16777215 : Int32)), .unset] [])) _
            refine own_go (fun _ k => XS.iload X198.here hx rfl (hb hby at_168) rfl k) ?_
            show own_Go p e below (T198.setTop (mkF m 170 #[.val (.int p1), .val (.int p2), .val (.int p3), .val (.int p4), .val (.int p5), .val (.int tk), .val (.int tl), .val (.int qk), .val (.int ql), .val (.int (0 : Int32)), .val (.int (1 : Int32)), .val (.int p2), .val (.ref b174), .val (.ref x188), .val (.int (own_isr (own_kind tk z0 z1 z2 z3 z4 z5) (own_kind qk z0 z1 z2 z3 z4 z5) (own_text tl p2) (own_text ql p2))), .val (.int (16777215 : Int32)), .unset] [(.int qk)])) _
            refine own_go (fun _ k => XS.iload X198.here hx rfl (hb hby at_170) rfl k) ?_
            show own_Go p e below (T198.setTop (mkF m 172 #[.val (.int p1), .val (.int p2), .val (.int p3), .val (.int p4), .val (.int p5), .val (.int tk), .val (.int tl), .val (.int qk), .val (.int ql), .val (.int (0 : Int32)), .val (.int (1 : Int32)), .val (.int p2), .val (.ref b174), .val (.ref x188), .val (.int (own_isr (own_kind tk z0 z1 z2 z3 z4 z5) (own_kind qk z0 z1 z2 z3 z4 z5) (own_text tl p2) (own_text ql p2))), .val (.int (16777215 : Int32)), .unset] [(.int tk), (.int qk)])) _
            by_cases hc210 : qk = tk
            · skip
              refine own_go (fun _ k => XS.icmpNo X198.here hx rfl (hb hby at_172) rfl (teq hc210).2 k) ?_
              show own_Go p e below (T198.setTop (mkF m 175 #[.val (.int p1), .val (.int p2), .val (.int p3), .val (.int p4), .val (.int p5), .val (.int tk), .val (.int tl), .val (.int qk), .val (.int ql), .val (.int (0 : Int32)), .val (.int (1 : Int32)), .val (.int p2), .val (.ref b174), .val (.ref x188), .val (.int (own_isr (own_kind tk z0 z1 z2 z3 z4 z5) (own_kind qk z0 z1 z2 z3 z4 z5) (own_text tl p2) (own_text ql p2))), .val (.int (16777215 : Int32)), .unset] [])) _
              refine own_go (fun _ k => XS.iload X198.here hx rfl (hb hby at_175) rfl k) ?_
              show own_Go p e below (T198.setTop (mkF m 177 #[.val (.int p1), .val (.int p2), .val (.int p3), .val (.int p4), .val (.int p5), .val (.int tk), .val (.int tl), .val (.int qk), .val (.int ql), .val (.int (0 : Int32)), .val (.int (1 : Int32)), .val (.int p2), .val (.ref b174), .val (.ref x188), .val (.int (own_isr (own_kind tk z0 z1 z2 z3 z4 z5) (own_kind qk z0 z1 z2 z3 z4 z5) (own_text tl p2) (own_text ql p2))), .val (.int (16777215 : Int32)), .unset] [(.int (0 : Int32))])) _
              refine own_go (fun _ k => XS.ifNo X198.here hx rfl (hb hby at_177) rfl ((if0 _ _).trans (teq (by decide : (0 : Int32) = (0 : Int32))).2) k) ?_
              show own_Go p e below (T198.setTop (mkF m 180 #[.val (.int p1), .val (.int p2), .val (.int p3), .val (.int p4), .val (.int p5), .val (.int tk), .val (.int tl), .val (.int qk), .val (.int ql), .val (.int (0 : Int32)), .val (.int (1 : Int32)), .val (.int p2), .val (.ref b174), .val (.ref x188), .val (.int (own_isr (own_kind tk z0 z1 z2 z3 z4 z5) (own_kind qk z0 z1 z2 z3 z4 z5) (own_text tl p2) (own_text ql p2))), .val (.int (16777215 : Int32)), .unset] [])) _
              refine own_go (fun _ k => XS.iload X198.here hx rfl (hb hby at_180) rfl k) ?_
              show own_Go p e below (T198.setTop (mkF m 182 #[.val (.int p1), .val (.int p2), .val (.int p3), .val (.int p4), .val (.int p5), .val (.int tk), .val (.int tl), .val (.int qk), .val (.int ql), .val (.int (0 : Int32)), .val (.int (1 : Int32)), .val (.int p2), .val (.ref b174), .val (.ref x188), .val (.int (own_isr (own_kind tk z0 z1 z2 z3 z4 z5) (own_kind qk z0 z1 z2 z3 z4 z5) (own_text tl p2) (own_text ql p2))), .val (.int (16777215 : Int32)), .unset] [(.int tl)])) _
              refine own_go (fun _ k => XS.iload X198.here hx rfl (hb hby at_182) rfl k) ?_
              show own_Go p e below (T198.setTop (mkF m 184 #[.val (.int p1), .val (.int p2), .val (.int p3), .val (.int p4), .val (.int p5), .val (.int tk), .val (.int tl), .val (.int qk), .val (.int ql), .val (.int (0 : Int32)), .val (.int (1 : Int32)), .val (.int p2), .val (.ref b174), .val (.ref x188), .val (.int (own_isr (own_kind tk z0 z1 z2 z3 z4 z5) (own_kind qk z0 z1 z2 z3 z4 z5) (own_text tl p2) (own_text ql p2))), .val (.int (16777215 : Int32)), .unset] [(.int ql), (.int tl)])) _
              by_cases hc211 : tl = ql
              · skip
                refine own_go (fun _ k => XS.icmpNo X198.here hx rfl (hb hby at_184) rfl (teq hc211).2 k) ?_
                show own_Go p e below (T198.setTop (mkF m 187 #[.val (.int p1), .val (.int p2), .val (.int p3), .val (.int p4), .val (.int p5), .val (.int tk), .val (.int tl), .val (.int qk), .val (.int ql), .val (.int (0 : Int32)), .val (.int (1 : Int32)), .val (.int p2), .val (.ref b174), .val (.ref x188), .val (.int (own_isr (own_kind tk z0 z1 z2 z3 z4 z5) (own_kind qk z0 z1 z2 z3 z4 z5) (own_text tl p2) (own_text ql p2))), .val (.int (16777215 : Int32)), .unset] [])) _
                refine own_go (fun _ k => XS.iloadN X198.here hx rfl (hb hby at_187) rfl k) ?_
                show own_Go p e below (T198.setTop (mkF m 188 #[.val (.int p1), .val (.int p2), .val (.int p3), .val (.int p4), .val (.int p5), .val (.int tk), .val (.int tl), .val (.int qk), .val (.int ql), .val (.int (0 : Int32)), .val (.int (1 : Int32)), .val (.int p2), .val (.ref b174), .val (.ref x188), .val (.int (own_isr (own_kind tk z0 z1 z2 z3 z4 z5) (own_kind qk z0 z1 z2 z3 z4 z5) (own_text tl p2) (own_text ql p2))), .val (.int (16777215 : Int32)), .unset] [(.int p2)])) _
                refine own_go (fun _ k => XS.iload X198.here hx rfl (hb hby at_188) rfl k) ?_
                show own_Go p e below (T198.setTop (mkF m 190 #[.val (.int p1), .val (.int p2), .val (.int p3), .val (.int p4), .val (.int p5), .val (.int tk), .val (.int tl), .val (.int qk), .val (.int ql), .val (.int (0 : Int32)), .val (.int (1 : Int32)), .val (.int p2), .val (.ref b174), .val (.ref x188), .val (.int (own_isr (own_kind tk z0 z1 z2 z3 z4 z5) (own_kind qk z0 z1 z2 z3 z4 z5) (own_text tl p2) (own_text ql p2))), .val (.int (16777215 : Int32)), .unset] [(.int p2), (.int p2)])) _
                refine own_go (fun _ k => XS.ixor X198.here hx rfl (hb hby at_190) rfl k) ?_
                show own_Go p e below (T198.setTop (mkF m 191 #[.val (.int p1), .val (.int p2), .val (.int p3), .val (.int p4), .val (.int p5), .val (.int tk), .val (.int tl), .val (.int qk), .val (.int ql), .val (.int (0 : Int32)), .val (.int (1 : Int32)), .val (.int p2), .val (.ref b174), .val (.ref x188), .val (.int (own_isr (own_kind tk z0 z1 z2 z3 z4 z5) (own_kind qk z0 z1 z2 z3 z4 z5) (own_text tl p2) (own_text ql p2))), .val (.int (16777215 : Int32)), .unset] [(.int (p2 ^^^ p2))])) _
                refine own_go (fun _ k => XS.iload X198.here hx rfl (hb hby at_191) rfl k) ?_
                show own_Go p e below (T198.setTop (mkF m 193 #[.val (.int p1), .val (.int p2), .val (.int p3), .val (.int p4), .val (.int p5), .val (.int tk), .val (.int tl), .val (.int qk), .val (.int ql), .val (.int (0 : Int32)), .val (.int (1 : Int32)), .val (.int p2), .val (.ref b174), .val (.ref x188), .val (.int (own_isr (own_kind tk z0 z1 z2 z3 z4 z5) (own_kind qk z0 z1 z2 z3 z4 z5) (own_text tl p2) (own_text ql p2))), .val (.int (16777215 : Int32)), .unset] [(.int (16777215 : Int32)), (.int (p2 ^^^ p2))])) _
                refine own_go (fun _ k => XS.iand X198.here hx rfl (hb hby at_193) rfl k) ?_
                show own_Go p e below (T198.setTop (mkF m 194 #[.val (.int p1), .val (.int p2), .val (.int p3), .val (.int p4), .val (.int p5), .val (.int tk), .val (.int tl), .val (.int qk), .val (.int ql), .val (.int (0 : Int32)), .val (.int (1 : Int32)), .val (.int p2), .val (.ref b174), .val (.ref x188), .val (.int (own_isr (own_kind tk z0 z1 z2 z3 z4 z5) (own_kind qk z0 z1 z2 z3 z4 z5) (own_text tl p2) (own_text ql p2))), .val (.int (16777215 : Int32)), .unset] [(.int ((p2 ^^^ p2) &&& (16777215 : Int32)))])) _
                by_cases hc212 : ((p2 ^^^ p2) &&& (16777215 : Int32)) = (0 : Int32)
                · skip
                  refine own_go (fun _ k => XS.ifNo X198.here hx rfl (hb hby at_194) rfl ((if0 _ _).trans (teq hc212).2) k) ?_
                  show own_Go p e below (T198.setTop (mkF m 197 #[.val (.int p1), .val (.int p2), .val (.int p3), .val (.int p4), .val (.int p5), .val (.int tk), .val (.int tl), .val (.int qk), .val (.int ql), .val (.int (0 : Int32)), .val (.int (1 : Int32)), .val (.int p2), .val (.ref b174), .val (.ref x188), .val (.int (own_isr (own_kind tk z0 z1 z2 z3 z4 z5) (own_kind qk z0 z1 z2 z3 z4 z5) (own_text tl p2) (own_text ql p2))), .val (.int (16777215 : Int32)), .unset] [])) _
                  refine own_go (fun _ k => XS.iconst X198.here hx rfl (hb hby at_197) k) ?_
                  show own_Go p e below (T198.setTop (mkF m 198 #[.val (.int p1), .val (.int p2), .val (.int p3), .val (.int p4), .val (.int p5), .val (.int tk), .val (.int tl), .val (.int qk), .val (.int ql), .val (.int (0 : Int32)), .val (.int (1 : Int32)), .val (.int p2), .val (.ref b174), .val (.ref x188), .val (.int (own_isr (own_kind tk z0 z1 z2 z3 z4 z5) (own_kind qk z0 z1 z2 z3 z4 z5) (own_text tl p2) (own_text ql p2))), .val (.int (16777215 : Int32)), .unset] [(.int (1 : Int32))])) _
                  refine own_go (fun _ k => XS.goto X198.here hx rfl (pc0 := 198) (pc' := 202) rfl (hb hby at_198) (by decide) (by decide) k) ?_
                  show own_Go p e below (T198.setTop (mkF m 202 #[.val (.int p1), .val (.int p2), .val (.int p3), .val (.int p4), .val (.int p5), .val (.int tk), .val (.int tl), .val (.int qk), .val (.int ql), .val (.int (0 : Int32)), .val (.int (1 : Int32)), .val (.int p2), .val (.ref b174), .val (.ref x188), .val (.int (own_isr (own_kind tk z0 z1 z2 z3 z4 z5) (own_kind qk z0 z1 z2 z3 z4 z5) (own_text tl p2) (own_text ql p2))), .val (.int (16777215 : Int32)), .unset] [(.int (1 : Int32))])) _
                  refine own_go (fun _ k => XS.istore X198.here hx rfl (hb hby at_202) rfl (l' := #[.val (.int p1), .val (.int p2), .val (.int p3), .val (.int p4), .val (.int p5), .val (.int tk), .val (.int tl), .val (.int qk), .val (.int ql), .val (.int (0 : Int32)), .val (.int (1 : Int32)), .val (.int p2), .val (.ref b174), .val (.ref x188), .val (.int (own_isr (own_kind tk z0 z1 z2 z3 z4 z5) (own_kind qk z0 z1 z2 z3 z4 z5) (own_text tl p2) (own_text ql p2))), .val (.int (16777215 : Int32)), .val (.int (1 : Int32))]) rfl k) ?_
                  show own_Go p e below (T198.setTop (mkF m 204 #[.val (.int p1), .val (.int p2), .val (.int p3), .val (.int p4), .val (.int p5), .val (.int tk), .val (.int tl), .val (.int qk), .val (.int ql), .val (.int (0 : Int32)), .val (.int (1 : Int32)), .val (.int p2), .val (.ref b174), .val (.ref x188), .val (.int (own_isr (own_kind tk z0 z1 z2 z3 z4 z5) (own_kind qk z0 z1 z2 z3 z4 z5) (own_text tl p2) (own_text ql p2))), .val (.int (16777215 : Int32)), .val (.int (1 : Int32))] [])) _
                  refine own_go (fun _ k => XS.iload X198.here hx rfl (hb hby at_204) rfl k) ?_
                  show own_Go p e below (T198.setTop (mkF m 206 #[.val (.int p1), .val (.int p2), .val (.int p3), .val (.int p4), .val (.int p5), .val (.int tk), .val (.int tl), .val (.int qk), .val (.int ql), .val (.int (0 : Int32)), .val (.int (1 : Int32)), .val (.int p2), .val (.ref b174), .val (.ref x188), .val (.int (own_isr (own_kind tk z0 z1 z2 z3 z4 z5) (own_kind qk z0 z1 z2 z3 z4 z5) (own_text tl p2) (own_text ql p2))), .val (.int (16777215 : Int32)), .val (.int (1 : Int32))] [(.int (own_isr (own_kind tk z0 z1 z2 z3 z4 z5) (own_kind qk z0 z1 z2 z3 z4 z5) (own_text tl p2) (own_text ql p2)))])) _
                  refine own_go (fun _ k => XS.iload X198.here hx rfl (hb hby at_206) rfl k) ?_
                  show own_Go p e below (T198.setTop (mkF m 208 #[.val (.int p1), .val (.int p2), .val (.int p3), .val (.int p4), .val (.int p5), .val (.int tk), .val (.int tl), .val (.int qk), .val (.int ql), .val (.int (0 : Int32)), .val (.int (1 : Int32)), .val (.int p2), .val (.ref b174), .val (.ref x188), .val (.int (own_isr (own_kind tk z0 z1 z2 z3 z4 z5) (own_kind qk z0 z1 z2 z3 z4 z5) (own_text tl p2) (own_text ql p2))), .val (.int (16777215 : Int32)), .val (.int (1 : Int32))] [(.int (1 : Int32)), (.int (own_isr (own_kind tk z0 z1 z2 z3 z4 z5) (own_kind qk z0 z1 z2 z3 z4 z5) (own_text tl p2) (own_text ql p2)))])) _
                  refine own_go (fun _ k => XS.icmpNo X198.here hx rfl (hb hby at_208) rfl (teq (own_isr_yy (congrArg (fun z => own_kind z z0 z1 z2 z3 z4 z5) hc210.symm) ((own_tx3 hc199 hc202 hc206 hc211).mpr hc212))).2 k) ?_
                  show own_Go p e below (T198.setTop (mkF m 211 #[.val (.int p1), .val (.int p2), .val (.int p3), .val (.int p4), .val (.int p5), .val (.int tk), .val (.int tl), .val (.int qk), .val (.int ql), .val (.int (0 : Int32)), .val (.int (1 : Int32)), .val (.int p2), .val (.ref b174), .val (.ref x188), .val (.int (own_isr (own_kind tk z0 z1 z2 z3 z4 z5) (own_kind qk z0 z1 z2 z3 z4 z5) (own_text tl p2) (own_text ql p2))), .val (.int (16777215 : Int32)), .val (.int (1 : Int32))] [])) _
                  refine own_go (fun _ k => XS.iconst X198.here hx rfl (hb hby at_211) k) ?_
                  show own_Go p e below (T198.setTop (mkF m 212 #[.val (.int p1), .val (.int p2), .val (.int p3), .val (.int p4), .val (.int p5), .val (.int tk), .val (.int tl), .val (.int qk), .val (.int ql), .val (.int (0 : Int32)), .val (.int (1 : Int32)), .val (.int p2), .val (.ref b174), .val (.ref x188), .val (.int (own_isr (own_kind tk z0 z1 z2 z3 z4 z5) (own_kind qk z0 z1 z2 z3 z4 z5) (own_text tl p2) (own_text ql p2))), .val (.int (16777215 : Int32)), .val (.int (1 : Int32))] [(.int (1 : Int32))])) _
                  refine own_go (fun _ k => XS.goto X198.here hx rfl (pc0 := 212) (pc' := 216) rfl (hb hby at_212) (by decide) (by decide) k) ?_
                  show own_Go p e below (T198.setTop (mkF m 216 #[.val (.int p1), .val (.int p2), .val (.int p3), .val (.int p4), .val (.int p5), .val (.int tk), .val (.int tl), .val (.int qk), .val (.int ql), .val (.int (0 : Int32)), .val (.int (1 : Int32)), .val (.int p2), .val (.ref b174), .val (.ref x188), .val (.int (own_isr (own_kind tk z0 z1 z2 z3 z4 z5) (own_kind qk z0 z1 z2 z3 z4 z5) (own_text tl p2) (own_text ql p2))), .val (.int (16777215 : Int32)), .val (.int (1 : Int32))] [(.int (1 : Int32))])) _
                  refine own_finW (v := (some (.int (nar .boolean (1 : Int32))))) X198 hh hZ188 hS188 (by rw [e198]; exact (Nat.le_refl _)) (fun h => by rw [hrt] at h; cases h) hlk (fun fs hr => retN X198 hx (t := .boolean) hrt (by simp) (hb hby at_216) hr) (QQ := QQ0 n0) ?_ own_hEL e198 (C189) (by decide) (by decide)
                  rw [e198]
                  exact ⟨rfl, N198⟩
                · skip
                  refine own_go (fun _ k => XS.ifYes X198.here hx rfl (pc0 := 194) (pc' := 201) rfl (hb hby at_194) rfl ((if0 _ _).trans (feq hc212).2) (by decide) (by decide) k) ?_
                  show own_Go p e below (T198.setTop (mkF m 201 #[.val (.int p1), .val (.int p2), .val (.int p3), .val (.int p4), .val (.int p5), .val (.int tk), .val (.int tl), .val (.int qk), .val (.int ql), .val (.int (0 : Int32)), .val (.int (1 : Int32)), .val (.int p2), .val (.ref b174), .val (.ref x188), .val (.int (own_isr (own_kind tk z0 z1 z2 z3 z4 z5) (own_kind qk z0 z1 z2 z3 z4 z5) (own_text tl p2) (own_text ql p2))), .val (.int (16777215 : Int32)), .unset] [])) _
                  refine own_go (fun _ k => XS.iconst X198.here hx rfl (hb hby at_201) k) ?_
                  show own_Go p e below (T198.setTop (mkF m 202 #[.val (.int p1), .val (.int p2), .val (.int p3), .val (.int p4), .val (.int p5), .val (.int tk), .val (.int tl), .val (.int qk), .val (.int ql), .val (.int (0 : Int32)), .val (.int (1 : Int32)), .val (.int p2), .val (.ref b174), .val (.ref x188), .val (.int (own_isr (own_kind tk z0 z1 z2 z3 z4 z5) (own_kind qk z0 z1 z2 z3 z4 z5) (own_text tl p2) (own_text ql p2))), .val (.int (16777215 : Int32)), .unset] [(.int (0 : Int32))])) _
                  refine own_go (fun _ k => XS.istore X198.here hx rfl (hb hby at_202) rfl (l' := #[.val (.int p1), .val (.int p2), .val (.int p3), .val (.int p4), .val (.int p5), .val (.int tk), .val (.int tl), .val (.int qk), .val (.int ql), .val (.int (0 : Int32)), .val (.int (1 : Int32)), .val (.int p2), .val (.ref b174), .val (.ref x188), .val (.int (own_isr (own_kind tk z0 z1 z2 z3 z4 z5) (own_kind qk z0 z1 z2 z3 z4 z5) (own_text tl p2) (own_text ql p2))), .val (.int (16777215 : Int32)), .val (.int (0 : Int32))]) rfl k) ?_
                  show own_Go p e below (T198.setTop (mkF m 204 #[.val (.int p1), .val (.int p2), .val (.int p3), .val (.int p4), .val (.int p5), .val (.int tk), .val (.int tl), .val (.int qk), .val (.int ql), .val (.int (0 : Int32)), .val (.int (1 : Int32)), .val (.int p2), .val (.ref b174), .val (.ref x188), .val (.int (own_isr (own_kind tk z0 z1 z2 z3 z4 z5) (own_kind qk z0 z1 z2 z3 z4 z5) (own_text tl p2) (own_text ql p2))), .val (.int (16777215 : Int32)), .val (.int (0 : Int32))] [])) _
                  refine own_go (fun _ k => XS.iload X198.here hx rfl (hb hby at_204) rfl k) ?_
                  show own_Go p e below (T198.setTop (mkF m 206 #[.val (.int p1), .val (.int p2), .val (.int p3), .val (.int p4), .val (.int p5), .val (.int tk), .val (.int tl), .val (.int qk), .val (.int ql), .val (.int (0 : Int32)), .val (.int (1 : Int32)), .val (.int p2), .val (.ref b174), .val (.ref x188), .val (.int (own_isr (own_kind tk z0 z1 z2 z3 z4 z5) (own_kind qk z0 z1 z2 z3 z4 z5) (own_text tl p2) (own_text ql p2))), .val (.int (16777215 : Int32)), .val (.int (0 : Int32))] [(.int (own_isr (own_kind tk z0 z1 z2 z3 z4 z5) (own_kind qk z0 z1 z2 z3 z4 z5) (own_text tl p2) (own_text ql p2)))])) _
                  refine own_go (fun _ k => XS.iload X198.here hx rfl (hb hby at_206) rfl k) ?_
                  show own_Go p e below (T198.setTop (mkF m 208 #[.val (.int p1), .val (.int p2), .val (.int p3), .val (.int p4), .val (.int p5), .val (.int tk), .val (.int tl), .val (.int qk), .val (.int ql), .val (.int (0 : Int32)), .val (.int (1 : Int32)), .val (.int p2), .val (.ref b174), .val (.ref x188), .val (.int (own_isr (own_kind tk z0 z1 z2 z3 z4 z5) (own_kind qk z0 z1 z2 z3 z4 z5) (own_text tl p2) (own_text ql p2))), .val (.int (16777215 : Int32)), .val (.int (0 : Int32))] [(.int (0 : Int32)), (.int (own_isr (own_kind tk z0 z1 z2 z3 z4 z5) (own_kind qk z0 z1 z2 z3 z4 z5) (own_text tl p2) (own_text ql p2)))])) _
                  refine own_go (fun _ k => XS.icmpNo X198.here hx rfl (hb hby at_208) rfl (teq (own_isr_m (fun q => hc212 ((own_tx3 hc199 hc202 hc206 hc211).mp q)))).2 k) ?_
                  show own_Go p e below (T198.setTop (mkF m 211 #[.val (.int p1), .val (.int p2), .val (.int p3), .val (.int p4), .val (.int p5), .val (.int tk), .val (.int tl), .val (.int qk), .val (.int ql), .val (.int (0 : Int32)), .val (.int (1 : Int32)), .val (.int p2), .val (.ref b174), .val (.ref x188), .val (.int (own_isr (own_kind tk z0 z1 z2 z3 z4 z5) (own_kind qk z0 z1 z2 z3 z4 z5) (own_text tl p2) (own_text ql p2))), .val (.int (16777215 : Int32)), .val (.int (0 : Int32))] [])) _
                  refine own_go (fun _ k => XS.iconst X198.here hx rfl (hb hby at_211) k) ?_
                  show own_Go p e below (T198.setTop (mkF m 212 #[.val (.int p1), .val (.int p2), .val (.int p3), .val (.int p4), .val (.int p5), .val (.int tk), .val (.int tl), .val (.int qk), .val (.int ql), .val (.int (0 : Int32)), .val (.int (1 : Int32)), .val (.int p2), .val (.ref b174), .val (.ref x188), .val (.int (own_isr (own_kind tk z0 z1 z2 z3 z4 z5) (own_kind qk z0 z1 z2 z3 z4 z5) (own_text tl p2) (own_text ql p2))), .val (.int (16777215 : Int32)), .val (.int (0 : Int32))] [(.int (1 : Int32))])) _
                  refine own_go (fun _ k => XS.goto X198.here hx rfl (pc0 := 212) (pc' := 216) rfl (hb hby at_212) (by decide) (by decide) k) ?_
                  show own_Go p e below (T198.setTop (mkF m 216 #[.val (.int p1), .val (.int p2), .val (.int p3), .val (.int p4), .val (.int p5), .val (.int tk), .val (.int tl), .val (.int qk), .val (.int ql), .val (.int (0 : Int32)), .val (.int (1 : Int32)), .val (.int p2), .val (.ref b174), .val (.ref x188), .val (.int (own_isr (own_kind tk z0 z1 z2 z3 z4 z5) (own_kind qk z0 z1 z2 z3 z4 z5) (own_text tl p2) (own_text ql p2))), .val (.int (16777215 : Int32)), .val (.int (0 : Int32))] [(.int (1 : Int32))])) _
                  refine own_finW (v := (some (.int (nar .boolean (1 : Int32))))) X198 hh hZ188 hS188 (by rw [e198]; exact (Nat.le_refl _)) (fun h => by rw [hrt] at h; cases h) hlk (fun fs hr => retN X198 hx (t := .boolean) hrt (by simp) (hb hby at_216) hr) (QQ := QQ0 n0) ?_ own_hEL e198 (C189) (by decide) (by decide)
                  rw [e198]
                  exact ⟨rfl, N198⟩
              · skip
                refine own_go (fun _ k => XS.icmpYes X198.here hx rfl (pc0 := 184) (pc' := 201) rfl (hb hby at_184) rfl (feq hc211).2 (by decide) (by decide) k) ?_
                show own_Go p e below (T198.setTop (mkF m 201 #[.val (.int p1), .val (.int p2), .val (.int p3), .val (.int p4), .val (.int p5), .val (.int tk), .val (.int tl), .val (.int qk), .val (.int ql), .val (.int (0 : Int32)), .val (.int (1 : Int32)), .val (.int p2), .val (.ref b174), .val (.ref x188), .val (.int (own_isr (own_kind tk z0 z1 z2 z3 z4 z5) (own_kind qk z0 z1 z2 z3 z4 z5) (own_text tl p2) (own_text ql p2))), .val (.int (16777215 : Int32)), .unset] [])) _
                refine own_go (fun _ k => XS.iconst X198.here hx rfl (hb hby at_201) k) ?_
                show own_Go p e below (T198.setTop (mkF m 202 #[.val (.int p1), .val (.int p2), .val (.int p3), .val (.int p4), .val (.int p5), .val (.int tk), .val (.int tl), .val (.int qk), .val (.int ql), .val (.int (0 : Int32)), .val (.int (1 : Int32)), .val (.int p2), .val (.ref b174), .val (.ref x188), .val (.int (own_isr (own_kind tk z0 z1 z2 z3 z4 z5) (own_kind qk z0 z1 z2 z3 z4 z5) (own_text tl p2) (own_text ql p2))), .val (.int (16777215 : Int32)), .unset] [(.int (0 : Int32))])) _
                refine own_go (fun _ k => XS.istore X198.here hx rfl (hb hby at_202) rfl (l' := #[.val (.int p1), .val (.int p2), .val (.int p3), .val (.int p4), .val (.int p5), .val (.int tk), .val (.int tl), .val (.int qk), .val (.int ql), .val (.int (0 : Int32)), .val (.int (1 : Int32)), .val (.int p2), .val (.ref b174), .val (.ref x188), .val (.int (own_isr (own_kind tk z0 z1 z2 z3 z4 z5) (own_kind qk z0 z1 z2 z3 z4 z5) (own_text tl p2) (own_text ql p2))), .val (.int (16777215 : Int32)), .val (.int (0 : Int32))]) rfl k) ?_
                show own_Go p e below (T198.setTop (mkF m 204 #[.val (.int p1), .val (.int p2), .val (.int p3), .val (.int p4), .val (.int p5), .val (.int tk), .val (.int tl), .val (.int qk), .val (.int ql), .val (.int (0 : Int32)), .val (.int (1 : Int32)), .val (.int p2), .val (.ref b174), .val (.ref x188), .val (.int (own_isr (own_kind tk z0 z1 z2 z3 z4 z5) (own_kind qk z0 z1 z2 z3 z4 z5) (own_text tl p2) (own_text ql p2))), .val (.int (16777215 : Int32)), .val (.int (0 : Int32))] [])) _
                refine own_go (fun _ k => XS.iload X198.here hx rfl (hb hby at_204) rfl k) ?_
                show own_Go p e below (T198.setTop (mkF m 206 #[.val (.int p1), .val (.int p2), .val (.int p3), .val (.int p4), .val (.int p5), .val (.int tk), .val (.int tl), .val (.int qk), .val (.int ql), .val (.int (0 : Int32)), .val (.int (1 : Int32)), .val (.int p2), .val (.ref b174), .val (.ref x188), .val (.int (own_isr (own_kind tk z0 z1 z2 z3 z4 z5) (own_kind qk z0 z1 z2 z3 z4 z5) (own_text tl p2) (own_text ql p2))), .val (.int (16777215 : Int32)), .val (.int (0 : Int32))] [(.int (own_isr (own_kind tk z0 z1 z2 z3 z4 z5) (own_kind qk z0 z1 z2 z3 z4 z5) (own_text tl p2) (own_text ql p2)))])) _
                refine own_go (fun _ k => XS.iload X198.here hx rfl (hb hby at_206) rfl k) ?_
                show own_Go p e below (T198.setTop (mkF m 208 #[.val (.int p1), .val (.int p2), .val (.int p3), .val (.int p4), .val (.int p5), .val (.int tk), .val (.int tl), .val (.int qk), .val (.int ql), .val (.int (0 : Int32)), .val (.int (1 : Int32)), .val (.int p2), .val (.ref b174), .val (.ref x188), .val (.int (own_isr (own_kind tk z0 z1 z2 z3 z4 z5) (own_kind qk z0 z1 z2 z3 z4 z5) (own_text tl p2) (own_text ql p2))), .val (.int (16777215 : Int32)), .val (.int (0 : Int32))] [(.int (0 : Int32)), (.int (own_isr (own_kind tk z0 z1 z2 z3 z4 z5) (own_kind qk z0 z1 z2 z3 z4 z5) (own_text tl p2) (own_text ql p2)))])) _
                refine own_go (fun _ k => XS.icmpNo X198.here hx rfl (hb hby at_208) rfl (teq (own_isr_m (own_text_ne (h_tl ▸ own_a3 _) (h_ql ▸ own_a3 _) hc211))).2 k) ?_
                show own_Go p e below (T198.setTop (mkF m 211 #[.val (.int p1), .val (.int p2), .val (.int p3), .val (.int p4), .val (.int p5), .val (.int tk), .val (.int tl), .val (.int qk), .val (.int ql), .val (.int (0 : Int32)), .val (.int (1 : Int32)), .val (.int p2), .val (.ref b174), .val (.ref x188), .val (.int (own_isr (own_kind tk z0 z1 z2 z3 z4 z5) (own_kind qk z0 z1 z2 z3 z4 z5) (own_text tl p2) (own_text ql p2))), .val (.int (16777215 : Int32)), .val (.int (0 : Int32))] [])) _
                refine own_go (fun _ k => XS.iconst X198.here hx rfl (hb hby at_211) k) ?_
                show own_Go p e below (T198.setTop (mkF m 212 #[.val (.int p1), .val (.int p2), .val (.int p3), .val (.int p4), .val (.int p5), .val (.int tk), .val (.int tl), .val (.int qk), .val (.int ql), .val (.int (0 : Int32)), .val (.int (1 : Int32)), .val (.int p2), .val (.ref b174), .val (.ref x188), .val (.int (own_isr (own_kind tk z0 z1 z2 z3 z4 z5) (own_kind qk z0 z1 z2 z3 z4 z5) (own_text tl p2) (own_text ql p2))), .val (.int (16777215 : Int32)), .val (.int (0 : Int32))] [(.int (1 : Int32))])) _
                refine own_go (fun _ k => XS.goto X198.here hx rfl (pc0 := 212) (pc' := 216) rfl (hb hby at_212) (by decide) (by decide) k) ?_
                show own_Go p e below (T198.setTop (mkF m 216 #[.val (.int p1), .val (.int p2), .val (.int p3), .val (.int p4), .val (.int p5), .val (.int tk), .val (.int tl), .val (.int qk), .val (.int ql), .val (.int (0 : Int32)), .val (.int (1 : Int32)), .val (.int p2), .val (.ref b174), .val (.ref x188), .val (.int (own_isr (own_kind tk z0 z1 z2 z3 z4 z5) (own_kind qk z0 z1 z2 z3 z4 z5) (own_text tl p2) (own_text ql p2))), .val (.int (16777215 : Int32)), .val (.int (0 : Int32))] [(.int (1 : Int32))])) _
                refine own_finW (v := (some (.int (nar .boolean (1 : Int32))))) X198 hh hZ188 hS188 (by rw [e198]; exact (Nat.le_refl _)) (fun h => by rw [hrt] at h; cases h) hlk (fun fs hr => retN X198 hx (t := .boolean) hrt (by simp) (hb hby at_216) hr) (QQ := QQ0 n0) ?_ own_hEL e198 (C189) (by decide) (by decide)
                rw [e198]
                exact ⟨rfl, N198⟩
            · skip
              refine own_go (fun _ k => XS.icmpYes X198.here hx rfl (pc0 := 172) (pc' := 201) rfl (hb hby at_172) rfl (feq hc210).2 (by decide) (by decide) k) ?_
              show own_Go p e below (T198.setTop (mkF m 201 #[.val (.int p1), .val (.int p2), .val (.int p3), .val (.int p4), .val (.int p5), .val (.int tk), .val (.int tl), .val (.int qk), .val (.int ql), .val (.int (0 : Int32)), .val (.int (1 : Int32)), .val (.int p2), .val (.ref b174), .val (.ref x188), .val (.int (own_isr (own_kind tk z0 z1 z2 z3 z4 z5) (own_kind qk z0 z1 z2 z3 z4 z5) (own_text tl p2) (own_text ql p2))), .val (.int (16777215 : Int32)), .unset] [])) _
              refine own_go (fun _ k => XS.iconst X198.here hx rfl (hb hby at_201) k) ?_
              show own_Go p e below (T198.setTop (mkF m 202 #[.val (.int p1), .val (.int p2), .val (.int p3), .val (.int p4), .val (.int p5), .val (.int tk), .val (.int tl), .val (.int qk), .val (.int ql), .val (.int (0 : Int32)), .val (.int (1 : Int32)), .val (.int p2), .val (.ref b174), .val (.ref x188), .val (.int (own_isr (own_kind tk z0 z1 z2 z3 z4 z5) (own_kind qk z0 z1 z2 z3 z4 z5) (own_text tl p2) (own_text ql p2))), .val (.int (16777215 : Int32)), .unset] [(.int (0 : Int32))])) _
              refine own_go (fun _ k => XS.istore X198.here hx rfl (hb hby at_202) rfl (l' := #[.val (.int p1), .val (.int p2), .val (.int p3), .val (.int p4), .val (.int p5), .val (.int tk), .val (.int tl), .val (.int qk), .val (.int ql), .val (.int (0 : Int32)), .val (.int (1 : Int32)), .val (.int p2), .val (.ref b174), .val (.ref x188), .val (.int (own_isr (own_kind tk z0 z1 z2 z3 z4 z5) (own_kind qk z0 z1 z2 z3 z4 z5) (own_text tl p2) (own_text ql p2))), .val (.int (16777215 : Int32)), .val (.int (0 : Int32))]) rfl k) ?_
              show own_Go p e below (T198.setTop (mkF m 204 #[.val (.int p1), .val (.int p2), .val (.int p3), .val (.int p4), .val (.int p5), .val (.int tk), .val (.int tl), .val (.int qk), .val (.int ql), .val (.int (0 : Int32)), .val (.int (1 : Int32)), .val (.int p2), .val (.ref b174), .val (.ref x188), .val (.int (own_isr (own_kind tk z0 z1 z2 z3 z4 z5) (own_kind qk z0 z1 z2 z3 z4 z5) (own_text tl p2) (own_text ql p2))), .val (.int (16777215 : Int32)), .val (.int (0 : Int32))] [])) _
              refine own_go (fun _ k => XS.iload X198.here hx rfl (hb hby at_204) rfl k) ?_
              show own_Go p e below (T198.setTop (mkF m 206 #[.val (.int p1), .val (.int p2), .val (.int p3), .val (.int p4), .val (.int p5), .val (.int tk), .val (.int tl), .val (.int qk), .val (.int ql), .val (.int (0 : Int32)), .val (.int (1 : Int32)), .val (.int p2), .val (.ref b174), .val (.ref x188), .val (.int (own_isr (own_kind tk z0 z1 z2 z3 z4 z5) (own_kind qk z0 z1 z2 z3 z4 z5) (own_text tl p2) (own_text ql p2))), .val (.int (16777215 : Int32)), .val (.int (0 : Int32))] [(.int (own_isr (own_kind tk z0 z1 z2 z3 z4 z5) (own_kind qk z0 z1 z2 z3 z4 z5) (own_text tl p2) (own_text ql p2)))])) _
              refine own_go (fun _ k => XS.iload X198.here hx rfl (hb hby at_206) rfl k) ?_
              show own_Go p e below (T198.setTop (mkF m 208 #[.val (.int p1), .val (.int p2), .val (.int p3), .val (.int p4), .val (.int p5), .val (.int tk), .val (.int tl), .val (.int qk), .val (.int ql), .val (.int (0 : Int32)), .val (.int (1 : Int32)), .val (.int p2), .val (.ref b174), .val (.ref x188), .val (.int (own_isr (own_kind tk z0 z1 z2 z3 z4 z5) (own_kind qk z0 z1 z2 z3 z4 z5) (own_text tl p2) (own_text ql p2))), .val (.int (16777215 : Int32)), .val (.int (0 : Int32))] [(.int (0 : Int32)), (.int (own_isr (own_kind tk z0 z1 z2 z3 z4 z5) (own_kind qk z0 z1 z2 z3 z4 z5) (own_text tl p2) (own_text ql p2)))])) _
              refine own_go (fun _ k => XS.icmpNo X198.here hx rfl (hb hby at_208) rfl (teq (own_isr_n1 (own_kind_ne hz (h_tk ▸ own_i6 p1) (h_qk ▸ own_i7 p3) (fun q => hc210 q.symm)))).2 k) ?_
              show own_Go p e below (T198.setTop (mkF m 211 #[.val (.int p1), .val (.int p2), .val (.int p3), .val (.int p4), .val (.int p5), .val (.int tk), .val (.int tl), .val (.int qk), .val (.int ql), .val (.int (0 : Int32)), .val (.int (1 : Int32)), .val (.int p2), .val (.ref b174), .val (.ref x188), .val (.int (own_isr (own_kind tk z0 z1 z2 z3 z4 z5) (own_kind qk z0 z1 z2 z3 z4 z5) (own_text tl p2) (own_text ql p2))), .val (.int (16777215 : Int32)), .val (.int (0 : Int32))] [])) _
              refine own_go (fun _ k => XS.iconst X198.here hx rfl (hb hby at_211) k) ?_
              show own_Go p e below (T198.setTop (mkF m 212 #[.val (.int p1), .val (.int p2), .val (.int p3), .val (.int p4), .val (.int p5), .val (.int tk), .val (.int tl), .val (.int qk), .val (.int ql), .val (.int (0 : Int32)), .val (.int (1 : Int32)), .val (.int p2), .val (.ref b174), .val (.ref x188), .val (.int (own_isr (own_kind tk z0 z1 z2 z3 z4 z5) (own_kind qk z0 z1 z2 z3 z4 z5) (own_text tl p2) (own_text ql p2))), .val (.int (16777215 : Int32)), .val (.int (0 : Int32))] [(.int (1 : Int32))])) _
              refine own_go (fun _ k => XS.goto X198.here hx rfl (pc0 := 212) (pc' := 216) rfl (hb hby at_212) (by decide) (by decide) k) ?_
              show own_Go p e below (T198.setTop (mkF m 216 #[.val (.int p1), .val (.int p2), .val (.int p3), .val (.int p4), .val (.int p5), .val (.int tk), .val (.int tl), .val (.int qk), .val (.int ql), .val (.int (0 : Int32)), .val (.int (1 : Int32)), .val (.int p2), .val (.ref b174), .val (.ref x188), .val (.int (own_isr (own_kind tk z0 z1 z2 z3 z4 z5) (own_kind qk z0 z1 z2 z3 z4 z5) (own_text tl p2) (own_text ql p2))), .val (.int (16777215 : Int32)), .val (.int (0 : Int32))] [(.int (1 : Int32))])) _
              refine own_finW (v := (some (.int (nar .boolean (1 : Int32))))) X198 hh hZ188 hS188 (by rw [e198]; exact (Nat.le_refl _)) (fun h => by rw [hrt] at h; cases h) hlk (fun fs hr => retN X198 hx (t := .boolean) hrt (by simp) (hb hby at_216) hr) (QQ := QQ0 n0) ?_ own_hEL e198 (C189) (by decide) (by decide)
              rw [e198]
              exact ⟨rfl, N198⟩
  · skip
    refine own_go (fun _ k => XS.ifNo X0.here hx rfl (hb hby at_40) rfl ((if0 _ _).trans (feq hc133).1) k) ?_
    show own_Go p e below (s₁.setTop (mkF m 43 #[.val (.int p1), .val (.int p2), .val (.int p3), .val (.int p4), .val (.int p5), .val (.int tk), .val (.int tl), .val (.int qk), .val (.int ql), .unset, .unset, .unset, .unset, .unset, .unset, .unset, .unset] [])) _
    refine own_go (fun _ k => XS.iconst X0.here hx rfl (hb hby at_43) k) ?_
    show own_Go p e below (s₁.setTop (mkF m 44 #[.val (.int p1), .val (.int p2), .val (.int p3), .val (.int p4), .val (.int p5), .val (.int tk), .val (.int tl), .val (.int qk), .val (.int ql), .unset, .unset, .unset, .unset, .unset, .unset, .unset, .unset] [(.int (1 : Int32))])) _
    refine own_go (fun _ k => XS.goto X0.here hx rfl (pc0 := 44) (pc' := 48) rfl (hb hby at_44) (by decide) (by decide) k) ?_
    show own_Go p e below (s₁.setTop (mkF m 48 #[.val (.int p1), .val (.int p2), .val (.int p3), .val (.int p4), .val (.int p5), .val (.int tk), .val (.int tl), .val (.int qk), .val (.int ql), .unset, .unset, .unset, .unset, .unset, .unset, .unset, .unset] [(.int (1 : Int32))])) _
    refine own_go (fun _ k => XS.istore X0.here hx rfl (hb hby at_48) rfl (l' := #[.val (.int p1), .val (.int p2), .val (.int p3), .val (.int p4), .val (.int p5), .val (.int tk), .val (.int tl), .val (.int qk), .val (.int ql), .val (.int (1 : Int32)), .unset, .unset, .unset, .unset, .unset, .unset, .unset]) rfl k) ?_
    show own_Go p e below (s₁.setTop (mkF m 50 #[.val (.int p1), .val (.int p2), .val (.int p3), .val (.int p4), .val (.int p5), .val (.int tk), .val (.int tl), .val (.int qk), .val (.int ql), .val (.int (1 : Int32)), .unset, .unset, .unset, .unset, .unset, .unset, .unset] [])) _
    refine own_go (fun _ k => XS.iloadN X0.here hx rfl (hb hby at_50) rfl k) ?_
    show own_Go p e below (s₁.setTop (mkF m 51 #[.val (.int p1), .val (.int p2), .val (.int p3), .val (.int p4), .val (.int p5), .val (.int tk), .val (.int tl), .val (.int qk), .val (.int ql), .val (.int (1 : Int32)), .unset, .unset, .unset, .unset, .unset, .unset, .unset] [(.int p3)])) _
    refine own_go (fun _ k => XS.bipush X0.here hx rfl (hb hby at_51) k) ?_
    show own_Go p e below (s₁.setTop (mkF m 53 #[.val (.int p1), .val (.int p2), .val (.int p3), .val (.int p4), .val (.int p5), .val (.int tk), .val (.int tl), .val (.int qk), .val (.int ql), .val (.int (1 : Int32)), .unset, .unset, .unset, .unset, .unset, .unset, .unset] [(.int (11 : Int32)), (.int p3)])) _
    refine own_go (fun _ k => XS.iushr X0.here hx rfl (hb hby at_53) rfl k) ?_
    show own_Go p e below (s₁.setTop (mkF m 54 #[.val (.int p1), .val (.int p2), .val (.int p3), .val (.int p4), .val (.int p5), .val (.int tk), .val (.int tl), .val (.int qk), .val (.int ql), .val (.int (1 : Int32)), .unset, .unset, .unset, .unset, .unset, .unset, .unset] [(.int ((p3.toUInt32 >>> ((11 : Int32) &&& 31).toUInt32).toInt32))])) _
    refine own_go (fun _ k => XS.iconst X0.here hx rfl (hb hby at_54) k) ?_
    show own_Go p e below (s₁.setTop (mkF m 55 #[.val (.int p1), .val (.int p2), .val (.int p3), .val (.int p4), .val (.int p5), .val (.int tk), .val (.int tl), .val (.int qk), .val (.int ql), .val (.int (1 : Int32)), .unset, .unset, .unset, .unset, .unset, .unset, .unset] [(.int (1 : Int32)), (.int ((p3.toUInt32 >>> ((11 : Int32) &&& 31).toUInt32).toInt32))])) _
    refine own_go (fun _ k => XS.iand X0.here hx rfl (hb hby at_55) rfl k) ?_
    show own_Go p e below (s₁.setTop (mkF m 56 #[.val (.int p1), .val (.int p2), .val (.int p3), .val (.int p4), .val (.int p5), .val (.int tk), .val (.int tl), .val (.int qk), .val (.int ql), .val (.int (1 : Int32)), .unset, .unset, .unset, .unset, .unset, .unset, .unset] [(.int (((p3.toUInt32 >>> ((11 : Int32) &&& 31).toUInt32).toInt32) &&& (1 : Int32)))])) _
    by_cases hc213 : (((p3.toUInt32 >>> ((11 : Int32) &&& 31).toUInt32).toInt32) &&& (1 : Int32)) = (0 : Int32)
    · skip
      refine own_go (fun _ k => XS.ifYes X0.here hx rfl (pc0 := 56) (pc' := 63) rfl (hb hby at_56) rfl ((if0 _ _).trans (teq hc213).1) (by decide) (by decide) k) ?_
      show own_Go p e below (s₁.setTop (mkF m 63 #[.val (.int p1), .val (.int p2), .val (.int p3), .val (.int p4), .val (.int p5), .val (.int tk), .val (.int tl), .val (.int qk), .val (.int ql), .val (.int (1 : Int32)), .unset, .unset, .unset, .unset, .unset, .unset, .unset] [])) _
      refine own_go (fun _ k => XS.iconst X0.here hx rfl (hb hby at_63) k) ?_
      show own_Go p e below (s₁.setTop (mkF m 64 #[.val (.int p1), .val (.int p2), .val (.int p3), .val (.int p4), .val (.int p5), .val (.int tk), .val (.int tl), .val (.int qk), .val (.int ql), .val (.int (1 : Int32)), .unset, .unset, .unset, .unset, .unset, .unset, .unset] [(.int (0 : Int32))])) _
      refine own_go (fun _ k => XS.istore X0.here hx rfl (hb hby at_64) rfl (l' := #[.val (.int p1), .val (.int p2), .val (.int p3), .val (.int p4), .val (.int p5), .val (.int tk), .val (.int tl), .val (.int qk), .val (.int ql), .val (.int (1 : Int32)), .val (.int (0 : Int32)), .unset, .unset, .unset, .unset, .unset, .unset]) rfl k) ?_
      show own_Go p e below (s₁.setTop (mkF m 66 #[.val (.int p1), .val (.int p2), .val (.int p3), .val (.int p4), .val (.int p5), .val (.int tk), .val (.int tl), .val (.int qk), .val (.int ql), .val (.int (1 : Int32)), .val (.int (0 : Int32)), .unset, .unset, .unset, .unset, .unset, .unset] [])) _
      refine own_go (fun _ k => XS.iload X0.here hx rfl (hb hby at_66) rfl k) ?_
      show own_Go p e below (s₁.setTop (mkF m 68 #[.val (.int p1), .val (.int p2), .val (.int p3), .val (.int p4), .val (.int p5), .val (.int tk), .val (.int tl), .val (.int qk), .val (.int ql), .val (.int (1 : Int32)), .val (.int (0 : Int32)), .unset, .unset, .unset, .unset, .unset, .unset] [(.int (0 : Int32))])) _
      refine own_go (fun _ k => XS.ifYes X0.here hx rfl (pc0 := 68) (pc' := 75) rfl (hb hby at_68) rfl ((if0 _ _).trans (teq (by decide : (0 : Int32) = (0 : Int32))).1) (by decide) (by decide) k) ?_
      show own_Go p e below (s₁.setTop (mkF m 75 #[.val (.int p1), .val (.int p2), .val (.int p3), .val (.int p4), .val (.int p5), .val (.int tk), .val (.int tl), .val (.int qk), .val (.int ql), .val (.int (1 : Int32)), .val (.int (0 : Int32)), .unset, .unset, .unset, .unset, .unset, .unset] [])) _
      refine own_go (fun _ k => XS.iloadN X0.here hx rfl (hb hby at_75) rfl k) ?_
      show own_Go p e below (s₁.setTop (mkF m 76 #[.val (.int p1), .val (.int p2), .val (.int p3), .val (.int p4), .val (.int p5), .val (.int tk), .val (.int tl), .val (.int qk), .val (.int ql), .val (.int (1 : Int32)), .val (.int (0 : Int32)), .unset, .unset, .unset, .unset, .unset, .unset] [(.int p4)])) _
      refine own_go (fun _ k => XS.istore X0.here hx rfl (hb hby at_76) rfl (l' := #[.val (.int p1), .val (.int p2), .val (.int p3), .val (.int p4), .val (.int p5), .val (.int tk), .val (.int tl), .val (.int qk), .val (.int ql), .val (.int (1 : Int32)), .val (.int (0 : Int32)), .val (.int p4), .unset, .unset, .unset, .unset, .unset]) rfl k) ?_
      show own_Go p e below (s₁.setTop (mkF m 78 #[.val (.int p1), .val (.int p2), .val (.int p3), .val (.int p4), .val (.int p5), .val (.int tk), .val (.int tl), .val (.int qk), .val (.int ql), .val (.int (1 : Int32)), .val (.int (0 : Int32)), .val (.int p4), .unset, .unset, .unset, .unset, .unset] [])) _
      obtain ⟨T214, h214, X214, e214, E214, A214, D214, U214, st214⟩ := newO X0 hx hZ hown (hw _ (List.mem_of_getElem? (i := 1) rfl)) (hw _ (List.mem_of_getElem? (i := 2) rfl)) (hw _ (List.mem_of_getElem? (i := 3) rfl)) e0 (g := (mkF m 78 #[.val (.int p1), .val (.int p2), .val (.int p3), .val (.int p4), .val (.int p5), .val (.int tk), .val (.int tl), .val (.int qk), .val (.int ql), .val (.int (1 : Int32)), .val (.int (0 : Int32)), .val (.int p4), .unset, .unset, .unset, .unset, .unset] [])) rfl (hb hby at_78) (by decide) (by decide)
      obtain ⟨b214, g214⟩ : ∃ z, z = h0.size := ⟨_, rfl⟩
      rw [← g214] at A214 D214 U214 st214
      refine own_go st214 ?_
      have C215 := C0.trans (CHr.ext E214 C0.1)
      have F214_kind : Fld Z h214 b214 "com/example/sequela/sequela/Lexer$Token" "kind" "Lcom/example/sequela/sequela/Lexer$Kind;" .null := D214 (Or.inr (hw _ (List.mem_of_getElem? (i := 46) rfl))) (ty := (.object "com/example/sequela/sequela/Lexer$Kind")) (by decide)
      have F214_text : Fld Z h214 b214 "com/example/sequela/sequela/Lexer$Token" "text" "Ljava/lang/String;" .null := D214 (Or.inr (hw _ (List.mem_of_getElem? (i := 48) rfl))) (ty := (.object "java/lang/String")) (by decide)
      have F214_index : Fld Z h214 b214 "com/example/sequela/sequela/Lexer$Token" "index" "I" (.int (0 : Int32)) := D214 (Or.inr (hw _ (List.mem_of_getElem? (i := 50) rfl))) (ty := .int) (by decide)
      show own_Go p e below (T214.setTop (mkF m 81 #[.val (.int p1), .val (.int p2), .val (.int p3), .val (.int p4), .val (.int p5), .val (.int tk), .val (.int tl), .val (.int qk), .val (.int ql), .val (.int (1 : Int32)), .val (.int (0 : Int32)), .val (.int p4), .unset, .unset, .unset, .unset, .unset] [(.ref b214)])) _
      refine own_go (fun _ k => XS.dup X214.here hx rfl (hb hby at_81) rfl rfl k) ?_
      show own_Go p e below (T214.setTop (mkF m 82 #[.val (.int p1), .val (.int p2), .val (.int p3), .val (.int p4), .val (.int p5), .val (.int tk), .val (.int tl), .val (.int qk), .val (.int ql), .val (.int (1 : Int32)), .val (.int (0 : Int32)), .val (.int p4), .unset, .unset, .unset, .unset, .unset] [(.ref b214), (.ref b214)])) _
      refine own_go (fun _ k => XS.iload X214.here hx rfl (hb hby at_82) rfl k) ?_
      show own_Go p e below (T214.setTop (mkF m 84 #[.val (.int p1), .val (.int p2), .val (.int p3), .val (.int p4), .val (.int p5), .val (.int tk), .val (.int tl), .val (.int qk), .val (.int ql), .val (.int (1 : Int32)), .val (.int (0 : Int32)), .val (.int p4), .unset, .unset, .unset, .unset, .unset] [(.int tk), (.ref b214), (.ref b214)])) _
      obtain ⟨v216, _, ⟨T216, L216, k216, n216⟩, -, X216, ⟨Lc216, hQ216, l216, y216, z216⟩, st216⟩ := Jvm.LawKit.callS X214 hx (y := (⟨"com/example/sequela/sequela/TokenIsPinLaw", "kind", "(I)Lcom/example/sequela/sequela/Lexer$Kind;"⟩ : MethodName)) hown (mvT hZ (hw _ (List.mem_of_getElem? (i := 4) rfl))) (mvT hZ (hw _ (List.mem_of_getElem? (i := 5) rfl))) (mvT hZ (hw _ (List.mem_of_getElem? (i := 6) rfl))) (mvT hZ (hw _ (List.mem_of_getElem? (i := 7) rfl))) (by decide) (backOf (W := 2) (rm_kind l Z a0 hw [] tk z0 z1 z2 z3 z4 z5 h214 n0 (O0.ext E214) S0 S1 S2 S3 S4 S5) hZ (hw _ (List.mem_of_getElem? (i := 7) rfl)) (hw _ (List.mem_of_getElem? (i := 6) rfl)) (by decide) (by decide)) (g := (mkF m 84 #[.val (.int p1), .val (.int p2), .val (.int p3), .val (.int p4), .val (.int p5), .val (.int tk), .val (.int tl), .val (.int qk), .val (.int ql), .val (.int (1 : Int32)), .val (.int (0 : Int32)), .val (.int p4), .unset, .unset, .unset, .unset, .unset] [(.int tk), (.ref b214), (.ref b214)])) rfl (by rw [hml]; rfl) (argsL := [(.int tk)]) (rest := [(.ref b214), (.ref b214)]) (lenOf pd_4 rfl) rfl (by show 2 * 0 + _ ≤ _; exact Nat.le_of_eq rfl) (hb hby at_84) (fun _ _ => ⟨rfl, e214, (by decide : 1 + 0 ≤ _), (by decide : 3 + 0 ≤ _)⟩)
      dsimp only [Pt.U, Pt.locs, Pt.cells, Pt.slots] at X216 l216 y216 z216 st216 hQ216
      subst l216 y216 z216
      refine own_go st216 ?_
      obtain ⟨rfl, Nq216, e216⟩ := hQ216
      have N216 := Fr.app N0 Nq216
      show own_Go p e below (T216.setTop (mkF m 87 #[.val (.int p1), .val (.int p2), .val (.int p3), .val (.int p4), .val (.int p5), .val (.int tk), .val (.int tl), .val (.int qk), .val (.int ql), .val (.int (1 : Int32)), .val (.int (0 : Int32)), .val (.int p4), .unset, .unset, .unset, .unset, .unset] [(own_kind tk z0 z1 z2 z3 z4 z5), (.ref b214), (.ref b214)])) _
      refine own_go (fun _ k => XS.iload X216.here hx rfl (hb hby at_87) rfl k) ?_
      show own_Go p e below (T216.setTop (mkF m 89 #[.val (.int p1), .val (.int p2), .val (.int p3), .val (.int p4), .val (.int p5), .val (.int tk), .val (.int tl), .val (.int qk), .val (.int ql), .val (.int (1 : Int32)), .val (.int (0 : Int32)), .val (.int p4), .unset, .unset, .unset, .unset, .unset] [(.int tl), (own_kind tk z0 z1 z2 z3 z4 z5), (.ref b214), (.ref b214)])) _
      refine own_go (fun _ k => XS.iloadN X216.here hx rfl (hb hby at_89) rfl k) ?_
      show own_Go p e below (T216.setTop (mkF m 90 #[.val (.int p1), .val (.int p2), .val (.int p3), .val (.int p4), .val (.int p5), .val (.int tk), .val (.int tl), .val (.int qk), .val (.int ql), .val (.int (1 : Int32)), .val (.int (0 : Int32)), .val (.int p4), .unset, .unset, .unset, .unset, .unset] [(.int p2), (.int tl), (own_kind tk z0 z1 z2 z3 z4 z5), (.ref b214), (.ref b214)])) _
      obtain ⟨v217, _, ⟨T217, L217, k217, n217⟩, -, X217, hS217, hg217, ⟨Lc217, hQ217, l217, y217, z217, A217⟩, st217⟩ := callSS X216 hx (y := (⟨"com/example/sequela/sequela/TokenIsPinLaw", "text", "(II)Ljava/lang/String;"⟩ : MethodName)) hown (mvT hZ (hw _ (List.mem_of_getElem? (i := 11) rfl))) (mvT hZ (hw _ (List.mem_of_getElem? (i := 12) rfl))) (mvT hZ (hw _ (List.mem_of_getElem? (i := 6) rfl))) (mvT hZ (hw _ (List.mem_of_getElem? (i := 13) rfl))) (by decide) (backOfSH (W := 3) (rm_text l Z a0 hw [] tl p2 G1 h214 n0 (O0.ext E214) O2 P5) hZ (hw _ (List.mem_of_getElem? (i := 13) rfl)) (hw _ (List.mem_of_getElem? (i := 6) rfl)) (by decide) (by decide) own_hEL C215.1) (g := (mkF m 90 #[.val (.int p1), .val (.int p2), .val (.int p3), .val (.int p4), .val (.int p5), .val (.int tk), .val (.int tl), .val (.int qk), .val (.int ql), .val (.int (1 : Int32)), .val (.int (0 : Int32)), .val (.int p4), .unset, .unset, .unset, .unset, .unset] [(.int p2), (.int tl), (own_kind tk z0 z1 z2 z3 z4 z5), (.ref b214), (.ref b214)])) rfl (by rw [hml]; rfl) (argsL := [(.int tl), (.int p2)]) (rest := [(own_kind tk z0 z1 z2 z3 z4 z5), (.ref b214), (.ref b214)]) (lenOf pd_5 rfl) rfl (by show 2 * 0 + _ ≤ _; simp only [List.map, own_catR (own_kindR _ _ _ _ _ _ _)]; exact Nat.le_of_eq rfl) (hb hby at_90) (fun _ _ => ⟨rfl, e216, (by decide : 1 + 6 ≤ _), (by decide : 3 + 12 ≤ _)⟩)
      dsimp only [Pt.U, Pt.locs, Pt.cells, Pt.slots] at X217 l217 y217 z217 st217 hQ217 hS217 hg217 A217
      subst l217 y217 z217
      refine own_gos st217 ?_
      obtain ⟨X217, hS217, hZ217, hown217⟩ := rebS hS0 (k0 := _) (n1 := T216.heap.size) (by rw [e216]; exact (Nat.zero_le _)) X217 hS217 hg217 hZ hown
      obtain ⟨x217, t217, kt217, N2217, vs217, rfl, Nq217, K217, xg217, Ex217, Fv217, Fc217, Vt217, hC217⟩ := hQ217
      have C218 := C215.trans A217
      have N217 := Fr.app N216 Nq217
      have ne219 := Exa.neArv (A214.keep K217) Vt217 (hw _ (List.mem_of_getElem? (i := 2) rfl))
      show own_Go p e below (T217.setTop (mkF m 93 #[.val (.int p1), .val (.int p2), .val (.int p3), .val (.int p4), .val (.int p5), .val (.int tk), .val (.int tl), .val (.int qk), .val (.int ql), .val (.int (1 : Int32)), .val (.int (0 : Int32)), .val (.int p4), .unset, .unset, .unset, .unset, .unset] [(.ref x217), (own_kind tk z0 z1 z2 z3 z4 z5), (.ref b214), (.ref b214)])) _
      refine own_go (fun _ k => XS.iload X217.here hx rfl (hb hby at_93) rfl k) ?_
      show own_Go p e below (T217.setTop (mkF m 95 #[.val (.int p1), .val (.int p2), .val (.int p3), .val (.int p4), .val (.int p5), .val (.int tk), .val (.int tl), .val (.int qk), .val (.int ql), .val (.int (1 : Int32)), .val (.int (0 : Int32)), .val (.int p4), .unset, .unset, .unset, .unset, .unset] [(.int p5), (.ref x217), (own_kind tk z0 z1 z2 z3 z4 z5), (.ref b214), (.ref b214)])) _
      have f220 := (F214_kind.keep K217 nin0)
      have f221 := (F214_text.keep K217 nin0)
      have f222 := (F214_index.keep K217 nin0)
      have f223 := ((O0.ext E214).keep K217 all0)
      obtain ⟨v224, _, ⟨T224, L224, k224, n224⟩, -, X224, ⟨Lc224, hQ224, l224, y224, z224⟩, st224⟩ := X217.specialBack hx (y := (⟨"com/example/sequela/sequela/Lexer$Token", "<init>", "(Lcom/example/sequela/sequela/Lexer$Kind;Ljava/lang/String;I)V"⟩ : MethodName)) rfl hown217 (mvT hZ217 (hw _ (List.mem_of_getElem? (i := 36) rfl))) (mvT hZ217 (hw _ (List.mem_of_getElem? (i := 37) rfl))) (mvT hZ217 (hw _ (List.mem_of_getElem? (i := 38) rfl))) (by decide) (backOf (W := 1) (rm_tok l Z a0 hw [] b214 (own_kind tk z0 z1 z2 z3 z4 z5) x217 p5 T217.heap n0 f223 (own_kindR _ _ _ _ _ _ _) (A214.keep K217) f220 f221 f222 (Nat.le_trans Z0 (Nat.le_of_eq g214.symm))) hZ217 (hw _ (List.mem_of_getElem? (i := 38) rfl)) (hw _ (List.mem_of_getElem? (i := 3) rfl)) (by decide) (by decide)) (g := (mkF m 95 #[.val (.int p1), .val (.int p2), .val (.int p3), .val (.int p4), .val (.int p5), .val (.int tk), .val (.int tl), .val (.int qk), .val (.int ql), .val (.int (1 : Int32)), .val (.int (0 : Int32)), .val (.int p4), .unset, .unset, .unset, .unset, .unset] [(.int p5), (.ref x217), (own_kind tk z0 z1 z2 z3 z4 z5), (.ref b214), (.ref b214)])) rfl (by rw [hml]; rfl) (Steps.refl _) (a := b214) (argsL := [(own_kind tk z0 z1 z2 z3 z4 z5), (.ref x217), (.int p5)]) (rest := [(.ref b214)]) (lenOf pd_6 rfl) rfl (by show 2 * 0 + _ ≤ _; exact Nat.le_of_eq rfl) (hb hby at_95) (fun _ _ => ⟨rfl, (rfl : T217.heap = T217.heap), (by decide : 7 + 0 ≤ _), (by decide : 15 + 0 ≤ _)⟩)
      dsimp only [Pt.U, Pt.locs, Pt.cells, Pt.slots] at X224 l224 y224 z224 st224 hQ224
      subst l224 y224 z224
      refine own_gos st224 ?_
      obtain ⟨rfl, Nq224, K224, Fk224, Ft224⟩ := hQ224
      have f225 := (A217.safe A214.lt (Safe.ext E214 C0.1 (Safe.new (Nat.le_of_eq g214.symm))))
      have C226 := C218.trans (CHr.keep K224 (sfS f225 sf0) C218.1)
      have N224 := Fr.app N217 Nq224
      show own_Go p e below (T224.setTop (mkF m 98 #[.val (.int p1), .val (.int p2), .val (.int p3), .val (.int p4), .val (.int p5), .val (.int tk), .val (.int tl), .val (.int qk), .val (.int ql), .val (.int (1 : Int32)), .val (.int (0 : Int32)), .val (.int p4), .unset, .unset, .unset, .unset, .unset] [(.ref b214)])) _
      refine own_go (fun _ k => XS.astore X224.here hx rfl (hb hby at_98) rfl rfl (l' := #[.val (.int p1), .val (.int p2), .val (.int p3), .val (.int p4), .val (.int p5), .val (.int tk), .val (.int tl), .val (.int qk), .val (.int ql), .val (.int (1 : Int32)), .val (.int (0 : Int32)), .val (.int p4), .val (.ref b214), .unset, .unset, .unset, .unset]) rfl k) ?_
      show own_Go p e below (T224.setTop (mkF m 100 #[.val (.int p1), .val (.int p2), .val (.int p3), .val (.int p4), .val (.int p5), .val (.int tk), .val (.int tl), .val (.int qk), .val (.int ql), .val (.int (1 : Int32)), .val (.int (0 : Int32)), .val (.int p4), .val (.ref b214), .unset, .unset, .unset, .unset] [])) _
      refine own_go (fun _ k => XS.iload X224.here hx rfl (hb hby at_100) rfl k) ?_
      show own_Go p e below (T224.setTop (mkF m 102 #[.val (.int p1), .val (.int p2), .val (.int p3), .val (.int p4), .val (.int p5), .val (.int tk), .val (.int tl), .val (.int qk), .val (.int ql), .val (.int (1 : Int32)), .val (.int (0 : Int32)), .val (.int p4), .val (.ref b214), .unset, .unset, .unset, .unset] [(.int (1 : Int32))])) _
      refine own_go (fun _ k => XS.ifNo X224.here hx rfl (hb hby at_102) rfl ((if0 _ _).trans (feq (by decide : ¬ ((1 : Int32) = (0 : Int32)))).1) k) ?_
      show own_Go p e below (T224.setTop (mkF m 105 #[.val (.int p1), .val (.int p2), .val (.int p3), .val (.int p4), .val (.int p5), .val (.int tk), .val (.int tl), .val (.int qk), .val (.int ql), .val (.int (1 : Int32)), .val (.int (0 : Int32)), .val (.int p4), .val (.ref b214), .unset, .unset, .unset, .unset] [])) _
      refine own_go (fun _ k => XS.aconstNull X224.here hx rfl (hb hby at_105) k) ?_
      show own_Go p e below (T224.setTop (mkF m 106 #[.val (.int p1), .val (.int p2), .val (.int p3), .val (.int p4), .val (.int p5), .val (.int tk), .val (.int tl), .val (.int qk), .val (.int ql), .val (.int (1 : Int32)), .val (.int (0 : Int32)), .val (.int p4), .val (.ref b214), .unset, .unset, .unset, .unset] [.null])) _
      refine own_go (fun _ k => XS.goto X224.here hx rfl (pc0 := 106) (pc' := 116) rfl (hb hby at_106) (by decide) (by decide) k) ?_
      show own_Go p e below (T224.setTop (mkF m 116 #[.val (.int p1), .val (.int p2), .val (.int p3), .val (.int p4), .val (.int p5), .val (.int tk), .val (.int tl), .val (.int qk), .val (.int ql), .val (.int (1 : Int32)), .val (.int (0 : Int32)), .val (.int p4), .val (.ref b214), .unset, .unset, .unset, .unset] [.null])) _
      refine own_go (fun _ k => XS.astore X224.here hx rfl (hb hby at_116) rfl rfl (l' := #[.val (.int p1), .val (.int p2), .val (.int p3), .val (.int p4), .val (.int p5), .val (.int tk), .val (.int tl), .val (.int qk), .val (.int ql), .val (.int (1 : Int32)), .val (.int (0 : Int32)), .val (.int p4), .val (.ref b214), .val .null, .unset, .unset, .unset]) rfl k) ?_
      show own_Go p e below (T224.setTop (mkF m 118 #[.val (.int p1), .val (.int p2), .val (.int p3), .val (.int p4), .val (.int p5), .val (.int tk), .val (.int tl), .val (.int qk), .val (.int ql), .val (.int (1 : Int32)), .val (.int (0 : Int32)), .val (.int p4), .val (.ref b214), .val .null, .unset, .unset, .unset] [])) _
      refine own_go (fun _ k => XS.aload X224.here hx rfl (hb hby at_118) rfl rfl k) ?_
      show own_Go p e below (T224.setTop (mkF m 120 #[.val (.int p1), .val (.int p2), .val (.int p3), .val (.int p4), .val (.int p5), .val (.int tk), .val (.int tl), .val (.int qk), .val (.int ql), .val (.int (1 : Int32)), .val (.int (0 : Int32)), .val (.int p4), .val (.ref b214), .val .null, .unset, .unset, .unset] [(.ref b214)])) _
      refine own_go (fun _ k => XS.iload X224.here hx rfl (hb hby at_120) rfl k) ?_
      show own_Go p e below (T224.setTop (mkF m 122 #[.val (.int p1), .val (.int p2), .val (.int p3), .val (.int p4), .val (.int p5), .val (.int tk), .val (.int tl), .val (.int qk), .val (.int ql), .val (.int (1 : Int32)), .val (.int (0 : Int32)), .val (.int p4), .val (.ref b214), .val .null, .unset, .unset, .unset] [(.int qk), (.ref b214)])) _
      have f227 := (f223.keep K224 (allS (Nat.le_trans Z0 (Nat.le_of_eq g214.symm)) all0))
      obtain ⟨v228, _, ⟨T228, L228, k228, n228⟩, -, X228, ⟨Lc228, hQ228, l228, y228, z228⟩, st228⟩ := Jvm.LawKit.callS X224 hx (y := (⟨"com/example/sequela/sequela/TokenIsPinLaw", "kind", "(I)Lcom/example/sequela/sequela/Lexer$Kind;"⟩ : MethodName)) hown217 (mvT hZ217 (hw _ (List.mem_of_getElem? (i := 4) rfl))) (mvT hZ217 (hw _ (List.mem_of_getElem? (i := 5) rfl))) (mvT hZ217 (hw _ (List.mem_of_getElem? (i := 6) rfl))) (mvT hZ217 (hw _ (List.mem_of_getElem? (i := 7) rfl))) (by decide) (backOf (W := 1) (rm_kind l Z a0 hw [] qk z0 z1 z2 z3 z4 z5 T224.heap n0 f227 S0 S1 S2 S3 S4 S5) hZ217 (hw _ (List.mem_of_getElem? (i := 7) rfl)) (hw _ (List.mem_of_getElem? (i := 6) rfl)) (by decide) (by decide)) (g := (mkF m 122 #[.val (.int p1), .val (.int p2), .val (.int p3), .val (.int p4), .val (.int p5), .val (.int tk), .val (.int tl), .val (.int qk), .val (.int ql), .val (.int (1 : Int32)), .val (.int (0 : Int32)), .val (.int p4), .val (.ref b214), .val .null, .unset, .unset, .unset] [(.int qk), (.ref b214)])) rfl (by rw [hml]; rfl) (argsL := [(.int qk)]) (rest := [(.ref b214)]) (lenOf pd_4 rfl) rfl (by show 2 * 0 + _ ≤ _; exact Nat.le_of_eq rfl) (hb hby at_122) (fun _ _ => ⟨rfl, (rfl : T224.heap = T224.heap), (by decide : 7 + 0 ≤ _), (by decide : 15 + 0 ≤ _)⟩)
      dsimp only [Pt.U, Pt.locs, Pt.cells, Pt.slots] at X228 l228 y228 z228 st228 hQ228
      subst l228 y228 z228
      refine own_go st228 ?_
      obtain ⟨rfl, Nq228, e228⟩ := hQ228
      have N228 := Fr.app N224 Nq228
      show own_Go p e below (T228.setTop (mkF m 125 #[.val (.int p1), .val (.int p2), .val (.int p3), .val (.int p4), .val (.int p5), .val (.int tk), .val (.int tl), .val (.int qk), .val (.int ql), .val (.int (1 : Int32)), .val (.int (0 : Int32)), .val (.int p4), .val (.ref b214), .val .null, .unset, .unset, .unset] [(own_kind qk z0 z1 z2 z3 z4 z5), (.ref b214)])) _
      refine own_go (fun _ k => XS.aload X228.here hx rfl (hb hby at_125) rfl rfl k) ?_
      show own_Go p e below (T228.setTop (mkF m 127 #[.val (.int p1), .val (.int p2), .val (.int p3), .val (.int p4), .val (.int p5), .val (.int tk), .val (.int tl), .val (.int qk), .val (.int ql), .val (.int (1 : Int32)), .val (.int (0 : Int32)), .val (.int p4), .val (.ref b214), .val .null, .unset, .unset, .unset] [.null, (own_kind qk z0 z1 z2 z3 z4 z5), (.ref b214)])) _
      have ne229 : b214 ≠ x217 := Nat.ne_of_lt (Nat.lt_of_lt_of_le A214.lt xg217)
      have f230 := (Fv217.keep K224 (ninS (Ne.symm ne229) nin0))
      have f231 := (Fc217.keep K224 (ninS (Ne.symm ne229) nin0))
      have f232 := (Vt217.keep K224 (ninS (Ne.symm ne219) nin0))
      have f233 := ((A214.keep K217).keep K224)
      obtain ⟨cq234, kq234, q234a, q234b, q234c⟩ := isOf hZ217 e228 f233
      obtain ⟨v234, _, ⟨T234, L234, k234, n234⟩, -, X234, ⟨Lc234, hQ234, l234, y234, z234⟩, st234⟩ := X228.virtualBack hx (y := (⟨"com/example/sequela/sequela/Lexer$Token", "is", "(Lcom/example/sequela/sequela/Lexer$Kind;Ljava/lang/String;)Z"⟩ : MethodName)) (z := (⟨"com/example/sequela/sequela/Lexer$Token", "is", "(Lcom/example/sequela/sequela/Lexer$Kind;Ljava/lang/String;)Z"⟩ : MethodName)) hown217 (mvT hZ217 (hw _ (List.mem_of_getElem? (i := 53) rfl))) (mvT hZ217 (hw _ (List.mem_of_getElem? (i := 54) rfl))) (notFace_of_selects (args := #[]) (mvT hZ217 (hw _ (List.mem_of_getElem? (i := 56) rfl)))) (mvT hZ217 (hw _ (List.mem_of_getElem? (i := 56) rfl))) (mvT hZ217 (hw _ (List.mem_of_getElem? (i := 55) rfl))) (by decide) (backOf (W := 0) (rm_is0 l Z a0 hw [] b214 (own_kind tk z0 z1 z2 z3 z4 z5) (own_kind qk z0 z1 z2 z3 z4 z5) x217 t217 kt217 N2217 vs217 (own_text tl p2) T224.heap n0 f227 (own_kindR _ _ _ _ _ _ _) (own_kindR _ _ _ _ _ _ _) f233 Fk224 Ft224 (Ex217.keep K224) f230 f231 f232 hC217 (own_textB _ _) (own_textL _ _)) hZ217 (hw _ (List.mem_of_getElem? (i := 57) rfl)) (hw _ (List.mem_of_getElem? (i := 3) rfl)) (by decide) (by decide)) q234a q234c (g := (mkF m 127 #[.val (.int p1), .val (.int p2), .val (.int p3), .val (.int p4), .val (.int p5), .val (.int tk), .val (.int tl), .val (.int qk), .val (.int ql), .val (.int (1 : Int32)), .val (.int (0 : Int32)), .val (.int p4), .val (.ref b214), .val .null, .unset, .unset, .unset] [.null, (own_kind qk z0 z1 z2 z3 z4 z5), (.ref b214)])) rfl (by rw [hml]; rfl) (Steps.refl _) (argsL := [(own_kind qk z0 z1 z2 z3 z4 z5), .null]) (rest := []) (lenOf pd_7 rfl) rfl (by show 2 * 0 + _ ≤ _; exact Nat.le_of_eq rfl) (hb hby at_127) (fun _ _ => ⟨rfl, e228, (by decide : 7 + 0 ≤ _), (by decide : 15 + 0 ≤ _)⟩)
      dsimp only [Pt.U, Pt.locs, Pt.cells, Pt.slots] at X234 l234 y234 z234 st234 hQ234
      subst l234 y234 z234
      refine own_gos st234 ?_
      obtain ⟨rfl, Nq234, e234⟩ := hQ234
      have N234 := Fr.app N228 Nq234
      show own_Go p e below (T234.setTop (mkF m 130 #[.val (.int p1), .val (.int p2), .val (.int p3), .val (.int p4), .val (.int p5), .val (.int tk), .val (.int tl), .val (.int qk), .val (.int ql), .val (.int (1 : Int32)), .val (.int (0 : Int32)), .val (.int p4), .val (.ref b214), .val .null, .unset, .unset, .unset] [(.int (0 : Int32))])) _
      refine own_go (fun _ k => XS.istore X234.here hx rfl (hb hby at_130) rfl (l' := #[.val (.int p1), .val (.int p2), .val (.int p3), .val (.int p4), .val (.int p5), .val (.int tk), .val (.int tl), .val (.int qk), .val (.int ql), .val (.int (1 : Int32)), .val (.int (0 : Int32)), .val (.int p4), .val (.ref b214), .val .null, .val (.int (0 : Int32)), .unset, .unset]) rfl k) ?_
      show own_Go p e below (T234.setTop (mkF m 132 #[.val (.int p1), .val (.int p2), .val (.int p3), .val (.int p4), .val (.int p5), .val (.int tk), .val (.int tl), .val (.int qk), .val (.int ql), .val (.int (1 : Int32)), .val (.int (0 : Int32)), .val (.int p4), .val (.ref b214), .val .null, .val (.int (0 : Int32)), .unset, .unset] [])) _
      refine own_go (fun _ k => XS.iload X234.here hx rfl (hb hby at_132) rfl k) ?_
      show own_Go p e below (T234.setTop (mkF m 134 #[.val (.int p1), .val (.int p2), .val (.int p3), .val (.int p4), .val (.int p5), .val (.int tk), .val (.int tl), .val (.int qk), .val (.int ql), .val (.int (1 : Int32)), .val (.int (0 : Int32)), .val (.int p4), .val (.ref b214), .val .null, .val (.int (0 : Int32)), .unset, .unset] [(.int tl)])) _
      by_cases hc235 : tl = (0 : Int32)
      · skip
        refine own_go (fun _ k => XS.ifNo X234.here hx rfl (hb hby at_134) rfl ((if0 _ _).trans (teq hc235).2) k) ?_
        show own_Go p e below (T234.setTop (mkF m 137 #[.val (.int p1), .val (.int p2), .val (.int p3), .val (.int p4), .val (.int p5), .val (.int tk), .val (.int tl), .val (.int qk), .val (.int ql), .val (.int (1 : Int32)), .val (.int (0 : Int32)), .val (.int p4), .val (.ref b214), .val .null, .val (.int (0 : Int32)), .unset, .unset] [])) _
        refine own_go (fun _ k => XS.iconst X234.here hx rfl (hb hby at_137) k) ?_
        show own_Go p e below (T234.setTop (mkF m 138 #[.val (.int p1), .val (.int p2), .val (.int p3), .val (.int p4), .val (.int p5), .val (.int tk), .val (.int tl), .val (.int qk), .val (.int ql), .val (.int (1 : Int32)), .val (.int (0 : Int32)), .val (.int p4), .val (.ref b214), .val .null, .val (.int (0 : Int32)), .unset, .unset] [(.int (0 : Int32))])) _
        refine own_go (fun _ k => XS.goto X234.here hx rfl (pc0 := 138) (pc' := 166) rfl (hb hby at_138) (by decide) (by decide) k) ?_
        show own_Go p e below (T234.setTop (mkF m 166 #[.val (.int p1), .val (.int p2), .val (.int p3), .val (.int p4), .val (.int p5), .val (.int tk), .val (.int tl), .val (.int qk), .val (.int ql), .val (.int (1 : Int32)), .val (.int (0 : Int32)), .val (.int p4), .val (.ref b214), .val .null, .val (.int (0 : Int32)), .unset, .unset] [(.int (0 : Int32))])) _
        refine own_go (fun _ k => XS.istore X234.here hx rfl (hb hby at_166) rfl (l' := #[.val (.int p1), .val (.int p2), .val (.int p3), .val (.int p4), .val (.int p5), .val (.int tk), .val (.int tl), .val (.int qk), .val (.int ql), .val (.int (1 : Int32)), .val (.int (0 : Int32)), .val (.int p4), .val (.ref b214), .val .null, .val (.int (0 : Int32)), .val (.int (0 : Int32)), .unset]) rfl k) ?_
        show own_Go p e below (T234.setTop (mkF m 168 #[.val (.int p1), .val (.int p2), .val (.int p3), .val (.int p4), .val (.int p5), .val (.int tk), .val (.int tl), .val (.int qk), .val (.int ql), .val (.int (1 : Int32)), .val (.int (0 : Int32)), .val (.int p4), .val (.ref b214), .val .null, .val (.int (0 : Int32)), .val (.int (0 : Int32)), .unset] [])) _
        refine own_go (fun _ k => XS.iload X234.here hx rfl (hb hby at_168) rfl k) ?_
        show own_Go p e below (T234.setTop (mkF m 170 #[.val (.int p1), .val (.int p2), .val (.int p3), .val (.int p4), .val (.int p5), .val (.int tk), .val (.int tl), .val (.int qk), .val (.int ql), .val (.int (1 : Int32)), .val (.int (0 : Int32)), .val (.int p4), .val (.ref b214), .val .null, .val (.int (0 : Int32)), .val (.int (0 : Int32)), .unset] [(.int qk)])) _
        refine own_go (fun _ k => XS.iload X234.here hx rfl (hb hby at_170) rfl k) ?_
        show own_Go p e below (T234.setTop (mkF m 172 #[.val (.int p1), .val (.int p2), .val (.int p3), .val (.int p4), .val (.int p5), .val (.int tk), .val (.int tl), .val (.int qk), .val (.int ql), .val (.int (1 : Int32)), .val (.int (0 : Int32)), .val (.int p4), .val (.ref b214), .val .null, .val (.int (0 : Int32)), .val (.int (0 : Int32)), .unset] [(.int tk), (.int qk)])) _
        by_cases hc236 : qk = tk
        · skip
          refine own_go (fun _ k => XS.icmpNo X234.here hx rfl (hb hby at_172) rfl (teq hc236).2 k) ?_
          show own_Go p e below (T234.setTop (mkF m 175 #[.val (.int p1), .val (.int p2), .val (.int p3), .val (.int p4), .val (.int p5), .val (.int tk), .val (.int tl), .val (.int qk), .val (.int ql), .val (.int (1 : Int32)), .val (.int (0 : Int32)), .val (.int p4), .val (.ref b214), .val .null, .val (.int (0 : Int32)), .val (.int (0 : Int32)), .unset] [])) _
          refine own_go (fun _ k => XS.iload X234.here hx rfl (hb hby at_175) rfl k) ?_
          show own_Go p e below (T234.setTop (mkF m 177 #[.val (.int p1), .val (.int p2), .val (.int p3), .val (.int p4), .val (.int p5), .val (.int tk), .val (.int tl), .val (.int qk), .val (.int ql), .val (.int (1 : Int32)), .val (.int (0 : Int32)), .val (.int p4), .val (.ref b214), .val .null, .val (.int (0 : Int32)), .val (.int (0 : Int32)), .unset] [(.int (1 : Int32))])) _
          refine own_go (fun _ k => XS.ifYes X234.here hx rfl (pc0 := 177) (pc' := 201) rfl (hb hby at_177) rfl ((if0 _ _).trans (feq (by decide : ¬ ((1 : Int32) = (0 : Int32)))).2) (by decide) (by decide) k) ?_
          show own_Go p e below (T234.setTop (mkF m 201 #[.val (.int p1), .val (.int p2), .val (.int p3), .val (.int p4), .val (.int p5), .val (.int tk), .val (.int tl), .val (.int qk), .val (.int ql), .val (.int (1 : Int32)), .val (.int (0 : Int32)), .val (.int p4), .val (.ref b214), .val .null, .val (.int (0 : Int32)), .val (.int (0 : Int32)), .unset] [])) _
          refine own_go (fun _ k => XS.iconst X234.here hx rfl (hb hby at_201) k) ?_
          show own_Go p e below (T234.setTop (mkF m 202 #[.val (.int p1), .val (.int p2), .val (.int p3), .val (.int p4), .val (.int p5), .val (.int tk), .val (.int tl), .val (.int qk), .val (.int ql), .val (.int (1 : Int32)), .val (.int (0 : Int32)), .val (.int p4), .val (.ref b214), .val .null, .val (.int (0 : Int32)), .val (.int (0 : Int32)), .unset] [(.int (0 : Int32))])) _
          refine own_go (fun _ k => XS.istore X234.here hx rfl (hb hby at_202) rfl (l' := #[.val (.int p1), .val (.int p2), .val (.int p3), .val (.int p4), .val (.int p5), .val (.int tk), .val (.int tl), .val (.int qk), .val (.int ql), .val (.int (1 : Int32)), .val (.int (0 : Int32)), .val (.int p4), .val (.ref b214), .val .null, .val (.int (0 : Int32)), .val (.int (0 : Int32)), .val (.int (0 : Int32))]) rfl k) ?_
          show own_Go p e below (T234.setTop (mkF m 204 #[.val (.int p1), .val (.int p2), .val (.int p3), .val (.int p4), .val (.int p5), .val (.int tk), .val (.int tl), .val (.int qk), .val (.int ql), .val (.int (1 : Int32)), .val (.int (0 : Int32)), .val (.int p4), .val (.ref b214), .val .null, .val (.int (0 : Int32)), .val (.int (0 : Int32)), .val (.int (0 : Int32))] [])) _
          refine own_go (fun _ k => XS.iload X234.here hx rfl (hb hby at_204) rfl k) ?_
          show own_Go p e below (T234.setTop (mkF m 206 #[.val (.int p1), .val (.int p2), .val (.int p3), .val (.int p4), .val (.int p5), .val (.int tk), .val (.int tl), .val (.int qk), .val (.int ql), .val (.int (1 : Int32)), .val (.int (0 : Int32)), .val (.int p4), .val (.ref b214), .val .null, .val (.int (0 : Int32)), .val (.int (0 : Int32)), .val (.int (0 : Int32))] [(.int (0 : Int32))])) _
          refine own_go (fun _ k => XS.iload X234.here hx rfl (hb hby at_206) rfl k) ?_
          show own_Go p e below (T234.setTop (mkF m 208 #[.val (.int p1), .val (.int p2), .val (.int p3), .val (.int p4), .val (.int p5), .val (.int tk), .val (.int tl), .val (.int qk), .val (.int ql), .val (.int (1 : Int32)), .val (.int (0 : Int32)), .val (.int p4), .val (.ref b214), .val .null, .val (.int (0 : Int32)), .val (.int (0 : Int32)), .val (.int (0 : Int32))] [(.int (0 : Int32)), (.int (0 : Int32))])) _
          refine own_go (fun _ k => XS.icmpNo X234.here hx rfl (hb hby at_208) rfl (teq (by decide : (0 : Int32) = (0 : Int32))).2 k) ?_
          show own_Go p e below (T234.setTop (mkF m 211 #[.val (.int p1), .val (.int p2), .val (.int p3), .val (.int p4), .val (.int p5), .val (.int tk), .val (.int tl), .val (.int qk), .val (.int ql), .val (.int (1 : Int32)), .val (.int (0 : Int32)), .val (.int p4), .val (.ref b214), .val .null, .val (.int (0 : Int32)), .val (.int (0 : Int32)), .val (.int (0 : Int32))] [])) _
          refine own_go (fun _ k => XS.iconst X234.here hx rfl (hb hby at_211) k) ?_
          show own_Go p e below (T234.setTop (mkF m 212 #[.val (.int p1), .val (.int p2), .val (.int p3), .val (.int p4), .val (.int p5), .val (.int tk), .val (.int tl), .val (.int qk), .val (.int ql), .val (.int (1 : Int32)), .val (.int (0 : Int32)), .val (.int p4), .val (.ref b214), .val .null, .val (.int (0 : Int32)), .val (.int (0 : Int32)), .val (.int (0 : Int32))] [(.int (1 : Int32))])) _
          refine own_go (fun _ k => XS.goto X234.here hx rfl (pc0 := 212) (pc' := 216) rfl (hb hby at_212) (by decide) (by decide) k) ?_
          show own_Go p e below (T234.setTop (mkF m 216 #[.val (.int p1), .val (.int p2), .val (.int p3), .val (.int p4), .val (.int p5), .val (.int tk), .val (.int tl), .val (.int qk), .val (.int ql), .val (.int (1 : Int32)), .val (.int (0 : Int32)), .val (.int p4), .val (.ref b214), .val .null, .val (.int (0 : Int32)), .val (.int (0 : Int32)), .val (.int (0 : Int32))] [(.int (1 : Int32))])) _
          refine own_finW (v := (some (.int (nar .boolean (1 : Int32))))) X234 hh hZ217 hS217 (by rw [e234]; exact (Nat.le_trans (Nat.le_refl _) K224.1)) (fun h => by rw [hrt] at h; cases h) hlk (fun fs hr => retN X234 hx (t := .boolean) hrt (by simp) (hb hby at_216) hr) (QQ := QQ0 n0) ?_ own_hEL e234 (C226) (by decide) (by decide)
          rw [e234]
          exact ⟨rfl, N234⟩
        · skip
          refine own_go (fun _ k => XS.icmpYes X234.here hx rfl (pc0 := 172) (pc' := 201) rfl (hb hby at_172) rfl (feq hc236).2 (by decide) (by decide) k) ?_
          show own_Go p e below (T234.setTop (mkF m 201 #[.val (.int p1), .val (.int p2), .val (.int p3), .val (.int p4), .val (.int p5), .val (.int tk), .val (.int tl), .val (.int qk), .val (.int ql), .val (.int (1 : Int32)), .val (.int (0 : Int32)), .val (.int p4), .val (.ref b214), .val .null, .val (.int (0 : Int32)), .val (.int (0 : Int32)), .unset] [])) _
          refine own_go (fun _ k => XS.iconst X234.here hx rfl (hb hby at_201) k) ?_
          show own_Go p e below (T234.setTop (mkF m 202 #[.val (.int p1), .val (.int p2), .val (.int p3), .val (.int p4), .val (.int p5), .val (.int tk), .val (.int tl), .val (.int qk), .val (.int ql), .val (.int (1 : Int32)), .val (.int (0 : Int32)), .val (.int p4), .val (.ref b214), .val .null, .val (.int (0 : Int32)), .val (.int (0 : Int32)), .unset] [(.int (0 : Int32))])) _
          refine own_go (fun _ k => XS.istore X234.here hx rfl (hb hby at_202) rfl (l' := #[.val (.int p1), .val (.int p2), .val (.int p3), .val (.int p4), .val (.int p5), .val (.int tk), .val (.int tl), .val (.int qk), .val (.int ql), .val (.int (1 : Int32)), .val (.int (0 : Int32)), .val (.int p4), .val (.ref b214), .val .null, .val (.int (0 : Int32)), .val (.int (0 : Int32)), .val (.int (0 : Int32))]) rfl k) ?_
          show own_Go p e below (T234.setTop (mkF m 204 #[.val (.int p1), .val (.int p2), .val (.int p3), .val (.int p4), .val (.int p5), .val (.int tk), .val (.int tl), .val (.int qk), .val (.int ql), .val (.int (1 : Int32)), .val (.int (0 : Int32)), .val (.int p4), .val (.ref b214), .val .null, .val (.int (0 : Int32)), .val (.int (0 : Int32)), .val (.int (0 : Int32))] [])) _
          refine own_go (fun _ k => XS.iload X234.here hx rfl (hb hby at_204) rfl k) ?_
          show own_Go p e below (T234.setTop (mkF m 206 #[.val (.int p1), .val (.int p2), .val (.int p3), .val (.int p4), .val (.int p5), .val (.int tk), .val (.int tl), .val (.int qk), .val (.int ql), .val (.int (1 : Int32)), .val (.int (0 : Int32)), .val (.int p4), .val (.ref b214), .val .null, .val (.int (0 : Int32)), .val (.int (0 : Int32)), .val (.int (0 : Int32))] [(.int (0 : Int32))])) _
          refine own_go (fun _ k => XS.iload X234.here hx rfl (hb hby at_206) rfl k) ?_
          show own_Go p e below (T234.setTop (mkF m 208 #[.val (.int p1), .val (.int p2), .val (.int p3), .val (.int p4), .val (.int p5), .val (.int tk), .val (.int tl), .val (.int qk), .val (.int ql), .val (.int (1 : Int32)), .val (.int (0 : Int32)), .val (.int p4), .val (.ref b214), .val .null, .val (.int (0 : Int32)), .val (.int (0 : Int32)), .val (.int (0 : Int32))] [(.int (0 : Int32)), (.int (0 : Int32))])) _
          refine own_go (fun _ k => XS.icmpNo X234.here hx rfl (hb hby at_208) rfl (teq (by decide : (0 : Int32) = (0 : Int32))).2 k) ?_
          show own_Go p e below (T234.setTop (mkF m 211 #[.val (.int p1), .val (.int p2), .val (.int p3), .val (.int p4), .val (.int p5), .val (.int tk), .val (.int tl), .val (.int qk), .val (.int ql), .val (.int (1 : Int32)), .val (.int (0 : Int32)), .val (.int p4), .val (.ref b214), .val .null, .val (.int (0 : Int32)), .val (.int (0 : Int32)), .val (.int (0 : Int32))] [])) _
          refine own_go (fun _ k => XS.iconst X234.here hx rfl (hb hby at_211) k) ?_
          show own_Go p e below (T234.setTop (mkF m 212 #[.val (.int p1), .val (.int p2), .val (.int p3), .val (.int p4), .val (.int p5), .val (.int tk), .val (.int tl), .val (.int qk), .val (.int ql), .val (.int (1 : Int32)), .val (.int (0 : Int32)), .val (.int p4), .val (.ref b214), .val .null, .val (.int (0 : Int32)), .val (.int (0 : Int32)), .val (.int (0 : Int32))] [(.int (1 : Int32))])) _
          refine own_go (fun _ k => XS.goto X234.here hx rfl (pc0 := 212) (pc' := 216) rfl (hb hby at_212) (by decide) (by decide) k) ?_
          show own_Go p e below (T234.setTop (mkF m 216 #[.val (.int p1), .val (.int p2), .val (.int p3), .val (.int p4), .val (.int p5), .val (.int tk), .val (.int tl), .val (.int qk), .val (.int ql), .val (.int (1 : Int32)), .val (.int (0 : Int32)), .val (.int p4), .val (.ref b214), .val .null, .val (.int (0 : Int32)), .val (.int (0 : Int32)), .val (.int (0 : Int32))] [(.int (1 : Int32))])) _
          refine own_finW (v := (some (.int (nar .boolean (1 : Int32))))) X234 hh hZ217 hS217 (by rw [e234]; exact (Nat.le_trans (Nat.le_refl _) K224.1)) (fun h => by rw [hrt] at h; cases h) hlk (fun fs hr => retN X234 hx (t := .boolean) hrt (by simp) (hb hby at_216) hr) (QQ := QQ0 n0) ?_ own_hEL e234 (C226) (by decide) (by decide)
          rw [e234]
          exact ⟨rfl, N234⟩
      · skip
        refine own_go (fun _ k => XS.ifYes X234.here hx rfl (pc0 := 134) (pc' := 141) rfl (hb hby at_134) rfl ((if0 _ _).trans (feq hc235).2) (by decide) (by decide) k) ?_
        show own_Go p e below (T234.setTop (mkF m 141 #[.val (.int p1), .val (.int p2), .val (.int p3), .val (.int p4), .val (.int p5), .val (.int tk), .val (.int tl), .val (.int qk), .val (.int ql), .val (.int (1 : Int32)), .val (.int (0 : Int32)), .val (.int p4), .val (.ref b214), .val .null, .val (.int (0 : Int32)), .unset, .unset] [])) _
        refine own_go (fun _ k => XS.iload X234.here hx rfl (hb hby at_141) rfl k) ?_
        show own_Go p e below (T234.setTop (mkF m 143 #[.val (.int p1), .val (.int p2), .val (.int p3), .val (.int p4), .val (.int p5), .val (.int tk), .val (.int tl), .val (.int qk), .val (.int ql), .val (.int (1 : Int32)), .val (.int (0 : Int32)), .val (.int p4), .val (.ref b214), .val .null, .val (.int (0 : Int32)), .unset, .unset] [(.int tl)])) _
        refine own_go (fun _ k => XS.iconst X234.here hx rfl (hb hby at_143) k) ?_
        show own_Go p e below (T234.setTop (mkF m 144 #[.val (.int p1), .val (.int p2), .val (.int p3), .val (.int p4), .val (.int p5), .val (.int tk), .val (.int tl), .val (.int qk), .val (.int ql), .val (.int (1 : Int32)), .val (.int (0 : Int32)), .val (.int p4), .val (.ref b214), .val .null, .val (.int (0 : Int32)), .unset, .unset] [(.int (1 : Int32)), (.int tl)])) _
        by_cases hc237 : tl = (1 : Int32)
        · skip
          refine own_go (fun _ k => XS.icmpNo X234.here hx rfl (hb hby at_144) rfl (teq hc237).2 k) ?_
          show own_Go p e below (T234.setTop (mkF m 147 #[.val (.int p1), .val (.int p2), .val (.int p3), .val (.int p4), .val (.int p5), .val (.int tk), .val (.int tl), .val (.int qk), .val (.int ql), .val (.int (1 : Int32)), .val (.int (0 : Int32)), .val (.int p4), .val (.ref b214), .val .null, .val (.int (0 : Int32)), .unset, .unset] [])) _
          refine own_go (fun _ k => XS.sipush X234.here hx rfl (hb hby at_147) k) ?_
          show own_Go p e below (T234.setTop (mkF m 150 #[.val (.int p1), .val (.int p2), .val (.int p3), .val (.int p4), .val (.int p5), .val (.int tk), .val (.int tl), .val (.int qk), .val (.int ql), .val (.int (1 : Int32)), .val (.int (0 : Int32)), .val (.int p4), .val (.ref b214), .val .null, .val (.int (0 : Int32)), .unset, .unset] [(.int (255 : Int32))])) _
          refine own_go (fun _ k => XS.goto X234.here hx rfl (pc0 := 150) (pc' := 166) rfl (hb hby at_150) (by decide) (by decide) k) ?_
          show own_Go p e below (T234.setTop (mkF m 166 #[.val (.int p1), .val (.int p2), .val (.int p3), .val (.int p4), .val (.int p5), .val (.int tk), .val (.int tl), .val (.int qk), .val (.int ql), .val (.int (1 : Int32)), .val (.int (0 : Int32)), .val (.int p4), .val (.ref b214), .val .null, .val (.int (0 : Int32)), .unset, .unset] [(.int (255 : Int32))])) _
          refine own_go (fun _ k => XS.istore X234.here hx rfl (hb hby at_166) rfl (l' := #[.val (.int p1), .val (.int p2), .val (.int p3), .val (.int p4), .val (.int p5), .val (.int tk), .val (.int tl), .val (.int qk), .val (.int ql), .val (.int (1 : Int32)), .val (.int (0 : Int32)), .val (.int p4), .val (.ref b214), .val .null, .val (.int (0 : Int32)), .val (.int (255 : Int32)), .unset]) rfl k) ?_
          show own_Go p e below (T234.setTop (mkF m 168 #[.val (.int p1), .val (.int p2), .val (.int p3), .val (.int p4), .val (.int p5), .val (.int tk), .val (.int tl), .val (.int qk), .val (.int ql), .val (.int (1 : Int32)), .val (.int (0 : Int32)), .val (.int p4), .val (.ref b214), .val .null, .val (.int (0 : Int32)), .val (.int (255 : Int32)), .unset] [])) _
          refine own_go (fun _ k => XS.iload X234.here hx rfl (hb hby at_168) rfl k) ?_
          show own_Go p e below (T234.setTop (mkF m 170 #[.val (.int p1), .val (.int p2), .val (.int p3), .val (.int p4), .val (.int p5), .val (.int tk), .val (.int tl), .val (.int qk), .val (.int ql), .val (.int (1 : Int32)), .val (.int (0 : Int32)), .val (.int p4), .val (.ref b214), .val .null, .val (.int (0 : Int32)), .val (.int (255 : Int32)), .unset] [(.int qk)])) _
          refine own_go (fun _ k => XS.iload X234.here hx rfl (hb hby at_170) rfl k) ?_
          show own_Go p e below (T234.setTop (mkF m 172 #[.val (.int p1), .val (.int p2), .val (.int p3), .val (.int p4), .val (.int p5), .val (.int tk), .val (.int tl), .val (.int qk), .val (.int ql), .val (.int (1 : Int32)), .val (.int (0 : Int32)), .val (.int p4), .val (.ref b214), .val .null, .val (.int (0 : Int32)), .val (.int (255 : Int32)), .unset] [(.int tk), (.int qk)])) _
          by_cases hc238 : qk = tk
          · skip
            refine own_go (fun _ k => XS.icmpNo X234.here hx rfl (hb hby at_172) rfl (teq hc238).2 k) ?_
            show own_Go p e below (T234.setTop (mkF m 175 #[.val (.int p1), .val (.int p2), .val (.int p3), .val (.int p4), .val (.int p5), .val (.int tk), .val (.int tl), .val (.int qk), .val (.int ql), .val (.int (1 : Int32)), .val (.int (0 : Int32)), .val (.int p4), .val (.ref b214), .val .null, .val (.int (0 : Int32)), .val (.int (255 : Int32)), .unset] [])) _
            refine own_go (fun _ k => XS.iload X234.here hx rfl (hb hby at_175) rfl k) ?_
            show own_Go p e below (T234.setTop (mkF m 177 #[.val (.int p1), .val (.int p2), .val (.int p3), .val (.int p4), .val (.int p5), .val (.int tk), .val (.int tl), .val (.int qk), .val (.int ql), .val (.int (1 : Int32)), .val (.int (0 : Int32)), .val (.int p4), .val (.ref b214), .val .null, .val (.int (0 : Int32)), .val (.int (255 : Int32)), .unset] [(.int (1 : Int32))])) _
            refine own_go (fun _ k => XS.ifYes X234.here hx rfl (pc0 := 177) (pc' := 201) rfl (hb hby at_177) rfl ((if0 _ _).trans (feq (by decide : ¬ ((1 : Int32) = (0 : Int32)))).2) (by decide) (by decide) k) ?_
            show own_Go p e below (T234.setTop (mkF m 201 #[.val (.int p1), .val (.int p2), .val (.int p3), .val (.int p4), .val (.int p5), .val (.int tk), .val (.int tl), .val (.int qk), .val (.int ql), .val (.int (1 : Int32)), .val (.int (0 : Int32)), .val (.int p4), .val (.ref b214), .val .null, .val (.int (0 : Int32)), .val (.int (255 : Int32)), .unset] [])) _
            refine own_go (fun _ k => XS.iconst X234.here hx rfl (hb hby at_201) k) ?_
            show own_Go p e below (T234.setTop (mkF m 202 #[.val (.int p1), .val (.int p2), .val (.int p3), .val (.int p4), .val (.int p5), .val (.int tk), .val (.int tl), .val (.int qk), .val (.int ql), .val (.int (1 : Int32)), .val (.int (0 : Int32)), .val (.int p4), .val (.ref b214), .val .null, .val (.int (0 : Int32)), .val (.int (255 : Int32)), .unset] [(.int (0 : Int32))])) _
            refine own_go (fun _ k => XS.istore X234.here hx rfl (hb hby at_202) rfl (l' := #[.val (.int p1), .val (.int p2), .val (.int p3), .val (.int p4), .val (.int p5), .val (.int tk), .val (.int tl), .val (.int qk), .val (.int ql), .val (.int (1 : Int32)), .val (.int (0 : Int32)), .val (.int p4), .val (.ref b214), .val .null, .val (.int (0 : Int32)), .val (.int (255 : Int32)), .val (.int (0 : Int32))]) rfl k) ?_
            show own_Go p e below (T234.setTop (mkF m 204 #[.val (.int p1), .val (.int p2), .val (.int p3), .val (.int p4), .val (.int p5), .val (.int tk), .val (.int tl), .val (.int qk), .val (.int ql), .val (.int (1 : Int32)), .val (.int (0 : Int32)), .val (.int p4), .val (.ref b214), .val .null, .val (.int (0 : Int32)), .val (.int (255 : Int32)), .val (.int (0 : Int32))] [])) _
            refine own_go (fun _ k => XS.iload X234.here hx rfl (hb hby at_204) rfl k) ?_
            show own_Go p e below (T234.setTop (mkF m 206 #[.val (.int p1), .val (.int p2), .val (.int p3), .val (.int p4), .val (.int p5), .val (.int tk), .val (.int tl), .val (.int qk), .val (.int ql), .val (.int (1 : Int32)), .val (.int (0 : Int32)), .val (.int p4), .val (.ref b214), .val .null, .val (.int (0 : Int32)), .val (.int (255 : Int32)), .val (.int (0 : Int32))] [(.int (0 : Int32))])) _
            refine own_go (fun _ k => XS.iload X234.here hx rfl (hb hby at_206) rfl k) ?_
            show own_Go p e below (T234.setTop (mkF m 208 #[.val (.int p1), .val (.int p2), .val (.int p3), .val (.int p4), .val (.int p5), .val (.int tk), .val (.int tl), .val (.int qk), .val (.int ql), .val (.int (1 : Int32)), .val (.int (0 : Int32)), .val (.int p4), .val (.ref b214), .val .null, .val (.int (0 : Int32)), .val (.int (255 : Int32)), .val (.int (0 : Int32))] [(.int (0 : Int32)), (.int (0 : Int32))])) _
            refine own_go (fun _ k => XS.icmpNo X234.here hx rfl (hb hby at_208) rfl (teq (by decide : (0 : Int32) = (0 : Int32))).2 k) ?_
            show own_Go p e below (T234.setTop (mkF m 211 #[.val (.int p1), .val (.int p2), .val (.int p3), .val (.int p4), .val (.int p5), .val (.int tk), .val (.int tl), .val (.int qk), .val (.int ql), .val (.int (1 : Int32)), .val (.int (0 : Int32)), .val (.int p4), .val (.ref b214), .val .null, .val (.int (0 : Int32)), .val (.int (255 : Int32)), .val (.int (0 : Int32))] [])) _
            refine own_go (fun _ k => XS.iconst X234.here hx rfl (hb hby at_211) k) ?_
            show own_Go p e below (T234.setTop (mkF m 212 #[.val (.int p1), .val (.int p2), .val (.int p3), .val (.int p4), .val (.int p5), .val (.int tk), .val (.int tl), .val (.int qk), .val (.int ql), .val (.int (1 : Int32)), .val (.int (0 : Int32)), .val (.int p4), .val (.ref b214), .val .null, .val (.int (0 : Int32)), .val (.int (255 : Int32)), .val (.int (0 : Int32))] [(.int (1 : Int32))])) _
            refine own_go (fun _ k => XS.goto X234.here hx rfl (pc0 := 212) (pc' := 216) rfl (hb hby at_212) (by decide) (by decide) k) ?_
            show own_Go p e below (T234.setTop (mkF m 216 #[.val (.int p1), .val (.int p2), .val (.int p3), .val (.int p4), .val (.int p5), .val (.int tk), .val (.int tl), .val (.int qk), .val (.int ql), .val (.int (1 : Int32)), .val (.int (0 : Int32)), .val (.int p4), .val (.ref b214), .val .null, .val (.int (0 : Int32)), .val (.int (255 : Int32)), .val (.int (0 : Int32))] [(.int (1 : Int32))])) _
            refine own_finW (v := (some (.int (nar .boolean (1 : Int32))))) X234 hh hZ217 hS217 (by rw [e234]; exact (Nat.le_trans (Nat.le_refl _) K224.1)) (fun h => by rw [hrt] at h; cases h) hlk (fun fs hr => retN X234 hx (t := .boolean) hrt (by simp) (hb hby at_216) hr) (QQ := QQ0 n0) ?_ own_hEL e234 (C226) (by decide) (by decide)
            rw [e234]
            exact ⟨rfl, N234⟩
          · skip
            refine own_go (fun _ k => XS.icmpYes X234.here hx rfl (pc0 := 172) (pc' := 201) rfl (hb hby at_172) rfl (feq hc238).2 (by decide) (by decide) k) ?_
            show own_Go p e below (T234.setTop (mkF m 201 #[.val (.int p1), .val (.int p2), .val (.int p3), .val (.int p4), .val (.int p5), .val (.int tk), .val (.int tl), .val (.int qk), .val (.int ql), .val (.int (1 : Int32)), .val (.int (0 : Int32)), .val (.int p4), .val (.ref b214), .val .null, .val (.int (0 : Int32)), .val (.int (255 : Int32)), .unset] [])) _
            refine own_go (fun _ k => XS.iconst X234.here hx rfl (hb hby at_201) k) ?_
            show own_Go p e below (T234.setTop (mkF m 202 #[.val (.int p1), .val (.int p2), .val (.int p3), .val (.int p4), .val (.int p5), .val (.int tk), .val (.int tl), .val (.int qk), .val (.int ql), .val (.int (1 : Int32)), .val (.int (0 : Int32)), .val (.int p4), .val (.ref b214), .val .null, .val (.int (0 : Int32)), .val (.int (255 : Int32)), .unset] [(.int (0 : Int32))])) _
            refine own_go (fun _ k => XS.istore X234.here hx rfl (hb hby at_202) rfl (l' := #[.val (.int p1), .val (.int p2), .val (.int p3), .val (.int p4), .val (.int p5), .val (.int tk), .val (.int tl), .val (.int qk), .val (.int ql), .val (.int (1 : Int32)), .val (.int (0 : Int32)), .val (.int p4), .val (.ref b214), .val .null, .val (.int (0 : Int32)), .val (.int (255 : Int32)), .val (.int (0 : Int32))]) rfl k) ?_
            show own_Go p e below (T234.setTop (mkF m 204 #[.val (.int p1), .val (.int p2), .val (.int p3), .val (.int p4), .val (.int p5), .val (.int tk), .val (.int tl), .val (.int qk), .val (.int ql), .val (.int (1 : Int32)), .val (.int (0 : Int32)), .val (.int p4), .val (.ref b214), .val .null, .val (.int (0 : Int32)), .val (.int (255 : Int32)), .val (.int (0 : Int32))] [])) _
            refine own_go (fun _ k => XS.iload X234.here hx rfl (hb hby at_204) rfl k) ?_
            show own_Go p e below (T234.setTop (mkF m 206 #[.val (.int p1), .val (.int p2), .val (.int p3), .val (.int p4), .val (.int p5), .val (.int tk), .val (.int tl), .val (.int qk), .val (.int ql), .val (.int (1 : Int32)), .val (.int (0 : Int32)), .val (.int p4), .val (.ref b214), .val .null, .val (.int (0 : Int32)), .val (.int (255 : Int32)), .val (.int (0 : Int32))] [(.int (0 : Int32))])) _
            refine own_go (fun _ k => XS.iload X234.here hx rfl (hb hby at_206) rfl k) ?_
            show own_Go p e below (T234.setTop (mkF m 208 #[.val (.int p1), .val (.int p2), .val (.int p3), .val (.int p4), .val (.int p5), .val (.int tk), .val (.int tl), .val (.int qk), .val (.int ql), .val (.int (1 : Int32)), .val (.int (0 : Int32)), .val (.int p4), .val (.ref b214), .val .null, .val (.int (0 : Int32)), .val (.int (255 : Int32)), .val (.int (0 : Int32))] [(.int (0 : Int32)), (.int (0 : Int32))])) _
            refine own_go (fun _ k => XS.icmpNo X234.here hx rfl (hb hby at_208) rfl (teq (by decide : (0 : Int32) = (0 : Int32))).2 k) ?_
            show own_Go p e below (T234.setTop (mkF m 211 #[.val (.int p1), .val (.int p2), .val (.int p3), .val (.int p4), .val (.int p5), .val (.int tk), .val (.int tl), .val (.int qk), .val (.int ql), .val (.int (1 : Int32)), .val (.int (0 : Int32)), .val (.int p4), .val (.ref b214), .val .null, .val (.int (0 : Int32)), .val (.int (255 : Int32)), .val (.int (0 : Int32))] [])) _
            refine own_go (fun _ k => XS.iconst X234.here hx rfl (hb hby at_211) k) ?_
            show own_Go p e below (T234.setTop (mkF m 212 #[.val (.int p1), .val (.int p2), .val (.int p3), .val (.int p4), .val (.int p5), .val (.int tk), .val (.int tl), .val (.int qk), .val (.int ql), .val (.int (1 : Int32)), .val (.int (0 : Int32)), .val (.int p4), .val (.ref b214), .val .null, .val (.int (0 : Int32)), .val (.int (255 : Int32)), .val (.int (0 : Int32))] [(.int (1 : Int32))])) _
            refine own_go (fun _ k => XS.goto X234.here hx rfl (pc0 := 212) (pc' := 216) rfl (hb hby at_212) (by decide) (by decide) k) ?_
            show own_Go p e below (T234.setTop (mkF m 216 #[.val (.int p1), .val (.int p2), .val (.int p3), .val (.int p4), .val (.int p5), .val (.int tk), .val (.int tl), .val (.int qk), .val (.int ql), .val (.int (1 : Int32)), .val (.int (0 : Int32)), .val (.int p4), .val (.ref b214), .val .null, .val (.int (0 : Int32)), .val (.int (255 : Int32)), .val (.int (0 : Int32))] [(.int (1 : Int32))])) _
            refine own_finW (v := (some (.int (nar .boolean (1 : Int32))))) X234 hh hZ217 hS217 (by rw [e234]; exact (Nat.le_trans (Nat.le_refl _) K224.1)) (fun h => by rw [hrt] at h; cases h) hlk (fun fs hr => retN X234 hx (t := .boolean) hrt (by simp) (hb hby at_216) hr) (QQ := QQ0 n0) ?_ own_hEL e234 (C226) (by decide) (by decide)
            rw [e234]
            exact ⟨rfl, N234⟩
        · skip
          refine own_go (fun _ k => XS.icmpYes X234.here hx rfl (pc0 := 144) (pc' := 153) rfl (hb hby at_144) rfl (feq hc237).2 (by decide) (by decide) k) ?_
          show own_Go p e below (T234.setTop (mkF m 153 #[.val (.int p1), .val (.int p2), .val (.int p3), .val (.int p4), .val (.int p5), .val (.int tk), .val (.int tl), .val (.int qk), .val (.int ql), .val (.int (1 : Int32)), .val (.int (0 : Int32)), .val (.int p4), .val (.ref b214), .val .null, .val (.int (0 : Int32)), .unset, .unset] [])) _
          refine own_go (fun _ k => XS.iload X234.here hx rfl (hb hby at_153) rfl k) ?_
          show own_Go p e below (T234.setTop (mkF m 155 #[.val (.int p1), .val (.int p2), .val (.int p3), .val (.int p4), .val (.int p5), .val (.int tk), .val (.int tl), .val (.int qk), .val (.int ql), .val (.int (1 : Int32)), .val (.int (0 : Int32)), .val (.int p4), .val (.ref b214), .val .null, .val (.int (0 : Int32)), .unset, .unset] [(.int tl)])) _
          refine own_go (fun _ k => XS.iconst X234.here hx rfl (hb hby at_155) k) ?_
          show own_Go p e below (T234.setTop (mkF m 156 #[.val (.int p1), .val (.int p2), .val (.int p3), .val (.int p4), .val (.int p5), .val (.int tk), .val (.int tl), .val (.int qk), .val (.int ql), .val (.int (1 : Int32)), .val (.int (0 : Int32)), .val (.int p4), .val (.ref b214), .val .null, .val (.int (0 : Int32)), .unset, .unset] [(.int (2 : Int32)), (.int tl)])) _
          by_cases hc239 : tl = (2 : Int32)
          · skip
            refine own_go (fun _ k => XS.icmpNo X234.here hx rfl (hb hby at_156) rfl (teq hc239).2 k) ?_
            show own_Go p e below (T234.setTop (mkF m 159 #[.val (.int p1), .val (.int p2), .val (.int p3), .val (.int p4), .val (.int p5), .val (.int tk), .val (.int tl), .val (.int qk), .val (.int ql), .val (.int (1 : Int32)), .val (.int (0 : Int32)), .val (.int p4), .val (.ref b214), .val .null, .val (.int (0 : Int32)), .unset, .unset] [])) _
            refine own_go (fun _ k => X234.ldcInt hx hown217 (mvT hZ217 (hw _ (List.mem_of_getElem? (i := 88) rfl))) (g := (mkF m 159 #[.val (.int p1), .val (.int p2), .val (.int p3), .val (.int p4), .val (.int p5), .val (.int tk), .val (.int tl), .val (.int qk), .val (.int ql), .val (.int (1 : Int32)), .val (.int (0 : Int32)), .val (.int p4), .val (.ref b214), .val .null, .val (.int (0 : Int32)), .unset, .unset] [])) rfl (hb hby at_159) _ k) ?_
            show own_Go p e below (T234.setTop (mkF m 161 #[.val (.int p1), .val (.int p2), .val (.int p3), .val (.int p4), .val (.int p5), .val (.int tk), .val (.int tl), .val (.int qk), .val (.int ql), .val (.int (1 : Int32)), .val (.int (0 : Int32)), .val (.int p4), .val (.ref b214), .val .null, .val (.int (0 : Int32)), .unset, .unset] [(.int (65535 : Int32))])) _
            refine own_go (fun _ k => XS.goto X234.here hx rfl (pc0 := 161) (pc' := 166) rfl (hb hby at_161) (by decide) (by decide) k) ?_
            show own_Go p e below (T234.setTop (mkF m 166 #[.val (.int p1), .val (.int p2), .val (.int p3), .val (.int p4), .val (.int p5), .val (.int tk), .val (.int tl), .val (.int qk), .val (.int ql), .val (.int (1 : Int32)), .val (.int (0 : Int32)), .val (.int p4), .val (.ref b214), .val .null, .val (.int (0 : Int32)), .unset, .unset] [(.int (65535 : Int32))])) _
            refine own_go (fun _ k => XS.istore X234.here hx rfl (hb hby at_166) rfl (l' := #[.val (.int p1), .val (.int p2), .val (.int p3), .val (.int p4), .val (.int p5), .val (.int tk), .val (.int tl), .val (.int qk), .val (.int ql), .val (.int (1 : Int32)), .val (.int (0 : Int32)), .val (.int p4), .val (.ref b214), .val .null, .val (.int (0 : Int32)), .val (.int (65535 : Int32)), .unset]) rfl k) ?_
            show own_Go p e below (T234.setTop (mkF m 168 #[.val (.int p1), .val (.int p2), .val (.int p3), .val (.int p4), .val (.int p5), .val (.int tk), .val (.int tl), .val (.int qk), .val (.int ql), .val (.int (1 : Int32)), .val (.int (0 : Int32)), .val (.int p4), .val (.ref b214), .val .null, .val (.int (0 : Int32)), .val (.int (65535 : Int32)), .unset] [])) _
            refine own_go (fun _ k => XS.iload X234.here hx rfl (hb hby at_168) rfl k) ?_
            show own_Go p e below (T234.setTop (mkF m 170 #[.val (.int p1), .val (.int p2), .val (.int p3), .val (.int p4), .val (.int p5), .val (.int tk), .val (.int tl), .val (.int qk), .val (.int ql), .val (.int (1 : Int32)), .val (.int (0 : Int32)), .val (.int p4), .val (.ref b214), .val .null, .val (.int (0 : Int32)), .val (.int (65535 : Int32)), .unset] [(.int qk)])) _
            refine own_go (fun _ k => XS.iload X234.here hx rfl (hb hby at_170) rfl k) ?_
            show own_Go p e below (T234.setTop (mkF m 172 #[.val (.int p1), .val (.int p2), .val (.int p3), .val (.int p4), .val (.int p5), .val (.int tk), .val (.int tl), .val (.int qk), .val (.int ql), .val (.int (1 : Int32)), .val (.int (0 : Int32)), .val (.int p4), .val (.ref b214), .val .null, .val (.int (0 : Int32)), .val (.int (65535 : Int32)), .unset] [(.int tk), (.int qk)])) _
            by_cases hc240 : qk = tk
            · skip
              refine own_go (fun _ k => XS.icmpNo X234.here hx rfl (hb hby at_172) rfl (teq hc240).2 k) ?_
              show own_Go p e below (T234.setTop (mkF m 175 #[.val (.int p1), .val (.int p2), .val (.int p3), .val (.int p4), .val (.int p5), .val (.int tk), .val (.int tl), .val (.int qk), .val (.int ql), .val (.int (1 : Int32)), .val (.int (0 : Int32)), .val (.int p4), .val (.ref b214), .val .null, .val (.int (0 : Int32)), .val (.int (65535 : Int32)), .unset] [])) _
              refine own_go (fun _ k => XS.iload X234.here hx rfl (hb hby at_175) rfl k) ?_
              show own_Go p e below (T234.setTop (mkF m 177 #[.val (.int p1), .val (.int p2), .val (.int p3), .val (.int p4), .val (.int p5), .val (.int tk), .val (.int tl), .val (.int qk), .val (.int ql), .val (.int (1 : Int32)), .val (.int (0 : Int32)), .val (.int p4), .val (.ref b214), .val .null, .val (.int (0 : Int32)), .val (.int (65535 : Int32)), .unset] [(.int (1 : Int32))])) _
              refine own_go (fun _ k => XS.ifYes X234.here hx rfl (pc0 := 177) (pc' := 201) rfl (hb hby at_177) rfl ((if0 _ _).trans (feq (by decide : ¬ ((1 : Int32) = (0 : Int32)))).2) (by decide) (by decide) k) ?_
              show own_Go p e below (T234.setTop (mkF m 201 #[.val (.int p1), .val (.int p2), .val (.int p3), .val (.int p4), .val (.int p5), .val (.int tk), .val (.int tl), .val (.int qk), .val (.int ql), .val (.int (1 : Int32)), .val (.int (0 : Int32)), .val (.int p4), .val (.ref b214), .val .null, .val (.int (0 : Int32)), .val (.int (65535 : Int32)), .unset] [])) _
              refine own_go (fun _ k => XS.iconst X234.here hx rfl (hb hby at_201) k) ?_
              show own_Go p e below (T234.setTop (mkF m 202 #[.val (.int p1), .val (.int p2), .val (.int p3), .val (.int p4), .val (.int p5), .val (.int tk), .val (.int tl), .val (.int qk), .val (.int ql), .val (.int (1 : Int32)), .val (.int (0 : Int32)), .val (.int p4), .val (.ref b214), .val .null, .val (.int (0 : Int32)), .val (.int (65535 : Int32)), .unset] [(.int (0 : Int32))])) _
              refine own_go (fun _ k => XS.istore X234.here hx rfl (hb hby at_202) rfl (l' := #[.val (.int p1), .val (.int p2), .val (.int p3), .val (.int p4), .val (.int p5), .val (.int tk), .val (.int tl), .val (.int qk), .val (.int ql), .val (.int (1 : Int32)), .val (.int (0 : Int32)), .val (.int p4), .val (.ref b214), .val .null, .val (.int (0 : Int32)), .val (.int (65535 : Int32)), .val (.int (0 : Int32))]) rfl k) ?_
              show own_Go p e below (T234.setTop (mkF m 204 #[.val (.int p1), .val (.int p2), .val (.int p3), .val (.int p4), .val (.int p5), .val (.int tk), .val (.int tl), .val (.int qk), .val (.int ql), .val (.int (1 : Int32)), .val (.int (0 : Int32)), .val (.int p4), .val (.ref b214), .val .null, .val (.int (0 : Int32)), .val (.int (65535 : Int32)), .val (.int (0 : Int32))] [])) _
              refine own_go (fun _ k => XS.iload X234.here hx rfl (hb hby at_204) rfl k) ?_
              show own_Go p e below (T234.setTop (mkF m 206 #[.val (.int p1), .val (.int p2), .val (.int p3), .val (.int p4), .val (.int p5), .val (.int tk), .val (.int tl), .val (.int qk), .val (.int ql), .val (.int (1 : Int32)), .val (.int (0 : Int32)), .val (.int p4), .val (.ref b214), .val .null, .val (.int (0 : Int32)), .val (.int (65535 : Int32)), .val (.int (0 : Int32))] [(.int (0 : Int32))])) _
              refine own_go (fun _ k => XS.iload X234.here hx rfl (hb hby at_206) rfl k) ?_
              show own_Go p e below (T234.setTop (mkF m 208 #[.val (.int p1), .val (.int p2), .val (.int p3), .val (.int p4), .val (.int p5), .val (.int tk), .val (.int tl), .val (.int qk), .val (.int ql), .val (.int (1 : Int32)), .val (.int (0 : Int32)), .val (.int p4), .val (.ref b214), .val .null, .val (.int (0 : Int32)), .val (.int (65535 : Int32)), .val (.int (0 : Int32))] [(.int (0 : Int32)), (.int (0 : Int32))])) _
              refine own_go (fun _ k => XS.icmpNo X234.here hx rfl (hb hby at_208) rfl (teq (by decide : (0 : Int32) = (0 : Int32))).2 k) ?_
              show own_Go p e below (T234.setTop (mkF m 211 #[.val (.int p1), .val (.int p2), .val (.int p3), .val (.int p4), .val (.int p5), .val (.int tk), .val (.int tl), .val (.int qk), .val (.int ql), .val (.int (1 : Int32)), .val (.int (0 : Int32)), .val (.int p4), .val (.ref b214), .val .null, .val (.int (0 : Int32)), .val (.int (65535 : Int32)), .val (.int (0 : Int32))] [])) _
              refine own_go (fun _ k => XS.iconst X234.here hx rfl (hb hby at_211) k) ?_
              show own_Go p e below (T234.setTop (mkF m 212 #[.val (.int p1), .val (.int p2), .val (.int p3), .val (.int p4), .val (.int p5), .val (.int tk), .val (.int tl), .val (.int qk), .val (.int ql), .val (.int (1 : Int32)), .val (.int (0 : Int32)), .val (.int p4), .val (.ref b214), .val .null, .val (.int (0 : Int32)), .val (.int (65535 : Int32)), .val (.int (0 : Int32))] [(.int (1 : Int32))])) _
              refine own_go (fun _ k => XS.goto X234.here hx rfl (pc0 := 212) (pc' := 216) rfl (hb hby at_212) (by decide) (by decide) k) ?_
              show own_Go p e below (T234.setTop (mkF m 216 #[.val (.int p1), .val (.int p2), .val (.int p3), .val (.int p4), .val (.int p5), .val (.int tk), .val (.int tl), .val (.int qk), .val (.int ql), .val (.int (1 : Int32)), .val (.int (0 : Int32)), .val (.int p4), .val (.ref b214), .val .null, .val (.int (0 : Int32)), .val (.int (65535 : Int32)), .val (.int (0 : Int32))] [(.int (1 : Int32))])) _
              refine own_finW (v := (some (.int (nar .boolean (1 : Int32))))) X234 hh hZ217 hS217 (by rw [e234]; exact (Nat.le_trans (Nat.le_refl _) K224.1)) (fun h => by rw [hrt] at h; cases h) hlk (fun fs hr => retN X234 hx (t := .boolean) hrt (by simp) (hb hby at_216) hr) (QQ := QQ0 n0) ?_ own_hEL e234 (C226) (by decide) (by decide)
              rw [e234]
              exact ⟨rfl, N234⟩
            · skip
              refine own_go (fun _ k => XS.icmpYes X234.here hx rfl (pc0 := 172) (pc' := 201) rfl (hb hby at_172) rfl (feq hc240).2 (by decide) (by decide) k) ?_
              show own_Go p e below (T234.setTop (mkF m 201 #[.val (.int p1), .val (.int p2), .val (.int p3), .val (.int p4), .val (.int p5), .val (.int tk), .val (.int tl), .val (.int qk), .val (.int ql), .val (.int (1 : Int32)), .val (.int (0 : Int32)), .val (.int p4), .val (.ref b214), .val .null, .val (.int (0 : Int32)), .val (.int (65535 : Int32)), .unset] [])) _
              refine own_go (fun _ k => XS.iconst X234.here hx rfl (hb hby at_201) k) ?_
              show own_Go p e below (T234.setTop (mkF m 202 #[.val (.int p1), .val (.int p2), .val (.int p3), .val (.int p4), .val (.int p5), .val (.int tk), .val (.int tl), .val (.int qk), .val (.int ql), .val (.int (1 : Int32)), .val (.int (0 : Int32)), .val (.int p4), .val (.ref b214), .val .null, .val (.int (0 : Int32)), .val (.int (65535 : Int32)), .unset] [(.int (0 : Int32))])) _
              refine own_go (fun _ k => XS.istore X234.here hx rfl (hb hby at_202) rfl (l' := #[.val (.int p1), .val (.int p2), .val (.int p3), .val (.int p4), .val (.int p5), .val (.int tk), .val (.int tl), .val (.int qk), .val (.int ql), .val (.int (1 : Int32)), .val (.int (0 : Int32)), .val (.int p4), .val (.ref b214), .val .null, .val (.int (0 : Int32)), .val (.int (65535 : Int32)), .val (.int (0 : Int32))]) rfl k) ?_
              show own_Go p e below (T234.setTop (mkF m 204 #[.val (.int p1), .val (.int p2), .val (.int p3), .val (.int p4), .val (.int p5), .val (.int tk), .val (.int tl), .val (.int qk), .val (.int ql), .val (.int (1 : Int32)), .val (.int (0 : Int32)), .val (.int p4), .val (.ref b214), .val .null, .val (.int (0 : Int32)), .val (.int (65535 : Int32)), .val (.int (0 : Int32))] [])) _
              refine own_go (fun _ k => XS.iload X234.here hx rfl (hb hby at_204) rfl k) ?_
              show own_Go p e below (T234.setTop (mkF m 206 #[.val (.int p1), .val (.int p2), .val (.int p3), .val (.int p4), .val (.int p5), .val (.int tk), .val (.int tl), .val (.int qk), .val (.int ql), .val (.int (1 : Int32)), .val (.int (0 : Int32)), .val (.int p4), .val (.ref b214), .val .null, .val (.int (0 : Int32)), .val (.int (65535 : Int32)), .val (.int (0 : Int32))] [(.int (0 : Int32))])) _
              refine own_go (fun _ k => XS.iload X234.here hx rfl (hb hby at_206) rfl k) ?_
              show own_Go p e below (T234.setTop (mkF m 208 #[.val (.int p1), .val (.int p2), .val (.int p3), .val (.int p4), .val (.int p5), .val (.int tk), .val (.int tl), .val (.int qk), .val (.int ql), .val (.int (1 : Int32)), .val (.int (0 : Int32)), .val (.int p4), .val (.ref b214), .val .null, .val (.int (0 : Int32)), .val (.int (65535 : Int32)), .val (.int (0 : Int32))] [(.int (0 : Int32)), (.int (0 : Int32))])) _
              refine own_go (fun _ k => XS.icmpNo X234.here hx rfl (hb hby at_208) rfl (teq (by decide : (0 : Int32) = (0 : Int32))).2 k) ?_
              show own_Go p e below (T234.setTop (mkF m 211 #[.val (.int p1), .val (.int p2), .val (.int p3), .val (.int p4), .val (.int p5), .val (.int tk), .val (.int tl), .val (.int qk), .val (.int ql), .val (.int (1 : Int32)), .val (.int (0 : Int32)), .val (.int p4), .val (.ref b214), .val .null, .val (.int (0 : Int32)), .val (.int (65535 : Int32)), .val (.int (0 : Int32))] [])) _
              refine own_go (fun _ k => XS.iconst X234.here hx rfl (hb hby at_211) k) ?_
              show own_Go p e below (T234.setTop (mkF m 212 #[.val (.int p1), .val (.int p2), .val (.int p3), .val (.int p4), .val (.int p5), .val (.int tk), .val (.int tl), .val (.int qk), .val (.int ql), .val (.int (1 : Int32)), .val (.int (0 : Int32)), .val (.int p4), .val (.ref b214), .val .null, .val (.int (0 : Int32)), .val (.int (65535 : Int32)), .val (.int (0 : Int32))] [(.int (1 : Int32))])) _
              refine own_go (fun _ k => XS.goto X234.here hx rfl (pc0 := 212) (pc' := 216) rfl (hb hby at_212) (by decide) (by decide) k) ?_
              show own_Go p e below (T234.setTop (mkF m 216 #[.val (.int p1), .val (.int p2), .val (.int p3), .val (.int p4), .val (.int p5), .val (.int tk), .val (.int tl), .val (.int qk), .val (.int ql), .val (.int (1 : Int32)), .val (.int (0 : Int32)), .val (.int p4), .val (.ref b214), .val .null, .val (.int (0 : Int32)), .val (.int (65535 : Int32)), .val (.int (0 : Int32))] [(.int (1 : Int32))])) _
              refine own_finW (v := (some (.int (nar .boolean (1 : Int32))))) X234 hh hZ217 hS217 (by rw [e234]; exact (Nat.le_trans (Nat.le_refl _) K224.1)) (fun h => by rw [hrt] at h; cases h) hlk (fun fs hr => retN X234 hx (t := .boolean) hrt (by simp) (hb hby at_216) hr) (QQ := QQ0 n0) ?_ own_hEL e234 (C226) (by decide) (by decide)
              rw [e234]
              exact ⟨rfl, N234⟩
          · skip
            refine own_go (fun _ k => XS.icmpYes X234.here hx rfl (pc0 := 156) (pc' := 164) rfl (hb hby at_156) rfl (feq hc239).2 (by decide) (by decide) k) ?_
            show own_Go p e below (T234.setTop (mkF m 164 #[.val (.int p1), .val (.int p2), .val (.int p3), .val (.int p4), .val (.int p5), .val (.int tk), .val (.int tl), .val (.int qk), .val (.int ql), .val (.int (1 : Int32)), .val (.int (0 : Int32)), .val (.int p4), .val (.ref b214), .val .null, .val (.int (0 : Int32)), .unset, .unset] [])) _
            refine own_go (fun _ k => X234.ldcInt hx hown217 (mvT hZ217 (hw _ (List.mem_of_getElem? (i := 85) rfl))) (g := (mkF m 164 #[.val (.int p1), .val (.int p2), .val (.int p3), .val (.int p4), .val (.int p5), .val (.int tk), .val (.int tl), .val (.int qk), .val (.int ql), .val (.int (1 : Int32)), .val (.int (0 : Int32)), .val (.int p4), .val (.ref b214), .val .null, .val (.int (0 : Int32)), .unset, .unset] [])) rfl (hb hby at_164) _ k) ?_
            show own_Go p e below (T234.setTop (mkF m 166 #[.val (.int p1), .val (.int p2), .val (.int p3), .val (.int p4), .val (.int p5), .val (.int tk), .val (.int tl), .val (.int qk), .val (.int ql), .val (.int (1 : Int32)), .val (.int (0 : Int32)), .val (.int p4), .val (.ref b214), .val .null, .val (.int (0 : Int32)), .unset, .unset] [(.int (16777215 : Int32))])) _
            refine own_go (fun _ k => XS.istore X234.here hx rfl (hb hby at_166) rfl (l' := #[.val (.int p1), .val (.int p2), .val (.int p3), .val (.int p4), .val (.int p5), .val (.int tk), .val (.int tl), .val (.int qk), .val (.int ql), .val (.int (1 : Int32)), .val (.int (0 : Int32)), .val (.int p4), .val (.ref b214), .val .null, .val (.int (0 : Int32)), .val (.int (16777215 : Int32)), .unset]) rfl k) ?_
            show own_Go p e below (T234.setTop (mkF m 168 #[.val (.int p1), .val (.int p2), .val (.int p3), .val (.int p4), .val (.int p5), .val (.int tk), .val (.int tl), .val (.int qk), .val (.int ql), .val (.int (1 : Int32)), .val (.int (0 : Int32)), .val (.int p4), .val (.ref b214), .val .null, .val (.int (0 : Int32)), .val (.int (16777215 : Int32)), .unset] [])) _
            refine own_go (fun _ k => XS.iload X234.here hx rfl (hb hby at_168) rfl k) ?_
            show own_Go p e below (T234.setTop (mkF m 170 #[.val (.int p1), .val (.int p2), .val (.int p3), .val (.int p4), .val (.int p5), .val (.int tk), .val (.int tl), .val (.int qk), .val (.int ql), .val (.int (1 : Int32)), .val (.int (0 : Int32)), .val (.int p4), .val (.ref b214), .val .null, .val (.int (0 : Int32)), .val (.int (16777215 : Int32)), .unset] [(.int qk)])) _
            refine own_go (fun _ k => XS.iload X234.here hx rfl (hb hby at_170) rfl k) ?_
            show own_Go p e below (T234.setTop (mkF m 172 #[.val (.int p1), .val (.int p2), .val (.int p3), .val (.int p4), .val (.int p5), .val (.int tk), .val (.int tl), .val (.int qk), .val (.int ql), .val (.int (1 : Int32)), .val (.int (0 : Int32)), .val (.int p4), .val (.ref b214), .val .null, .val (.int (0 : Int32)), .val (.int (16777215 : Int32)), .unset] [(.int tk), (.int qk)])) _
            by_cases hc241 : qk = tk
            · skip
              refine own_go (fun _ k => XS.icmpNo X234.here hx rfl (hb hby at_172) rfl (teq hc241).2 k) ?_
              show own_Go p e below (T234.setTop (mkF m 175 #[.val (.int p1), .val (.int p2), .val (.int p3), .val (.int p4), .val (.int p5), .val (.int tk), .val (.int tl), .val (.int qk), .val (.int ql), .val (.int (1 : Int32)), .val (.int (0 : Int32)), .val (.int p4), .val (.ref b214), .val .null, .val (.int (0 : Int32)), .val (.int (16777215 : Int32)), .unset] [])) _
              refine own_go (fun _ k => XS.iload X234.here hx rfl (hb hby at_175) rfl k) ?_
              show own_Go p e below (T234.setTop (mkF m 177 #[.val (.int p1), .val (.int p2), .val (.int p3), .val (.int p4), .val (.int p5), .val (.int tk), .val (.int tl), .val (.int qk), .val (.int ql), .val (.int (1 : Int32)), .val (.int (0 : Int32)), .val (.int p4), .val (.ref b214), .val .null, .val (.int (0 : Int32)), .val (.int (16777215 : Int32)), .unset] [(.int (1 : Int32))])) _
              refine own_go (fun _ k => XS.ifYes X234.here hx rfl (pc0 := 177) (pc' := 201) rfl (hb hby at_177) rfl ((if0 _ _).trans (feq (by decide : ¬ ((1 : Int32) = (0 : Int32)))).2) (by decide) (by decide) k) ?_
              show own_Go p e below (T234.setTop (mkF m 201 #[.val (.int p1), .val (.int p2), .val (.int p3), .val (.int p4), .val (.int p5), .val (.int tk), .val (.int tl), .val (.int qk), .val (.int ql), .val (.int (1 : Int32)), .val (.int (0 : Int32)), .val (.int p4), .val (.ref b214), .val .null, .val (.int (0 : Int32)), .val (.int (16777215 : Int32)), .unset] [])) _
              refine own_go (fun _ k => XS.iconst X234.here hx rfl (hb hby at_201) k) ?_
              show own_Go p e below (T234.setTop (mkF m 202 #[.val (.int p1), .val (.int p2), .val (.int p3), .val (.int p4), .val (.int p5), .val (.int tk), .val (.int tl), .val (.int qk), .val (.int ql), .val (.int (1 : Int32)), .val (.int (0 : Int32)), .val (.int p4), .val (.ref b214), .val .null, .val (.int (0 : Int32)), .val (.int (16777215 : Int32)), .unset] [(.int (0 : Int32))])) _
              refine own_go (fun _ k => XS.istore X234.here hx rfl (hb hby at_202) rfl (l' := #[.val (.int p1), .val (.int p2), .val (.int p3), .val (.int p4), .val (.int p5), .val (.int tk), .val (.int tl), .val (.int qk), .val (.int ql), .val (.int (1 : Int32)), .val (.int (0 : Int32)), .val (.int p4), .val (.ref b214), .val .null, .val (.int (0 : Int32)), .val (.int (16777215 : Int32)), .val (.int (0 : Int32))]) rfl k) ?_
              show own_Go p e below (T234.setTop (mkF m 204 #[.val (.int p1), .val (.int p2), .val (.int p3), .val (.int p4), .val (.int p5), .val (.int tk), .val (.int tl), .val (.int qk), .val (.int ql), .val (.int (1 : Int32)), .val (.int (0 : Int32)), .val (.int p4), .val (.ref b214), .val .null, .val (.int (0 : Int32)), .val (.int (16777215 : Int32)), .val (.int (0 : Int32))] [])) _
              refine own_go (fun _ k => XS.iload X234.here hx rfl (hb hby at_204) rfl k) ?_
              show own_Go p e below (T234.setTop (mkF m 206 #[.val (.int p1), .val (.int p2), .val (.int p3), .val (.int p4), .val (.int p5), .val (.int tk), .val (.int tl), .val (.int qk), .val (.int ql), .val (.int (1 : Int32)), .val (.int (0 : Int32)), .val (.int p4), .val (.ref b214), .val .null, .val (.int (0 : Int32)), .val (.int (16777215 : Int32)), .val (.int (0 : Int32))] [(.int (0 : Int32))])) _
              refine own_go (fun _ k => XS.iload X234.here hx rfl (hb hby at_206) rfl k) ?_
              show own_Go p e below (T234.setTop (mkF m 208 #[.val (.int p1), .val (.int p2), .val (.int p3), .val (.int p4), .val (.int p5), .val (.int tk), .val (.int tl), .val (.int qk), .val (.int ql), .val (.int (1 : Int32)), .val (.int (0 : Int32)), .val (.int p4), .val (.ref b214), .val .null, .val (.int (0 : Int32)), .val (.int (16777215 : Int32)), .val (.int (0 : Int32))] [(.int (0 : Int32)), (.int (0 : Int32))])) _
              refine own_go (fun _ k => XS.icmpNo X234.here hx rfl (hb hby at_208) rfl (teq (by decide : (0 : Int32) = (0 : Int32))).2 k) ?_
              show own_Go p e below (T234.setTop (mkF m 211 #[.val (.int p1), .val (.int p2), .val (.int p3), .val (.int p4), .val (.int p5), .val (.int tk), .val (.int tl), .val (.int qk), .val (.int ql), .val (.int (1 : Int32)), .val (.int (0 : Int32)), .val (.int p4), .val (.ref b214), .val .null, .val (.int (0 : Int32)), .val (.int (16777215 : Int32)), .val (.int (0 : Int32))] [])) _
              refine own_go (fun _ k => XS.iconst X234.here hx rfl (hb hby at_211) k) ?_
              show own_Go p e below (T234.setTop (mkF m 212 #[.val (.int p1), .val (.int p2), .val (.int p3), .val (.int p4), .val (.int p5), .val (.int tk), .val (.int tl), .val (.int qk), .val (.int ql), .val (.int (1 : Int32)), .val (.int (0 : Int32)), .val (.int p4), .val (.ref b214), .val .null, .val (.int (0 : Int32)), .val (.int (16777215 : Int32)), .val (.int (0 : Int32))] [(.int (1 : Int32))])) _
              refine own_go (fun _ k => XS.goto X234.here hx rfl (pc0 := 212) (pc' := 216) rfl (hb hby at_212) (by decide) (by decide) k) ?_
              show own_Go p e below (T234.setTop (mkF m 216 #[.val (.int p1), .val (.int p2), .val (.int p3), .val (.int p4), .val (.int p5), .val (.int tk), .val (.int tl), .val (.int qk), .val (.int ql), .val (.int (1 : Int32)), .val (.int (0 : Int32)), .val (.int p4), .val (.ref b214), .val .null, .val (.int (0 : Int32)), .val (.int (16777215 : Int32)), .val (.int (0 : Int32))] [(.int (1 : Int32))])) _
              refine own_finW (v := (some (.int (nar .boolean (1 : Int32))))) X234 hh hZ217 hS217 (by rw [e234]; exact (Nat.le_trans (Nat.le_refl _) K224.1)) (fun h => by rw [hrt] at h; cases h) hlk (fun fs hr => retN X234 hx (t := .boolean) hrt (by simp) (hb hby at_216) hr) (QQ := QQ0 n0) ?_ own_hEL e234 (C226) (by decide) (by decide)
              rw [e234]
              exact ⟨rfl, N234⟩
            · skip
              refine own_go (fun _ k => XS.icmpYes X234.here hx rfl (pc0 := 172) (pc' := 201) rfl (hb hby at_172) rfl (feq hc241).2 (by decide) (by decide) k) ?_
              show own_Go p e below (T234.setTop (mkF m 201 #[.val (.int p1), .val (.int p2), .val (.int p3), .val (.int p4), .val (.int p5), .val (.int tk), .val (.int tl), .val (.int qk), .val (.int ql), .val (.int (1 : Int32)), .val (.int (0 : Int32)), .val (.int p4), .val (.ref b214), .val .null, .val (.int (0 : Int32)), .val (.int (16777215 : Int32)), .unset] [])) _
              refine own_go (fun _ k => XS.iconst X234.here hx rfl (hb hby at_201) k) ?_
              show own_Go p e below (T234.setTop (mkF m 202 #[.val (.int p1), .val (.int p2), .val (.int p3), .val (.int p4), .val (.int p5), .val (.int tk), .val (.int tl), .val (.int qk), .val (.int ql), .val (.int (1 : Int32)), .val (.int (0 : Int32)), .val (.int p4), .val (.ref b214), .val .null, .val (.int (0 : Int32)), .val (.int (16777215 : Int32)), .unset] [(.int (0 : Int32))])) _
              refine own_go (fun _ k => XS.istore X234.here hx rfl (hb hby at_202) rfl (l' := #[.val (.int p1), .val (.int p2), .val (.int p3), .val (.int p4), .val (.int p5), .val (.int tk), .val (.int tl), .val (.int qk), .val (.int ql), .val (.int (1 : Int32)), .val (.int (0 : Int32)), .val (.int p4), .val (.ref b214), .val .null, .val (.int (0 : Int32)), .val (.int (16777215 : Int32)), .val (.int (0 : Int32))]) rfl k) ?_
              show own_Go p e below (T234.setTop (mkF m 204 #[.val (.int p1), .val (.int p2), .val (.int p3), .val (.int p4), .val (.int p5), .val (.int tk), .val (.int tl), .val (.int qk), .val (.int ql), .val (.int (1 : Int32)), .val (.int (0 : Int32)), .val (.int p4), .val (.ref b214), .val .null, .val (.int (0 : Int32)), .val (.int (16777215 : Int32)), .val (.int (0 : Int32))] [])) _
              refine own_go (fun _ k => XS.iload X234.here hx rfl (hb hby at_204) rfl k) ?_
              show own_Go p e below (T234.setTop (mkF m 206 #[.val (.int p1), .val (.int p2), .val (.int p3), .val (.int p4), .val (.int p5), .val (.int tk), .val (.int tl), .val (.int qk), .val (.int ql), .val (.int (1 : Int32)), .val (.int (0 : Int32)), .val (.int p4), .val (.ref b214), .val .null, .val (.int (0 : Int32)), .val (.int (16777215 : Int32)), .val (.int (0 : Int32))] [(.int (0 : Int32))])) _
              refine own_go (fun _ k => XS.iload X234.here hx rfl (hb hby at_206) rfl k) ?_
              show own_Go p e below (T234.setTop (mkF m 208 #[.val (.int p1), .val (.int p2), .val (.int p3), .val (.int p4), .val (.int p5), .val (.int tk), .val (.int tl), .val (.int qk), .val (.int ql), .val (.int (1 : Int32)), .val (.int (0 : Int32)), .val (.int p4), .val (.ref b214), .val .null, .val (.int (0 : Int32)), .val (.int (16777215 : Int32)), .val (.int (0 : Int32))] [(.int (0 : Int32)), (.int (0 : Int32))])) _
              refine own_go (fun _ k => XS.icmpNo X234.here hx rfl (hb hby at_208) rfl (teq (by decide : (0 : Int32) = (0 : Int32))).2 k) ?_
              show own_Go p e below (T234.setTop (mkF m 211 #[.val (.int p1), .val (.int p2), .val (.int p3), .val (.int p4), .val (.int p5), .val (.int tk), .val (.int tl), .val (.int qk), .val (.int ql), .val (.int (1 : Int32)), .val (.int (0 : Int32)), .val (.int p4), .val (.ref b214), .val .null, .val (.int (0 : Int32)), .val (.int (16777215 : Int32)), .val (.int (0 : Int32))] [])) _
              refine own_go (fun _ k => XS.iconst X234.here hx rfl (hb hby at_211) k) ?_
              show own_Go p e below (T234.setTop (mkF m 212 #[.val (.int p1), .val (.int p2), .val (.int p3), .val (.int p4), .val (.int p5), .val (.int tk), .val (.int tl), .val (.int qk), .val (.int ql), .val (.int (1 : Int32)), .val (.int (0 : Int32)), .val (.int p4), .val (.ref b214), .val .null, .val (.int (0 : Int32)), .val (.int (16777215 : Int32)), .val (.int (0 : Int32))] [(.int (1 : Int32))])) _
              refine own_go (fun _ k => XS.goto X234.here hx rfl (pc0 := 212) (pc' := 216) rfl (hb hby at_212) (by decide) (by decide) k) ?_
              show own_Go p e below (T234.setTop (mkF m 216 #[.val (.int p1), .val (.int p2), .val (.int p3), .val (.int p4), .val (.int p5), .val (.int tk), .val (.int tl), .val (.int qk), .val (.int ql), .val (.int (1 : Int32)), .val (.int (0 : Int32)), .val (.int p4), .val (.ref b214), .val .null, .val (.int (0 : Int32)), .val (.int (16777215 : Int32)), .val (.int (0 : Int32))] [(.int (1 : Int32))])) _
              refine own_finW (v := (some (.int (nar .boolean (1 : Int32))))) X234 hh hZ217 hS217 (by rw [e234]; exact (Nat.le_trans (Nat.le_refl _) K224.1)) (fun h => by rw [hrt] at h; cases h) hlk (fun fs hr => retN X234 hx (t := .boolean) hrt (by simp) (hb hby at_216) hr) (QQ := QQ0 n0) ?_ own_hEL e234 (C226) (by decide) (by decide)
              rw [e234]
              exact ⟨rfl, N234⟩
    · skip
      refine own_go (fun _ k => XS.ifNo X0.here hx rfl (hb hby at_56) rfl ((if0 _ _).trans (feq hc213).1) k) ?_
      show own_Go p e below (s₁.setTop (mkF m 59 #[.val (.int p1), .val (.int p2), .val (.int p3), .val (.int p4), .val (.int p5), .val (.int tk), .val (.int tl), .val (.int qk), .val (.int ql), .val (.int (1 : Int32)), .unset, .unset, .unset, .unset, .unset, .unset, .unset] [])) _
      refine own_go (fun _ k => XS.iconst X0.here hx rfl (hb hby at_59) k) ?_
      show own_Go p e below (s₁.setTop (mkF m 60 #[.val (.int p1), .val (.int p2), .val (.int p3), .val (.int p4), .val (.int p5), .val (.int tk), .val (.int tl), .val (.int qk), .val (.int ql), .val (.int (1 : Int32)), .unset, .unset, .unset, .unset, .unset, .unset, .unset] [(.int (1 : Int32))])) _
      refine own_go (fun _ k => XS.goto X0.here hx rfl (pc0 := 60) (pc' := 64) rfl (hb hby at_60) (by decide) (by decide) k) ?_
      show own_Go p e below (s₁.setTop (mkF m 64 #[.val (.int p1), .val (.int p2), .val (.int p3), .val (.int p4), .val (.int p5), .val (.int tk), .val (.int tl), .val (.int qk), .val (.int ql), .val (.int (1 : Int32)), .unset, .unset, .unset, .unset, .unset, .unset, .unset] [(.int (1 : Int32))])) _
      refine own_go (fun _ k => XS.istore X0.here hx rfl (hb hby at_64) rfl (l' := #[.val (.int p1), .val (.int p2), .val (.int p3), .val (.int p4), .val (.int p5), .val (.int tk), .val (.int tl), .val (.int qk), .val (.int ql), .val (.int (1 : Int32)), .val (.int (1 : Int32)), .unset, .unset, .unset, .unset, .unset, .unset]) rfl k) ?_
      show own_Go p e below (s₁.setTop (mkF m 66 #[.val (.int p1), .val (.int p2), .val (.int p3), .val (.int p4), .val (.int p5), .val (.int tk), .val (.int tl), .val (.int qk), .val (.int ql), .val (.int (1 : Int32)), .val (.int (1 : Int32)), .unset, .unset, .unset, .unset, .unset, .unset] [])) _
      refine own_go (fun _ k => XS.iload X0.here hx rfl (hb hby at_66) rfl k) ?_
      show own_Go p e below (s₁.setTop (mkF m 68 #[.val (.int p1), .val (.int p2), .val (.int p3), .val (.int p4), .val (.int p5), .val (.int tk), .val (.int tl), .val (.int qk), .val (.int ql), .val (.int (1 : Int32)), .val (.int (1 : Int32)), .unset, .unset, .unset, .unset, .unset, .unset] [(.int (1 : Int32))])) _
      refine own_go (fun _ k => XS.ifNo X0.here hx rfl (hb hby at_68) rfl ((if0 _ _).trans (feq (by decide : ¬ ((1 : Int32) = (0 : Int32)))).1) k) ?_
      show own_Go p e below (s₁.setTop (mkF m 71 #[.val (.int p1), .val (.int p2), .val (.int p3), .val (.int p4), .val (.int p5), .val (.int tk), .val (.int tl), .val (.int qk), .val (.int ql), .val (.int (1 : Int32)), .val (.int (1 : Int32)), .unset, .unset, .unset, .unset, .unset, .unset] [])) _
      refine own_go (fun _ k => XS.iloadN X0.here hx rfl (hb hby at_71) rfl k) ?_
      show own_Go p e below (s₁.setTop (mkF m 72 #[.val (.int p1), .val (.int p2), .val (.int p3), .val (.int p4), .val (.int p5), .val (.int tk), .val (.int tl), .val (.int qk), .val (.int ql), .val (.int (1 : Int32)), .val (.int (1 : Int32)), .unset, .unset, .unset, .unset, .unset, .unset] [(.int p2)])) _
      refine own_go (fun _ k => XS.goto X0.here hx rfl (pc0 := 72) (pc' := 76) rfl (hb hby at_72) (by decide) (by decide) k) ?_
      show own_Go p e below (s₁.setTop (mkF m 76 #[.val (.int p1), .val (.int p2), .val (.int p3), .val (.int p4), .val (.int p5), .val (.int tk), .val (.int tl), .val (.int qk), .val (.int ql), .val (.int (1 : Int32)), .val (.int (1 : Int32)), .unset, .unset, .unset, .unset, .unset, .unset] [(.int p2)])) _
      refine own_go (fun _ k => XS.istore X0.here hx rfl (hb hby at_76) rfl (l' := #[.val (.int p1), .val (.int p2), .val (.int p3), .val (.int p4), .val (.int p5), .val (.int tk), .val (.int tl), .val (.int qk), .val (.int ql), .val (.int (1 : Int32)), .val (.int (1 : Int32)), .val (.int p2), .unset, .unset, .unset, .unset, .unset]) rfl k) ?_
      show own_Go p e below (s₁.setTop (mkF m 78 #[.val (.int p1), .val (.int p2), .val (.int p3), .val (.int p4), .val (.int p5), .val (.int tk), .val (.int tl), .val (.int qk), .val (.int ql), .val (.int (1 : Int32)), .val (.int (1 : Int32)), .val (.int p2), .unset, .unset, .unset, .unset, .unset] [])) _
      obtain ⟨T242, h242, X242, e242, E242, A242, D242, U242, st242⟩ := newO X0 hx hZ hown (hw _ (List.mem_of_getElem? (i := 1) rfl)) (hw _ (List.mem_of_getElem? (i := 2) rfl)) (hw _ (List.mem_of_getElem? (i := 3) rfl)) e0 (g := (mkF m 78 #[.val (.int p1), .val (.int p2), .val (.int p3), .val (.int p4), .val (.int p5), .val (.int tk), .val (.int tl), .val (.int qk), .val (.int ql), .val (.int (1 : Int32)), .val (.int (1 : Int32)), .val (.int p2), .unset, .unset, .unset, .unset, .unset] [])) rfl (hb hby at_78) (by decide) (by decide)
      obtain ⟨b242, g242⟩ : ∃ z, z = h0.size := ⟨_, rfl⟩
      rw [← g242] at A242 D242 U242 st242
      refine own_go st242 ?_
      have C243 := C0.trans (CHr.ext E242 C0.1)
      have F242_kind : Fld Z h242 b242 "com/example/sequela/sequela/Lexer$Token" "kind" "Lcom/example/sequela/sequela/Lexer$Kind;" .null := D242 (Or.inr (hw _ (List.mem_of_getElem? (i := 46) rfl))) (ty := (.object "com/example/sequela/sequela/Lexer$Kind")) (by decide)
      have F242_text : Fld Z h242 b242 "com/example/sequela/sequela/Lexer$Token" "text" "Ljava/lang/String;" .null := D242 (Or.inr (hw _ (List.mem_of_getElem? (i := 48) rfl))) (ty := (.object "java/lang/String")) (by decide)
      have F242_index : Fld Z h242 b242 "com/example/sequela/sequela/Lexer$Token" "index" "I" (.int (0 : Int32)) := D242 (Or.inr (hw _ (List.mem_of_getElem? (i := 50) rfl))) (ty := .int) (by decide)
      show own_Go p e below (T242.setTop (mkF m 81 #[.val (.int p1), .val (.int p2), .val (.int p3), .val (.int p4), .val (.int p5), .val (.int tk), .val (.int tl), .val (.int qk), .val (.int ql), .val (.int (1 : Int32)), .val (.int (1 : Int32)), .val (.int p2), .unset, .unset, .unset, .unset, .unset] [(.ref b242)])) _
      refine own_go (fun _ k => XS.dup X242.here hx rfl (hb hby at_81) rfl rfl k) ?_
      show own_Go p e below (T242.setTop (mkF m 82 #[.val (.int p1), .val (.int p2), .val (.int p3), .val (.int p4), .val (.int p5), .val (.int tk), .val (.int tl), .val (.int qk), .val (.int ql), .val (.int (1 : Int32)), .val (.int (1 : Int32)), .val (.int p2), .unset, .unset, .unset, .unset, .unset] [(.ref b242), (.ref b242)])) _
      refine own_go (fun _ k => XS.iload X242.here hx rfl (hb hby at_82) rfl k) ?_
      show own_Go p e below (T242.setTop (mkF m 84 #[.val (.int p1), .val (.int p2), .val (.int p3), .val (.int p4), .val (.int p5), .val (.int tk), .val (.int tl), .val (.int qk), .val (.int ql), .val (.int (1 : Int32)), .val (.int (1 : Int32)), .val (.int p2), .unset, .unset, .unset, .unset, .unset] [(.int tk), (.ref b242), (.ref b242)])) _
      obtain ⟨v244, _, ⟨T244, L244, k244, n244⟩, -, X244, ⟨Lc244, hQ244, l244, y244, z244⟩, st244⟩ := Jvm.LawKit.callS X242 hx (y := (⟨"com/example/sequela/sequela/TokenIsPinLaw", "kind", "(I)Lcom/example/sequela/sequela/Lexer$Kind;"⟩ : MethodName)) hown (mvT hZ (hw _ (List.mem_of_getElem? (i := 4) rfl))) (mvT hZ (hw _ (List.mem_of_getElem? (i := 5) rfl))) (mvT hZ (hw _ (List.mem_of_getElem? (i := 6) rfl))) (mvT hZ (hw _ (List.mem_of_getElem? (i := 7) rfl))) (by decide) (backOf (W := 2) (rm_kind l Z a0 hw [] tk z0 z1 z2 z3 z4 z5 h242 n0 (O0.ext E242) S0 S1 S2 S3 S4 S5) hZ (hw _ (List.mem_of_getElem? (i := 7) rfl)) (hw _ (List.mem_of_getElem? (i := 6) rfl)) (by decide) (by decide)) (g := (mkF m 84 #[.val (.int p1), .val (.int p2), .val (.int p3), .val (.int p4), .val (.int p5), .val (.int tk), .val (.int tl), .val (.int qk), .val (.int ql), .val (.int (1 : Int32)), .val (.int (1 : Int32)), .val (.int p2), .unset, .unset, .unset, .unset, .unset] [(.int tk), (.ref b242), (.ref b242)])) rfl (by rw [hml]; rfl) (argsL := [(.int tk)]) (rest := [(.ref b242), (.ref b242)]) (lenOf pd_4 rfl) rfl (by show 2 * 0 + _ ≤ _; exact Nat.le_of_eq rfl) (hb hby at_84) (fun _ _ => ⟨rfl, e242, (by decide : 1 + 0 ≤ _), (by decide : 3 + 0 ≤ _)⟩)
      dsimp only [Pt.U, Pt.locs, Pt.cells, Pt.slots] at X244 l244 y244 z244 st244 hQ244
      subst l244 y244 z244
      refine own_go st244 ?_
      obtain ⟨rfl, Nq244, e244⟩ := hQ244
      have N244 := Fr.app N0 Nq244
      show own_Go p e below (T244.setTop (mkF m 87 #[.val (.int p1), .val (.int p2), .val (.int p3), .val (.int p4), .val (.int p5), .val (.int tk), .val (.int tl), .val (.int qk), .val (.int ql), .val (.int (1 : Int32)), .val (.int (1 : Int32)), .val (.int p2), .unset, .unset, .unset, .unset, .unset] [(own_kind tk z0 z1 z2 z3 z4 z5), (.ref b242), (.ref b242)])) _
      refine own_go (fun _ k => XS.iload X244.here hx rfl (hb hby at_87) rfl k) ?_
      show own_Go p e below (T244.setTop (mkF m 89 #[.val (.int p1), .val (.int p2), .val (.int p3), .val (.int p4), .val (.int p5), .val (.int tk), .val (.int tl), .val (.int qk), .val (.int ql), .val (.int (1 : Int32)), .val (.int (1 : Int32)), .val (.int p2), .unset, .unset, .unset, .unset, .unset] [(.int tl), (own_kind tk z0 z1 z2 z3 z4 z5), (.ref b242), (.ref b242)])) _
      refine own_go (fun _ k => XS.iloadN X244.here hx rfl (hb hby at_89) rfl k) ?_
      show own_Go p e below (T244.setTop (mkF m 90 #[.val (.int p1), .val (.int p2), .val (.int p3), .val (.int p4), .val (.int p5), .val (.int tk), .val (.int tl), .val (.int qk), .val (.int ql), .val (.int (1 : Int32)), .val (.int (1 : Int32)), .val (.int p2), .unset, .unset, .unset, .unset, .unset] [(.int p2), (.int tl), (own_kind tk z0 z1 z2 z3 z4 z5), (.ref b242), (.ref b242)])) _
      obtain ⟨v245, _, ⟨T245, L245, k245, n245⟩, -, X245, hS245, hg245, ⟨Lc245, hQ245, l245, y245, z245, A245⟩, st245⟩ := callSS X244 hx (y := (⟨"com/example/sequela/sequela/TokenIsPinLaw", "text", "(II)Ljava/lang/String;"⟩ : MethodName)) hown (mvT hZ (hw _ (List.mem_of_getElem? (i := 11) rfl))) (mvT hZ (hw _ (List.mem_of_getElem? (i := 12) rfl))) (mvT hZ (hw _ (List.mem_of_getElem? (i := 6) rfl))) (mvT hZ (hw _ (List.mem_of_getElem? (i := 13) rfl))) (by decide) (backOfSH (W := 3) (rm_text l Z a0 hw [] tl p2 G1 h242 n0 (O0.ext E242) O2 P5) hZ (hw _ (List.mem_of_getElem? (i := 13) rfl)) (hw _ (List.mem_of_getElem? (i := 6) rfl)) (by decide) (by decide) own_hEL C243.1) (g := (mkF m 90 #[.val (.int p1), .val (.int p2), .val (.int p3), .val (.int p4), .val (.int p5), .val (.int tk), .val (.int tl), .val (.int qk), .val (.int ql), .val (.int (1 : Int32)), .val (.int (1 : Int32)), .val (.int p2), .unset, .unset, .unset, .unset, .unset] [(.int p2), (.int tl), (own_kind tk z0 z1 z2 z3 z4 z5), (.ref b242), (.ref b242)])) rfl (by rw [hml]; rfl) (argsL := [(.int tl), (.int p2)]) (rest := [(own_kind tk z0 z1 z2 z3 z4 z5), (.ref b242), (.ref b242)]) (lenOf pd_5 rfl) rfl (by show 2 * 0 + _ ≤ _; simp only [List.map, own_catR (own_kindR _ _ _ _ _ _ _)]; exact Nat.le_of_eq rfl) (hb hby at_90) (fun _ _ => ⟨rfl, e244, (by decide : 1 + 6 ≤ _), (by decide : 3 + 12 ≤ _)⟩)
      dsimp only [Pt.U, Pt.locs, Pt.cells, Pt.slots] at X245 l245 y245 z245 st245 hQ245 hS245 hg245 A245
      subst l245 y245 z245
      refine own_gos st245 ?_
      obtain ⟨X245, hS245, hZ245, hown245⟩ := rebS hS0 (k0 := _) (n1 := T244.heap.size) (by rw [e244]; exact (Nat.zero_le _)) X245 hS245 hg245 hZ hown
      obtain ⟨x245, t245, kt245, N2245, vs245, rfl, Nq245, K245, xg245, Ex245, Fv245, Fc245, Vt245, hC245⟩ := hQ245
      have C246 := C243.trans A245
      have N245 := Fr.app N244 Nq245
      have ne247 := Exa.neArv (A242.keep K245) Vt245 (hw _ (List.mem_of_getElem? (i := 2) rfl))
      show own_Go p e below (T245.setTop (mkF m 93 #[.val (.int p1), .val (.int p2), .val (.int p3), .val (.int p4), .val (.int p5), .val (.int tk), .val (.int tl), .val (.int qk), .val (.int ql), .val (.int (1 : Int32)), .val (.int (1 : Int32)), .val (.int p2), .unset, .unset, .unset, .unset, .unset] [(.ref x245), (own_kind tk z0 z1 z2 z3 z4 z5), (.ref b242), (.ref b242)])) _
      refine own_go (fun _ k => XS.iload X245.here hx rfl (hb hby at_93) rfl k) ?_
      show own_Go p e below (T245.setTop (mkF m 95 #[.val (.int p1), .val (.int p2), .val (.int p3), .val (.int p4), .val (.int p5), .val (.int tk), .val (.int tl), .val (.int qk), .val (.int ql), .val (.int (1 : Int32)), .val (.int (1 : Int32)), .val (.int p2), .unset, .unset, .unset, .unset, .unset] [(.int p5), (.ref x245), (own_kind tk z0 z1 z2 z3 z4 z5), (.ref b242), (.ref b242)])) _
      have f248 := (F242_kind.keep K245 nin0)
      have f249 := (F242_text.keep K245 nin0)
      have f250 := (F242_index.keep K245 nin0)
      have f251 := ((O0.ext E242).keep K245 all0)
      obtain ⟨v252, _, ⟨T252, L252, k252, n252⟩, -, X252, ⟨Lc252, hQ252, l252, y252, z252⟩, st252⟩ := X245.specialBack hx (y := (⟨"com/example/sequela/sequela/Lexer$Token", "<init>", "(Lcom/example/sequela/sequela/Lexer$Kind;Ljava/lang/String;I)V"⟩ : MethodName)) rfl hown245 (mvT hZ245 (hw _ (List.mem_of_getElem? (i := 36) rfl))) (mvT hZ245 (hw _ (List.mem_of_getElem? (i := 37) rfl))) (mvT hZ245 (hw _ (List.mem_of_getElem? (i := 38) rfl))) (by decide) (backOf (W := 1) (rm_tok l Z a0 hw [] b242 (own_kind tk z0 z1 z2 z3 z4 z5) x245 p5 T245.heap n0 f251 (own_kindR _ _ _ _ _ _ _) (A242.keep K245) f248 f249 f250 (Nat.le_trans Z0 (Nat.le_of_eq g242.symm))) hZ245 (hw _ (List.mem_of_getElem? (i := 38) rfl)) (hw _ (List.mem_of_getElem? (i := 3) rfl)) (by decide) (by decide)) (g := (mkF m 95 #[.val (.int p1), .val (.int p2), .val (.int p3), .val (.int p4), .val (.int p5), .val (.int tk), .val (.int tl), .val (.int qk), .val (.int ql), .val (.int (1 : Int32)), .val (.int (1 : Int32)), .val (.int p2), .unset, .unset, .unset, .unset, .unset] [(.int p5), (.ref x245), (own_kind tk z0 z1 z2 z3 z4 z5), (.ref b242), (.ref b242)])) rfl (by rw [hml]; rfl) (Steps.refl _) (a := b242) (argsL := [(own_kind tk z0 z1 z2 z3 z4 z5), (.ref x245), (.int p5)]) (rest := [(.ref b242)]) (lenOf pd_6 rfl) rfl (by show 2 * 0 + _ ≤ _; exact Nat.le_of_eq rfl) (hb hby at_95) (fun _ _ => ⟨rfl, (rfl : T245.heap = T245.heap), (by decide : 7 + 0 ≤ _), (by decide : 15 + 0 ≤ _)⟩)
      dsimp only [Pt.U, Pt.locs, Pt.cells, Pt.slots] at X252 l252 y252 z252 st252 hQ252
      subst l252 y252 z252
      refine own_gos st252 ?_
      obtain ⟨rfl, Nq252, K252, Fk252, Ft252⟩ := hQ252
      have f253 := (A245.safe A242.lt (Safe.ext E242 C0.1 (Safe.new (Nat.le_of_eq g242.symm))))
      have C254 := C246.trans (CHr.keep K252 (sfS f253 sf0) C246.1)
      have N252 := Fr.app N245 Nq252
      show own_Go p e below (T252.setTop (mkF m 98 #[.val (.int p1), .val (.int p2), .val (.int p3), .val (.int p4), .val (.int p5), .val (.int tk), .val (.int tl), .val (.int qk), .val (.int ql), .val (.int (1 : Int32)), .val (.int (1 : Int32)), .val (.int p2), .unset, .unset, .unset, .unset, .unset] [(.ref b242)])) _
      refine own_go (fun _ k => XS.astore X252.here hx rfl (hb hby at_98) rfl rfl (l' := #[.val (.int p1), .val (.int p2), .val (.int p3), .val (.int p4), .val (.int p5), .val (.int tk), .val (.int tl), .val (.int qk), .val (.int ql), .val (.int (1 : Int32)), .val (.int (1 : Int32)), .val (.int p2), .val (.ref b242), .unset, .unset, .unset, .unset]) rfl k) ?_
      show own_Go p e below (T252.setTop (mkF m 100 #[.val (.int p1), .val (.int p2), .val (.int p3), .val (.int p4), .val (.int p5), .val (.int tk), .val (.int tl), .val (.int qk), .val (.int ql), .val (.int (1 : Int32)), .val (.int (1 : Int32)), .val (.int p2), .val (.ref b242), .unset, .unset, .unset, .unset] [])) _
      refine own_go (fun _ k => XS.iload X252.here hx rfl (hb hby at_100) rfl k) ?_
      show own_Go p e below (T252.setTop (mkF m 102 #[.val (.int p1), .val (.int p2), .val (.int p3), .val (.int p4), .val (.int p5), .val (.int tk), .val (.int tl), .val (.int qk), .val (.int ql), .val (.int (1 : Int32)), .val (.int (1 : Int32)), .val (.int p2), .val (.ref b242), .unset, .unset, .unset, .unset] [(.int (1 : Int32))])) _
      refine own_go (fun _ k => XS.ifNo X252.here hx rfl (hb hby at_102) rfl ((if0 _ _).trans (feq (by decide : ¬ ((1 : Int32) = (0 : Int32)))).1) k) ?_
      show own_Go p e below (T252.setTop (mkF m 105 #[.val (.int p1), .val (.int p2), .val (.int p3), .val (.int p4), .val (.int p5), .val (.int tk), .val (.int tl), .val (.int qk), .val (.int ql), .val (.int (1 : Int32)), .val (.int (1 : Int32)), .val (.int p2), .val (.ref b242), .unset, .unset, .unset, .unset] [])) _
      refine own_go (fun _ k => XS.aconstNull X252.here hx rfl (hb hby at_105) k) ?_
      show own_Go p e below (T252.setTop (mkF m 106 #[.val (.int p1), .val (.int p2), .val (.int p3), .val (.int p4), .val (.int p5), .val (.int tk), .val (.int tl), .val (.int qk), .val (.int ql), .val (.int (1 : Int32)), .val (.int (1 : Int32)), .val (.int p2), .val (.ref b242), .unset, .unset, .unset, .unset] [.null])) _
      refine own_go (fun _ k => XS.goto X252.here hx rfl (pc0 := 106) (pc' := 116) rfl (hb hby at_106) (by decide) (by decide) k) ?_
      show own_Go p e below (T252.setTop (mkF m 116 #[.val (.int p1), .val (.int p2), .val (.int p3), .val (.int p4), .val (.int p5), .val (.int tk), .val (.int tl), .val (.int qk), .val (.int ql), .val (.int (1 : Int32)), .val (.int (1 : Int32)), .val (.int p2), .val (.ref b242), .unset, .unset, .unset, .unset] [.null])) _
      refine own_go (fun _ k => XS.astore X252.here hx rfl (hb hby at_116) rfl rfl (l' := #[.val (.int p1), .val (.int p2), .val (.int p3), .val (.int p4), .val (.int p5), .val (.int tk), .val (.int tl), .val (.int qk), .val (.int ql), .val (.int (1 : Int32)), .val (.int (1 : Int32)), .val (.int p2), .val (.ref b242), .val .null, .unset, .unset, .unset]) rfl k) ?_
      show own_Go p e below (T252.setTop (mkF m 118 #[.val (.int p1), .val (.int p2), .val (.int p3), .val (.int p4), .val (.int p5), .val (.int tk), .val (.int tl), .val (.int qk), .val (.int ql), .val (.int (1 : Int32)), .val (.int (1 : Int32)), .val (.int p2), .val (.ref b242), .val .null, .unset, .unset, .unset] [])) _
      refine own_go (fun _ k => XS.aload X252.here hx rfl (hb hby at_118) rfl rfl k) ?_
      show own_Go p e below (T252.setTop (mkF m 120 #[.val (.int p1), .val (.int p2), .val (.int p3), .val (.int p4), .val (.int p5), .val (.int tk), .val (.int tl), .val (.int qk), .val (.int ql), .val (.int (1 : Int32)), .val (.int (1 : Int32)), .val (.int p2), .val (.ref b242), .val .null, .unset, .unset, .unset] [(.ref b242)])) _
      refine own_go (fun _ k => XS.iload X252.here hx rfl (hb hby at_120) rfl k) ?_
      show own_Go p e below (T252.setTop (mkF m 122 #[.val (.int p1), .val (.int p2), .val (.int p3), .val (.int p4), .val (.int p5), .val (.int tk), .val (.int tl), .val (.int qk), .val (.int ql), .val (.int (1 : Int32)), .val (.int (1 : Int32)), .val (.int p2), .val (.ref b242), .val .null, .unset, .unset, .unset] [(.int qk), (.ref b242)])) _
      have f255 := (f251.keep K252 (allS (Nat.le_trans Z0 (Nat.le_of_eq g242.symm)) all0))
      obtain ⟨v256, _, ⟨T256, L256, k256, n256⟩, -, X256, ⟨Lc256, hQ256, l256, y256, z256⟩, st256⟩ := Jvm.LawKit.callS X252 hx (y := (⟨"com/example/sequela/sequela/TokenIsPinLaw", "kind", "(I)Lcom/example/sequela/sequela/Lexer$Kind;"⟩ : MethodName)) hown245 (mvT hZ245 (hw _ (List.mem_of_getElem? (i := 4) rfl))) (mvT hZ245 (hw _ (List.mem_of_getElem? (i := 5) rfl))) (mvT hZ245 (hw _ (List.mem_of_getElem? (i := 6) rfl))) (mvT hZ245 (hw _ (List.mem_of_getElem? (i := 7) rfl))) (by decide) (backOf (W := 1) (rm_kind l Z a0 hw [] qk z0 z1 z2 z3 z4 z5 T252.heap n0 f255 S0 S1 S2 S3 S4 S5) hZ245 (hw _ (List.mem_of_getElem? (i := 7) rfl)) (hw _ (List.mem_of_getElem? (i := 6) rfl)) (by decide) (by decide)) (g := (mkF m 122 #[.val (.int p1), .val (.int p2), .val (.int p3), .val (.int p4), .val (.int p5), .val (.int tk), .val (.int tl), .val (.int qk), .val (.int ql), .val (.int (1 : Int32)), .val (.int (1 : Int32)), .val (.int p2), .val (.ref b242), .val .null, .unset, .unset, .unset] [(.int qk), (.ref b242)])) rfl (by rw [hml]; rfl) (argsL := [(.int qk)]) (rest := [(.ref b242)]) (lenOf pd_4 rfl) rfl (by show 2 * 0 + _ ≤ _; exact Nat.le_of_eq rfl) (hb hby at_122) (fun _ _ => ⟨rfl, (rfl : T252.heap = T252.heap), (by decide : 7 + 0 ≤ _), (by decide : 15 + 0 ≤ _)⟩)
      dsimp only [Pt.U, Pt.locs, Pt.cells, Pt.slots] at X256 l256 y256 z256 st256 hQ256
      subst l256 y256 z256
      refine own_go st256 ?_
      obtain ⟨rfl, Nq256, e256⟩ := hQ256
      have N256 := Fr.app N252 Nq256
      show own_Go p e below (T256.setTop (mkF m 125 #[.val (.int p1), .val (.int p2), .val (.int p3), .val (.int p4), .val (.int p5), .val (.int tk), .val (.int tl), .val (.int qk), .val (.int ql), .val (.int (1 : Int32)), .val (.int (1 : Int32)), .val (.int p2), .val (.ref b242), .val .null, .unset, .unset, .unset] [(own_kind qk z0 z1 z2 z3 z4 z5), (.ref b242)])) _
      refine own_go (fun _ k => XS.aload X256.here hx rfl (hb hby at_125) rfl rfl k) ?_
      show own_Go p e below (T256.setTop (mkF m 127 #[.val (.int p1), .val (.int p2), .val (.int p3), .val (.int p4), .val (.int p5), .val (.int tk), .val (.int tl), .val (.int qk), .val (.int ql), .val (.int (1 : Int32)), .val (.int (1 : Int32)), .val (.int p2), .val (.ref b242), .val .null, .unset, .unset, .unset] [.null, (own_kind qk z0 z1 z2 z3 z4 z5), (.ref b242)])) _
      have ne257 : b242 ≠ x245 := Nat.ne_of_lt (Nat.lt_of_lt_of_le A242.lt xg245)
      have f258 := (Fv245.keep K252 (ninS (Ne.symm ne257) nin0))
      have f259 := (Fc245.keep K252 (ninS (Ne.symm ne257) nin0))
      have f260 := (Vt245.keep K252 (ninS (Ne.symm ne247) nin0))
      have f261 := ((A242.keep K245).keep K252)
      obtain ⟨cq262, kq262, q262a, q262b, q262c⟩ := isOf hZ245 e256 f261
      obtain ⟨v262, _, ⟨T262, L262, k262, n262⟩, -, X262, ⟨Lc262, hQ262, l262, y262, z262⟩, st262⟩ := X256.virtualBack hx (y := (⟨"com/example/sequela/sequela/Lexer$Token", "is", "(Lcom/example/sequela/sequela/Lexer$Kind;Ljava/lang/String;)Z"⟩ : MethodName)) (z := (⟨"com/example/sequela/sequela/Lexer$Token", "is", "(Lcom/example/sequela/sequela/Lexer$Kind;Ljava/lang/String;)Z"⟩ : MethodName)) hown245 (mvT hZ245 (hw _ (List.mem_of_getElem? (i := 53) rfl))) (mvT hZ245 (hw _ (List.mem_of_getElem? (i := 54) rfl))) (notFace_of_selects (args := #[]) (mvT hZ245 (hw _ (List.mem_of_getElem? (i := 56) rfl)))) (mvT hZ245 (hw _ (List.mem_of_getElem? (i := 56) rfl))) (mvT hZ245 (hw _ (List.mem_of_getElem? (i := 55) rfl))) (by decide) (backOf (W := 0) (rm_is0 l Z a0 hw [] b242 (own_kind tk z0 z1 z2 z3 z4 z5) (own_kind qk z0 z1 z2 z3 z4 z5) x245 t245 kt245 N2245 vs245 (own_text tl p2) T252.heap n0 f255 (own_kindR _ _ _ _ _ _ _) (own_kindR _ _ _ _ _ _ _) f261 Fk252 Ft252 (Ex245.keep K252) f258 f259 f260 hC245 (own_textB _ _) (own_textL _ _)) hZ245 (hw _ (List.mem_of_getElem? (i := 57) rfl)) (hw _ (List.mem_of_getElem? (i := 3) rfl)) (by decide) (by decide)) q262a q262c (g := (mkF m 127 #[.val (.int p1), .val (.int p2), .val (.int p3), .val (.int p4), .val (.int p5), .val (.int tk), .val (.int tl), .val (.int qk), .val (.int ql), .val (.int (1 : Int32)), .val (.int (1 : Int32)), .val (.int p2), .val (.ref b242), .val .null, .unset, .unset, .unset] [.null, (own_kind qk z0 z1 z2 z3 z4 z5), (.ref b242)])) rfl (by rw [hml]; rfl) (Steps.refl _) (argsL := [(own_kind qk z0 z1 z2 z3 z4 z5), .null]) (rest := []) (lenOf pd_7 rfl) rfl (by show 2 * 0 + _ ≤ _; exact Nat.le_of_eq rfl) (hb hby at_127) (fun _ _ => ⟨rfl, e256, (by decide : 7 + 0 ≤ _), (by decide : 15 + 0 ≤ _)⟩)
      dsimp only [Pt.U, Pt.locs, Pt.cells, Pt.slots] at X262 l262 y262 z262 st262 hQ262
      subst l262 y262 z262
      refine own_gos st262 ?_
      obtain ⟨rfl, Nq262, e262⟩ := hQ262
      have N262 := Fr.app N256 Nq262
      show own_Go p e below (T262.setTop (mkF m 130 #[.val (.int p1), .val (.int p2), .val (.int p3), .val (.int p4), .val (.int p5), .val (.int tk), .val (.int tl), .val (.int qk), .val (.int ql), .val (.int (1 : Int32)), .val (.int (1 : Int32)), .val (.int p2), .val (.ref b242), .val .null, .unset, .unset, .unset] [(.int (0 : Int32))])) _
      refine own_go (fun _ k => XS.istore X262.here hx rfl (hb hby at_130) rfl (l' := #[.val (.int p1), .val (.int p2), .val (.int p3), .val (.int p4), .val (.int p5), .val (.int tk), .val (.int tl), .val (.int qk), .val (.int ql), .val (.int (1 : Int32)), .val (.int (1 : Int32)), .val (.int p2), .val (.ref b242), .val .null, .val (.int (0 : Int32)), .unset, .unset]) rfl k) ?_
      show own_Go p e below (T262.setTop (mkF m 132 #[.val (.int p1), .val (.int p2), .val (.int p3), .val (.int p4), .val (.int p5), .val (.int tk), .val (.int tl), .val (.int qk), .val (.int ql), .val (.int (1 : Int32)), .val (.int (1 : Int32)), .val (.int p2), .val (.ref b242), .val .null, .val (.int (0 : Int32)), .unset, .unset] [])) _
      refine own_go (fun _ k => XS.iload X262.here hx rfl (hb hby at_132) rfl k) ?_
      show own_Go p e below (T262.setTop (mkF m 134 #[.val (.int p1), .val (.int p2), .val (.int p3), .val (.int p4), .val (.int p5), .val (.int tk), .val (.int tl), .val (.int qk), .val (.int ql), .val (.int (1 : Int32)), .val (.int (1 : Int32)), .val (.int p2), .val (.ref b242), .val .null, .val (.int (0 : Int32)), .unset, .unset] [(.int tl)])) _
      by_cases hc263 : tl = (0 : Int32)
      · skip
        refine own_go (fun _ k => XS.ifNo X262.here hx rfl (hb hby at_134) rfl ((if0 _ _).trans (teq hc263).2) k) ?_
        show own_Go p e below (T262.setTop (mkF m 137 #[.val (.int p1), .val (.int p2), .val (.int p3), .val (.int p4), .val (.int p5), .val (.int tk), .val (.int tl), .val (.int qk), .val (.int ql), .val (.int (1 : Int32)), .val (.int (1 : Int32)), .val (.int p2), .val (.ref b242), .val .null, .val (.int (0 : Int32)), .unset, .unset] [])) _
        refine own_go (fun _ k => XS.iconst X262.here hx rfl (hb hby at_137) k) ?_
        show own_Go p e below (T262.setTop (mkF m 138 #[.val (.int p1), .val (.int p2), .val (.int p3), .val (.int p4), .val (.int p5), .val (.int tk), .val (.int tl), .val (.int qk), .val (.int ql), .val (.int (1 : Int32)), .val (.int (1 : Int32)), .val (.int p2), .val (.ref b242), .val .null, .val (.int (0 : Int32)), .unset, .unset] [(.int (0 : Int32))])) _
        refine own_go (fun _ k => XS.goto X262.here hx rfl (pc0 := 138) (pc' := 166) rfl (hb hby at_138) (by decide) (by decide) k) ?_
        show own_Go p e below (T262.setTop (mkF m 166 #[.val (.int p1), .val (.int p2), .val (.int p3), .val (.int p4), .val (.int p5), .val (.int tk), .val (.int tl), .val (.int qk), .val (.int ql), .val (.int (1 : Int32)), .val (.int (1 : Int32)), .val (.int p2), .val (.ref b242), .val .null, .val (.int (0 : Int32)), .unset, .unset] [(.int (0 : Int32))])) _
        refine own_go (fun _ k => XS.istore X262.here hx rfl (hb hby at_166) rfl (l' := #[.val (.int p1), .val (.int p2), .val (.int p3), .val (.int p4), .val (.int p5), .val (.int tk), .val (.int tl), .val (.int qk), .val (.int ql), .val (.int (1 : Int32)), .val (.int (1 : Int32)), .val (.int p2), .val (.ref b242), .val .null, .val (.int (0 : Int32)), .val (.int (0 : Int32)), .unset]) rfl k) ?_
        show own_Go p e below (T262.setTop (mkF m 168 #[.val (.int p1), .val (.int p2), .val (.int p3), .val (.int p4), .val (.int p5), .val (.int tk), .val (.int tl), .val (.int qk), .val (.int ql), .val (.int (1 : Int32)), .val (.int (1 : Int32)), .val (.int p2), .val (.ref b242), .val .null, .val (.int (0 : Int32)), .val (.int (0 : Int32)), .unset] [])) _
        refine own_go (fun _ k => XS.iload X262.here hx rfl (hb hby at_168) rfl k) ?_
        show own_Go p e below (T262.setTop (mkF m 170 #[.val (.int p1), .val (.int p2), .val (.int p3), .val (.int p4), .val (.int p5), .val (.int tk), .val (.int tl), .val (.int qk), .val (.int ql), .val (.int (1 : Int32)), .val (.int (1 : Int32)), .val (.int p2), .val (.ref b242), .val .null, .val (.int (0 : Int32)), .val (.int (0 : Int32)), .unset] [(.int qk)])) _
        refine own_go (fun _ k => XS.iload X262.here hx rfl (hb hby at_170) rfl k) ?_
        show own_Go p e below (T262.setTop (mkF m 172 #[.val (.int p1), .val (.int p2), .val (.int p3), .val (.int p4), .val (.int p5), .val (.int tk), .val (.int tl), .val (.int qk), .val (.int ql), .val (.int (1 : Int32)), .val (.int (1 : Int32)), .val (.int p2), .val (.ref b242), .val .null, .val (.int (0 : Int32)), .val (.int (0 : Int32)), .unset] [(.int tk), (.int qk)])) _
        by_cases hc264 : qk = tk
        · skip
          refine own_go (fun _ k => XS.icmpNo X262.here hx rfl (hb hby at_172) rfl (teq hc264).2 k) ?_
          show own_Go p e below (T262.setTop (mkF m 175 #[.val (.int p1), .val (.int p2), .val (.int p3), .val (.int p4), .val (.int p5), .val (.int tk), .val (.int tl), .val (.int qk), .val (.int ql), .val (.int (1 : Int32)), .val (.int (1 : Int32)), .val (.int p2), .val (.ref b242), .val .null, .val (.int (0 : Int32)), .val (.int (0 : Int32)), .unset] [])) _
          refine own_go (fun _ k => XS.iload X262.here hx rfl (hb hby at_175) rfl k) ?_
          show own_Go p e below (T262.setTop (mkF m 177 #[.val (.int p1), .val (.int p2), .val (.int p3), .val (.int p4), .val (.int p5), .val (.int tk), .val (.int tl), .val (.int qk), .val (.int ql), .val (.int (1 : Int32)), .val (.int (1 : Int32)), .val (.int p2), .val (.ref b242), .val .null, .val (.int (0 : Int32)), .val (.int (0 : Int32)), .unset] [(.int (1 : Int32))])) _
          refine own_go (fun _ k => XS.ifYes X262.here hx rfl (pc0 := 177) (pc' := 201) rfl (hb hby at_177) rfl ((if0 _ _).trans (feq (by decide : ¬ ((1 : Int32) = (0 : Int32)))).2) (by decide) (by decide) k) ?_
          show own_Go p e below (T262.setTop (mkF m 201 #[.val (.int p1), .val (.int p2), .val (.int p3), .val (.int p4), .val (.int p5), .val (.int tk), .val (.int tl), .val (.int qk), .val (.int ql), .val (.int (1 : Int32)), .val (.int (1 : Int32)), .val (.int p2), .val (.ref b242), .val .null, .val (.int (0 : Int32)), .val (.int (0 : Int32)), .unset] [])) _
          refine own_go (fun _ k => XS.iconst X262.here hx rfl (hb hby at_201) k) ?_
          show own_Go p e below (T262.setTop (mkF m 202 #[.val (.int p1), .val (.int p2), .val (.int p3), .val (.int p4), .val (.int p5), .val (.int tk), .val (.int tl), .val (.int qk), .val (.int ql), .val (.int (1 : Int32)), .val (.int (1 : Int32)), .val (.int p2), .val (.ref b242), .val .null, .val (.int (0 : Int32)), .val (.int (0 : Int32)), .unset] [(.int (0 : Int32))])) _
          refine own_go (fun _ k => XS.istore X262.here hx rfl (hb hby at_202) rfl (l' := #[.val (.int p1), .val (.int p2), .val (.int p3), .val (.int p4), .val (.int p5), .val (.int tk), .val (.int tl), .val (.int qk), .val (.int ql), .val (.int (1 : Int32)), .val (.int (1 : Int32)), .val (.int p2), .val (.ref b242), .val .null, .val (.int (0 : Int32)), .val (.int (0 : Int32)), .val (.int (0 : Int32))]) rfl k) ?_
          show own_Go p e below (T262.setTop (mkF m 204 #[.val (.int p1), .val (.int p2), .val (.int p3), .val (.int p4), .val (.int p5), .val (.int tk), .val (.int tl), .val (.int qk), .val (.int ql), .val (.int (1 : Int32)), .val (.int (1 : Int32)), .val (.int p2), .val (.ref b242), .val .null, .val (.int (0 : Int32)), .val (.int (0 : Int32)), .val (.int (0 : Int32))] [])) _
          refine own_go (fun _ k => XS.iload X262.here hx rfl (hb hby at_204) rfl k) ?_
          show own_Go p e below (T262.setTop (mkF m 206 #[.val (.int p1), .val (.int p2), .val (.int p3), .val (.int p4), .val (.int p5), .val (.int tk), .val (.int tl), .val (.int qk), .val (.int ql), .val (.int (1 : Int32)), .val (.int (1 : Int32)), .val (.int p2), .val (.ref b242), .val .null, .val (.int (0 : Int32)), .val (.int (0 : Int32)), .val (.int (0 : Int32))] [(.int (0 : Int32))])) _
          refine own_go (fun _ k => XS.iload X262.here hx rfl (hb hby at_206) rfl k) ?_
          show own_Go p e below (T262.setTop (mkF m 208 #[.val (.int p1), .val (.int p2), .val (.int p3), .val (.int p4), .val (.int p5), .val (.int tk), .val (.int tl), .val (.int qk), .val (.int ql), .val (.int (1 : Int32)), .val (.int (1 : Int32)), .val (.int p2), .val (.ref b242), .val .null, .val (.int (0 : Int32)), .val (.int (0 : Int32)), .val (.int (0 : Int32))] [(.int (0 : Int32)), (.int (0 : Int32))])) _
          refine own_go (fun _ k => XS.icmpNo X262.here hx rfl (hb hby at_208) rfl (teq (by decide : (0 : Int32) = (0 : Int32))).2 k) ?_
          show own_Go p e below (T262.setTop (mkF m 211 #[.val (.int p1), .val (.int p2), .val (.int p3), .val (.int p4), .val (.int p5), .val (.int tk), .val (.int tl), .val (.int qk), .val (.int ql), .val (.int (1 : Int32)), .val (.int (1 : Int32)), .val (.int p2), .val (.ref b242), .val .null, .val (.int (0 : Int32)), .val (.int (0 : Int32)), .val (.int (0 : Int32))] [])) _
          refine own_go (fun _ k => XS.iconst X262.here hx rfl (hb hby at_211) k) ?_
          show own_Go p e below (T262.setTop (mkF m 212 #[.val (.int p1), .val (.int p2), .val (.int p3), .val (.int p4), .val (.int p5), .val (.int tk), .val (.int tl), .val (.int qk), .val (.int ql), .val (.int (1 : Int32)), .val (.int (1 : Int32)), .val (.int p2), .val (.ref b242), .val .null, .val (.int (0 : Int32)), .val (.int (0 : Int32)), .val (.int (0 : Int32))] [(.int (1 : Int32))])) _
          refine own_go (fun _ k => XS.goto X262.here hx rfl (pc0 := 212) (pc' := 216) rfl (hb hby at_212) (by decide) (by decide) k) ?_
          show own_Go p e below (T262.setTop (mkF m 216 #[.val (.int p1), .val (.int p2), .val (.int p3), .val (.int p4), .val (.int p5), .val (.int tk), .val (.int tl), .val (.int qk), .val (.int ql), .val (.int (1 : Int32)), .val (.int (1 : Int32)), .val (.int p2), .val (.ref b242), .val .null, .val (.int (0 : Int32)), .val (.int (0 : Int32)), .val (.int (0 : Int32))] [(.int (1 : Int32))])) _
          refine own_finW (v := (some (.int (nar .boolean (1 : Int32))))) X262 hh hZ245 hS245 (by rw [e262]; exact (Nat.le_trans (Nat.le_refl _) K252.1)) (fun h => by rw [hrt] at h; cases h) hlk (fun fs hr => retN X262 hx (t := .boolean) hrt (by simp) (hb hby at_216) hr) (QQ := QQ0 n0) ?_ own_hEL e262 (C254) (by decide) (by decide)
          rw [e262]
          exact ⟨rfl, N262⟩
        · skip
          refine own_go (fun _ k => XS.icmpYes X262.here hx rfl (pc0 := 172) (pc' := 201) rfl (hb hby at_172) rfl (feq hc264).2 (by decide) (by decide) k) ?_
          show own_Go p e below (T262.setTop (mkF m 201 #[.val (.int p1), .val (.int p2), .val (.int p3), .val (.int p4), .val (.int p5), .val (.int tk), .val (.int tl), .val (.int qk), .val (.int ql), .val (.int (1 : Int32)), .val (.int (1 : Int32)), .val (.int p2), .val (.ref b242), .val .null, .val (.int (0 : Int32)), .val (.int (0 : Int32)), .unset] [])) _
          refine own_go (fun _ k => XS.iconst X262.here hx rfl (hb hby at_201) k) ?_
          show own_Go p e below (T262.setTop (mkF m 202 #[.val (.int p1), .val (.int p2), .val (.int p3), .val (.int p4), .val (.int p5), .val (.int tk), .val (.int tl), .val (.int qk), .val (.int ql), .val (.int (1 : Int32)), .val (.int (1 : Int32)), .val (.int p2), .val (.ref b242), .val .null, .val (.int (0 : Int32)), .val (.int (0 : Int32)), .unset] [(.int (0 : Int32))])) _
          refine own_go (fun _ k => XS.istore X262.here hx rfl (hb hby at_202) rfl (l' := #[.val (.int p1), .val (.int p2), .val (.int p3), .val (.int p4), .val (.int p5), .val (.int tk), .val (.int tl), .val (.int qk), .val (.int ql), .val (.int (1 : Int32)), .val (.int (1 : Int32)), .val (.int p2), .val (.ref b242), .val .null, .val (.int (0 : Int32)), .val (.int (0 : Int32)), .val (.int (0 : Int32))]) rfl k) ?_
          show own_Go p e below (T262.setTop (mkF m 204 #[.val (.int p1), .val (.int p2), .val (.int p3), .val (.int p4), .val (.int p5), .val (.int tk), .val (.int tl), .val (.int qk), .val (.int ql), .val (.int (1 : Int32)), .val (.int (1 : Int32)), .val (.int p2), .val (.ref b242), .val .null, .val (.int (0 : Int32)), .val (.int (0 : Int32)), .val (.int (0 : Int32))] [])) _
          refine own_go (fun _ k => XS.iload X262.here hx rfl (hb hby at_204) rfl k) ?_
          show own_Go p e below (T262.setTop (mkF m 206 #[.val (.int p1), .val (.int p2), .val (.int p3), .val (.int p4), .val (.int p5), .val (.int tk), .val (.int tl), .val (.int qk), .val (.int ql), .val (.int (1 : Int32)), .val (.int (1 : Int32)), .val (.int p2), .val (.ref b242), .val .null, .val (.int (0 : Int32)), .val (.int (0 : Int32)), .val (.int (0 : Int32))] [(.int (0 : Int32))])) _
          refine own_go (fun _ k => XS.iload X262.here hx rfl (hb hby at_206) rfl k) ?_
          show own_Go p e below (T262.setTop (mkF m 208 #[.val (.int p1), .val (.int p2), .val (.int p3), .val (.int p4), .val (.int p5), .val (.int tk), .val (.int tl), .val (.int qk), .val (.int ql), .val (.int (1 : Int32)), .val (.int (1 : Int32)), .val (.int p2), .val (.ref b242), .val .null, .val (.int (0 : Int32)), .val (.int (0 : Int32)), .val (.int (0 : Int32))] [(.int (0 : Int32)), (.int (0 : Int32))])) _
          refine own_go (fun _ k => XS.icmpNo X262.here hx rfl (hb hby at_208) rfl (teq (by decide : (0 : Int32) = (0 : Int32))).2 k) ?_
          show own_Go p e below (T262.setTop (mkF m 211 #[.val (.int p1), .val (.int p2), .val (.int p3), .val (.int p4), .val (.int p5), .val (.int tk), .val (.int tl), .val (.int qk), .val (.int ql), .val (.int (1 : Int32)), .val (.int (1 : Int32)), .val (.int p2), .val (.ref b242), .val .null, .val (.int (0 : Int32)), .val (.int (0 : Int32)), .val (.int (0 : Int32))] [])) _
          refine own_go (fun _ k => XS.iconst X262.here hx rfl (hb hby at_211) k) ?_
          show own_Go p e below (T262.setTop (mkF m 212 #[.val (.int p1), .val (.int p2), .val (.int p3), .val (.int p4), .val (.int p5), .val (.int tk), .val (.int tl), .val (.int qk), .val (.int ql), .val (.int (1 : Int32)), .val (.int (1 : Int32)), .val (.int p2), .val (.ref b242), .val .null, .val (.int (0 : Int32)), .val (.int (0 : Int32)), .val (.int (0 : Int32))] [(.int (1 : Int32))])) _
          refine own_go (fun _ k => XS.goto X262.here hx rfl (pc0 := 212) (pc' := 216) rfl (hb hby at_212) (by decide) (by decide) k) ?_
          show own_Go p e below (T262.setTop (mkF m 216 #[.val (.int p1), .val (.int p2), .val (.int p3), .val (.int p4), .val (.int p5), .val (.int tk), .val (.int tl), .val (.int qk), .val (.int ql), .val (.int (1 : Int32)), .val (.int (1 : Int32)), .val (.int p2), .val (.ref b242), .val .null, .val (.int (0 : Int32)), .val (.int (0 : Int32)), .val (.int (0 : Int32))] [(.int (1 : Int32))])) _
          refine own_finW (v := (some (.int (nar .boolean (1 : Int32))))) X262 hh hZ245 hS245 (by rw [e262]; exact (Nat.le_trans (Nat.le_refl _) K252.1)) (fun h => by rw [hrt] at h; cases h) hlk (fun fs hr => retN X262 hx (t := .boolean) hrt (by simp) (hb hby at_216) hr) (QQ := QQ0 n0) ?_ own_hEL e262 (C254) (by decide) (by decide)
          rw [e262]
          exact ⟨rfl, N262⟩
      · skip
        refine own_go (fun _ k => XS.ifYes X262.here hx rfl (pc0 := 134) (pc' := 141) rfl (hb hby at_134) rfl ((if0 _ _).trans (feq hc263).2) (by decide) (by decide) k) ?_
        show own_Go p e below (T262.setTop (mkF m 141 #[.val (.int p1), .val (.int p2), .val (.int p3), .val (.int p4), .val (.int p5), .val (.int tk), .val (.int tl), .val (.int qk), .val (.int ql), .val (.int (1 : Int32)), .val (.int (1 : Int32)), .val (.int p2), .val (.ref b242), .val .null, .val (.int (0 : Int32)), .unset, .unset] [])) _
        refine own_go (fun _ k => XS.iload X262.here hx rfl (hb hby at_141) rfl k) ?_
        show own_Go p e below (T262.setTop (mkF m 143 #[.val (.int p1), .val (.int p2), .val (.int p3), .val (.int p4), .val (.int p5), .val (.int tk), .val (.int tl), .val (.int qk), .val (.int ql), .val (.int (1 : Int32)), .val (.int (1 : Int32)), .val (.int p2), .val (.ref b242), .val .null, .val (.int (0 : Int32)), .unset, .unset] [(.int tl)])) _
        refine own_go (fun _ k => XS.iconst X262.here hx rfl (hb hby at_143) k) ?_
        show own_Go p e below (T262.setTop (mkF m 144 #[.val (.int p1), .val (.int p2), .val (.int p3), .val (.int p4), .val (.int p5), .val (.int tk), .val (.int tl), .val (.int qk), .val (.int ql), .val (.int (1 : Int32)), .val (.int (1 : Int32)), .val (.int p2), .val (.ref b242), .val .null, .val (.int (0 : Int32)), .unset, .unset] [(.int (1 : Int32)), (.int tl)])) _
        by_cases hc265 : tl = (1 : Int32)
        · skip
          refine own_go (fun _ k => XS.icmpNo X262.here hx rfl (hb hby at_144) rfl (teq hc265).2 k) ?_
          show own_Go p e below (T262.setTop (mkF m 147 #[.val (.int p1), .val (.int p2), .val (.int p3), .val (.int p4), .val (.int p5), .val (.int tk), .val (.int tl), .val (.int qk), .val (.int ql), .val (.int (1 : Int32)), .val (.int (1 : Int32)), .val (.int p2), .val (.ref b242), .val .null, .val (.int (0 : Int32)), .unset, .unset] [])) _
          refine own_go (fun _ k => XS.sipush X262.here hx rfl (hb hby at_147) k) ?_
          show own_Go p e below (T262.setTop (mkF m 150 #[.val (.int p1), .val (.int p2), .val (.int p3), .val (.int p4), .val (.int p5), .val (.int tk), .val (.int tl), .val (.int qk), .val (.int ql), .val (.int (1 : Int32)), .val (.int (1 : Int32)), .val (.int p2), .val (.ref b242), .val .null, .val (.int (0 : Int32)), .unset, .unset] [(.int (255 : Int32))])) _
          refine own_go (fun _ k => XS.goto X262.here hx rfl (pc0 := 150) (pc' := 166) rfl (hb hby at_150) (by decide) (by decide) k) ?_
          show own_Go p e below (T262.setTop (mkF m 166 #[.val (.int p1), .val (.int p2), .val (.int p3), .val (.int p4), .val (.int p5), .val (.int tk), .val (.int tl), .val (.int qk), .val (.int ql), .val (.int (1 : Int32)), .val (.int (1 : Int32)), .val (.int p2), .val (.ref b242), .val .null, .val (.int (0 : Int32)), .unset, .unset] [(.int (255 : Int32))])) _
          refine own_go (fun _ k => XS.istore X262.here hx rfl (hb hby at_166) rfl (l' := #[.val (.int p1), .val (.int p2), .val (.int p3), .val (.int p4), .val (.int p5), .val (.int tk), .val (.int tl), .val (.int qk), .val (.int ql), .val (.int (1 : Int32)), .val (.int (1 : Int32)), .val (.int p2), .val (.ref b242), .val .null, .val (.int (0 : Int32)), .val (.int (255 : Int32)), .unset]) rfl k) ?_
          show own_Go p e below (T262.setTop (mkF m 168 #[.val (.int p1), .val (.int p2), .val (.int p3), .val (.int p4), .val (.int p5), .val (.int tk), .val (.int tl), .val (.int qk), .val (.int ql), .val (.int (1 : Int32)), .val (.int (1 : Int32)), .val (.int p2), .val (.ref b242), .val .null, .val (.int (0 : Int32)), .val (.int (255 : Int32)), .unset] [])) _
          refine own_go (fun _ k => XS.iload X262.here hx rfl (hb hby at_168) rfl k) ?_
          show own_Go p e below (T262.setTop (mkF m 170 #[.val (.int p1), .val (.int p2), .val (.int p3), .val (.int p4), .val (.int p5), .val (.int tk), .val (.int tl), .val (.int qk), .val (.int ql), .val (.int (1 : Int32)), .val (.int (1 : Int32)), .val (.int p2), .val (.ref b242), .val .null, .val (.int (0 : Int32)), .val (.int (255 : Int32)), .unset] [(.int qk)])) _
          refine own_go (fun _ k => XS.iload X262.here hx rfl (hb hby at_170) rfl k) ?_
          show own_Go p e below (T262.setTop (mkF m 172 #[.val (.int p1), .val (.int p2), .val (.int p3), .val (.int p4), .val (.int p5), .val (.int tk), .val (.int tl), .val (.int qk), .val (.int ql), .val (.int (1 : Int32)), .val (.int (1 : Int32)), .val (.int p2), .val (.ref b242), .val .null, .val (.int (0 : Int32)), .val (.int (255 : Int32)), .unset] [(.int tk), (.int qk)])) _
          by_cases hc266 : qk = tk
          · skip
            refine own_go (fun _ k => XS.icmpNo X262.here hx rfl (hb hby at_172) rfl (teq hc266).2 k) ?_
            show own_Go p e below (T262.setTop (mkF m 175 #[.val (.int p1), .val (.int p2), .val (.int p3), .val (.int p4), .val (.int p5), .val (.int tk), .val (.int tl), .val (.int qk), .val (.int ql), .val (.int (1 : Int32)), .val (.int (1 : Int32)), .val (.int p2), .val (.ref b242), .val .null, .val (.int (0 : Int32)), .val (.int (255 : Int32)), .unset] [])) _
            refine own_go (fun _ k => XS.iload X262.here hx rfl (hb hby at_175) rfl k) ?_
            show own_Go p e below (T262.setTop (mkF m 177 #[.val (.int p1), .val (.int p2), .val (.int p3), .val (.int p4), .val (.int p5), .val (.int tk), .val (.int tl), .val (.int qk), .val (.int ql), .val (.int (1 : Int32)), .val (.int (1 : Int32)), .val (.int p2), .val (.ref b242), .val .null, .val (.int (0 : Int32)), .val (.int (255 : Int32)), .unset] [(.int (1 : Int32))])) _
            refine own_go (fun _ k => XS.ifYes X262.here hx rfl (pc0 := 177) (pc' := 201) rfl (hb hby at_177) rfl ((if0 _ _).trans (feq (by decide : ¬ ((1 : Int32) = (0 : Int32)))).2) (by decide) (by decide) k) ?_
            show own_Go p e below (T262.setTop (mkF m 201 #[.val (.int p1), .val (.int p2), .val (.int p3), .val (.int p4), .val (.int p5), .val (.int tk), .val (.int tl), .val (.int qk), .val (.int ql), .val (.int (1 : Int32)), .val (.int (1 : Int32)), .val (.int p2), .val (.ref b242), .val .null, .val (.int (0 : Int32)), .val (.int (255 : Int32)), .unset] [])) _
            refine own_go (fun _ k => XS.iconst X262.here hx rfl (hb hby at_201) k) ?_
            show own_Go p e below (T262.setTop (mkF m 202 #[.val (.int p1), .val (.int p2), .val (.int p3), .val (.int p4), .val (.int p5), .val (.int tk), .val (.int tl), .val (.int qk), .val (.int ql), .val (.int (1 : Int32)), .val (.int (1 : Int32)), .val (.int p2), .val (.ref b242), .val .null, .val (.int (0 : Int32)), .val (.int (255 : Int32)), .unset] [(.int (0 : Int32))])) _
            refine own_go (fun _ k => XS.istore X262.here hx rfl (hb hby at_202) rfl (l' := #[.val (.int p1), .val (.int p2), .val (.int p3), .val (.int p4), .val (.int p5), .val (.int tk), .val (.int tl), .val (.int qk), .val (.int ql), .val (.int (1 : Int32)), .val (.int (1 : Int32)), .val (.int p2), .val (.ref b242), .val .null, .val (.int (0 : Int32)), .val (.int (255 : Int32)), .val (.int (0 : Int32))]) rfl k) ?_
            show own_Go p e below (T262.setTop (mkF m 204 #[.val (.int p1), .val (.int p2), .val (.int p3), .val (.int p4), .val (.int p5), .val (.int tk), .val (.int tl), .val (.int qk), .val (.int ql), .val (.int (1 : Int32)), .val (.int (1 : Int32)), .val (.int p2), .val (.ref b242), .val .null, .val (.int (0 : Int32)), .val (.int (255 : Int32)), .val (.int (0 : Int32))] [])) _
            refine own_go (fun _ k => XS.iload X262.here hx rfl (hb hby at_204) rfl k) ?_
            show own_Go p e below (T262.setTop (mkF m 206 #[.val (.int p1), .val (.int p2), .val (.int p3), .val (.int p4), .val (.int p5), .val (.int tk), .val (.int tl), .val (.int qk), .val (.int ql), .val (.int (1 : Int32)), .val (.int (1 : Int32)), .val (.int p2), .val (.ref b242), .val .null, .val (.int (0 : Int32)), .val (.int (255 : Int32)), .val (.int (0 : Int32))] [(.int (0 : Int32))])) _
            refine own_go (fun _ k => XS.iload X262.here hx rfl (hb hby at_206) rfl k) ?_
            show own_Go p e below (T262.setTop (mkF m 208 #[.val (.int p1), .val (.int p2), .val (.int p3), .val (.int p4), .val (.int p5), .val (.int tk), .val (.int tl), .val (.int qk), .val (.int ql), .val (.int (1 : Int32)), .val (.int (1 : Int32)), .val (.int p2), .val (.ref b242), .val .null, .val (.int (0 : Int32)), .val (.int (255 : Int32)), .val (.int (0 : Int32))] [(.int (0 : Int32)), (.int (0 : Int32))])) _
            refine own_go (fun _ k => XS.icmpNo X262.here hx rfl (hb hby at_208) rfl (teq (by decide : (0 : Int32) = (0 : Int32))).2 k) ?_
            show own_Go p e below (T262.setTop (mkF m 211 #[.val (.int p1), .val (.int p2), .val (.int p3), .val (.int p4), .val (.int p5), .val (.int tk), .val (.int tl), .val (.int qk), .val (.int ql), .val (.int (1 : Int32)), .val (.int (1 : Int32)), .val (.int p2), .val (.ref b242), .val .null, .val (.int (0 : Int32)), .val (.int (255 : Int32)), .val (.int (0 : Int32))] [])) _
            refine own_go (fun _ k => XS.iconst X262.here hx rfl (hb hby at_211) k) ?_
            show own_Go p e below (T262.setTop (mkF m 212 #[.val (.int p1), .val (.int p2), .val (.int p3), .val (.int p4), .val (.int p5), .val (.int tk), .val (.int tl), .val (.int qk), .val (.int ql), .val (.int (1 : Int32)), .val (.int (1 : Int32)), .val (.int p2), .val (.ref b242), .val .null, .val (.int (0 : Int32)), .val (.int (255 : Int32)), .val (.int (0 : Int32))] [(.int (1 : Int32))])) _
            refine own_go (fun _ k => XS.goto X262.here hx rfl (pc0 := 212) (pc' := 216) rfl (hb hby at_212) (by decide) (by decide) k) ?_
            show own_Go p e below (T262.setTop (mkF m 216 #[.val (.int p1), .val (.int p2), .val (.int p3), .val (.int p4), .val (.int p5), .val (.int tk), .val (.int tl), .val (.int qk), .val (.int ql), .val (.int (1 : Int32)), .val (.int (1 : Int32)), .val (.int p2), .val (.ref b242), .val .null, .val (.int (0 : Int32)), .val (.int (255 : Int32)), .val (.int (0 : Int32))] [(.int (1 : Int32))])) _
            refine own_finW (v := (some (.int (nar .boolean (1 : Int32))))) X262 hh hZ245 hS245 (by rw [e262]; exact (Nat.le_trans (Nat.le_refl _) K252.1)) (fun h => by rw [hrt] at h; cases h) hlk (fun fs hr => retN X262 hx (t := .boolean) hrt (by simp) (hb hby at_216) hr) (QQ := QQ0 n0) ?_ own_hEL e262 (C254) (by decide) (by decide)
            rw [e262]
            exact ⟨rfl, N262⟩
          · skip
            refine own_go (fun _ k => XS.icmpYes X262.here hx rfl (pc0 := 172) (pc' := 201) rfl (hb hby at_172) rfl (feq hc266).2 (by decide) (by decide) k) ?_
            show own_Go p e below (T262.setTop (mkF m 201 #[.val (.int p1), .val (.int p2), .val (.int p3), .val (.int p4), .val (.int p5), .val (.int tk), .val (.int tl), .val (.int qk), .val (.int ql), .val (.int (1 : Int32)), .val (.int (1 : Int32)), .val (.int p2), .val (.ref b242), .val .null, .val (.int (0 : Int32)), .val (.int (255 : Int32)), .unset] [])) _
            refine own_go (fun _ k => XS.iconst X262.here hx rfl (hb hby at_201) k) ?_
            show own_Go p e below (T262.setTop (mkF m 202 #[.val (.int p1), .val (.int p2), .val (.int p3), .val (.int p4), .val (.int p5), .val (.int tk), .val (.int tl), .val (.int qk), .val (.int ql), .val (.int (1 : Int32)), .val (.int (1 : Int32)), .val (.int p2), .val (.ref b242), .val .null, .val (.int (0 : Int32)), .val (.int (255 : Int32)), .unset] [(.int (0 : Int32))])) _
            refine own_go (fun _ k => XS.istore X262.here hx rfl (hb hby at_202) rfl (l' := #[.val (.int p1), .val (.int p2), .val (.int p3), .val (.int p4), .val (.int p5), .val (.int tk), .val (.int tl), .val (.int qk), .val (.int ql), .val (.int (1 : Int32)), .val (.int (1 : Int32)), .val (.int p2), .val (.ref b242), .val .null, .val (.int (0 : Int32)), .val (.int (255 : Int32)), .val (.int (0 : Int32))]) rfl k) ?_
            show own_Go p e below (T262.setTop (mkF m 204 #[.val (.int p1), .val (.int p2), .val (.int p3), .val (.int p4), .val (.int p5), .val (.int tk), .val (.int tl), .val (.int qk), .val (.int ql), .val (.int (1 : Int32)), .val (.int (1 : Int32)), .val (.int p2), .val (.ref b242), .val .null, .val (.int (0 : Int32)), .val (.int (255 : Int32)), .val (.int (0 : Int32))] [])) _
            refine own_go (fun _ k => XS.iload X262.here hx rfl (hb hby at_204) rfl k) ?_
            show own_Go p e below (T262.setTop (mkF m 206 #[.val (.int p1), .val (.int p2), .val (.int p3), .val (.int p4), .val (.int p5), .val (.int tk), .val (.int tl), .val (.int qk), .val (.int ql), .val (.int (1 : Int32)), .val (.int (1 : Int32)), .val (.int p2), .val (.ref b242), .val .null, .val (.int (0 : Int32)), .val (.int (255 : Int32)), .val (.int (0 : Int32))] [(.int (0 : Int32))])) _
            refine own_go (fun _ k => XS.iload X262.here hx rfl (hb hby at_206) rfl k) ?_
            show own_Go p e below (T262.setTop (mkF m 208 #[.val (.int p1), .val (.int p2), .val (.int p3), .val (.int p4), .val (.int p5), .val (.int tk), .val (.int tl), .val (.int qk), .val (.int ql), .val (.int (1 : Int32)), .val (.int (1 : Int32)), .val (.int p2), .val (.ref b242), .val .null, .val (.int (0 : Int32)), .val (.int (255 : Int32)), .val (.int (0 : Int32))] [(.int (0 : Int32)), (.int (0 : Int32))])) _
            refine own_go (fun _ k => XS.icmpNo X262.here hx rfl (hb hby at_208) rfl (teq (by decide : (0 : Int32) = (0 : Int32))).2 k) ?_
            show own_Go p e below (T262.setTop (mkF m 211 #[.val (.int p1), .val (.int p2), .val (.int p3), .val (.int p4), .val (.int p5), .val (.int tk), .val (.int tl), .val (.int qk), .val (.int ql), .val (.int (1 : Int32)), .val (.int (1 : Int32)), .val (.int p2), .val (.ref b242), .val .null, .val (.int (0 : Int32)), .val (.int (255 : Int32)), .val (.int (0 : Int32))] [])) _
            refine own_go (fun _ k => XS.iconst X262.here hx rfl (hb hby at_211) k) ?_
            show own_Go p e below (T262.setTop (mkF m 212 #[.val (.int p1), .val (.int p2), .val (.int p3), .val (.int p4), .val (.int p5), .val (.int tk), .val (.int tl), .val (.int qk), .val (.int ql), .val (.int (1 : Int32)), .val (.int (1 : Int32)), .val (.int p2), .val (.ref b242), .val .null, .val (.int (0 : Int32)), .val (.int (255 : Int32)), .val (.int (0 : Int32))] [(.int (1 : Int32))])) _
            refine own_go (fun _ k => XS.goto X262.here hx rfl (pc0 := 212) (pc' := 216) rfl (hb hby at_212) (by decide) (by decide) k) ?_
            show own_Go p e below (T262.setTop (mkF m 216 #[.val (.int p1), .val (.int p2), .val (.int p3), .val (.int p4), .val (.int p5), .val (.int tk), .val (.int tl), .val (.int qk), .val (.int ql), .val (.int (1 : Int32)), .val (.int (1 : Int32)), .val (.int p2), .val (.ref b242), .val .null, .val (.int (0 : Int32)), .val (.int (255 : Int32)), .val (.int (0 : Int32))] [(.int (1 : Int32))])) _
            refine own_finW (v := (some (.int (nar .boolean (1 : Int32))))) X262 hh hZ245 hS245 (by rw [e262]; exact (Nat.le_trans (Nat.le_refl _) K252.1)) (fun h => by rw [hrt] at h; cases h) hlk (fun fs hr => retN X262 hx (t := .boolean) hrt (by simp) (hb hby at_216) hr) (QQ := QQ0 n0) ?_ own_hEL e262 (C254) (by decide) (by decide)
            rw [e262]
            exact ⟨rfl, N262⟩
        · skip
          refine own_go (fun _ k => XS.icmpYes X262.here hx rfl (pc0 := 144) (pc' := 153) rfl (hb hby at_144) rfl (feq hc265).2 (by decide) (by decide) k) ?_
          show own_Go p e below (T262.setTop (mkF m 153 #[.val (.int p1), .val (.int p2), .val (.int p3), .val (.int p4), .val (.int p5), .val (.int tk), .val (.int tl), .val (.int qk), .val (.int ql), .val (.int (1 : Int32)), .val (.int (1 : Int32)), .val (.int p2), .val (.ref b242), .val .null, .val (.int (0 : Int32)), .unset, .unset] [])) _
          refine own_go (fun _ k => XS.iload X262.here hx rfl (hb hby at_153) rfl k) ?_
          show own_Go p e below (T262.setTop (mkF m 155 #[.val (.int p1), .val (.int p2), .val (.int p3), .val (.int p4), .val (.int p5), .val (.int tk), .val (.int tl), .val (.int qk), .val (.int ql), .val (.int (1 : Int32)), .val (.int (1 : Int32)), .val (.int p2), .val (.ref b242), .val .null, .val (.int (0 : Int32)), .unset, .unset] [(.int tl)])) _
          refine own_go (fun _ k => XS.iconst X262.here hx rfl (hb hby at_155) k) ?_
          show own_Go p e below (T262.setTop (mkF m 156 #[.val (.int p1), .val (.int p2), .val (.int p3), .val (.int p4), .val (.int p5), .val (.int tk), .val (.int tl), .val (.int qk), .val (.int ql), .val (.int (1 : Int32)), .val (.int (1 : Int32)), .val (.int p2), .val (.ref b242), .val .null, .val (.int (0 : Int32)), .unset, .unset] [(.int (2 : Int32)), (.int tl)])) _
          by_cases hc267 : tl = (2 : Int32)
          · skip
            refine own_go (fun _ k => XS.icmpNo X262.here hx rfl (hb hby at_156) rfl (teq hc267).2 k) ?_
            show own_Go p e below (T262.setTop (mkF m 159 #[.val (.int p1), .val (.int p2), .val (.int p3), .val (.int p4), .val (.int p5), .val (.int tk), .val (.int tl), .val (.int qk), .val (.int ql), .val (.int (1 : Int32)), .val (.int (1 : Int32)), .val (.int p2), .val (.ref b242), .val .null, .val (.int (0 : Int32)), .unset, .unset] [])) _
            refine own_go (fun _ k => X262.ldcInt hx hown245 (mvT hZ245 (hw _ (List.mem_of_getElem? (i := 88) rfl))) (g := (mkF m 159 #[.val (.int p1), .val (.int p2), .val (.int p3), .val (.int p4), .val (.int p5), .val (.int tk), .val (.int tl), .val (.int qk), .val (.int ql), .val (.int (1 : Int32)), .val (.int (1 : Int32)), .val (.int p2), .val (.ref b242), .val .null, .val (.int (0 : Int32)), .unset, .unset] [])) rfl (hb hby at_159) _ k) ?_
            show own_Go p e below (T262.setTop (mkF m 161 #[.val (.int p1), .val (.int p2), .val (.int p3), .val (.int p4), .val (.int p5), .val (.int tk), .val (.int tl), .val (.int qk), .val (.int ql), .val (.int (1 : Int32)), .val (.int (1 : Int32)), .val (.int p2), .val (.ref b242), .val .null, .val (.int (0 : Int32)), .unset, .unset] [(.int (65535 : Int32))])) _
            refine own_go (fun _ k => XS.goto X262.here hx rfl (pc0 := 161) (pc' := 166) rfl (hb hby at_161) (by decide) (by decide) k) ?_
            show own_Go p e below (T262.setTop (mkF m 166 #[.val (.int p1), .val (.int p2), .val (.int p3), .val (.int p4), .val (.int p5), .val (.int tk), .val (.int tl), .val (.int qk), .val (.int ql), .val (.int (1 : Int32)), .val (.int (1 : Int32)), .val (.int p2), .val (.ref b242), .val .null, .val (.int (0 : Int32)), .unset, .unset] [(.int (65535 : Int32))])) _
            refine own_go (fun _ k => XS.istore X262.here hx rfl (hb hby at_166) rfl (l' := #[.val (.int p1), .val (.int p2), .val (.int p3), .val (.int p4), .val (.int p5), .val (.int tk), .val (.int tl), .val (.int qk), .val (.int ql), .val (.int (1 : Int32)), .val (.int (1 : Int32)), .val (.int p2), .val (.ref b242), .val .null, .val (.int (0 : Int32)), .val (.int (65535 : Int32)), .unset]) rfl k) ?_
            show own_Go p e below (T262.setTop (mkF m 168 #[.val (.int p1), .val (.int p2), .val (.int p3), .val (.int p4), .val (.int p5), .val (.int tk), .val (.int tl), .val (.int qk), .val (.int ql), .val (.int (1 : Int32)), .val (.int (1 : Int32)), .val (.int p2), .val (.ref b242), .val .null, .val (.int (0 : Int32)), .val (.int (65535 : Int32)), .unset] [])) _
            refine own_go (fun _ k => XS.iload X262.here hx rfl (hb hby at_168) rfl k) ?_
            show own_Go p e below (T262.setTop (mkF m 170 #[.val (.int p1), .val (.int p2), .val (.int p3), .val (.int p4), .val (.int p5), .val (.int tk), .val (.int tl), .val (.int qk), .val (.int ql), .val (.int (1 : Int32)), .val (.int (1 : Int32)), .val (.int p2), .val (.ref b242), .val .null, .val (.int (0 : Int32)), .val (.int (65535 : Int32)), .unset] [(.int qk)])) _
            refine own_go (fun _ k => XS.iload X262.here hx rfl (hb hby at_170) rfl k) ?_
            show own_Go p e below (T262.setTop (mkF m 172 #[.val (.int p1), .val (.int p2), .val (.int p3), .val (.int p4), .val (.int p5), .val (.int tk), .val (.int tl), .val (.int qk), .val (.int ql), .val (.int (1 : Int32)), .val (.int (1 : Int32)), .val (.int p2), .val (.ref b242), .val .null, .val (.int (0 : Int32)), .val (.int (65535 : Int32)), .unset] [(.int tk), (.int qk)])) _
            by_cases hc268 : qk = tk
            · skip
              refine own_go (fun _ k => XS.icmpNo X262.here hx rfl (hb hby at_172) rfl (teq hc268).2 k) ?_
              show own_Go p e below (T262.setTop (mkF m 175 #[.val (.int p1), .val (.int p2), .val (.int p3), .val (.int p4), .val (.int p5), .val (.int tk), .val (.int tl), .val (.int qk), .val (.int ql), .val (.int (1 : Int32)), .val (.int (1 : Int32)), .val (.int p2), .val (.ref b242), .val .null, .val (.int (0 : Int32)), .val (.int (65535 : Int32)), .unset] [])) _
              refine own_go (fun _ k => XS.iload X262.here hx rfl (hb hby at_175) rfl k) ?_
              show own_Go p e below (T262.setTop (mkF m 177 #[.val (.int p1), .val (.int p2), .val (.int p3), .val (.int p4), .val (.int p5), .val (.int tk), .val (.int tl), .val (.int qk), .val (.int ql), .val (.int (1 : Int32)), .val (.int (1 : Int32)), .val (.int p2), .val (.ref b242), .val .null, .val (.int (0 : Int32)), .val (.int (65535 : Int32)), .unset] [(.int (1 : Int32))])) _
              refine own_go (fun _ k => XS.ifYes X262.here hx rfl (pc0 := 177) (pc' := 201) rfl (hb hby at_177) rfl ((if0 _ _).trans (feq (by decide : ¬ ((1 : Int32) = (0 : Int32)))).2) (by decide) (by decide) k) ?_
              show own_Go p e below (T262.setTop (mkF m 201 #[.val (.int p1), .val (.int p2), .val (.int p3), .val (.int p4), .val (.int p5), .val (.int tk), .val (.int tl), .val (.int qk), .val (.int ql), .val (.int (1 : Int32)), .val (.int (1 : Int32)), .val (.int p2), .val (.ref b242), .val .null, .val (.int (0 : Int32)), .val (.int (65535 : Int32)), .unset] [])) _
              refine own_go (fun _ k => XS.iconst X262.here hx rfl (hb hby at_201) k) ?_
              show own_Go p e below (T262.setTop (mkF m 202 #[.val (.int p1), .val (.int p2), .val (.int p3), .val (.int p4), .val (.int p5), .val (.int tk), .val (.int tl), .val (.int qk), .val (.int ql), .val (.int (1 : Int32)), .val (.int (1 : Int32)), .val (.int p2), .val (.ref b242), .val .null, .val (.int (0 : Int32)), .val (.int (65535 : Int32)), .unset] [(.int (0 : Int32))])) _
              refine own_go (fun _ k => XS.istore X262.here hx rfl (hb hby at_202) rfl (l' := #[.val (.int p1), .val (.int p2), .val (.int p3), .val (.int p4), .val (.int p5), .val (.int tk), .val (.int tl), .val (.int qk), .val (.int ql), .val (.int (1 : Int32)), .val (.int (1 : Int32)), .val (.int p2), .val (.ref b242), .val .null, .val (.int (0 : Int32)), .val (.int (65535 : Int32)), .val (.int (0 : Int32))]) rfl k) ?_
              show own_Go p e below (T262.setTop (mkF m 204 #[.val (.int p1), .val (.int p2), .val (.int p3), .val (.int p4), .val (.int p5), .val (.int tk), .val (.int tl), .val (.int qk), .val (.int ql), .val (.int (1 : Int32)), .val (.int (1 : Int32)), .val (.int p2), .val (.ref b242), .val .null, .val (.int (0 : Int32)), .val (.int (65535 : Int32)), .val (.int (0 : Int32))] [])) _
              refine own_go (fun _ k => XS.iload X262.here hx rfl (hb hby at_204) rfl k) ?_
              show own_Go p e below (T262.setTop (mkF m 206 #[.val (.int p1), .val (.int p2), .val (.int p3), .val (.int p4), .val (.int p5), .val (.int tk), .val (.int tl), .val (.int qk), .val (.int ql), .val (.int (1 : Int32)), .val (.int (1 : Int32)), .val (.int p2), .val (.ref b242), .val .null, .val (.int (0 : Int32)), .val (.int (65535 : Int32)), .val (.int (0 : Int32))] [(.int (0 : Int32))])) _
              refine own_go (fun _ k => XS.iload X262.here hx rfl (hb hby at_206) rfl k) ?_
              show own_Go p e below (T262.setTop (mkF m 208 #[.val (.int p1), .val (.int p2), .val (.int p3), .val (.int p4), .val (.int p5), .val (.int tk), .val (.int tl), .val (.int qk), .val (.int ql), .val (.int (1 : Int32)), .val (.int (1 : Int32)), .val (.int p2), .val (.ref b242), .val .null, .val (.int (0 : Int32)), .val (.int (65535 : Int32)), .val (.int (0 : Int32))] [(.int (0 : Int32)), (.int (0 : Int32))])) _
              refine own_go (fun _ k => XS.icmpNo X262.here hx rfl (hb hby at_208) rfl (teq (by decide : (0 : Int32) = (0 : Int32))).2 k) ?_
              show own_Go p e below (T262.setTop (mkF m 211 #[.val (.int p1), .val (.int p2), .val (.int p3), .val (.int p4), .val (.int p5), .val (.int tk), .val (.int tl), .val (.int qk), .val (.int ql), .val (.int (1 : Int32)), .val (.int (1 : Int32)), .val (.int p2), .val (.ref b242), .val .null, .val (.int (0 : Int32)), .val (.int (65535 : Int32)), .val (.int (0 : Int32))] [])) _
              refine own_go (fun _ k => XS.iconst X262.here hx rfl (hb hby at_211) k) ?_
              show own_Go p e below (T262.setTop (mkF m 212 #[.val (.int p1), .val (.int p2), .val (.int p3), .val (.int p4), .val (.int p5), .val (.int tk), .val (.int tl), .val (.int qk), .val (.int ql), .val (.int (1 : Int32)), .val (.int (1 : Int32)), .val (.int p2), .val (.ref b242), .val .null, .val (.int (0 : Int32)), .val (.int (65535 : Int32)), .val (.int (0 : Int32))] [(.int (1 : Int32))])) _
              refine own_go (fun _ k => XS.goto X262.here hx rfl (pc0 := 212) (pc' := 216) rfl (hb hby at_212) (by decide) (by decide) k) ?_
              show own_Go p e below (T262.setTop (mkF m 216 #[.val (.int p1), .val (.int p2), .val (.int p3), .val (.int p4), .val (.int p5), .val (.int tk), .val (.int tl), .val (.int qk), .val (.int ql), .val (.int (1 : Int32)), .val (.int (1 : Int32)), .val (.int p2), .val (.ref b242), .val .null, .val (.int (0 : Int32)), .val (.int (65535 : Int32)), .val (.int (0 : Int32))] [(.int (1 : Int32))])) _
              refine own_finW (v := (some (.int (nar .boolean (1 : Int32))))) X262 hh hZ245 hS245 (by rw [e262]; exact (Nat.le_trans (Nat.le_refl _) K252.1)) (fun h => by rw [hrt] at h; cases h) hlk (fun fs hr => retN X262 hx (t := .boolean) hrt (by simp) (hb hby at_216) hr) (QQ := QQ0 n0) ?_ own_hEL e262 (C254) (by decide) (by decide)
              rw [e262]
              exact ⟨rfl, N262⟩
            · skip
              refine own_go (fun _ k => XS.icmpYes X262.here hx rfl (pc0 := 172) (pc' := 201) rfl (hb hby at_172) rfl (feq hc268).2 (by decide) (by decide) k) ?_
              show own_Go p e below (T262.setTop (mkF m 201 #[.val (.int p1), .val (.int p2), .val (.int p3), .val (.int p4), .val (.int p5), .val (.int tk), .val (.int tl), .val (.int qk), .val (.int ql), .val (.int (1 : Int32)), .val (.int (1 : Int32)), .val (.int p2), .val (.ref b242), .val .null, .val (.int (0 : Int32)), .val (.int (65535 : Int32)), .unset] [])) _
              refine own_go (fun _ k => XS.iconst X262.here hx rfl (hb hby at_201) k) ?_
              show own_Go p e below (T262.setTop (mkF m 202 #[.val (.int p1), .val (.int p2), .val (.int p3), .val (.int p4), .val (.int p5), .val (.int tk), .val (.int tl), .val (.int qk), .val (.int ql), .val (.int (1 : Int32)), .val (.int (1 : Int32)), .val (.int p2), .val (.ref b242), .val .null, .val (.int (0 : Int32)), .val (.int (65535 : Int32)), .unset] [(.int (0 : Int32))])) _
              refine own_go (fun _ k => XS.istore X262.here hx rfl (hb hby at_202) rfl (l' := #[.val (.int p1), .val (.int p2), .val (.int p3), .val (.int p4), .val (.int p5), .val (.int tk), .val (.int tl), .val (.int qk), .val (.int ql), .val (.int (1 : Int32)), .val (.int (1 : Int32)), .val (.int p2), .val (.ref b242), .val .null, .val (.int (0 : Int32)), .val (.int (65535 : Int32)), .val (.int (0 : Int32))]) rfl k) ?_
              show own_Go p e below (T262.setTop (mkF m 204 #[.val (.int p1), .val (.int p2), .val (.int p3), .val (.int p4), .val (.int p5), .val (.int tk), .val (.int tl), .val (.int qk), .val (.int ql), .val (.int (1 : Int32)), .val (.int (1 : Int32)), .val (.int p2), .val (.ref b242), .val .null, .val (.int (0 : Int32)), .val (.int (65535 : Int32)), .val (.int (0 : Int32))] [])) _
              refine own_go (fun _ k => XS.iload X262.here hx rfl (hb hby at_204) rfl k) ?_
              show own_Go p e below (T262.setTop (mkF m 206 #[.val (.int p1), .val (.int p2), .val (.int p3), .val (.int p4), .val (.int p5), .val (.int tk), .val (.int tl), .val (.int qk), .val (.int ql), .val (.int (1 : Int32)), .val (.int (1 : Int32)), .val (.int p2), .val (.ref b242), .val .null, .val (.int (0 : Int32)), .val (.int (65535 : Int32)), .val (.int (0 : Int32))] [(.int (0 : Int32))])) _
              refine own_go (fun _ k => XS.iload X262.here hx rfl (hb hby at_206) rfl k) ?_
              show own_Go p e below (T262.setTop (mkF m 208 #[.val (.int p1), .val (.int p2), .val (.int p3), .val (.int p4), .val (.int p5), .val (.int tk), .val (.int tl), .val (.int qk), .val (.int ql), .val (.int (1 : Int32)), .val (.int (1 : Int32)), .val (.int p2), .val (.ref b242), .val .null, .val (.int (0 : Int32)), .val (.int (65535 : Int32)), .val (.int (0 : Int32))] [(.int (0 : Int32)), (.int (0 : Int32))])) _
              refine own_go (fun _ k => XS.icmpNo X262.here hx rfl (hb hby at_208) rfl (teq (by decide : (0 : Int32) = (0 : Int32))).2 k) ?_
              show own_Go p e below (T262.setTop (mkF m 211 #[.val (.int p1), .val (.int p2), .val (.int p3), .val (.int p4), .val (.int p5), .val (.int tk), .val (.int tl), .val (.int qk), .val (.int ql), .val (.int (1 : Int32)), .val (.int (1 : Int32)), .val (.int p2), .val (.ref b242), .val .null, .val (.int (0 : Int32)), .val (.int (65535 : Int32)), .val (.int (0 : Int32))] [])) _
              refine own_go (fun _ k => XS.iconst X262.here hx rfl (hb hby at_211) k) ?_
              show own_Go p e below (T262.setTop (mkF m 212 #[.val (.int p1), .val (.int p2), .val (.int p3), .val (.int p4), .val (.int p5), .val (.int tk), .val (.int tl), .val (.int qk), .val (.int ql), .val (.int (1 : Int32)), .val (.int (1 : Int32)), .val (.int p2), .val (.ref b242), .val .null, .val (.int (0 : Int32)), .val (.int (65535 : Int32)), .val (.int (0 : Int32))] [(.int (1 : Int32))])) _
              refine own_go (fun _ k => XS.goto X262.here hx rfl (pc0 := 212) (pc' := 216) rfl (hb hby at_212) (by decide) (by decide) k) ?_
              show own_Go p e below (T262.setTop (mkF m 216 #[.val (.int p1), .val (.int p2), .val (.int p3), .val (.int p4), .val (.int p5), .val (.int tk), .val (.int tl), .val (.int qk), .val (.int ql), .val (.int (1 : Int32)), .val (.int (1 : Int32)), .val (.int p2), .val (.ref b242), .val .null, .val (.int (0 : Int32)), .val (.int (65535 : Int32)), .val (.int (0 : Int32))] [(.int (1 : Int32))])) _
              refine own_finW (v := (some (.int (nar .boolean (1 : Int32))))) X262 hh hZ245 hS245 (by rw [e262]; exact (Nat.le_trans (Nat.le_refl _) K252.1)) (fun h => by rw [hrt] at h; cases h) hlk (fun fs hr => retN X262 hx (t := .boolean) hrt (by simp) (hb hby at_216) hr) (QQ := QQ0 n0) ?_ own_hEL e262 (C254) (by decide) (by decide)
              rw [e262]
              exact ⟨rfl, N262⟩
          · skip
            refine own_go (fun _ k => XS.icmpYes X262.here hx rfl (pc0 := 156) (pc' := 164) rfl (hb hby at_156) rfl (feq hc267).2 (by decide) (by decide) k) ?_
            show own_Go p e below (T262.setTop (mkF m 164 #[.val (.int p1), .val (.int p2), .val (.int p3), .val (.int p4), .val (.int p5), .val (.int tk), .val (.int tl), .val (.int qk), .val (.int ql), .val (.int (1 : Int32)), .val (.int (1 : Int32)), .val (.int p2), .val (.ref b242), .val .null, .val (.int (0 : Int32)), .unset, .unset] [])) _
            refine own_go (fun _ k => X262.ldcInt hx hown245 (mvT hZ245 (hw _ (List.mem_of_getElem? (i := 85) rfl))) (g := (mkF m 164 #[.val (.int p1), .val (.int p2), .val (.int p3), .val (.int p4), .val (.int p5), .val (.int tk), .val (.int tl), .val (.int qk), .val (.int ql), .val (.int (1 : Int32)), .val (.int (1 : Int32)), .val (.int p2), .val (.ref b242), .val .null, .val (.int (0 : Int32)), .unset, .unset] [])) rfl (hb hby at_164) _ k) ?_
            show own_Go p e below (T262.setTop (mkF m 166 #[.val (.int p1), .val (.int p2), .val (.int p3), .val (.int p4), .val (.int p5), .val (.int tk), .val (.int tl), .val (.int qk), .val (.int ql), .val (.int (1 : Int32)), .val (.int (1 : Int32)), .val (.int p2), .val (.ref b242), .val .null, .val (.int (0 : Int32)), .unset, .unset] [(.int (16777215 : Int32))])) _
            refine own_go (fun _ k => XS.istore X262.here hx rfl (hb hby at_166) rfl (l' := #[.val (.int p1), .val (.int p2), .val (.int p3), .val (.int p4), .val (.int p5), .val (.int tk), .val (.int tl), .val (.int qk), .val (.int ql), .val (.int (1 : Int32)), .val (.int (1 : Int32)), .val (.int p2), .val (.ref b242), .val .null, .val (.int (0 : Int32)), .val (.int (16777215 : Int32)), .unset]) rfl k) ?_
            show own_Go p e below (T262.setTop (mkF m 168 #[.val (.int p1), .val (.int p2), .val (.int p3), .val (.int p4), .val (.int p5), .val (.int tk), .val (.int tl), .val (.int qk), .val (.int ql), .val (.int (1 : Int32)), .val (.int (1 : Int32)), .val (.int p2), .val (.ref b242), .val .null, .val (.int (0 : Int32)), .val (.int (16777215 : Int32)), .unset] [])) _
            refine own_go (fun _ k => XS.iload X262.here hx rfl (hb hby at_168) rfl k) ?_
            show own_Go p e below (T262.setTop (mkF m 170 #[.val (.int p1), .val (.int p2), .val (.int p3), .val (.int p4), .val (.int p5), .val (.int tk), .val (.int tl), .val (.int qk), .val (.int ql), .val (.int (1 : Int32)), .val (.int (1 : Int32)), .val (.int p2), .val (.ref b242), .val .null, .val (.int (0 : Int32)), .val (.int (16777215 : Int32)), .unset] [(.int qk)])) _
            refine own_go (fun _ k => XS.iload X262.here hx rfl (hb hby at_170) rfl k) ?_
            show own_Go p e below (T262.setTop (mkF m 172 #[.val (.int p1), .val (.int p2), .val (.int p3), .val (.int p4), .val (.int p5), .val (.int tk), .val (.int tl), .val (.int qk), .val (.int ql), .val (.int (1 : Int32)), .val (.int (1 : Int32)), .val (.int p2), .val (.ref b242), .val .null, .val (.int (0 : Int32)), .val (.int (16777215 : Int32)), .unset] [(.int tk), (.int qk)])) _
            by_cases hc269 : qk = tk
            · skip
              refine own_go (fun _ k => XS.icmpNo X262.here hx rfl (hb hby at_172) rfl (teq hc269).2 k) ?_
              show own_Go p e below (T262.setTop (mkF m 175 #[.val (.int p1), .val (.int p2), .val (.int p3), .val (.int p4), .val (.int p5), .val (.int tk), .val (.int tl), .val (.int qk), .val (.int ql), .val (.int (1 : Int32)), .val (.int (1 : Int32)), .val (.int p2), .val (.ref b242), .val .null, .val (.int (0 : Int32)), .val (.int (16777215 : Int32)), .unset] [])) _
              refine own_go (fun _ k => XS.iload X262.here hx rfl (hb hby at_175) rfl k) ?_
              show own_Go p e below (T262.setTop (mkF m 177 #[.val (.int p1), .val (.int p2), .val (.int p3), .val (.int p4), .val (.int p5), .val (.int tk), .val (.int tl), .val (.int qk), .val (.int ql), .val (.int (1 : Int32)), .val (.int (1 : Int32)), .val (.int p2), .val (.ref b242), .val .null, .val (.int (0 : Int32)), .val (.int (16777215 : Int32)), .unset] [(.int (1 : Int32))])) _
              refine own_go (fun _ k => XS.ifYes X262.here hx rfl (pc0 := 177) (pc' := 201) rfl (hb hby at_177) rfl ((if0 _ _).trans (feq (by decide : ¬ ((1 : Int32) = (0 : Int32)))).2) (by decide) (by decide) k) ?_
              show own_Go p e below (T262.setTop (mkF m 201 #[.val (.int p1), .val (.int p2), .val (.int p3), .val (.int p4), .val (.int p5), .val (.int tk), .val (.int tl), .val (.int qk), .val (.int ql), .val (.int (1 : Int32)), .val (.int (1 : Int32)), .val (.int p2), .val (.ref b242), .val .null, .val (.int (0 : Int32)), .val (.int (16777215 : Int32)), .unset] [])) _
              refine own_go (fun _ k => XS.iconst X262.here hx rfl (hb hby at_201) k) ?_
              show own_Go p e below (T262.setTop (mkF m 202 #[.val (.int p1), .val (.int p2), .val (.int p3), .val (.int p4), .val (.int p5), .val (.int tk), .val (.int tl), .val (.int qk), .val (.int ql), .val (.int (1 : Int32)), .val (.int (1 : Int32)), .val (.int p2), .val (.ref b242), .val .null, .val (.int (0 : Int32)), .val (.int (16777215 : Int32)), .unset] [(.int (0 : Int32))])) _
              refine own_go (fun _ k => XS.istore X262.here hx rfl (hb hby at_202) rfl (l' := #[.val (.int p1), .val (.int p2), .val (.int p3), .val (.int p4), .val (.int p5), .val (.int tk), .val (.int tl), .val (.int qk), .val (.int ql), .val (.int (1 : Int32)), .val (.int (1 : Int32)), .val (.int p2), .val (.ref b242), .val .null, .val (.int (0 : Int32)), .val (.int (16777215 : Int32)), .val (.int (0 : Int32))]) rfl k) ?_
              show own_Go p e below (T262.setTop (mkF m 204 #[.val (.int p1), .val (.int p2), .val (.int p3), .val (.int p4), .val (.int p5), .val (.int tk), .val (.int tl), .val (.int qk), .val (.int ql), .val (.int (1 : Int32)), .val (.int (1 : Int32)), .val (.int p2), .val (.ref b242), .val .null, .val (.int (0 : Int32)), .val (.int (16777215 : Int32)), .val (.int (0 : Int32))] [])) _
              refine own_go (fun _ k => XS.iload X262.here hx rfl (hb hby at_204) rfl k) ?_
              show own_Go p e below (T262.setTop (mkF m 206 #[.val (.int p1), .val (.int p2), .val (.int p3), .val (.int p4), .val (.int p5), .val (.int tk), .val (.int tl), .val (.int qk), .val (.int ql), .val (.int (1 : Int32)), .val (.int (1 : Int32)), .val (.int p2), .val (.ref b242), .val .null, .val (.int (0 : Int32)), .val (.int (16777215 : Int32)), .val (.int (0 : Int32))] [(.int (0 : Int32))])) _
              refine own_go (fun _ k => XS.iload X262.here hx rfl (hb hby at_206) rfl k) ?_
              show own_Go p e below (T262.setTop (mkF m 208 #[.val (.int p1), .val (.int p2), .val (.int p3), .val (.int p4), .val (.int p5), .val (.int tk), .val (.int tl), .val (.int qk), .val (.int ql), .val (.int (1 : Int32)), .val (.int (1 : Int32)), .val (.int p2), .val (.ref b242), .val .null, .val (.int (0 : Int32)), .val (.int (16777215 : Int32)), .val (.int (0 : Int32))] [(.int (0 : Int32)), (.int (0 : Int32))])) _
              refine own_go (fun _ k => XS.icmpNo X262.here hx rfl (hb hby at_208) rfl (teq (by decide : (0 : Int32) = (0 : Int32))).2 k) ?_
              show own_Go p e below (T262.setTop (mkF m 211 #[.val (.int p1), .val (.int p2), .val (.int p3), .val (.int p4), .val (.int p5), .val (.int tk), .val (.int tl), .val (.int qk), .val (.int ql), .val (.int (1 : Int32)), .val (.int (1 : Int32)), .val (.int p2), .val (.ref b242), .val .null, .val (.int (0 : Int32)), .val (.int (16777215 : Int32)), .val (.int (0 : Int32))] [])) _
              refine own_go (fun _ k => XS.iconst X262.here hx rfl (hb hby at_211) k) ?_
              show own_Go p e below (T262.setTop (mkF m 212 #[.val (.int p1), .val (.int p2), .val (.int p3), .val (.int p4), .val (.int p5), .val (.int tk), .val (.int tl), .val (.int qk), .val (.int ql), .val (.int (1 : Int32)), .val (.int (1 : Int32)), .val (.int p2), .val (.ref b242), .val .null, .val (.int (0 : Int32)), .val (.int (16777215 : Int32)), .val (.int (0 : Int32))] [(.int (1 : Int32))])) _
              refine own_go (fun _ k => XS.goto X262.here hx rfl (pc0 := 212) (pc' := 216) rfl (hb hby at_212) (by decide) (by decide) k) ?_
              show own_Go p e below (T262.setTop (mkF m 216 #[.val (.int p1), .val (.int p2), .val (.int p3), .val (.int p4), .val (.int p5), .val (.int tk), .val (.int tl), .val (.int qk), .val (.int ql), .val (.int (1 : Int32)), .val (.int (1 : Int32)), .val (.int p2), .val (.ref b242), .val .null, .val (.int (0 : Int32)), .val (.int (16777215 : Int32)), .val (.int (0 : Int32))] [(.int (1 : Int32))])) _
              refine own_finW (v := (some (.int (nar .boolean (1 : Int32))))) X262 hh hZ245 hS245 (by rw [e262]; exact (Nat.le_trans (Nat.le_refl _) K252.1)) (fun h => by rw [hrt] at h; cases h) hlk (fun fs hr => retN X262 hx (t := .boolean) hrt (by simp) (hb hby at_216) hr) (QQ := QQ0 n0) ?_ own_hEL e262 (C254) (by decide) (by decide)
              rw [e262]
              exact ⟨rfl, N262⟩
            · skip
              refine own_go (fun _ k => XS.icmpYes X262.here hx rfl (pc0 := 172) (pc' := 201) rfl (hb hby at_172) rfl (feq hc269).2 (by decide) (by decide) k) ?_
              show own_Go p e below (T262.setTop (mkF m 201 #[.val (.int p1), .val (.int p2), .val (.int p3), .val (.int p4), .val (.int p5), .val (.int tk), .val (.int tl), .val (.int qk), .val (.int ql), .val (.int (1 : Int32)), .val (.int (1 : Int32)), .val (.int p2), .val (.ref b242), .val .null, .val (.int (0 : Int32)), .val (.int (16777215 : Int32)), .unset] [])) _
              refine own_go (fun _ k => XS.iconst X262.here hx rfl (hb hby at_201) k) ?_
              show own_Go p e below (T262.setTop (mkF m 202 #[.val (.int p1), .val (.int p2), .val (.int p3), .val (.int p4), .val (.int p5), .val (.int tk), .val (.int tl), .val (.int qk), .val (.int ql), .val (.int (1 : Int32)), .val (.int (1 : Int32)), .val (.int p2), .val (.ref b242), .val .null, .val (.int (0 : Int32)), .val (.int (16777215 : Int32)), .unset] [(.int (0 : Int32))])) _
              refine own_go (fun _ k => XS.istore X262.here hx rfl (hb hby at_202) rfl (l' := #[.val (.int p1), .val (.int p2), .val (.int p3), .val (.int p4), .val (.int p5), .val (.int tk), .val (.int tl), .val (.int qk), .val (.int ql), .val (.int (1 : Int32)), .val (.int (1 : Int32)), .val (.int p2), .val (.ref b242), .val .null, .val (.int (0 : Int32)), .val (.int (16777215 : Int32)), .val (.int (0 : Int32))]) rfl k) ?_
              show own_Go p e below (T262.setTop (mkF m 204 #[.val (.int p1), .val (.int p2), .val (.int p3), .val (.int p4), .val (.int p5), .val (.int tk), .val (.int tl), .val (.int qk), .val (.int ql), .val (.int (1 : Int32)), .val (.int (1 : Int32)), .val (.int p2), .val (.ref b242), .val .null, .val (.int (0 : Int32)), .val (.int (16777215 : Int32)), .val (.int (0 : Int32))] [])) _
              refine own_go (fun _ k => XS.iload X262.here hx rfl (hb hby at_204) rfl k) ?_
              show own_Go p e below (T262.setTop (mkF m 206 #[.val (.int p1), .val (.int p2), .val (.int p3), .val (.int p4), .val (.int p5), .val (.int tk), .val (.int tl), .val (.int qk), .val (.int ql), .val (.int (1 : Int32)), .val (.int (1 : Int32)), .val (.int p2), .val (.ref b242), .val .null, .val (.int (0 : Int32)), .val (.int (16777215 : Int32)), .val (.int (0 : Int32))] [(.int (0 : Int32))])) _
              refine own_go (fun _ k => XS.iload X262.here hx rfl (hb hby at_206) rfl k) ?_
              show own_Go p e below (T262.setTop (mkF m 208 #[.val (.int p1), .val (.int p2), .val (.int p3), .val (.int p4), .val (.int p5), .val (.int tk), .val (.int tl), .val (.int qk), .val (.int ql), .val (.int (1 : Int32)), .val (.int (1 : Int32)), .val (.int p2), .val (.ref b242), .val .null, .val (.int (0 : Int32)), .val (.int (16777215 : Int32)), .val (.int (0 : Int32))] [(.int (0 : Int32)), (.int (0 : Int32))])) _
              refine own_go (fun _ k => XS.icmpNo X262.here hx rfl (hb hby at_208) rfl (teq (by decide : (0 : Int32) = (0 : Int32))).2 k) ?_
              show own_Go p e below (T262.setTop (mkF m 211 #[.val (.int p1), .val (.int p2), .val (.int p3), .val (.int p4), .val (.int p5), .val (.int tk), .val (.int tl), .val (.int qk), .val (.int ql), .val (.int (1 : Int32)), .val (.int (1 : Int32)), .val (.int p2), .val (.ref b242), .val .null, .val (.int (0 : Int32)), .val (.int (16777215 : Int32)), .val (.int (0 : Int32))] [])) _
              refine own_go (fun _ k => XS.iconst X262.here hx rfl (hb hby at_211) k) ?_
              show own_Go p e below (T262.setTop (mkF m 212 #[.val (.int p1), .val (.int p2), .val (.int p3), .val (.int p4), .val (.int p5), .val (.int tk), .val (.int tl), .val (.int qk), .val (.int ql), .val (.int (1 : Int32)), .val (.int (1 : Int32)), .val (.int p2), .val (.ref b242), .val .null, .val (.int (0 : Int32)), .val (.int (16777215 : Int32)), .val (.int (0 : Int32))] [(.int (1 : Int32))])) _
              refine own_go (fun _ k => XS.goto X262.here hx rfl (pc0 := 212) (pc' := 216) rfl (hb hby at_212) (by decide) (by decide) k) ?_
              show own_Go p e below (T262.setTop (mkF m 216 #[.val (.int p1), .val (.int p2), .val (.int p3), .val (.int p4), .val (.int p5), .val (.int tk), .val (.int tl), .val (.int qk), .val (.int ql), .val (.int (1 : Int32)), .val (.int (1 : Int32)), .val (.int p2), .val (.ref b242), .val .null, .val (.int (0 : Int32)), .val (.int (16777215 : Int32)), .val (.int (0 : Int32))] [(.int (1 : Int32))])) _
              refine own_finW (v := (some (.int (nar .boolean (1 : Int32))))) X262 hh hZ245 hS245 (by rw [e262]; exact (Nat.le_trans (Nat.le_refl _) K252.1)) (fun h => by rw [hrt] at h; cases h) hlk (fun fs hr => retN X262 hx (t := .boolean) hrt (by simp) (hb hby at_216) hr) (QQ := QQ0 n0) ?_ own_hEL e262 (C254) (by decide) (by decide)
              rw [e262]
              exact ⟨rfl, N262⟩

set_option maxRecDepth 65536 in
set_option maxHeartbeats 40000000 in
theorem comes_1 {Post : Tables → Env → Array Value → State → Outcome → State → Prop} (hpost : ∀ tb e args s v u, (limb_1_1.after args s (.returned v) u = true ∧ limb_1_2.after args s (.returned v) u = true ∧ True) → FramedW s (.returned v) u (Jvm.fieldLocs frame_1_writes args s ++ Jvm.arrayLocs frame_1_arrays args s ++ Jvm.staticLocs frame_1_statics s) 24 1152 → Post tb e args s (.returned v) u) :
    ArmFor flags0 classFile x code maxLocals ret World_1 tables_1 room_1 Calls_1 rest_1 Pre_1 Post := by
  intro l hfl _ _ p e ha hc hk s m args below hf hA hF happ hP
  obtain ⟨hcalls, hrest, hpre⟩ := hP
  obtain ⟨-, -, -, hnamed, -, -, -, hat⟩ := (Spec.applies_iff hf).mp happ
  obtain ⟨hg, hn⟩ := and_e (Cond.before_iff.mp (show (Jvm.Cond.and given_1 narrow_1).before args s = true from hpre))
  obtain ⟨hcount, hg0⟩ := and_e hg
  obtain ⟨ha0, hg1⟩ := and_e hg0
  obtain ⟨ha1, hg2⟩ := and_e hg1
  obtain ⟨ha2, hg3⟩ := and_e hg2
  obtain ⟨ha3, hg4⟩ := and_e hg3
  obtain ⟨w0, w1, w2, w3, w4, rfl⟩ : ∃ w0 w1 w2 w3 w4 : Value, args = #[w0, w1, w2, w3, w4] := by
    have hs : args.size = 5 := by simpa [Cond.value, given_1] using hcount
    obtain ⟨L⟩ := args
    match L, hs with
    | [w0, w1, w2, w3, w4], _ => exact ⟨w0, w1, w2, w3, w4, rfl⟩
  have hw := fun d (hd : d ∈ tables_1) => atoms_spec (ws := Jvm.Cond.code x code maxLocals ret :: tables_1) hat d (List.mem_cons_of_mem _ hd)
  obtain ⟨hsets, hown0⟩ := atoms_of _ (rest_1_c_eq ▸ (show rest_1_c.before _ s = true from hrest))
  obtain ⟨i0, e0⟩ := is_v ha0
  obtain rfl : w0 = (.int i0) := Option.some.inj e0
  obtain ⟨i1, e1⟩ := is_v ha1
  obtain rfl : w1 = (.int i1) := Option.some.inj e1
  obtain ⟨i2, e2⟩ := is_v ha2
  obtain rfl : w2 = (.int i2) := Option.some.inj e2
  obtain ⟨i3, e3⟩ := is_v ha3
  obtain rfl : w3 = (.int i3) := Option.some.inj e3
  obtain ⟨i4, e4⟩ := is_v hg4
  obtain rfl : w4 = (.int i4) := Option.some.inj e4
  obtain ⟨i_G1, e_G1⟩ := is_v (Cond.before_iff.mp (hsets _ (List.mem_of_getElem? (i := 1) rfl)))
  have S_G1 : Sta s s.heap "java/lang/String" "COMPACT_STRINGS" "Z" (.int i_G1) := Sta.start e_G1 (Or.inl (hsets _ (List.mem_of_getElem? (i := 0) rfl)))
  have c_G1 : ¬ (i_G1 = (0 : Int32)) := gotF (Cond.eq_ints e_G1 (Term.int_eval (0))) (not_v (Cond.before_iff.mp (hsets _ (List.mem_of_getElem? (i := 2) rfl))))
  have hn0 := hn
  obtain ⟨hn_NAME_e, hn1⟩ := and_e hn0
  obtain ⟨hn_NUMBER_e, hn2⟩ := and_e hn1
  obtain ⟨hn_NAME_o, hn3⟩ := and_e hn2
  obtain ⟨hn_NUMBER_o, hn4⟩ := and_e hn3
  obtain ⟨hn_STRING_e, hn5⟩ := and_e hn4
  obtain ⟨hn_SYMBOL_e, hn6⟩ := and_e hn5
  obtain ⟨hn_END_e, hn7⟩ := and_e hn6
  obtain ⟨hn_SYMBOL_o, hn8⟩ := and_e hn7
  obtain ⟨hn_END_o, hn9⟩ := and_e hn8
  obtain ⟨hn_STRING_o, hn10⟩ := and_e hn9
  obtain ⟨hn_KEYWORD_e, hn11⟩ := and_e hn10
  have hn_KEYWORD_o := hn11
  obtain ⟨y0, c_y0, cell_y0, k_y0, ey0, -, e3y0, -⟩ := Cond.exactly_spec (Cond.before_iff.mpr hn_NAME_e)
  have Sy0 : Sta s s.heap "com/example/sequela/sequela/Lexer$Kind" "NAME" "Lcom/example/sequela/sequela/Lexer$Kind;" (.ref y0) := Sta.start ey0 (Or.inr ⟨hw _ (List.mem_of_getElem? (i := 9) rfl), hw _ (List.mem_of_getElem? (i := 10) rfl)⟩)
  have Fy0 := own_ordF ey0 hn_NAME_o
  obtain ⟨y1, c_y1, cell_y1, k_y1, ey1, -, e3y1, -⟩ := Cond.exactly_spec (Cond.before_iff.mpr hn_KEYWORD_e)
  have Sy1 : Sta s s.heap "com/example/sequela/sequela/Lexer$Kind" "KEYWORD" "Lcom/example/sequela/sequela/Lexer$Kind;" (.ref y1) := Sta.start ey1 (Or.inr ⟨hw _ (List.mem_of_getElem? (i := 9) rfl), hw _ (List.mem_of_getElem? (i := 87) rfl)⟩)
  have Fy1 := own_ordF ey1 hn_KEYWORD_o
  obtain ⟨y2, c_y2, cell_y2, k_y2, ey2, -, e3y2, -⟩ := Cond.exactly_spec (Cond.before_iff.mpr hn_NUMBER_e)
  have Sy2 : Sta s s.heap "com/example/sequela/sequela/Lexer$Kind" "NUMBER" "Lcom/example/sequela/sequela/Lexer$Kind;" (.ref y2) := Sta.start ey2 (Or.inr ⟨hw _ (List.mem_of_getElem? (i := 9) rfl), hw _ (List.mem_of_getElem? (i := 52) rfl)⟩)
  have Fy2 := own_ordF ey2 hn_NUMBER_o
  obtain ⟨y3, c_y3, cell_y3, k_y3, ey3, -, e3y3, -⟩ := Cond.exactly_spec (Cond.before_iff.mpr hn_STRING_e)
  have Sy3 : Sta s s.heap "com/example/sequela/sequela/Lexer$Kind" "STRING" "Lcom/example/sequela/sequela/Lexer$Kind;" (.ref y3) := Sta.start ey3 (Or.inr ⟨hw _ (List.mem_of_getElem? (i := 9) rfl), hw _ (List.mem_of_getElem? (i := 59) rfl)⟩)
  have Fy3 := own_ordF ey3 hn_STRING_o
  obtain ⟨y4, c_y4, cell_y4, k_y4, ey4, -, e3y4, -⟩ := Cond.exactly_spec (Cond.before_iff.mpr hn_SYMBOL_e)
  have Sy4 : Sta s s.heap "com/example/sequela/sequela/Lexer$Kind" "SYMBOL" "Lcom/example/sequela/sequela/Lexer$Kind;" (.ref y4) := Sta.start ey4 (Or.inr ⟨hw _ (List.mem_of_getElem? (i := 9) rfl), hw _ (List.mem_of_getElem? (i := 72) rfl)⟩)
  have Fy4 := own_ordF ey4 hn_SYMBOL_o
  obtain ⟨y5, c_y5, cell_y5, k_y5, ey5, -, e3y5, -⟩ := Cond.exactly_spec (Cond.before_iff.mpr hn_END_e)
  have Sy5 : Sta s s.heap "com/example/sequela/sequela/Lexer$Kind" "END" "Lcom/example/sequela/sequela/Lexer$Kind;" (.ref y5) := Sta.start ey5 (Or.inr ⟨hw _ (List.mem_of_getElem? (i := 9) rfl), hw _ (List.mem_of_getElem? (i := 84) rfl)⟩)
  have Fy5 := own_ordF ey5 hn_END_o
  have hz : [y0, y1, y2, y3, y4, y5].Nodup := own_nodup Fy0 Fy1 Fy2 Fy3 Fy4 Fy5
  have hCH : CHv s own_EL s.vm s.heap := CHv.start (own_hELt hw) (fun p hp => hcalls.1 p hp) (hsets _ (List.mem_of_getElem? (i := 2) rfl)) (hw _ (List.mem_of_getElem? (i := 29) rfl)) (hw _ (List.mem_of_getElem? (i := 15) rfl))
  obtain ⟨n, o, h1, h2, h3, _, L, rfl, ⟨rfl, N⟩, hCH, hq⟩ := rm_law l s _ hw tables_1 i0 i1 i2 i3 i4 i_G1 y0 y1 y2 y3 y4 y5 s.heap s.heap.size (Old.start s) S_G1 c_G1 Sy0 Sy1 Sy2 Sy3 Sy4 Sy5 hz p e ha hc hk s m _ below hf ((Spec.applies_iff_loose hf).mp happ).1 ⟨rfl, State.Warmed39.refl s, rfl, hCH⟩ trivial
  refine ⟨n, _, h1, h2, h3, hpost _ _ _ _ _ _ ⟨Cond.after_iff.mpr rfl, Cond.after_iff.mpr (eq_i res_at (Term.int_eval (1)) rfl), trivial⟩ ⟨hq.1, hq.2.1, hq.2.2.1, (hq.2.2.2.sift fun y hy => Or.inr (N y hy)).mono (by decide) (by decide)⟩⟩
theorem main_1_1 : Claimed_1_1 := comes_1 fun _ _ _ _ _ _ h hF => ⟨h.1, hF⟩
theorem main_1_2 : Claimed_1_2 := comes_1 fun _ _ _ _ _ _ h hF => ⟨h.2.1, hF⟩
end Jvm.Pilot.@@N@@
namespace Jvm.Pilot.@@N@@
open Jvm Jvm.ClassFile Sem Op Lib Jvm.Free Jvm.Stand Jvm.Pilot.@@N@@.Jvm.D
/-! MADE BY PROGRAM (witnessworld.py) out of the Statement's table words and the real class files: 23 classes; the members and pool entries that the words name. The judged class is class 1, her method 3. -/
namespace start1
open Jvm.ClassFile
def u (s : String) : CpInfo := .utf8 (stringToUtf16 s)
/-- a pool by its gaps: so many unusable entries, then the entry; so many at the end -/
def gap : Nat → List CpInfo → List CpInfo
  | 0, r => r
  | n + 1, r => .unusable :: gap n r
def poolList (es : List (Nat × CpInfo)) (last : Nat) : List CpInfo := es.foldr (fun e r => gap e.1 (e.2 :: r)) (gap last [])
def pool (es : List (Nat × CpInfo)) (last : Nat) : Array CpInfo := ⟨poolList es last⟩
def fileOf (pool : Array CpInfo) (this : Nat) (attrs : Array Attribute := #[]) (ms : Array MethodInfo := #[]) (fl : Nat := 33) (sup : Nat := 0) (ifs : Array Nat := #[]) (fds : Array FieldInfo := #[]) : ClassFile where
  minorVersion := 0
  majorVersion := 65
  constantPool := pool
  accessFlags := fl
  thisClass := this
  superClass := sup
  interfaces := ifs
  fields := fds
  methods := ms
  attributes := attrs
def plain (name : String) (sup : Option ClassId) : Class where
  name := name
  kind := .ordinary
  loader := none
  accessFlags := 33
  super := sup
  interfaces := #[]
  cf := none
  fields := #[]
  methods := #[]
  instanceTypes := #[]
  staticTypes := #[]
  resolved := #[]
  callSites := []
  init := .initialized
  statics := none
  mirror := none

def pool0 : Array CpInfo := pool [(5, u "<init>"), (0, u "()V"), (1, .class_ 10), (1, u "java/lang/Object")] 113

def k0c0 : Code := { maxStack := 0, maxLocals := 1, code := object_method_1_code, exceptionTable := #[], attributes := #[] }
def k0m0 : Method := { name := "<init>", desc := "()V", sig := { parameters := [], returnType := none }, accessFlags := 1, code := some k0c0 }
/-- java/lang/Object -/
def k0 : Class := { plain "java/lang/Object" none with
  accessFlags := 33
  interfaces := #[]
  cf := some (fileOf pool0 8 #[] #[{ accessFlags := 1, nameIndex := 5, descriptorIndex := 6, attributes := #[] }] 33 0 #[] #[])
  fields := #[]
  methods := #[k0m0]
  instanceTypes := #[]
  staticTypes := #[]
  resolved := Array.replicate 124 none
  statics := none }

def pool1 : Array CpInfo := pool [(2, .class_ 4), (1, u "java/lang/Object"), (0, u "<init>"), (0, u "()V"), (0, .fieldref 8 9), (0, .class_ 10), (0, .nameAndType 11 12), (0, u "com/example/sequela/sequela/Lexer$Kind"), (0, u "NAME"), (0, u "Lcom/example/sequela/sequela/Lexer$Kind;"), (0, .fieldref 8 14), (0, .nameAndType 15 12), (0, u "KEYWORD"), (0, .fieldref 8 17), (0, .nameAndType 18 12), (0, u "NUMBER"), (0, .fieldref 8 20), (0, .nameAndType 21 12), (0, u "STRING"), (0, .fieldref 8 23), (0, .nameAndType 24 12), (0, u "SYMBOL"), (0, .fieldref 8 26), (0, .nameAndType 27 12), (0, u "END"), (0, .class_ 29), (0, u "java/lang/String"), (0, .methodref 28 31), (0, .nameAndType 5 32), (0, u "([C)V"), (0, .integer 2147483647), (0, .class_ 35), (0, u "com/example/sequela/sequela/Lexer$Token"), (0, .methodref 37 38), (0, .class_ 39), (0, .nameAndType 40 41), (0, u "com/example/sequela/sequela/TokenIsPinLaw"), (0, u "kind"), (0, u "(I)Lcom/example/sequela/sequela/Lexer$Kind;"), (0, .methodref 37 43), (0, .nameAndType 44 45), (0, u "text"), (0, u "(II)Ljava/lang/String;"), (0, .methodref 34 47), (0, .nameAndType 5 48), (0, u "(Lcom/example/sequela/sequela/Lexer$Kind;Ljava/lang/String;I)V"), (0, .methodref 34 50), (0, .nameAndType 51 52), (0, u "is"), (0, u "(Lcom/example/sequela/sequela/Lexer$Kind;Ljava/lang/String;)Z"), (0, .integer 65535), (0, .integer 16777215), (3, u "law"), (0, u "(IIIII)Z")] 7

def k1m0 : Method := { name := "<init>", desc := "()V", sig := { parameters := [], returnType := none }, accessFlags := 1, code := none }
def k1c1 : Code := { maxStack := 2, maxLocals := 1, code := method_2_code, exceptionTable := #[], attributes := #[] }
def k1m1 : Method := { name := "kind", desc := "(I)Lcom/example/sequela/sequela/Lexer$Kind;", sig := { parameters := [.int], returnType := some (.object "com/example/sequela/sequela/Lexer$Kind") }, accessFlags := 10, code := some k1c1 }
def k1c2 : Code := { maxStack := 6, maxLocals := 5, code := method_3_code, exceptionTable := #[], attributes := #[] }
def k1m2 : Method := { name := "text", desc := "(II)Ljava/lang/String;", sig := { parameters := [.int, .int], returnType := some (.object "java/lang/String") }, accessFlags := 10, code := some k1c2 }
def k1c3 : Code := { maxStack := 5, maxLocals := 17, code := code, exceptionTable := #[], attributes := #[] }
def k1m3 : Method := { name := "law", desc := "(IIIII)Z", sig := { parameters := [.int, .int, .int, .int, .int], returnType := some .boolean }, accessFlags := 9, code := some k1c3 }
/-- com/example/sequela/sequela/TokenIsPinLaw -/
def k1 : Class := { plain "com/example/sequela/sequela/TokenIsPinLaw" (some 0) with
  accessFlags := 49
  interfaces := #[]
  cf := some (fileOf pool1 37 #[] #[{ accessFlags := 1, nameIndex := 5, descriptorIndex := 6, attributes := #[] }, { accessFlags := 10, nameIndex := 40, descriptorIndex := 41, attributes := #[] }, { accessFlags := 10, nameIndex := 44, descriptorIndex := 45, attributes := #[] }, { accessFlags := 9, nameIndex := 58, descriptorIndex := 59, attributes := #[] }] 49 2 #[] #[])
  fields := #[]
  methods := #[k1m0, k1m1, k1m2, k1m3]
  instanceTypes := #[]
  staticTypes := #[]
  resolved := Array.replicate 67 none
  statics := none }

def pool2 : Array CpInfo := pool [(1, .methodref 2 3), (0, .class_ 4), (0, .nameAndType 5 6), (0, u "java/lang/Object"), (0, u "<init>"), (0, u "()V"), (0, .class_ 8), (0, u "java/lang/Record")] 13

def k2c0 : Code := { maxStack := 1, maxLocals := 1, code := jdk_30_method_1_code, exceptionTable := #[], attributes := #[] }
def k2m0 : Method := { name := "<init>", desc := "()V", sig := { parameters := [], returnType := none }, accessFlags := 4, code := some k2c0 }
/-- java/lang/Record -/
def k2 : Class := { plain "java/lang/Record" (some 0) with
  accessFlags := 1057
  interfaces := #[]
  cf := some (fileOf pool2 7 #[] #[{ accessFlags := 4, nameIndex := 5, descriptorIndex := 6, attributes := #[] }] 1057 2 #[] #[])
  fields := #[]
  methods := #[k2m0]
  instanceTypes := #[]
  staticTypes := #[]
  resolved := Array.replicate 22 none
  statics := none }

def pool3 : Array CpInfo := pool [(1, .methodref 2 3), (0, .class_ 4), (0, .nameAndType 5 6), (0, u "java/lang/Record"), (0, u "<init>"), (0, u "()V"), (0, .fieldref 8 9), (0, .class_ 10), (0, .nameAndType 11 12), (0, u "com/example/sequela/sequela/Lexer$Token"), (0, u "kind"), (0, u "Lcom/example/sequela/sequela/Lexer$Kind;"), (0, .fieldref 8 14), (0, .nameAndType 15 16), (0, u "text"), (0, u "Ljava/lang/String;"), (0, .fieldref 8 18), (0, .nameAndType 19 20), (0, u "index"), (0, u "I"), (0, .methodref 22 23), (0, .class_ 24), (0, .nameAndType 25 26), (0, u "java/lang/String"), (0, u "equals"), (0, u "(Ljava/lang/Object;)Z"), (27, u "(Lcom/example/sequela/sequela/Lexer$Kind;Ljava/lang/String;I)V"), (3, u "is"), (0, u "(Lcom/example/sequela/sequela/Lexer$Kind;Ljava/lang/String;)Z"), (7, .class_ 68), (0, u "com/example/sequela/sequela/Lexer")] 34

def k3c0 : Code := { maxStack := 2, maxLocals := 4, code := prog_20_method_1_code, exceptionTable := #[], attributes := #[] }
def k3m0 : Method := { name := "<init>", desc := "(Lcom/example/sequela/sequela/Lexer$Kind;Ljava/lang/String;I)V", sig := { parameters := [(.object "com/example/sequela/sequela/Lexer$Kind"), (.object "java/lang/String"), .int], returnType := none }, accessFlags := 0, code := some k3c0 }
def k3c1 : Code := { maxStack := 2, maxLocals := 3, code := prog_20_method_2_code, exceptionTable := #[], attributes := #[] }
def k3m1 : Method := { name := "is", desc := "(Lcom/example/sequela/sequela/Lexer$Kind;Ljava/lang/String;)Z", sig := { parameters := [(.object "com/example/sequela/sequela/Lexer$Kind"), (.object "java/lang/String")], returnType := some .boolean }, accessFlags := 0, code := some k3c1 }
/-- com/example/sequela/sequela/Lexer$Token -/
def k3 : Class := { plain "com/example/sequela/sequela/Lexer$Token" (some 2) with
  accessFlags := 48
  interfaces := #[]
  cf := some (fileOf pool3 8 #[.nestHost 67] #[{ accessFlags := 0, nameIndex := 5, descriptorIndex := 54, attributes := #[] }, { accessFlags := 0, nameIndex := 58, descriptorIndex := 59, attributes := #[] }] 48 2 #[] #[{ accessFlags := 18, nameIndex := 11, descriptorIndex := 12, attributes := #[] }, { accessFlags := 18, nameIndex := 15, descriptorIndex := 16, attributes := #[] }, { accessFlags := 18, nameIndex := 19, descriptorIndex := 20, attributes := #[] }])
  fields := #[{ name := "kind", type := (.object "com/example/sequela/sequela/Lexer$Kind"), accessFlags := 18, slot := 0, constantValue := 0 }, { name := "text", type := (.object "java/lang/String"), accessFlags := 18, slot := 1, constantValue := 0 }, { name := "index", type := .int, accessFlags := 18, slot := 2, constantValue := 0 }]
  methods := #[k3m0, k3m1]
  instanceTypes := #[(.object "com/example/sequela/sequela/Lexer$Kind"), (.object "java/lang/String"), .int]
  staticTypes := #[]
  resolved := Array.replicate 103 none
  statics := none }

def pool4 : Array CpInfo := pool [(1, .class_ 2), (0, u "java/lang/constant/Constable"), (0, .class_ 4), (0, u "java/lang/Object")] 6

/-- java/lang/constant/Constable -/
def k4 : Class := { plain "java/lang/constant/Constable" (some 0) with
  accessFlags := 1537
  interfaces := #[]
  cf := some (fileOf pool4 1 #[] #[] 1537 3 #[] #[])
  fields := #[]
  methods := #[]
  instanceTypes := #[]
  staticTypes := #[]
  resolved := Array.replicate 11 none
  statics := none }

def pool5 : Array CpInfo := pool [(1, .class_ 2), (0, u "java/lang/Comparable"), (0, .class_ 4), (0, u "java/lang/Object")] 7

/-- java/lang/Comparable -/
def k5 : Class := { plain "java/lang/Comparable" (some 0) with
  accessFlags := 1537
  interfaces := #[]
  cf := some (fileOf pool5 1 #[] #[] 1537 3 #[] #[])
  fields := #[]
  methods := #[]
  instanceTypes := #[]
  staticTypes := #[]
  resolved := Array.replicate 12 none
  statics := none }

def pool6 : Array CpInfo := pool [(1, .class_ 2), (0, u "java/io/Serializable"), (0, .class_ 4), (0, u "java/lang/Object")] 2

/-- java/io/Serializable -/
def k6 : Class := { plain "java/io/Serializable" (some 0) with
  accessFlags := 1537
  interfaces := #[]
  cf := some (fileOf pool6 1 #[] #[] 1537 3 #[] #[])
  fields := #[]
  methods := #[]
  instanceTypes := #[]
  staticTypes := #[]
  resolved := Array.replicate 7 none
  statics := none }

def pool7 : Array CpInfo := pool [(2, .class_ 4), (1, u "java/lang/Enum"), (0, u "name"), (0, u "Ljava/lang/String;"), (2, u "ordinal"), (0, u "I"), (1, .class_ 14), (1, u "java/lang/Object"), (4, u "hash"), (86, .class_ 108), (1, u "java/lang/Enum$EnumDesc"), (2, .class_ 112), (0, u "java/lang/constant/Constable"), (0, .class_ 114), (0, u "java/lang/Comparable"), (0, .class_ 116), (0, u "java/io/Serializable")] 87

/-- java/lang/Enum -/
def k7 : Class := { plain "java/lang/Enum" (some 0) with
  accessFlags := 1057
  interfaces := #[4, 5, 6]
  cf := some (fileOf pool7 2 #[.nestMembers #[106]] #[] 1057 12 #[111, 113, 115] #[{ accessFlags := 18, nameIndex := 5, descriptorIndex := 6, attributes := #[] }, { accessFlags := 18, nameIndex := 9, descriptorIndex := 10, attributes := #[] }, { accessFlags := 2, nameIndex := 19, descriptorIndex := 10, attributes := #[] }])
  fields := #[{ name := "name", type := (.object "java/lang/String"), accessFlags := 18, slot := 0, constantValue := 0 }, { name := "ordinal", type := .int, accessFlags := 18, slot := 1, constantValue := 0 }, { name := "hash", type := .int, accessFlags := 2, slot := 2, constantValue := 0 }]
  methods := #[]
  instanceTypes := #[(.object "java/lang/String"), .int, .int]
  staticTypes := #[]
  resolved := Array.replicate 204 none
  statics := none }

def pool8 : Array CpInfo := pool [(1, .class_ 2), (0, u "com/example/sequela/sequela/Lexer$Kind"), (2, u "NAME"), (0, u "Lcom/example/sequela/sequela/Lexer$Kind;"), (2, u "KEYWORD"), (2, u "NUMBER"), (2, u "STRING"), (2, u "SYMBOL"), (2, u "END"), (2, u "$VALUES"), (0, u "[Lcom/example/sequela/sequela/Lexer$Kind;"), (6, .class_ 34), (1, u "java/lang/Enum"), (29, .class_ 65), (0, u "com/example/sequela/sequela/Lexer")] 2

/-- com/example/sequela/sequela/Lexer$Kind -/
def k8 : Class := { plain "com/example/sequela/sequela/Lexer$Kind" (some 7) with
  accessFlags := 16432
  interfaces := #[]
  cf := some (fileOf pool8 1 #[.nestHost 64] #[] 16432 32 #[] #[{ accessFlags := 16409, nameIndex := 5, descriptorIndex := 6, attributes := #[] }, { accessFlags := 16409, nameIndex := 9, descriptorIndex := 6, attributes := #[] }, { accessFlags := 16409, nameIndex := 12, descriptorIndex := 6, attributes := #[] }, { accessFlags := 16409, nameIndex := 15, descriptorIndex := 6, attributes := #[] }, { accessFlags := 16409, nameIndex := 18, descriptorIndex := 6, attributes := #[] }, { accessFlags := 16409, nameIndex := 21, descriptorIndex := 6, attributes := #[] }, { accessFlags := 4122, nameIndex := 24, descriptorIndex := 25, attributes := #[] }])
  fields := #[{ name := "NAME", type := (.object "com/example/sequela/sequela/Lexer$Kind"), accessFlags := 16409, slot := 0, constantValue := 0 }, { name := "KEYWORD", type := (.object "com/example/sequela/sequela/Lexer$Kind"), accessFlags := 16409, slot := 1, constantValue := 0 }, { name := "NUMBER", type := (.object "com/example/sequela/sequela/Lexer$Kind"), accessFlags := 16409, slot := 2, constantValue := 0 }, { name := "STRING", type := (.object "com/example/sequela/sequela/Lexer$Kind"), accessFlags := 16409, slot := 3, constantValue := 0 }, { name := "SYMBOL", type := (.object "com/example/sequela/sequela/Lexer$Kind"), accessFlags := 16409, slot := 4, constantValue := 0 }, { name := "END", type := (.object "com/example/sequela/sequela/Lexer$Kind"), accessFlags := 16409, slot := 5, constantValue := 0 }, { name := "$VALUES", type := (.array (.object "com/example/sequela/sequela/Lexer$Kind")), accessFlags := 4122, slot := 6, constantValue := 0 }]
  methods := #[]
  instanceTypes := #[(.object "java/lang/String"), .int, .int]
  staticTypes := #[(.object "com/example/sequela/sequela/Lexer$Kind"), (.object "com/example/sequela/sequela/Lexer$Kind"), (.object "com/example/sequela/sequela/Lexer$Kind"), (.object "com/example/sequela/sequela/Lexer$Kind"), (.object "com/example/sequela/sequela/Lexer$Kind"), (.object "com/example/sequela/sequela/Lexer$Kind"), (.array (.object "com/example/sequela/sequela/Lexer$Kind"))]
  resolved := Array.replicate 68 none
  statics := some 0 }

def pool9 : Array CpInfo := pool [(2, .class_ 4), (1, u "java/lang/CharSequence"), (42, .class_ 48), (0, u "java/lang/CharSequence$1CodePointIterator"), (10, .class_ 60), (0, u "java/lang/CharSequence$1CharIterator"), (5, .class_ 67), (0, u "java/lang/Object")] 63

/-- java/lang/CharSequence -/
def k9 : Class := { plain "java/lang/CharSequence" (some 0) with
  accessFlags := 1537
  interfaces := #[]
  cf := some (fileOf pool9 2 #[.nestMembers #[47, 59]] #[] 1537 66 #[] #[])
  fields := #[]
  methods := #[]
  instanceTypes := #[]
  staticTypes := #[]
  resolved := Array.replicate 131 none
  statics := none }

def pool10 : Array CpInfo := pool [(1, .class_ 2), (0, u "java/lang/constant/ConstantDesc"), (0, .class_ 4), (0, u "java/lang/Object")] 32

/-- java/lang/constant/ConstantDesc -/
def k10 : Class := { plain "java/lang/constant/ConstantDesc" (some 0) with
  accessFlags := 1537
  interfaces := #[]
  cf := some (fileOf pool10 1 #[] #[] 1537 3 #[] #[])
  fields := #[]
  methods := #[]
  instanceTypes := #[]
  staticTypes := #[]
  resolved := Array.replicate 37 none
  statics := none }

def pool11 : Array CpInfo := pool [(1, .methodref 2 3), (0, .class_ 4), (0, .nameAndType 5 6), (0, u "java/lang/Object"), (0, u "<init>"), (0, u "()V"), (0, .string 8), (0, u ""), (0, .fieldref 10 11), (0, .class_ 12), (0, .nameAndType 13 14), (0, u "java/lang/String"), (0, u "value"), (0, u "[B"), (0, .fieldref 10 16), (0, .nameAndType 17 18), (0, u "coder"), (0, u "B"), (2, u "hash"), (0, u "I"), (2, u "hashIsZero"), (0, u "Z"), (0, .methodref 10 28), (0, .nameAndType 5 29), (0, u "([CIILjava/lang/Void;)V"), (8, .fieldref 10 39), (0, .nameAndType 40 26), (0, u "COMPACT_STRINGS"), (1, .class_ 44), (1, u "java/lang/StringUTF16"), (0, u "compress"), (1, .methodref 42 48), (0, .nameAndType 49 50), (0, u "coderFromArrayLen"), (0, u "([BI)B"), (56, .class_ 109), (1, u "java/lang/StringLatin1"), (67, .methodref 42 178), (0, .nameAndType 45 179), (0, u "([CII)[B"), (361, .methodref 107 542), (0, .nameAndType 543 544), (0, u "equals"), (0, u "([B[B)Z"), (28, u "(Ljava/lang/Object;)Z"), (1, .class_ 576), (0, u "java/lang/CharSequence"), (22, u "CASE_INSENSITIVE_ORDER"), (0, u "Ljava/util/Comparator;"), (409, u "([C)V"), (90, u "serialPersistentFields"), (0, u "[Ljava/io/ObjectStreamField;"), (0, .class_ 1104), (0, u "java/lang/String$CaseInsensitiveComparator"), (1, .class_ 1107), (0, u "java/io/Serializable"), (0, .class_ 1109), (0, u "java/lang/Comparable"), (0, .class_ 1111), (0, u "java/lang/constant/Constable"), (0, .class_ 1113), (0, u "java/lang/constant/ConstantDesc"), (2, u "serialVersionUID"), (0, u "J"), (3, u "REPL"), (0, u "C"), (2, u "LATIN1"), (1, u "UTF16")] 323

def k11m0 : Method := { name := "<init>", desc := "()V", sig := { parameters := [], returnType := none }, accessFlags := 1, code := none }
def k11c1 : Code := { maxStack := 5, maxLocals := 2, code := jdk_42_method_3_code, exceptionTable := #[], attributes := #[] }
def k11m1 : Method := { name := "<init>", desc := "([C)V", sig := { parameters := [(.array .char)], returnType := none }, accessFlags := 1, code := some k11c1 }
def k11c2 : Code := { maxStack := 2, maxLocals := 3, code := jdk_42_method_66_code, exceptionTable := #[], attributes := #[] }
def k11m2 : Method := { name := "equals", desc := "(Ljava/lang/Object;)Z", sig := { parameters := [(.object "java/lang/Object")], returnType := some .boolean }, accessFlags := 1, code := some k11c2 }
def k11c3 : Code := { maxStack := 4, maxLocals := 6, code := jdk_42_method_149_code, exceptionTable := #[], attributes := #[] }
def k11m3 : Method := { name := "<init>", desc := "([CIILjava/lang/Void;)V", sig := { parameters := [(.array .char), .int, .int, (.object "java/lang/Void")], returnType := none }, accessFlags := 2, code := some k11c3 }
/-- java/lang/String -/
def k11 : Class := { plain "java/lang/String" (some 0) with
  accessFlags := 49
  interfaces := #[6, 5, 9, 4, 10]
  cf := some (fileOf pool11 10 #[.nestMembers #[1103]] #[{ accessFlags := 1, nameIndex := 5, descriptorIndex := 6, attributes := #[] }, { accessFlags := 1, nameIndex := 5, descriptorIndex := 1010, attributes := #[] }, { accessFlags := 1, nameIndex := 543, descriptorIndex := 573, attributes := #[] }, { accessFlags := 2, nameIndex := 5, descriptorIndex := 29, attributes := #[] }] 49 2 #[1106, 1108, 575, 1110, 1112] #[{ accessFlags := 18, nameIndex := 13, descriptorIndex := 14, attributes := #[] }, { accessFlags := 18, nameIndex := 17, descriptorIndex := 18, attributes := #[] }, { accessFlags := 2, nameIndex := 21, descriptorIndex := 22, attributes := #[] }, { accessFlags := 2, nameIndex := 25, descriptorIndex := 26, attributes := #[] }, { accessFlags := 26, nameIndex := 1116, descriptorIndex := 1117, attributes := #[] }, { accessFlags := 24, nameIndex := 40, descriptorIndex := 26, attributes := #[] }, { accessFlags := 26, nameIndex := 1101, descriptorIndex := 1102, attributes := #[] }, { accessFlags := 26, nameIndex := 1121, descriptorIndex := 1122, attributes := #[] }, { accessFlags := 25, nameIndex := 599, descriptorIndex := 600, attributes := #[] }, { accessFlags := 24, nameIndex := 1125, descriptorIndex := 18, attributes := #[] }, { accessFlags := 24, nameIndex := 1127, descriptorIndex := 18, attributes := #[] }])
  fields := #[{ name := "value", type := (.array .byte), accessFlags := 18, slot := 0, constantValue := 0 }, { name := "coder", type := .byte, accessFlags := 18, slot := 1, constantValue := 0 }, { name := "hash", type := .int, accessFlags := 2, slot := 2, constantValue := 0 }, { name := "hashIsZero", type := .boolean, accessFlags := 2, slot := 3, constantValue := 0 }, { name := "serialVersionUID", type := .long, accessFlags := 26, slot := 0, constantValue := 0 }, { name := "COMPACT_STRINGS", type := .boolean, accessFlags := 24, slot := 1, constantValue := 0 }, { name := "serialPersistentFields", type := (.array (.object "java/io/ObjectStreamField")), accessFlags := 26, slot := 2, constantValue := 0 }, { name := "REPL", type := .char, accessFlags := 26, slot := 3, constantValue := 0 }, { name := "CASE_INSENSITIVE_ORDER", type := (.object "java/util/Comparator"), accessFlags := 25, slot := 4, constantValue := 0 }, { name := "LATIN1", type := .byte, accessFlags := 24, slot := 5, constantValue := 0 }, { name := "UTF16", type := .byte, accessFlags := 24, slot := 6, constantValue := 0 }]
  methods := #[k11m0, k11m1, k11m2, k11m3]
  instanceTypes := #[(.array .byte), .byte, .int, .boolean]
  staticTypes := #[.long, .boolean, (.array (.object "java/io/ObjectStreamField")), .char, (.object "java/util/Comparator"), .byte, .byte]
  resolved := Array.replicate 1451 none
  statics := some 1 }

def pool12 : Array CpInfo := pool [(4, .class_ 6), (1, u "java/lang/Object"), (0, u "<init>"), (0, u "()V"), (5, .class_ 16), (1, u "java/lang/StringLatin1"), (104, u "$assertionsDisabled"), (0, u "Z"), (98, .class_ 223), (1, u "java/lang/StringLatin1$LinesSpliterator"), (57, u "equals"), (0, u "([B[B)Z"), (107, .class_ 391), (0, u "java/lang/StringLatin1$CharsSpliterator")] 3

def k12m0 : Method := { name := "<init>", desc := "()V", sig := { parameters := [], returnType := none }, accessFlags := 0, code := none }
def k12c1 : Code := { maxStack := 3, maxLocals := 3, code := jdk_43_method_13_code, exceptionTable := #[], attributes := #[] }
def k12m1 : Method := { name := "equals", desc := "([B[B)Z", sig := { parameters := [(.array .byte), (.array .byte)], returnType := some .boolean }, accessFlags := 9, code := some k12c1 }
/-- java/lang/StringLatin1 -/
def k12 : Class := { plain "java/lang/StringLatin1" (some 0) with
  accessFlags := 48
  interfaces := #[]
  cf := some (fileOf pool12 14 #[.nestMembers #[390, 221]] #[{ accessFlags := 0, nameIndex := 7, descriptorIndex := 8, attributes := #[] }, { accessFlags := 9, nameIndex := 281, descriptorIndex := 282, attributes := #[] }] 48 4 #[] #[{ accessFlags := 4120, nameIndex := 121, descriptorIndex := 122, attributes := #[] }])
  fields := #[{ name := "$assertionsDisabled", type := .boolean, accessFlags := 4120, slot := 0, constantValue := 0 }]
  methods := #[k12m0, k12m1]
  instanceTypes := #[]
  staticTypes := #[.boolean]
  resolved := Array.replicate 395 none
  statics := none }

def pool13 : Array CpInfo := pool [(6, .class_ 8), (1, u "java/lang/Object"), (0, u "<init>"), (0, u "()V"), (1, .class_ 14), (1, u "java/lang/StringUTF16"), (31, u "$assertionsDisabled"), (0, u "Z"), (13, u "HI_BYTE_SHIFT"), (0, u "I"), (2, u "LO_BYTE_SHIFT"), (49, .methodref 12 116), (0, .nameAndType 117 118), (0, u "compress"), (0, u "([CI[BII)I"), (3, u "([CII)[B"), (138, u "coderFromArrayLen"), (0, u "([BI)B"), (106, .class_ 371), (1, u "java/lang/StringUTF16$LinesSpliterator"), (58, u "MAX_LENGTH"), (196, .class_ 628), (0, u "java/lang/StringUTF16$CodePointsSpliterator"), (0, .class_ 630), (0, u "java/lang/StringUTF16$CharsSpliterator")] 4

def k13m0 : Method := { name := "<init>", desc := "()V", sig := { parameters := [], returnType := none }, accessFlags := 0, code := none }
def k13c1 : Code := { maxStack := 2, maxLocals := 2, code := jdk_52_method_15_code, exceptionTable := #[], attributes := #[] }
def k13m1 : Method := { name := "coderFromArrayLen", desc := "([BI)B", sig := { parameters := [(.array .byte), .int], returnType := some .byte }, accessFlags := 8, code := some k13c1 }
def k13c2 : Code := { maxStack := 5, maxLocals := 6, code := jdk_52_method_16_code, exceptionTable := #[], attributes := #[] }
def k13m2 : Method := { name := "compress", desc := "([CII)[B", sig := { parameters := [(.array .char), .int, .int], returnType := some (.array .byte) }, accessFlags := 9, code := some k13c2 }
def k13c3 : Code := { maxStack := 3, maxLocals := 7, code := jdk_52_method_21_code, exceptionTable := #[], attributes := #[] }
def k13m3 : Method := { name := "compress", desc := "([CI[BII)I", sig := { parameters := [(.array .char), .int, (.array .byte), .int, .int], returnType := some .int }, accessFlags := 9, code := some k13c3 }
/-- java/lang/StringUTF16 -/
def k13 : Class := { plain "java/lang/StringUTF16" (some 0) with
  accessFlags := 48
  interfaces := #[]
  cf := some (fileOf pool13 12 #[.nestMembers #[627, 629, 369]] #[{ accessFlags := 0, nameIndex := 9, descriptorIndex := 10, attributes := #[] }, { accessFlags := 8, nameIndex := 261, descriptorIndex := 262, attributes := #[] }, { accessFlags := 9, nameIndex := 117, descriptorIndex := 122, attributes := #[] }, { accessFlags := 9, nameIndex := 117, descriptorIndex := 118, attributes := #[] }] 48 6 #[] #[{ accessFlags := 26, nameIndex := 61, descriptorIndex := 62, attributes := #[] }, { accessFlags := 26, nameIndex := 65, descriptorIndex := 62, attributes := #[] }, { accessFlags := 24, nameIndex := 430, descriptorIndex := 62, attributes := #[] }, { accessFlags := 4120, nameIndex := 46, descriptorIndex := 47, attributes := #[] }])
  fields := #[{ name := "HI_BYTE_SHIFT", type := .int, accessFlags := 26, slot := 0, constantValue := 0 }, { name := "LO_BYTE_SHIFT", type := .int, accessFlags := 26, slot := 1, constantValue := 0 }, { name := "MAX_LENGTH", type := .int, accessFlags := 24, slot := 2, constantValue := 0 }, { name := "$assertionsDisabled", type := .boolean, accessFlags := 4120, slot := 3, constantValue := 0 }]
  methods := #[k13m0, k13m1, k13m2, k13m3]
  instanceTypes := #[]
  staticTypes := #[.int, .int, .int, .boolean]
  resolved := Array.replicate 635 none
  statics := none }

def pool14 : Array CpInfo := pool [(2, .class_ 4), (1, u "java/lang/Object"), (0, u "<init>"), (0, u "()V"), (17, .class_ 26), (1, u "jdk/internal/util/Preconditions"), (28, .class_ 56), (0, u "jdk/internal/util/Preconditions$4"), (57, .class_ 115), (0, u "jdk/internal/util/Preconditions$1"), (7, u "SIOOBE_FORMATTER"), (0, u "Ljava/util/function/BiFunction;"), (0, .class_ 126), (0, u "jdk/internal/util/Preconditions$2"), (3, u "AIOOBE_FORMATTER"), (0, .class_ 132), (0, u "jdk/internal/util/Preconditions$3"), (3, u "IOOBE_FORMATTER")] 57

def k14m0 : Method := { name := "<init>", desc := "()V", sig := { parameters := [], returnType := none }, accessFlags := 1, code := none }
/-- jdk/internal/util/Preconditions -/
def k14 : Class := { plain "jdk/internal/util/Preconditions" (some 0) with
  accessFlags := 33
  interfaces := #[]
  cf := some (fileOf pool14 24 #[.nestMembers #[55, 131, 125, 114]] #[{ accessFlags := 1, nameIndex := 5, descriptorIndex := 6, attributes := #[] }] 33 2 #[] #[{ accessFlags := 25, nameIndex := 123, descriptorIndex := 124, attributes := #[] }, { accessFlags := 25, nameIndex := 130, descriptorIndex := 124, attributes := #[] }, { accessFlags := 25, nameIndex := 136, descriptorIndex := 124, attributes := #[] }])
  fields := #[{ name := "SIOOBE_FORMATTER", type := (.object "java/util/function/BiFunction"), accessFlags := 25, slot := 0, constantValue := 0 }, { name := "AIOOBE_FORMATTER", type := (.object "java/util/function/BiFunction"), accessFlags := 25, slot := 1, constantValue := 0 }, { name := "IOOBE_FORMATTER", type := (.object "java/util/function/BiFunction"), accessFlags := 25, slot := 2, constantValue := 0 }]
  methods := #[k14m0]
  instanceTypes := #[]
  staticTypes := #[(.object "java/util/function/BiFunction"), (.object "java/util/function/BiFunction"), (.object "java/util/function/BiFunction")]
  resolved := Array.replicate 194 none
  statics := some 2 }

def pool15 : Array CpInfo := pool [(9, u "<init>"), (6, .class_ 18), (1, u "java/lang/Object"), (0, u "()V"), (1, .class_ 23), (1, u "jdk/internal/util/ArraysSupport"), (0, u "LOG2_ARRAY_LONG_INDEX_SCALE"), (0, u "I"), (2, u "U"), (0, u "Ljdk/internal/misc/Unsafe;"), (8, u "BIG_ENDIAN"), (0, u "Z"), (8, u "LOG2_BYTE_BIT_SIZE"), (4, u "LOG2_ARRAY_INT_INDEX_SCALE"), (54, u "JLA"), (0, u "Ljdk/internal/access/JavaLangAccess;"), (11, u "LOG2_ARRAY_BOOLEAN_INDEX_SCALE"), (9, u "LOG2_ARRAY_BYTE_INDEX_SCALE"), (5, u "LOG2_ARRAY_CHAR_INDEX_SCALE"), (5, u "LOG2_ARRAY_SHORT_INDEX_SCALE"), (18, u "LOG2_ARRAY_FLOAT_INDEX_SCALE"), (24, u "LOG2_ARRAY_DOUBLE_INDEX_SCALE"), (89, u "T_BOOLEAN"), (2, u "T_CHAR"), (1, u "T_FLOAT"), (1, u "T_DOUBLE"), (1, u "T_BYTE"), (1, u "T_SHORT"), (1, u "T_INT"), (1, u "T_LONG"), (1, u "SOFT_MAX_ARRAY_LENGTH")] 83

def k15m0 : Method := { name := "<init>", desc := "()V", sig := { parameters := [], returnType := none }, accessFlags := 2, code := none }
/-- jdk/internal/util/ArraysSupport -/
def k15 : Class := { plain "jdk/internal/util/ArraysSupport" (some 0) with
  accessFlags := 33
  interfaces := #[]
  cf := some (fileOf pool15 21 #[] #[{ accessFlags := 2, nameIndex := 9, descriptorIndex := 19, attributes := #[] }] 33 16 #[] #[{ accessFlags := 24, nameIndex := 28, descriptorIndex := 29, attributes := #[] }, { accessFlags := 26, nameIndex := 38, descriptorIndex := 39, attributes := #[] }, { accessFlags := 25, nameIndex := 121, descriptorIndex := 25, attributes := #[] }, { accessFlags := 25, nameIndex := 131, descriptorIndex := 25, attributes := #[] }, { accessFlags := 25, nameIndex := 137, descriptorIndex := 25, attributes := #[] }, { accessFlags := 25, nameIndex := 143, descriptorIndex := 25, attributes := #[] }, { accessFlags := 25, nameIndex := 53, descriptorIndex := 25, attributes := #[] }, { accessFlags := 25, nameIndex := 24, descriptorIndex := 25, attributes := #[] }, { accessFlags := 25, nameIndex := 162, descriptorIndex := 25, attributes := #[] }, { accessFlags := 25, nameIndex := 187, descriptorIndex := 25, attributes := #[] }, { accessFlags := 26, nameIndex := 48, descriptorIndex := 25, attributes := #[] }, { accessFlags := 25, nameIndex := 277, descriptorIndex := 25, attributes := #[] }, { accessFlags := 25, nameIndex := 280, descriptorIndex := 25, attributes := #[] }, { accessFlags := 25, nameIndex := 282, descriptorIndex := 25, attributes := #[] }, { accessFlags := 25, nameIndex := 284, descriptorIndex := 25, attributes := #[] }, { accessFlags := 25, nameIndex := 286, descriptorIndex := 25, attributes := #[] }, { accessFlags := 25, nameIndex := 288, descriptorIndex := 25, attributes := #[] }, { accessFlags := 25, nameIndex := 290, descriptorIndex := 25, attributes := #[] }, { accessFlags := 25, nameIndex := 292, descriptorIndex := 25, attributes := #[] }, { accessFlags := 26, nameIndex := 108, descriptorIndex := 109, attributes := #[] }, { accessFlags := 25, nameIndex := 294, descriptorIndex := 25, attributes := #[] }])
  fields := #[{ name := "U", type := (.object "jdk/internal/misc/Unsafe"), accessFlags := 24, slot := 0, constantValue := 0 }, { name := "BIG_ENDIAN", type := .boolean, accessFlags := 26, slot := 1, constantValue := 0 }, { name := "LOG2_ARRAY_BOOLEAN_INDEX_SCALE", type := .int, accessFlags := 25, slot := 2, constantValue := 0 }, { name := "LOG2_ARRAY_BYTE_INDEX_SCALE", type := .int, accessFlags := 25, slot := 3, constantValue := 0 }, { name := "LOG2_ARRAY_CHAR_INDEX_SCALE", type := .int, accessFlags := 25, slot := 4, constantValue := 0 }, { name := "LOG2_ARRAY_SHORT_INDEX_SCALE", type := .int, accessFlags := 25, slot := 5, constantValue := 0 }, { name := "LOG2_ARRAY_INT_INDEX_SCALE", type := .int, accessFlags := 25, slot := 6, constantValue := 0 }, { name := "LOG2_ARRAY_LONG_INDEX_SCALE", type := .int, accessFlags := 25, slot := 7, constantValue := 0 }, { name := "LOG2_ARRAY_FLOAT_INDEX_SCALE", type := .int, accessFlags := 25, slot := 8, constantValue := 0 }, { name := "LOG2_ARRAY_DOUBLE_INDEX_SCALE", type := .int, accessFlags := 25, slot := 9, constantValue := 0 }, { name := "LOG2_BYTE_BIT_SIZE", type := .int, accessFlags := 26, slot := 10, constantValue := 0 }, { name := "T_BOOLEAN", type := .int, accessFlags := 25, slot := 11, constantValue := 0 }, { name := "T_CHAR", type := .int, accessFlags := 25, slot := 12, constantValue := 0 }, { name := "T_FLOAT", type := .int, accessFlags := 25, slot := 13, constantValue := 0 }, { name := "T_DOUBLE", type := .int, accessFlags := 25, slot := 14, constantValue := 0 }, { name := "T_BYTE", type := .int, accessFlags := 25, slot := 15, constantValue := 0 }, { name := "T_SHORT", type := .int, accessFlags := 25, slot := 16, constantValue := 0 }, { name := "T_INT", type := .int, accessFlags := 25, slot := 17, constantValue := 0 }, { name := "T_LONG", type := .int, accessFlags := 25, slot := 18, constantValue := 0 }, { name := "JLA", type := (.object "jdk/internal/access/JavaLangAccess"), accessFlags := 26, slot := 19, constantValue := 0 }, { name := "SOFT_MAX_ARRAY_LENGTH", type := .int, accessFlags := 25, slot := 20, constantValue := 0 }]
  methods := #[k15m0]
  instanceTypes := #[]
  staticTypes := #[(.object "jdk/internal/misc/Unsafe"), .boolean, .int, .int, .int, .int, .int, .int, .int, .int, .int, .int, .int, .int, .int, .int, .int, .int, .int, (.object "jdk/internal/access/JavaLangAccess"), .int]
  resolved := Array.replicate 378 none
  statics := none }

def pool16 : Array CpInfo := pool [(1, u "java/lang/Cloneable"), (0, .class_ 1), (0, u "java/lang/Object"), (0, .class_ 3)] 3

/-- java/lang/Cloneable -/
def k16 : Class := { plain "java/lang/Cloneable" (some 0) with
  accessFlags := 1537
  interfaces := #[]
  cf := some (fileOf pool16 2 #[] #[] 1537 4 #[] #[])
  fields := #[]
  methods := #[]
  instanceTypes := #[]
  staticTypes := #[]
  resolved := Array.replicate 8 none
  statics := none }

/-- the primitive byte -/
def k17 : Class := { plain "byte" none with kind := .primitive 'B', accessFlags := 0x411 }
/-- [B -/
def k18 : Class := { plain "[B" (some 0) with kind := .array 17 .byte, interfaces := #[16, 6], accessFlags := 1041 }

/-- the primitive char -/
def k19 : Class := { plain "char" none with kind := .primitive 'C', accessFlags := 0x411 }
/-- [C -/
def k20 : Class := { plain "[C" (some 0) with kind := .array 19 .char, interfaces := #[16, 6], accessFlags := 1041 }

/-- the primitive int -/
def k21 : Class := { plain "int" none with kind := .primitive 'I', accessFlags := 0x411 }
/-- [I -/
def k22 : Class := { plain "[I" (some 0) with kind := .array 21 .int, interfaces := #[16, 6], accessFlags := 1041 }

def heap : Heap := #[{ cls := 8, slots := #[.ref 3, .ref 4, .ref 5, .ref 6, .ref 7, .ref 8, .null], vm := .statics 8 },
  { cls := 11, slots := #[.long 0, .int 1, .null, .int 0, .null, .int 0, .int 0], vm := .statics 11 },
  { cls := 14, slots := #[.null, .null, .null], vm := .statics 14 },
  { cls := 8, slots := #[.null, .int 0, .int 0], vm := .none },
  { cls := 8, slots := #[.null, .int 1, .int 0], vm := .none },
  { cls := 8, slots := #[.null, .int 2, .int 0], vm := .none },
  { cls := 8, slots := #[.null, .int 3, .int 0], vm := .none },
  { cls := 8, slots := #[.null, .int 4, .int 0], vm := .none },
  { cls := 8, slots := #[.null, .int 5, .int 0], vm := .none }]
def classes : Array Class := #[k0, k1, k2, k3, k4, k5, k6, k7, k8, k9, k10, k11, k12, k13, k14, k15, k16, k17, k18, k19, k20, k21, k22]
def interned : List (Array UInt16 × Addr) := []
def slotsUsed : Nat := 35
def theMethod : MethodId := ⟨1, 3⟩
def args0 : Array Value := #[.int 5, .int 5, .int 5, .int 5, .int 5]
def aboutOver (below : List Frame) : State where
  vm := { classes := classes, interned := interned.toArray }
  heap := heap
  slotsUsed := slotsUsed
  threads := #[{ frames := .invoking theMethod args0 :: below }]
def below0 : List Frame := [.native { method := ⟨0, 0⟩, args := #[] }]
def about1 : State := aboutOver below0
def p0 : Program := .bare "" "" ""
def e0 : Env := launch0.env 0 0 0
theorem w_frames : about1.frames = Frame.invoking theMethod args0 :: below0 := rfl
set_option maxRecDepth 65536 in
theorem w_args : argsFit about1.vm theMethod args0 = true := by decide +kernel
set_option maxRecDepth 65536 in
theorem w_heap : heapFits about1 = true := by decide +kernel
set_option maxRecDepth 65536 in
theorem w_runnable : about1.curStatus? = some .runnable := by decide +kernel
set_option maxRecDepth 65536 in
theorem w_alone : about1.alone = true := by decide +kernel
set_option maxRecDepth 65536 in
theorem w_named : about1.methodNamed? x = some theMethod := by decide +kernel
set_option maxRecDepth 65536 in
theorem w_hears : about1.hears theMethod below0 = true := by decide +kernel
set_option maxRecDepth 65536 in
theorem w_ripe : about1.ripe theMethod args0 below0 = true := by decide +kernel
theorem w_running : about1.status = .running := rfl
set_option maxRecDepth 65536 in
theorem w_room : about1.hasRoom e0.platform room_1 = true :=
  launch0.hasRoom_least _ room_1 (by decide +kernel) (by decide +kernel) (by decide +kernel) (by decide +kernel) (by decide +kernel) (by decide +kernel)
theorem allAtoms_all (ts : List Jvm.Cond) (a : Array Jvm.Value) (st : Jvm.State) : (allAtoms ts).before a st = ts.all (fun c => c.before a st) := by
  induction ts with
  | nil => rfl
  | cons c t ih =>
    show (Jvm.Cond.and c (allAtoms t)).before a st = _
    rw [Jvm.Cond.before_and, ih, List.all_cons]
def words1 : List Jvm.Cond := Jvm.Cond.code x code maxLocals ret :: tables_1
/-- a 'code' word, met by the world's own term for the bytes: nothing is compared byte by byte -/
theorem code_word {y : MethodName} {bytes : ByteArray} {mx : Nat} {rt : Option FieldType} {a : Array Value} {s : State} {m : MethodId} {meth : Method} {c : Code} (h1 : s.methodNamed? y = some m) (h2 : s.vm.method? m = some meth) (h3 : meth.code = some c) (h4 : c.code = bytes)
    (h5 : (c.maxLocals == mx && c.exceptionTable.isEmpty && decide (c.maxStack ≤ mostOperands) && decide (meth.sig.returnType = rt) && !meth.locks && decide (parseMethodDescriptor y.desc = some meth.sig)) = true) : (Jvm.Cond.code y bytes mx rt).before a s = true := by
  simp only [Bool.and_eq_true, beq_iff_eq, Bool.not_eq_true', decide_eq_true_eq] at h5
  obtain ⟨⟨⟨⟨⟨g1, g2⟩, g3⟩, g4⟩, g5⟩, g6⟩ := h5
  simp [Cond.before, Cond.holds, Cond.value, h1, h2, h3, h4, g1, g2, g3, g4, g5, g6]
def isCode : Jvm.Cond → Bool
  | .code _ _ _ _ => true
  | _ => false
theorem all_split {L : List Jvm.Cond} {P : Jvm.Cond → Bool} (h1 : L.all (fun c => isCode c || P c) = true) (h2 : ∀ c ∈ L.filter isCode, P c = true) : L.all P = true := by
  refine List.all_eq_true.mpr fun c hc => ?_
  have h := List.all_eq_true.mp h1 c hc
  rcases Bool.eq_false_or_eq_true (isCode c) with hi | hi
  · exact h2 c (List.mem_filter.mpr ⟨hc, hi⟩)
  · simpa [hi] using h
set_option maxRecDepth 65536 in
theorem w_c0 : (Jvm.Cond.code x code maxLocals ret).before args0 about1 = true := code_word (m := ⟨1, 3⟩) (meth := k1m3) (c := k1c3) (by decide +kernel) rfl rfl rfl (by decide +kernel)
set_option maxRecDepth 65536 in
theorem w_c1 : (Jvm.Cond.code ({ cls := "com/example/sequela/sequela/TokenIsPinLaw", name := "kind", desc := "(I)Lcom/example/sequela/sequela/Lexer$Kind;" } : Jvm.MethodName) method_2_code (1 : Nat) (Option.some (Jvm.ClassFile.FieldType.object "com/example/sequela/sequela/Lexer$Kind"))).before args0 about1 = true := code_word (m := ⟨1, 1⟩) (meth := k1m1) (c := k1c1) (by decide +kernel) rfl rfl rfl (by decide +kernel)
set_option maxRecDepth 65536 in
theorem w_c2 : (Jvm.Cond.code ({ cls := "com/example/sequela/sequela/TokenIsPinLaw", name := "text", desc := "(II)Ljava/lang/String;" } : Jvm.MethodName) method_3_code (5 : Nat) (Option.some (Jvm.ClassFile.FieldType.object "java/lang/String"))).before args0 about1 = true := code_word (m := ⟨1, 2⟩) (meth := k1m2) (c := k1c2) (by decide +kernel) rfl rfl rfl (by decide +kernel)
set_option maxRecDepth 65536 in
theorem w_c3 : (Jvm.Cond.code ({ cls := "java/lang/String", name := "<init>", desc := "([C)V" } : Jvm.MethodName) jdk_42_method_3_code (2 : Nat) (Option.none : Option Jvm.ClassFile.FieldType)).before args0 about1 = true := code_word (m := ⟨11, 1⟩) (meth := k11m1) (c := k11c1) (by decide +kernel) rfl rfl rfl (by decide +kernel)
set_option maxRecDepth 65536 in
theorem w_c4 : (Jvm.Cond.code ({ cls := "java/lang/String", name := "<init>", desc := "([CIILjava/lang/Void;)V" } : Jvm.MethodName) jdk_42_method_149_code (6 : Nat) (Option.none : Option Jvm.ClassFile.FieldType)).before args0 about1 = true := code_word (m := ⟨11, 3⟩) (meth := k11m3) (c := k11c3) (by decide +kernel) rfl rfl rfl (by decide +kernel)
set_option maxRecDepth 65536 in
theorem w_c5 : (Jvm.Cond.code ({ cls := "java/lang/Object", name := "<init>", desc := "()V" } : Jvm.MethodName) object_method_1_code (1 : Nat) (Option.none : Option Jvm.ClassFile.FieldType)).before args0 about1 = true := code_word (m := ⟨0, 0⟩) (meth := k0m0) (c := k0c0) (by decide +kernel) rfl rfl rfl (by decide +kernel)
set_option maxRecDepth 65536 in
theorem w_c6 : (Jvm.Cond.code ({ cls := "com/example/sequela/sequela/Lexer$Token", name := "<init>", desc := "(Lcom/example/sequela/sequela/Lexer$Kind;Ljava/lang/String;I)V" } : Jvm.MethodName) prog_20_method_1_code (4 : Nat) (Option.none : Option Jvm.ClassFile.FieldType)).before args0 about1 = true := code_word (m := ⟨3, 0⟩) (meth := k3m0) (c := k3c0) (by decide +kernel) rfl rfl rfl (by decide +kernel)
set_option maxRecDepth 65536 in
theorem w_c7 : (Jvm.Cond.code ({ cls := "java/lang/Record", name := "<init>", desc := "()V" } : Jvm.MethodName) jdk_30_method_1_code (1 : Nat) (Option.none : Option Jvm.ClassFile.FieldType)).before args0 about1 = true := code_word (m := ⟨2, 0⟩) (meth := k2m0) (c := k2c0) (by decide +kernel) rfl rfl rfl (by decide +kernel)
set_option maxRecDepth 65536 in
theorem w_c8 : (Jvm.Cond.code ({ cls := "com/example/sequela/sequela/Lexer$Token", name := "is", desc := "(Lcom/example/sequela/sequela/Lexer$Kind;Ljava/lang/String;)Z" } : Jvm.MethodName) prog_20_method_2_code (3 : Nat) (Option.some Jvm.ClassFile.FieldType.boolean)).before args0 about1 = true := code_word (m := ⟨3, 1⟩) (meth := k3m1) (c := k3c1) (by decide +kernel) rfl rfl rfl (by decide +kernel)
set_option maxRecDepth 65536 in
theorem w_c9 : (Jvm.Cond.code ({ cls := "java/lang/String", name := "equals", desc := "(Ljava/lang/Object;)Z" } : Jvm.MethodName) jdk_42_method_66_code (3 : Nat) (Option.some Jvm.ClassFile.FieldType.boolean)).before args0 about1 = true := code_word (m := ⟨11, 2⟩) (meth := k11m2) (c := k11c2) (by decide +kernel) rfl rfl rfl (by decide +kernel)
set_option maxRecDepth 65536 in
theorem w_c10 : (Jvm.Cond.code ({ cls := "java/lang/StringLatin1", name := "equals", desc := "([B[B)Z" } : Jvm.MethodName) jdk_43_method_13_code (3 : Nat) (Option.some Jvm.ClassFile.FieldType.boolean)).before args0 about1 = true := code_word (m := ⟨12, 1⟩) (meth := k12m1) (c := k12c1) (by decide +kernel) rfl rfl rfl (by decide +kernel)
set_option maxRecDepth 65536 in
theorem w_c11 : (Jvm.Cond.code ({ cls := "java/lang/StringUTF16", name := "compress", desc := "([CII)[B" } : Jvm.MethodName) jdk_52_method_16_code (6 : Nat) (Option.some (Jvm.ClassFile.FieldType.array Jvm.ClassFile.FieldType.byte))).before args0 about1 = true := code_word (m := ⟨13, 2⟩) (meth := k13m2) (c := k13c2) (by decide +kernel) rfl rfl rfl (by decide +kernel)
set_option maxRecDepth 65536 in
theorem w_c12 : (Jvm.Cond.code ({ cls := "java/lang/StringUTF16", name := "compress", desc := "([CI[BII)I" } : Jvm.MethodName) jdk_52_method_21_code (7 : Nat) (Option.some Jvm.ClassFile.FieldType.int)).before args0 about1 = true := code_word (m := ⟨13, 3⟩) (meth := k13m3) (c := k13c3) (by decide +kernel) rfl rfl rfl (by decide +kernel)
set_option maxRecDepth 65536 in
theorem w_c13 : (Jvm.Cond.code ({ cls := "java/lang/StringUTF16", name := "coderFromArrayLen", desc := "([BI)B" } : Jvm.MethodName) jdk_52_method_15_code (2 : Nat) (Option.some Jvm.ClassFile.FieldType.byte)).before args0 about1 = true := code_word (m := ⟨13, 1⟩) (meth := k13m1) (c := k13c1) (by decide +kernel) rfl rfl rfl (by decide +kernel)
def codes1 : List Jvm.Cond := [Jvm.Cond.code x code maxLocals ret, Jvm.Cond.code ({ cls := "com/example/sequela/sequela/TokenIsPinLaw", name := "kind", desc := "(I)Lcom/example/sequela/sequela/Lexer$Kind;" } : Jvm.MethodName) method_2_code (1 : Nat) (Option.some (Jvm.ClassFile.FieldType.object "com/example/sequela/sequela/Lexer$Kind")), Jvm.Cond.code ({ cls := "com/example/sequela/sequela/TokenIsPinLaw", name := "text", desc := "(II)Ljava/lang/String;" } : Jvm.MethodName) method_3_code (5 : Nat) (Option.some (Jvm.ClassFile.FieldType.object "java/lang/String")), Jvm.Cond.code ({ cls := "java/lang/String", name := "<init>", desc := "([C)V" } : Jvm.MethodName) jdk_42_method_3_code (2 : Nat) (Option.none : Option Jvm.ClassFile.FieldType), Jvm.Cond.code ({ cls := "java/lang/String", name := "<init>", desc := "([CIILjava/lang/Void;)V" } : Jvm.MethodName) jdk_42_method_149_code (6 : Nat) (Option.none : Option Jvm.ClassFile.FieldType), Jvm.Cond.code ({ cls := "java/lang/Object", name := "<init>", desc := "()V" } : Jvm.MethodName) object_method_1_code (1 : Nat) (Option.none : Option Jvm.ClassFile.FieldType), Jvm.Cond.code ({ cls := "com/example/sequela/sequela/Lexer$Token", name := "<init>", desc := "(Lcom/example/sequela/sequela/Lexer$Kind;Ljava/lang/String;I)V" } : Jvm.MethodName) prog_20_method_1_code (4 : Nat) (Option.none : Option Jvm.ClassFile.FieldType), Jvm.Cond.code ({ cls := "java/lang/Record", name := "<init>", desc := "()V" } : Jvm.MethodName) jdk_30_method_1_code (1 : Nat) (Option.none : Option Jvm.ClassFile.FieldType), Jvm.Cond.code ({ cls := "com/example/sequela/sequela/Lexer$Token", name := "is", desc := "(Lcom/example/sequela/sequela/Lexer$Kind;Ljava/lang/String;)Z" } : Jvm.MethodName) prog_20_method_2_code (3 : Nat) (Option.some Jvm.ClassFile.FieldType.boolean), Jvm.Cond.code ({ cls := "java/lang/String", name := "equals", desc := "(Ljava/lang/Object;)Z" } : Jvm.MethodName) jdk_42_method_66_code (3 : Nat) (Option.some Jvm.ClassFile.FieldType.boolean), Jvm.Cond.code ({ cls := "java/lang/StringLatin1", name := "equals", desc := "([B[B)Z" } : Jvm.MethodName) jdk_43_method_13_code (3 : Nat) (Option.some Jvm.ClassFile.FieldType.boolean), Jvm.Cond.code ({ cls := "java/lang/StringUTF16", name := "compress", desc := "([CII)[B" } : Jvm.MethodName) jdk_52_method_16_code (6 : Nat) (Option.some (Jvm.ClassFile.FieldType.array Jvm.ClassFile.FieldType.byte)), Jvm.Cond.code ({ cls := "java/lang/StringUTF16", name := "compress", desc := "([CI[BII)I" } : Jvm.MethodName) jdk_52_method_21_code (7 : Nat) (Option.some Jvm.ClassFile.FieldType.int), Jvm.Cond.code ({ cls := "java/lang/StringUTF16", name := "coderFromArrayLen", desc := "([BI)B" } : Jvm.MethodName) jdk_52_method_15_code (2 : Nat) (Option.some Jvm.ClassFile.FieldType.byte)]
set_option maxRecDepth 65536 in
theorem codes_eq : words1.filter isCode = codes1 := rfl
theorem w_codes : ∀ c ∈ words1.filter isCode, c.before args0 about1 = true := by
  rw [codes_eq]
  intro c hc
  simp only [codes1, List.mem_cons, List.not_mem_nil, or_false] at hc
  rcases hc with rfl | rfl | rfl | rfl | rfl | rfl | rfl | rfl | rfl | rfl | rfl | rfl | rfl | rfl
  · exact w_c0
  · exact w_c1
  · exact w_c2
  · exact w_c3
  · exact w_c4
  · exact w_c5
  · exact w_c6
  · exact w_c7
  · exact w_c8
  · exact w_c9
  · exact w_c10
  · exact w_c11
  · exact w_c12
  · exact w_c13
set_option maxRecDepth 65536 in
theorem w_t1 : (words1.take 24).all (fun c => isCode c || c.before args0 about1) = true := by decide +kernel
set_option maxRecDepth 65536 in
theorem w_t2 : ((words1.drop 24).take 24).all (fun c => isCode c || c.before args0 about1) = true := by decide +kernel
set_option maxRecDepth 65536 in
theorem w_t3 : (((words1.drop 24).drop 24).take 24).all (fun c => isCode c || c.before args0 about1) = true := by decide +kernel
set_option maxRecDepth 65536 in
theorem w_t4 : (((words1.drop 24).drop 24).drop 24).all (fun c => isCode c || c.before args0 about1) = true := by decide +kernel
theorem w_tables : (allAtoms (Jvm.Cond.code x code maxLocals ret :: tables_1)).before args0 about1 = true := by
  rw [allAtoms_all]
  show words1.all (fun c => c.before args0 about1) = true
  refine all_split ?_ w_codes
  rw [← List.take_append_drop 24 words1, List.all_append, w_t1, ← List.take_append_drop 24 (words1.drop 24), List.all_append, w_t2, ← List.take_append_drop 24 ((words1.drop 24).drop 24), List.all_append, w_t3, w_t4]
  rfl
set_option maxRecDepth 65536 in
theorem w_rest : rest_1_c.before args0 about1 = true := by decide +kernel
set_option maxRecDepth 65536 in
theorem w_case : (Jvm.Cond.and given_1 narrow_1).before args0 about1 = true := by decide +kernel
set_option maxRecDepth 65536 in
theorem w_consts : constsHeld consts_1 about1 := Jvm.Lit.constsHeldB_iff.mp (by decide +kernel)
theorem w_applies : (headSpec (Jvm.Cond.code x code maxLocals ret :: tables_1) room_1).applies x e0.platform about1 = true :=
  (Spec.applies_iff w_frames).mpr ⟨w_running, w_runnable, w_alone, w_named, w_hears, w_ripe, w_room, w_tables⟩
theorem atStart : AtStart classFile x code maxLocals ret World_1 tables_1 room_1 Calls_1 rest_1 Pre_1 launch0 p0 e0 about1 theMethod args0 below0 :=
  ⟨lists_1, trivial, launch0.admits_env _ _ _, launch0.least_env, fairChoices_fair.cas, fairChoices_fair.clock, w_frames, w_args, w_heap, w_applies, ⟨w_consts, trivial⟩, w_rest, w_case⟩
end start1
theorem witness_1 : WitnessClaimed_1 := ⟨start1.p0, start1.e0, start1.about1, start1.theMethod, start1.args0, start1.below0, start1.atStart⟩
end Jvm.Pilot.@@N@@
