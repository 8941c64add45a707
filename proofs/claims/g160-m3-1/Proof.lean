import JvmDerived
import JvmDerived.Pilot.@@N@@Statement
import JvmDerived.Pilot.@@N@@Code
set_option linter.unusedVariables false
set_option linter.unusedSimpArgs false
namespace Jvm.RoadKit
open Sem ClassFile Op Lib Jvm.Stand Jvm.Free Jvm.LawKit
section New
variable {p : Program} {l : Launch} {e : Env} {R : Room} {s : State} {m : MethodId} {args : Array Value} {below : List Frame} {meth : Method} {c : Code} {T : State} {locs : List Loc} {cells slots : Nat}
theorem retI (X : Stand p l e R s m args below meth c T locs cells slots) (hx : p.tables.exec = Jvm.exec) {pc : Nat} {Ls : Array Slot} {z : Int32} {rest : List Value} (hret : meth.sig.returnType = some .int) (hd : decode c.code pc = .ok (.ireturn, 1)) {fs : List Frame}
    (hl : ∀ (f : JFrame) (acts : List Action), f.method = m → f.locked = none → f.entered = [] → (doReturn e (T.setTop f) acts (some (.int z))).1 = T.setFrames fs) : Steps p.tables e below (T.setTop (mkF m pc Ls (.int z :: rest))) (T.setFrames fs) := by
  have hm' : T.vm.method? m = some meth := X.method'
  have hn : narrow .int (.int z) = .int z := rfl
  show Steps p.tables e below (T.setTop { method := m, pc := pc, locals := Ls, stack := _ :: rest, locked := none }) _
  jvm_step X.here [X.here.top, hx, hd, hm', hret, hn]
  first | (intro acts; rw [hl _ acts rfl rfl rfl]) | rw [hl _ _ rfl rfl rfl]
  exact Steps.refl _
theorem retR (X : Stand p l e R s m args below meth c T locs cells slots) (hx : p.tables.exec = Jvm.exec) {pc : Nat} {Ls : Array Slot} {w : Value} {t : FieldType} {rest : List Value} (hret : meth.sig.returnType = some t) (hn : narrow t w = w) (ht : t.isReference = true) (hw : w.isRef = true) (hd : decode c.code pc = .ok (.areturn, 1)) {fs : List Frame}
    (hl : ∀ (f : JFrame) (acts : List Action), f.method = m → f.locked = none → f.entered = [] → (doReturn e (T.setTop f) acts (some w)).1 = T.setFrames fs) : Steps p.tables e below (T.setTop (mkF m pc Ls (w :: rest))) (T.setFrames fs) := by
  have hm' : T.vm.method? m = some meth := X.method'
  show Steps p.tables e below (T.setTop { method := m, pc := pc, locals := Ls, stack := _ :: rest, locked := none }) _
  jvm_step X.here [X.here.top, hx, hd, hm', hret, hn, hw]
  try (refine ⟨ht, ?_⟩)
  first | (intro acts; rw [hl _ acts rfl rfl rfl]) | rw [hl _ _ rfl rfl rfl]
  exact Steps.refl _
end New
end Jvm.RoadKit
/- laws to paste: Road.backV, Road.lenW, Road.chN, Road.codOf (cut by pick.py; bodies as the Statement names them) -/
namespace Jvm.Pilot.@@N@@
namespace StrChars
open Jvm Sem ClassFile Op Lib Jvm.Stand Jvm.Free.XT Jvm.Free.ALB Jvm.Free.JM Jvm.Free
open Jvm.Lib.Cold (StaticIs)
/-- a char array whose places are chars -/
def Ch (a : Addr) (A : Cell) (U : State) : Prop := Arr .char a A U ∧ Typed .char A
theorem Ch.mv {a : Addr} {A : Cell} {U U' : State} (h : Ch a A U) (hal : U.vm.Alike U'.vm) (hh : U'.heap = U.heap) : Ch a A U' := ⟨h.1.mv hal hh, h.2⟩
theorem Ch.keep {a : Addr} {A : Cell} {U U' : State} (h : Ch a A U) (hal : U.vm.Alike U'.vm) (hk : U'.heap[a]? = some A) : Ch a A U' := ⟨h.1.keep hal hk, h.2⟩
/-- what place i of a char[]'s cell holds -/
def cv (A : Cell) (i : Nat) : Int32 := match A.slots[i]? with | some (.int x) => x | _ => 0
theorem Ch.get {a : Addr} {A : Cell} {U : State} (h : Ch a A U) {i : Nat} (hi : i < A.slots.size) : A.slots[i]? = some (.int (cv A i)) := by
  have e := Array.getElem?_eq_getElem hi
  have f := h.2 i _ e
  unfold cv; rw [e]
  generalize A.slots[i] = v at f
  cases v <;> simp [fits] at f ⊢
/-- the byte that i2b leaves of a char -/
def lo8 (x : Int32) : Int32 := x.toInt8.toInt32
theorem fits_lo8 (y : Int32) : fits .byte (.int (lo8 y)) = true := by
  have h1 := y.toInt8.le_toInt
  have h2 := y.toInt8.toInt_lt
  simp only [lo8, fits, Bool.and_eq_true, decide_eq_true_eq, Int32.le_iff_toInt_le, Int8.toInt_toInt32, show (-128 : Int32).toInt = -128 from by decide, show (127 : Int32).toInt = 127 from by decide]
  omega
/-- A' is A but that each place j of lo .. hi - 1 holds f j -/
def Laid (A A' : Cell) (lo hi : Nat) (f : Nat → Value) : Prop := A'.cls = A.cls ∧ A'.vm = A.vm ∧ A'.slots.size = A.slots.size ∧ ∀ i, A'.slots[i]? = if lo ≤ i ∧ i < hi then some (f i) else A.slots[i]?
theorem Laid.zero (A : Cell) (lo : Nat) (f : Nat → Value) : Laid A A lo (lo + 0) f := ⟨rfl, rfl, rfl, fun i => by rw [if_neg (by omega)]⟩
theorem Laid.step {A Ak : Cell} {lo k : Nat} {f : Nat → Value} {v : Value} (h : Laid A Ak lo k f) (hlo : lo ≤ k) (hk : k < Ak.slots.size) (hv : v = f k) : Laid A (Ak.setSlot k v) lo (k + 1) f := by
  refine ⟨h.1, h.2.1, by simpa [Cell.setSlot] using h.2.2.1, fun i => ?_⟩
  by_cases e : k = i
  · subst e; rw [Cell.slots_setSlot_self v hk, if_pos (by omega), hv]
  · rw [Cell.slots_setSlot_ne v e, h.2.2.2 i]
    by_cases q : lo ≤ i ∧ i < k
    · rw [if_pos q, if_pos (by omega)]
    · rw [if_neg q, if_neg (by omega)]
def U16 : String := "java/lang/StringUTF16"
namespace Cmp5
def yN : MethodName := ⟨"java/lang/StringUTF16", "compress", "([CI[BII)I"⟩
abbrev yB : ByteArray := jdk_52_method_21_code
theorem d0 : decode yB 0 = .ok (.iconst 0, 1) := by decide +kernel
theorem d1 : decode yB 1 = .ok (.istore 5, 2) := by decide +kernel
theorem d3 : decode yB 3 = .ok (.iload 5, 2) := by decide +kernel
theorem d5 : decode yB 5 = .ok (.iload 4, 2) := by decide +kernel
theorem d7 : decode yB 7 = .ok (.if_icmp (.ge) 37, 3) := by decide +kernel
theorem d10 : decode yB 10 = .ok (.aload_n 0, 1) := by decide +kernel
theorem d11 : decode yB 11 = .ok (.iload_n 1, 1) := by decide +kernel
theorem d12 : decode yB 12 = .ok (.caload, 1) := by decide +kernel
theorem d13 : decode yB 13 = .ok (.istore 6, 2) := by decide +kernel
theorem d15 : decode yB 15 = .ok (.iload 6, 2) := by decide +kernel
theorem d17 : decode yB 17 = .ok (.sipush 255, 3) := by decide +kernel
theorem d20 : decode yB 20 = .ok (.if_icmp (.le) 6, 3) := by decide +kernel
theorem d26 : decode yB 26 = .ok (.aload_n 2, 1) := by decide +kernel
theorem d27 : decode yB 27 = .ok (.iload_n 3, 1) := by decide +kernel
theorem d28 : decode yB 28 = .ok (.iload 6, 2) := by decide +kernel
theorem d30 : decode yB 30 = .ok (.i2b, 1) := by decide +kernel
theorem d31 : decode yB 31 = .ok (.bastore, 1) := by decide +kernel
theorem d32 : decode yB 32 = .ok (.iinc 1 1, 3) := by decide +kernel
theorem d35 : decode yB 35 = .ok (.iinc 3 1, 3) := by decide +kernel
theorem d38 : decode yB 38 = .ok (.iinc 5 1, 3) := by decide +kernel
theorem d41 : decode yB 41 = .ok (.goto (-38), 3) := by decide +kernel
theorem d44 : decode yB 44 = .ok (.iload 4, 2) := by decide +kernel
theorem d46 : decode yB 46 = .ok (.ireturn, 1) := by decide +kernel
def site : List Cond := []
def tab : Cond := tabOf yN yB 7 (some .int) site
def P (b : Addr) (A : Cell) (d : Addr) (B : Cell) (o q len : Nat) (args : Array Value) (s : State) : Prop := args = #[.ref b, .int (Int32.ofNat o), .ref d, .int (Int32.ofNat q), .int (Int32.ofNat len)] ∧ Ch b A s ∧ Arr .byte d B s ∧ b ≠ d ∧ o + len ≤ A.slots.size ∧ q + len ≤ B.slots.size ∧ ∀ i, i < len → ¬ 255 < cv A (o + i)
def E (b : Addr) (A : Cell) (d : Addr) (B : Cell) (o q len : Nat) (r : Option Value) (s u : State) : Prop := r = some (.int (Int32.ofNat len)) ∧ ∃ B', Put d B' s u ∧ Laid B B' q (q + len) (fun j => Value.int (lo8 (cv A (o + (j - q)))))
/-- no char of the range above 255: len; the places written hold each char's low byte -/
theorem law (l : Launch) (b : Addr) (A : Cell) (d : Addr) (B : Cell) (o q len : Nat) : Law l yN 5 5 0 0 yB 7 (some .int) site (P b A d B o q len) (E b A d B o q len) (copyLocs d q len) 0 0 := by
  refine Law.of_walk (plainFor_of_name (by decide +kernel)) (by decide +kernel) (by decide +kernel) (by decide) (fun _ _ h => by rw [h.1]; rfl) (fun _ U U' hal hh h => ⟨h.1, h.2.1.mv hal hh, h.2.2.1.mv hal hh, h.2.2.2⟩) (fun r U U' V V' h1 hal h2 h => ⟨h.1, h.2.elim fun B' q => ⟨B', q.1.mv h1 h2, q.2⟩⟩) ?_
  intro p e s m args below meth c s₁ X0 hexec hbytes hml hret hlk hnm hown hh0 W hP
  obtain ⟨rfl, hA, hB, hne, l1, l2, hp⟩ := hP
  have c1 : Steps p.tables e below (s₁.setTop (entryFrame m #[.ref b, .int (Int32.ofNat o), .ref d, .int (Int32.ofNat q), .int (Int32.ofNat len)] 7)) (s₁.setTop (mkF m 0 #[.val (.ref b), .val (.int (Int32.ofNat o)), .val (.ref d), .val (.int (Int32.ofNat q)), .val (.int (Int32.ofNat len)), .unset, .unset] [])) := entry rfl
  have hA0 := hA.1.mv X0.warmed.alike hh0
  have hB0 := hB.mv X0.warmed.alike hh0
  have a31 := hA.1.2.2.2
  have c2 : Steps p.tables e below (s₁.setTop (entryFrame m #[.ref b, .int (Int32.ofNat o), .ref d, .int (Int32.ofNat q), .int (Int32.ofNat len)] 7)) (s₁.setTop (mkF m 3 #[.val (.ref b), .val (.int (Int32.ofNat o)), .val (.ref d), .val (.int (Int32.ofNat q)), .val (.int (Int32.ofNat len)), .val (.int 0), .unset] [])) := c1.trans (by
    refine iconstV X0.here hexec rfl 0 (hb hbytes d0) (by decide) ?_
    refine XS.istore X0.here hexec rfl (hb hbytes d1) rfl rfl ?_
    exact Steps.refl _)
  have loop : ∀ (r i : Nat), i + r = len → ∀ (z : Slot), (z = .unset ∨ ∃ w, z = .val w ∧ w.category = 1) → ∀ (Tl : State) (Bk : Cell), Stand p l e { frames := 0, locals := 0, cells := 0, slots := 0 } s m #[.ref b, .int (Int32.ofNat o), .ref d, .int (Int32.ofNat q), .int (Int32.ofNat len)] below meth c Tl ([] ++ copyLocs d q i) 0 0 → Put d Bk s₁ Tl → Laid B Bk q (q + i) (fun j => Value.int (lo8 (cv A (o + (j - q))))) →
      Steps p.tables e below (s₁.setTop (entryFrame m #[.ref b, .int (Int32.ofNat o), .ref d, .int (Int32.ofNat q), .int (Int32.ofNat len)] 7)) (Tl.setTop (mkF m 3 #[.val (.ref b), .val (.int (Int32.ofNat (o + i))), .val (.ref d), .val (.int (Int32.ofNat (q + i))), .val (.int (Int32.ofNat len)), .val (.int (Int32.ofNat i)), z] [])) → ∃ (T' : State) (B' : Cell) (z' : Slot), Stand p l e { frames := 0, locals := 0, cells := 0, slots := 0 } s m #[.ref b, .int (Int32.ofNat o), .ref d, .int (Int32.ofNat q), .int (Int32.ofNat len)] below meth c T' ([] ++ copyLocs d q len) 0 0 ∧ Put d B' s₁ T' ∧ Laid B B' q (q + len) (fun j => Value.int (lo8 (cv A (o + (j - q))))) ∧
      Steps p.tables e below (s₁.setTop (entryFrame m #[.ref b, .int (Int32.ofNat o), .ref d, .int (Int32.ofNat q), .int (Int32.ofNat len)] 7)) (T'.setTop (mkF m 3 #[.val (.ref b), .val (.int (Int32.ofNat (o + len))), .val (.ref d), .val (.int (Int32.ofNat (q + len))), .val (.int (Int32.ofNat len)), .val (.int (Int32.ofNat len)), z'] [])) := by
    intro r
    induction r with
    | zero =>
      intro i hi z hz Tl Bk Xl pl fl cl
      have hil : i = len := by omega
      rw [hil] at Xl fl cl
      exact ⟨Tl, Bk, z, Xl, pl, fl, cl⟩
    | succ r ih =>
      intro i hi z hz Tl Bk Xl pl fl cl
      have all := X0.warmed.alike.symm.trans Xl.warmed.alike
      have hAl := hA0.keep all (pl.other hne hA0.1)
      have hBk := hB0.like all pl.1 fl.1 fl.2.1 fl.2.2.1
      have hlt : q + i < Bk.slots.size := by rw [fl.2.2.1]; omega
      have c3 : Steps p.tables e below (s₁.setTop (entryFrame m #[.ref b, .int (Int32.ofNat o), .ref d, .int (Int32.ofNat q), .int (Int32.ofNat len)] 7)) (Tl.setTop (mkF m 12 #[.val (.ref b), .val (.int (Int32.ofNat (o + i))), .val (.ref d), .val (.int (Int32.ofNat (q + i))), .val (.int (Int32.ofNat len)), .val (.int (Int32.ofNat i)), z] [.int (Int32.ofNat (o + i)), .ref b])) := cl.trans (by
        refine XS.iload Xl.here hexec rfl (hb hbytes d3) rfl ?_
        refine XS.iload Xl.here hexec rfl (hb hbytes d5) rfl ?_
        refine XS.icmpNo Xl.here hexec rfl (hb hbytes d7) rfl (ii_ge_f (lt32 (by omega) (by omega))) ?_
        refine XS.aloadN Xl.here hexec rfl (hb hbytes d10) rfl rfl ?_
        refine XS.iloadN Xl.here hexec rfl (hb hbytes d11) rfl ?_
        exact Steps.refl _)
      have c4 : Steps p.tables e below (s₁.setTop (entryFrame m #[.ref b, .int (Int32.ofNat o), .ref d, .int (Int32.ofNat q), .int (Int32.ofNat len)] 7)) (Tl.setTop (mkF m 13 #[.val (.ref b), .val (.int (Int32.ofNat (o + i))), .val (.ref d), .val (.int (Int32.ofNat (q + i))), .val (.int (Int32.ofNat len)), .val (.int (Int32.ofNat i)), z] [.int (cv A (o + i))])) := c3.trans (by
        refine Xl.aget hexec hAl rfl (hA.get (i := o + i) (by omega)) rfl rfl (hb hbytes d12) ?_
        exact Steps.refl _)
      have c5 : Steps p.tables e below (s₁.setTop (entryFrame m #[.ref b, .int (Int32.ofNat o), .ref d, .int (Int32.ofNat q), .int (Int32.ofNat len)] 7)) (Tl.setTop (mkF m 15 #[.val (.ref b), .val (.int (Int32.ofNat (o + i))), .val (.ref d), .val (.int (Int32.ofNat (q + i))), .val (.int (Int32.ofNat len)), .val (.int (Int32.ofNat i)), .val (.int (cv A (o + i)))] [])) := c4.trans (by
        refine XS.istoreS Xl.here hexec rfl (hb hbytes d13) rfl rfl hz ?_
        exact Steps.refl _)
      have c6 : Steps p.tables e below (s₁.setTop (entryFrame m #[.ref b, .int (Int32.ofNat o), .ref d, .int (Int32.ofNat q), .int (Int32.ofNat len)] 7)) (Tl.setTop (mkF m 31 #[.val (.ref b), .val (.int (Int32.ofNat (o + i))), .val (.ref d), .val (.int (Int32.ofNat (q + i))), .val (.int (Int32.ofNat len)), .val (.int (Int32.ofNat i)), .val (.int (cv A (o + i)))] [.int (lo8 (cv A (o + i))), .int (Int32.ofNat (q + i)), .ref d])) := c5.trans (by
        refine XS.iload Xl.here hexec rfl (hb hbytes d15) rfl ?_
        refine sipushV Xl.here hexec rfl 255 (hb hbytes d17) (by decide) ?_
        refine XS.icmpYes Xl.here hexec rfl (pc0 := 20) rfl (hb hbytes d20) rfl (ii_le_t (hp i (by omega))) (by decide) rfl ?_
        refine XS.aloadN Xl.here hexec rfl (hb hbytes d26) rfl rfl ?_
        refine XS.iloadN Xl.here hexec rfl (hb hbytes d27) rfl ?_
        refine XS.iload Xl.here hexec rfl (hb hbytes d28) rfl ?_
        refine i2b Xl.here hexec rfl (hb hbytes d30) rfl ?_
        exact Steps.refl _)
      obtain ⟨T7, X7, p7, st7⟩ := Xl.aput hexec hBk rfl hlt rfl (fits_lo8 (cv A (o + i))) (g := (mkF m 31 #[.val (.ref b), .val (.int (Int32.ofNat (o + i))), .val (.ref d), .val (.int (Int32.ofNat (q + i))), .val (.int (Int32.ofNat len)), .val (.int (Int32.ofNat i)), .val (.int (cv A (o + i)))] [.int (lo8 (cv A (o + i))), .int (Int32.ofNat (q + i)), .ref d])) rfl (rest := []) rfl (hb hbytes d31)
      have c8 : Steps p.tables e below (s₁.setTop (entryFrame m #[.ref b, .int (Int32.ofNat o), .ref d, .int (Int32.ofNat q), .int (Int32.ofNat len)] 7)) (T7.setTop (mkF m 32 #[.val (.ref b), .val (.int (Int32.ofNat (o + i))), .val (.ref d), .val (.int (Int32.ofNat (q + i))), .val (.int (Int32.ofNat len)), .val (.int (Int32.ofNat i)), .val (.int (cv A (o + i)))] [])) := c6.trans (st7 _ (Steps.refl _))
      have c9 : Steps p.tables e below (s₁.setTop (entryFrame m #[.ref b, .int (Int32.ofNat o), .ref d, .int (Int32.ofNat q), .int (Int32.ofNat len)] 7)) (T7.setTop (mkF m 3 #[.val (.ref b), .val (.int (Int32.ofNat (o + i) + 1)), .val (.ref d), .val (.int (Int32.ofNat (q + i) + 1)), .val (.int (Int32.ofNat len)), .val (.int (Int32.ofNat i + 1)), .val (.int (cv A (o + i)))] [])) := c8.trans (by
        refine iincV X7.here hexec rfl 1 (hb hbytes d32) (by decide) rfl rfl ?_
        refine iincV X7.here hexec rfl 1 (hb hbytes d35) (by decide) rfl rfl ?_
        refine iincV X7.here hexec rfl 1 (hb hbytes d38) (by decide) rfl rfl ?_
        refine XS.goto X7.here hexec rfl (pc0 := 41) rfl (hb hbytes d41) (by decide) rfl ?_
        exact Steps.refl _)
      have c10 : Steps p.tables e below (s₁.setTop (entryFrame m #[.ref b, .int (Int32.ofNat o), .ref d, .int (Int32.ofNat q), .int (Int32.ofNat len)] 7)) (T7.setTop (mkF m 3 #[.val (.ref b), .val (.int (Int32.ofNat (o + (i + 1)))), .val (.ref d), .val (.int (Int32.ofNat (q + (i + 1)))), .val (.int (Int32.ofNat len)), .val (.int (Int32.ofNat (i + 1))), .val (.int (cv A (o + i)))] [])) := by
        have := c9
        rw [succ32, succ32, succ32] at this
        exact this
      exact ih (i + 1) (by omega) _ (Or.inr ⟨_, rfl, rfl⟩) T7 _ (by rw [copyLocs_step, ← List.append_assoc]; exact X7) (pl.trans p7) (fl.step (by omega) hlt (by simp)) c10
  obtain ⟨T9, B9, z9, X9, p9, f9, g9⟩ := loop len 0 (by omega) .unset (Or.inl rfl) s₁ B (by simpa [copyLocs] using X0) ⟨hB0.1, fun _ _ => rfl, rfl⟩ (Laid.zero _ _ _) c2
  have c11 : Steps p.tables e below (s₁.setTop (entryFrame m #[.ref b, .int (Int32.ofNat o), .ref d, .int (Int32.ofNat q), .int (Int32.ofNat len)] 7)) (T9.setTop (mkF m 46 #[.val (.ref b), .val (.int (Int32.ofNat (o + len))), .val (.ref d), .val (.int (Int32.ofNat (q + len))), .val (.int (Int32.ofNat len)), .val (.int (Int32.ofNat len)), z9] [.int (Int32.ofNat len)])) := g9.trans (by
    refine XS.iload X9.here hexec rfl (hb hbytes d3) rfl ?_
    refine XS.iload X9.here hexec rfl (hb hbytes d5) rfl ?_
    refine XS.icmpYes X9.here hexec rfl (pc0 := 7) rfl (hb hbytes d7) rfl (ii_ge_t (nlt32 (by omega) (Nat.le_refl _))) (by decide) rfl ?_
    refine XS.iload X9.here hexec rfl (hb hbytes d44) rfl ?_
    exact Steps.refl _)
  exact ⟨T9, some (.int (Int32.ofNat len)), _, _, _, X9, by simp, rfl, rfl, (fun h => by cases h), ⟨rfl, B9, p9.from hh0, f9⟩, fun fs hl => c11.trans (X9.ireturnOut hexec hret rfl (Or.inl rfl) (hb hbytes d46) hl)⟩
end Cmp5
namespace Cmp3
def yN : MethodName := ⟨"java/lang/StringUTF16", "compress", "([CII)[B"⟩
abbrev yB : ByteArray := jdk_52_method_16_code
theorem d0 : decode yB 0 = .ok (.iload_n 2, 1) := by decide +kernel
theorem d1 : decode yB 1 = .ok (.newarray .byte, 2) := by decide +kernel
theorem d3 : decode yB 3 = .ok (.astore_n 3, 1) := by decide +kernel
theorem d4 : decode yB 4 = .ok (.aload_n 0, 1) := by decide +kernel
theorem d5 : decode yB 5 = .ok (.iload_n 1, 1) := by decide +kernel
theorem d6 : decode yB 6 = .ok (.aload_n 3, 1) := by decide +kernel
theorem d7 : decode yB 7 = .ok (.iconst 0, 1) := by decide +kernel
theorem d8 : decode yB 8 = .ok (.iload_n 2, 1) := by decide +kernel
theorem d9 : decode yB 9 = .ok (.invokestatic 115, 3) := by decide +kernel
theorem d12 : decode yB 12 = .ok (.istore 4, 2) := by decide +kernel
theorem d14 : decode yB 14 = .ok (.iload 4, 2) := by decide +kernel
theorem d16 : decode yB 16 = .ok (.iload_n 2, 1) := by decide +kernel
theorem d17 : decode yB 17 = .ok (.if_icmp (.eq) 40, 3) := by decide +kernel
theorem d57 : decode yB 57 = .ok (.aload_n 3, 1) := by decide +kernel
theorem d58 : decode yB 58 = .ok (.areturn, 1) := by decide +kernel
def site : List Cond := [.arrayClass .byte, Cmp5.tab] ++ staticW U16 115 Cmp5.yN
def tab : Cond := tabOf yN yB 6 (some (.array .byte)) site
def P (b : Addr) (A : Cell) (o len : Nat) (args : Array Value) (s : State) : Prop := args = #[.ref b, .int (Int32.ofNat o), .int (Int32.ofNat len)] ∧ Ch b A s ∧ o + len ≤ A.slots.size ∧ len ≤ 536870912 ∧ ∀ i, i < len → ¬ 255 < cv A (o + i)
def E (b : Addr) (A : Cell) (o len : Nat) (r : Option Value) (s u : State) : Prop := NewArr .byte "[B" len (fun j => .int (lo8 (cv A (o + j)))) r s u ∧ u.heap.size = s.heap.size + 1
/-- no char of the range above 255: a new byte[] of their low bytes -/
theorem law (l : Launch) (b : Addr) (A : Cell) (o len : Nat) : Law l yN 3 3 1 18 yB 6 (some (.array .byte)) site (P b A o len) (E b A o len) [] 1 len := by
  refine Law.of_walk (plainFor_of_name (by decide +kernel)) (by decide +kernel) (by decide +kernel) (by decide) (fun _ _ h => by rw [h.1]; rfl) (fun _ U U' hal hh h => ⟨h.1, h.2.1.mv hal hh, h.2.2⟩) (fun r U U' V V' h1 hal h2 h => ⟨NewArr.mv r U U' V V' h1 hal h2 h.1, by rw [h1, h2]; exact h.2⟩) ?_
  intro p e s m args below meth c s₁ X0 hexec hbytes hml hret hlk hnm hown hh0 W hP
  obtain ⟨rfl, hA, l1, l2, hp⟩ := hP
  have a31 := hA.1.2.2.2
  have c1 : Steps p.tables e below (s₁.setTop (entryFrame m #[.ref b, .int (Int32.ofNat o), .int (Int32.ofNat len)] 6)) (s₁.setTop (mkF m 0 #[.val (.ref b), .val (.int (Int32.ofNat o)), .val (.int (Int32.ofNat len)), .unset, .unset, .unset] [])) := entry rfl
  have c2 : Steps p.tables e below (s₁.setTop (entryFrame m #[.ref b, .int (Int32.ofNat o), .int (Int32.ofNat len)] 6)) (s₁.setTop (mkF m 1 #[.val (.ref b), .val (.int (Int32.ofNat o)), .val (.int (Int32.ofNat len)), .unset, .unset, .unset] [.int (Int32.ofNat len)])) := c1.trans (by
    refine XS.iloadN X0.here hexec rfl (hb hbytes d0) rfl ?_
    exact Steps.refl _)
  obtain ⟨T3, B3, X3, ba3, bs3, bv3, bh3, bf3, st3⟩ := X0.anew hexec (atype := .byte) (wk W (.arrayClass .byte)) rfl (by show len * 1 ≤ _; omega) (by omega) (g := (mkF m 1 #[.val (.ref b), .val (.int (Int32.ofNat o)), .val (.int (Int32.ofNat len)), .unset, .unset, .unset] [.int (Int32.ofNat len)])) rfl (hb hbytes d1) (rest := []) rfl (Nat.le_refl _) (by show 0 + len ≤ len; omega)
  rw [hh0] at ba3 st3
  have kp3 : XT.Kept s T3 := (XT.Kept.of_eq hh0).push bh3
  have hA3 := hA.keep X3.warmed.alike (kp3 _ _ hA.1.1)
  have hne : b ≠ s.heap.size := hA.1.ne
  have c4 : Steps p.tables e below (s₁.setTop (entryFrame m #[.ref b, .int (Int32.ofNat o), .int (Int32.ofNat len)] 6)) (T3.setTop (mkF m 3 #[.val (.ref b), .val (.int (Int32.ofNat o)), .val (.int (Int32.ofNat len)), .unset, .unset, .unset] [.ref s.heap.size])) := c2.trans (st3 _ (Steps.refl _))
  have c5 : Steps p.tables e below (s₁.setTop (entryFrame m #[.ref b, .int (Int32.ofNat o), .int (Int32.ofNat len)] 6)) (T3.setTop (mkF m 9 #[.val (.ref b), .val (.int (Int32.ofNat o)), .val (.int (Int32.ofNat len)), .val (.ref s.heap.size), .unset, .unset] [.int (Int32.ofNat len), .int 0, .ref s.heap.size, .int (Int32.ofNat o), .ref b])) := c4.trans (by
    refine XS.astoreN X3.here hexec rfl (hb hbytes d3) rfl rfl rfl ?_
    refine XS.aloadN X3.here hexec rfl (hb hbytes d4) rfl rfl ?_
    refine XS.iloadN X3.here hexec rfl (hb hbytes d5) rfl ?_
    refine XS.aloadN X3.here hexec rfl (hb hbytes d6) rfl rfl ?_
    refine iconstV X3.here hexec rfl 0 (hb hbytes d7) (by decide) ?_
    refine XS.iloadN X3.here hexec rfl (hb hbytes d8) rfl ?_
    exact Steps.refl _)
  obtain ⟨v6, T6, X6, E6, g6⟩ := X3.callS hexec (Cmp5.law l b A s.heap.size B3 o 0 len) hown (wks W (staticW U16 115 Cmp5.yN)) (wk W Cmp5.tab) (W := 0) (Nat.le_of_ble_eq_true rfl) (Nat.le_of_ble_eq_true rfl) (Nat.le_refl _) (by show 0 + len + 0 ≤ len; omega) (g := (mkF m 9 #[.val (.ref b), .val (.int (Int32.ofNat o)), .val (.int (Int32.ofNat len)), .val (.ref s.heap.size), .unset, .unset] [.int (Int32.ofNat len), .int (Int32.ofNat 0), .ref s.heap.size, .int (Int32.ofNat o), .ref b])) rfl (by rw [hml]; rfl) c5 (argsL := [.ref b, .int (Int32.ofNat o), .ref s.heap.size, .int (Int32.ofNat 0), .int (Int32.ofNat len)]) (rest := []) rfl rfl (by show 2 * 0 + 0 ≤ _; decide) (hb hbytes d9) (⟨rfl, hA3, ba3, hne, l1, by rw [bs3]; simp, hp⟩)
  obtain ⟨rfl, B6, p6, f6⟩ := E6
  have c7 : Steps p.tables e below (s₁.setTop (entryFrame m #[.ref b, .int (Int32.ofNat o), .int (Int32.ofNat len)] 6)) (T6.setTop (mkF m 12 #[.val (.ref b), .val (.int (Int32.ofNat o)), .val (.int (Int32.ofNat len)), .val (.ref s.heap.size), .unset, .unset] [.int (Int32.ofNat len)])) := g6
  have c8 : Steps p.tables e below (s₁.setTop (entryFrame m #[.ref b, .int (Int32.ofNat o), .int (Int32.ofNat len)] 6)) (T6.setTop (mkF m 58 #[.val (.ref b), .val (.int (Int32.ofNat o)), .val (.int (Int32.ofNat len)), .val (.ref s.heap.size), .val (.int (Int32.ofNat len)), .unset] [.ref s.heap.size])) := c7.trans (by
    refine XS.istore X6.here hexec rfl (hb hbytes d12) rfl rfl ?_
    refine XS.iload X6.here hexec rfl (hb hbytes d14) rfl ?_
    refine XS.iloadN X6.here hexec rfl (hb hbytes d16) rfl ?_
    refine XS.icmpYes X6.here hexec rfl (pc0 := 17) rfl (hb hbytes d17) rfl (ii_eq_t rfl) (by decide) rfl ?_
    refine XS.aloadN X6.here hexec rfl (hb hbytes d57) rfl rfl ?_
    exact Steps.refl _)
  have X8 := X6.wide (L' := []) (cells' := 1) (slots' := len) (fun x hx hlt => by
    simp only [List.nil_append, copyLocs, List.mem_map, List.mem_range] at hx
    obtain ⟨i, -, rfl⟩ := hx
    exact absurd hlt (Nat.lt_irrefl _)) (Nat.le_refl _) (by omega)
  exact ⟨T6, some (.ref s.heap.size), _, _, _, X8, rfl, rfl, rfl, (fun h => by cases h), ⟨⟨rfl, B6, ba3.like (X3.warmed.alike.symm.trans X6.warmed.alike) p6.1 f6.1 f6.2.1 f6.2.2.1, f6.2.1.trans bv3, by rw [X6.warmed.alike.findClass, f6.1]; exact bf3, by rw [f6.2.2.1, bs3]; simp, fun j hj => by rw [f6.2.2.2 j, if_pos (by omega)]; rfl, kp3.put p6 (Nat.le_refl _)⟩, by rw [p6.2.2, bh3, hh0]; simp⟩, fun fs hl => c8.trans (X8.areturnOut hexec rfl hret rfl (hb hbytes d58) hl)⟩
end Cmp3
namespace CodL
def yN : MethodName := ⟨"java/lang/StringUTF16", "coderFromArrayLen", "([BI)B"⟩
abbrev yB : ByteArray := jdk_52_method_15_code
theorem d0 : decode yB 0 = .ok (.iload_n 1, 1) := by decide +kernel
theorem d1 : decode yB 1 = .ok (.aload_n 0, 1) := by decide +kernel
theorem d2 : decode yB 2 = .ok (.arraylength, 1) := by decide +kernel
theorem d3 : decode yB 3 = .ok (.isub, 1) := by decide +kernel
theorem d4 : decode yB 4 = .ok (.bipush 31, 2) := by decide +kernel
theorem d6 : decode yB 6 = .ok (.iushr, 1) := by decide +kernel
theorem d7 : decode yB 7 = .ok (.i2b, 1) := by decide +kernel
theorem d8 : decode yB 8 = .ok (.ireturn, 1) := by decide +kernel
def site : List Cond := []
def tab : Cond := tabOf yN yB 2 (some .byte) site
def P (d : Addr) (B : Cell) (args : Array Value) (s : State) : Prop := args = #[.ref d, .int (Int32.ofNat B.slots.size)] ∧ Arr .byte d B s
def E (r : Option Value) (s u : State) : Prop := XT.PureE (some (.int 0)) r s u
/-- an array as long as the number of chars: LATIN1 -/
theorem law (l : Launch) (d : Addr) (B : Cell) : Law l yN 2 2 0 0 yB 2 (some .byte) site (P d B) E [] 0 0 := by
  refine Law.of_walk (plainFor_of_name (by decide +kernel)) (by decide +kernel) (by decide +kernel) (by decide) (fun _ _ h => by rw [h.1]; rfl) (fun _ U U' hal hh h => ⟨h.1, h.2.mv hal hh⟩) (fun r U U' V V' h1 hal h2 h => XT.PureE.mv r U U' V V' h1 hal h2 h) ?_
  intro p e s m args below meth c s₁ X0 hexec hbytes hml hret hlk hnm hown hh0 W hP
  obtain ⟨rfl, hB⟩ := hP
  have hB0 := hB.mv X0.warmed.alike hh0
  have c1 : Steps p.tables e below (s₁.setTop (entryFrame m #[.ref d, .int (Int32.ofNat B.slots.size)] 2)) (s₁.setTop (mkF m 0 #[.val (.ref d), .val (.int (Int32.ofNat B.slots.size))] [])) := entry rfl
  have c2 : Steps p.tables e below (s₁.setTop (entryFrame m #[.ref d, .int (Int32.ofNat B.slots.size)] 2)) (s₁.setTop (mkF m 2 #[.val (.ref d), .val (.int (Int32.ofNat B.slots.size))] [.ref d, .int (Int32.ofNat B.slots.size)])) := c1.trans (by
    refine XS.iloadN X0.here hexec rfl (hb hbytes d0) rfl ?_
    refine XS.aloadN X0.here hexec rfl (hb hbytes d1) rfl rfl ?_
    exact Steps.refl _)
  have c3 : Steps p.tables e below (s₁.setTop (entryFrame m #[.ref d, .int (Int32.ofNat B.slots.size)] 2)) (s₁.setTop (mkF m 8 #[.val (.ref d), .val (.int (Int32.ofNat B.slots.size))] [.int (lo8 (ushr (Int32.ofNat B.slots.size - Int32.ofNat B.slots.size) 31))])) := c2.trans (by
    refine X0.alen hexec hB0 rfl rfl (hb hbytes d2) ?_
    refine XS.isub X0.here hexec rfl (hb hbytes d3) rfl ?_
    refine bipushV X0.here hexec rfl 31 (hb hbytes d4) (by decide) ?_
    refine iushr X0.here hexec rfl (hb hbytes d6) rfl ?_
    refine i2b X0.here hexec rfl (hb hbytes d7) rfl ?_
    exact Steps.refl _)
  have e0 : lo8 (ushr (Int32.ofNat B.slots.size - Int32.ofNat B.slots.size) 31) = 0 := by rw [Int32.sub_self]; decide
  rw [e0] at c3
  exact ⟨s₁, some (.int 0), _, _, _, X0, rfl, rfl, rfl, (fun h => by cases h), ⟨rfl, hh0⟩, fun fs hl => c3.trans (X0.ireturnOut hexec hret rfl (Or.inr (Or.inr (Or.inl rfl))) (hb hbytes d8) hl)⟩
end CodL
/-- the String at a is Latin-1 over a new byte[] (the heap's one new cell): the low bytes of the len chars of A from o on; every cell but a is kept -/
def Got (a : Addr) (D : Cell) (fV fC : Field) (A : Cell) (o len : Nat) (r : Option Value) (s u : State) : Prop := r = none ∧ ∃ D' V : Cell, Blank "java/lang/String" a D' u ∧ Same D D' [fV.slot, fC.slot] ∧ D'.slots[fV.slot]? = some (.ref s.heap.size) ∧ D'.slots[fC.slot]? = some (.int 0) ∧ Arr .byte s.heap.size V u ∧ V.vm = .none ∧ u.vm.findClass "[B" = some V.cls ∧ V.slots.size = len ∧ (∀ j, j < len → V.slots[j]? = some (.int (lo8 (cv A (o + j))))) ∧ (∀ (y : Addr) (c : Cell), y ≠ a → s.heap[y]? = some c → u.heap[y]? = some c) ∧ u.heap.size = s.heap.size + 1
theorem Got.mv {a : Addr} {D A : Cell} {fV fC : Field} {o len : Nat} : ∀ r (U U' V V' : State), U'.heap = U.heap → V.vm.Alike V'.vm → V'.heap = V.heap → Got a D fV fC A o len r U V → Got a D fV fC A o len r U' V' :=
  fun r U U' V V' h1 hal h2 ⟨e0, D', X, a1, a2, a3, a4, a5, a6, a7, a8, a9, a10, a11⟩ => ⟨e0, D', X, a1.mv hal h2, a2, by rw [h1]; exact a3, a4, by rw [h1]; exact a5.mv hal h2, a6, by rw [hal.findClass]; exact a7, a8, a9, by rw [h1, h2]; exact a10, by rw [h1, h2]; exact a11⟩
namespace New4
def yN : MethodName := ⟨"java/lang/String", "<init>", "([CIILjava/lang/Void;)V"⟩
abbrev yB : ByteArray := jdk_42_method_149_code
theorem d0 : decode yB 0 = .ok (.aload_n 0, 1) := by decide +kernel
theorem d1 : decode yB 1 = .ok (.invokespecial 1, 3) := by decide +kernel
theorem d4 : decode yB 4 = .ok (.iload_n 3, 1) := by decide +kernel
theorem d5 : decode yB 5 = .ok (.ifCond (.ne) 22, 3) := by decide +kernel
theorem d27 : decode yB 27 = .ok (.getstatic 38, 3) := by decide +kernel
theorem d30 : decode yB 30 = .ok (.ifCond (.eq) 28, 3) := by decide +kernel
theorem d33 : decode yB 33 = .ok (.aload_n 1, 1) := by decide +kernel
theorem d34 : decode yB 34 = .ok (.iload_n 2, 1) := by decide +kernel
theorem d35 : decode yB 35 = .ok (.iload_n 3, 1) := by decide +kernel
theorem d36 : decode yB 36 = .ok (.invokestatic 177, 3) := by decide +kernel
theorem d39 : decode yB 39 = .ok (.astore 5, 2) := by decide +kernel
theorem d41 : decode yB 41 = .ok (.aload_n 0, 1) := by decide +kernel
theorem d42 : decode yB 42 = .ok (.aload 5, 2) := by decide +kernel
theorem d44 : decode yB 44 = .ok (.iload_n 3, 1) := by decide +kernel
theorem d45 : decode yB 45 = .ok (.invokestatic 47, 3) := by decide +kernel
theorem d48 : decode yB 48 = .ok (.putfield 15, 3) := by decide +kernel
theorem d51 : decode yB 51 = .ok (.aload_n 0, 1) := by decide +kernel
theorem d52 : decode yB 52 = .ok (.aload 5, 2) := by decide +kernel
theorem d54 : decode yB 54 = .ok (.putfield 9, 3) := by decide +kernel
theorem d57 : decode yB 57 = .ok (.return_, 1) := by decide +kernel
def site : List Cond := [.fieldLink "java/lang/String" 38 "java/lang/String" "COMPACT_STRINGS" "Z", Cmp3.tab, CodL.tab, .laysFinal "java/lang/String" "java/lang/String" "value" "[B", .fieldLink "java/lang/String" 9 "java/lang/String" "value" "[B", .laysFinal "java/lang/String" "java/lang/String" "coder" "B", .fieldLink "java/lang/String" 15 "java/lang/String" "coder" "B"] ++ objW "java/lang/String" 1 ++ staticW "java/lang/String" 177 Cmp3.yN ++ staticW "java/lang/String" 47 CodL.yN
def tab : Cond := tabOf yN yB 6 none site
def P (a : Addr) (D : Cell) (fV fC : Field) (b : Addr) (A : Cell) (z : Int32) (o len : Nat) (args : Array Value) (s : State) : Prop := args = #[.ref a, .ref b, .int (Int32.ofNat o), .int (Int32.ofNat len), .null] ∧ Blank "java/lang/String" a D s ∧ Found "java/lang/String" "value" "[B" fV s ∧ Found "java/lang/String" "coder" "B" fC s ∧ Ch b A s ∧ StaticIs s "java/lang/String" "COMPACT_STRINGS" "Z" (.int z) ∧ ¬ z = 0 ∧ 0 < len ∧ o + len ≤ A.slots.size ∧ len ≤ 536870912 ∧ ∀ i, i < len → ¬ 255 < cv A (o + i)
def E (a : Addr) (D : Cell) (fV fC : Field) (A : Cell) (o len : Nat) (r : Option Value) (s u : State) : Prop := Got a D fV fC A o len r s u
/-- len > 0, no char of the range above 255: a Latin-1 String of their low bytes -/
theorem law (l : Launch) (a : Addr) (D : Cell) (fV fC : Field) (b : Addr) (A : Cell) (z : Int32) (o len : Nat) : Law l yN 5 4 2 35 yB 6 none site (P a D fV fC b A z o len) (E a D fV fC A o len) [⟨a, fC.slot⟩, ⟨a, fV.slot⟩] 1 len := by
  refine Law.of_walk (plainFor_of_name (by decide +kernel)) (by decide +kernel) (by decide +kernel) (by decide) (fun _ _ h => by rw [h.1]; rfl) (fun _ U U' hal hh h => ⟨h.1, h.2.1.mv hal hh, h.2.2.1.al hal, h.2.2.2.1.al hal, h.2.2.2.2.1.mv hal hh, h.2.2.2.2.2.1.there hal hh, h.2.2.2.2.2.2⟩) (fun r U U' V V' h1 hal h2 h => Got.mv r U U' V V' h1 hal h2 h) ?_
  intro p e s m args below meth c s₁ X0 hexec hbytes hml hret hlk hnm hown hh0 W hP
  obtain ⟨rfl, hB, f1, f2, hA, s1, hz, l0, l1, l2, hp⟩ := hP
  have a31 := hA.1.2.2.2
  have c1 : Steps p.tables e below (s₁.setTop (entryFrame m #[.ref a, .ref b, .int (Int32.ofNat o), .int (Int32.ofNat len), .null] 6)) (s₁.setTop (mkF m 0 #[.val (.ref a), .val (.ref b), .val (.int (Int32.ofNat o)), .val (.int (Int32.ofNat len)), .val .null, .unset] [])) := entry rfl
  have c2 : Steps p.tables e below (s₁.setTop (entryFrame m #[.ref a, .ref b, .int (Int32.ofNat o), .int (Int32.ofNat len), .null] 6)) (s₁.setTop (mkF m 1 #[.val (.ref a), .val (.ref b), .val (.int (Int32.ofNat o)), .val (.int (Int32.ofNat len)), .val .null, .unset] [.ref a])) := c1.trans (by
    refine XS.aloadN X0.here hexec rfl (hb hbytes d0) rfl rfl ?_
    exact Steps.refl _)
  obtain ⟨T3, X3, q3, st3⟩ := X0.oinit hexec hown (wks W (objW "java/lang/String" 1)) (g := (mkF m 1 #[.val (.ref a), .val (.ref b), .val (.int (Int32.ofNat o)), .val (.int (Int32.ofNat len)), .val .null, .unset] [.ref a])) rfl (by rw [hml]; rfl) (rest := []) rfl (hb hbytes d1) (W := 0) (by show 2 * 0 + 0 ≤ _; decide) (Nat.le_of_ble_eq_true rfl) (Nat.le_of_ble_eq_true rfl)
  have hh3 := q3.trans hh0
  have c4 : Steps p.tables e below (s₁.setTop (entryFrame m #[.ref a, .ref b, .int (Int32.ofNat o), .int (Int32.ofNat len), .null] 6)) (T3.setTop (mkF m 27 #[.val (.ref a), .val (.ref b), .val (.int (Int32.ofNat o)), .val (.int (Int32.ofNat len)), .val .null, .unset] [])) := (c2.trans (st3 _ (Steps.refl _))).trans (by
    refine XS.iloadN X3.here hexec rfl (hb hbytes d4) rfl ?_
    refine XS.ifYes X3.here hexec rfl (pc0 := 5) rfl (hb hbytes d5) rfl (i0_ne_t (nz32 (by omega) l0)) (by decide) rfl ?_
    exact Steps.refl _)
  obtain ⟨T5, X5, q5, st5⟩ := X3.sget hexec hown (wk W (.fieldLink "java/lang/String" 38 "java/lang/String" "COMPACT_STRINGS" "Z")) s1 (fun _ _ h => by rw [hh3]; exact h) (g := (mkF m 27 #[.val (.ref a), .val (.ref b), .val (.int (Int32.ofNat o)), .val (.int (Int32.ofNat len)), .val .null, .unset] [])) rfl (hb hbytes d27)
  have hh5 := q5.trans hh3
  have c6 : Steps p.tables e below (s₁.setTop (entryFrame m #[.ref a, .ref b, .int (Int32.ofNat o), .int (Int32.ofNat len), .null] 6)) (T5.setTop (mkF m 30 #[.val (.ref a), .val (.ref b), .val (.int (Int32.ofNat o)), .val (.int (Int32.ofNat len)), .val .null, .unset] [.int z])) := c4.trans (st5 _ (Steps.refl _))
  have c7 : Steps p.tables e below (s₁.setTop (entryFrame m #[.ref a, .ref b, .int (Int32.ofNat o), .int (Int32.ofNat len), .null] 6)) (T5.setTop (mkF m 36 #[.val (.ref a), .val (.ref b), .val (.int (Int32.ofNat o)), .val (.int (Int32.ofNat len)), .val .null, .unset] [.int (Int32.ofNat len), .int (Int32.ofNat o), .ref b])) := c6.trans (by
    refine XS.ifNo X5.here hexec rfl (hb hbytes d30) rfl (i0_eq_f hz) ?_
    refine XS.aloadN X5.here hexec rfl (hb hbytes d33) rfl rfl ?_
    refine XS.iloadN X5.here hexec rfl (hb hbytes d34) rfl ?_
    refine XS.iloadN X5.here hexec rfl (hb hbytes d35) rfl ?_
    exact Steps.refl _)
  obtain ⟨v8, T8, X8, E8, g8⟩ := X5.callS hexec (Cmp3.law l b A o len) hown (wks W (staticW "java/lang/String" 177 Cmp3.yN)) (wk W Cmp3.tab) (W := 0) (Nat.le_of_ble_eq_true rfl) (Nat.le_of_ble_eq_true rfl) (Nat.le_refl _) (by show 0 + len ≤ len; omega) (g := (mkF m 36 #[.val (.ref a), .val (.ref b), .val (.int (Int32.ofNat o)), .val (.int (Int32.ofNat len)), .val .null, .unset] [.int (Int32.ofNat len), .int (Int32.ofNat o), .ref b])) rfl (by rw [hml]; rfl) c7 (argsL := [.ref b, .int (Int32.ofNat o), .int (Int32.ofNat len)]) (rest := []) rfl rfl (by show 2 * 0 + 0 ≤ _; decide) (hb hbytes d36) (⟨rfl, hA.mv X5.warmed.alike hh5, l1, l2, hp⟩)
  obtain ⟨e8, z8⟩ := E8
  obtain ⟨rfl, N, n1, n2, n3, n4, n5, n6⟩ := NewArr.mv _ T5 s _ _ hh5.symm (Vm.Alike.refl _) rfl e8
  rw [hh5] at z8
  have hB1 := hB.keep X8.warmed.alike (n6 _ _ hB.1)
  have hne : s.heap.size ≠ a := (Nat.ne_of_lt (Array.getElem?_eq_some_iff.mp hB.1).1).symm
  have c9 : Steps p.tables e below (s₁.setTop (entryFrame m #[.ref a, .ref b, .int (Int32.ofNat o), .int (Int32.ofNat len), .null] 6)) (T8.setTop (mkF m 39 #[.val (.ref a), .val (.ref b), .val (.int (Int32.ofNat o)), .val (.int (Int32.ofNat len)), .val .null, .unset] [.ref s.heap.size])) := g8
  have c10 : Steps p.tables e below (s₁.setTop (entryFrame m #[.ref a, .ref b, .int (Int32.ofNat o), .int (Int32.ofNat len), .null] 6)) (T8.setTop (mkF m 45 #[.val (.ref a), .val (.ref b), .val (.int (Int32.ofNat o)), .val (.int (Int32.ofNat len)), .val .null, .val (.ref s.heap.size)] [.int (Int32.ofNat N.slots.size), .ref s.heap.size, .ref a])) := by
    have hc : Steps p.tables e below (s₁.setTop (entryFrame m #[.ref a, .ref b, .int (Int32.ofNat o), .int (Int32.ofNat len), .null] 6)) (T8.setTop (mkF m 45 #[.val (.ref a), .val (.ref b), .val (.int (Int32.ofNat o)), .val (.int (Int32.ofNat len)), .val .null, .val (.ref s.heap.size)] [.int (Int32.ofNat len), .ref s.heap.size, .ref a])) := c9.trans (by
      refine XS.astore X8.here hexec rfl (hb hbytes d39) rfl rfl rfl ?_
      refine XS.aloadN X8.here hexec rfl (hb hbytes d41) rfl rfl ?_
      refine XS.aload X8.here hexec rfl (hb hbytes d42) rfl rfl ?_
      refine XS.iloadN X8.here hexec rfl (hb hbytes d44) rfl ?_
      exact Steps.refl _)
    rw [n4]; exact hc
  obtain ⟨v11, T11, X11, E11, g11⟩ := X8.callS hexec (CodL.law l s.heap.size N) hown (wks W (staticW "java/lang/String" 47 CodL.yN)) (wk W CodL.tab) (W := 1) (Nat.le_of_ble_eq_true rfl) (Nat.le_of_ble_eq_true rfl) (Nat.le_refl _) (by show 0 + len + 0 ≤ len; omega) (g := (mkF m 45 #[.val (.ref a), .val (.ref b), .val (.int (Int32.ofNat o)), .val (.int (Int32.ofNat len)), .val .null, .val (.ref s.heap.size)] [.int (Int32.ofNat N.slots.size), .ref s.heap.size, .ref a])) rfl (by rw [hml]; rfl) c10 (argsL := [.ref s.heap.size, .int (Int32.ofNat N.slots.size)]) (rest := [.ref a]) rfl rfl (by show 2 * 0 + (1 + 0) ≤ _; decide) (hb hbytes d45) (⟨rfl, n1⟩)
  obtain ⟨rfl, q11⟩ := E11
  have hB11 := hB1.mv (X8.warmed.alike.symm.trans X11.warmed.alike) q11
  have c12 : Steps p.tables e below (s₁.setTop (entryFrame m #[.ref a, .ref b, .int (Int32.ofNat o), .int (Int32.ofNat len), .null] 6)) (T11.setTop (mkF m 48 #[.val (.ref a), .val (.ref b), .val (.int (Int32.ofNat o)), .val (.int (Int32.ofNat len)), .val .null, .val (.ref s.heap.size)] [.int 0, .ref a])) := g11
  obtain ⟨T13, X13, p13, bl13, sl13, st13⟩ := X11.finit hexec hown (wk W (.fieldLink "java/lang/String" 15 "java/lang/String" "coder" "B")) (Or.inr ⟨_, (wk W (.laysFinal "java/lang/String" "java/lang/String" "coder" "B"))⟩) (Or.inl ⟨rfl, hnm⟩) f2 (Or.inl rfl) hB11 (t := .byte) (by decide +kernel) rfl (g := (mkF m 48 #[.val (.ref a), .val (.ref b), .val (.int (Int32.ofNat o)), .val (.int (Int32.ofNat len)), .val .null, .val (.ref s.heap.size)] [.int 0, .ref a])) rfl (rest := []) rfl (hb hbytes d48)
  have c14 : Steps p.tables e below (s₁.setTop (entryFrame m #[.ref a, .ref b, .int (Int32.ofNat o), .int (Int32.ofNat len), .null] 6)) (T13.setTop (mkF m 54 #[.val (.ref a), .val (.ref b), .val (.int (Int32.ofNat o)), .val (.int (Int32.ofNat len)), .val .null, .val (.ref s.heap.size)] [.ref s.heap.size, .ref a])) := (c12.trans (st13 _ (Steps.refl _))).trans (by
    refine XS.aloadN X13.here hexec rfl (hb hbytes d51) rfl rfl ?_
    refine XS.aload X13.here hexec rfl (hb hbytes d52) rfl rfl ?_
    exact Steps.refl _)
  obtain ⟨T15, X15, p15, bl15, sl15, st15⟩ := X13.finit hexec hown (wk W (.fieldLink "java/lang/String" 9 "java/lang/String" "value" "[B")) (Or.inr ⟨_, (wk W (.laysFinal "java/lang/String" "java/lang/String" "value" "[B"))⟩) (Or.inl ⟨rfl, hnm⟩) f1 (Or.inl rfl) bl13 (t := (.array .byte)) (by decide +kernel) rfl (g := (mkF m 54 #[.val (.ref a), .val (.ref b), .val (.int (Int32.ofNat o)), .val (.int (Int32.ofNat len)), .val .null, .val (.ref s.heap.size)] [.ref s.heap.size, .ref a])) rfl (rest := []) rfl (hb hbytes d54)
  have c16 : Steps p.tables e below (s₁.setTop (entryFrame m #[.ref a, .ref b, .int (Int32.ofNat o), .int (Int32.ofNat len), .null] 6)) (T15.setTop (mkF m 57 #[.val (.ref a), .val (.ref b), .val (.int (Int32.ofNat o)), .val (.int (Int32.ofNat len)), .val .null, .val (.ref s.heap.size)] [])) := c14.trans (st15 _ (Steps.refl _))
  have ap := apart (Or.inr ⟨_, (wk W (.laysFinal "java/lang/String" "java/lang/String" "value" "[B"))⟩) (Or.inr ⟨_, (wk W (.laysFinal "java/lang/String" "java/lang/String" "coder" "B"))⟩) f1 f2 (t₁ := .array .byte) (t₂ := .byte) (by decide +kernel) (by decide +kernel) (by decide)
  have al := X8.warmed.alike.symm.trans X15.warmed.alike
  have n7 : T11.heap[s.heap.size]? = some N := by rw [q11]; exact n1.1
  exact ⟨T15, none, _, _, _, X15, by simp, rfl, by omega, (fun _ => rfl), ⟨rfl, _, N, bl15, ((Same.refl D _).set _ (by simp)).set _ (by simp), sl15, (Cell.slots_setSlot_ne _ ap).trans sl13, n1.keep al (p15.other hne (p13.other hne n7)), n2, by rw [al.findClass]; exact n3, n4, n5, fun y c h1 h2 => p15.other h1 (p13.other h1 (by rw [q11]; exact n6 y c h2)), by rw [p15.2.2, p13.2.2, q11]; exact z8⟩, fun fs hl => c16.trans (X15.returnOut hexec hret (hb hbytes d57) hl)⟩
end New4
namespace New1
def yN : MethodName := ⟨"java/lang/String", "<init>", "([C)V"⟩
abbrev yB : ByteArray := jdk_42_method_3_code
theorem d0 : decode yB 0 = .ok (.aload_n 0, 1) := by decide +kernel
theorem d1 : decode yB 1 = .ok (.aload_n 1, 1) := by decide +kernel
theorem d2 : decode yB 2 = .ok (.iconst 0, 1) := by decide +kernel
theorem d3 : decode yB 3 = .ok (.aload_n 1, 1) := by decide +kernel
theorem d4 : decode yB 4 = .ok (.arraylength, 1) := by decide +kernel
theorem d5 : decode yB 5 = .ok (.aconst_null, 1) := by decide +kernel
theorem d6 : decode yB 6 = .ok (.invokespecial 27, 3) := by decide +kernel
theorem d9 : decode yB 9 = .ok (.return_, 1) := by decide +kernel
def site : List Cond := [New4.tab] ++ initW "java/lang/String" 27 New4.yN
def tab : Cond := tabOf yN yB 2 none site
def P (a : Addr) (D : Cell) (fV fC : Field) (b : Addr) (A : Cell) (z : Int32) (args : Array Value) (s : State) : Prop := args = #[.ref a, .ref b] ∧ Blank "java/lang/String" a D s ∧ Found "java/lang/String" "value" "[B" fV s ∧ Found "java/lang/String" "coder" "B" fC s ∧ Ch b A s ∧ StaticIs s "java/lang/String" "COMPACT_STRINGS" "Z" (.int z) ∧ ¬ z = 0 ∧ 0 < A.slots.size ∧ A.slots.size ≤ 536870912 ∧ ∀ i, i < A.slots.size → ¬ 255 < cv A i
def E (a : Addr) (D : Cell) (fV fC : Field) (A : Cell) (r : Option Value) (s u : State) : Prop := Got a D fV fC A 0 A.slots.size r s u
/-- new String(chars), not empty, no char above 255: a Latin-1 String of their low bytes -/
theorem law (l : Launch) (a : Addr) (D : Cell) (fV fC : Field) (b : Addr) (A : Cell) (z : Int32) : Law l yN 2 1 3 52 yB 2 none site (P a D fV fC b A z) (E a D fV fC A) [⟨a, fC.slot⟩, ⟨a, fV.slot⟩] 1 A.slots.size := by
  refine Law.of_walk (plainFor_of_name (by decide +kernel)) (by decide +kernel) (by decide +kernel) (by decide) (fun _ _ h => by rw [h.1]; rfl) (fun _ U U' hal hh h => ⟨h.1, h.2.1.mv hal hh, h.2.2.1.al hal, h.2.2.2.1.al hal, h.2.2.2.2.1.mv hal hh, h.2.2.2.2.2.1.there hal hh, h.2.2.2.2.2.2⟩) (fun r U U' V V' h1 hal h2 h => Got.mv r U U' V V' h1 hal h2 h) ?_
  intro p e s m args below meth c s₁ X0 hexec hbytes hml hret hlk hnm hown hh0 W hP
  obtain ⟨rfl, hB, f1, f2, hA, s1, hz, l0, l2, hp⟩ := hP
  have c1 : Steps p.tables e below (s₁.setTop (entryFrame m #[.ref a, .ref b] 2)) (s₁.setTop (mkF m 0 #[.val (.ref a), .val (.ref b)] [])) := entry rfl
  have c2 : Steps p.tables e below (s₁.setTop (entryFrame m #[.ref a, .ref b] 2)) (s₁.setTop (mkF m 6 #[.val (.ref a), .val (.ref b)] [.null, .int (Int32.ofNat A.slots.size), .int 0, .ref b, .ref a])) := c1.trans (by
    refine XS.aloadN X0.here hexec rfl (hb hbytes d0) rfl rfl ?_
    refine XS.aloadN X0.here hexec rfl (hb hbytes d1) rfl rfl ?_
    refine iconstV X0.here hexec rfl 0 (hb hbytes d2) (by decide) ?_
    refine XS.aloadN X0.here hexec rfl (hb hbytes d3) rfl rfl ?_
    refine X0.alen hexec (hA.1.mv X0.warmed.alike hh0) rfl rfl (hb hbytes d4) ?_
    refine XS.aconstNull X0.here hexec rfl (hb hbytes d5) ?_
    exact Steps.refl _)
  obtain ⟨v3, T3, X3, E3, g3⟩ := X0.callN hexec (New4.law l a D fV fC b A z 0 A.slots.size) rfl hown (wks W (initW "java/lang/String" 27 New4.yN)) (W New4.tab (by simp only [site, List.mem_cons, List.mem_append, true_or, or_true])) (W := 0) (Nat.le_of_ble_eq_true rfl) (Nat.le_of_ble_eq_true rfl) (Nat.le_refl _) (by show 0 + A.slots.size ≤ A.slots.size; omega) (g := (mkF m 6 #[.val (.ref a), .val (.ref b)] [.null, .int (Int32.ofNat A.slots.size), .int (Int32.ofNat 0), .ref b, .ref a])) rfl (by rw [hml]; rfl) c2 (argsL := [.ref b, .int (Int32.ofNat 0), .int (Int32.ofNat A.slots.size), .null]) (rest := []) rfl rfl (by show 2 * 0 + 0 ≤ _; decide) (hb hbytes d6) (⟨rfl, hB.mv X0.warmed.alike hh0, f1.al X0.warmed.alike, f2.al X0.warmed.alike, hA.mv X0.warmed.alike hh0, s1.there X0.warmed.alike hh0, hz, l0, by omega, l2, fun i hi => by rw [Nat.zero_add]; exact hp i hi⟩)
  have e0 := Got.mv _ s₁ s _ _ hh0.symm (Vm.Alike.refl _) rfl E3
  obtain rfl := e0.1
  have c4 : Steps p.tables e below (s₁.setTop (entryFrame m #[.ref a, .ref b] 2)) (T3.setTop (mkF m 9 #[.val (.ref a), .val (.ref b)] [])) := g3
  exact ⟨T3, none, _, _, _, X3, by simp, rfl, by omega, (fun _ => rfl), e0, fun fs hl => c4.trans (X3.returnOut hexec hret (hb hbytes d9) hl)⟩
theorem pays {l : Launch} {R : Room} {p : Program} {e : Env} {below : List Frame} {s : State} {sargs : Array Value} {len W : Nat} (a : Addr) (D : Cell) (fV fC : Field) (b : Addr) (A : Cell) (z : Int32) (htab : tab.before sargs s = true) (hfr : 4 ≤ R.frames) (hlo : W + 65 ≤ R.locals) :
    Back l R p e below s sargs yN len W (fun A₁ a₁ => A₁.cells + 1 ≤ R.cells ∧ A₁.slots + A.slots.size ≤ R.slots ∧ P a D fV fC b A z a₁ A₁.U) (fun A₁ _ v₁ B₁ => E a D fV fC A v₁ A₁.U B₁.U ∧ B₁.locs = A₁.locs ++ [⟨a, fC.slot⟩, ⟨a, fV.slot⟩] ∧ B₁.cells = A₁.cells + 1 ∧ B₁.slots = A₁.slots + A.slots.size) :=
  (law l a D fV fC b A z).pays htab hfr (by omega)
end New1
/-- the byte, read back as charAt reads it, is the char -/
theorem lo8_mask {x : Int32} (h0 : ¬ x < 0) (h1 : ¬ 255 < x) : lo8 x &&& 255 = x := by
  have t : ∀ k : Fin 256, lo8 (Int32.ofNat k.val) &&& 255 = Int32.ofNat k.val := by decide +kernel
  rw [Int32.lt_iff_toInt_lt] at h0 h1
  have e0 : (0 : Int32).toInt = 0 := rfl
  have e1 : (255 : Int32).toInt = 255 := rfl
  obtain ⟨k, hk⟩ : ∃ k : Nat, x.toInt = k := ⟨x.toInt.toNat, by omega⟩
  have hx : x = Int32.ofNat k := Int32.toInt_inj.mp (by rw [hk, Int32.toInt_ofNat_small (by omega)])
  rw [hx]
  exact t ⟨k, by omega⟩
end StrChars
namespace StrChars.Road
open Jvm Sem ClassFile Op Lib Jvm.Stand Jvm.Free Jvm.Free.XT
open Jvm.Lib.Cold (StaticIs)
abbrev ST : String := "java/lang/String"
/-- every table word that New1's law asks, flat -/
abbrev words : List Jvm.Cond := [.code New1.yN New1.yB 2 none, .initialized ST, .methodLink ST 27 New4.yN, .instanceMethod New4.yN,
  .code New4.yN New4.yB 6 none, .fieldLink ST 38 ST "COMPACT_STRINGS" "Z", .laysFinal ST ST "value" "[B", .fieldLink ST 9 ST "value" "[B", .laysFinal ST ST "coder" "B", .fieldLink ST 15 ST "coder" "B",
  .methodLink ST 1 Lib.objectInit, .instanceMethod Lib.objectInit, .code Lib.objectInit ⟨#[0xb1]⟩ 1 none, .methodLink ST 177 Cmp3.yN, .static Cmp3.yN, .methodLink ST 47 CodL.yN, .static CodL.yN,
  .code Cmp3.yN Cmp3.yB 6 (some (.array .byte)), .initialized U16, .arrayClass .byte, .methodLink U16 115 Cmp5.yN, .static Cmp5.yN, .code Cmp5.yN Cmp5.yB 7 (some .int), .code CodL.yN CodL.yB 2 (some .byte)]
theorem tab_of {a : Array Value} {s : State} (h : ∀ w ∈ words, w.before a s = true) : New1.tab.before a s = true := by
  have h5 : Cmp5.tab.before a s = true := unparts (wk h (.code Cmp5.yN Cmp5.yB 7 (some .int))) (wks h (.initialized Cmp5.yN.cls :: Cmp5.site))
  have hc : CodL.tab.before a s = true := unparts (wk h (.code CodL.yN CodL.yB 2 (some .byte))) (wks h (.initialized CodL.yN.cls :: CodL.site))
  have q5 : ∀ w ∈ Cmp5.tab :: words, w.before a s = true := fun w hw => (List.mem_cons.mp hw).elim (fun e => e ▸ h5) (h w)
  have h3 : Cmp3.tab.before a s = true := unparts (wk q5 (.code Cmp3.yN Cmp3.yB 6 (some (.array .byte)))) (wks q5 (.initialized Cmp3.yN.cls :: Cmp3.site))
  have q3 : ∀ w ∈ Cmp3.tab :: CodL.tab :: words, w.before a s = true := fun w hw => (List.mem_cons.mp hw).elim (fun e => e ▸ h3) fun hw => (List.mem_cons.mp hw).elim (fun e => e ▸ hc) (h w)
  have h4 : New4.tab.before a s = true := unparts (wk q3 (.code New4.yN New4.yB 6 none)) (wks q3 (.initialized New4.yN.cls :: New4.site))
  have q4 : ∀ w ∈ New4.tab :: words, w.before a s = true := fun w hw => (List.mem_cons.mp hw).elim (fun e => e ▸ h4) (h w)
  exact unparts (wk q4 (.code New1.yN New1.yB 2 none)) (wks q4 (.initialized New1.yN.cls :: New1.site))
/-- the words ride from the start Z to the walk's own state -/
theorem moved {Z s : State} {a0 args : Array Value} (hZ : Z.Warmed39 s.vm) (hw : ∀ d ∈ words, d.before a0 Z = true) : ∀ d ∈ words, d.before args s = true := fun d hd => by
  have q := hw d hd
  have t : ∀ d ∈ words, d = .arrayClass .byte ∨ (d.onTables && d.keepsFace) = true := by decide +kernel
  rcases t d hd with rfl | t
  · exact RoadKit.mvA hZ q
  · exact RoadKit.mv hZ q t
/-- WHAT COMES BACK, over the tables of the start Z: h the heap at the call, h' behind it -/
def Q (Z : State) (x : Addr) (A : Cell) (h : Heap) (v : Option Value) (h' : Heap) (L : List Loc) : Prop := v = none ∧ (∀ y ∈ L, y.base = x) ∧ RoadKit.Keep h h' [x] ∧ h'.size = h.size + 1 ∧ RoadKit.Exa Z h' x ST ∧ RoadKit.Fld Z h' x ST "value" "[B" (.ref h.size) ∧ RoadKit.Fld Z h' x ST "coder" "B" (.int 0) ∧
  (∃ V : Cell, RoadKit.Arr Z h' h.size V .byte ∧ V.vm = .none ∧ Z.vm.findClass "[B" = some V.cls ∧ V.slots.size = A.slots.size ∧ ∀ j, j < A.slots.size → V.slots[j]? = some (.int (lo8 (cv A j)))) ∧
  ∀ (O n d : String) (w : Value), RoadKit.Fld Z h x O n d w → RoadKit.slotOf Z O n d ≠ RoadKit.slotOf Z ST "value" "[B" → RoadKit.slotOf Z O n d ≠ RoadKit.slotOf Z ST "coder" "B" → RoadKit.Fld Z h' x O n d w
/-- **new String(chars) AT A CALL, IN THE ROAD'S FORM**: for specialBack behind newO: x the fresh String, b the char[] with the cell A -/
theorem back {p : Program} {l : Launch} {e : Env} {R : Room} {s : State} {args : Array Value} {below : List Frame} {len W : Nat} {Z : State} {a0 : Array Value} {h : Heap} (hZ : Z.Warmed39 s.vm) (hw : ∀ d ∈ words, d.before a0 Z = true) {kI : Nat} (wi : (Jvm.Cond.instantiable ST kI).before a0 Z = true)
    {x b : Addr} {A : Cell} {z : Int32} {v0 c0 : Value} (E : RoadKit.Exa Z h x ST) (V : RoadKit.Fld Z h x ST "value" "[B" v0) (C : RoadKit.Fld Z h x ST "coder" "B" c0) (K : RoadKit.Arr Z h b A .char) (hty : Typed .char A) (S : RoadKit.Sta Z h ST "COMPACT_STRINGS" "Z" (.int z)) (hz : ¬ z = 0)
    (l0 : 0 < A.slots.size) (l2 : A.slots.size ≤ 536870912) (hp : ∀ i, i < A.slots.size → ¬ 255 < cv A i) (hfr : 4 ≤ R.frames) (hlo : W + 65 ≤ R.locals) :
    Back l R p e below s args New1.yN len W (fun P a => a = #[.ref x, .ref b] ∧ P.U.heap = h ∧ P.cells + 1 ≤ R.cells ∧ P.slots + A.slots.size ≤ R.slots)
      (fun P _ v B => ∃ L, Q Z x A h v B.U.heap L ∧ B.locs = P.locs ++ L ∧ B.cells = P.cells + 1 ∧ B.slots = P.slots + A.slots.size) := by
  intro m meth c P g ig mk a X hg hsize hdg hW hn hp'
  obtain ⟨rfl, rfl, r1, r2⟩ := hp'
  have al : Z.vm.Alike P.U.vm := hZ.alike.trans X.warmed.alike
  obtain ⟨D, cfV, kV, iV, fV, hD, gV, stV, knV, obV, asV, slV⟩ := id V
  obtain ⟨D', cfC, kC, iC, fC, hD', gC, stC, -, -, asC, slC⟩ := id C
  cases hD.symm.trans hD'
  obtain ⟨D2, kD, e1, e2, e3, e4, e5⟩ := id E
  cases hD.symm.trans e1
  obtain ⟨c2, k2, i1, i2, i3, -⟩ := Cond.instantiable_spec wi
  cases e2.symm.trans i1
  cases e3.symm.trans i2
  obtain ⟨kU, u1, u2⟩ := al.2.2 _ _ e3
  have hB : Blank ST x D P.U := ⟨hD, ⟨knV, fun q hq => by rw [hq] at obV; cases obV⟩, by rw [al.findClass]; exact e2, kU, u1, by rw [u2]; exact i3, by rw [u2]; exact e5 i3⟩
  have F1 : Found ST "value" "[B" fV P.U := ⟨SBG.found_only al ⟨cfV, kV, iV, gV⟩, stV⟩
  have F2 : Found ST "coder" "B" fC P.U := ⟨SBG.found_only al ⟨cfC, kC, iC, gC⟩, stC⟩
  have hA : Ch b A P.U := ⟨⟨K.1, State.isArrayOf_alike al K.2.1, K.2.2, by omega⟩, hty⟩
  have hS : StaticIs P.U ST "COMPACT_STRINGS" "Z" (.int z) := by
    obtain ⟨cfS, iS, kS, fS, st, cS, t1, t2, t3, t4, t5, t6, t7⟩ := S
    exact StaticIs.there (s := { Z with heap := P.U.heap }) ⟨cfS, iS, kS, fS, st, cS, t1, t2, t3, t4, t5, (fun q => by rw [q] at t6; cases t6), t7⟩ al rfl
  obtain ⟨v, B, X', ⟨⟨hv, E', V', q1, q2, q3, q4, q5, q6, q7, q8, q9, q10, q11⟩, hl, hc, hs⟩, st⟩ := New1.pays x D fV fC b A z (tab_of (moved hZ hw)) hfr hlo m meth c P g ig mk _ X hg hsize hdg hW hn ⟨r1, r2, rfl, hB, F1, F2, hA, hS, hz, l0, l2, hp⟩
  have al' : Z.vm.Alike B.U.vm := hZ.alike.trans X'.warmed.alike
  have hsz : E'.slots.size = D.slots.size := by
    obtain ⟨-, -, -, kB, w1, w2, w3⟩ := q1
    obtain ⟨kB', y1, y2⟩ := al'.2.2 _ _ e3
    rw [q2.2.1] at w1
    cases w1.symm.trans y1
    rw [w3, e5 i3, y2]
  refine ⟨v, B, X', ⟨_, ⟨hv, ?_, ⟨by omega, fun y cy hy hn' => q10 y cy (by simpa using hn') hy, fun y cy hy => ?_⟩, q11, ⟨E', _, q1.1, by rw [q2.2.1]; exact e2, by rw [q2.2.1]; exact e3, by rw [q2.1]; exact obV, fun _ => by rw [hsz]; exact e5 i3⟩,
    ⟨E', cfV, kV, iV, fV, q1.1, gV, stV, by rw [q2.1]; exact knV, by rw [q2.1]; exact obV, by rw [q2.2.1]; exact asV, q3⟩, ⟨E', cfC, kC, iC, fC, q1.1, gC, stC, by rw [q2.1]; exact knV, by rw [q2.1]; exact obV, by rw [q2.2.1]; exact asC, q4⟩,
    ⟨V', ⟨q5.1, State.isArrayOf_alike al'.symm q5.2.1, q5.2.2.1⟩, q6, by rw [← al'.findClass]; exact q7, q8, fun j hj => by have := q9 j hj; rwa [Nat.zero_add] at this⟩, fun O n d w F n1 n2 => ?_⟩, hl, hc, hs⟩, st⟩
  · intro y hy
    simp only [List.mem_cons, List.not_mem_nil, or_false] at hy
    rcases hy with rfl | rfl <;> rfl
  · by_cases q : y = x
    · subst q
      cases hD.symm.trans hy
      exact ⟨E', q1.1, q2.2.1, q2.1, hsz⟩
    · exact ⟨cy, q10 y cy q hy, rfl, rfl, rfl⟩
  · obtain ⟨D3, cf, k, i, f, g1, g2, g3, g4, g5, g6, g7⟩ := F
    cases hD.symm.trans g1
    simp only [RoadKit.slotOf, g2, gV, gC, Option.map_some, Option.getD_some] at n1 n2
    exact ⟨E', cf, k, i, f, q1.1, g2, g3, by rw [q2.1]; exact g4, by rw [q2.1]; exact g5, by rw [q2.2.1]; exact g6, by rw [q2.2.2 f.slot (by simp [n1, n2])]; exact g7⟩
end StrChars.Road
namespace StrChars.Road
open Jvm Sem ClassFile Op Lib Jvm.Stand Jvm.Free Jvm.Free.XT
/-- WHAT COMES BACK, the byte[] as a list of values -/
def QA (Z : State) (x : Addr) (zn : Int32) (cs : List Int32) (h : Heap) (v : Option Value) (h' : Heap) (L : List Loc) : Prop := v = none ∧ (∀ y ∈ L, y.base = x) ∧ RoadKit.Keep h h' [x] ∧ h'.size = h.size + 1 ∧ RoadKit.Exa Z h' x ST ∧ RoadKit.Fld Z h' x ST "value" "[B" (.ref h.size) ∧ RoadKit.Fld Z h' x ST "coder" "B" (.int 0) ∧
  (∃ kb, Z.vm.findClass "[B" = some kb ∧ RoadKit.Arv Z h' h.size kb .byte zn (cs.map fun c => .int (lo8 c)) (.int 0)) ∧
  ∀ (O n d : String) (w : Value), RoadKit.Fld Z h x O n d w → RoadKit.slotOf Z O n d ≠ RoadKit.slotOf Z ST "value" "[B" → RoadKit.slotOf Z O n d ≠ RoadKit.slotOf Z ST "coder" "B" → RoadKit.Fld Z h' x O n d w
/-- **new String(chars) AT A CALL, THE ARRAYS AS LISTS**: the char[] at b holds cs, not empty, no char above 255 -/
theorem backArv {p : Program} {l : Launch} {e : Env} {R : Room} {s : State} {args : Array Value} {below : List Frame} {len W : Nat} {Z : State} {a0 : Array Value} {h : Heap} (hZ : Z.Warmed39 s.vm) (hw : ∀ d ∈ words, d.before a0 Z = true) {kI : Nat} (wi : (Jvm.Cond.instantiable ST kI).before a0 Z = true)
    {x b : Addr} {k : ClassId} {zn z : Int32} {cs : List Int32} {dv v0 c0 : Value} (E : RoadKit.Exa Z h x ST) (V : RoadKit.Fld Z h x ST "value" "[B" v0) (C : RoadKit.Fld Z h x ST "coder" "B" c0) (K : RoadKit.Arv Z h b k .char zn (cs.map Value.int) dv) (S : RoadKit.Sta Z h ST "COMPACT_STRINGS" "Z" (.int z)) (hz : ¬ z = 0)
    (hlen : zn.toNatClampNeg = cs.length) (h0 : 0 < cs.length) (hbig : cs.length ≤ 536870912) (hall : ∀ c ∈ cs, ¬ 255 < c) (hfr : 4 ≤ R.frames) (hlo : W + 65 ≤ R.locals) :
    Back l R p e below s args New1.yN len W (fun P a => a = #[.ref x, .ref b] ∧ P.U.heap = h ∧ P.cells + 1 ≤ R.cells ∧ P.slots + cs.length ≤ R.slots)
      (fun P _ v B => ∃ L, QA Z x zn cs h v B.U.heap L ∧ B.locs = P.locs ++ L ∧ B.cells = P.cells + 1 ∧ B.slots = P.slots + cs.length) := by
  obtain ⟨A, K1, K2, K3, K4, K5, K6⟩ := K
  have e : A.slots.size = cs.length := K3.trans hlen
  have hat : ∀ (i : Nat) (hi : i < cs.length), A.slots[i]? = some (.int cs[i]) := fun i hi => by rw [K5 i (by omega)]; simp [List.getD_eq_getElem?_getD, hi]
  have hcv : ∀ (i : Nat) (hi : i < cs.length), cv A i = cs[i] := fun i hi => by unfold cv; rw [hat i hi]
  have hty : Typed .char A := fun i v hv => by
    have hi : i < A.slots.size := (Array.getElem?_eq_some_iff.mp hv).1
    have q := K5 i hi
    rw [hv] at q
    rw [Option.some.inj q]
    exact K6 i hi
  refine Back.mono (back hZ hw wi E V C K1 hty S hz (by omega) (by omega) (fun i hi => by rw [hcv i (by omega)]; exact hall _ (List.getElem_mem _)) hfr hlo) (fun P a hp => ⟨hp.1, hp.2.1, hp.2.2.1, by rw [e]; exact hp.2.2.2⟩) (fun P a v B hp hq => ?_)
  obtain ⟨L, ⟨q1, q2, q3, q4, q5, q6, q7, ⟨V', v1, v2, v3, v4, v5⟩, q9⟩, hl, hc, hs⟩ := hq
  refine ⟨L, ⟨q1, q2, q3, q4, q5, q6, q7, ⟨V'.cls, v3, V', v1, rfl, by rw [v4, e, hlen], K4, fun i hi => ?_, fun i hi => ?_⟩, q9⟩, hl, hc, by rw [hs, e]⟩
  · have hi' : i < cs.length := by omega
    rw [v5 i (by omega), hcv i hi']; simp [List.getD_eq_getElem?_getD, hi']
  · have hi' : i < cs.length := by omega
    simp only [List.getD_eq_getElem?_getD, List.getElem?_map, List.getElem?_eq_getElem hi', Option.map_some, Option.getD_some]
    exact fits_lo8 _
end StrChars.Road
namespace StrChars.Road
open Jvm Sem ClassFile Op Lib Jvm.Stand Jvm.Free Jvm.Free.XT
/-- WHAT COMES BACK, in the writer's own shape -/
def QV (Z : State) (x : Addr) (N : Int32) (bs : List Int32) (h : Heap) (n0 : Nat) (v : Option Value) (h' : Heap) (L : List Loc) : Prop := v = none ∧ RoadKit.Fr n0 L ∧ RoadKit.Keep h h' [x] ∧ RoadKit.Exa Z h' x ST ∧ RoadKit.Fld Z h' x ST "coder" "B" (.int 0) ∧
  ∃ (t : Addr) (kb : ClassId), n0 ≤ t ∧ h.size ≤ t ∧ ¬ t = x ∧ RoadKit.Fld Z h' x ST "value" "[B" (.ref t) ∧ RoadKit.Arv Z h' t kb .byte N (bs.map Value.int) (.int 0)
/-- **new String(chars) AT A CALL, FOR THE WRITER**: a char[] of n known ints, each 0 to 255 -/
theorem backV {p : Program} {l : Launch} {e : Env} {R : Room} {s : State} {args : Array Value} {below : List Frame} {len W : Nat} {Z : State} {a0 : Array Value} {h : Heap} (hZ : Z.Warmed39 s.vm) (hw : ∀ d ∈ words, d.before a0 Z = true) {kI : Nat} (wi : (Jvm.Cond.instantiable ST kI).before a0 Z = true)
    {x b : Addr} {kC : ClassId} {cs bs : List Int32} {d v0 c0 : Value} {z N : Int32} {n n0 : Nat} (hx0 : n0 ≤ x) (hh0 : n0 ≤ h.size) (E : RoadKit.Exa Z h x ST) (V : RoadKit.Fld Z h x ST "value" "[B" v0) (C : RoadKit.Fld Z h x ST "coder" "B" c0) (K : RoadKit.Arv Z h b kC .char N (cs.map Value.int) d) (S : RoadKit.Sta Z h ST "COMPACT_STRINGS" "Z" (.int z)) (hz : ¬ z = 0)
    (hn : cs.length = n) (hN : N = Int32.ofNat n) (l0 : 0 < n) (l2 : n ≤ 4000) (hp : ∀ c ∈ cs, ¬ c < 0 ∧ ¬ (255 : Int32) < c) (hb : bs = cs.map (fun c => c.toInt8.toInt32)) (hfr : 4 ≤ R.frames) (hlo : W + 65 ≤ R.locals) :
    Back l R p e below s args (⟨"java/lang/String", "<init>", "([C)V"⟩ : MethodName) len W (fun P a => a = #[.ref x, .ref b] ∧ P.U.heap = h ∧ P.cells + 1 ≤ R.cells ∧ P.slots + n ≤ R.slots)
      (fun P _ v B => ∃ L, QV Z x N bs h n0 v B.U.heap L ∧ B.locs = P.locs ++ L ∧ B.cells = P.cells + 1 ∧ B.slots = P.slots + n) := by
  subst hn hN hb
  refine Back.mono (backArv hZ hw wi E V C K S hz (n32 (by omega)) l0 (by omega) (fun c hc => (hp c hc).2) hfr hlo) (fun P a hp => hp) (fun P a v B hp hq => ?_)
  obtain ⟨L, ⟨q1, q2, q3, q4, q5, q6, q7, ⟨kb, v1, v2⟩, q9⟩, hl, hc, hs⟩ := hq
  exact ⟨L, ⟨q1, fun y hy => by rw [q2 y hy]; exact hx0, q3, q5, q7, h.size, kb, hh0, Nat.le_refl _, Nat.ne_of_gt E.lt, q6, by rw [List.map_map]; exact v2⟩, hl, hc, hs⟩
end StrChars.Road
namespace StrChars
open Jvm Sem ClassFile Op Lib Jvm.Stand Jvm.Free.XT Jvm.Free.ALB Jvm.Free.JM Jvm.Free
open Jvm.Lib.Cold (StaticIs)
def hi8 (x : Int32) : Int32 := lo8 (x >>> ((8 : Int32) &&& 31))
/-- what StringUTF16.getChar makes of two bytes -/
def pairCh (u v : Int32) : Int32 := (((u &&& 255) <<< ((0 : Int32) &&& 31)) ||| ((v &&& 255) <<< ((8 : Int32) &&& 31))).toUInt32.toUInt16.toUInt32.toInt32
theorem shr0 (c : Int32) : c >>> ((0 : Int32) &&& 31) = c := by
  have e : ((0 : Int32) &&& 31) = 0 := by decide
  rw [e]
  apply Int32.toBitVec_inj.mp
  rw [Int32.toBitVec_shiftRight]
  have e1 : ((0 : Int32).toBitVec.smod 32) = 0#32 := by decide
  rw [e1, BitVec.sshiftRight_eq']
  exact BitVec.sshiftRight_zero
theorem lo8_and (x : Int32) : (lo8 x &&& 255).toBitVec.toNat = x.toBitVec.toNat % 256 := by
  have h : (lo8 x).toBitVec = (x.toBitVec.signExtend 8).signExtend 32 := by rw [lo8, Int8.toBitVec_toInt32, Int32.toBitVec_toInt8]
  rw [Int32.toBitVec_and, BitVec.toNat_and, h]
  have e : ((x.toBitVec.signExtend 8).signExtend 32).toNat % 256 = x.toBitVec.toNat % 256 := by
    rw [BitVec.toNat_signExtend]
    have hlt := x.toBitVec.isLt
    simp only [BitVec.toNat_setWidth, BitVec.toNat_signExtend]
    split <;> split <;> omega
  rw [← e]
  exact Nat.and_two_pow_sub_one_eq_mod _ 8
theorem pair_says {c : Int32} (h0 : ¬ c < 0) (h1 : ¬ 65535 < c) : pairCh (lo8 c) (hi8 c) = c := by
  rw [Int32.lt_iff_toInt_lt] at h0 h1
  have e0 : (0 : Int32).toInt = 0 := rfl
  have e1 : (65535 : Int32).toInt = 65535 := rfl
  have hc : c.toInt = c.toBitVec.toNat := by
    have := c.toBitVec.isLt
    have e : c.toInt = c.toBitVec.toInt := rfl
    rw [e] at h0 h1
    rw [e]
    rw [BitVec.toInt_eq_toNat_cond] at h0 h1 ⊢
    split at h0 <;> split <;> omega
  have hn : c.toBitVec.toNat < 65536 := by omega
  have a1 := lo8_and c
  have a2 : (hi8 c &&& 255).toBitVec.toNat = c.toBitVec.toNat / 256 := by
    rw [hi8, lo8_and]
    have e : ((8 : Int32) &&& 31) = 8 := by decide
    rw [e, Int32.toBitVec_shiftRight]
    have e2 : ((8 : Int32).toBitVec.smod 32) = 8#32 := by decide
    rw [e2, BitVec.sshiftRight_eq', BitVec.toNat_sshiftRight_of_msb_false (by rw [BitVec.msb_eq_false_iff_two_mul_lt]; omega)]
    show c.toBitVec.toNat >>> 8 % 256 = _
    rw [Nat.shiftRight_eq_div_pow]
    omega
  unfold pairCh
  apply Int32.toBitVec_inj.mp
  apply BitVec.eq_of_toNat_eq
  have f0 : ((0 : Int32) &&& 31) = 0 := by decide
  have f8 : ((8 : Int32) &&& 31) = 8 := by decide
  rw [f0, f8]
  have g : (((lo8 c &&& 255) <<< (0 : Int32)) ||| ((hi8 c &&& 255) <<< (8 : Int32))).toBitVec.toNat = c.toBitVec.toNat := by
    rw [Int32.toBitVec_or, Int32.toBitVec_shiftLeft, Int32.toBitVec_shiftLeft]
    have s0 : ((0 : Int32).toBitVec.smod 32) = 0#32 := by decide
    have s8 : ((8 : Int32).toBitVec.smod 32) = 8#32 := by decide
    rw [s0, s8, BitVec.toNat_or]
    simp only [BitVec.shiftLeft_eq', BitVec.toNat_shiftLeft, a1, a2]
    show (c.toBitVec.toNat % 256) <<< 0 % 2 ^ 32 ||| (c.toBitVec.toNat / 256) <<< 8 % 2 ^ 32 = _
    rw [Nat.shiftLeft_zero, Nat.mod_eq_of_lt (show c.toBitVec.toNat % 256 < 2 ^ 32 by omega), Nat.mod_eq_of_lt (show (c.toBitVec.toNat / 256) <<< 8 < 2 ^ 32 by rw [Nat.shiftLeft_eq]; omega), Nat.or_comm, ← Nat.shiftLeft_add_eq_or_of_lt (by omega), Nat.shiftLeft_eq]
    omega
  show BitVec.toNat (((((lo8 c &&& 255) <<< (0 : Int32)) ||| ((hi8 c &&& 255) <<< (8 : Int32))).toBitVec.setWidth 16).setWidth 32) = _
  rw [BitVec.toNat_setWidth, BitVec.toNat_setWidth, g]
  omega
end StrChars
namespace StrChars
open Jvm Sem ClassFile Op Lib Jvm.Stand Jvm.Free.XT Jvm.Free.ALB Jvm.Free.JM Jvm.Free
open Jvm.Lib.Cold (StaticIs)
theorem shr1 {n : Nat} (h : 2 * n < 2 ^ 31) : Int32.ofNat (2 * n) >>> ((1 : Int32) &&& 31) = Int32.ofNat n := by
  have e : ((1 : Int32) &&& 31) = 1 := by decide
  rw [e]
  apply Int32.toBitVec_inj.mp
  rw [Int32.toBitVec_shiftRight]
  have e1 : ((1 : Int32).toBitVec.smod 32) = 1#32 := by decide
  have hm : (BitVec.ofNat 32 (2 * n)).toNat = 2 * n := by rw [BitVec.toNat_ofNat, Nat.mod_eq_of_lt (by omega)]
  rw [e1, BitVec.sshiftRight_eq']
  apply BitVec.eq_of_toNat_eq
  show ((BitVec.ofNat 32 (2 * n)).sshiftRight 1).toNat = (BitVec.ofNat 32 n).toNat
  rw [BitVec.toNat_sshiftRight_of_msb_false (by rw [BitVec.msb_eq_false_iff_two_mul_lt, hm]; omega), hm, BitVec.toNat_ofNat, Nat.shiftRight_eq_div_pow]
  omega
/-- charAt's cast of a byte read back -/
def chr8 (u : Int32) : Int32 := (u &&& 255).toUInt32.toUInt16.toUInt32.toInt32
theorem chr8_lo8 {c : Int32} (h0 : ¬ c < 0) (h1 : ¬ 255 < c) : chr8 (lo8 c) = c := by
  have t : ∀ k : Fin 256, (Int32.ofNat k.val).toUInt32.toUInt16.toUInt32.toInt32 = Int32.ofNat k.val := by decide +kernel
  unfold chr8
  rw [lo8_mask h0 h1]
  rw [Int32.lt_iff_toInt_lt] at h0 h1
  have e0 : (0 : Int32).toInt = 0 := rfl
  have e1 : (255 : Int32).toInt = 255 := rfl
  obtain ⟨k, hk⟩ : ∃ k : Nat, c.toInt = k := ⟨c.toInt.toNat, by omega⟩
  have hx : c = Int32.ofNat k := Int32.toInt_inj.mp (by rw [hk, Int32.toInt_ofNat_small (by omega)])
  rw [hx]
  exact t ⟨k, by omega⟩
theorem narrow_ch {c : Int32} (h0 : ¬ c < 0) (h1 : ¬ 65535 < c) : narrow .char (.int c) = .int c := by
  have q : narrow .char (.int (pairCh (lo8 c) (hi8 c))) = .int (pairCh (lo8 c) (hi8 c)) := narrow_c _
  rwa [pair_says h0 h1] at q
/-- the array's cell V codes the n chars f 0 .. f (n - 1) by the coder cd, as the JDK does: coder 1 just where some char is above 255 -/
def Cod (cd : Int32) (n : Nat) (f : Nat → Int32) (V : Cell) : Prop := (cd = 0 ∧ V.slots.size = n ∧ ∀ j, j < n → V.slots[j]? = some (.int (lo8 (f j))) ∧ ¬ 255 < f j) ∨ (cd = 1 ∧ V.slots.size = 2 * n ∧ (∀ j, j < n → V.slots[2 * j]? = some (.int (lo8 (f j))) ∧ V.slots[2 * j + 1]? = some (.int (hi8 (f j)))) ∧ ∃ j, j < n ∧ 255 < f j)
theorem Cod.cd {cd : Int32} {n : Nat} {f : Nat → Int32} {V : Cell} (h : Cod cd n f V) : cd = 0 ∨ cd = 1 := h.imp (fun q => q.1) fun q => q.1
theorem Cod.len {cd : Int32} {n : Nat} {f : Nat → Int32} {V : Cell} (h : Cod cd n f V) (hs : V.slots.size < 2 ^ 31) : Int32.ofNat V.slots.size >>> (cd &&& 31) = Int32.ofNat n := by
  rcases h with ⟨rfl, h, -⟩ | ⟨rfl, h, -⟩
  · rw [shr0, h]
  · rw [h, shr1 (by omega)]
/-- **x is a String of the n chars f 0 .. f (n - 1)**, Latin-1 or UTF-16; its array at t has the cell V -/
def Txt (x t : Addr) (V : Cell) (cd : Int32) (n : Nat) (f : Nat → Int32) (U : State) : Prop := Exact "java/lang/String" x U ∧ Has x "java/lang/String" "value" "[B" (.ref t) U ∧ Has x "java/lang/String" "coder" "B" (.int cd) U ∧ XT.Arr .byte t V U ∧ Cod cd n f V ∧ ∀ j, j < n → ¬ f j < 0 ∧ ¬ 65535 < f j
theorem Txt.mv {x t : Addr} {V : Cell} {cd : Int32} {n : Nat} {f : Nat → Int32} {U U' : State} (h : Txt x t V cd n f U) (hal : U.vm.Alike U'.vm) (hh : U'.heap = U.heap) : Txt x t V cd n f U' := ⟨h.1.mv hal hh, h.2.1.mv hal hh, h.2.2.1.mv hal hh, h.2.2.2.1.mv hal hh, h.2.2.2.2⟩
namespace Cdr
def yN : MethodName := ⟨"java/lang/String", "coder", "()B"⟩
abbrev yB : ByteArray := jdk_42_method_152_code
theorem d0 : decode yB 0 = .ok (.getstatic 38, 3) := by decide +kernel
theorem d3 : decode yB 3 = .ok (.ifCond (.eq) 10, 3) := by decide +kernel
theorem d6 : decode yB 6 = .ok (.aload_n 0, 1) := by decide +kernel
theorem d7 : decode yB 7 = .ok (.getfield 15, 3) := by decide +kernel
theorem d10 : decode yB 10 = .ok (.goto 4, 3) := by decide +kernel
theorem d14 : decode yB 14 = .ok (.ireturn, 1) := by decide +kernel
def site : List Cond := [.fieldLink "java/lang/String" 38 "java/lang/String" "COMPACT_STRINGS" "Z", .fieldLink "java/lang/String" 15 "java/lang/String" "coder" "B"]
def tab : Cond := tabOf yN yB 1 (some .byte) site
def P (x : Addr) (cd z : Int32) (args : Array Value) (s : State) : Prop := args = #[.ref x] ∧ Has x "java/lang/String" "coder" "B" (.int cd) s ∧ (cd = 0 ∨ cd = 1) ∧ StaticIs s "java/lang/String" "COMPACT_STRINGS" "Z" (.int z) ∧ ¬ z = 0
def E (cd : Int32) (r : Option Value) (s u : State) : Prop := XT.PureE (some (.int cd)) r s u
theorem law (l : Launch) (x : Addr) (cd z : Int32) : Law l yN 1 0 0 0 yB 1 (some .byte) site (P x cd z) (E cd) [] 0 0 := by
  refine Law.of_walk (plainFor_of_name (by decide +kernel)) (by decide +kernel) (by decide +kernel) (by decide) (fun _ _ h => by rw [h.1]; rfl) (fun _ U U' hal hh h => ⟨h.1, h.2.1.mv hal hh, h.2.2.1, h.2.2.2.1.there hal hh, h.2.2.2.2⟩) (fun r U U' V V' h1 hal h2 h => XT.PureE.mv r U U' V V' h1 hal h2 h) ?_
  intro p e s m args below meth c s₁ X0 hexec hbytes hml hret hlk hnm hown hh0 W hP
  obtain ⟨rfl, hx, hc, s1, hz⟩ := hP
  have c1 : Steps p.tables e below (s₁.setTop (entryFrame m #[.ref x] 1)) (s₁.setTop (mkF m 0 #[.val (.ref x)] [])) := entry rfl
  obtain ⟨T2, X2, q2, st2⟩ := X0.sget hexec hown (wk W (.fieldLink "java/lang/String" 38 "java/lang/String" "COMPACT_STRINGS" "Z")) s1 (fun _ _ h => by rw [hh0]; exact h) (g := (mkF m 0 #[.val (.ref x)] [])) rfl (hb hbytes d0)
  have hh2 := q2.trans hh0
  have c3 : Steps p.tables e below (s₁.setTop (entryFrame m #[.ref x] 1)) (T2.setTop (mkF m 7 #[.val (.ref x)] [.ref x])) := (c1.trans (st2 _ (Steps.refl _))).trans (by
    refine XS.ifNo X2.here hexec rfl (hb hbytes d3) rfl (i0_eq_f hz) ?_
    refine XS.aloadN X2.here hexec rfl (hb hbytes d6) rfl rfl ?_
    exact Steps.refl _)
  obtain ⟨T4, X4, q4, st4⟩ := X2.hget hexec hown (wk W (.fieldLink "java/lang/String" 15 "java/lang/String" "coder" "B")) (hx.mv X2.warmed.alike hh2) (g := (mkF m 7 #[.val (.ref x)] [.ref x])) rfl (rest := []) rfl (hb hbytes d7)
  have c5 : Steps p.tables e below (s₁.setTop (entryFrame m #[.ref x] 1)) (T4.setTop (mkF m 14 #[.val (.ref x)] [.int cd])) := (c3.trans (st4 _ (Steps.refl _))).trans (by
    refine XS.goto X4.here hexec rfl (pc0 := 10) rfl (hb hbytes d10) (by decide) rfl ?_
    exact Steps.refl _)
  exact ⟨T4, some (.int cd), _, _, _, X4, rfl, rfl, rfl, (fun h => by cases h), ⟨rfl, q4.trans hh2⟩, fun fs hl => c5.trans (X4.ireturnOut hexec hret (by rcases hc with rfl | rfl <;> rfl) (Or.inr (Or.inr (Or.inl rfl))) (hb hbytes d14) hl)⟩
end Cdr
namespace Len
def yN : MethodName := ⟨"java/lang/String", "length", "()I"⟩
abbrev yB : ByteArray := jdk_42_method_54_code
theorem d0 : decode yB 0 = .ok (.aload_n 0, 1) := by decide +kernel
theorem d1 : decode yB 1 = .ok (.getfield 9, 3) := by decide +kernel
theorem d4 : decode yB 4 = .ok (.arraylength, 1) := by decide +kernel
theorem d5 : decode yB 5 = .ok (.aload_n 0, 1) := by decide +kernel
theorem d6 : decode yB 6 = .ok (.invokevirtual 335, 3) := by decide +kernel
theorem d9 : decode yB 9 = .ok (.ishr, 1) := by decide +kernel
theorem d10 : decode yB 10 = .ok (.ireturn, 1) := by decide +kernel
def site : List Cond := [.fieldLink "java/lang/String" 9 "java/lang/String" "value" "[B", Cdr.tab] ++ virtW "java/lang/String" 335 "java/lang/String" Cdr.yN Cdr.yN
def tab : Cond := tabOf yN yB 1 (some .int) site
def P (x t : Addr) (V : Cell) (cd : Int32) (n : Nat) (f : Nat → Int32) (z : Int32) (args : Array Value) (s : State) : Prop := args = #[.ref x] ∧ Txt x t V cd n f s ∧ StaticIs s "java/lang/String" "COMPACT_STRINGS" "Z" (.int z) ∧ ¬ z = 0
def E (n : Nat) (r : Option Value) (s u : State) : Prop := XT.PureE (some (.int (Int32.ofNat n))) r s u
/-- length() of a String of n chars, in either coding -/
theorem law (l : Launch) (x t : Addr) (V : Cell) (cd : Int32) (n : Nat) (f : Nat → Int32) (z : Int32) : Law l yN 1 0 1 13 yB 1 (some .int) site (P x t V cd n f z) (E n) [] 0 0 := by
  refine Law.of_walk (plainFor_of_name (by decide +kernel)) (by decide +kernel) (by decide +kernel) (by decide) (fun _ _ h => by rw [h.1]; rfl) (fun _ U U' hal hh h => ⟨h.1, h.2.1.mv hal hh, h.2.2.1.there hal hh, h.2.2.2⟩) (fun r U U' V V' h1 hal h2 h => XT.PureE.mv r U U' V V' h1 hal h2 h) ?_
  intro p e s m args below meth c s₁ X0 hexec hbytes hml hret hlk hnm hown hh0 W hP
  obtain ⟨rfl, hx, s1, hz⟩ := hP
  have v31 := hx.2.2.2.1.2.2.2
  have c1 : Steps p.tables e below (s₁.setTop (entryFrame m #[.ref x] 1)) (s₁.setTop (mkF m 1 #[.val (.ref x)] [.ref x])) := Steps.trans (entry rfl) (by
    show Steps p.tables e below (s₁.setTop (mkF m 0 #[.val (.ref x)] [])) _
    refine XS.aloadN X0.here hexec rfl (hb hbytes d0) rfl rfl ?_
    exact Steps.refl _)
  obtain ⟨T2, X2, q2, st2⟩ := X0.hget hexec hown (wk W (.fieldLink "java/lang/String" 9 "java/lang/String" "value" "[B")) (hx.mv X0.warmed.alike hh0).2.1 (g := (mkF m 1 #[.val (.ref x)] [.ref x])) rfl (rest := []) rfl (hb hbytes d1)
  have hh2 := q2.trans hh0
  have hx2 := hx.mv X2.warmed.alike hh2
  have c3 : Steps p.tables e below (s₁.setTop (entryFrame m #[.ref x] 1)) (T2.setTop (mkF m 6 #[.val (.ref x)] [.ref x, .int (Int32.ofNat V.slots.size)])) := (c1.trans (st2 _ (Steps.refl _))).trans (by
    refine X2.alen hexec hx2.2.2.2.1 rfl rfl (hb hbytes d4) ?_
    refine XS.aloadN X2.here hexec rfl (hb hbytes d5) rfl rfl ?_
    exact Steps.refl _)
  obtain ⟨v4, T4, X4, E4, g4⟩ := X2.callV hexec (Cdr.law l x cd z) hown (wks W (virtW "java/lang/String" 335 "java/lang/String" Cdr.yN Cdr.yN)) rfl (by decide) (wk W Cdr.tab) (W := 1) (Nat.le_of_ble_eq_true rfl) (Nat.le_of_ble_eq_true rfl) (Nat.le_refl _) (Nat.le_refl _) (hx2.1.fc X2.warmed.alike) hx2.1.is (g := (mkF m 6 #[.val (.ref x)] [.ref x, .int (Int32.ofNat V.slots.size)])) rfl (by rw [hml]; rfl) c3 (argsL := []) (rest := [.int (Int32.ofNat V.slots.size)]) rfl rfl (by show 2 * 0 + (1 + 0) ≤ _; decide) (hb hbytes d6) (⟨rfl, hx2.2.2.1, hx.2.2.2.2.1.cd, s1.there X2.warmed.alike hh2, hz⟩)
  obtain ⟨rfl, q4⟩ := E4
  have c5 : Steps p.tables e below (s₁.setTop (entryFrame m #[.ref x] 1)) (T4.setTop (mkF m 10 #[.val (.ref x)] [.int (Int32.ofNat V.slots.size >>> (cd &&& 31))])) := Steps.trans g4 (by
    refine ishr X4.here hexec rfl (hb hbytes d9) rfl ?_
    exact Steps.refl _)
  rw [hx.2.2.2.2.1.len v31] at c5
  exact ⟨T4, some (.int (Int32.ofNat n)), _, _, _, X4, rfl, rfl, rfl, (fun h => by cases h), ⟨rfl, q4.trans hh2⟩, fun fs hl => c5.trans (X4.ireturnOut hexec hret rfl (Or.inl rfl) (hb hbytes d10) hl)⟩
theorem pays {l : Launch} {R : Room} {p : Program} {e : Env} {below : List Frame} {s : State} {sargs : Array Value} {len W : Nat} (x t : Addr) (V : Cell) (cd : Int32) (n : Nat) (f : Nat → Int32) (z : Int32) (htab : tab.before sargs s = true) (hfr : 2 ≤ R.frames) (hlo : W + 25 ≤ R.locals) :
    Back l R p e below s sargs yN len W (fun A₁ a₁ => A₁.cells + 0 ≤ R.cells ∧ A₁.slots + 0 ≤ R.slots ∧ P x t V cd n f z a₁ A₁.U) (fun A₁ _ v₁ B₁ => E n v₁ A₁.U B₁.U ∧ B₁.locs = A₁.locs ++ [] ∧ B₁.cells = A₁.cells + 0 ∧ B₁.slots = A₁.slots + 0) :=
  (law l x t V cd n f z).pays htab hfr (by omega)
end Len
namespace IsL
def yN : MethodName := ⟨"java/lang/String", "isLatin1", "()Z"⟩
abbrev yB : ByteArray := jdk_42_method_154_code
theorem d0 : decode yB 0 = .ok (.getstatic 38, 3) := by decide +kernel
theorem d3 : decode yB 3 = .ok (.ifCond (.eq) 14, 3) := by decide +kernel
theorem d6 : decode yB 6 = .ok (.aload_n 0, 1) := by decide +kernel
theorem d7 : decode yB 7 = .ok (.getfield 15, 3) := by decide +kernel
theorem d10 : decode yB 10 = .ok (.ifCond (.ne) 7, 3) := by decide +kernel
theorem d13 : decode yB 13 = .ok (.iconst 1, 1) := by decide +kernel
theorem d14 : decode yB 14 = .ok (.goto 4, 3) := by decide +kernel
theorem d17 : decode yB 17 = .ok (.iconst 0, 1) := by decide +kernel
theorem d18 : decode yB 18 = .ok (.ireturn, 1) := by decide +kernel
def site : List Cond := [.fieldLink "java/lang/String" 38 "java/lang/String" "COMPACT_STRINGS" "Z", .fieldLink "java/lang/String" 15 "java/lang/String" "coder" "B"]
def tab : Cond := tabOf yN yB 1 (some .boolean) site
def P (x : Addr) (cd z : Int32) (args : Array Value) (s : State) : Prop := args = #[.ref x] ∧ Has x "java/lang/String" "coder" "B" (.int cd) s ∧ (cd = 0 ∨ cd = 1) ∧ StaticIs s "java/lang/String" "COMPACT_STRINGS" "Z" (.int z) ∧ ¬ z = 0
def E (cd : Int32) (r : Option Value) (s u : State) : Prop := XT.PureE (some (.int (1 - cd))) r s u
theorem law (l : Launch) (x : Addr) (cd z : Int32) : Law l yN 1 0 0 0 yB 1 (some .boolean) site (P x cd z) (E cd) [] 0 0 := by
  refine Law.of_walk (plainFor_of_name (by decide +kernel)) (by decide +kernel) (by decide +kernel) (by decide) (fun _ _ h => by rw [h.1]; rfl) (fun _ U U' hal hh h => ⟨h.1, h.2.1.mv hal hh, h.2.2.1, h.2.2.2.1.there hal hh, h.2.2.2.2⟩) (fun r U U' V V' h1 hal h2 h => XT.PureE.mv r U U' V V' h1 hal h2 h) ?_
  intro p e s m args below meth c s₁ X0 hexec hbytes hml hret hlk hnm hown hh0 W hP
  obtain ⟨rfl, hx, hc, s1, hz⟩ := hP
  have c1 : Steps p.tables e below (s₁.setTop (entryFrame m #[.ref x] 1)) (s₁.setTop (mkF m 0 #[.val (.ref x)] [])) := entry rfl
  obtain ⟨T2, X2, q2, st2⟩ := X0.sget hexec hown (wk W (.fieldLink "java/lang/String" 38 "java/lang/String" "COMPACT_STRINGS" "Z")) s1 (fun _ _ h => by rw [hh0]; exact h) (g := (mkF m 0 #[.val (.ref x)] [])) rfl (hb hbytes d0)
  have hh2 := q2.trans hh0
  have c3 : Steps p.tables e below (s₁.setTop (entryFrame m #[.ref x] 1)) (T2.setTop (mkF m 7 #[.val (.ref x)] [.ref x])) := (c1.trans (st2 _ (Steps.refl _))).trans (by
    refine XS.ifNo X2.here hexec rfl (hb hbytes d3) rfl (i0_eq_f hz) ?_
    refine XS.aloadN X2.here hexec rfl (hb hbytes d6) rfl rfl ?_
    exact Steps.refl _)
  obtain ⟨T4, X4, q4, st4⟩ := X2.hget hexec hown (wk W (.fieldLink "java/lang/String" 15 "java/lang/String" "coder" "B")) (hx.mv X2.warmed.alike hh2) (g := (mkF m 7 #[.val (.ref x)] [.ref x])) rfl (rest := []) rfl (hb hbytes d7)
  have c5 : Steps p.tables e below (s₁.setTop (entryFrame m #[.ref x] 1)) (T4.setTop (mkF m 10 #[.val (.ref x)] [.int cd])) := c3.trans (st4 _ (Steps.refl _))
  have c6 : Steps p.tables e below (s₁.setTop (entryFrame m #[.ref x] 1)) (T4.setTop (mkF m 18 #[.val (.ref x)] [.int (1 - cd)])) := by
    rcases hc with rfl | rfl
    · exact c5.trans (by
        refine XS.ifNo X4.here hexec rfl (hb hbytes d10) rfl (i0_ne_f rfl) ?_
        refine iconstV X4.here hexec rfl 1 (hb hbytes d13) (by decide) ?_
        refine XS.goto X4.here hexec rfl (pc0 := 14) rfl (hb hbytes d14) (by decide) rfl ?_
        exact Steps.refl _)
    · exact c5.trans (by
        refine XS.ifYes X4.here hexec rfl (pc0 := 10) rfl (hb hbytes d10) rfl (i0_ne_t (by decide)) (by decide) rfl ?_
        refine iconstV X4.here hexec rfl 0 (hb hbytes d17) (by decide) ?_
        exact Steps.refl _)
  exact ⟨T4, some (.int (1 - cd)), _, _, _, X4, rfl, rfl, rfl, (fun h => by cases h), ⟨rfl, q4.trans hh2⟩, fun fs hl => c6.trans (X4.ireturnOut hexec hret (by rcases hc with rfl | rfl <;> rfl) (Or.inr (Or.inl rfl)) (hb hbytes d18) hl)⟩
end IsL
namespace LChA
def yN : MethodName := ⟨"java/lang/StringLatin1", "charAt", "([BI)C"⟩
abbrev yB : ByteArray := jdk_43_method_2_code
theorem d0 : decode yB 0 = .ok (.iload_n 1, 1) := by decide +kernel
theorem d1 : decode yB 1 = .ok (.aload_n 0, 1) := by decide +kernel
theorem d2 : decode yB 2 = .ok (.arraylength, 1) := by decide +kernel
theorem d3 : decode yB 3 = .ok (.invokestatic 9, 3) := by decide +kernel
theorem d6 : decode yB 6 = .ok (.aload_n 0, 1) := by decide +kernel
theorem d7 : decode yB 7 = .ok (.iload_n 1, 1) := by decide +kernel
theorem d8 : decode yB 8 = .ok (.baload, 1) := by decide +kernel
theorem d9 : decode yB 9 = .ok (.sipush 255, 3) := by decide +kernel
theorem d12 : decode yB 12 = .ok (.iand, 1) := by decide +kernel
theorem d13 : decode yB 13 = .ok (.i2c, 1) := by decide +kernel
theorem d14 : decode yB 14 = .ok (.ireturn, 1) := by decide +kernel
def site : List Cond := [JO.Str_checkIndex.tab] ++ staticW "java/lang/StringLatin1" 9 JO.Str_checkIndex.yN
def tab : Cond := tabOf yN yB 2 (some .char) site
def P (t : Addr) (V : Cell) (i : Nat) (u : Int32) (fm : Value) (args : Array Value) (s : State) : Prop := args = #[.ref t, .int (Int32.ofNat i)] ∧ XT.Arr .byte t V s ∧ V.slots[i]? = some (.int u) ∧ (StaticIs s "jdk/internal/util/Preconditions" "SIOOBE_FORMATTER" "Ljava/util/function/BiFunction;" fm ∧ fm.isRef = true)
def E (u : Int32) (r : Option Value) (s w : State) : Prop := XT.PureE (some (.int (chr8 u))) r s w
theorem law (l : Launch) (t : Addr) (V : Cell) (i : Nat) (u : Int32) (fm : Value) : Law l yN 2 2 2 27 yB 2 (some .char) site (P t V i u fm) (E u) [] 0 0 := by
  refine Law.of_walk (plainFor_of_name (by decide +kernel)) (by decide +kernel) (by decide +kernel) (by decide) (fun _ _ h => by rw [h.1]; rfl) (fun _ U U' hal hh h => ⟨h.1, h.2.1.mv hal hh, h.2.2.1, h.2.2.2.1.there hal hh, h.2.2.2.2⟩) (fun r U U' V V' h1 hal h2 h => XT.PureE.mv r U U' V V' h1 hal h2 h) ?_
  intro p e s m args below meth c s₁ X0 hexec hbytes hml hret hlk hnm hown hh0 W hP
  obtain ⟨rfl, hV, hu, s1, rf⟩ := hP
  have v31 := hV.2.2.2
  have hi : i < V.slots.size := (Array.getElem?_eq_some_iff.mp hu).1
  have c1 : Steps p.tables e below (s₁.setTop (entryFrame m #[.ref t, .int (Int32.ofNat i)] 2)) (s₁.setTop (mkF m 0 #[.val (.ref t), .val (.int (Int32.ofNat i))] [])) := entry rfl
  have c2 : Steps p.tables e below (s₁.setTop (entryFrame m #[.ref t, .int (Int32.ofNat i)] 2)) (s₁.setTop (mkF m 3 #[.val (.ref t), .val (.int (Int32.ofNat i))] [.int (Int32.ofNat V.slots.size), .int (Int32.ofNat i)])) := c1.trans (by
    refine XS.iloadN X0.here hexec rfl (hb hbytes d0) rfl ?_
    refine XS.aloadN X0.here hexec rfl (hb hbytes d1) rfl rfl ?_
    refine X0.alen hexec (hV.mv X0.warmed.alike hh0) rfl rfl (hb hbytes d2) ?_
    exact Steps.refl _)
  obtain ⟨v3, T3, X3, E3, g3⟩ := X0.callS hexec (JO.Str_checkIndex.law l (Int32.ofNat i) (Int32.ofNat V.slots.size) fm) hown (wks W (staticW "java/lang/StringLatin1" 9 JO.Str_checkIndex.yN)) (wk W JO.Str_checkIndex.tab) (W := 0) (Nat.le_of_ble_eq_true rfl) (Nat.le_of_ble_eq_true rfl) (Nat.le_refl _) (Nat.le_refl _) (g := (mkF m 3 #[.val (.ref t), .val (.int (Int32.ofNat i))] [.int (Int32.ofNat V.slots.size), .int (Int32.ofNat i)])) rfl (by rw [hml]; rfl) c2 (argsL := [.int (Int32.ofNat i), .int (Int32.ofNat V.slots.size)]) (rest := []) rfl rfl (by show 2 * 0 + 0 ≤ _; decide) (hb hbytes d3) (⟨rfl, rf, s1.there X0.warmed.alike hh0, Int32.ofNat_not_neg (by omega), lt32 v31 hi⟩)
  obtain ⟨rfl, q3⟩ := E3
  have hh3 := q3.trans hh0
  have c4 : Steps p.tables e below (s₁.setTop (entryFrame m #[.ref t, .int (Int32.ofNat i)] 2)) (T3.setTop (mkF m 14 #[.val (.ref t), .val (.int (Int32.ofNat i))] [.int (chr8 u)])) := Steps.trans g3 (by
    refine XS.aloadN X3.here hexec rfl (hb hbytes d6) rfl rfl ?_
    refine XS.iloadN X3.here hexec rfl (hb hbytes d7) rfl ?_
    refine X3.aget hexec (hV.mv X3.warmed.alike hh3) rfl hu rfl rfl (hb hbytes d8) ?_
    refine sipushV X3.here hexec rfl 255 (hb hbytes d9) (by decide) ?_
    refine XS.iand X3.here hexec rfl (hb hbytes d12) rfl ?_
    refine i2c X3.here hexec rfl (hb hbytes d13) rfl ?_
    exact Steps.refl _)
  exact ⟨T3, some (.int (chr8 u)), _, _, _, X3, rfl, rfl, rfl, (fun h => by cases h), ⟨rfl, hh3⟩, fun fs hl => c4.trans (X3.ireturnOut hexec hret (narrow_c _) (Or.inr (Or.inr (Or.inr (Or.inl rfl)))) (hb hbytes d14) hl)⟩
end LChA
end StrChars
namespace StrChars.Road
open Jvm Sem ClassFile Op Lib Jvm.Stand Jvm.Free Jvm.Free.XT
open Jvm.Lib.Cold (StaticIs)
theorem consq {a : Array Value} {s : State} {c : Jvm.Cond} {L : List Jvm.Cond} (h0 : c.before a s = true) (h : ∀ w ∈ L, w.before a s = true) : ∀ w ∈ c :: L, w.before a s = true := fun w hw => (List.mem_cons.mp hw).elim (fun e => e ▸ h0) (h w)
/-- the words of String.length(), either coding -/
abbrev wordsLen : List Jvm.Cond := [.code Len.yN Len.yB 1 (some .int), .initialized ST, .fieldLink ST 9 ST "value" "[B", .fieldLink ST 38 ST "COMPACT_STRINGS" "Z", .fieldLink ST 15 ST "coder" "B", .code Cdr.yN Cdr.yB 1 (some .byte), .methodLink ST 335 Cdr.yN, .declares Cdr.yN, .selects ST Cdr.yN Cdr.yN, .instanceMethod Cdr.yN]
theorem tabLen_of {a : Array Value} {s : State} (h : ∀ w ∈ wordsLen, w.before a s = true) : Len.tab.before a s = true := by
  have hc : Cdr.tab.before a s = true := unparts (wk h (.code Cdr.yN Cdr.yB 1 (some .byte))) (wks h (.initialized Cdr.yN.cls :: Cdr.site))
  have q := consq hc h
  exact unparts (wk q (.code Len.yN Len.yB 1 (some .int))) (wks q (.initialized Len.yN.cls :: Len.site))
theorem movedLen {Z s : State} {a0 args : Array Value} (hZ : Z.Warmed39 s.vm) (hw : ∀ d ∈ wordsLen, d.before a0 Z = true) : ∀ d ∈ wordsLen, d.before args s = true := fun d hd => by
  have q := hw d hd
  have t : ∀ d ∈ wordsLen, d = .arrayClass .byte ∨ (d.onTables && d.keepsFace) = true := by decide +kernel
  rcases t d hd with rfl | t
  · exact RoadKit.mvA hZ q
  · exact RoadKit.mv hZ q t
/-- the bytes of the chars cs, low before high -/
def wideBytes : List Int32 → List Value
  | [] => []
  | c :: cs => .int (lo8 c) :: .int (hi8 c) :: wideBytes cs
theorem wide_lo (d : Value) : ∀ (cs : List Int32) (j : Nat), j < cs.length → (wideBytes cs).getD (2 * j) d = .int (lo8 (cs.getD j 0))
  | [], j, h => absurd h (Nat.not_lt_zero j)
  | c :: cs, 0, _ => rfl
  | c :: cs, j + 1, h => by
    have q := wide_lo d cs j (by simpa using h)
    rw [show 2 * (j + 1) = 2 * j + 1 + 1 from by omega]
    simpa [wideBytes] using q
theorem wide_hi (d : Value) : ∀ (cs : List Int32) (j : Nat), j < cs.length → (wideBytes cs).getD (2 * j + 1) d = .int (hi8 (cs.getD j 0))
  | [], j, h => absurd h (Nat.not_lt_zero j)
  | c :: cs, 0, _ => rfl
  | c :: cs, j + 1, h => by
    have q := wide_hi d cs j (by simpa using h)
    rw [show 2 * (j + 1) + 1 = 2 * j + 1 + 1 + 1 from by omega]
    simpa [wideBytes] using q
theorem low_at (d : Value) (cs : List Int32) (j : Nat) (h : j < cs.length) : (cs.map fun c => Value.int (lo8 c)).getD j d = .int (lo8 (cs.getD j 0)) := by
  simp [List.getD_eq_getElem?_getD, h]
/-- an array of N2 bytes vs codes the chars cs by the coder cd -/
def CodA (cs : List Int32) (cd N2 : Int32) (vs : List Value) : Prop := (cd = 0 ∧ N2 = Int32.ofNat cs.length ∧ vs = (cs.map fun c => Value.int (lo8 c)) ∧ ∀ c ∈ cs, ¬ 255 < c) ∨ (cd = 1 ∧ N2 = Int32.ofNat (2 * cs.length) ∧ vs = wideBytes cs ∧ ∃ c ∈ cs, 255 < c)
theorem CodA.cod {cs : List Int32} {cd N2 : Int32} {vs : List Value} {V : Cell} (h : CodA cs cd N2 vs) (hn : 2 * cs.length < 2 ^ 31) (hs : V.slots.size = N2.toNatClampNeg) (hv : RoadKit.Has V vs (.int 0)) : Cod cd cs.length (fun j => cs.getD j 0) V := by
  rcases h with ⟨rfl, rfl, rfl, h⟩ | ⟨rfl, rfl, rfl, c, hc, hw⟩
  · rw [n32 (by omega)] at hs
    exact Or.inl ⟨rfl, hs, fun j hj => ⟨by rw [hv j (by omega), low_at _ _ _ hj], by
      have e : cs.getD j 0 = cs[j] := by simp [List.getD_eq_getElem?_getD, hj]
      show ¬ 255 < cs.getD j 0
      rw [e]; exact h _ (List.getElem_mem _)⟩⟩
  · rw [n32 (by omega)] at hs
    obtain ⟨j, hj, rfl⟩ := List.getElem_of_mem hc
    exact Or.inr ⟨rfl, hs, fun j hj => ⟨by rw [hv _ (by omega), wide_lo _ _ _ hj], by rw [hv _ (by omega), wide_hi _ _ _ hj]⟩, j, hj, by
      have e : cs.getD j 0 = cs[j] := by simp [List.getD_eq_getElem?_getD, hj]
      show 255 < cs.getD j 0
      rw [e]; exact hw⟩
/-- an object of exactly java/lang/String, its two fields found: as the laws ask it -/
theorem strObj {Z U : State} {a0 : Array Value} {kI : Nat} (wi : (Jvm.Cond.instantiable ST kI).before a0 Z = true) (al : Z.vm.Alike U.vm) {x : Addr} {v0 c0 : Value} (E : RoadKit.Exa Z U.heap x ST) (V : RoadKit.Fld Z U.heap x ST "value" "[B" v0) (C : RoadKit.Fld Z U.heap x ST "coder" "B" c0) :
    ∃ (D : Cell) (fV fC : Field), Blank ST x D U ∧ Found ST "value" "[B" fV U ∧ Found ST "coder" "B" fC U ∧ D.slots[fV.slot]? = some v0 ∧ D.slots[fC.slot]? = some c0 ∧ RoadKit.slotOf Z ST "value" "[B" = fV.slot ∧ RoadKit.slotOf Z ST "coder" "B" = fC.slot := by
  obtain ⟨D, cfV, kV, iV, fV, hD, gV, stV, knV, obV, asV, slV⟩ := V
  obtain ⟨D', cfC, kC, iC, fC, hD', gC, stC, -, -, asC, slC⟩ := C
  cases hD.symm.trans hD'
  obtain ⟨D2, kD, e1, e2, e3, e4, e5⟩ := E
  cases hD.symm.trans e1
  obtain ⟨c2, k2, i1, i2, i3, -⟩ := Cond.instantiable_spec wi
  cases e2.symm.trans i1
  cases e3.symm.trans i2
  obtain ⟨kU, u1, u2⟩ := al.2.2 _ _ e3
  exact ⟨D, fV, fC, ⟨hD, ⟨knV, fun q hq => by rw [hq] at obV; cases obV⟩, by rw [al.findClass]; exact e2, kU, u1, by rw [u2]; exact i3, by rw [u2]; exact e5 i3⟩, ⟨SBG.found_only al ⟨cfV, kV, iV, gV⟩, stV⟩, ⟨SBG.found_only al ⟨cfC, kC, iC, gC⟩, stC⟩, slV, slC, by simp [RoadKit.slotOf, gV], by simp [RoadKit.slotOf, gC]⟩
theorem sta_is {Z U : State} (al : Z.vm.Alike U.vm) {C n d : String} {v : Value} (S : RoadKit.Sta Z U.heap C n d v) : StaticIs U C n d v := by
  obtain ⟨cfS, iS, kS, fS, st, cS, t1, t2, t3, t4, t5, t6, t7⟩ := S
  exact StaticIs.there (s := { Z with heap := U.heap }) ⟨cfS, iS, kS, fS, st, cS, t1, t2, t3, t4, t5, (fun q => by rw [q] at t6; cases t6), t7⟩ al rfl
/-- **length() OF SUCH A STRING** -/
theorem lenW {p : Program} {l : Launch} {e : Env} {R : Room} {s : State} {args : Array Value} {below : List Frame} {len W : Nat} {Z : State} {a0 : Array Value} {h : Heap} (hZ : Z.Warmed39 s.vm) (hw : ∀ d ∈ wordsLen, d.before a0 Z = true) {kI : Nat} (wi : (Jvm.Cond.instantiable ST kI).before a0 Z = true)
    {x t : Addr} {kb : ClassId} {cs : List Int32} {cd N2 z : Int32} {vs : List Value} (E : RoadKit.Exa Z h x ST) (V : RoadKit.Fld Z h x ST "value" "[B" (.ref t)) (C : RoadKit.Fld Z h x ST "coder" "B" (.int cd)) (K : RoadKit.Arv Z h t kb .byte N2 vs (.int 0)) (hc : CodA cs cd N2 vs) (hb : ∀ c ∈ cs, ¬ c < 0 ∧ ¬ (65535 : Int32) < c)
    (S : RoadKit.Sta Z h ST "COMPACT_STRINGS" "Z" (.int z)) (hz : ¬ z = 0) (l2 : cs.length ≤ 4000) (hfr : 2 ≤ R.frames) (hlo : W + 25 ≤ R.locals) :
    Back l R p e below s args (⟨"java/lang/String", "length", "()I"⟩ : MethodName) len W (fun P a => a = #[.ref x] ∧ P.U.heap = h ∧ P.cells + 0 ≤ R.cells ∧ P.slots + 0 ≤ R.slots)
      (fun P _ v B => ∃ L, (v = some (.int (Int32.ofNat cs.length)) ∧ L = [] ∧ B.U.heap = h) ∧ B.locs = P.locs ++ L ∧ B.cells = P.cells + 0 ∧ B.slots = P.slots + 0) := by
  obtain ⟨A, K1, K2, K3, K4, K5, K6⟩ := K
  have hcod := hc.cod (by omega) K3 K5
  intro m meth c P g ig mk a X hg hsize hdg hW hn hp'
  obtain ⟨rfl, rfl, r1, r2⟩ := hp'
  have al : Z.vm.Alike P.U.vm := hZ.alike.trans X.warmed.alike
  obtain ⟨D, fV, fC, hB, F1, F2, g1, g2, -, -⟩ := strObj wi al E V C
  have hx : Txt x t A cd cs.length (fun j => cs.getD j 0) P.U := ⟨⟨_, hB.2.2.1, D, hB.1, rfl, by cases q : D.vm <;> first | rfl | exact absurd q (hB.2.1.2 _)⟩, Has.of hB F1 g1, Has.of hB F2 g2, ⟨K1.1, State.isArrayOf_alike al K1.2.1, K1.2.2, by rcases hcod with ⟨-, q, -⟩ | ⟨-, q, -⟩ <;> omega⟩, hcod, fun j hj => by
    have e : cs.getD j 0 = cs[j] := by simp [List.getD_eq_getElem?_getD, hj]
    show ¬ cs.getD j 0 < 0 ∧ ¬ 65535 < cs.getD j 0
    rw [e]; exact hb _ (List.getElem_mem _)⟩
  obtain ⟨v, B, X', ⟨⟨hv, hh⟩, hl, hk, hs⟩, st⟩ := Len.pays x t A cd cs.length (fun j => cs.getD j 0) z (tabLen_of (movedLen hZ hw)) hfr hlo m meth c P g ig mk _ X hg hsize hdg hW hn ⟨r1, r2, rfl, hx, sta_is al S, hz⟩
  exact ⟨v, B, X', ⟨[], ⟨hv, rfl, hh⟩, hl, hk, hs⟩, st⟩
end StrChars.Road
namespace StrChars.Road
open Jvm Sem ClassFile Op Lib Jvm.Stand Jvm.Free Jvm.Free.XT
open Jvm.Lib.Cold (StaticIs)
/-- the road's facts of a String, as the laws ask it -/
theorem txt_of {Z U : State} {a0 : Array Value} {kI : Nat} (wi : (Jvm.Cond.instantiable ST kI).before a0 Z = true) (al : Z.vm.Alike U.vm) {x t : Addr} {kb : ClassId} {cs : List Int32} {cd N2 : Int32} {vs : List Value} (E : RoadKit.Exa Z U.heap x ST) (V : RoadKit.Fld Z U.heap x ST "value" "[B" (.ref t)) (C : RoadKit.Fld Z U.heap x ST "coder" "B" (.int cd)) (K : RoadKit.Arv Z U.heap t kb .byte N2 vs (.int 0)) (hc : CodA cs cd N2 vs) (hb : ∀ c ∈ cs, ¬ c < 0 ∧ ¬ (65535 : Int32) < c) (l2 : cs.length ≤ 4000) :
    ∃ A, Txt x t A cd cs.length (fun j => cs.getD j 0) U := by
  obtain ⟨A, K1, K2, K3, K4, K5, K6⟩ := K
  have hcod := hc.cod (by omega) K3 K5
  obtain ⟨D, fV, fC, hB, F1, F2, g1, g2, -, -⟩ := strObj wi al E V C
  exact ⟨A, ⟨_, hB.2.2.1, D, hB.1, rfl, by cases q : D.vm <;> first | rfl | exact absurd q (hB.2.1.2 _)⟩, Has.of hB F1 g1, Has.of hB F2 g2, ⟨K1.1, State.isArrayOf_alike al K1.2.1, K1.2.2, by rcases hcod with ⟨-, q, -⟩ | ⟨-, q, -⟩ <;> omega⟩, hcod, fun j hj => by
    have e : cs.getD j 0 = cs[j] := by simp [List.getD_eq_getElem?_getD, hj]
    show ¬ cs.getD j 0 < 0 ∧ ¬ 65535 < cs.getD j 0
    rw [e]; exact hb _ (List.getElem_mem _)⟩
end StrChars.Road
namespace StrChars
open Jvm Sem ClassFile Op Lib Jvm.Stand Jvm.Free.XT Jvm.Free.ALB Jvm.Free.JM Jvm.Free
open Jvm.Lib.Cold (StaticIs)
namespace ChN
def yN : MethodName := ⟨"java/lang/String", "charAt", "(I)C"⟩
abbrev yB : ByteArray := jdk_42_method_56_code
theorem d0 : decode yB 0 = .ok (.aload_n 0, 1) := by decide +kernel
theorem d1 : decode yB 1 = .ok (.invokevirtual 492, 3) := by decide +kernel
theorem d4 : decode yB 4 = .ok (.ifCond (.eq) 12, 3) := by decide +kernel
theorem d7 : decode yB 7 = .ok (.aload_n 0, 1) := by decide +kernel
theorem d8 : decode yB 8 = .ok (.getfield 9, 3) := by decide +kernel
theorem d11 : decode yB 11 = .ok (.iload_n 1, 1) := by decide +kernel
theorem d12 : decode yB 12 = .ok (.invokestatic 495, 3) := by decide +kernel
theorem d15 : decode yB 15 = .ok (.ireturn, 1) := by decide +kernel
def site : List Cond := [.fieldLink "java/lang/String" 9 "java/lang/String" "value" "[B", IsL.tab, LChA.tab] ++ virtW "java/lang/String" 492 "java/lang/String" IsL.yN IsL.yN ++ staticW "java/lang/String" 495 LChA.yN
def tab : Cond := tabOf yN yB 2 (some .char) site
def P (x t : Addr) (V : Cell) (n : Nat) (f : Nat → Int32) (z : Int32) (fm : Value) (i : Nat) (args : Array Value) (s : State) : Prop := args = #[.ref x, .int (Int32.ofNat i)] ∧ Txt x t V 0 n f s ∧ i < n ∧ StaticIs s "java/lang/String" "COMPACT_STRINGS" "Z" (.int z) ∧ ¬ z = 0 ∧ StaticIs s "jdk/internal/util/Preconditions" "SIOOBE_FORMATTER" "Ljava/util/function/BiFunction;" fm ∧ fm.isRef = true
def E (f : Nat → Int32) (i : Nat) (r : Option Value) (s u : State) : Prop := XT.PureE (some (.int (f i))) r s u
/-- charAt(i) of a Latin-1 String of n chars, i < n: f i -/
theorem law (l : Launch) (x t : Addr) (V : Cell) (n : Nat) (f : Nat → Int32) (z : Int32) (fm : Value) (i : Nat) : Law l yN 2 1 3 40 yB 2 (some .char) site (P x t V n f z fm i) (E f i) [] 0 0 := by
  refine Law.of_walk (plainFor_of_name (by decide +kernel)) (by decide +kernel) (by decide +kernel) (by decide) (fun _ _ h => by rw [h.1]; rfl) (fun _ U U' hal hh h => ⟨h.1, h.2.1.mv hal hh, h.2.2.1, h.2.2.2.1.there hal hh, h.2.2.2.2.1, h.2.2.2.2.2.1.there hal hh, h.2.2.2.2.2.2⟩) (fun r U U' V V' h1 hal h2 h => XT.PureE.mv r U U' V V' h1 hal h2 h) ?_
  intro p e s m args below meth c s₁ X0 hexec hbytes hml hret hlk hnm hown hh0 W hP
  obtain ⟨rfl, hx, hi, s1, hz, s3, rf⟩ := hP
  have v31 := hx.2.2.2.1.2.2.2
  have hr := hx.2.2.2.2.2 i hi
  have hx0 := hx.mv X0.warmed.alike hh0
  have c1 : Steps p.tables e below (s₁.setTop (entryFrame m #[.ref x, .int (Int32.ofNat i)] 2)) (s₁.setTop (mkF m 1 #[.val (.ref x), .val (.int (Int32.ofNat i))] [.ref x])) := Steps.trans (entry rfl) (by
    show Steps p.tables e below (s₁.setTop (mkF m 0 #[.val (.ref x), .val (.int (Int32.ofNat i))] [])) _
    refine XS.aloadN X0.here hexec rfl (hb hbytes d0) rfl rfl ?_
    exact Steps.refl _)
  obtain ⟨v2, T2, X2, E2, g2⟩ := X0.callV hexec (IsL.law l x 0 z) hown (wks W (virtW "java/lang/String" 492 "java/lang/String" IsL.yN IsL.yN)) rfl (by decide) (wk W IsL.tab) (W := 0) (Nat.le_of_ble_eq_true rfl) (Nat.le_of_ble_eq_true rfl) (Nat.le_refl _) (Nat.le_refl _) (hx0.1.fc X0.warmed.alike) hx0.1.is (g := (mkF m 1 #[.val (.ref x), .val (.int (Int32.ofNat i))] [.ref x])) rfl (by rw [hml]; rfl) c1 (argsL := []) (rest := []) rfl rfl (by show 2 * 0 + 0 ≤ _; decide) (hb hbytes d1) (⟨rfl, hx0.2.2.1, hx.2.2.2.2.1.cd, s1.there X0.warmed.alike hh0, hz⟩)
  obtain ⟨rfl, q2⟩ := E2
  have hh2 := q2.trans hh0
  have hx2 := hx.mv X2.warmed.alike hh2
  obtain ⟨-, k1, k2⟩ | ⟨k0, -⟩ := hx.2.2.2.2.1
  · have c3 : Steps p.tables e below (s₁.setTop (entryFrame m #[.ref x, .int (Int32.ofNat i)] 2)) (T2.setTop (mkF m 8 #[.val (.ref x), .val (.int (Int32.ofNat i))] [.ref x])) := Steps.trans g2 (by
      refine XS.ifNo X2.here hexec rfl (hb hbytes d4) rfl (i0_eq_f (by decide)) ?_
      refine XS.aloadN X2.here hexec rfl (hb hbytes d7) rfl rfl ?_
      exact Steps.refl _)
    obtain ⟨T4, X4, q4, st4⟩ := X2.hget hexec hown (wk W (.fieldLink "java/lang/String" 9 "java/lang/String" "value" "[B")) hx2.2.1 (g := (mkF m 8 #[.val (.ref x), .val (.int (Int32.ofNat i))] [.ref x])) rfl (rest := []) rfl (hb hbytes d8)
    have hh4 := q4.trans hh2
    have c5 : Steps p.tables e below (s₁.setTop (entryFrame m #[.ref x, .int (Int32.ofNat i)] 2)) (T4.setTop (mkF m 12 #[.val (.ref x), .val (.int (Int32.ofNat i))] [.int (Int32.ofNat i), .ref t])) := (c3.trans (st4 _ (Steps.refl _))).trans (by
      refine XS.iloadN X4.here hexec rfl (hb hbytes d11) rfl ?_
      exact Steps.refl _)
    obtain ⟨v6, T6, X6, E6, g6⟩ := X4.callS hexec (LChA.law l t V i (lo8 (f i)) fm) hown (wks W (staticW "java/lang/String" 495 LChA.yN)) (wk W LChA.tab) (W := 0) (Nat.le_of_ble_eq_true rfl) (Nat.le_of_ble_eq_true rfl) (Nat.le_refl _) (Nat.le_refl _) (g := (mkF m 12 #[.val (.ref x), .val (.int (Int32.ofNat i))] [.int (Int32.ofNat i), .ref t])) rfl (by rw [hml]; rfl) c5 (argsL := [.ref t, .int (Int32.ofNat i)]) (rest := []) rfl rfl (by show 2 * 0 + 0 ≤ _; decide) (hb hbytes d12) (⟨rfl, hx.2.2.2.1.mv X4.warmed.alike hh4, (k2 i hi).1, s3.there X4.warmed.alike hh4, rf⟩)
    obtain ⟨rfl, q6⟩ := E6
    rw [chr8_lo8 hr.1 (k2 i hi).2] at g6
    exact ⟨T6, some (.int (f i)), _, _, _, X6, rfl, rfl, rfl, (fun h => by cases h), ⟨rfl, q6.trans hh4⟩, fun fs hl => Steps.trans g6 (X6.ireturnOut hexec hret (narrow_ch hr.1 hr.2) (Or.inr (Or.inr (Or.inr (Or.inl rfl)))) (hb hbytes d15) hl)⟩
  · exact absurd k0 (by decide)
theorem pays {l : Launch} {R : Room} {p : Program} {e : Env} {below : List Frame} {s : State} {sargs : Array Value} {len W : Nat} (x t : Addr) (V : Cell) (n : Nat) (f : Nat → Int32) (z : Int32) (fm : Value) (i : Nat) (htab : tab.before sargs s = true) (hfr : 4 ≤ R.frames) (hlo : W + 53 ≤ R.locals) :
    Back l R p e below s sargs yN len W (fun A₁ a₁ => A₁.cells + 0 ≤ R.cells ∧ A₁.slots + 0 ≤ R.slots ∧ P x t V n f z fm i a₁ A₁.U) (fun A₁ _ v₁ B₁ => E f i v₁ A₁.U B₁.U ∧ B₁.locs = A₁.locs ++ [] ∧ B₁.cells = A₁.cells + 0 ∧ B₁.slots = A₁.slots + 0) :=
  (law l x t V n f z fm i).pays htab hfr (by omega)
end ChN
end StrChars
namespace StrChars.Road
open Jvm Sem ClassFile Op Lib Jvm.Stand Jvm.Free Jvm.Free.XT
open Jvm.Lib.Cold (StaticIs)
/-- the words of String.charAt(int), the Latin-1 road alone -/
abbrev wordsChN : List Jvm.Cond := [.code ChN.yN ChN.yB 2 (some .char), .initialized ST, .fieldLink ST 9 ST "value" "[B", .fieldLink ST 38 ST "COMPACT_STRINGS" "Z", .fieldLink ST 15 ST "coder" "B", .code IsL.yN IsL.yB 1 (some .boolean), .methodLink ST 492 IsL.yN, .declares IsL.yN, .selects ST IsL.yN IsL.yN, .instanceMethod IsL.yN,
  .methodLink ST 495 LChA.yN, .static LChA.yN, .code LChA.yN LChA.yB 2 (some .char), .initialized "java/lang/StringLatin1", .methodLink "java/lang/StringLatin1" 9 JO.Str_checkIndex.yN, .static JO.Str_checkIndex.yN, .code JO.Str_checkIndex.yN JO.Str_checkIndex.yB 2 none,
  .fieldLink ST 1053 "jdk/internal/util/Preconditions" "SIOOBE_FORMATTER" "Ljava/util/function/BiFunction;", .methodLink ST 1059 JC.PreCheck.yN, .static JC.PreCheck.yN, .code JC.PreCheck.yN JC.PreCheck.yB 3 (some .int), .initialized "jdk/internal/util/Preconditions"]
theorem tabChN_of {a : Array Value} {s : State} (h : ∀ w ∈ wordsChN, w.before a s = true) : ChN.tab.before a s = true := by
  have hp : JC.PreCheck.tab.before a s = true := unparts (wk h (.code JC.PreCheck.yN JC.PreCheck.yB 3 (some .int))) (wks h (.initialized JC.PreCheck.yN.cls :: JC.PreCheck.site))
  have qk := consq hp h
  have hk : JO.Str_checkIndex.tab.before a s = true := unparts (wk qk (.code JO.Str_checkIndex.yN JO.Str_checkIndex.yB 2 none)) (wks qk (.initialized JO.Str_checkIndex.yN.cls :: JO.Str_checkIndex.site))
  have ql := consq hk h
  have hl : LChA.tab.before a s = true := unparts (wk ql (.code LChA.yN LChA.yB 2 (some .char))) (wks ql (.initialized LChA.yN.cls :: LChA.site))
  have hi : IsL.tab.before a s = true := unparts (wk h (.code IsL.yN IsL.yB 1 (some .boolean))) (wks h (.initialized IsL.yN.cls :: IsL.site))
  have q := consq hi (consq hl h)
  exact unparts (wk q (.code ChN.yN ChN.yB 2 (some .char))) (wks q (.initialized ChN.yN.cls :: ChN.site))
theorem movedChN {Z s : State} {a0 args : Array Value} (hZ : Z.Warmed39 s.vm) (hw : ∀ d ∈ wordsChN, d.before a0 Z = true) : ∀ d ∈ wordsChN, d.before args s = true := fun d hd => by
  have t : ∀ d ∈ wordsChN, (d.onTables && d.keepsFace) = true := by decide +kernel
  exact RoadKit.mv hZ (hw d hd) (t d hd)
/-- **charAt(i) OF A LATIN-1 STRING**, i < n: the char -/
theorem chN {p : Program} {l : Launch} {e : Env} {R : Room} {s : State} {args : Array Value} {below : List Frame} {len W : Nat} {Z : State} {a0 : Array Value} {h : Heap} (hZ : Z.Warmed39 s.vm) (hw : ∀ d ∈ wordsChN, d.before a0 Z = true) {kI : Nat} (wi : (Jvm.Cond.instantiable ST kI).before a0 Z = true)
    {x t : Addr} {kb : ClassId} {cs : List Int32} {N2 z : Int32} {vs : List Value} {fm : Value} {i : Nat} {j : Int32} (E : RoadKit.Exa Z h x ST) (V : RoadKit.Fld Z h x ST "value" "[B" (.ref t)) (C : RoadKit.Fld Z h x ST "coder" "B" (.int 0)) (K : RoadKit.Arv Z h t kb .byte N2 vs (.int 0)) (hc : CodA cs 0 N2 vs) (hb : ∀ c ∈ cs, ¬ c < 0 ∧ ¬ (65535 : Int32) < c)
    (S : RoadKit.Sta Z h ST "COMPACT_STRINGS" "Z" (.int z)) (hz : ¬ z = 0) (F : RoadKit.Sta Z h "jdk/internal/util/Preconditions" "SIOOBE_FORMATTER" "Ljava/util/function/BiFunction;" fm) (rf : fm.isRef = true) (l2 : cs.length ≤ 4000) (hi : i < cs.length) (hj : j = Int32.ofNat i) (hfr : 4 ≤ R.frames) (hlo : W + 53 ≤ R.locals) :
    Back l R p e below s args (⟨"java/lang/String", "charAt", "(I)C"⟩ : MethodName) len W (fun P a => a = #[.ref x, .int j] ∧ P.U.heap = h ∧ P.cells + 0 ≤ R.cells ∧ P.slots + 0 ≤ R.slots)
      (fun P _ v B => ∃ L, (v = some (.int (cs.getD i 0)) ∧ L = [] ∧ B.U.heap = h) ∧ B.locs = P.locs ++ L ∧ B.cells = P.cells + 0 ∧ B.slots = P.slots + 0) := by
  subst hj
  intro m meth c P g ig mk a X hg hsize hdg hW hn hp'
  obtain ⟨rfl, rfl, r1, r2⟩ := hp'
  have al : Z.vm.Alike P.U.vm := hZ.alike.trans X.warmed.alike
  obtain ⟨A, hx⟩ := txt_of wi al E V C K hc hb l2
  obtain ⟨v, B, X', ⟨⟨hv, hh⟩, hl, hk, hs⟩, st⟩ := ChN.pays x t A cs.length (fun j => cs.getD j 0) z fm i (tabChN_of (movedChN hZ hw)) hfr hlo m meth c P g ig mk _ X hg hsize hdg hW hn ⟨r1, r2, rfl, hx, hi, sta_is al S, hz, sta_is al F, rf⟩
  exact ⟨v, B, X', ⟨[], ⟨hv, rfl, hh⟩, hl, hk, hs⟩, st⟩
/-- what backV says of its String, as the contracts of this text ask it: cs's low bytes, coder 0 -/
theorem codOf {cs : List Int32} {n : Nat} (hn : cs.length = n) (hb : ∀ c ∈ cs, ¬ 255 < c) : CodA cs 0 (Int32.ofNat n) ((cs.map lo8).map Value.int) := Or.inl ⟨rfl, by rw [hn], by simp [List.map_map, Function.comp_def], hb⟩
end StrChars.Road
end Jvm.Pilot.@@N@@
namespace Jvm.Pilot.@@N@@
open Jvm Jvm.ClassFile Sem Op Lib Jvm.Free Jvm.Stand Jvm.LawKit Jvm.RoadKit Bundle Jvm.Pilot.@@N@@.Jvm.D
def own_Go (p : Program) (e : Env) (below : List Frame) (A : State) (G : Outcome → State → Prop) : Prop := ∃ s₂ o, Steps p.tables e below A s₂ ∧ s₂.status = .running ∧ Ended s₂ below o ∧ G o s₂
theorem own_go {p : Program} {e : Env} {below : List Frame} {A B : State} {G : Outcome → State → Prop} (st : ∀ t, Steps p.tables e below B t → Steps p.tables e below A t) (k : own_Go p e below B G) : own_Go p e below A G := by
  obtain ⟨t, o, h1, h2⟩ := k
  exact ⟨t, o, st t h1, h2⟩
theorem own_gos {p : Program} {e : Env} {below : List Frame} {A B : State} {G : Outcome → State → Prop} (st : Steps p.tables e below A B) (k : own_Go p e below B G) : own_Go p e below A G := by
  obtain ⟨t, o, h1, h2⟩ := k
  exact ⟨t, o, st.trans h1, h2⟩
theorem own_fin {p : Program} {l : Launch} {e : Env} {R : Room} {s : State} {m : MethodId} {args : Array Value} {below : List Frame} {meth : Method} {c : Code} {T : State} {locs : List Loc} {cells slots : Nat} (X : Stand p l e R s m args below meth c T locs cells slots) {v : Option Value} (hv : meth.sig.returnType = none → v = none) (hl : meth.locks = false) {A : State}
    (ret : ∀ fs : List Frame, (∀ (f : JFrame) (acts : List Action), f.method = m → f.locked = none → f.entered = [] → (doReturn e (T.setTop f) acts v).1 = T.setFrames fs) → Steps p.tables e below A (T.setFrames fs)) {QQ : Option Value → Heap → List Loc → Prop} (hQ : QQ v T.heap locs) {C S : Nat} (hc : cells ≤ C) (hs : slots ≤ S) :
    own_Go p e below A (fun o U' => ∃ v L, o = .returned v ∧ QQ v U'.heap L ∧ FrameEnd s o U' L C S) := by
  obtain ⟨fs, hr, hrun, hended, hW, hsame⟩ := X.leave hv hl
  exact ⟨_, _, ret fs hr, hrun, hended, v, locs, rfl, hQ, ⟨_, rfl⟩, hW, hsame.mono hc hs⟩
theorem own_and255 (x : Int32) : ¬ nar .char ((x &&& (255 : Int32)).toUInt32.toUInt16.toUInt32.toInt32) < 0 ∧ ¬ (255 : Int32) < nar .char ((x &&& (255 : Int32)).toUInt32.toUInt16.toUInt32.toInt32) := by
  have t : ∀ k : Fin 256, ¬ nar .char ((Int32.ofNat k.val).toUInt32.toUInt16.toUInt32.toInt32) < 0 ∧ ¬ (255 : Int32) < nar .char ((Int32.ofNat k.val).toUInt32.toUInt16.toUInt32.toInt32) := by decide +kernel
  have h : (x &&& 255).toBitVec.toNat < 256 := by
    simp only [Int32.toBitVec_and, BitVec.toNat_and]
    exact Nat.lt_succ_of_le Nat.and_le_right
  have e : (x &&& 255) = Int32.ofNat (x &&& 255).toBitVec.toNat := by
    apply Int32.toBitVec_inj.mp
    show _ = BitVec.ofNat 32 _
    rw [BitVec.ofNat_toNat]; simp
  rw [e]
  exact t ⟨_, h⟩
theorem own_up (cs : List Int32) (h : ∀ c ∈ cs, ¬ c < 0 ∧ ¬ (255 : Int32) < c) : ∀ c ∈ cs, ¬ c < 0 ∧ ¬ (65535 : Int32) < c := fun c hc => ⟨(h c hc).1, fun q => (h c hc).2 (by rw [Int32.lt_iff_toInt_lt] at q ⊢; have e1 : (65535 : Int32).toInt = 65535 := rfl; have e2 : (255 : Int32).toInt = 255 := rfl; omega)⟩
theorem own_catR {v : Value} (h : v.isRef = true) : v.category = 1 := by cases v <;> first | rfl | cases h
def QPure (r : Option Value) (h0 : Heap) (n0 : Nat) (v : Option Value) (h : Heap) (L : List Loc) : Prop := v = r ∧ Fr n0 L ∧ h = h0
theorem own_selP {Z s : State} {a0 args : Array Value} {y : MethodName} {n : Nat} (hZ : Z.Warmed39 s.vm) (wi : (Cond.instantiable y.cls n).before a0 Z = true) (wp : (Cond.privateMethod y).before a0 Z = true) (wm : (Cond.instanceMethod y).before a0 Z = true) (hy : y.cls ≠ "java/lang/invoke/MethodHandle" ∧ y.cls ≠ "java/lang/invoke/VarHandle") : (Cond.selects y.cls y y).before args s = true := by
  have wi' : (Cond.instantiable y.cls n).before args s = true := mvT hZ wi
  have wm' : (Cond.instanceMethod y).before args s = true := mvT hZ wm
  obtain ⟨c, k, h1, h2, h3, h4⟩ := Cond.instantiable_spec wi'
  refine Jvm.Stand.selects_self_of_private h1 h2 ?_ (Cond.privateMethod_at (mvP hZ wp (args := args))) wm' hy
  have h5 := h4.1
  cases hi : k.isInterface <;> simp_all
theorem d_jdk_30_m1_0 : decode jdk_30_method_1_code 0 = .ok (.aload_n 0, 1) := by decide +kernel
theorem d_jdk_30_m1_1 : decode jdk_30_method_1_code 1 = .ok (.invokespecial 1, 3) := by decide +kernel
theorem d_jdk_30_m1_4 : decode jdk_30_method_1_code 4 = .ok (.return_, 1) := by decide +kernel
theorem pn_0 : plainName "java/lang/Record" = true := by first | (simp [plainName, overriddenIn]; done) | decide +kernel
theorem ef_rm_rec (m : MethodId) (x0 : Addr) : entryFrame m #[(.ref x0)] 1 = mkF m 0 #[.val (.ref x0)] [] := by
   first | (simp [entryFrame, mkF, argsToLocals, Value.category]; done) | rfl
set_option maxRecDepth 65536 in
set_option maxHeartbeats 40000000 in
theorem rm_rec (l : Launch) (Z : State) (a0 : Array Value) (hw : ∀ d ∈ tables_1, d.before a0 Z = true) (ws : List Jvm.Cond) (a1 : Addr) (h0 : Heap) (n0 : Nat) (O0 : Old Z n0 h0) :
    MetFree l (⟨"java/lang/Record", "<init>", "()V"⟩ : MethodName) (head1 (Jvm.Cond.code (⟨"java/lang/Record", "<init>", "()V"⟩ : MethodName) jdk_30_method_1_code 1 none :: ws) ({ frames := 1, cells := 0, slots := 0, locals := 12 } : Room)) (fun a U => a = #[(.ref a1)] ∧ Z.Warmed39 U.vm ∧ U.heap = h0) (fun _ _ _ _ _ => True) (fun _ U o U' => ∃ v L, o = .returned v ∧ QPure (none) h0 n0 v U'.heap L ∧ FrameEnd U o U' L 0 0) := by
  refine MetFree.of_bodySF (plainFor_of_name pn_0) hisR ?_
  intro p e s m args below meth c s₁ Bd hml0 hP hK
  obtain ⟨rfl, hZ, hh⟩ := hP
  have hx := Bd.exec
  have hby := Bd.bytes
  have hml : c.maxLocals = 1 := hml0
  have hown : s.vm.findClass "java/lang/Record" = some m.cls := findClass_of_methodNamed Bd.named
  have hnm := (name_of_methodNamed Bd.named Bd.method).1
  have hrt := Bd.returns
  have hlk : meth.locks = false := Bd.notSynchronized
  have X0 : Stand p l e ({ frames := 1, cells := 0, slots := 0, locals := 12 } : Room) s m #[(.ref a1)] below meth c s₁ [] 0 0 := Stand.of_body Bd
  have e0 : s₁.heap = h0 := by rw [← hh, Bd.state]; rfl
  have N0 := Fr.nil n0
  have Z0 : n0 ≤ h0.size := O0.1 ▸ O0.2.1
  show own_Go p e below (s₁.setTop (entryFrame m #[(.ref a1)] 1)) (fun o U' => ∃ v L, o = .returned v ∧ QPure (none) h0 n0 v U'.heap L ∧ FrameEnd s o U' L 0 0)
  refine own_go (fun _ k => castTop (ef_rm_rec m a1) k) ?_
  show own_Go p e below (s₁.setTop (mkF m 0 #[.val (.ref a1)] [])) _
  refine own_go (fun _ k => XS.aloadN X0.here hx rfl (hb hby d_jdk_30_m1_0) rfl rfl k) ?_
  show own_Go p e below (s₁.setTop (mkF m 1 #[.val (.ref a1)] [(.ref a1)])) _
  obtain ⟨T1, X1, e1, st1⟩ := initO X0 hx hZ hown (hw _ (List.mem_of_getElem? (i := 44) rfl)) (hw _ (List.mem_of_getElem? (i := 18) rfl)) (hw _ (List.mem_of_getElem? (i := 19) rfl)) e0 (g := (mkF m 1 #[.val (.ref a1)] [(.ref a1)])) rfl (by rw [hml]; rfl) rfl (hb hby d_jdk_30_m1_1) (by decide) (W := 0) (by show 2 * 0 + _ ≤ _; exact Nat.le_of_eq rfl) (by decide)
  refine own_go st1 ?_
  show own_Go p e below (T1.setTop (mkF m 4 #[.val (.ref a1)] [])) _
  refine own_fin (v := none) X1 (fun _ => rfl) hlk (fun fs hr => X1.returnOut hx hrt (hb hby d_jdk_30_m1_4) hr) (QQ := QPure (none) h0 n0) ?_ (by decide) (by decide)
  rw [e1]
  exact ⟨rfl, N0, rfl⟩

def QF (Z : State) (a1 a2 a3 : Addr) (h0 : Heap) (n0 : Nat) (v : Option Value) (h : Heap) (L : List Loc) : Prop := v = none ∧ Fr n0 L ∧ Keep h0 h [a1] ∧ Fld Z h a1 "com/example/sequela/sequela/Fields" "text" "Ljava/lang/String;" (.ref a2) ∧ Fld Z h a1 "com/example/sequela/sequela/Fields" "ends" "[I" (.ref a3)
theorem d_prog_15_m1_0 : decode prog_15_method_1_code 0 = .ok (.aload_n 0, 1) := by decide +kernel
theorem d_prog_15_m1_1 : decode prog_15_method_1_code 1 = .ok (.invokespecial 1, 3) := by decide +kernel
theorem pd_0 : parseMethodDescriptor "()V" = some ⟨[], none⟩ := by decide +kernel
theorem d_prog_15_m1_4 : decode prog_15_method_1_code 4 = .ok (.aload_n 0, 1) := by decide +kernel
theorem d_prog_15_m1_5 : decode prog_15_method_1_code 5 = .ok (.aload_n 1, 1) := by decide +kernel
theorem d_prog_15_m1_6 : decode prog_15_method_1_code 6 = .ok (.putfield 7, 3) := by decide +kernel
theorem d_prog_15_m1_9 : decode prog_15_method_1_code 9 = .ok (.aload_n 0, 1) := by decide +kernel
theorem d_prog_15_m1_10 : decode prog_15_method_1_code 10 = .ok (.aload_n 2, 1) := by decide +kernel
theorem d_prog_15_m1_11 : decode prog_15_method_1_code 11 = .ok (.putfield 13, 3) := by decide +kernel
theorem d_prog_15_m1_14 : decode prog_15_method_1_code 14 = .ok (.return_, 1) := by decide +kernel
theorem pn_1 : plainName "com/example/sequela/sequela/Fields" = true := by first | (simp [plainName, overriddenIn]; done) | decide +kernel
theorem ef_rm_fin (m : MethodId) (x0 : Addr) (x1 : Addr) (x2 : Addr) : entryFrame m #[(.ref x0), (.ref x1), (.ref x2)] 3 = mkF m 0 #[.val (.ref x0), .val (.ref x1), .val (.ref x2)] [] := by
   first | (simp [entryFrame, mkF, argsToLocals, Value.category]; done) | rfl
set_option maxRecDepth 65536 in
set_option maxHeartbeats 40000000 in
theorem rm_fin (l : Launch) (Z : State) (a0 : Array Value) (hw : ∀ d ∈ tables_1, d.before a0 Z = true) (ws : List Jvm.Cond) (a1 : Addr) (a2 : Addr) (a3 : Addr) (h0 : Heap) (n0 : Nat) (O0 : Old Z n0 h0) (E_a : Exa Z h0 a1 "com/example/sequela/sequela/Fields") (F_text : Fld Z h0 a1 "com/example/sequela/sequela/Fields" "text" "Ljava/lang/String;" .null) (F_ends : Fld Z h0 a1 "com/example/sequela/sequela/Fields" "ends" "[I" .null) (g_a : n0 ≤ a1) :
    MetFree l (⟨"com/example/sequela/sequela/Fields", "<init>", "(Ljava/lang/String;[I)V"⟩ : MethodName) (head1 (Jvm.Cond.code (⟨"com/example/sequela/sequela/Fields", "<init>", "(Ljava/lang/String;[I)V"⟩ : MethodName) prog_15_method_1_code 3 none :: ws) ({ frames := 2, cells := 0, slots := 0, locals := 24 } : Room)) (fun a U => a = #[(.ref a1), (.ref a2), (.ref a3)] ∧ Z.Warmed39 U.vm ∧ U.heap = h0) (fun _ _ _ _ _ => True) (fun _ U o U' => ∃ v L, o = .returned v ∧ QF Z a1 a2 a3 h0 n0 v U'.heap L ∧ FrameEnd U o U' L 0 0) := by
  refine MetFree.of_bodySF (plainFor_of_name pn_1) hisR ?_
  intro p e s m args below meth c s₁ Bd hml0 hP hK
  obtain ⟨rfl, hZ, hh⟩ := hP
  have hx := Bd.exec
  have hby := Bd.bytes
  have hml : c.maxLocals = 3 := hml0
  have hown : s.vm.findClass "com/example/sequela/sequela/Fields" = some m.cls := findClass_of_methodNamed Bd.named
  have hnm := (name_of_methodNamed Bd.named Bd.method).1
  have hrt := Bd.returns
  have hlk : meth.locks = false := Bd.notSynchronized
  have X0 : Stand p l e ({ frames := 2, cells := 0, slots := 0, locals := 24 } : Room) s m #[(.ref a1), (.ref a2), (.ref a3)] below meth c s₁ [] 0 0 := Stand.of_body Bd
  have e0 : s₁.heap = h0 := by rw [← hh, Bd.state]; rfl
  have N0 := Fr.nil n0
  have Z0 : n0 ≤ h0.size := O0.1 ▸ O0.2.1
  show own_Go p e below (s₁.setTop (entryFrame m #[(.ref a1), (.ref a2), (.ref a3)] 3)) (fun o U' => ∃ v L, o = .returned v ∧ QF Z a1 a2 a3 h0 n0 v U'.heap L ∧ FrameEnd s o U' L 0 0)
  refine own_go (fun _ k => castTop (ef_rm_fin m a1 a2 a3) k) ?_
  show own_Go p e below (s₁.setTop (mkF m 0 #[.val (.ref a1), .val (.ref a2), .val (.ref a3)] [])) _
  refine own_go (fun _ k => XS.aloadN X0.here hx rfl (hb hby d_prog_15_m1_0) rfl rfl k) ?_
  show own_Go p e below (s₁.setTop (mkF m 1 #[.val (.ref a1), .val (.ref a2), .val (.ref a3)] [(.ref a1)])) _
  obtain ⟨v2, _, ⟨T2, L2, k2, n2⟩, -, X2, ⟨Lc2, hQ2, l2, y2, z2⟩, st2⟩ := X0.specialBack hx (y := (⟨"java/lang/Record", "<init>", "()V"⟩ : MethodName)) rfl hown (mvT hZ (hw _ (List.mem_of_getElem? (i := 39) rfl))) (mvT hZ (hw _ (List.mem_of_getElem? (i := 40) rfl))) (mvT hZ (hw _ (List.mem_of_getElem? (i := 43) rfl))) (by decide) (backOf (W := 0) (rm_rec l Z a0 hw [] a1 h0 n0 O0 ) hZ (hw _ (List.mem_of_getElem? (i := 43) rfl)) (hw _ (List.mem_of_getElem? (i := 42) rfl)) (by decide) (by decide)) (g := (mkF m 1 #[.val (.ref a1), .val (.ref a2), .val (.ref a3)] [(.ref a1)])) rfl (by rw [hml]; rfl) (Steps.refl _) (a := a1) (argsL := []) (rest := []) (lenOf pd_0 rfl) rfl (by show 2 * 0 + _ ≤ _; exact Nat.le_of_eq rfl) (hb hby d_prog_15_m1_1) (fun _ _ => ⟨rfl, e0, (by decide : 0 + 0 ≤ _), (by decide : 0 + 0 ≤ _)⟩)
  dsimp only [Pt.U, Pt.locs, Pt.cells, Pt.slots] at X2 l2 y2 z2 st2 hQ2
  subst l2 y2 z2
  refine own_gos st2 ?_
  obtain ⟨rfl, Nq2, e2⟩ := hQ2
  have N2 := Fr.app N0 Nq2
  show own_Go p e below (T2.setTop (mkF m 4 #[.val (.ref a1), .val (.ref a2), .val (.ref a3)] [])) _
  refine own_go (fun _ k => XS.aloadN X2.here hx rfl (hb hby d_prog_15_m1_4) rfl rfl k) ?_
  show own_Go p e below (T2.setTop (mkF m 5 #[.val (.ref a1), .val (.ref a2), .val (.ref a3)] [(.ref a1)])) _
  refine own_go (fun _ k => XS.aloadN X2.here hx rfl (hb hby d_prog_15_m1_5) rfl rfl k) ?_
  show own_Go p e below (T2.setTop (mkF m 6 #[.val (.ref a1), .val (.ref a2), .val (.ref a3)] [(.ref a2), (.ref a1)])) _
  obtain ⟨T3, h3, X3, e3, W3, st3⟩ := putF X2 hx hZ hown (host := "") (Or.inl (hw _ (List.mem_of_getElem? (i := 45) rfl))) Via.refl e2 F_text E_a (Or.inr ⟨(hw _ (List.mem_of_getElem? (i := 46) rfl)), rfl, hnm⟩) (hw _ (List.mem_of_getElem? (i := 5) rfl)) (ty := (.object "java/lang/String")) (by decide) rfl rfl (g := (mkF m 6 #[.val (.ref a1), .val (.ref a2), .val (.ref a3)] [(.ref a2), (.ref a1)])) rfl rfl (hb hby d_prog_15_m1_6)
  refine own_go st3 ?_
  have N3 := Fr.snoc X3 N2 g_a
  have Fw3 := F_text.same W3
  show own_Go p e below (T3.setTop (mkF m 9 #[.val (.ref a1), .val (.ref a2), .val (.ref a3)] [])) _
  refine own_go (fun _ k => XS.aloadN X3.here hx rfl (hb hby d_prog_15_m1_9) rfl rfl k) ?_
  show own_Go p e below (T3.setTop (mkF m 10 #[.val (.ref a1), .val (.ref a2), .val (.ref a3)] [(.ref a1)])) _
  refine own_go (fun _ k => XS.aloadN X3.here hx rfl (hb hby d_prog_15_m1_10) rfl rfl k) ?_
  show own_Go p e below (T3.setTop (mkF m 11 #[.val (.ref a1), .val (.ref a2), .val (.ref a3)] [(.ref a3), (.ref a1)])) _
  have f4 := (F_ends.other W3 (Or.inr (slot_ne (Or.inr (hw _ (List.mem_of_getElem? (i := 48) rfl))) (Or.inr (hw _ (List.mem_of_getElem? (i := 46) rfl))) (by decide) (t := (.array .int)) (t' := (.object "java/lang/String")) (by decide) (by decide))))
  obtain ⟨T5, h5, X5, e5, W5, st5⟩ := putF X3 hx hZ hown (host := "") (Or.inl (hw _ (List.mem_of_getElem? (i := 47) rfl))) Via.refl e3 f4 (E_a.wr W3) (Or.inr ⟨(hw _ (List.mem_of_getElem? (i := 48) rfl)), rfl, hnm⟩) (hw _ (List.mem_of_getElem? (i := 5) rfl)) (ty := (.array .int)) (by decide) rfl rfl (g := (mkF m 11 #[.val (.ref a1), .val (.ref a2), .val (.ref a3)] [(.ref a3), (.ref a1)])) rfl rfl (hb hby d_prog_15_m1_11)
  refine own_go st5 ?_
  have N5 := Fr.snoc X5 N3 g_a
  have Fw5 := f4.same W5
  show own_Go p e below (T5.setTop (mkF m 14 #[.val (.ref a1), .val (.ref a2), .val (.ref a3)] [])) _
  have f6 := (((Keep.refl h0 [a1]).wr W3 (Or.inl (List.mem_of_getElem? (i := 0) rfl))).wr W5 (Or.inl (List.mem_of_getElem? (i := 0) rfl)))
  have f7 := (Fw3.other W5 (Or.inr (slot_ne (Or.inr (hw _ (List.mem_of_getElem? (i := 46) rfl))) (Or.inr (hw _ (List.mem_of_getElem? (i := 48) rfl))) (by decide) (t := (.object "java/lang/String")) (t' := (.array .int)) (by decide) (by decide))))
  refine own_fin (v := none) X5 (fun _ => rfl) hlk (fun fs hr => X5.returnOut hx hrt (hb hby d_prog_15_m1_14) hr) (QQ := QF Z a1 a2 a3 h0 n0) ?_ (by decide) (by decide)
  rw [e5]
  exact ⟨rfl, N5, f6, f7, Fw5⟩

theorem d_prog_15_m8_0 : decode prog_15_method_8_code 0 = .ok (.iload_n 1, 1) := by decide +kernel
theorem d_prog_15_m8_1 : decode prog_15_method_8_code 1 = .ok (.ifCond .ne 7, 3) := by decide +kernel
theorem d_prog_15_m8_4 : decode prog_15_method_8_code 4 = .ok (.iconst 0, 1) := by decide +kernel
theorem d_prog_15_m8_5 : decode prog_15_method_8_code 5 = .ok (.goto 11, 3) := by decide +kernel
theorem d_prog_15_m8_16 : decode prog_15_method_8_code 16 = .ok (.ireturn, 1) := by decide +kernel
theorem ef_rm_start0 (m : MethodId) (x0 : Addr) (x1 : Int32) : entryFrame m #[(.ref x0), (.int x1)] 2 = mkF m 0 #[.val (.ref x0), .val (.int x1)] [] := by
   first | (simp [entryFrame, mkF, argsToLocals, Value.category]; done) | rfl
set_option maxRecDepth 65536 in
set_option maxHeartbeats 40000000 in
theorem rm_start0 (l : Launch) (Z : State) (a0 : Array Value) (hw : ∀ d ∈ tables_1, d.before a0 Z = true) (ws : List Jvm.Cond) (a1 : Addr) (a2 : Addr) (k2 : ClassId) (v0 : Int32) (v1 : Int32) (v2 : Int32) (h0 : Heap) (n0 : Nat) (O0 : Old Z n0 h0) (E_a : Exa Z h0 a1 "com/example/sequela/sequela/Fields") (F_e : Fld Z h0 a1 "com/example/sequela/sequela/Fields" "ends" "[I" (.ref a2)) (V_a2 : Arv Z h0 a2 k2 .int (3 : Int32) [(.int v0), (.int v1), (.int v2)] (.int (0 : Int32))) :
    MetFree l (⟨"com/example/sequela/sequela/Fields", "start", "(I)I"⟩ : MethodName) (head1 (Jvm.Cond.code (⟨"com/example/sequela/sequela/Fields", "start", "(I)I"⟩ : MethodName) prog_15_method_8_code 2 (some .int) :: ws) ({ frames := 0, cells := 0, slots := 0, locals := 0 } : Room)) (fun a U => a = #[(.ref a1), (.int (0 : Int32))] ∧ Z.Warmed39 U.vm ∧ U.heap = h0) (fun _ _ _ _ _ => True) (fun _ U o U' => ∃ v L, o = .returned v ∧ QPure (some (.int (0 : Int32))) h0 n0 v U'.heap L ∧ FrameEnd U o U' L 0 0) := by
  refine MetFree.of_bodySF (plainFor_of_name pn_1) hisR ?_
  intro p e s m args below meth c s₁ Bd hml0 hP hK
  obtain ⟨rfl, hZ, hh⟩ := hP
  have hx := Bd.exec
  have hby := Bd.bytes
  have hml : c.maxLocals = 2 := hml0
  have hown : s.vm.findClass "com/example/sequela/sequela/Fields" = some m.cls := findClass_of_methodNamed Bd.named
  have hnm := (name_of_methodNamed Bd.named Bd.method).1
  have hrt := Bd.returns
  have hlk : meth.locks = false := Bd.notSynchronized
  have X0 : Stand p l e ({ frames := 0, cells := 0, slots := 0, locals := 0 } : Room) s m #[(.ref a1), (.int (0 : Int32))] below meth c s₁ [] 0 0 := Stand.of_body Bd
  have e0 : s₁.heap = h0 := by rw [← hh, Bd.state]; rfl
  have N0 := Fr.nil n0
  have Z0 : n0 ≤ h0.size := O0.1 ▸ O0.2.1
  show own_Go p e below (s₁.setTop (entryFrame m #[(.ref a1), (.int (0 : Int32))] 2)) (fun o U' => ∃ v L, o = .returned v ∧ QPure (some (.int (0 : Int32))) h0 n0 v U'.heap L ∧ FrameEnd s o U' L 0 0)
  refine own_go (fun _ k => castTop (ef_rm_start0 m a1 _) k) ?_
  show own_Go p e below (s₁.setTop (mkF m 0 #[.val (.ref a1), .val (.int (0 : Int32))] [])) _
  refine own_go (fun _ k => XS.iloadN X0.here hx rfl (hb hby d_prog_15_m8_0) rfl k) ?_
  show own_Go p e below (s₁.setTop (mkF m 1 #[.val (.ref a1), .val (.int (0 : Int32))] [(.int (0 : Int32))])) _
  refine own_go (fun _ k => XS.ifNo X0.here hx rfl (hb hby d_prog_15_m8_1) rfl ((if0 _ _).trans (teq (by decide : (0 : Int32) = (0 : Int32))).2) k) ?_
  show own_Go p e below (s₁.setTop (mkF m 4 #[.val (.ref a1), .val (.int (0 : Int32))] [])) _
  refine own_go (fun _ k => XS.iconst X0.here hx rfl (hb hby d_prog_15_m8_4) k) ?_
  show own_Go p e below (s₁.setTop (mkF m 5 #[.val (.ref a1), .val (.int (0 : Int32))] [(.int (0 : Int32))])) _
  refine own_go (fun _ k => XS.goto X0.here hx rfl (pc0 := 5) (pc' := 16) rfl (hb hby d_prog_15_m8_5) (by decide) (by decide) k) ?_
  show own_Go p e below (s₁.setTop (mkF m 16 #[.val (.ref a1), .val (.int (0 : Int32))] [(.int (0 : Int32))])) _
  refine own_fin (v := (some (.int (0 : Int32)))) X0 (fun h => by rw [hrt] at h; cases h) hlk (fun fs hr => retI X0 hx hrt (hb hby d_prog_15_m8_16) hr) (QQ := QPure (some (.int (0 : Int32))) h0 n0) ?_ (by decide) (by decide)
  rw [e0]
  exact ⟨rfl, N0, rfl⟩

theorem d_prog_15_m8_8 : decode prog_15_method_8_code 8 = .ok (.aload_n 0, 1) := by decide +kernel
theorem d_prog_15_m8_9 : decode prog_15_method_8_code 9 = .ok (.getfield 13, 3) := by decide +kernel
theorem d_prog_15_m8_12 : decode prog_15_method_8_code 12 = .ok (.iload_n 1, 1) := by decide +kernel
theorem d_prog_15_m8_13 : decode prog_15_method_8_code 13 = .ok (.iconst 1, 1) := by decide +kernel
theorem d_prog_15_m8_14 : decode prog_15_method_8_code 14 = .ok (.isub, 1) := by decide +kernel
theorem d_prog_15_m8_15 : decode prog_15_method_8_code 15 = .ok (.iaload, 1) := by decide +kernel
theorem ef_rm_start1 (m : MethodId) (x0 : Addr) (x1 : Int32) : entryFrame m #[(.ref x0), (.int x1)] 2 = mkF m 0 #[.val (.ref x0), .val (.int x1)] [] := by
   first | (simp [entryFrame, mkF, argsToLocals, Value.category]; done) | rfl
set_option maxRecDepth 65536 in
set_option maxHeartbeats 40000000 in
theorem rm_start1 (l : Launch) (Z : State) (a0 : Array Value) (hw : ∀ d ∈ tables_1, d.before a0 Z = true) (ws : List Jvm.Cond) (a1 : Addr) (a2 : Addr) (k2 : ClassId) (v0 : Int32) (v1 : Int32) (v2 : Int32) (h0 : Heap) (n0 : Nat) (O0 : Old Z n0 h0) (E_a : Exa Z h0 a1 "com/example/sequela/sequela/Fields") (F_e : Fld Z h0 a1 "com/example/sequela/sequela/Fields" "ends" "[I" (.ref a2)) (V_a2 : Arv Z h0 a2 k2 .int (3 : Int32) [(.int v0), (.int v1), (.int v2)] (.int (0 : Int32))) :
    MetFree l (⟨"com/example/sequela/sequela/Fields", "start", "(I)I"⟩ : MethodName) (head1 (Jvm.Cond.code (⟨"com/example/sequela/sequela/Fields", "start", "(I)I"⟩ : MethodName) prog_15_method_8_code 2 (some .int) :: ws) ({ frames := 0, cells := 0, slots := 0, locals := 0 } : Room)) (fun a U => a = #[(.ref a1), (.int (1 : Int32))] ∧ Z.Warmed39 U.vm ∧ U.heap = h0) (fun _ _ _ _ _ => True) (fun _ U o U' => ∃ v L, o = .returned v ∧ QPure (some (.int v0)) h0 n0 v U'.heap L ∧ FrameEnd U o U' L 0 0) := by
  refine MetFree.of_bodySF (plainFor_of_name pn_1) hisR ?_
  intro p e s m args below meth c s₁ Bd hml0 hP hK
  obtain ⟨rfl, hZ, hh⟩ := hP
  have hx := Bd.exec
  have hby := Bd.bytes
  have hml : c.maxLocals = 2 := hml0
  have hown : s.vm.findClass "com/example/sequela/sequela/Fields" = some m.cls := findClass_of_methodNamed Bd.named
  have hnm := (name_of_methodNamed Bd.named Bd.method).1
  have hrt := Bd.returns
  have hlk : meth.locks = false := Bd.notSynchronized
  have X0 : Stand p l e ({ frames := 0, cells := 0, slots := 0, locals := 0 } : Room) s m #[(.ref a1), (.int (1 : Int32))] below meth c s₁ [] 0 0 := Stand.of_body Bd
  have e0 : s₁.heap = h0 := by rw [← hh, Bd.state]; rfl
  have N0 := Fr.nil n0
  have Z0 : n0 ≤ h0.size := O0.1 ▸ O0.2.1
  show own_Go p e below (s₁.setTop (entryFrame m #[(.ref a1), (.int (1 : Int32))] 2)) (fun o U' => ∃ v L, o = .returned v ∧ QPure (some (.int v0)) h0 n0 v U'.heap L ∧ FrameEnd s o U' L 0 0)
  refine own_go (fun _ k => castTop (ef_rm_start1 m a1 _) k) ?_
  show own_Go p e below (s₁.setTop (mkF m 0 #[.val (.ref a1), .val (.int (1 : Int32))] [])) _
  refine own_go (fun _ k => XS.iloadN X0.here hx rfl (hb hby d_prog_15_m8_0) rfl k) ?_
  show own_Go p e below (s₁.setTop (mkF m 1 #[.val (.ref a1), .val (.int (1 : Int32))] [(.int (1 : Int32))])) _
  refine own_go (fun _ k => XS.ifYes X0.here hx rfl (pc0 := 1) (pc' := 8) rfl (hb hby d_prog_15_m8_1) rfl ((if0 _ _).trans (feq (by decide : ¬ ((1 : Int32) = (0 : Int32)))).2) (by decide) (by decide) k) ?_
  show own_Go p e below (s₁.setTop (mkF m 8 #[.val (.ref a1), .val (.int (1 : Int32))] [])) _
  refine own_go (fun _ k => XS.aloadN X0.here hx rfl (hb hby d_prog_15_m8_8) rfl rfl k) ?_
  show own_Go p e below (s₁.setTop (mkF m 9 #[.val (.ref a1), .val (.int (1 : Int32))] [(.ref a1)])) _
  obtain ⟨T8, X8, e8, st8⟩ := getF X0 hx hZ hown (host := "") (Or.inl (hw _ (List.mem_of_getElem? (i := 47) rfl))) Via.refl e0 F_e (g := (mkF m 9 #[.val (.ref a1), .val (.int (1 : Int32))] [(.ref a1)])) rfl rfl (hb hby d_prog_15_m8_9)
  refine own_go st8 ?_
  show own_Go p e below (T8.setTop (mkF m 12 #[.val (.ref a1), .val (.int (1 : Int32))] [(.ref a2)])) _
  refine own_go (fun _ k => XS.iloadN X8.here hx rfl (hb hby d_prog_15_m8_12) rfl k) ?_
  show own_Go p e below (T8.setTop (mkF m 13 #[.val (.ref a1), .val (.int (1 : Int32))] [(.int (1 : Int32)), (.ref a2)])) _
  refine own_go (fun _ k => XS.iconst X8.here hx rfl (hb hby d_prog_15_m8_13) k) ?_
  show own_Go p e below (T8.setTop (mkF m 14 #[.val (.ref a1), .val (.int (1 : Int32))] [(.int (1 : Int32)), (.int (1 : Int32)), (.ref a2)])) _
  refine own_go (fun _ k => XS.isub X8.here hx rfl (hb hby d_prog_15_m8_14) rfl k) ?_
  show own_Go p e below (T8.setTop (mkF m 15 #[.val (.ref a1), .val (.int (1 : Int32))] [(.int (0 : Int32)), (.ref a2)])) _
  obtain ⟨c9, A9, q9, S9, M9, Hs9, Gs9⟩ := id V_a2
  have hi9 := inb_of (j := (0 : Int32)) S9 ⟨by decide, by decide⟩
  refine own_go (fun _ k => X8.iaload hx (j := (0 : Int32)) (v := (.int v0)) (by rw [e8]; exact A9.1) (State.isArrayOf_alike hZ.alike A9.2.1) A9.2.2 hi9 (Has.at Hs9 hi9 rfl) (g := (mkF m 15 #[.val (.ref a1), .val (.int (1 : Int32))] [(.int (0 : Int32)), (.ref a2)])) rfl rfl (hb hby d_prog_15_m8_15) _ k) ?_
  show own_Go p e below (T8.setTop (mkF m 16 #[.val (.ref a1), .val (.int (1 : Int32))] [(.int v0)])) _
  refine own_fin (v := (some (.int v0))) X8 (fun h => by rw [hrt] at h; cases h) hlk (fun fs hr => retI X8 hx hrt (hb hby d_prog_15_m8_16) hr) (QQ := QPure (some (.int v0)) h0 n0) ?_ (by decide) (by decide)
  rw [e8]
  exact ⟨rfl, N0, rfl⟩

theorem ef_rm_start2 (m : MethodId) (x0 : Addr) (x1 : Int32) : entryFrame m #[(.ref x0), (.int x1)] 2 = mkF m 0 #[.val (.ref x0), .val (.int x1)] [] := by
   first | (simp [entryFrame, mkF, argsToLocals, Value.category]; done) | rfl
set_option maxRecDepth 65536 in
set_option maxHeartbeats 40000000 in
theorem rm_start2 (l : Launch) (Z : State) (a0 : Array Value) (hw : ∀ d ∈ tables_1, d.before a0 Z = true) (ws : List Jvm.Cond) (a1 : Addr) (a2 : Addr) (k2 : ClassId) (v0 : Int32) (v1 : Int32) (v2 : Int32) (h0 : Heap) (n0 : Nat) (O0 : Old Z n0 h0) (E_a : Exa Z h0 a1 "com/example/sequela/sequela/Fields") (F_e : Fld Z h0 a1 "com/example/sequela/sequela/Fields" "ends" "[I" (.ref a2)) (V_a2 : Arv Z h0 a2 k2 .int (3 : Int32) [(.int v0), (.int v1), (.int v2)] (.int (0 : Int32))) :
    MetFree l (⟨"com/example/sequela/sequela/Fields", "start", "(I)I"⟩ : MethodName) (head1 (Jvm.Cond.code (⟨"com/example/sequela/sequela/Fields", "start", "(I)I"⟩ : MethodName) prog_15_method_8_code 2 (some .int) :: ws) ({ frames := 0, cells := 0, slots := 0, locals := 0 } : Room)) (fun a U => a = #[(.ref a1), (.int (2 : Int32))] ∧ Z.Warmed39 U.vm ∧ U.heap = h0) (fun _ _ _ _ _ => True) (fun _ U o U' => ∃ v L, o = .returned v ∧ QPure (some (.int v1)) h0 n0 v U'.heap L ∧ FrameEnd U o U' L 0 0) := by
  refine MetFree.of_bodySF (plainFor_of_name pn_1) hisR ?_
  intro p e s m args below meth c s₁ Bd hml0 hP hK
  obtain ⟨rfl, hZ, hh⟩ := hP
  have hx := Bd.exec
  have hby := Bd.bytes
  have hml : c.maxLocals = 2 := hml0
  have hown : s.vm.findClass "com/example/sequela/sequela/Fields" = some m.cls := findClass_of_methodNamed Bd.named
  have hnm := (name_of_methodNamed Bd.named Bd.method).1
  have hrt := Bd.returns
  have hlk : meth.locks = false := Bd.notSynchronized
  have X0 : Stand p l e ({ frames := 0, cells := 0, slots := 0, locals := 0 } : Room) s m #[(.ref a1), (.int (2 : Int32))] below meth c s₁ [] 0 0 := Stand.of_body Bd
  have e0 : s₁.heap = h0 := by rw [← hh, Bd.state]; rfl
  have N0 := Fr.nil n0
  have Z0 : n0 ≤ h0.size := O0.1 ▸ O0.2.1
  show own_Go p e below (s₁.setTop (entryFrame m #[(.ref a1), (.int (2 : Int32))] 2)) (fun o U' => ∃ v L, o = .returned v ∧ QPure (some (.int v1)) h0 n0 v U'.heap L ∧ FrameEnd s o U' L 0 0)
  refine own_go (fun _ k => castTop (ef_rm_start2 m a1 _) k) ?_
  show own_Go p e below (s₁.setTop (mkF m 0 #[.val (.ref a1), .val (.int (2 : Int32))] [])) _
  refine own_go (fun _ k => XS.iloadN X0.here hx rfl (hb hby d_prog_15_m8_0) rfl k) ?_
  show own_Go p e below (s₁.setTop (mkF m 1 #[.val (.ref a1), .val (.int (2 : Int32))] [(.int (2 : Int32))])) _
  refine own_go (fun _ k => XS.ifYes X0.here hx rfl (pc0 := 1) (pc' := 8) rfl (hb hby d_prog_15_m8_1) rfl ((if0 _ _).trans (feq (by decide : ¬ ((2 : Int32) = (0 : Int32)))).2) (by decide) (by decide) k) ?_
  show own_Go p e below (s₁.setTop (mkF m 8 #[.val (.ref a1), .val (.int (2 : Int32))] [])) _
  refine own_go (fun _ k => XS.aloadN X0.here hx rfl (hb hby d_prog_15_m8_8) rfl rfl k) ?_
  show own_Go p e below (s₁.setTop (mkF m 9 #[.val (.ref a1), .val (.int (2 : Int32))] [(.ref a1)])) _
  obtain ⟨T10, X10, e10, st10⟩ := getF X0 hx hZ hown (host := "") (Or.inl (hw _ (List.mem_of_getElem? (i := 47) rfl))) Via.refl e0 F_e (g := (mkF m 9 #[.val (.ref a1), .val (.int (2 : Int32))] [(.ref a1)])) rfl rfl (hb hby d_prog_15_m8_9)
  refine own_go st10 ?_
  show own_Go p e below (T10.setTop (mkF m 12 #[.val (.ref a1), .val (.int (2 : Int32))] [(.ref a2)])) _
  refine own_go (fun _ k => XS.iloadN X10.here hx rfl (hb hby d_prog_15_m8_12) rfl k) ?_
  show own_Go p e below (T10.setTop (mkF m 13 #[.val (.ref a1), .val (.int (2 : Int32))] [(.int (2 : Int32)), (.ref a2)])) _
  refine own_go (fun _ k => XS.iconst X10.here hx rfl (hb hby d_prog_15_m8_13) k) ?_
  show own_Go p e below (T10.setTop (mkF m 14 #[.val (.ref a1), .val (.int (2 : Int32))] [(.int (1 : Int32)), (.int (2 : Int32)), (.ref a2)])) _
  refine own_go (fun _ k => XS.isub X10.here hx rfl (hb hby d_prog_15_m8_14) rfl k) ?_
  show own_Go p e below (T10.setTop (mkF m 15 #[.val (.ref a1), .val (.int (2 : Int32))] [(.int (1 : Int32)), (.ref a2)])) _
  obtain ⟨c11, A11, q11, S11, M11, Hs11, Gs11⟩ := id V_a2
  have hi11 := inb_of (j := (1 : Int32)) S11 ⟨by decide, by decide⟩
  refine own_go (fun _ k => X10.iaload hx (j := (1 : Int32)) (v := (.int v1)) (by rw [e10]; exact A11.1) (State.isArrayOf_alike hZ.alike A11.2.1) A11.2.2 hi11 (Has.at Hs11 hi11 rfl) (g := (mkF m 15 #[.val (.ref a1), .val (.int (2 : Int32))] [(.int (1 : Int32)), (.ref a2)])) rfl rfl (hb hby d_prog_15_m8_15) _ k) ?_
  show own_Go p e below (T10.setTop (mkF m 16 #[.val (.ref a1), .val (.int (2 : Int32))] [(.int v1)])) _
  refine own_fin (v := (some (.int v1))) X10 (fun h => by rw [hrt] at h; cases h) hlk (fun fs hr => retI X10 hx hrt (hb hby d_prog_15_m8_16) hr) (QQ := QPure (some (.int v1)) h0 n0) ?_ (by decide) (by decide)
  rw [e10]
  exact ⟨rfl, N0, rfl⟩

theorem d_jdk_41_m12_0 : decode jdk_41_method_12_code 0 = .ok (.iload_n 0, 1) := by decide +kernel
theorem d_jdk_41_m12_1 : decode jdk_41_method_12_code 1 = .ok (.ifCond .lt 13, 3) := by decide +kernel
theorem d_jdk_41_m12_4 : decode jdk_41_method_12_code 4 = .ok (.iload_n 0, 1) := by decide +kernel
theorem d_jdk_41_m12_5 : decode jdk_41_method_12_code 5 = .ok (.iload_n 1, 1) := by decide +kernel
theorem d_jdk_41_m12_6 : decode jdk_41_method_12_code 6 = .ok (.if_icmp .gt 8, 3) := by decide +kernel
theorem d_jdk_41_m12_9 : decode jdk_41_method_12_code 9 = .ok (.iload_n 1, 1) := by decide +kernel
theorem d_jdk_41_m12_10 : decode jdk_41_method_12_code 10 = .ok (.iload_n 2, 1) := by decide +kernel
theorem d_jdk_41_m12_11 : decode jdk_41_method_12_code 11 = .ok (.if_icmp .le 11, 3) := by decide +kernel
theorem d_jdk_41_m12_22 : decode jdk_41_method_12_code 22 = .ok (.iload_n 0, 1) := by decide +kernel
theorem d_jdk_41_m12_23 : decode jdk_41_method_12_code 23 = .ok (.ireturn, 1) := by decide +kernel
theorem pn_2 : plainName "jdk/internal/util/Preconditions" = true := by first | (simp [plainName, overriddenIn]; done) | decide +kernel
theorem ef_rm_cft (m : MethodId) (x0 : Int32) (x1 : Int32) (x2 : Int32) (f4 : Value) (r_f4 : f4.isRef = true) : entryFrame m #[(.int x0), (.int x1), (.int x2), f4] 4 = mkF m 0 #[.val (.int x0), .val (.int x1), .val (.int x2), .val f4] [] := by
  cases f4 <;> first | (cases r_f4; done) | skip
  all_goals  first | (simp [entryFrame, mkF, argsToLocals, Value.category]; done) | rfl
set_option maxRecDepth 65536 in
set_option maxHeartbeats 40000000 in
theorem rm_cft (l : Launch) (Z : State) (a0 : Array Value) (hw : ∀ d ∈ tables_1, d.before a0 Z = true) (ws : List Jvm.Cond) (p1 : Int32) (p2 : Int32) (p3 : Int32) (f4 : Value) (h0 : Heap) (n0 : Nat) (O0 : Old Z n0 h0) (r4 : f4.isRef = true) (q1 : ¬ (p1 < (0 : Int32))) (q2 : ¬ (p2 < p1)) (q3 : ¬ (p3 < p2)) :
    MetFree l (⟨"jdk/internal/util/Preconditions", "checkFromToIndex", "(IIILjava/util/function/BiFunction;)I"⟩ : MethodName) (head1 (Jvm.Cond.code (⟨"jdk/internal/util/Preconditions", "checkFromToIndex", "(IIILjava/util/function/BiFunction;)I"⟩ : MethodName) jdk_41_method_12_code 4 (some .int) :: ws) ({ frames := 0, cells := 0, slots := 0, locals := 0 } : Room)) (fun a U => a = #[(.int p1), (.int p2), (.int p3), f4] ∧ Z.Warmed39 U.vm ∧ U.heap = h0) (fun _ _ _ _ _ => True) (fun _ U o U' => ∃ v L, o = .returned v ∧ QPure (some (.int p1)) h0 n0 v U'.heap L ∧ FrameEnd U o U' L 0 0) := by
  refine MetFree.of_bodySF (plainFor_of_name pn_2) hisR ?_
  intro p e s m args below meth c s₁ Bd hml0 hP hK
  obtain ⟨rfl, hZ, hh⟩ := hP
  have hx := Bd.exec
  have hby := Bd.bytes
  have hml : c.maxLocals = 4 := hml0
  have hown : s.vm.findClass "jdk/internal/util/Preconditions" = some m.cls := findClass_of_methodNamed Bd.named
  have hnm := (name_of_methodNamed Bd.named Bd.method).1
  have hrt := Bd.returns
  have hlk : meth.locks = false := Bd.notSynchronized
  have X0 : Stand p l e ({ frames := 0, cells := 0, slots := 0, locals := 0 } : Room) s m #[(.int p1), (.int p2), (.int p3), f4] below meth c s₁ [] 0 0 := Stand.of_body Bd
  have e0 : s₁.heap = h0 := by rw [← hh, Bd.state]; rfl
  have N0 := Fr.nil n0
  have Z0 : n0 ≤ h0.size := O0.1 ▸ O0.2.1
  show own_Go p e below (s₁.setTop (entryFrame m #[(.int p1), (.int p2), (.int p3), f4] 4)) (fun o U' => ∃ v L, o = .returned v ∧ QPure (some (.int p1)) h0 n0 v U'.heap L ∧ FrameEnd s o U' L 0 0)
  refine own_go (fun _ k => castTop (ef_rm_cft m p1 p2 p3 f4 r4) k) ?_
  show own_Go p e below (s₁.setTop (mkF m 0 #[.val (.int p1), .val (.int p2), .val (.int p3), .val f4] [])) _
  refine own_go (fun _ k => XS.iloadN X0.here hx rfl (hb hby d_jdk_41_m12_0) rfl k) ?_
  show own_Go p e below (s₁.setTop (mkF m 1 #[.val (.int p1), .val (.int p2), .val (.int p3), .val f4] [(.int p1)])) _
  refine own_go (fun _ k => XS.ifNo X0.here hx rfl (hb hby d_jdk_41_m12_1) rfl ((if0 _ _).trans (flt q1).1) k) ?_
  show own_Go p e below (s₁.setTop (mkF m 4 #[.val (.int p1), .val (.int p2), .val (.int p3), .val f4] [])) _
  refine own_go (fun _ k => XS.iloadN X0.here hx rfl (hb hby d_jdk_41_m12_4) rfl k) ?_
  show own_Go p e below (s₁.setTop (mkF m 5 #[.val (.int p1), .val (.int p2), .val (.int p3), .val f4] [(.int p1)])) _
  refine own_go (fun _ k => XS.iloadN X0.here hx rfl (hb hby d_jdk_41_m12_5) rfl k) ?_
  show own_Go p e below (s₁.setTop (mkF m 6 #[.val (.int p1), .val (.int p2), .val (.int p3), .val f4] [(.int p2), (.int p1)])) _
  refine own_go (fun _ k => XS.icmpNo X0.here hx rfl (hb hby d_jdk_41_m12_6) rfl (flt q2).2.2.1 k) ?_
  show own_Go p e below (s₁.setTop (mkF m 9 #[.val (.int p1), .val (.int p2), .val (.int p3), .val f4] [])) _
  refine own_go (fun _ k => XS.iloadN X0.here hx rfl (hb hby d_jdk_41_m12_9) rfl k) ?_
  show own_Go p e below (s₁.setTop (mkF m 10 #[.val (.int p1), .val (.int p2), .val (.int p3), .val f4] [(.int p2)])) _
  refine own_go (fun _ k => XS.iloadN X0.here hx rfl (hb hby d_jdk_41_m12_10) rfl k) ?_
  show own_Go p e below (s₁.setTop (mkF m 11 #[.val (.int p1), .val (.int p2), .val (.int p3), .val f4] [(.int p3), (.int p2)])) _
  refine own_go (fun _ k => XS.icmpYes X0.here hx rfl (pc0 := 11) (pc' := 22) rfl (hb hby d_jdk_41_m12_11) rfl (flt q3).2.2.2 (by decide) (by decide) k) ?_
  show own_Go p e below (s₁.setTop (mkF m 22 #[.val (.int p1), .val (.int p2), .val (.int p3), .val f4] [])) _
  refine own_go (fun _ k => XS.iloadN X0.here hx rfl (hb hby d_jdk_41_m12_22) rfl k) ?_
  show own_Go p e below (s₁.setTop (mkF m 23 #[.val (.int p1), .val (.int p2), .val (.int p3), .val f4] [(.int p1)])) _
  refine own_fin (v := (some (.int p1))) X0 (fun h => by rw [hrt] at h; cases h) hlk (fun fs hr => retI X0 hx hrt (hb hby d_jdk_41_m12_23) hr) (QQ := QPure (some (.int p1)) h0 n0) ?_ (by decide) (by decide)
  rw [e0]
  exact ⟨rfl, N0, rfl⟩

theorem d_jdk_42_m158_0 : decode jdk_42_method_158_code 0 = .ok (.iload_n 0, 1) := by decide +kernel
theorem d_jdk_42_m158_1 : decode jdk_42_method_158_code 1 = .ok (.iload_n 1, 1) := by decide +kernel
theorem d_jdk_42_m158_2 : decode jdk_42_method_158_code 2 = .ok (.iload_n 2, 1) := by decide +kernel
theorem d_jdk_42_m158_3 : decode jdk_42_method_158_code 3 = .ok (.getstatic 1053, 3) := by decide +kernel
theorem d_jdk_42_m158_6 : decode jdk_42_method_158_code 6 = .ok (.invokestatic 1062, 3) := by decide +kernel
theorem pd_1 : parseMethodDescriptor "(IIILjava/util/function/BiFunction;)I" = some ⟨[.int, .int, .int, (.object "java/util/function/BiFunction")], some .int⟩ := by decide +kernel
theorem d_jdk_42_m158_9 : decode jdk_42_method_158_code 9 = .ok (.pop, 1) := by decide +kernel
theorem d_jdk_42_m158_10 : decode jdk_42_method_158_code 10 = .ok (.return_, 1) := by decide +kernel
theorem pn_3 : plainName "java/lang/String" = true := by first | (simp [plainName, overriddenIn]; done) | decide +kernel
theorem ef_rm_cbe (m : MethodId) (x0 : Int32) (x1 : Int32) (x2 : Int32) : entryFrame m #[(.int x0), (.int x1), (.int x2)] 3 = mkF m 0 #[.val (.int x0), .val (.int x1), .val (.int x2)] [] := by
   first | (simp [entryFrame, mkF, argsToLocals, Value.category]; done) | rfl
set_option maxRecDepth 65536 in
set_option maxHeartbeats 40000000 in
theorem rm_cbe (l : Launch) (Z : State) (a0 : Array Value) (hw : ∀ d ∈ tables_1, d.before a0 Z = true) (ws : List Jvm.Cond) (p1 : Int32) (p2 : Int32) (p3 : Int32) (G3 : Value) (h0 : Heap) (n0 : Nat) (O0 : Old Z n0 h0) (O4 : Sta Z Z.heap "jdk/internal/util/Preconditions" "SIOOBE_FORMATTER" "Ljava/util/function/BiFunction;" G3) (rG3 : G3.isRef = true) (q1 : ¬ (p1 < (0 : Int32))) (q2 : ¬ (p2 < p1)) (q3 : ¬ (p3 < p2)) :
    MetFree l (⟨"java/lang/String", "checkBoundsBeginEnd", "(III)V"⟩ : MethodName) (head1 (Jvm.Cond.code (⟨"java/lang/String", "checkBoundsBeginEnd", "(III)V"⟩ : MethodName) jdk_42_method_158_code 3 none :: ws) ({ frames := 1, cells := 0, slots := 0, locals := 15 } : Room)) (fun a U => a = #[(.int p1), (.int p2), (.int p3)] ∧ Z.Warmed39 U.vm ∧ U.heap = h0) (fun _ _ _ _ _ => True) (fun _ U o U' => ∃ v L, o = .returned v ∧ QPure (none) h0 n0 v U'.heap L ∧ FrameEnd U o U' L 0 0) := by
  refine MetFree.of_bodySF (plainFor_of_name pn_3) hisR ?_
  intro p e s m args below meth c s₁ Bd hml0 hP hK
  obtain ⟨rfl, hZ, hh⟩ := hP
  have hx := Bd.exec
  have hby := Bd.bytes
  have hml : c.maxLocals = 3 := hml0
  have hown : s.vm.findClass "java/lang/String" = some m.cls := findClass_of_methodNamed Bd.named
  have hnm := (name_of_methodNamed Bd.named Bd.method).1
  have hrt := Bd.returns
  have hlk : meth.locks = false := Bd.notSynchronized
  have X0 : Stand p l e ({ frames := 1, cells := 0, slots := 0, locals := 15 } : Room) s m #[(.int p1), (.int p2), (.int p3)] below meth c s₁ [] 0 0 := Stand.of_body Bd
  have e0 : s₁.heap = h0 := by rw [← hh, Bd.state]; rfl
  have N0 := Fr.nil n0
  have Z0 : n0 ≤ h0.size := O0.1 ▸ O0.2.1
  show own_Go p e below (s₁.setTop (entryFrame m #[(.int p1), (.int p2), (.int p3)] 3)) (fun o U' => ∃ v L, o = .returned v ∧ QPure (none) h0 n0 v U'.heap L ∧ FrameEnd s o U' L 0 0)
  refine own_go (fun _ k => castTop (ef_rm_cbe m p1 p2 p3) k) ?_
  show own_Go p e below (s₁.setTop (mkF m 0 #[.val (.int p1), .val (.int p2), .val (.int p3)] [])) _
  refine own_go (fun _ k => XS.iloadN X0.here hx rfl (hb hby d_jdk_42_m158_0) rfl k) ?_
  show own_Go p e below (s₁.setTop (mkF m 1 #[.val (.int p1), .val (.int p2), .val (.int p3)] [(.int p1)])) _
  refine own_go (fun _ k => XS.iloadN X0.here hx rfl (hb hby d_jdk_42_m158_1) rfl k) ?_
  show own_Go p e below (s₁.setTop (mkF m 2 #[.val (.int p1), .val (.int p2), .val (.int p3)] [(.int p2), (.int p1)])) _
  refine own_go (fun _ k => XS.iloadN X0.here hx rfl (hb hby d_jdk_42_m158_2) rfl k) ?_
  show own_Go p e below (s₁.setTop (mkF m 3 #[.val (.int p1), .val (.int p2), .val (.int p3)] [(.int p3), (.int p2), (.int p1)])) _
  obtain ⟨T12, X12, e12, st12⟩ := getS2 X0 hx hZ hown (host := "") (Or.inl (hw _ (List.mem_of_getElem? (i := 76) rfl))) Via.refl e0 (O4.ext O0.2) (g := (mkF m 3 #[.val (.int p1), .val (.int p2), .val (.int p3)] [(.int p3), (.int p2), (.int p1)])) rfl (hb hby d_jdk_42_m158_3)
  refine own_go st12 ?_
  show own_Go p e below (T12.setTop (mkF m 6 #[.val (.int p1), .val (.int p2), .val (.int p3)] [G3, (.int p3), (.int p2), (.int p1)])) _
  obtain ⟨v13, _, ⟨T13, L13, k13, n13⟩, -, X13, ⟨Lc13, hQ13, l13, y13, z13⟩, st13⟩ := Jvm.LawKit.callS X12 hx (y := (⟨"jdk/internal/util/Preconditions", "checkFromToIndex", "(IIILjava/util/function/BiFunction;)I"⟩ : MethodName)) hown (mvT hZ (hw _ (List.mem_of_getElem? (i := 78) rfl))) (mvT hZ (hw _ (List.mem_of_getElem? (i := 79) rfl))) (mvT hZ (hw _ (List.mem_of_getElem? (i := 77) rfl))) (mvT hZ (hw _ (List.mem_of_getElem? (i := 80) rfl))) (by decide) (backOf (W := 0) (rm_cft l Z a0 hw [] p1 p2 p3 G3 h0 n0 O0 rG3 q1 q2 q3) hZ (hw _ (List.mem_of_getElem? (i := 80) rfl)) (hw _ (List.mem_of_getElem? (i := 77) rfl)) (by decide) (by decide)) (g := (mkF m 6 #[.val (.int p1), .val (.int p2), .val (.int p3)] [G3, (.int p3), (.int p2), (.int p1)])) rfl (by rw [hml]; rfl) (argsL := [(.int p1), (.int p2), (.int p3), G3]) (rest := []) (lenOf pd_1 rfl) rfl (by show 2 * 0 + _ ≤ _; exact Nat.le_of_eq rfl) (hb hby d_jdk_42_m158_6) (fun _ _ => ⟨rfl, e12, (by decide : 0 + 0 ≤ _), (by decide : 0 + 0 ≤ _)⟩)
  dsimp only [Pt.U, Pt.locs, Pt.cells, Pt.slots] at X13 l13 y13 z13 st13 hQ13
  subst l13 y13 z13
  refine own_go st13 ?_
  obtain ⟨rfl, Nq13, e13⟩ := hQ13
  have N13 := Fr.app N0 Nq13
  show own_Go p e below (T13.setTop (mkF m 9 #[.val (.int p1), .val (.int p2), .val (.int p3)] [(.int p1)])) _
  refine own_go (fun _ k => XS.pop X13.here hx rfl (hb hby d_jdk_42_m158_9) rfl rfl k) ?_
  show own_Go p e below (T13.setTop (mkF m 10 #[.val (.int p1), .val (.int p2), .val (.int p3)] [])) _
  refine own_fin (v := none) X13 (fun _ => rfl) hlk (fun fs hr => X13.returnOut hx hrt (hb hby d_jdk_42_m158_10) hr) (QQ := QPure (none) h0 n0) ?_ (by decide) (by decide)
  rw [e13]
  exact ⟨rfl, N13, rfl⟩

theorem d_jdk_42_m154_0 : decode jdk_42_method_154_code 0 = .ok (.getstatic 38, 3) := by decide +kernel
theorem d_jdk_42_m154_3 : decode jdk_42_method_154_code 3 = .ok (.ifCond .eq 14, 3) := by decide +kernel
theorem d_jdk_42_m154_6 : decode jdk_42_method_154_code 6 = .ok (.aload_n 0, 1) := by decide +kernel
theorem d_jdk_42_m154_7 : decode jdk_42_method_154_code 7 = .ok (.getfield 15, 3) := by decide +kernel
theorem d_jdk_42_m154_10 : decode jdk_42_method_154_code 10 = .ok (.ifCond .ne 7, 3) := by decide +kernel
theorem d_jdk_42_m154_13 : decode jdk_42_method_154_code 13 = .ok (.iconst 1, 1) := by decide +kernel
theorem d_jdk_42_m154_14 : decode jdk_42_method_154_code 14 = .ok (.goto 4, 3) := by decide +kernel
theorem d_jdk_42_m154_18 : decode jdk_42_method_154_code 18 = .ok (.ireturn, 1) := by decide +kernel
theorem ef_rm_lat (m : MethodId) (x0 : Addr) : entryFrame m #[(.ref x0)] 1 = mkF m 0 #[.val (.ref x0)] [] := by
   first | (simp [entryFrame, mkF, argsToLocals, Value.category]; done) | rfl
set_option maxRecDepth 65536 in
set_option maxHeartbeats 40000000 in
theorem rm_lat (l : Launch) (Z : State) (a0 : Array Value) (hw : ∀ d ∈ tables_1, d.before a0 Z = true) (ws : List Jvm.Cond) (a1 : Addr) (G1 : Int32) (h0 : Heap) (n0 : Nat) (O0 : Old Z n0 h0) (E_a : Exa Z h0 a1 "java/lang/String") (F_c : Fld Z h0 a1 "java/lang/String" "coder" "B" (.int (0 : Int32))) (O2 : Sta Z Z.heap "java/lang/String" "COMPACT_STRINGS" "Z" (.int G1)) (P5 : ¬ (G1 = (0 : Int32))) :
    MetFree l (⟨"java/lang/String", "isLatin1", "()Z"⟩ : MethodName) (head1 (Jvm.Cond.code (⟨"java/lang/String", "isLatin1", "()Z"⟩ : MethodName) jdk_42_method_154_code 1 (some .boolean) :: ws) ({ frames := 0, cells := 0, slots := 0, locals := 0 } : Room)) (fun a U => a = #[(.ref a1)] ∧ Z.Warmed39 U.vm ∧ U.heap = h0) (fun _ _ _ _ _ => True) (fun _ U o U' => ∃ v L, o = .returned v ∧ QPure (some (.int (1 : Int32))) h0 n0 v U'.heap L ∧ FrameEnd U o U' L 0 0) := by
  refine MetFree.of_bodySF (plainFor_of_name pn_3) hisR ?_
  intro p e s m args below meth c s₁ Bd hml0 hP hK
  obtain ⟨rfl, hZ, hh⟩ := hP
  have hx := Bd.exec
  have hby := Bd.bytes
  have hml : c.maxLocals = 1 := hml0
  have hown : s.vm.findClass "java/lang/String" = some m.cls := findClass_of_methodNamed Bd.named
  have hnm := (name_of_methodNamed Bd.named Bd.method).1
  have hrt := Bd.returns
  have hlk : meth.locks = false := Bd.notSynchronized
  have X0 : Stand p l e ({ frames := 0, cells := 0, slots := 0, locals := 0 } : Room) s m #[(.ref a1)] below meth c s₁ [] 0 0 := Stand.of_body Bd
  have e0 : s₁.heap = h0 := by rw [← hh, Bd.state]; rfl
  have N0 := Fr.nil n0
  have Z0 : n0 ≤ h0.size := O0.1 ▸ O0.2.1
  show own_Go p e below (s₁.setTop (entryFrame m #[(.ref a1)] 1)) (fun o U' => ∃ v L, o = .returned v ∧ QPure (some (.int (1 : Int32))) h0 n0 v U'.heap L ∧ FrameEnd s o U' L 0 0)
  refine own_go (fun _ k => castTop (ef_rm_lat m a1) k) ?_
  show own_Go p e below (s₁.setTop (mkF m 0 #[.val (.ref a1)] [])) _
  obtain ⟨T14, X14, e14, st14⟩ := getS2 X0 hx hZ hown (host := "") (Or.inl (hw _ (List.mem_of_getElem? (i := 20) rfl))) Via.refl e0 (O2.ext O0.2) (g := (mkF m 0 #[.val (.ref a1)] [])) rfl (hb hby d_jdk_42_m154_0)
  refine own_go st14 ?_
  show own_Go p e below (T14.setTop (mkF m 3 #[.val (.ref a1)] [(.int G1)])) _
  refine own_go (fun _ k => XS.ifNo X14.here hx rfl (hb hby d_jdk_42_m154_3) rfl ((if0 _ _).trans (feq P5).1) k) ?_
  show own_Go p e below (T14.setTop (mkF m 6 #[.val (.ref a1)] [])) _
  refine own_go (fun _ k => XS.aloadN X14.here hx rfl (hb hby d_jdk_42_m154_6) rfl rfl k) ?_
  show own_Go p e below (T14.setTop (mkF m 7 #[.val (.ref a1)] [(.ref a1)])) _
  obtain ⟨T15, X15, e15, st15⟩ := getF X14 hx hZ hown (host := "") (Or.inl (hw _ (List.mem_of_getElem? (i := 32) rfl))) Via.refl e14 F_c (g := (mkF m 7 #[.val (.ref a1)] [(.ref a1)])) rfl rfl (hb hby d_jdk_42_m154_7)
  refine own_go st15 ?_
  show own_Go p e below (T15.setTop (mkF m 10 #[.val (.ref a1)] [(.int (0 : Int32))])) _
  refine own_go (fun _ k => XS.ifNo X15.here hx rfl (hb hby d_jdk_42_m154_10) rfl ((if0 _ _).trans (teq (by decide : (0 : Int32) = (0 : Int32))).2) k) ?_
  show own_Go p e below (T15.setTop (mkF m 13 #[.val (.ref a1)] [])) _
  refine own_go (fun _ k => XS.iconst X15.here hx rfl (hb hby d_jdk_42_m154_13) k) ?_
  show own_Go p e below (T15.setTop (mkF m 14 #[.val (.ref a1)] [(.int (1 : Int32))])) _
  refine own_go (fun _ k => XS.goto X15.here hx rfl (pc0 := 14) (pc' := 18) rfl (hb hby d_jdk_42_m154_14) (by decide) (by decide) k) ?_
  show own_Go p e below (T15.setTop (mkF m 18 #[.val (.ref a1)] [(.int (1 : Int32))])) _
  refine own_fin (v := (some (.int (nar .boolean (1 : Int32))))) X15 (fun h => by rw [hrt] at h; cases h) hlk (fun fs hr => retN X15 hx (t := .boolean) hrt (by simp) (hb hby d_jdk_42_m154_18) hr) (QQ := QPure (some (.int (1 : Int32))) h0 n0) ?_ (by decide) (by decide)
  rw [e15]
  exact ⟨rfl, N0, rfl⟩

theorem own_wLen {Z : State} {a0 : Array Value} (hw : ∀ d ∈ tables_1, d.before a0 Z = true) : ∀ d ∈ StrChars.Road.wordsLen, d.before a0 Z = true := fun d hd => hw d ((by decide +kernel : ∀ d ∈ StrChars.Road.wordsLen, d ∈ tables_1) d hd)
theorem own_wChN {Z : State} {a0 : Array Value} (hw : ∀ d ∈ tables_1, d.before a0 Z = true) : ∀ d ∈ StrChars.Road.wordsChN, d.before a0 Z = true := fun d hd => hw d ((by decide +kernel : ∀ d ∈ StrChars.Road.wordsChN, d ∈ tables_1) d hd)
theorem d_jdk_29_m69_0 : decode jdk_29_method_69_code 0 = .ok (.iload_n 0, 1) := by decide +kernel
theorem d_jdk_29_m69_1 : decode jdk_29_method_69_code 1 = .ok (.iload_n 1, 1) := by decide +kernel
theorem d_jdk_29_m69_2 : decode jdk_29_method_69_code 2 = .ok (.if_icmp .gt 7, 3) := by decide +kernel
theorem d_jdk_29_m69_9 : decode jdk_29_method_69_code 9 = .ok (.iload_n 1, 1) := by decide +kernel
theorem d_jdk_29_m69_10 : decode jdk_29_method_69_code 10 = .ok (.ireturn, 1) := by decide +kernel
theorem d_jdk_29_m69_5 : decode jdk_29_method_69_code 5 = .ok (.iload_n 0, 1) := by decide +kernel
theorem d_jdk_29_m69_6 : decode jdk_29_method_69_code 6 = .ok (.goto 4, 3) := by decide +kernel
theorem ef_rm_min (m : MethodId) (x0 : Int32) (x1 : Int32) : entryFrame m #[(.int x0), (.int x1)] 2 = mkF m 0 #[.val (.int x0), .val (.int x1)] [] := by
   first | (simp [entryFrame, mkF, argsToLocals, Value.category]; done) | rfl
set_option maxRecDepth 65536 in
set_option maxHeartbeats 40000000 in
theorem rm_min (l : Launch) (Z : State) (a0 : Array Value) (hw : ∀ d ∈ tables_1, d.before a0 Z = true) (ws : List Jvm.Cond) (p1 : Int32) (p2 : Int32) (r : Int32) (h0 : Heap) (n0 : Nat) (O0 : Old Z n0 h0) (hr0 : r = if p2 < p1 then p2 else p1) :
    MetFree l (⟨"java/lang/Math", "min", "(II)I"⟩ : MethodName) (head1 (Jvm.Cond.code (⟨"java/lang/Math", "min", "(II)I"⟩ : MethodName) jdk_29_method_69_code 2 (some .int) :: ws) ({ frames := 0, cells := 0, slots := 0, locals := 0 } : Room)) (fun a U => a = #[(.int p1), (.int p2)] ∧ Z.Warmed39 U.vm ∧ U.heap = h0) (fun _ _ _ _ _ => True) (fun _ U o U' => ∃ v L, o = .returned v ∧ QPure (some (.int r)) h0 n0 v U'.heap L ∧ FrameEnd U o U' L 0 0) := by
  refine MetFree.of_bodySF (Jvm.Free.JP.mathPlain rfl (by decide +kernel)) hisR ?_
  intro p e s m args below meth c s₁ Bd hml0 hP hK
  obtain ⟨rfl, hZ, hh⟩ := hP
  have hx := Bd.exec
  have hby := Bd.bytes
  have hml : c.maxLocals = 2 := hml0
  have hown : s.vm.findClass "java/lang/Math" = some m.cls := findClass_of_methodNamed Bd.named
  have hnm := (name_of_methodNamed Bd.named Bd.method).1
  have hrt := Bd.returns
  have hlk : meth.locks = false := Bd.notSynchronized
  have X0 : Stand p l e ({ frames := 0, cells := 0, slots := 0, locals := 0 } : Room) s m #[(.int p1), (.int p2)] below meth c s₁ [] 0 0 := Stand.of_body Bd
  have e0 : s₁.heap = h0 := by rw [← hh, Bd.state]; rfl
  have N0 := Fr.nil n0
  have Z0 : n0 ≤ h0.size := O0.1 ▸ O0.2.1
  show own_Go p e below (s₁.setTop (entryFrame m #[(.int p1), (.int p2)] 2)) (fun o U' => ∃ v L, o = .returned v ∧ QPure (some (.int r)) h0 n0 v U'.heap L ∧ FrameEnd s o U' L 0 0)
  refine own_go (fun _ k => castTop (ef_rm_min m p1 p2) k) ?_
  show own_Go p e below (s₁.setTop (mkF m 0 #[.val (.int p1), .val (.int p2)] [])) _
  refine own_go (fun _ k => XS.iloadN X0.here hx rfl (hb hby d_jdk_29_m69_0) rfl k) ?_
  show own_Go p e below (s₁.setTop (mkF m 1 #[.val (.int p1), .val (.int p2)] [(.int p1)])) _
  refine own_go (fun _ k => XS.iloadN X0.here hx rfl (hb hby d_jdk_29_m69_1) rfl k) ?_
  show own_Go p e below (s₁.setTop (mkF m 2 #[.val (.int p1), .val (.int p2)] [(.int p2), (.int p1)])) _
  by_cases hc16 : p2 < p1
  · skip
    refine own_go (fun _ k => XS.icmpYes X0.here hx rfl (pc0 := 2) (pc' := 9) rfl (hb hby d_jdk_29_m69_2) rfl (tlt hc16).2.2.1 (by decide) (by decide) k) ?_
    show own_Go p e below (s₁.setTop (mkF m 9 #[.val (.int p1), .val (.int p2)] [])) _
    refine own_go (fun _ k => XS.iloadN X0.here hx rfl (hb hby d_jdk_29_m69_9) rfl k) ?_
    show own_Go p e below (s₁.setTop (mkF m 10 #[.val (.int p1), .val (.int p2)] [(.int p2)])) _
    refine own_fin (v := (some (.int p2))) X0 (fun h => by rw [hrt] at h; cases h) hlk (fun fs hr => retI X0 hx hrt (hb hby d_jdk_29_m69_10) hr) (QQ := QPure (some (.int r)) h0 n0) ?_ (by decide) (by decide)
    rw [e0]
    exact ⟨by rw [hr0, if_pos hc16], N0, rfl⟩
  · skip
    refine own_go (fun _ k => XS.icmpNo X0.here hx rfl (hb hby d_jdk_29_m69_2) rfl (flt hc16).2.2.1 k) ?_
    show own_Go p e below (s₁.setTop (mkF m 5 #[.val (.int p1), .val (.int p2)] [])) _
    refine own_go (fun _ k => XS.iloadN X0.here hx rfl (hb hby d_jdk_29_m69_5) rfl k) ?_
    show own_Go p e below (s₁.setTop (mkF m 6 #[.val (.int p1), .val (.int p2)] [(.int p1)])) _
    refine own_go (fun _ k => XS.goto X0.here hx rfl (pc0 := 6) (pc' := 10) rfl (hb hby d_jdk_29_m69_6) (by decide) (by decide) k) ?_
    show own_Go p e below (s₁.setTop (mkF m 10 #[.val (.int p1), .val (.int p2)] [(.int p1)])) _
    refine own_fin (v := (some (.int p1))) X0 (fun h => by rw [hrt] at h; cases h) hlk (fun fs hr => retI X0 hx hrt (hb hby d_jdk_29_m69_10) hr) (QQ := QPure (some (.int r)) h0 n0) ?_ (by decide) (by decide)
    rw [e0]
    exact ⟨by rw [hr0, if_neg hc16], N0, rfl⟩

theorem d_jdk_65_m131_0 : decode jdk_65_method_131_code 0 = .ok (.iload_n 1, 1) := by decide +kernel
theorem d_jdk_65_m131_1 : decode jdk_65_method_131_code 1 = .ok (.iload_n 0, 1) := by decide +kernel
theorem d_jdk_65_m131_2 : decode jdk_65_method_131_code 2 = .ok (.if_icmp .ge 35, 3) := by decide +kernel
theorem d_jdk_65_m131_37 : decode jdk_65_method_131_code 37 = .ok (.return_, 1) := by decide +kernel
theorem pn_4 : plainName "java/util/Arrays" = true := by first | (simp [plainName, overriddenIn]; done) | decide +kernel
theorem ef_rm_ckl (m : MethodId) (x0 : Int32) (x1 : Int32) : entryFrame m #[(.int x0), (.int x1)] 2 = mkF m 0 #[.val (.int x0), .val (.int x1)] [] := by
   first | (simp [entryFrame, mkF, argsToLocals, Value.category]; done) | rfl
set_option maxRecDepth 65536 in
set_option maxHeartbeats 40000000 in
theorem rm_ckl (l : Launch) (Z : State) (a0 : Array Value) (hw : ∀ d ∈ tables_1, d.before a0 Z = true) (ws : List Jvm.Cond) (p1 : Int32) (p2 : Int32) (h0 : Heap) (n0 : Nat) (O0 : Old Z n0 h0) (q1 : ¬ (p2 < p1)) :
    MetFree l (⟨"java/util/Arrays", "checkLength", "(II)V"⟩ : MethodName) (head1 (Jvm.Cond.code (⟨"java/util/Arrays", "checkLength", "(II)V"⟩ : MethodName) jdk_65_method_131_code 2 none :: ws) ({ frames := 0, cells := 0, slots := 0, locals := 0 } : Room)) (fun a U => a = #[(.int p1), (.int p2)] ∧ Z.Warmed39 U.vm ∧ U.heap = h0) (fun _ _ _ _ _ => True) (fun _ U o U' => ∃ v L, o = .returned v ∧ QPure (none) h0 n0 v U'.heap L ∧ FrameEnd U o U' L 0 0) := by
  refine MetFree.of_bodySF (plainFor_of_name pn_4) hisR ?_
  intro p e s m args below meth c s₁ Bd hml0 hP hK
  obtain ⟨rfl, hZ, hh⟩ := hP
  have hx := Bd.exec
  have hby := Bd.bytes
  have hml : c.maxLocals = 2 := hml0
  have hown : s.vm.findClass "java/util/Arrays" = some m.cls := findClass_of_methodNamed Bd.named
  have hnm := (name_of_methodNamed Bd.named Bd.method).1
  have hrt := Bd.returns
  have hlk : meth.locks = false := Bd.notSynchronized
  have X0 : Stand p l e ({ frames := 0, cells := 0, slots := 0, locals := 0 } : Room) s m #[(.int p1), (.int p2)] below meth c s₁ [] 0 0 := Stand.of_body Bd
  have e0 : s₁.heap = h0 := by rw [← hh, Bd.state]; rfl
  have N0 := Fr.nil n0
  have Z0 : n0 ≤ h0.size := O0.1 ▸ O0.2.1
  show own_Go p e below (s₁.setTop (entryFrame m #[(.int p1), (.int p2)] 2)) (fun o U' => ∃ v L, o = .returned v ∧ QPure (none) h0 n0 v U'.heap L ∧ FrameEnd s o U' L 0 0)
  refine own_go (fun _ k => castTop (ef_rm_ckl m p1 p2) k) ?_
  show own_Go p e below (s₁.setTop (mkF m 0 #[.val (.int p1), .val (.int p2)] [])) _
  refine own_go (fun _ k => XS.iloadN X0.here hx rfl (hb hby d_jdk_65_m131_0) rfl k) ?_
  show own_Go p e below (s₁.setTop (mkF m 1 #[.val (.int p1), .val (.int p2)] [(.int p2)])) _
  refine own_go (fun _ k => XS.iloadN X0.here hx rfl (hb hby d_jdk_65_m131_1) rfl k) ?_
  show own_Go p e below (s₁.setTop (mkF m 2 #[.val (.int p1), .val (.int p2)] [(.int p1), (.int p2)])) _
  refine own_go (fun _ k => XS.icmpYes X0.here hx rfl (pc0 := 2) (pc' := 37) rfl (hb hby d_jdk_65_m131_2) rfl (flt q1).2.1 (by decide) (by decide) k) ?_
  show own_Go p e below (s₁.setTop (mkF m 37 #[.val (.int p1), .val (.int p2)] [])) _
  refine own_fin (v := none) X0 (fun _ => rfl) hlk (fun fs hr => X0.returnOut hx hrt (hb hby d_jdk_65_m131_37) hr) (QQ := QPure (none) h0 n0) ?_ (by decide) (by decide)
  rw [e0]
  exact ⟨rfl, N0, rfl⟩

def QSI (Z : State) (a1 a2 : Addr) (h0 : Heap) (n0 : Nat) (v : Option Value) (h : Heap) (L : List Loc) : Prop := v = none ∧ Fr n0 L ∧ Keep h0 h [a1] ∧ Fld Z h a1 "java/lang/String" "value" "[B" (.ref a2) ∧ Fld Z h a1 "java/lang/String" "coder" "B" (.int (0 : Int32))
theorem d_jdk_42_m151_0 : decode jdk_42_method_151_code 0 = .ok (.aload_n 0, 1) := by decide +kernel
theorem d_jdk_42_m151_1 : decode jdk_42_method_151_code 1 = .ok (.invokespecial 1, 3) := by decide +kernel
theorem d_jdk_42_m151_4 : decode jdk_42_method_151_code 4 = .ok (.aload_n 0, 1) := by decide +kernel
theorem d_jdk_42_m151_5 : decode jdk_42_method_151_code 5 = .ok (.aload_n 1, 1) := by decide +kernel
theorem d_jdk_42_m151_6 : decode jdk_42_method_151_code 6 = .ok (.putfield 9, 3) := by decide +kernel
theorem d_jdk_42_m151_9 : decode jdk_42_method_151_code 9 = .ok (.aload_n 0, 1) := by decide +kernel
theorem d_jdk_42_m151_10 : decode jdk_42_method_151_code 10 = .ok (.iload_n 2, 1) := by decide +kernel
theorem d_jdk_42_m151_11 : decode jdk_42_method_151_code 11 = .ok (.putfield 15, 3) := by decide +kernel
theorem d_jdk_42_m151_14 : decode jdk_42_method_151_code 14 = .ok (.return_, 1) := by decide +kernel
theorem ef_rm_sbb (m : MethodId) (x0 : Addr) (x1 : Addr) (x2 : Int32) : entryFrame m #[(.ref x0), (.ref x1), (.int x2)] 3 = mkF m 0 #[.val (.ref x0), .val (.ref x1), .val (.int x2)] [] := by
   first | (simp [entryFrame, mkF, argsToLocals, Value.category]; done) | rfl
set_option maxRecDepth 65536 in
set_option maxHeartbeats 40000000 in
theorem rm_sbb (l : Launch) (Z : State) (a0 : Array Value) (hw : ∀ d ∈ tables_1, d.before a0 Z = true) (ws : List Jvm.Cond) (a1 : Addr) (a2 : Addr) (h0 : Heap) (n0 : Nat) (O0 : Old Z n0 h0) (E_a : Exa Z h0 a1 "java/lang/String") (F_v : Fld Z h0 a1 "java/lang/String" "value" "[B" .null) (F_c : Fld Z h0 a1 "java/lang/String" "coder" "B" (.int (0 : Int32))) (g_a : n0 ≤ a1) :
    MetFree l (⟨"java/lang/String", "<init>", "([BB)V"⟩ : MethodName) (head1 (Jvm.Cond.code (⟨"java/lang/String", "<init>", "([BB)V"⟩ : MethodName) jdk_42_method_151_code 3 none :: ws) ({ frames := 1, cells := 0, slots := 0, locals := 12 } : Room)) (fun a U => a = #[(.ref a1), (.ref a2), (.int (0 : Int32))] ∧ Z.Warmed39 U.vm ∧ U.heap = h0) (fun _ _ _ _ _ => True) (fun _ U o U' => ∃ v L, o = .returned v ∧ QSI Z a1 a2 h0 n0 v U'.heap L ∧ FrameEnd U o U' L 0 0) := by
  refine MetFree.of_bodySF (plainFor_of_name pn_3) hisR ?_
  intro p e s m args below meth c s₁ Bd hml0 hP hK
  obtain ⟨rfl, hZ, hh⟩ := hP
  have hx := Bd.exec
  have hby := Bd.bytes
  have hml : c.maxLocals = 3 := hml0
  have hown : s.vm.findClass "java/lang/String" = some m.cls := findClass_of_methodNamed Bd.named
  have hnm := (name_of_methodNamed Bd.named Bd.method).1
  have hrt := Bd.returns
  have hlk : meth.locks = false := Bd.notSynchronized
  have X0 : Stand p l e ({ frames := 1, cells := 0, slots := 0, locals := 12 } : Room) s m #[(.ref a1), (.ref a2), (.int (0 : Int32))] below meth c s₁ [] 0 0 := Stand.of_body Bd
  have e0 : s₁.heap = h0 := by rw [← hh, Bd.state]; rfl
  have N0 := Fr.nil n0
  have Z0 : n0 ≤ h0.size := O0.1 ▸ O0.2.1
  show own_Go p e below (s₁.setTop (entryFrame m #[(.ref a1), (.ref a2), (.int (0 : Int32))] 3)) (fun o U' => ∃ v L, o = .returned v ∧ QSI Z a1 a2 h0 n0 v U'.heap L ∧ FrameEnd s o U' L 0 0)
  refine own_go (fun _ k => castTop (ef_rm_sbb m a1 a2 _) k) ?_
  show own_Go p e below (s₁.setTop (mkF m 0 #[.val (.ref a1), .val (.ref a2), .val (.int (0 : Int32))] [])) _
  refine own_go (fun _ k => XS.aloadN X0.here hx rfl (hb hby d_jdk_42_m151_0) rfl rfl k) ?_
  show own_Go p e below (s₁.setTop (mkF m 1 #[.val (.ref a1), .val (.ref a2), .val (.int (0 : Int32))] [(.ref a1)])) _
  obtain ⟨T17, X17, e17, st17⟩ := initO X0 hx hZ hown (hw _ (List.mem_of_getElem? (i := 17) rfl)) (hw _ (List.mem_of_getElem? (i := 18) rfl)) (hw _ (List.mem_of_getElem? (i := 19) rfl)) e0 (g := (mkF m 1 #[.val (.ref a1), .val (.ref a2), .val (.int (0 : Int32))] [(.ref a1)])) rfl (by rw [hml]; rfl) rfl (hb hby d_jdk_42_m151_1) (by decide) (W := 0) (by show 2 * 0 + _ ≤ _; exact Nat.le_of_eq rfl) (by decide)
  refine own_go st17 ?_
  show own_Go p e below (T17.setTop (mkF m 4 #[.val (.ref a1), .val (.ref a2), .val (.int (0 : Int32))] [])) _
  refine own_go (fun _ k => XS.aloadN X17.here hx rfl (hb hby d_jdk_42_m151_4) rfl rfl k) ?_
  show own_Go p e below (T17.setTop (mkF m 5 #[.val (.ref a1), .val (.ref a2), .val (.int (0 : Int32))] [(.ref a1)])) _
  refine own_go (fun _ k => XS.aloadN X17.here hx rfl (hb hby d_jdk_42_m151_5) rfl rfl k) ?_
  show own_Go p e below (T17.setTop (mkF m 6 #[.val (.ref a1), .val (.ref a2), .val (.int (0 : Int32))] [(.ref a2), (.ref a1)])) _
  obtain ⟨T18, h18, X18, e18, W18, st18⟩ := putF X17 hx hZ hown (host := "") (Or.inl (hw _ (List.mem_of_getElem? (i := 34) rfl))) Via.refl e17 F_v E_a (Or.inr ⟨(hw _ (List.mem_of_getElem? (i := 35) rfl)), rfl, hnm⟩) (hw _ (List.mem_of_getElem? (i := 8) rfl)) (ty := (.array .byte)) (by decide) rfl rfl (g := (mkF m 6 #[.val (.ref a1), .val (.ref a2), .val (.int (0 : Int32))] [(.ref a2), (.ref a1)])) rfl rfl (hb hby d_jdk_42_m151_6)
  refine own_go st18 ?_
  have N18 := Fr.snoc X18 N0 g_a
  have Fw18 := F_v.same W18
  show own_Go p e below (T18.setTop (mkF m 9 #[.val (.ref a1), .val (.ref a2), .val (.int (0 : Int32))] [])) _
  refine own_go (fun _ k => XS.aloadN X18.here hx rfl (hb hby d_jdk_42_m151_9) rfl rfl k) ?_
  show own_Go p e below (T18.setTop (mkF m 10 #[.val (.ref a1), .val (.ref a2), .val (.int (0 : Int32))] [(.ref a1)])) _
  refine own_go (fun _ k => XS.iloadN X18.here hx rfl (hb hby d_jdk_42_m151_10) rfl k) ?_
  show own_Go p e below (T18.setTop (mkF m 11 #[.val (.ref a1), .val (.ref a2), .val (.int (0 : Int32))] [(.int (0 : Int32)), (.ref a1)])) _
  have f19 := (F_c.other W18 (Or.inr (slot_ne (Or.inr (hw _ (List.mem_of_getElem? (i := 33) rfl))) (Or.inr (hw _ (List.mem_of_getElem? (i := 35) rfl))) (by decide) (t := .byte) (t' := (.array .byte)) (by decide) (by decide))))
  obtain ⟨T20, h20, X20, e20, W20, st20⟩ := putFN X18 hx hZ hown (hw _ (List.mem_of_getElem? (i := 32) rfl)) Via.refl e18 f19 (E_a.wr W18) (Or.inr ⟨(hw _ (List.mem_of_getElem? (i := 33) rfl)), rfl, hnm⟩) (hw _ (List.mem_of_getElem? (i := 8) rfl)) (ty := .byte) (v' := (.int (0 : Int32))) (by decide) rfl rfl (g := (mkF m 11 #[.val (.ref a1), .val (.ref a2), .val (.int (0 : Int32))] [(.int (0 : Int32)), (.ref a1)])) rfl rfl (hb hby d_jdk_42_m151_11)
  refine own_go st20 ?_
  have N20 := Fr.snoc X20 N18 g_a
  have Fw20 := f19.same W20
  show own_Go p e below (T20.setTop (mkF m 14 #[.val (.ref a1), .val (.ref a2), .val (.int (0 : Int32))] [])) _
  have f21 := (((Keep.refl h0 [a1]).wr W18 (Or.inl (List.mem_of_getElem? (i := 0) rfl))).wr W20 (Or.inl (List.mem_of_getElem? (i := 0) rfl)))
  have f22 := (Fw18.other W20 (Or.inr (slot_ne (Or.inr (hw _ (List.mem_of_getElem? (i := 35) rfl))) (Or.inr (hw _ (List.mem_of_getElem? (i := 33) rfl))) (by decide) (t := (.array .byte)) (t' := .byte) (by decide) (by decide))))
  refine own_fin (v := none) X20 (fun _ => rfl) hlk (fun fs hr => X20.returnOut hx hrt (hb hby d_jdk_42_m151_14) hr) (QQ := QSI Z a1 a2 h0 n0) ?_ (by decide) (by decide)
  rw [e20]
  exact ⟨rfl, N20, f21, f22, Fw20⟩

def own_R (b e z : Int32) : Prop := (¬ b < (0 : Int32) ∧ ¬ e < b ∧ ¬ (7 : Int32) < e) ∧ (e - b = z ∧ b + z = e) ∧ (¬ z < (0 : Int32) ∧ ¬ z = (0 : Int32) ∧ ¬ e = (7 : Int32)) ∧ (z = if z < (7 : Int32) - b then z else (7 : Int32) - b) ∧ b.toNatClampNeg + z.toNatClampNeg ≤ 7 ∧ z.toNatClampNeg ≤ 2
def own_U (ds : List Int32) (b z : Int32) (vs : List Value) : Prop := (ds.map (fun c => c.toInt8.toInt32)).map Value.int = (List.range z.toNatClampNeg).map fun i => vs.getD (b.toNatClampNeg + i) (.int (0 : Int32))
def QArr (Z : State) (z : Int32) (ds : List Int32) (h0 : Heap) (n0 : Nat) (v : Option Value) (h : Heap) (L : List Loc) : Prop := ∃ (t : Addr) (k : ClassId), v = some (.ref t) ∧ Fr n0 L ∧ Keep h0 h [] ∧ h0.size ≤ t ∧ Arv Z h t k .byte z ((ds.map (fun c => c.toInt8.toInt32)).map Value.int) (.int (0 : Int32))
def QStr (Z : State) (z : Int32) (ds : List Int32) (h0 : Heap) (n0 : Nat) (v : Option Value) (h : Heap) (L : List Loc) : Prop := ∃ (x t : Addr) (k : ClassId), v = some (.ref x) ∧ Fr n0 L ∧ Keep h0 h [] ∧ h0.size ≤ x ∧ h0.size ≤ t ∧ Exa Z h x "java/lang/String" ∧ Fld Z h x "java/lang/String" "value" "[B" (.ref t) ∧ Fld Z h x "java/lang/String" "coder" "B" (.int (0 : Int32)) ∧ Arv Z h t k .byte z ((ds.map (fun c => c.toInt8.toInt32)).map Value.int) (.int (0 : Int32))
theorem d_jdk_65_m133_0 : decode jdk_65_method_133_code 0 = .ok (.iload_n 1, 1) := by decide +kernel
theorem d_jdk_65_m133_1 : decode jdk_65_method_133_code 1 = .ok (.iload_n 2, 1) := by decide +kernel
theorem d_jdk_65_m133_2 : decode jdk_65_method_133_code 2 = .ok (.invokestatic 343, 3) := by decide +kernel
theorem pd_2 : parseMethodDescriptor "(II)V" = some ⟨[.int, .int], none⟩ := by decide +kernel
theorem d_jdk_65_m133_5 : decode jdk_65_method_133_code 5 = .ok (.iload_n 2, 1) := by decide +kernel
theorem d_jdk_65_m133_6 : decode jdk_65_method_133_code 6 = .ok (.iload_n 1, 1) := by decide +kernel
theorem d_jdk_65_m133_7 : decode jdk_65_method_133_code 7 = .ok (.isub, 1) := by decide +kernel
theorem d_jdk_65_m133_8 : decode jdk_65_method_133_code 8 = .ok (.istore_n 3, 1) := by decide +kernel
theorem d_jdk_65_m133_9 : decode jdk_65_method_133_code 9 = .ok (.iload_n 3, 1) := by decide +kernel
theorem d_jdk_65_m133_10 : decode jdk_65_method_133_code 10 = .ok (.newarray .byte, 2) := by decide +kernel
theorem d_jdk_65_m133_12 : decode jdk_65_method_133_code 12 = .ok (.astore 4, 2) := by decide +kernel
theorem d_jdk_65_m133_14 : decode jdk_65_method_133_code 14 = .ok (.aload_n 0, 1) := by decide +kernel
theorem d_jdk_65_m133_15 : decode jdk_65_method_133_code 15 = .ok (.iload_n 1, 1) := by decide +kernel
theorem d_jdk_65_m133_16 : decode jdk_65_method_133_code 16 = .ok (.aload 4, 2) := by decide +kernel
theorem d_jdk_65_m133_18 : decode jdk_65_method_133_code 18 = .ok (.iconst 0, 1) := by decide +kernel
theorem d_jdk_65_m133_19 : decode jdk_65_method_133_code 19 = .ok (.aload_n 0, 1) := by decide +kernel
theorem d_jdk_65_m133_20 : decode jdk_65_method_133_code 20 = .ok (.arraylength, 1) := by decide +kernel
theorem d_jdk_65_m133_21 : decode jdk_65_method_133_code 21 = .ok (.iload_n 1, 1) := by decide +kernel
theorem d_jdk_65_m133_22 : decode jdk_65_method_133_code 22 = .ok (.isub, 1) := by decide +kernel
theorem d_jdk_65_m133_23 : decode jdk_65_method_133_code 23 = .ok (.iload_n 3, 1) := by decide +kernel
theorem d_jdk_65_m133_24 : decode jdk_65_method_133_code 24 = .ok (.invokestatic 304, 3) := by decide +kernel
theorem pd_3 : parseMethodDescriptor "(II)I" = some ⟨[.int, .int], some .int⟩ := by decide +kernel
theorem d_jdk_65_m133_27 : decode jdk_65_method_133_code 27 = .ok (.invokestatic 150, 3) := by decide +kernel
theorem d_jdk_65_m133_30 : decode jdk_65_method_133_code 30 = .ok (.aload 4, 2) := by decide +kernel
theorem d_jdk_65_m133_32 : decode jdk_65_method_133_code 32 = .ok (.areturn, 1) := by decide +kernel
theorem ef_rm_corb (m : MethodId) (x0 : Addr) (x1 : Int32) (x2 : Int32) : entryFrame m #[(.ref x0), (.int x1), (.int x2)] 5 = mkF m 0 #[.val (.ref x0), .val (.int x1), .val (.int x2), .unset, .unset] [] := by
   first | (simp [entryFrame, mkF, argsToLocals, Value.category]; done) | rfl
set_option maxRecDepth 65536 in
set_option maxHeartbeats 40000000 in
theorem rm_corb (l : Launch) (Z : State) (a0 : Array Value) (hw : ∀ d ∈ tables_1, d.before a0 Z = true) (ws : List Jvm.Cond) (a1 : Addr) (k1 : ClassId) (c0 : Int32) (c1 : Int32) (c2 : Int32) (c3 : Int32) (c4 : Int32) (c5 : Int32) (c6 : Int32) (b : Int32) (ee : Int32) (z : Int32) (ds : List Int32) (h0 : Heap) (n0 : Nat) (O0 : Old Z n0 h0) (V_a1 : Arv Z h0 a1 k1 .byte (7 : Int32) ((([c0, c1, c2, c3, c4, c5, c6] : List Int32).map (fun c => c.toInt8.toInt32)).map Value.int) (.int (0 : Int32))) (hR : own_R b ee z) (hU : own_U ds b z ((([c0, c1, c2, c3, c4, c5, c6] : List Int32).map (fun c => c.toInt8.toInt32)).map Value.int)) :
    MetFree l (⟨"java/util/Arrays", "copyOfRangeByte", "([BII)[B"⟩ : MethodName) (head1 (Jvm.Cond.code (⟨"java/util/Arrays", "copyOfRangeByte", "([BII)[B"⟩ : MethodName) jdk_65_method_133_code 5 (some (.array .byte)) :: ws) ({ frames := 1, cells := 1, slots := 2, locals := 18 } : Room)) (fun a U => a = #[(.ref a1), (.int b), (.int ee)] ∧ Z.Warmed39 U.vm ∧ U.heap = h0) (fun _ _ _ _ _ => True) (fun _ U o U' => ∃ v L, o = .returned v ∧ QArr Z z ds h0 n0 v U'.heap L ∧ FrameEnd U o U' L 1 2) := by
  refine MetFree.of_bodySF (plainFor_of_name pn_4) hisR ?_
  intro p e s m args below meth c s₁ Bd hml0 hP hK
  obtain ⟨rfl, hZ, hh⟩ := hP
  have hx := Bd.exec
  have hby := Bd.bytes
  have hml : c.maxLocals = 5 := hml0
  have hown : s.vm.findClass "java/util/Arrays" = some m.cls := findClass_of_methodNamed Bd.named
  have hnm := (name_of_methodNamed Bd.named Bd.method).1
  have hrt := Bd.returns
  have hlk : meth.locks = false := Bd.notSynchronized
  have X0 : Stand p l e ({ frames := 1, cells := 1, slots := 2, locals := 18 } : Room) s m #[(.ref a1), (.int b), (.int ee)] below meth c s₁ [] 0 0 := Stand.of_body Bd
  have e0 : s₁.heap = h0 := by rw [← hh, Bd.state]; rfl
  have N0 := Fr.nil n0
  have Z0 : n0 ≤ h0.size := O0.1 ▸ O0.2.1
  show own_Go p e below (s₁.setTop (entryFrame m #[(.ref a1), (.int b), (.int ee)] 5)) (fun o U' => ∃ v L, o = .returned v ∧ QArr Z z ds h0 n0 v U'.heap L ∧ FrameEnd s o U' L 1 2)
  refine own_go (fun _ k => castTop (ef_rm_corb m a1 b ee) k) ?_
  obtain ⟨⟨r1, r2, r3⟩, ⟨r4, r5⟩, ⟨r6, r7, r8⟩, r9, r10, r11⟩ := id hR
  show own_Go p e below (s₁.setTop (mkF m 0 #[.val (.ref a1), .val (.int b), .val (.int ee), .unset, .unset] [])) _
  refine own_go (fun _ k => XS.iloadN X0.here hx rfl (hb hby d_jdk_65_m133_0) rfl k) ?_
  show own_Go p e below (s₁.setTop (mkF m 1 #[.val (.ref a1), .val (.int b), .val (.int ee), .unset, .unset] [(.int b)])) _
  refine own_go (fun _ k => XS.iloadN X0.here hx rfl (hb hby d_jdk_65_m133_1) rfl k) ?_
  show own_Go p e below (s₁.setTop (mkF m 2 #[.val (.ref a1), .val (.int b), .val (.int ee), .unset, .unset] [(.int ee), (.int b)])) _
  obtain ⟨v23, _, ⟨T23, L23, k23, n23⟩, -, X23, ⟨Lc23, hQ23, l23, y23, z23⟩, st23⟩ := Jvm.LawKit.callS X0 hx (y := (⟨"java/util/Arrays", "checkLength", "(II)V"⟩ : MethodName)) hown (mvT hZ (hw _ (List.mem_of_getElem? (i := 98) rfl))) (mvT hZ (hw _ (List.mem_of_getElem? (i := 99) rfl))) (mvT hZ (hw _ (List.mem_of_getElem? (i := 93) rfl))) (mvT hZ (hw _ (List.mem_of_getElem? (i := 100) rfl))) (by decide) (backOf (W := 0) (rm_ckl l Z a0 hw [] b ee h0 n0 O0 r2) hZ (hw _ (List.mem_of_getElem? (i := 100) rfl)) (hw _ (List.mem_of_getElem? (i := 93) rfl)) (by decide) (by decide)) (g := (mkF m 2 #[.val (.ref a1), .val (.int b), .val (.int ee), .unset, .unset] [(.int ee), (.int b)])) rfl (by rw [hml]; rfl) (argsL := [(.int b), (.int ee)]) (rest := []) (lenOf pd_2 rfl) rfl (by show 2 * 0 + _ ≤ _; exact Nat.le_of_eq rfl) (hb hby d_jdk_65_m133_2) (fun _ _ => ⟨rfl, e0, (by decide : 0 + 0 ≤ _), (by decide : 0 + 0 ≤ _)⟩)
  dsimp only [Pt.U, Pt.locs, Pt.cells, Pt.slots] at X23 l23 y23 z23 st23 hQ23
  subst l23 y23 z23
  refine own_go st23 ?_
  obtain ⟨rfl, Nq23, e23⟩ := hQ23
  have N23 := Fr.app N0 Nq23
  show own_Go p e below (T23.setTop (mkF m 5 #[.val (.ref a1), .val (.int b), .val (.int ee), .unset, .unset] [])) _
  refine own_go (fun _ k => XS.iloadN X23.here hx rfl (hb hby d_jdk_65_m133_5) rfl k) ?_
  show own_Go p e below (T23.setTop (mkF m 6 #[.val (.ref a1), .val (.int b), .val (.int ee), .unset, .unset] [(.int ee)])) _
  refine own_go (fun _ k => XS.iloadN X23.here hx rfl (hb hby d_jdk_65_m133_6) rfl k) ?_
  show own_Go p e below (T23.setTop (mkF m 7 #[.val (.ref a1), .val (.int b), .val (.int ee), .unset, .unset] [(.int b), (.int ee)])) _
  refine own_go (fun _ k => XS.isub X23.here hx rfl (hb hby d_jdk_65_m133_7) rfl k) ?_
  show own_Go p e below (T23.setTop (mkF m 8 #[.val (.ref a1), .val (.int b), .val (.int ee), .unset, .unset] [(.int (ee - b))])) _
  rw [r4]
  show own_Go p e below (T23.setTop (mkF m 8 #[.val (.ref a1), .val (.int b), .val (.int ee), .unset, .unset] [(.int z)])) _
  refine own_go (fun _ k => XS.istoreN X23.here hx rfl (hb hby d_jdk_65_m133_8) rfl (l' := #[.val (.ref a1), .val (.int b), .val (.int ee), .val (.int z), .unset]) rfl k) ?_
  show own_Go p e below (T23.setTop (mkF m 9 #[.val (.ref a1), .val (.int b), .val (.int ee), .val (.int z), .unset] [])) _
  refine own_go (fun _ k => XS.iloadN X23.here hx rfl (hb hby d_jdk_65_m133_9) rfl k) ?_
  show own_Go p e below (T23.setTop (mkF m 10 #[.val (.ref a1), .val (.int b), .val (.int ee), .val (.int z), .unset] [(.int z)])) _
  obtain ⟨T24, h24, k24, X24, e24, E24, A24, st24⟩ := newP X23 hx hZ (hw _ (List.mem_of_getElem? (i := 25) rfl)) e23 (g := (mkF m 10 #[.val (.ref a1), .val (.int b), .val (.int ee), .val (.int z), .unset] [(.int z)])) rfl (hb hby d_jdk_65_m133_10) rfl r6 (cap := 2) r11 (by decide) (by decide) (by decide)
  obtain ⟨b24, g24⟩ : ∃ z, z = h0.size := ⟨_, rfl⟩
  rw [← g24] at A24 st24
  refine own_go st24 ?_
  have V24 : Arv Z h24 b24 k24 .byte z (List.replicate (z).toNatClampNeg (.int (0 : Int32))) (.int (0 : Int32)) := (Arv.new A24 r6).pad (pad_rep [] (.int (0 : Int32)) _)
  show own_Go p e below (T24.setTop (mkF m 12 #[.val (.ref a1), .val (.int b), .val (.int ee), .val (.int z), .unset] [(.ref b24)])) _
  refine own_go (fun _ k => XS.astore X24.here hx rfl (hb hby d_jdk_65_m133_12) rfl rfl (l' := #[.val (.ref a1), .val (.int b), .val (.int ee), .val (.int z), .val (.ref b24)]) rfl k) ?_
  show own_Go p e below (T24.setTop (mkF m 14 #[.val (.ref a1), .val (.int b), .val (.int ee), .val (.int z), .val (.ref b24)] [])) _
  refine own_go (fun _ k => XS.aloadN X24.here hx rfl (hb hby d_jdk_65_m133_14) rfl rfl k) ?_
  show own_Go p e below (T24.setTop (mkF m 15 #[.val (.ref a1), .val (.int b), .val (.int ee), .val (.int z), .val (.ref b24)] [(.ref a1)])) _
  refine own_go (fun _ k => XS.iloadN X24.here hx rfl (hb hby d_jdk_65_m133_15) rfl k) ?_
  show own_Go p e below (T24.setTop (mkF m 16 #[.val (.ref a1), .val (.int b), .val (.int ee), .val (.int z), .val (.ref b24)] [(.int b), (.ref a1)])) _
  refine own_go (fun _ k => XS.aload X24.here hx rfl (hb hby d_jdk_65_m133_16) rfl rfl k) ?_
  show own_Go p e below (T24.setTop (mkF m 18 #[.val (.ref a1), .val (.int b), .val (.int ee), .val (.int z), .val (.ref b24)] [(.ref b24), (.int b), (.ref a1)])) _
  refine own_go (fun _ k => XS.iconst X24.here hx rfl (hb hby d_jdk_65_m133_18) k) ?_
  show own_Go p e below (T24.setTop (mkF m 19 #[.val (.ref a1), .val (.int b), .val (.int ee), .val (.int z), .val (.ref b24)] [(.int (0 : Int32)), (.ref b24), (.int b), (.ref a1)])) _
  refine own_go (fun _ k => XS.aloadN X24.here hx rfl (hb hby d_jdk_65_m133_19) rfl rfl k) ?_
  show own_Go p e below (T24.setTop (mkF m 20 #[.val (.ref a1), .val (.int b), .val (.int ee), .val (.int z), .val (.ref b24)] [(.ref a1), (.int (0 : Int32)), (.ref b24), (.int b), (.ref a1)])) _
  obtain ⟨c25, A25, q25, S25, M25, Hs25, Gs25⟩ := id (V_a1.ext E24)
  refine own_go (fun _ k => X24.arraylength hx (by rw [e24]; exact A25.1) (State.isArrayOf_alike hZ.alike A25.2.1) (g := (mkF m 20 #[.val (.ref a1), .val (.int b), .val (.int ee), .val (.int z), .val (.ref b24)] [(.ref a1), (.int (0 : Int32)), (.ref b24), (.int b), (.ref a1)])) rfl rfl (hb hby d_jdk_65_m133_20) _ k) ?_
  rw [len_of S25 M25]
  show own_Go p e below (T24.setTop (mkF m 21 #[.val (.ref a1), .val (.int b), .val (.int ee), .val (.int z), .val (.ref b24)] [(.int (7 : Int32)), (.int (0 : Int32)), (.ref b24), (.int b), (.ref a1)])) _
  refine own_go (fun _ k => XS.iloadN X24.here hx rfl (hb hby d_jdk_65_m133_21) rfl k) ?_
  show own_Go p e below (T24.setTop (mkF m 22 #[.val (.ref a1), .val (.int b), .val (.int ee), .val (.int z), .val (.ref b24)] [(.int b), (.int (7 : Int32)), (.int (0 : Int32)), (.ref b24), (.int b), (.ref a1)])) _
  refine own_go (fun _ k => XS.isub X24.here hx rfl (hb hby d_jdk_65_m133_22) rfl k) ?_
  show own_Go p e below (T24.setTop (mkF m 23 #[.val (.ref a1), .val (.int b), .val (.int ee), .val (.int z), .val (.ref b24)] [(.int ((7 : Int32) - b)), (.int (0 : Int32)), (.ref b24), (.int b), (.ref a1)])) _
  refine own_go (fun _ k => XS.iloadN X24.here hx rfl (hb hby d_jdk_65_m133_23) rfl k) ?_
  show own_Go p e below (T24.setTop (mkF m 24 #[.val (.ref a1), .val (.int b), .val (.int ee), .val (.int z), .val (.ref b24)] [(.int z), (.int ((7 : Int32) - b)), (.int (0 : Int32)), (.ref b24), (.int b), (.ref a1)])) _
  obtain ⟨v26, _, ⟨T26, L26, k26, n26⟩, -, X26, ⟨Lc26, hQ26, l26, y26, z26⟩, st26⟩ := Jvm.LawKit.callS X24 hx (y := (⟨"java/lang/Math", "min", "(II)I"⟩ : MethodName)) hown (mvT hZ (hw _ (List.mem_of_getElem? (i := 101) rfl))) (mvT hZ (hw _ (List.mem_of_getElem? (i := 102) rfl))) (mvT hZ (hw _ (List.mem_of_getElem? (i := 103) rfl))) (mvT hZ (hw _ (List.mem_of_getElem? (i := 104) rfl))) (by decide) (backOf (W := 4) (rm_min l Z a0 hw [] ((7 : Int32) - b) z z h24 n0 (O0.ext E24) r9) hZ (hw _ (List.mem_of_getElem? (i := 104) rfl)) (hw _ (List.mem_of_getElem? (i := 103) rfl)) (by decide) (by decide)) (g := (mkF m 24 #[.val (.ref a1), .val (.int b), .val (.int ee), .val (.int z), .val (.ref b24)] [(.int z), (.int ((7 : Int32) - b)), (.int (0 : Int32)), (.ref b24), (.int b), (.ref a1)])) rfl (by rw [hml]; rfl) (argsL := [(.int ((7 : Int32) - b)), (.int z)]) (rest := [(.int (0 : Int32)), (.ref b24), (.int b), (.ref a1)]) (lenOf pd_3 rfl) rfl (by show 2 * 0 + _ ≤ _; exact Nat.le_of_eq rfl) (hb hby d_jdk_65_m133_24) (fun _ _ => ⟨rfl, e24, (by decide : 1 + 0 ≤ _), (by decide : 2 + 0 ≤ _)⟩)
  dsimp only [Pt.U, Pt.locs, Pt.cells, Pt.slots] at X26 l26 y26 z26 st26 hQ26
  subst l26 y26 z26
  refine own_go st26 ?_
  obtain ⟨rfl, Nq26, e26⟩ := hQ26
  have N26 := Fr.app N23 Nq26
  show own_Go p e below (T26.setTop (mkF m 27 #[.val (.ref a1), .val (.int b), .val (.int ee), .val (.int z), .val (.ref b24)] [(.int z), (.int (0 : Int32)), (.ref b24), (.int b), (.ref a1)])) _
  obtain ⟨T27, h27, Lc27, X27, e27, N27, K27, Vc27, st27⟩ := cpA X26 hx hZ hown (hw _ (List.mem_of_getElem? (i := 105) rfl)) (hw _ (List.mem_of_getElem? (i := 108) rfl)) (hw _ (List.mem_of_getElem? (i := 106) rfl)) (hw _ (List.mem_of_getElem? (i := 107) rfl)) e26 (V_a1.ext E24) V24 (Or.inl ⟨rfl, rfl⟩) r1 (by decide) r6 r10 (by show 0 + _ ≤ _; rw [Nat.zero_add]; exact Nat.le_refl _) (us := (ds.map (fun c : Int32 => c.toInt8.toInt32)).map Value.int) hU (by show 0 + _ ≤ _; rw [Nat.zero_add, List.length_replicate]; exact Nat.le_refl _) N26 (Nat.le_trans Z0 (Nat.le_of_eq g24.symm)) (g := (mkF m 27 #[.val (.ref a1), .val (.int b), .val (.int ee), .val (.int z), .val (.ref b24)] [(.int z), (.int (0 : Int32)), (.ref b24), (.int b), (.ref a1)])) rfl (by rw [hml]; rfl) rfl (hb hby d_jdk_65_m133_27) (by decide) (W := 0) (by show 2 * 0 + _ ≤ _; exact Nat.le_of_eq rfl) (by decide)
  refine own_go st27 ?_
  have Vt27 : Arv Z h27 b24 k24 .byte z ((ds.map (fun c => c.toInt8.toInt32)).map Value.int) (.int (0 : Int32)) := by
    have q : ∀ (us : List Value), List.take (0 : Int32).toNatClampNeg (List.replicate z.toNatClampNeg (Value.int (0 : Int32))) ++ us ++ List.drop ((0 : Int32).toNatClampNeg + z.toNatClampNeg) (List.replicate z.toNatClampNeg (Value.int (0 : Int32))) = us := fun us => by
      have e0 : (0 : Int32).toNatClampNeg = 0 := rfl
      rw [e0, Nat.zero_add, List.take_zero, List.nil_append, List.drop_eq_nil_of_le (by rw [List.length_replicate]; exact Nat.le_refl _), List.append_nil]
    rw [q] at Vc27; exact Vc27
  show own_Go p e below (T27.setTop (mkF m 30 #[.val (.ref a1), .val (.int b), .val (.int ee), .val (.int z), .val (.ref b24)] [])) _
  refine own_go (fun _ k => XS.aload X27.here hx rfl (hb hby d_jdk_65_m133_30) rfl rfl k) ?_
  show own_Go p e below (T27.setTop (mkF m 32 #[.val (.ref a1), .val (.int b), .val (.int ee), .val (.int z), .val (.ref b24)] [(.ref b24)])) _
  have f28 := (((Keep.refl h0 []).ext E24).trans K27 (allS (Or.inr (Nat.le_of_eq g24.symm)) all0))
  refine own_fin (v := (some (.ref b24))) X27 (fun h => by rw [hrt] at h; cases h) hlk (fun fs hr => retR X27 hx hrt (by rfl) rfl rfl (hb hby d_jdk_65_m133_32) hr) (QQ := QArr Z z ds h0 n0) ?_ (by decide) (by decide)
  rw [e27]
  exact ⟨b24, _, rfl, N27, f28, (Nat.le_of_eq g24.symm), Vt27⟩

theorem d_jdk_65_m132_0 : decode jdk_65_method_132_code 0 = .ok (.iload_n 1, 1) := by decide +kernel
theorem d_jdk_65_m132_1 : decode jdk_65_method_132_code 1 = .ok (.ifCond .ne 9, 3) := by decide +kernel
theorem d_jdk_65_m132_4 : decode jdk_65_method_132_code 4 = .ok (.iload_n 2, 1) := by decide +kernel
theorem d_jdk_65_m132_5 : decode jdk_65_method_132_code 5 = .ok (.aload_n 0, 1) := by decide +kernel
theorem d_jdk_65_m132_6 : decode jdk_65_method_132_code 6 = .ok (.arraylength, 1) := by decide +kernel
theorem d_jdk_65_m132_7 : decode jdk_65_method_132_code 7 = .ok (.if_icmp .eq 10, 3) := by decide +kernel
theorem d_jdk_65_m132_10 : decode jdk_65_method_132_code 10 = .ok (.aload_n 0, 1) := by decide +kernel
theorem d_jdk_65_m132_11 : decode jdk_65_method_132_code 11 = .ok (.iload_n 1, 1) := by decide +kernel
theorem d_jdk_65_m132_12 : decode jdk_65_method_132_code 12 = .ok (.iload_n 2, 1) := by decide +kernel
theorem d_jdk_65_m132_13 : decode jdk_65_method_132_code 13 = .ok (.invokestatic 339, 3) := by decide +kernel
theorem pd_4 : parseMethodDescriptor "([BII)[B" = some ⟨[(.array .byte), .int, .int], some (.array .byte)⟩ := by decide +kernel
theorem d_jdk_65_m132_16 : decode jdk_65_method_132_code 16 = .ok (.areturn, 1) := by decide +kernel
theorem ef_rm_cor (m : MethodId) (x0 : Addr) (x1 : Int32) (x2 : Int32) : entryFrame m #[(.ref x0), (.int x1), (.int x2)] 3 = mkF m 0 #[.val (.ref x0), .val (.int x1), .val (.int x2)] [] := by
   first | (simp [entryFrame, mkF, argsToLocals, Value.category]; done) | rfl
set_option maxRecDepth 65536 in
set_option maxHeartbeats 40000000 in
theorem rm_cor (l : Launch) (Z : State) (a0 : Array Value) (hw : ∀ d ∈ tables_1, d.before a0 Z = true) (ws : List Jvm.Cond) (a1 : Addr) (k1 : ClassId) (c0 : Int32) (c1 : Int32) (c2 : Int32) (c3 : Int32) (c4 : Int32) (c5 : Int32) (c6 : Int32) (b : Int32) (ee : Int32) (z : Int32) (ds : List Int32) (h0 : Heap) (n0 : Nat) (O0 : Old Z n0 h0) (V_a1 : Arv Z h0 a1 k1 .byte (7 : Int32) ((([c0, c1, c2, c3, c4, c5, c6] : List Int32).map (fun c => c.toInt8.toInt32)).map Value.int) (.int (0 : Int32))) (hR : own_R b ee z) (hU : own_U ds b z ((([c0, c1, c2, c3, c4, c5, c6] : List Int32).map (fun c => c.toInt8.toInt32)).map Value.int)) :
    MetFree l (⟨"java/util/Arrays", "copyOfRange", "([BII)[B"⟩ : MethodName) (head1 (Jvm.Cond.code (⟨"java/util/Arrays", "copyOfRange", "([BII)[B"⟩ : MethodName) jdk_65_method_132_code 3 (some (.array .byte)) :: ws) ({ frames := 2, cells := 1, slots := 2, locals := 34 } : Room)) (fun a U => a = #[(.ref a1), (.int b), (.int ee)] ∧ Z.Warmed39 U.vm ∧ U.heap = h0) (fun _ _ _ _ _ => True) (fun _ U o U' => ∃ v L, o = .returned v ∧ QArr Z z ds h0 n0 v U'.heap L ∧ FrameEnd U o U' L 1 2) := by
  refine MetFree.of_bodySF (plainFor_of_name pn_4) hisR ?_
  intro p e s m args below meth c s₁ Bd hml0 hP hK
  obtain ⟨rfl, hZ, hh⟩ := hP
  have hx := Bd.exec
  have hby := Bd.bytes
  have hml : c.maxLocals = 3 := hml0
  have hown : s.vm.findClass "java/util/Arrays" = some m.cls := findClass_of_methodNamed Bd.named
  have hnm := (name_of_methodNamed Bd.named Bd.method).1
  have hrt := Bd.returns
  have hlk : meth.locks = false := Bd.notSynchronized
  have X0 : Stand p l e ({ frames := 2, cells := 1, slots := 2, locals := 34 } : Room) s m #[(.ref a1), (.int b), (.int ee)] below meth c s₁ [] 0 0 := Stand.of_body Bd
  have e0 : s₁.heap = h0 := by rw [← hh, Bd.state]; rfl
  have N0 := Fr.nil n0
  have Z0 : n0 ≤ h0.size := O0.1 ▸ O0.2.1
  show own_Go p e below (s₁.setTop (entryFrame m #[(.ref a1), (.int b), (.int ee)] 3)) (fun o U' => ∃ v L, o = .returned v ∧ QArr Z z ds h0 n0 v U'.heap L ∧ FrameEnd s o U' L 1 2)
  refine own_go (fun _ k => castTop (ef_rm_cor m a1 b ee) k) ?_
  obtain ⟨⟨r1, r2, r3⟩, ⟨r4, r5⟩, ⟨r6, r7, r8⟩, r9, r10, r11⟩ := id hR
  show own_Go p e below (s₁.setTop (mkF m 0 #[.val (.ref a1), .val (.int b), .val (.int ee)] [])) _
  refine own_go (fun _ k => XS.iloadN X0.here hx rfl (hb hby d_jdk_65_m132_0) rfl k) ?_
  show own_Go p e below (s₁.setTop (mkF m 1 #[.val (.ref a1), .val (.int b), .val (.int ee)] [(.int b)])) _
  by_cases hc29 : b = (0 : Int32)
  · skip
    refine own_go (fun _ k => XS.ifNo X0.here hx rfl (hb hby d_jdk_65_m132_1) rfl ((if0 _ _).trans (teq hc29).2) k) ?_
    show own_Go p e below (s₁.setTop (mkF m 4 #[.val (.ref a1), .val (.int b), .val (.int ee)] [])) _
    refine own_go (fun _ k => XS.iloadN X0.here hx rfl (hb hby d_jdk_65_m132_4) rfl k) ?_
    show own_Go p e below (s₁.setTop (mkF m 5 #[.val (.ref a1), .val (.int b), .val (.int ee)] [(.int ee)])) _
    refine own_go (fun _ k => XS.aloadN X0.here hx rfl (hb hby d_jdk_65_m132_5) rfl rfl k) ?_
    show own_Go p e below (s₁.setTop (mkF m 6 #[.val (.ref a1), .val (.int b), .val (.int ee)] [(.ref a1), (.int ee)])) _
    obtain ⟨c30, A30, q30, S30, M30, Hs30, Gs30⟩ := id V_a1
    refine own_go (fun _ k => X0.arraylength hx (by rw [e0]; exact A30.1) (State.isArrayOf_alike hZ.alike A30.2.1) (g := (mkF m 6 #[.val (.ref a1), .val (.int b), .val (.int ee)] [(.ref a1), (.int ee)])) rfl rfl (hb hby d_jdk_65_m132_6) _ k) ?_
    rw [len_of S30 M30]
    show own_Go p e below (s₁.setTop (mkF m 7 #[.val (.ref a1), .val (.int b), .val (.int ee)] [(.int (7 : Int32)), (.int ee)])) _
    refine own_go (fun _ k => XS.icmpNo X0.here hx rfl (hb hby d_jdk_65_m132_7) rfl (feq r8).1 k) ?_
    show own_Go p e below (s₁.setTop (mkF m 10 #[.val (.ref a1), .val (.int b), .val (.int ee)] [])) _
    refine own_go (fun _ k => XS.aloadN X0.here hx rfl (hb hby d_jdk_65_m132_10) rfl rfl k) ?_
    show own_Go p e below (s₁.setTop (mkF m 11 #[.val (.ref a1), .val (.int b), .val (.int ee)] [(.ref a1)])) _
    refine own_go (fun _ k => XS.iloadN X0.here hx rfl (hb hby d_jdk_65_m132_11) rfl k) ?_
    show own_Go p e below (s₁.setTop (mkF m 12 #[.val (.ref a1), .val (.int b), .val (.int ee)] [(.int b), (.ref a1)])) _
    refine own_go (fun _ k => XS.iloadN X0.here hx rfl (hb hby d_jdk_65_m132_12) rfl k) ?_
    show own_Go p e below (s₁.setTop (mkF m 13 #[.val (.ref a1), .val (.int b), .val (.int ee)] [(.int ee), (.int b), (.ref a1)])) _
    obtain ⟨v31, _, ⟨T31, L31, k31, n31⟩, -, X31, ⟨Lc31, hQ31, l31, y31, z31⟩, st31⟩ := Jvm.LawKit.callS X0 hx (y := (⟨"java/util/Arrays", "copyOfRangeByte", "([BII)[B"⟩ : MethodName)) hown (mvT hZ (hw _ (List.mem_of_getElem? (i := 95) rfl))) (mvT hZ (hw _ (List.mem_of_getElem? (i := 96) rfl))) (mvT hZ (hw _ (List.mem_of_getElem? (i := 93) rfl))) (mvT hZ (hw _ (List.mem_of_getElem? (i := 97) rfl))) (by decide) (backOf (W := 0) (rm_corb l Z a0 hw [] a1 k1 (c0) (c1) (c2) (c3) (c4) (c5) (c6) b ee z ds h0 n0 O0 V_a1 hR hU) hZ (hw _ (List.mem_of_getElem? (i := 97) rfl)) (hw _ (List.mem_of_getElem? (i := 93) rfl)) (by decide) (by decide)) (g := (mkF m 13 #[.val (.ref a1), .val (.int b), .val (.int ee)] [(.int ee), (.int b), (.ref a1)])) rfl (by rw [hml]; rfl) (argsL := [(.ref a1), (.int b), (.int ee)]) (rest := []) (lenOf pd_4 rfl) rfl (by show 2 * 0 + _ ≤ _; exact Nat.le_of_eq rfl) (hb hby d_jdk_65_m132_13) (fun _ _ => ⟨rfl, e0, (by decide : 0 + 1 ≤ _), (by decide : 0 + 2 ≤ _)⟩)
    dsimp only [Pt.U, Pt.locs, Pt.cells, Pt.slots] at X31 l31 y31 z31 st31 hQ31
    subst l31 y31 z31
    refine own_go st31 ?_
    obtain ⟨t31, kt31, rfl, Nq31, K31, tg31, Vt31⟩ := hQ31
    have N31 := Fr.app N0 Nq31
    show own_Go p e below (T31.setTop (mkF m 16 #[.val (.ref a1), .val (.int b), .val (.int ee)] [(.ref t31)])) _
    have f32 := ((Keep.refl h0 []).trans K31 all0)
    refine own_fin (v := (some (.ref t31))) X31 (fun h => by rw [hrt] at h; cases h) hlk (fun fs hr => retR X31 hx hrt (by rfl) rfl rfl (hb hby d_jdk_65_m132_16) hr) (QQ := QArr Z z ds h0 n0) ?_ (by decide) (by decide)
    exact ⟨t31, _, rfl, N31, f32, tg31, Vt31⟩
  · skip
    refine own_go (fun _ k => XS.ifYes X0.here hx rfl (pc0 := 1) (pc' := 10) rfl (hb hby d_jdk_65_m132_1) rfl ((if0 _ _).trans (feq hc29).2) (by decide) (by decide) k) ?_
    show own_Go p e below (s₁.setTop (mkF m 10 #[.val (.ref a1), .val (.int b), .val (.int ee)] [])) _
    refine own_go (fun _ k => XS.aloadN X0.here hx rfl (hb hby d_jdk_65_m132_10) rfl rfl k) ?_
    show own_Go p e below (s₁.setTop (mkF m 11 #[.val (.ref a1), .val (.int b), .val (.int ee)] [(.ref a1)])) _
    refine own_go (fun _ k => XS.iloadN X0.here hx rfl (hb hby d_jdk_65_m132_11) rfl k) ?_
    show own_Go p e below (s₁.setTop (mkF m 12 #[.val (.ref a1), .val (.int b), .val (.int ee)] [(.int b), (.ref a1)])) _
    refine own_go (fun _ k => XS.iloadN X0.here hx rfl (hb hby d_jdk_65_m132_12) rfl k) ?_
    show own_Go p e below (s₁.setTop (mkF m 13 #[.val (.ref a1), .val (.int b), .val (.int ee)] [(.int ee), (.int b), (.ref a1)])) _
    obtain ⟨v33, _, ⟨T33, L33, k33, n33⟩, -, X33, ⟨Lc33, hQ33, l33, y33, z33⟩, st33⟩ := Jvm.LawKit.callS X0 hx (y := (⟨"java/util/Arrays", "copyOfRangeByte", "([BII)[B"⟩ : MethodName)) hown (mvT hZ (hw _ (List.mem_of_getElem? (i := 95) rfl))) (mvT hZ (hw _ (List.mem_of_getElem? (i := 96) rfl))) (mvT hZ (hw _ (List.mem_of_getElem? (i := 93) rfl))) (mvT hZ (hw _ (List.mem_of_getElem? (i := 97) rfl))) (by decide) (backOf (W := 0) (rm_corb l Z a0 hw [] a1 k1 (c0) (c1) (c2) (c3) (c4) (c5) (c6) b ee z ds h0 n0 O0 V_a1 hR hU) hZ (hw _ (List.mem_of_getElem? (i := 97) rfl)) (hw _ (List.mem_of_getElem? (i := 93) rfl)) (by decide) (by decide)) (g := (mkF m 13 #[.val (.ref a1), .val (.int b), .val (.int ee)] [(.int ee), (.int b), (.ref a1)])) rfl (by rw [hml]; rfl) (argsL := [(.ref a1), (.int b), (.int ee)]) (rest := []) (lenOf pd_4 rfl) rfl (by show 2 * 0 + _ ≤ _; exact Nat.le_of_eq rfl) (hb hby d_jdk_65_m132_13) (fun _ _ => ⟨rfl, e0, (by decide : 0 + 1 ≤ _), (by decide : 0 + 2 ≤ _)⟩)
    dsimp only [Pt.U, Pt.locs, Pt.cells, Pt.slots] at X33 l33 y33 z33 st33 hQ33
    subst l33 y33 z33
    refine own_go st33 ?_
    obtain ⟨t33, kt33, rfl, Nq33, K33, tg33, Vt33⟩ := hQ33
    have N33 := Fr.app N0 Nq33
    show own_Go p e below (T33.setTop (mkF m 16 #[.val (.ref a1), .val (.int b), .val (.int ee)] [(.ref t33)])) _
    have f34 := ((Keep.refl h0 []).trans K33 all0)
    refine own_fin (v := (some (.ref t33))) X33 (fun h => by rw [hrt] at h; cases h) hlk (fun fs hr => retR X33 hx hrt (by rfl) rfl rfl (hb hby d_jdk_65_m132_16) hr) (QQ := QArr Z z ds h0 n0) ?_ (by decide) (by decide)
    exact ⟨t33, _, rfl, N33, f34, tg33, Vt33⟩

theorem d_jdk_43_m47_0 : decode jdk_43_method_47_code 0 = .ok (.iload_n 2, 1) := by decide +kernel
theorem d_jdk_43_m47_1 : decode jdk_43_method_47_code 1 = .ok (.ifCond .ne 6, 3) := by decide +kernel
theorem d_jdk_43_m47_7 : decode jdk_43_method_47_code 7 = .ok (.new 1, 3) := by decide +kernel
theorem d_jdk_43_m47_10 : decode jdk_43_method_47_code 10 = .ok (.dup, 1) := by decide +kernel
theorem d_jdk_43_m47_11 : decode jdk_43_method_47_code 11 = .ok (.aload_n 0, 1) := by decide +kernel
theorem d_jdk_43_m47_12 : decode jdk_43_method_47_code 12 = .ok (.iload_n 1, 1) := by decide +kernel
theorem d_jdk_43_m47_13 : decode jdk_43_method_47_code 13 = .ok (.iload_n 1, 1) := by decide +kernel
theorem d_jdk_43_m47_14 : decode jdk_43_method_47_code 14 = .ok (.iload_n 2, 1) := by decide +kernel
theorem d_jdk_43_m47_15 : decode jdk_43_method_47_code 15 = .ok (.iadd, 1) := by decide +kernel
theorem d_jdk_43_m47_16 : decode jdk_43_method_47_code 16 = .ok (.invokestatic 232, 3) := by decide +kernel
theorem d_jdk_43_m47_19 : decode jdk_43_method_47_code 19 = .ok (.iconst 0, 1) := by decide +kernel
theorem d_jdk_43_m47_20 : decode jdk_43_method_47_code 20 = .ok (.invokespecial 112, 3) := by decide +kernel
theorem pd_5 : parseMethodDescriptor "([BB)V" = some ⟨[(.array .byte), .byte], none⟩ := by decide +kernel
theorem d_jdk_43_m47_23 : decode jdk_43_method_47_code 23 = .ok (.areturn, 1) := by decide +kernel
theorem pn_5 : plainName "java/lang/StringLatin1" = true := by first | (simp [plainName, overriddenIn]; done) | decide +kernel
theorem ef_rm_new (m : MethodId) (x0 : Addr) (x1 : Int32) (x2 : Int32) : entryFrame m #[(.ref x0), (.int x1), (.int x2)] 3 = mkF m 0 #[.val (.ref x0), .val (.int x1), .val (.int x2)] [] := by
   first | (simp [entryFrame, mkF, argsToLocals, Value.category]; done) | rfl
set_option maxRecDepth 65536 in
set_option maxHeartbeats 40000000 in
theorem rm_new (l : Launch) (Z : State) (a0 : Array Value) (hw : ∀ d ∈ tables_1, d.before a0 Z = true) (ws : List Jvm.Cond) (a1 : Addr) (k1 : ClassId) (c0 : Int32) (c1 : Int32) (c2 : Int32) (c3 : Int32) (c4 : Int32) (c5 : Int32) (c6 : Int32) (b : Int32) (ee : Int32) (z : Int32) (ds : List Int32) (h0 : Heap) (n0 : Nat) (O0 : Old Z n0 h0) (V_a1 : Arv Z h0 a1 k1 .byte (7 : Int32) ((([c0, c1, c2, c3, c4, c5, c6] : List Int32).map (fun c => c.toInt8.toInt32)).map Value.int) (.int (0 : Int32))) (hR : own_R b ee z) (hU : own_U ds b z ((([c0, c1, c2, c3, c4, c5, c6] : List Int32).map (fun c => c.toInt8.toInt32)).map Value.int)) :
    MetFree l (⟨"java/lang/StringLatin1", "newString", "([BII)Ljava/lang/String;"⟩ : MethodName) (head1 (Jvm.Cond.code (⟨"java/lang/StringLatin1", "newString", "([BII)Ljava/lang/String;"⟩ : MethodName) jdk_43_method_47_code 3 (some (.object "java/lang/String")) :: ws) ({ frames := 3, cells := 2, slots := 6, locals := 50 } : Room)) (fun a U => a = #[(.ref a1), (.int b), (.int z)] ∧ Z.Warmed39 U.vm ∧ U.heap = h0) (fun _ _ _ _ _ => True) (fun _ U o U' => ∃ v L, o = .returned v ∧ QStr Z z ds h0 n0 v U'.heap L ∧ FrameEnd U o U' L 2 6) := by
  refine MetFree.of_bodySF (plainFor_of_name pn_5) hisR ?_
  intro p e s m args below meth c s₁ Bd hml0 hP hK
  obtain ⟨rfl, hZ, hh⟩ := hP
  have hx := Bd.exec
  have hby := Bd.bytes
  have hml : c.maxLocals = 3 := hml0
  have hown : s.vm.findClass "java/lang/StringLatin1" = some m.cls := findClass_of_methodNamed Bd.named
  have hnm := (name_of_methodNamed Bd.named Bd.method).1
  have hrt := Bd.returns
  have hlk : meth.locks = false := Bd.notSynchronized
  have X0 : Stand p l e ({ frames := 3, cells := 2, slots := 6, locals := 50 } : Room) s m #[(.ref a1), (.int b), (.int z)] below meth c s₁ [] 0 0 := Stand.of_body Bd
  have e0 : s₁.heap = h0 := by rw [← hh, Bd.state]; rfl
  have N0 := Fr.nil n0
  have Z0 : n0 ≤ h0.size := O0.1 ▸ O0.2.1
  show own_Go p e below (s₁.setTop (entryFrame m #[(.ref a1), (.int b), (.int z)] 3)) (fun o U' => ∃ v L, o = .returned v ∧ QStr Z z ds h0 n0 v U'.heap L ∧ FrameEnd s o U' L 2 6)
  refine own_go (fun _ k => castTop (ef_rm_new m a1 b z) k) ?_
  obtain ⟨⟨r1, r2, r3⟩, ⟨r4, r5⟩, ⟨r6, r7, r8⟩, r9, r10, r11⟩ := id hR
  show own_Go p e below (s₁.setTop (mkF m 0 #[.val (.ref a1), .val (.int b), .val (.int z)] [])) _
  refine own_go (fun _ k => XS.iloadN X0.here hx rfl (hb hby d_jdk_43_m47_0) rfl k) ?_
  show own_Go p e below (s₁.setTop (mkF m 1 #[.val (.ref a1), .val (.int b), .val (.int z)] [(.int z)])) _
  refine own_go (fun _ k => XS.ifYes X0.here hx rfl (pc0 := 1) (pc' := 7) rfl (hb hby d_jdk_43_m47_1) rfl ((if0 _ _).trans (feq r7).2) (by decide) (by decide) k) ?_
  show own_Go p e below (s₁.setTop (mkF m 7 #[.val (.ref a1), .val (.int b), .val (.int z)] [])) _
  obtain ⟨T35, h35, X35, e35, E35, A35, D35, U35, st35⟩ := newO X0 hx hZ hown (hw _ (List.mem_of_getElem? (i := 90) rfl)) (hw _ (List.mem_of_getElem? (i := 8) rfl)) (hw _ (List.mem_of_getElem? (i := 9) rfl)) e0 (g := (mkF m 7 #[.val (.ref a1), .val (.int b), .val (.int z)] [])) rfl (hb hby d_jdk_43_m47_7) (by decide) (by decide)
  obtain ⟨b35, g35⟩ : ∃ z, z = h0.size := ⟨_, rfl⟩
  rw [← g35] at A35 D35 U35 st35
  refine own_go st35 ?_
  have F35_coder : Fld Z h35 b35 "java/lang/String" "coder" "B" (.int (0 : Int32)) := D35 (Or.inr (hw _ (List.mem_of_getElem? (i := 33) rfl))) (ty := .byte) (by decide)
  have F35_value : Fld Z h35 b35 "java/lang/String" "value" "[B" .null := D35 (Or.inr (hw _ (List.mem_of_getElem? (i := 35) rfl))) (ty := (.array .byte)) (by decide)
  show own_Go p e below (T35.setTop (mkF m 10 #[.val (.ref a1), .val (.int b), .val (.int z)] [(.ref b35)])) _
  refine own_go (fun _ k => XS.dup X35.here hx rfl (hb hby d_jdk_43_m47_10) rfl rfl k) ?_
  show own_Go p e below (T35.setTop (mkF m 11 #[.val (.ref a1), .val (.int b), .val (.int z)] [(.ref b35), (.ref b35)])) _
  refine own_go (fun _ k => XS.aloadN X35.here hx rfl (hb hby d_jdk_43_m47_11) rfl rfl k) ?_
  show own_Go p e below (T35.setTop (mkF m 12 #[.val (.ref a1), .val (.int b), .val (.int z)] [(.ref a1), (.ref b35), (.ref b35)])) _
  refine own_go (fun _ k => XS.iloadN X35.here hx rfl (hb hby d_jdk_43_m47_12) rfl k) ?_
  show own_Go p e below (T35.setTop (mkF m 13 #[.val (.ref a1), .val (.int b), .val (.int z)] [(.int b), (.ref a1), (.ref b35), (.ref b35)])) _
  refine own_go (fun _ k => XS.iloadN X35.here hx rfl (hb hby d_jdk_43_m47_13) rfl k) ?_
  show own_Go p e below (T35.setTop (mkF m 14 #[.val (.ref a1), .val (.int b), .val (.int z)] [(.int b), (.int b), (.ref a1), (.ref b35), (.ref b35)])) _
  refine own_go (fun _ k => XS.iloadN X35.here hx rfl (hb hby d_jdk_43_m47_14) rfl k) ?_
  show own_Go p e below (T35.setTop (mkF m 15 #[.val (.ref a1), .val (.int b), .val (.int z)] [(.int z), (.int b), (.int b), (.ref a1), (.ref b35), (.ref b35)])) _
  refine own_go (fun _ k => XS.iadd X35.here hx rfl (hb hby d_jdk_43_m47_15) rfl k) ?_
  show own_Go p e below (T35.setTop (mkF m 16 #[.val (.ref a1), .val (.int b), .val (.int z)] [(.int (b + z)), (.int b), (.ref a1), (.ref b35), (.ref b35)])) _
  rw [r5]
  show own_Go p e below (T35.setTop (mkF m 16 #[.val (.ref a1), .val (.int b), .val (.int z)] [(.int ee), (.int b), (.ref a1), (.ref b35), (.ref b35)])) _
  obtain ⟨v36, _, ⟨T36, L36, k36, n36⟩, -, X36, ⟨Lc36, hQ36, l36, y36, z36⟩, st36⟩ := Jvm.LawKit.callS X35 hx (y := (⟨"java/util/Arrays", "copyOfRange", "([BII)[B"⟩ : MethodName)) hown (mvT hZ (hw _ (List.mem_of_getElem? (i := 91) rfl))) (mvT hZ (hw _ (List.mem_of_getElem? (i := 92) rfl))) (mvT hZ (hw _ (List.mem_of_getElem? (i := 93) rfl))) (mvT hZ (hw _ (List.mem_of_getElem? (i := 94) rfl))) (by decide) (backOf (W := 2) (rm_cor l Z a0 hw [] a1 k1 (c0) (c1) (c2) (c3) (c4) (c5) (c6) b ee z ds h35 n0 (O0.ext E35) (V_a1.ext E35) hR hU) hZ (hw _ (List.mem_of_getElem? (i := 94) rfl)) (hw _ (List.mem_of_getElem? (i := 93) rfl)) (by decide) (by decide)) (g := (mkF m 16 #[.val (.ref a1), .val (.int b), .val (.int z)] [(.int ee), (.int b), (.ref a1), (.ref b35), (.ref b35)])) rfl (by rw [hml]; rfl) (argsL := [(.ref a1), (.int b), (.int ee)]) (rest := [(.ref b35), (.ref b35)]) (lenOf pd_4 rfl) rfl (by show 2 * 0 + _ ≤ _; exact Nat.le_of_eq rfl) (hb hby d_jdk_43_m47_16) (fun _ _ => ⟨rfl, e35, (by decide : 1 + 1 ≤ _), (by decide : 4 + 2 ≤ _)⟩)
  dsimp only [Pt.U, Pt.locs, Pt.cells, Pt.slots] at X36 l36 y36 z36 st36 hQ36
  subst l36 y36 z36
  refine own_go st36 ?_
  obtain ⟨t36, kt36, rfl, Nq36, K36, tg36, Vt36⟩ := hQ36
  have N36 := Fr.app N0 Nq36
  show own_Go p e below (T36.setTop (mkF m 19 #[.val (.ref a1), .val (.int b), .val (.int z)] [(.ref t36), (.ref b35), (.ref b35)])) _
  refine own_go (fun _ k => XS.iconst X36.here hx rfl (hb hby d_jdk_43_m47_19) k) ?_
  show own_Go p e below (T36.setTop (mkF m 20 #[.val (.ref a1), .val (.int b), .val (.int z)] [(.int (0 : Int32)), (.ref t36), (.ref b35), (.ref b35)])) _
  have f37 := (F35_value.keep K36 nin0)
  have f38 := (F35_coder.keep K36 nin0)
  have f39 := ((O0.ext E35).keep K36 all0)
  obtain ⟨v40, _, ⟨T40, L40, k40, n40⟩, -, X40, ⟨Lc40, hQ40, l40, y40, z40⟩, st40⟩ := X36.specialBack hx (y := (⟨"java/lang/String", "<init>", "([BB)V"⟩ : MethodName)) rfl hown (mvT hZ (hw _ (List.mem_of_getElem? (i := 109) rfl))) (mvT hZ (hw _ (List.mem_of_getElem? (i := 110) rfl))) (mvT hZ (hw _ (List.mem_of_getElem? (i := 111) rfl))) (by decide) (backOf (W := 1) (rm_sbb l Z a0 hw [] b35 t36 T36.heap n0 f39 (A35.keep K36) f37 f38 (Nat.le_trans Z0 (Nat.le_of_eq g35.symm))) hZ (hw _ (List.mem_of_getElem? (i := 111) rfl)) (hw _ (List.mem_of_getElem? (i := 9) rfl)) (by decide) (by decide)) (g := (mkF m 20 #[.val (.ref a1), .val (.int b), .val (.int z)] [(.int (0 : Int32)), (.ref t36), (.ref b35), (.ref b35)])) rfl (by rw [hml]; rfl) (Steps.refl _) (a := b35) (argsL := [(.ref t36), (.int (0 : Int32))]) (rest := [(.ref b35)]) (lenOf pd_5 rfl) rfl (by show 2 * 0 + _ ≤ _; exact Nat.le_of_eq rfl) (hb hby d_jdk_43_m47_20) (fun _ _ => ⟨rfl, (rfl : T36.heap = T36.heap), (by decide : 2 + 0 ≤ _), (by decide : 6 + 0 ≤ _)⟩)
  dsimp only [Pt.U, Pt.locs, Pt.cells, Pt.slots] at X40 l40 y40 z40 st40 hQ40
  subst l40 y40 z40
  refine own_gos st40 ?_
  obtain ⟨rfl, Nq40, K40, Fv40, Fc40⟩ := hQ40
  have N40 := Fr.app N36 Nq40
  show own_Go p e below (T40.setTop (mkF m 23 #[.val (.ref a1), .val (.int b), .val (.int z)] [(.ref b35)])) _
  have f41 := ((((Keep.refl h0 []).ext E35).trans K36 all0).trans K40 (allS (Or.inr (Nat.le_of_eq g35.symm)) all0))
  have f42 := ((A35.keep K36).keep K40)
  have ne43 : b35 ≠ t36 := Nat.ne_of_lt (Nat.lt_of_lt_of_le A35.lt tg36)
  have f44 := (Vt36.keep K40 (ninS (Ne.symm ne43) nin0))
  refine own_fin (v := (some (.ref b35))) X40 (fun h => by rw [hrt] at h; cases h) hlk (fun fs hr => retR X40 hx hrt (by rfl) rfl rfl (hb hby d_jdk_43_m47_23) hr) (QQ := QStr Z z ds h0 n0) ?_ (by decide) (by decide)
  exact ⟨b35, t36, _, rfl, N40, f41, (Nat.le_of_eq g35.symm), (Nat.le_trans E35.1 tg36), f42, Fv40, Fc40, f44⟩

theorem d_jdk_42_m92_0 : decode jdk_42_method_92_code 0 = .ok (.aload_n 0, 1) := by decide +kernel
theorem d_jdk_42_m92_1 : decode jdk_42_method_92_code 1 = .ok (.invokevirtual 505, 3) := by decide +kernel
theorem pd_6 : parseMethodDescriptor "()I" = some ⟨[], some .int⟩ := by decide +kernel
theorem d_jdk_42_m92_4 : decode jdk_42_method_92_code 4 = .ok (.istore_n 3, 1) := by decide +kernel
theorem d_jdk_42_m92_5 : decode jdk_42_method_92_code 5 = .ok (.iload_n 1, 1) := by decide +kernel
theorem d_jdk_42_m92_6 : decode jdk_42_method_92_code 6 = .ok (.iload_n 2, 1) := by decide +kernel
theorem d_jdk_42_m92_7 : decode jdk_42_method_92_code 7 = .ok (.iload_n 3, 1) := by decide +kernel
theorem d_jdk_42_m92_8 : decode jdk_42_method_92_code 8 = .ok (.invokestatic 521, 3) := by decide +kernel
theorem pd_7 : parseMethodDescriptor "(III)V" = some ⟨[.int, .int, .int], none⟩ := by decide +kernel
theorem d_jdk_42_m92_11 : decode jdk_42_method_92_code 11 = .ok (.iload_n 1, 1) := by decide +kernel
theorem d_jdk_42_m92_12 : decode jdk_42_method_92_code 12 = .ok (.ifCond .ne 10, 3) := by decide +kernel
theorem d_jdk_42_m92_15 : decode jdk_42_method_92_code 15 = .ok (.iload_n 2, 1) := by decide +kernel
theorem d_jdk_42_m92_16 : decode jdk_42_method_92_code 16 = .ok (.iload_n 3, 1) := by decide +kernel
theorem d_jdk_42_m92_17 : decode jdk_42_method_92_code 17 = .ok (.if_icmp .ne 5, 3) := by decide +kernel
theorem d_jdk_42_m92_22 : decode jdk_42_method_92_code 22 = .ok (.iload_n 2, 1) := by decide +kernel
theorem d_jdk_42_m92_23 : decode jdk_42_method_92_code 23 = .ok (.iload_n 1, 1) := by decide +kernel
theorem d_jdk_42_m92_24 : decode jdk_42_method_92_code 24 = .ok (.isub, 1) := by decide +kernel
theorem d_jdk_42_m92_25 : decode jdk_42_method_92_code 25 = .ok (.istore 4, 2) := by decide +kernel
theorem d_jdk_42_m92_27 : decode jdk_42_method_92_code 27 = .ok (.aload_n 0, 1) := by decide +kernel
theorem d_jdk_42_m92_28 : decode jdk_42_method_92_code 28 = .ok (.invokevirtual 492, 3) := by decide +kernel
theorem pd_8 : parseMethodDescriptor "()Z" = some ⟨[], some .boolean⟩ := by decide +kernel
theorem d_jdk_42_m92_31 : decode jdk_42_method_92_code 31 = .ok (.ifCond .eq 16, 3) := by decide +kernel
theorem d_jdk_42_m92_34 : decode jdk_42_method_92_code 34 = .ok (.aload_n 0, 1) := by decide +kernel
theorem d_jdk_42_m92_35 : decode jdk_42_method_92_code 35 = .ok (.getfield 9, 3) := by decide +kernel
theorem d_jdk_42_m92_38 : decode jdk_42_method_92_code 38 = .ok (.iload_n 1, 1) := by decide +kernel
theorem d_jdk_42_m92_39 : decode jdk_42_method_92_code 39 = .ok (.iload 4, 2) := by decide +kernel
theorem d_jdk_42_m92_41 : decode jdk_42_method_92_code 41 = .ok (.invokestatic 685, 3) := by decide +kernel
theorem pd_9 : parseMethodDescriptor "([BII)Ljava/lang/String;" = some ⟨[(.array .byte), .int, .int], some (.object "java/lang/String")⟩ := by decide +kernel
theorem d_jdk_42_m92_44 : decode jdk_42_method_92_code 44 = .ok (.goto 13, 3) := by decide +kernel
theorem d_jdk_42_m92_57 : decode jdk_42_method_92_code 57 = .ok (.areturn, 1) := by decide +kernel
theorem ef_rm_sub (m : MethodId) (x0 : Addr) (x1 : Int32) (x2 : Int32) : entryFrame m #[(.ref x0), (.int x1), (.int x2)] 5 = mkF m 0 #[.val (.ref x0), .val (.int x1), .val (.int x2), .unset, .unset] [] := by
   first | (simp [entryFrame, mkF, argsToLocals, Value.category]; done) | rfl
set_option maxRecDepth 65536 in
set_option maxHeartbeats 40000000 in
theorem rm_sub (l : Launch) (Z : State) (a0 : Array Value) (hw : ∀ d ∈ tables_1, d.before a0 Z = true) (ws : List Jvm.Cond) (a1 : Addr) (a2 : Addr) (k2 : ClassId) (G1 : Int32) (G3 : Value) (c0 : Int32) (c1 : Int32) (c2 : Int32) (c3 : Int32) (c4 : Int32) (c5 : Int32) (c6 : Int32) (b : Int32) (ee : Int32) (z : Int32) (ds : List Int32) (h0 : Heap) (n0 : Nat) (O0 : Old Z n0 h0) (E_a1 : Exa Z h0 a1 "java/lang/String") (Fv_a1 : Fld Z h0 a1 "java/lang/String" "value" "[B" (.ref a2)) (Fc_a1 : Fld Z h0 a1 "java/lang/String" "coder" "B" (.int (0 : Int32))) (V_a2 : Arv Z h0 a2 k2 .byte (7 : Int32) ((([c0, c1, c2, c3, c4, c5, c6] : List Int32).map (fun c => c.toInt8.toInt32)).map Value.int) (.int (0 : Int32))) (hp_a1 : ∀ c ∈ ([c0, c1, c2, c3, c4, c5, c6] : List Int32), ¬ c < 0 ∧ ¬ (255 : Int32) < c) (O2 : Sta Z Z.heap "java/lang/String" "COMPACT_STRINGS" "Z" (.int G1)) (P5 : ¬ (G1 = (0 : Int32))) (O4 : Sta Z Z.heap "jdk/internal/util/Preconditions" "SIOOBE_FORMATTER" "Ljava/util/function/BiFunction;" G3) (rG3 : G3.isRef = true) (hR : own_R b ee z) (hU : own_U ds b z ((([c0, c1, c2, c3, c4, c5, c6] : List Int32).map (fun c => c.toInt8.toInt32)).map Value.int)) :
    MetFree l (⟨"java/lang/String", "substring", "(II)Ljava/lang/String;"⟩ : MethodName) (head1 (Jvm.Cond.code (⟨"java/lang/String", "substring", "(II)Ljava/lang/String;"⟩ : MethodName) jdk_42_method_92_code 5 (some (.object "java/lang/String")) :: ws) ({ frames := 4, cells := 2, slots := 6, locals := 64 } : Room)) (fun a U => a = #[(.ref a1), (.int b), (.int ee)] ∧ Z.Warmed39 U.vm ∧ U.heap = h0) (fun _ _ _ _ _ => True) (fun _ U o U' => ∃ v L, o = .returned v ∧ QStr Z z ds h0 n0 v U'.heap L ∧ FrameEnd U o U' L 2 6) := by
  refine MetFree.of_bodySF (plainFor_of_name pn_3) hisR ?_
  intro p e s m args below meth c s₁ Bd hml0 hP hK
  obtain ⟨rfl, hZ, hh⟩ := hP
  have hx := Bd.exec
  have hby := Bd.bytes
  have hml : c.maxLocals = 5 := hml0
  have hown : s.vm.findClass "java/lang/String" = some m.cls := findClass_of_methodNamed Bd.named
  have hnm := (name_of_methodNamed Bd.named Bd.method).1
  have hrt := Bd.returns
  have hlk : meth.locks = false := Bd.notSynchronized
  have X0 : Stand p l e ({ frames := 4, cells := 2, slots := 6, locals := 64 } : Room) s m #[(.ref a1), (.int b), (.int ee)] below meth c s₁ [] 0 0 := Stand.of_body Bd
  have e0 : s₁.heap = h0 := by rw [← hh, Bd.state]; rfl
  have N0 := Fr.nil n0
  have Z0 : n0 ≤ h0.size := O0.1 ▸ O0.2.1
  show own_Go p e below (s₁.setTop (entryFrame m #[(.ref a1), (.int b), (.int ee)] 5)) (fun o U' => ∃ v L, o = .returned v ∧ QStr Z z ds h0 n0 v U'.heap L ∧ FrameEnd s o U' L 2 6)
  refine own_go (fun _ k => castTop (ef_rm_sub m a1 b ee) k) ?_
  obtain ⟨⟨r1, r2, r3⟩, ⟨r4, r5⟩, ⟨r6, r7, r8⟩, r9, r10, r11⟩ := id hR
  show own_Go p e below (s₁.setTop (mkF m 0 #[.val (.ref a1), .val (.int b), .val (.int ee), .unset, .unset] [])) _
  refine own_go (fun _ k => XS.aloadN X0.here hx rfl (hb hby d_jdk_42_m92_0) rfl rfl k) ?_
  show own_Go p e below (s₁.setTop (mkF m 1 #[.val (.ref a1), .val (.int b), .val (.int ee), .unset, .unset] [(.ref a1)])) _
  have hcd45 : StrChars.Road.CodA ([c0, c1, c2, c3, c4, c5, c6] : List Int32) 0 (7 : Int32) (((([c0, c1, c2, c3, c4, c5, c6] : List Int32)).map (fun c => c.toInt8.toInt32)).map Value.int) := StrChars.Road.codOf (n := 7) rfl (fun x hx => (hp_a1 x hx).2)
  have hbd45 := own_up _ hp_a1
  obtain ⟨cq46, kq46, q46a, q46b, q46c⟩ := isOf hZ e0 E_a1
  obtain ⟨v46, _, ⟨T46, L46, k46, n46⟩, -, X46, ⟨Lc46, hQ46, l46, y46, z46⟩, st46⟩ := X0.virtualBack hx (y := (⟨"java/lang/String", "length", "()I"⟩ : MethodName)) (z := (⟨"java/lang/String", "length", "()I"⟩ : MethodName)) hown (mvT hZ (hw _ (List.mem_of_getElem? (i := 63) rfl))) (mvT hZ (hw _ (List.mem_of_getElem? (i := 64) rfl))) (notFace_of_selects (args := #[]) (mvT hZ (hw _ (List.mem_of_getElem? (i := 66) rfl)))) (mvT hZ (hw _ (List.mem_of_getElem? (i := 66) rfl))) (mvT hZ (hw _ (List.mem_of_getElem? (i := 65) rfl))) (by decide) (StrChars.Road.lenW (W := 0) hZ (own_wLen hw) (kI := 4) (hw _ (List.mem_of_getElem? (i := 8) rfl)) E_a1 Fv_a1 Fc_a1 V_a2 hcd45 hbd45 (O2.ext O0.2) P5 (Nat.le_of_ble_eq_true rfl) (by decide) (by decide)) q46a q46c (g := (mkF m 1 #[.val (.ref a1), .val (.int b), .val (.int ee), .unset, .unset] [(.ref a1)])) rfl (by rw [hml]; rfl) (Steps.refl _) (argsL := []) (rest := []) (lenOf pd_6 rfl) rfl (by show 2 * 0 + _ ≤ _; exact Nat.le_of_eq rfl) (hb hby d_jdk_42_m92_1) (fun _ _ => ⟨rfl, e0, (by decide : 0 + 0 ≤ _), (by decide : 0 + 0 ≤ _)⟩)
  dsimp only [Pt.U, Pt.locs, Pt.cells, Pt.slots] at X46 l46 y46 z46 st46 hQ46
  subst l46 y46 z46
  refine own_gos st46 ?_
  obtain ⟨rfl, rfl, e46⟩ := hQ46
  have Nq46 : Fr n0 ([] : List Loc) := Fr.nil n0
  have N46 := Fr.app N0 Nq46
  show own_Go p e below (T46.setTop (mkF m 4 #[.val (.ref a1), .val (.int b), .val (.int ee), .unset, .unset] [(.int (7 : Int32))])) _
  refine own_go (fun _ k => XS.istoreN X46.here hx rfl (hb hby d_jdk_42_m92_4) rfl (l' := #[.val (.ref a1), .val (.int b), .val (.int ee), .val (.int (7 : Int32)), .unset]) rfl k) ?_
  show own_Go p e below (T46.setTop (mkF m 5 #[.val (.ref a1), .val (.int b), .val (.int ee), .val (.int (7 : Int32)), .unset] [])) _
  refine own_go (fun _ k => XS.iloadN X46.here hx rfl (hb hby d_jdk_42_m92_5) rfl k) ?_
  show own_Go p e below (T46.setTop (mkF m 6 #[.val (.ref a1), .val (.int b), .val (.int ee), .val (.int (7 : Int32)), .unset] [(.int b)])) _
  refine own_go (fun _ k => XS.iloadN X46.here hx rfl (hb hby d_jdk_42_m92_6) rfl k) ?_
  show own_Go p e below (T46.setTop (mkF m 7 #[.val (.ref a1), .val (.int b), .val (.int ee), .val (.int (7 : Int32)), .unset] [(.int ee), (.int b)])) _
  refine own_go (fun _ k => XS.iloadN X46.here hx rfl (hb hby d_jdk_42_m92_7) rfl k) ?_
  show own_Go p e below (T46.setTop (mkF m 8 #[.val (.ref a1), .val (.int b), .val (.int ee), .val (.int (7 : Int32)), .unset] [(.int (7 : Int32)), (.int ee), (.int b)])) _
  obtain ⟨v47, _, ⟨T47, L47, k47, n47⟩, -, X47, ⟨Lc47, hQ47, l47, y47, z47⟩, st47⟩ := Jvm.LawKit.callS X46 hx (y := (⟨"java/lang/String", "checkBoundsBeginEnd", "(III)V"⟩ : MethodName)) hown (mvT hZ (hw _ (List.mem_of_getElem? (i := 73) rfl))) (mvT hZ (hw _ (List.mem_of_getElem? (i := 74) rfl))) (mvT hZ (hw _ (List.mem_of_getElem? (i := 9) rfl))) (mvT hZ (hw _ (List.mem_of_getElem? (i := 75) rfl))) (by decide) (backOf (W := 0) (rm_cbe l Z a0 hw [] b ee (7 : Int32) G3 h0 n0 O0 O4 rG3 r1 r2 r3) hZ (hw _ (List.mem_of_getElem? (i := 75) rfl)) (hw _ (List.mem_of_getElem? (i := 9) rfl)) (by decide) (by decide)) (g := (mkF m 8 #[.val (.ref a1), .val (.int b), .val (.int ee), .val (.int (7 : Int32)), .unset] [(.int (7 : Int32)), (.int ee), (.int b)])) rfl (by rw [hml]; rfl) (argsL := [(.int b), (.int ee), (.int (7 : Int32))]) (rest := []) (lenOf pd_7 rfl) rfl (by show 2 * 0 + _ ≤ _; exact Nat.le_of_eq rfl) (hb hby d_jdk_42_m92_8) (fun _ _ => ⟨rfl, e46, (by decide : 0 + 0 ≤ _), (by decide : 0 + 0 ≤ _)⟩)
  dsimp only [Pt.U, Pt.locs, Pt.cells, Pt.slots] at X47 l47 y47 z47 st47 hQ47
  subst l47 y47 z47
  refine own_go st47 ?_
  obtain ⟨rfl, Nq47, e47⟩ := hQ47
  have N47 := Fr.app N46 Nq47
  show own_Go p e below (T47.setTop (mkF m 11 #[.val (.ref a1), .val (.int b), .val (.int ee), .val (.int (7 : Int32)), .unset] [])) _
  refine own_go (fun _ k => XS.iloadN X47.here hx rfl (hb hby d_jdk_42_m92_11) rfl k) ?_
  show own_Go p e below (T47.setTop (mkF m 12 #[.val (.ref a1), .val (.int b), .val (.int ee), .val (.int (7 : Int32)), .unset] [(.int b)])) _
  by_cases hc48 : b = (0 : Int32)
  · skip
    refine own_go (fun _ k => XS.ifNo X47.here hx rfl (hb hby d_jdk_42_m92_12) rfl ((if0 _ _).trans (teq hc48).2) k) ?_
    show own_Go p e below (T47.setTop (mkF m 15 #[.val (.ref a1), .val (.int b), .val (.int ee), .val (.int (7 : Int32)), .unset] [])) _
    refine own_go (fun _ k => XS.iloadN X47.here hx rfl (hb hby d_jdk_42_m92_15) rfl k) ?_
    show own_Go p e below (T47.setTop (mkF m 16 #[.val (.ref a1), .val (.int b), .val (.int ee), .val (.int (7 : Int32)), .unset] [(.int ee)])) _
    refine own_go (fun _ k => XS.iloadN X47.here hx rfl (hb hby d_jdk_42_m92_16) rfl k) ?_
    show own_Go p e below (T47.setTop (mkF m 17 #[.val (.ref a1), .val (.int b), .val (.int ee), .val (.int (7 : Int32)), .unset] [(.int (7 : Int32)), (.int ee)])) _
    refine own_go (fun _ k => XS.icmpYes X47.here hx rfl (pc0 := 17) (pc' := 22) rfl (hb hby d_jdk_42_m92_17) rfl (feq r8).2 (by decide) (by decide) k) ?_
    show own_Go p e below (T47.setTop (mkF m 22 #[.val (.ref a1), .val (.int b), .val (.int ee), .val (.int (7 : Int32)), .unset] [])) _
    refine own_go (fun _ k => XS.iloadN X47.here hx rfl (hb hby d_jdk_42_m92_22) rfl k) ?_
    show own_Go p e below (T47.setTop (mkF m 23 #[.val (.ref a1), .val (.int b), .val (.int ee), .val (.int (7 : Int32)), .unset] [(.int ee)])) _
    refine own_go (fun _ k => XS.iloadN X47.here hx rfl (hb hby d_jdk_42_m92_23) rfl k) ?_
    show own_Go p e below (T47.setTop (mkF m 24 #[.val (.ref a1), .val (.int b), .val (.int ee), .val (.int (7 : Int32)), .unset] [(.int b), (.int ee)])) _
    refine own_go (fun _ k => XS.isub X47.here hx rfl (hb hby d_jdk_42_m92_24) rfl k) ?_
    show own_Go p e below (T47.setTop (mkF m 25 #[.val (.ref a1), .val (.int b), .val (.int ee), .val (.int (7 : Int32)), .unset] [(.int (ee - b))])) _
    rw [r4]
    show own_Go p e below (T47.setTop (mkF m 25 #[.val (.ref a1), .val (.int b), .val (.int ee), .val (.int (7 : Int32)), .unset] [(.int z)])) _
    refine own_go (fun _ k => XS.istore X47.here hx rfl (hb hby d_jdk_42_m92_25) rfl (l' := #[.val (.ref a1), .val (.int b), .val (.int ee), .val (.int (7 : Int32)), .val (.int z)]) rfl k) ?_
    show own_Go p e below (T47.setTop (mkF m 27 #[.val (.ref a1), .val (.int b), .val (.int ee), .val (.int (7 : Int32)), .val (.int z)] [])) _
    refine own_go (fun _ k => XS.aloadN X47.here hx rfl (hb hby d_jdk_42_m92_27) rfl rfl k) ?_
    show own_Go p e below (T47.setTop (mkF m 28 #[.val (.ref a1), .val (.int b), .val (.int ee), .val (.int (7 : Int32)), .val (.int z)] [(.ref a1)])) _
    obtain ⟨cq49, kq49, q49a, q49b, q49c⟩ := isOf hZ e47 E_a1
    obtain ⟨v49, _, ⟨T49, L49, k49, n49⟩, -, X49, ⟨Lc49, hQ49, l49, y49, z49⟩, st49⟩ := X47.virtualBack hx (y := (⟨"java/lang/String", "isLatin1", "()Z"⟩ : MethodName)) (z := (⟨"java/lang/String", "isLatin1", "()Z"⟩ : MethodName)) hown (mvT hZ (hw _ (List.mem_of_getElem? (i := 81) rfl))) (mvT hZ (hw _ (List.mem_of_getElem? (i := 82) rfl))) (notFace_of_selects (args := #[]) (mvT hZ (hw _ (List.mem_of_getElem? (i := 84) rfl)))) (mvT hZ (hw _ (List.mem_of_getElem? (i := 84) rfl))) (mvT hZ (hw _ (List.mem_of_getElem? (i := 83) rfl))) (by decide) (backOf (W := 0) (rm_lat l Z a0 hw [] a1 G1 h0 n0 O0 E_a1 Fc_a1 O2 P5) hZ (hw _ (List.mem_of_getElem? (i := 85) rfl)) (hw _ (List.mem_of_getElem? (i := 9) rfl)) (by decide) (by decide)) q49a q49c (g := (mkF m 28 #[.val (.ref a1), .val (.int b), .val (.int ee), .val (.int (7 : Int32)), .val (.int z)] [(.ref a1)])) rfl (by rw [hml]; rfl) (Steps.refl _) (argsL := []) (rest := []) (lenOf pd_8 rfl) rfl (by show 2 * 0 + _ ≤ _; exact Nat.le_of_eq rfl) (hb hby d_jdk_42_m92_28) (fun _ _ => ⟨rfl, e47, (by decide : 0 + 0 ≤ _), (by decide : 0 + 0 ≤ _)⟩)
    dsimp only [Pt.U, Pt.locs, Pt.cells, Pt.slots] at X49 l49 y49 z49 st49 hQ49
    subst l49 y49 z49
    refine own_gos st49 ?_
    obtain ⟨rfl, Nq49, e49⟩ := hQ49
    have N49 := Fr.app N47 Nq49
    show own_Go p e below (T49.setTop (mkF m 31 #[.val (.ref a1), .val (.int b), .val (.int ee), .val (.int (7 : Int32)), .val (.int z)] [(.int (1 : Int32))])) _
    refine own_go (fun _ k => XS.ifNo X49.here hx rfl (hb hby d_jdk_42_m92_31) rfl ((if0 _ _).trans (feq (by decide : ¬ ((1 : Int32) = (0 : Int32)))).1) k) ?_
    show own_Go p e below (T49.setTop (mkF m 34 #[.val (.ref a1), .val (.int b), .val (.int ee), .val (.int (7 : Int32)), .val (.int z)] [])) _
    refine own_go (fun _ k => XS.aloadN X49.here hx rfl (hb hby d_jdk_42_m92_34) rfl rfl k) ?_
    show own_Go p e below (T49.setTop (mkF m 35 #[.val (.ref a1), .val (.int b), .val (.int ee), .val (.int (7 : Int32)), .val (.int z)] [(.ref a1)])) _
    obtain ⟨T50, X50, e50, st50⟩ := getF X49 hx hZ hown (host := "") (Or.inl (hw _ (List.mem_of_getElem? (i := 34) rfl))) Via.refl e49 Fv_a1 (g := (mkF m 35 #[.val (.ref a1), .val (.int b), .val (.int ee), .val (.int (7 : Int32)), .val (.int z)] [(.ref a1)])) rfl rfl (hb hby d_jdk_42_m92_35)
    refine own_go st50 ?_
    show own_Go p e below (T50.setTop (mkF m 38 #[.val (.ref a1), .val (.int b), .val (.int ee), .val (.int (7 : Int32)), .val (.int z)] [(.ref a2)])) _
    refine own_go (fun _ k => XS.iloadN X50.here hx rfl (hb hby d_jdk_42_m92_38) rfl k) ?_
    show own_Go p e below (T50.setTop (mkF m 39 #[.val (.ref a1), .val (.int b), .val (.int ee), .val (.int (7 : Int32)), .val (.int z)] [(.int b), (.ref a2)])) _
    refine own_go (fun _ k => XS.iload X50.here hx rfl (hb hby d_jdk_42_m92_39) rfl k) ?_
    show own_Go p e below (T50.setTop (mkF m 41 #[.val (.ref a1), .val (.int b), .val (.int ee), .val (.int (7 : Int32)), .val (.int z)] [(.int z), (.int b), (.ref a2)])) _
    obtain ⟨v51, _, ⟨T51, L51, k51, n51⟩, -, X51, ⟨Lc51, hQ51, l51, y51, z51⟩, st51⟩ := Jvm.LawKit.callS X50 hx (y := (⟨"java/lang/StringLatin1", "newString", "([BII)Ljava/lang/String;"⟩ : MethodName)) hown (mvT hZ (hw _ (List.mem_of_getElem? (i := 86) rfl))) (mvT hZ (hw _ (List.mem_of_getElem? (i := 87) rfl))) (mvT hZ (hw _ (List.mem_of_getElem? (i := 88) rfl))) (mvT hZ (hw _ (List.mem_of_getElem? (i := 89) rfl))) (by decide) (backOf (W := 0) (rm_new l Z a0 hw [] a2 k2 (c0) (c1) (c2) (c3) (c4) (c5) (c6) b ee z ds h0 n0 O0 V_a2 hR hU) hZ (hw _ (List.mem_of_getElem? (i := 89) rfl)) (hw _ (List.mem_of_getElem? (i := 88) rfl)) (by decide) (by decide)) (g := (mkF m 41 #[.val (.ref a1), .val (.int b), .val (.int ee), .val (.int (7 : Int32)), .val (.int z)] [(.int z), (.int b), (.ref a2)])) rfl (by rw [hml]; rfl) (argsL := [(.ref a2), (.int b), (.int z)]) (rest := []) (lenOf pd_9 rfl) rfl (by show 2 * 0 + _ ≤ _; exact Nat.le_of_eq rfl) (hb hby d_jdk_42_m92_41) (fun _ _ => ⟨rfl, e50, (by decide : 0 + 2 ≤ _), (by decide : 0 + 6 ≤ _)⟩)
    dsimp only [Pt.U, Pt.locs, Pt.cells, Pt.slots] at X51 l51 y51 z51 st51 hQ51
    subst l51 y51 z51
    refine own_go st51 ?_
    obtain ⟨x51, t51, kt51, rfl, Nq51, K51, xg51, tg51, Ex51, Fv51, Fc51, Vt51⟩ := hQ51
    have N51 := Fr.app N49 Nq51
    show own_Go p e below (T51.setTop (mkF m 44 #[.val (.ref a1), .val (.int b), .val (.int ee), .val (.int (7 : Int32)), .val (.int z)] [(.ref x51)])) _
    refine own_go (fun _ k => XS.goto X51.here hx rfl (pc0 := 44) (pc' := 57) rfl (hb hby d_jdk_42_m92_44) (by decide) (by decide) k) ?_
    show own_Go p e below (T51.setTop (mkF m 57 #[.val (.ref a1), .val (.int b), .val (.int ee), .val (.int (7 : Int32)), .val (.int z)] [(.ref x51)])) _
    have f52 := ((Keep.refl h0 []).trans K51 all0)
    refine own_fin (v := (some (.ref x51))) X51 (fun h => by rw [hrt] at h; cases h) hlk (fun fs hr => retR X51 hx hrt (by rfl) rfl rfl (hb hby d_jdk_42_m92_57) hr) (QQ := QStr Z z ds h0 n0) ?_ (by decide) (by decide)
    exact ⟨x51, t51, _, rfl, N51, f52, xg51, tg51, Ex51, Fv51, Fc51, Vt51⟩
  · skip
    refine own_go (fun _ k => XS.ifYes X47.here hx rfl (pc0 := 12) (pc' := 22) rfl (hb hby d_jdk_42_m92_12) rfl ((if0 _ _).trans (feq hc48).2) (by decide) (by decide) k) ?_
    show own_Go p e below (T47.setTop (mkF m 22 #[.val (.ref a1), .val (.int b), .val (.int ee), .val (.int (7 : Int32)), .unset] [])) _
    refine own_go (fun _ k => XS.iloadN X47.here hx rfl (hb hby d_jdk_42_m92_22) rfl k) ?_
    show own_Go p e below (T47.setTop (mkF m 23 #[.val (.ref a1), .val (.int b), .val (.int ee), .val (.int (7 : Int32)), .unset] [(.int ee)])) _
    refine own_go (fun _ k => XS.iloadN X47.here hx rfl (hb hby d_jdk_42_m92_23) rfl k) ?_
    show own_Go p e below (T47.setTop (mkF m 24 #[.val (.ref a1), .val (.int b), .val (.int ee), .val (.int (7 : Int32)), .unset] [(.int b), (.int ee)])) _
    refine own_go (fun _ k => XS.isub X47.here hx rfl (hb hby d_jdk_42_m92_24) rfl k) ?_
    show own_Go p e below (T47.setTop (mkF m 25 #[.val (.ref a1), .val (.int b), .val (.int ee), .val (.int (7 : Int32)), .unset] [(.int (ee - b))])) _
    rw [r4]
    show own_Go p e below (T47.setTop (mkF m 25 #[.val (.ref a1), .val (.int b), .val (.int ee), .val (.int (7 : Int32)), .unset] [(.int z)])) _
    refine own_go (fun _ k => XS.istore X47.here hx rfl (hb hby d_jdk_42_m92_25) rfl (l' := #[.val (.ref a1), .val (.int b), .val (.int ee), .val (.int (7 : Int32)), .val (.int z)]) rfl k) ?_
    show own_Go p e below (T47.setTop (mkF m 27 #[.val (.ref a1), .val (.int b), .val (.int ee), .val (.int (7 : Int32)), .val (.int z)] [])) _
    refine own_go (fun _ k => XS.aloadN X47.here hx rfl (hb hby d_jdk_42_m92_27) rfl rfl k) ?_
    show own_Go p e below (T47.setTop (mkF m 28 #[.val (.ref a1), .val (.int b), .val (.int ee), .val (.int (7 : Int32)), .val (.int z)] [(.ref a1)])) _
    obtain ⟨cq53, kq53, q53a, q53b, q53c⟩ := isOf hZ e47 E_a1
    obtain ⟨v53, _, ⟨T53, L53, k53, n53⟩, -, X53, ⟨Lc53, hQ53, l53, y53, z53⟩, st53⟩ := X47.virtualBack hx (y := (⟨"java/lang/String", "isLatin1", "()Z"⟩ : MethodName)) (z := (⟨"java/lang/String", "isLatin1", "()Z"⟩ : MethodName)) hown (mvT hZ (hw _ (List.mem_of_getElem? (i := 81) rfl))) (mvT hZ (hw _ (List.mem_of_getElem? (i := 82) rfl))) (notFace_of_selects (args := #[]) (mvT hZ (hw _ (List.mem_of_getElem? (i := 84) rfl)))) (mvT hZ (hw _ (List.mem_of_getElem? (i := 84) rfl))) (mvT hZ (hw _ (List.mem_of_getElem? (i := 83) rfl))) (by decide) (backOf (W := 0) (rm_lat l Z a0 hw [] a1 G1 h0 n0 O0 E_a1 Fc_a1 O2 P5) hZ (hw _ (List.mem_of_getElem? (i := 85) rfl)) (hw _ (List.mem_of_getElem? (i := 9) rfl)) (by decide) (by decide)) q53a q53c (g := (mkF m 28 #[.val (.ref a1), .val (.int b), .val (.int ee), .val (.int (7 : Int32)), .val (.int z)] [(.ref a1)])) rfl (by rw [hml]; rfl) (Steps.refl _) (argsL := []) (rest := []) (lenOf pd_8 rfl) rfl (by show 2 * 0 + _ ≤ _; exact Nat.le_of_eq rfl) (hb hby d_jdk_42_m92_28) (fun _ _ => ⟨rfl, e47, (by decide : 0 + 0 ≤ _), (by decide : 0 + 0 ≤ _)⟩)
    dsimp only [Pt.U, Pt.locs, Pt.cells, Pt.slots] at X53 l53 y53 z53 st53 hQ53
    subst l53 y53 z53
    refine own_gos st53 ?_
    obtain ⟨rfl, Nq53, e53⟩ := hQ53
    have N53 := Fr.app N47 Nq53
    show own_Go p e below (T53.setTop (mkF m 31 #[.val (.ref a1), .val (.int b), .val (.int ee), .val (.int (7 : Int32)), .val (.int z)] [(.int (1 : Int32))])) _
    refine own_go (fun _ k => XS.ifNo X53.here hx rfl (hb hby d_jdk_42_m92_31) rfl ((if0 _ _).trans (feq (by decide : ¬ ((1 : Int32) = (0 : Int32)))).1) k) ?_
    show own_Go p e below (T53.setTop (mkF m 34 #[.val (.ref a1), .val (.int b), .val (.int ee), .val (.int (7 : Int32)), .val (.int z)] [])) _
    refine own_go (fun _ k => XS.aloadN X53.here hx rfl (hb hby d_jdk_42_m92_34) rfl rfl k) ?_
    show own_Go p e below (T53.setTop (mkF m 35 #[.val (.ref a1), .val (.int b), .val (.int ee), .val (.int (7 : Int32)), .val (.int z)] [(.ref a1)])) _
    obtain ⟨T54, X54, e54, st54⟩ := getF X53 hx hZ hown (host := "") (Or.inl (hw _ (List.mem_of_getElem? (i := 34) rfl))) Via.refl e53 Fv_a1 (g := (mkF m 35 #[.val (.ref a1), .val (.int b), .val (.int ee), .val (.int (7 : Int32)), .val (.int z)] [(.ref a1)])) rfl rfl (hb hby d_jdk_42_m92_35)
    refine own_go st54 ?_
    show own_Go p e below (T54.setTop (mkF m 38 #[.val (.ref a1), .val (.int b), .val (.int ee), .val (.int (7 : Int32)), .val (.int z)] [(.ref a2)])) _
    refine own_go (fun _ k => XS.iloadN X54.here hx rfl (hb hby d_jdk_42_m92_38) rfl k) ?_
    show own_Go p e below (T54.setTop (mkF m 39 #[.val (.ref a1), .val (.int b), .val (.int ee), .val (.int (7 : Int32)), .val (.int z)] [(.int b), (.ref a2)])) _
    refine own_go (fun _ k => XS.iload X54.here hx rfl (hb hby d_jdk_42_m92_39) rfl k) ?_
    show own_Go p e below (T54.setTop (mkF m 41 #[.val (.ref a1), .val (.int b), .val (.int ee), .val (.int (7 : Int32)), .val (.int z)] [(.int z), (.int b), (.ref a2)])) _
    obtain ⟨v55, _, ⟨T55, L55, k55, n55⟩, -, X55, ⟨Lc55, hQ55, l55, y55, z55⟩, st55⟩ := Jvm.LawKit.callS X54 hx (y := (⟨"java/lang/StringLatin1", "newString", "([BII)Ljava/lang/String;"⟩ : MethodName)) hown (mvT hZ (hw _ (List.mem_of_getElem? (i := 86) rfl))) (mvT hZ (hw _ (List.mem_of_getElem? (i := 87) rfl))) (mvT hZ (hw _ (List.mem_of_getElem? (i := 88) rfl))) (mvT hZ (hw _ (List.mem_of_getElem? (i := 89) rfl))) (by decide) (backOf (W := 0) (rm_new l Z a0 hw [] a2 k2 (c0) (c1) (c2) (c3) (c4) (c5) (c6) b ee z ds h0 n0 O0 V_a2 hR hU) hZ (hw _ (List.mem_of_getElem? (i := 89) rfl)) (hw _ (List.mem_of_getElem? (i := 88) rfl)) (by decide) (by decide)) (g := (mkF m 41 #[.val (.ref a1), .val (.int b), .val (.int ee), .val (.int (7 : Int32)), .val (.int z)] [(.int z), (.int b), (.ref a2)])) rfl (by rw [hml]; rfl) (argsL := [(.ref a2), (.int b), (.int z)]) (rest := []) (lenOf pd_9 rfl) rfl (by show 2 * 0 + _ ≤ _; exact Nat.le_of_eq rfl) (hb hby d_jdk_42_m92_41) (fun _ _ => ⟨rfl, e54, (by decide : 0 + 2 ≤ _), (by decide : 0 + 6 ≤ _)⟩)
    dsimp only [Pt.U, Pt.locs, Pt.cells, Pt.slots] at X55 l55 y55 z55 st55 hQ55
    subst l55 y55 z55
    refine own_go st55 ?_
    obtain ⟨x55, t55, kt55, rfl, Nq55, K55, xg55, tg55, Ex55, Fv55, Fc55, Vt55⟩ := hQ55
    have N55 := Fr.app N53 Nq55
    show own_Go p e below (T55.setTop (mkF m 44 #[.val (.ref a1), .val (.int b), .val (.int ee), .val (.int (7 : Int32)), .val (.int z)] [(.ref x55)])) _
    refine own_go (fun _ k => XS.goto X55.here hx rfl (pc0 := 44) (pc' := 57) rfl (hb hby d_jdk_42_m92_44) (by decide) (by decide) k) ?_
    show own_Go p e below (T55.setTop (mkF m 57 #[.val (.ref a1), .val (.int b), .val (.int ee), .val (.int (7 : Int32)), .val (.int z)] [(.ref x55)])) _
    have f56 := ((Keep.refl h0 []).trans K55 all0)
    refine own_fin (v := (some (.ref x55))) X55 (fun h => by rw [hrt] at h; cases h) hlk (fun fs hr => retR X55 hx hrt (by rfl) rfl rfl (hb hby d_jdk_42_m92_57) hr) (QQ := QStr Z z ds h0 n0) ?_ (by decide) (by decide)
    exact ⟨x55, t55, _, rfl, N55, f56, xg55, tg55, Ex55, Fv55, Fc55, Vt55⟩

def QNull (h0 : Heap) (n0 : Nat) (v : Option Value) (h : Heap) (L : List Loc) : Prop := v = some .null ∧ Fr n0 L ∧ Keep h0 h []
theorem d_prog_15_m4_0 : decode prog_15_method_4_code 0 = .ok (.aload_n 0, 1) := by decide +kernel
theorem d_prog_15_m4_1 : decode prog_15_method_4_code 1 = .ok (.iload_n 1, 1) := by decide +kernel
theorem d_prog_15_m4_2 : decode prog_15_method_4_code 2 = .ok (.invokevirtual 35, 3) := by decide +kernel
theorem pd_10 : parseMethodDescriptor "(I)I" = some ⟨[.int], some .int⟩ := by decide +kernel
theorem d_prog_15_m4_5 : decode prog_15_method_4_code 5 = .ok (.istore_n 2, 1) := by decide +kernel
theorem d_prog_15_m4_6 : decode prog_15_method_4_code 6 = .ok (.iload_n 2, 1) := by decide +kernel
theorem d_prog_15_m4_7 : decode prog_15_method_4_code 7 = .ok (.aload_n 0, 1) := by decide +kernel
theorem d_prog_15_m4_8 : decode prog_15_method_4_code 8 = .ok (.getfield 13, 3) := by decide +kernel
theorem d_prog_15_m4_11 : decode prog_15_method_4_code 11 = .ok (.iload_n 1, 1) := by decide +kernel
theorem d_prog_15_m4_12 : decode prog_15_method_4_code 12 = .ok (.iaload, 1) := by decide +kernel
theorem d_prog_15_m4_13 : decode prog_15_method_4_code 13 = .ok (.if_icmp .ne 7, 3) := by decide +kernel
theorem d_prog_15_m4_16 : decode prog_15_method_4_code 16 = .ok (.aconst_null, 1) := by decide +kernel
theorem d_prog_15_m4_17 : decode prog_15_method_4_code 17 = .ok (.goto 17, 3) := by decide +kernel
theorem d_prog_15_m4_34 : decode prog_15_method_4_code 34 = .ok (.areturn, 1) := by decide +kernel
theorem ef_rm_get_0N (m : MethodId) (x0 : Addr) (x1 : Int32) : entryFrame m #[(.ref x0), (.int x1)] 3 = mkF m 0 #[.val (.ref x0), .val (.int x1), .unset] [] := by
   first | (simp [entryFrame, mkF, argsToLocals, Value.category]; done) | rfl
set_option maxRecDepth 65536 in
set_option maxHeartbeats 40000000 in
theorem rm_get_0N (l : Launch) (Z : State) (a0 : Array Value) (hw : ∀ d ∈ tables_1, d.before a0 Z = true) (ws : List Jvm.Cond) (a1 : Addr) (a2 : Addr) (k2 : ClassId) (a3 : Addr) (a4 : Addr) (k4 : ClassId) (G1 : Int32) (G3 : Value) (v1 : Int32) (v2 : Int32) (c0 : Int32) (c1 : Int32) (c2 : Int32) (c3 : Int32) (c4 : Int32) (c5 : Int32) (c6 : Int32) (h0 : Heap) (n0 : Nat) (O0 : Old Z n0 h0) (E_a : Exa Z h0 a1 "com/example/sequela/sequela/Fields") (F_e : Fld Z h0 a1 "com/example/sequela/sequela/Fields" "ends" "[I" (.ref a2)) (F_t : Fld Z h0 a1 "com/example/sequela/sequela/Fields" "text" "Ljava/lang/String;" (.ref a3)) (V_a2 : Arv Z h0 a2 k2 .int (3 : Int32) [(.int (0 : Int32)), (.int v1), (.int v2)] (.int (0 : Int32))) (E_a3 : Exa Z h0 a3 "java/lang/String") (Fv_a3 : Fld Z h0 a3 "java/lang/String" "value" "[B" (.ref a4)) (Fc_a3 : Fld Z h0 a3 "java/lang/String" "coder" "B" (.int (0 : Int32))) (V_a4 : Arv Z h0 a4 k4 .byte (7 : Int32) ((([c0, c1, c2, c3, c4, c5, c6] : List Int32).map (fun c => c.toInt8.toInt32)).map Value.int) (.int (0 : Int32))) (hp_a3 : ∀ c ∈ ([c0, c1, c2, c3, c4, c5, c6] : List Int32), ¬ c < 0 ∧ ¬ (255 : Int32) < c) (O2 : Sta Z Z.heap "java/lang/String" "COMPACT_STRINGS" "Z" (.int G1)) (P5 : ¬ (G1 = (0 : Int32))) (O4 : Sta Z Z.heap "jdk/internal/util/Preconditions" "SIOOBE_FORMATTER" "Ljava/util/function/BiFunction;" G3) (rG3 : G3.isRef = true) :
    MetFree l (⟨"com/example/sequela/sequela/Fields", "get", "(I)Ljava/lang/String;"⟩ : MethodName) (head1 (Jvm.Cond.code (⟨"com/example/sequela/sequela/Fields", "get", "(I)Ljava/lang/String;"⟩ : MethodName) prog_15_method_4_code 3 (some (.object "java/lang/String")) :: ws) ({ frames := 1, cells := 0, slots := 0, locals := 13 } : Room)) (fun a U => a = #[(.ref a1), (.int (0 : Int32))] ∧ Z.Warmed39 U.vm ∧ U.heap = h0) (fun _ _ _ _ _ => True) (fun _ U o U' => ∃ v L, o = .returned v ∧ QNull h0 n0 v U'.heap L ∧ FrameEnd U o U' L 0 0) := by
  refine MetFree.of_bodySF (plainFor_of_name pn_1) hisR ?_
  intro p e s m args below meth c s₁ Bd hml0 hP hK
  obtain ⟨rfl, hZ, hh⟩ := hP
  have hx := Bd.exec
  have hby := Bd.bytes
  have hml : c.maxLocals = 3 := hml0
  have hown : s.vm.findClass "com/example/sequela/sequela/Fields" = some m.cls := findClass_of_methodNamed Bd.named
  have hnm := (name_of_methodNamed Bd.named Bd.method).1
  have hrt := Bd.returns
  have hlk : meth.locks = false := Bd.notSynchronized
  have X0 : Stand p l e ({ frames := 1, cells := 0, slots := 0, locals := 13 } : Room) s m #[(.ref a1), (.int (0 : Int32))] below meth c s₁ [] 0 0 := Stand.of_body Bd
  have e0 : s₁.heap = h0 := by rw [← hh, Bd.state]; rfl
  have N0 := Fr.nil n0
  have Z0 : n0 ≤ h0.size := O0.1 ▸ O0.2.1
  show own_Go p e below (s₁.setTop (entryFrame m #[(.ref a1), (.int (0 : Int32))] 3)) (fun o U' => ∃ v L, o = .returned v ∧ QNull h0 n0 v U'.heap L ∧ FrameEnd s o U' L 0 0)
  refine own_go (fun _ k => castTop (ef_rm_get_0N m a1 _) k) ?_
  show own_Go p e below (s₁.setTop (mkF m 0 #[.val (.ref a1), .val (.int (0 : Int32)), .unset] [])) _
  refine own_go (fun _ k => XS.aloadN X0.here hx rfl (hb hby d_prog_15_m4_0) rfl rfl k) ?_
  show own_Go p e below (s₁.setTop (mkF m 1 #[.val (.ref a1), .val (.int (0 : Int32)), .unset] [(.ref a1)])) _
  refine own_go (fun _ k => XS.iloadN X0.here hx rfl (hb hby d_prog_15_m4_1) rfl k) ?_
  show own_Go p e below (s₁.setTop (mkF m 2 #[.val (.ref a1), .val (.int (0 : Int32)), .unset] [(.int (0 : Int32)), (.ref a1)])) _
  obtain ⟨cq57, q57, q57'⟩ := E_a.cell
  obtain ⟨v57, _, ⟨T57, L57, k57, n57⟩, -, X57, ⟨Lc57, hQ57, l57, y57, z57⟩, st57⟩ := X0.privateBack hx (y := (⟨"com/example/sequela/sequela/Fields", "start", "(I)I"⟩ : MethodName)) hown (mvT hZ (hw _ (List.mem_of_getElem? (i := 54) rfl))) (mvT hZ (hw _ (List.mem_of_getElem? (i := 55) rfl))) (own_selP hZ (hw _ (List.mem_of_getElem? (i := 5) rfl)) (hw _ (List.mem_of_getElem? (i := 56) rfl)) (hw _ (List.mem_of_getElem? (i := 55) rfl)) (by decide)) (Cond.privateMethod_at (mvP hZ (hw _ (List.mem_of_getElem? (i := 56) rfl)) (args := #[]))) (mvT hZ (hw _ (List.mem_of_getElem? (i := 57) rfl))) (by decide) (backOf (W := 0) (rm_start0 l Z a0 hw [] a1 a2 k2 (0 : Int32) v1 v2 h0 n0 O0 E_a F_e V_a2) hZ (hw _ (List.mem_of_getElem? (i := 57) rfl)) (hw _ (List.mem_of_getElem? (i := 6) rfl)) (by decide) (by decide)) (g := (mkF m 2 #[.val (.ref a1), .val (.int (0 : Int32)), .unset] [(.int (0 : Int32)), (.ref a1)])) rfl (by rw [hml]; rfl) (Steps.refl _) (a := a1) (by rw [e0]; exact q57) q57' (argsL := [(.int (0 : Int32))]) (rest := []) (lenOf pd_10 rfl) rfl (by show 2 * 0 + _ ≤ _; exact Nat.le_of_eq rfl) (hb hby d_prog_15_m4_2) (fun _ _ => ⟨rfl, e0, (by decide : 0 + 0 ≤ _), (by decide : 0 + 0 ≤ _)⟩)
  dsimp only [Pt.U, Pt.locs, Pt.cells, Pt.slots] at X57 l57 y57 z57 st57 hQ57
  subst l57 y57 z57
  refine own_gos st57 ?_
  obtain ⟨rfl, Nq57, e57⟩ := hQ57
  have N57 := Fr.app N0 Nq57
  show own_Go p e below (T57.setTop (mkF m 5 #[.val (.ref a1), .val (.int (0 : Int32)), .unset] [(.int (0 : Int32))])) _
  refine own_go (fun _ k => XS.istoreN X57.here hx rfl (hb hby d_prog_15_m4_5) rfl (l' := #[.val (.ref a1), .val (.int (0 : Int32)), .val (.int (0 : Int32))]) rfl k) ?_
  show own_Go p e below (T57.setTop (mkF m 6 #[.val (.ref a1), .val (.int (0 : Int32)), .val (.int (0 : Int32))] [])) _
  refine own_go (fun _ k => XS.iloadN X57.here hx rfl (hb hby d_prog_15_m4_6) rfl k) ?_
  show own_Go p e below (T57.setTop (mkF m 7 #[.val (.ref a1), .val (.int (0 : Int32)), .val (.int (0 : Int32))] [(.int (0 : Int32))])) _
  refine own_go (fun _ k => XS.aloadN X57.here hx rfl (hb hby d_prog_15_m4_7) rfl rfl k) ?_
  show own_Go p e below (T57.setTop (mkF m 8 #[.val (.ref a1), .val (.int (0 : Int32)), .val (.int (0 : Int32))] [(.ref a1), (.int (0 : Int32))])) _
  obtain ⟨T58, X58, e58, st58⟩ := getF X57 hx hZ hown (host := "") (Or.inl (hw _ (List.mem_of_getElem? (i := 47) rfl))) Via.refl e57 F_e (g := (mkF m 8 #[.val (.ref a1), .val (.int (0 : Int32)), .val (.int (0 : Int32))] [(.ref a1), (.int (0 : Int32))])) rfl rfl (hb hby d_prog_15_m4_8)
  refine own_go st58 ?_
  show own_Go p e below (T58.setTop (mkF m 11 #[.val (.ref a1), .val (.int (0 : Int32)), .val (.int (0 : Int32))] [(.ref a2), (.int (0 : Int32))])) _
  refine own_go (fun _ k => XS.iloadN X58.here hx rfl (hb hby d_prog_15_m4_11) rfl k) ?_
  show own_Go p e below (T58.setTop (mkF m 12 #[.val (.ref a1), .val (.int (0 : Int32)), .val (.int (0 : Int32))] [(.int (0 : Int32)), (.ref a2), (.int (0 : Int32))])) _
  obtain ⟨c59, A59, q59, S59, M59, Hs59, Gs59⟩ := id V_a2
  have hi59 := inb_of (j := (0 : Int32)) S59 ⟨by decide, by decide⟩
  refine own_go (fun _ k => X58.iaload hx (j := (0 : Int32)) (v := (.int (0 : Int32))) (by rw [e58]; exact A59.1) (State.isArrayOf_alike hZ.alike A59.2.1) A59.2.2 hi59 (Has.at Hs59 hi59 rfl) (g := (mkF m 12 #[.val (.ref a1), .val (.int (0 : Int32)), .val (.int (0 : Int32))] [(.int (0 : Int32)), (.ref a2), (.int (0 : Int32))])) rfl rfl (hb hby d_prog_15_m4_12) _ k) ?_
  show own_Go p e below (T58.setTop (mkF m 13 #[.val (.ref a1), .val (.int (0 : Int32)), .val (.int (0 : Int32))] [(.int (0 : Int32)), (.int (0 : Int32))])) _
  refine own_go (fun _ k => XS.icmpNo X58.here hx rfl (hb hby d_prog_15_m4_13) rfl (teq (by decide : (0 : Int32) = (0 : Int32))).2 k) ?_
  show own_Go p e below (T58.setTop (mkF m 16 #[.val (.ref a1), .val (.int (0 : Int32)), .val (.int (0 : Int32))] [])) _
  refine own_go (fun _ k => XS.aconstNull X58.here hx rfl (hb hby d_prog_15_m4_16) k) ?_
  show own_Go p e below (T58.setTop (mkF m 17 #[.val (.ref a1), .val (.int (0 : Int32)), .val (.int (0 : Int32))] [.null])) _
  refine own_go (fun _ k => XS.goto X58.here hx rfl (pc0 := 17) (pc' := 34) rfl (hb hby d_prog_15_m4_17) (by decide) (by decide) k) ?_
  show own_Go p e below (T58.setTop (mkF m 34 #[.val (.ref a1), .val (.int (0 : Int32)), .val (.int (0 : Int32))] [.null])) _
  refine own_fin (v := (some .null)) X58 (fun h => by rw [hrt] at h; cases h) hlk (fun fs hr => retR X58 hx hrt (by rfl) rfl rfl (hb hby d_prog_15_m4_34) hr) (QQ := QNull h0 n0) ?_ (by decide) (by decide)
  rw [e58]
  exact ⟨rfl, N57, (Keep.refl h0 [])⟩

theorem d_prog_15_m4_20 : decode prog_15_method_4_code 20 = .ok (.aload_n 0, 1) := by decide +kernel
theorem d_prog_15_m4_21 : decode prog_15_method_4_code 21 = .ok (.getfield 7, 3) := by decide +kernel
theorem d_prog_15_m4_24 : decode prog_15_method_4_code 24 = .ok (.iload_n 2, 1) := by decide +kernel
theorem d_prog_15_m4_25 : decode prog_15_method_4_code 25 = .ok (.aload_n 0, 1) := by decide +kernel
theorem d_prog_15_m4_26 : decode prog_15_method_4_code 26 = .ok (.getfield 13, 3) := by decide +kernel
theorem d_prog_15_m4_29 : decode prog_15_method_4_code 29 = .ok (.iload_n 1, 1) := by decide +kernel
theorem d_prog_15_m4_30 : decode prog_15_method_4_code 30 = .ok (.iaload, 1) := by decide +kernel
theorem d_prog_15_m4_31 : decode prog_15_method_4_code 31 = .ok (.invokevirtual 39, 3) := by decide +kernel
theorem pd_11 : parseMethodDescriptor "(II)Ljava/lang/String;" = some ⟨[.int, .int], some (.object "java/lang/String")⟩ := by decide +kernel
theorem ef_rm_get_0S (m : MethodId) (x0 : Addr) (x1 : Int32) : entryFrame m #[(.ref x0), (.int x1)] 3 = mkF m 0 #[.val (.ref x0), .val (.int x1), .unset] [] := by
   first | (simp [entryFrame, mkF, argsToLocals, Value.category]; done) | rfl
set_option maxRecDepth 65536 in
set_option maxHeartbeats 40000000 in
theorem rm_get_0S (l : Launch) (Z : State) (a0 : Array Value) (hw : ∀ d ∈ tables_1, d.before a0 Z = true) (ws : List Jvm.Cond) (a1 : Addr) (a2 : Addr) (k2 : ClassId) (a3 : Addr) (a4 : Addr) (k4 : ClassId) (G1 : Int32) (G3 : Value) (v1 : Int32) (v2 : Int32) (c0 : Int32) (c1 : Int32) (c2 : Int32) (c3 : Int32) (c4 : Int32) (c5 : Int32) (c6 : Int32) (ee : Int32) (z : Int32) (ds : List Int32) (h0 : Heap) (n0 : Nat) (O0 : Old Z n0 h0) (E_a : Exa Z h0 a1 "com/example/sequela/sequela/Fields") (F_e : Fld Z h0 a1 "com/example/sequela/sequela/Fields" "ends" "[I" (.ref a2)) (F_t : Fld Z h0 a1 "com/example/sequela/sequela/Fields" "text" "Ljava/lang/String;" (.ref a3)) (V_a2 : Arv Z h0 a2 k2 .int (3 : Int32) [(.int ee), (.int v1), (.int v2)] (.int (0 : Int32))) (E_a3 : Exa Z h0 a3 "java/lang/String") (Fv_a3 : Fld Z h0 a3 "java/lang/String" "value" "[B" (.ref a4)) (Fc_a3 : Fld Z h0 a3 "java/lang/String" "coder" "B" (.int (0 : Int32))) (V_a4 : Arv Z h0 a4 k4 .byte (7 : Int32) ((([c0, c1, c2, c3, c4, c5, c6] : List Int32).map (fun c => c.toInt8.toInt32)).map Value.int) (.int (0 : Int32))) (hp_a3 : ∀ c ∈ ([c0, c1, c2, c3, c4, c5, c6] : List Int32), ¬ c < 0 ∧ ¬ (255 : Int32) < c) (O2 : Sta Z Z.heap "java/lang/String" "COMPACT_STRINGS" "Z" (.int G1)) (P5 : ¬ (G1 = (0 : Int32))) (O4 : Sta Z Z.heap "jdk/internal/util/Preconditions" "SIOOBE_FORMATTER" "Ljava/util/function/BiFunction;" G3) (rG3 : G3.isRef = true) (hne : ¬ ((0 : Int32) = ee)) (hR : own_R (0 : Int32) ee z) (hU : own_U ds (0 : Int32) z ((([c0, c1, c2, c3, c4, c5, c6] : List Int32).map (fun c => c.toInt8.toInt32)).map Value.int)) :
    MetFree l (⟨"com/example/sequela/sequela/Fields", "get", "(I)Ljava/lang/String;"⟩ : MethodName) (head1 (Jvm.Cond.code (⟨"com/example/sequela/sequela/Fields", "get", "(I)Ljava/lang/String;"⟩ : MethodName) prog_15_method_4_code 3 (some (.object "java/lang/String")) :: ws) ({ frames := 5, cells := 2, slots := 6, locals := 80 } : Room)) (fun a U => a = #[(.ref a1), (.int (0 : Int32))] ∧ Z.Warmed39 U.vm ∧ U.heap = h0) (fun _ _ _ _ _ => True) (fun _ U o U' => ∃ v L, o = .returned v ∧ QStr Z z ds h0 n0 v U'.heap L ∧ FrameEnd U o U' L 2 6) := by
  refine MetFree.of_bodySF (plainFor_of_name pn_1) hisR ?_
  intro p e s m args below meth c s₁ Bd hml0 hP hK
  obtain ⟨rfl, hZ, hh⟩ := hP
  have hx := Bd.exec
  have hby := Bd.bytes
  have hml : c.maxLocals = 3 := hml0
  have hown : s.vm.findClass "com/example/sequela/sequela/Fields" = some m.cls := findClass_of_methodNamed Bd.named
  have hnm := (name_of_methodNamed Bd.named Bd.method).1
  have hrt := Bd.returns
  have hlk : meth.locks = false := Bd.notSynchronized
  have X0 : Stand p l e ({ frames := 5, cells := 2, slots := 6, locals := 80 } : Room) s m #[(.ref a1), (.int (0 : Int32))] below meth c s₁ [] 0 0 := Stand.of_body Bd
  have e0 : s₁.heap = h0 := by rw [← hh, Bd.state]; rfl
  have N0 := Fr.nil n0
  have Z0 : n0 ≤ h0.size := O0.1 ▸ O0.2.1
  show own_Go p e below (s₁.setTop (entryFrame m #[(.ref a1), (.int (0 : Int32))] 3)) (fun o U' => ∃ v L, o = .returned v ∧ QStr Z z ds h0 n0 v U'.heap L ∧ FrameEnd s o U' L 2 6)
  refine own_go (fun _ k => castTop (ef_rm_get_0S m a1 _) k) ?_
  show own_Go p e below (s₁.setTop (mkF m 0 #[.val (.ref a1), .val (.int (0 : Int32)), .unset] [])) _
  refine own_go (fun _ k => XS.aloadN X0.here hx rfl (hb hby d_prog_15_m4_0) rfl rfl k) ?_
  show own_Go p e below (s₁.setTop (mkF m 1 #[.val (.ref a1), .val (.int (0 : Int32)), .unset] [(.ref a1)])) _
  refine own_go (fun _ k => XS.iloadN X0.here hx rfl (hb hby d_prog_15_m4_1) rfl k) ?_
  show own_Go p e below (s₁.setTop (mkF m 2 #[.val (.ref a1), .val (.int (0 : Int32)), .unset] [(.int (0 : Int32)), (.ref a1)])) _
  obtain ⟨cq60, q60, q60'⟩ := E_a.cell
  obtain ⟨v60, _, ⟨T60, L60, k60, n60⟩, -, X60, ⟨Lc60, hQ60, l60, y60, z60⟩, st60⟩ := X0.privateBack hx (y := (⟨"com/example/sequela/sequela/Fields", "start", "(I)I"⟩ : MethodName)) hown (mvT hZ (hw _ (List.mem_of_getElem? (i := 54) rfl))) (mvT hZ (hw _ (List.mem_of_getElem? (i := 55) rfl))) (own_selP hZ (hw _ (List.mem_of_getElem? (i := 5) rfl)) (hw _ (List.mem_of_getElem? (i := 56) rfl)) (hw _ (List.mem_of_getElem? (i := 55) rfl)) (by decide)) (Cond.privateMethod_at (mvP hZ (hw _ (List.mem_of_getElem? (i := 56) rfl)) (args := #[]))) (mvT hZ (hw _ (List.mem_of_getElem? (i := 57) rfl))) (by decide) (backOf (W := 0) (rm_start0 l Z a0 hw [] a1 a2 k2 ee v1 v2 h0 n0 O0 E_a F_e V_a2) hZ (hw _ (List.mem_of_getElem? (i := 57) rfl)) (hw _ (List.mem_of_getElem? (i := 6) rfl)) (by decide) (by decide)) (g := (mkF m 2 #[.val (.ref a1), .val (.int (0 : Int32)), .unset] [(.int (0 : Int32)), (.ref a1)])) rfl (by rw [hml]; rfl) (Steps.refl _) (a := a1) (by rw [e0]; exact q60) q60' (argsL := [(.int (0 : Int32))]) (rest := []) (lenOf pd_10 rfl) rfl (by show 2 * 0 + _ ≤ _; exact Nat.le_of_eq rfl) (hb hby d_prog_15_m4_2) (fun _ _ => ⟨rfl, e0, (by decide : 0 + 0 ≤ _), (by decide : 0 + 0 ≤ _)⟩)
  dsimp only [Pt.U, Pt.locs, Pt.cells, Pt.slots] at X60 l60 y60 z60 st60 hQ60
  subst l60 y60 z60
  refine own_gos st60 ?_
  obtain ⟨rfl, Nq60, e60⟩ := hQ60
  have N60 := Fr.app N0 Nq60
  show own_Go p e below (T60.setTop (mkF m 5 #[.val (.ref a1), .val (.int (0 : Int32)), .unset] [(.int (0 : Int32))])) _
  refine own_go (fun _ k => XS.istoreN X60.here hx rfl (hb hby d_prog_15_m4_5) rfl (l' := #[.val (.ref a1), .val (.int (0 : Int32)), .val (.int (0 : Int32))]) rfl k) ?_
  show own_Go p e below (T60.setTop (mkF m 6 #[.val (.ref a1), .val (.int (0 : Int32)), .val (.int (0 : Int32))] [])) _
  refine own_go (fun _ k => XS.iloadN X60.here hx rfl (hb hby d_prog_15_m4_6) rfl k) ?_
  show own_Go p e below (T60.setTop (mkF m 7 #[.val (.ref a1), .val (.int (0 : Int32)), .val (.int (0 : Int32))] [(.int (0 : Int32))])) _
  refine own_go (fun _ k => XS.aloadN X60.here hx rfl (hb hby d_prog_15_m4_7) rfl rfl k) ?_
  show own_Go p e below (T60.setTop (mkF m 8 #[.val (.ref a1), .val (.int (0 : Int32)), .val (.int (0 : Int32))] [(.ref a1), (.int (0 : Int32))])) _
  obtain ⟨T61, X61, e61, st61⟩ := getF X60 hx hZ hown (host := "") (Or.inl (hw _ (List.mem_of_getElem? (i := 47) rfl))) Via.refl e60 F_e (g := (mkF m 8 #[.val (.ref a1), .val (.int (0 : Int32)), .val (.int (0 : Int32))] [(.ref a1), (.int (0 : Int32))])) rfl rfl (hb hby d_prog_15_m4_8)
  refine own_go st61 ?_
  show own_Go p e below (T61.setTop (mkF m 11 #[.val (.ref a1), .val (.int (0 : Int32)), .val (.int (0 : Int32))] [(.ref a2), (.int (0 : Int32))])) _
  refine own_go (fun _ k => XS.iloadN X61.here hx rfl (hb hby d_prog_15_m4_11) rfl k) ?_
  show own_Go p e below (T61.setTop (mkF m 12 #[.val (.ref a1), .val (.int (0 : Int32)), .val (.int (0 : Int32))] [(.int (0 : Int32)), (.ref a2), (.int (0 : Int32))])) _
  obtain ⟨c62, A62, q62, S62, M62, Hs62, Gs62⟩ := id V_a2
  have hi62 := inb_of (j := (0 : Int32)) S62 ⟨by decide, by decide⟩
  refine own_go (fun _ k => X61.iaload hx (j := (0 : Int32)) (v := (.int ee)) (by rw [e61]; exact A62.1) (State.isArrayOf_alike hZ.alike A62.2.1) A62.2.2 hi62 (Has.at Hs62 hi62 rfl) (g := (mkF m 12 #[.val (.ref a1), .val (.int (0 : Int32)), .val (.int (0 : Int32))] [(.int (0 : Int32)), (.ref a2), (.int (0 : Int32))])) rfl rfl (hb hby d_prog_15_m4_12) _ k) ?_
  show own_Go p e below (T61.setTop (mkF m 13 #[.val (.ref a1), .val (.int (0 : Int32)), .val (.int (0 : Int32))] [(.int ee), (.int (0 : Int32))])) _
  refine own_go (fun _ k => XS.icmpYes X61.here hx rfl (pc0 := 13) (pc' := 20) rfl (hb hby d_prog_15_m4_13) rfl (feq hne).2 (by decide) (by decide) k) ?_
  show own_Go p e below (T61.setTop (mkF m 20 #[.val (.ref a1), .val (.int (0 : Int32)), .val (.int (0 : Int32))] [])) _
  refine own_go (fun _ k => XS.aloadN X61.here hx rfl (hb hby d_prog_15_m4_20) rfl rfl k) ?_
  show own_Go p e below (T61.setTop (mkF m 21 #[.val (.ref a1), .val (.int (0 : Int32)), .val (.int (0 : Int32))] [(.ref a1)])) _
  obtain ⟨T63, X63, e63, st63⟩ := getF X61 hx hZ hown (host := "") (Or.inl (hw _ (List.mem_of_getElem? (i := 45) rfl))) Via.refl e61 F_t (g := (mkF m 21 #[.val (.ref a1), .val (.int (0 : Int32)), .val (.int (0 : Int32))] [(.ref a1)])) rfl rfl (hb hby d_prog_15_m4_21)
  refine own_go st63 ?_
  show own_Go p e below (T63.setTop (mkF m 24 #[.val (.ref a1), .val (.int (0 : Int32)), .val (.int (0 : Int32))] [(.ref a3)])) _
  refine own_go (fun _ k => XS.iloadN X63.here hx rfl (hb hby d_prog_15_m4_24) rfl k) ?_
  show own_Go p e below (T63.setTop (mkF m 25 #[.val (.ref a1), .val (.int (0 : Int32)), .val (.int (0 : Int32))] [(.int (0 : Int32)), (.ref a3)])) _
  refine own_go (fun _ k => XS.aloadN X63.here hx rfl (hb hby d_prog_15_m4_25) rfl rfl k) ?_
  show own_Go p e below (T63.setTop (mkF m 26 #[.val (.ref a1), .val (.int (0 : Int32)), .val (.int (0 : Int32))] [(.ref a1), (.int (0 : Int32)), (.ref a3)])) _
  obtain ⟨T64, X64, e64, st64⟩ := getF X63 hx hZ hown (host := "") (Or.inl (hw _ (List.mem_of_getElem? (i := 47) rfl))) Via.refl e63 F_e (g := (mkF m 26 #[.val (.ref a1), .val (.int (0 : Int32)), .val (.int (0 : Int32))] [(.ref a1), (.int (0 : Int32)), (.ref a3)])) rfl rfl (hb hby d_prog_15_m4_26)
  refine own_go st64 ?_
  show own_Go p e below (T64.setTop (mkF m 29 #[.val (.ref a1), .val (.int (0 : Int32)), .val (.int (0 : Int32))] [(.ref a2), (.int (0 : Int32)), (.ref a3)])) _
  refine own_go (fun _ k => XS.iloadN X64.here hx rfl (hb hby d_prog_15_m4_29) rfl k) ?_
  show own_Go p e below (T64.setTop (mkF m 30 #[.val (.ref a1), .val (.int (0 : Int32)), .val (.int (0 : Int32))] [(.int (0 : Int32)), (.ref a2), (.int (0 : Int32)), (.ref a3)])) _
  obtain ⟨c65, A65, q65, S65, M65, Hs65, Gs65⟩ := id V_a2
  have hi65 := inb_of (j := (0 : Int32)) S65 ⟨by decide, by decide⟩
  refine own_go (fun _ k => X64.iaload hx (j := (0 : Int32)) (v := (.int ee)) (by rw [e64]; exact A65.1) (State.isArrayOf_alike hZ.alike A65.2.1) A65.2.2 hi65 (Has.at Hs65 hi65 rfl) (g := (mkF m 30 #[.val (.ref a1), .val (.int (0 : Int32)), .val (.int (0 : Int32))] [(.int (0 : Int32)), (.ref a2), (.int (0 : Int32)), (.ref a3)])) rfl rfl (hb hby d_prog_15_m4_30) _ k) ?_
  show own_Go p e below (T64.setTop (mkF m 31 #[.val (.ref a1), .val (.int (0 : Int32)), .val (.int (0 : Int32))] [(.int ee), (.int (0 : Int32)), (.ref a3)])) _
  obtain ⟨cq66, kq66, q66a, q66b, q66c⟩ := isOf hZ e64 E_a3
  obtain ⟨v66, _, ⟨T66, L66, k66, n66⟩, -, X66, ⟨Lc66, hQ66, l66, y66, z66⟩, st66⟩ := X64.virtualBack hx (y := (⟨"java/lang/String", "substring", "(II)Ljava/lang/String;"⟩ : MethodName)) (z := (⟨"java/lang/String", "substring", "(II)Ljava/lang/String;"⟩ : MethodName)) hown (mvT hZ (hw _ (List.mem_of_getElem? (i := 58) rfl))) (mvT hZ (hw _ (List.mem_of_getElem? (i := 59) rfl))) (notFace_of_selects (args := #[]) (mvT hZ (hw _ (List.mem_of_getElem? (i := 61) rfl)))) (mvT hZ (hw _ (List.mem_of_getElem? (i := 61) rfl))) (mvT hZ (hw _ (List.mem_of_getElem? (i := 60) rfl))) (by decide) (backOf (W := 0) (rm_sub l Z a0 hw [] a3 a4 k4 G1 G3 (c0) (c1) (c2) (c3) (c4) (c5) (c6) (0 : Int32) ee z ds h0 n0 O0 E_a3 Fv_a3 Fc_a3 V_a4 hp_a3 O2 P5 O4 rG3 hR hU) hZ (hw _ (List.mem_of_getElem? (i := 62) rfl)) (hw _ (List.mem_of_getElem? (i := 9) rfl)) (by decide) (by decide)) q66a q66c (g := (mkF m 31 #[.val (.ref a1), .val (.int (0 : Int32)), .val (.int (0 : Int32))] [(.int ee), (.int (0 : Int32)), (.ref a3)])) rfl (by rw [hml]; rfl) (Steps.refl _) (argsL := [(.int (0 : Int32)), (.int ee)]) (rest := []) (lenOf pd_11 rfl) rfl (by show 2 * 0 + _ ≤ _; exact Nat.le_of_eq rfl) (hb hby d_prog_15_m4_31) (fun _ _ => ⟨rfl, e64, (by decide : 0 + 2 ≤ _), (by decide : 0 + 6 ≤ _)⟩)
  dsimp only [Pt.U, Pt.locs, Pt.cells, Pt.slots] at X66 l66 y66 z66 st66 hQ66
  subst l66 y66 z66
  refine own_gos st66 ?_
  obtain ⟨x66, t66, kt66, rfl, Nq66, K66, xg66, tg66, Ex66, Fv66, Fc66, Vt66⟩ := hQ66
  have N66 := Fr.app N60 Nq66
  show own_Go p e below (T66.setTop (mkF m 34 #[.val (.ref a1), .val (.int (0 : Int32)), .val (.int (0 : Int32))] [(.ref x66)])) _
  have f67 := ((Keep.refl h0 []).trans K66 all0)
  refine own_fin (v := (some (.ref x66))) X66 (fun h => by rw [hrt] at h; cases h) hlk (fun fs hr => retR X66 hx hrt (by rfl) rfl rfl (hb hby d_prog_15_m4_34) hr) (QQ := QStr Z z ds h0 n0) ?_ (by decide) (by decide)
  exact ⟨x66, t66, _, rfl, N66, f67, xg66, tg66, Ex66, Fv66, Fc66, Vt66⟩

theorem ef_rm_get_1N (m : MethodId) (x0 : Addr) (x1 : Int32) : entryFrame m #[(.ref x0), (.int x1)] 3 = mkF m 0 #[.val (.ref x0), .val (.int x1), .unset] [] := by
   first | (simp [entryFrame, mkF, argsToLocals, Value.category]; done) | rfl
set_option maxRecDepth 65536 in
set_option maxHeartbeats 40000000 in
theorem rm_get_1N (l : Launch) (Z : State) (a0 : Array Value) (hw : ∀ d ∈ tables_1, d.before a0 Z = true) (ws : List Jvm.Cond) (a1 : Addr) (a2 : Addr) (k2 : ClassId) (a3 : Addr) (a4 : Addr) (k4 : ClassId) (G1 : Int32) (G3 : Value) (v2 : Int32) (c0 : Int32) (c1 : Int32) (c2 : Int32) (c3 : Int32) (c4 : Int32) (c5 : Int32) (c6 : Int32) (b : Int32) (h0 : Heap) (n0 : Nat) (O0 : Old Z n0 h0) (E_a : Exa Z h0 a1 "com/example/sequela/sequela/Fields") (F_e : Fld Z h0 a1 "com/example/sequela/sequela/Fields" "ends" "[I" (.ref a2)) (F_t : Fld Z h0 a1 "com/example/sequela/sequela/Fields" "text" "Ljava/lang/String;" (.ref a3)) (V_a2 : Arv Z h0 a2 k2 .int (3 : Int32) [(.int b), (.int b), (.int v2)] (.int (0 : Int32))) (E_a3 : Exa Z h0 a3 "java/lang/String") (Fv_a3 : Fld Z h0 a3 "java/lang/String" "value" "[B" (.ref a4)) (Fc_a3 : Fld Z h0 a3 "java/lang/String" "coder" "B" (.int (0 : Int32))) (V_a4 : Arv Z h0 a4 k4 .byte (7 : Int32) ((([c0, c1, c2, c3, c4, c5, c6] : List Int32).map (fun c => c.toInt8.toInt32)).map Value.int) (.int (0 : Int32))) (hp_a3 : ∀ c ∈ ([c0, c1, c2, c3, c4, c5, c6] : List Int32), ¬ c < 0 ∧ ¬ (255 : Int32) < c) (O2 : Sta Z Z.heap "java/lang/String" "COMPACT_STRINGS" "Z" (.int G1)) (P5 : ¬ (G1 = (0 : Int32))) (O4 : Sta Z Z.heap "jdk/internal/util/Preconditions" "SIOOBE_FORMATTER" "Ljava/util/function/BiFunction;" G3) (rG3 : G3.isRef = true) :
    MetFree l (⟨"com/example/sequela/sequela/Fields", "get", "(I)Ljava/lang/String;"⟩ : MethodName) (head1 (Jvm.Cond.code (⟨"com/example/sequela/sequela/Fields", "get", "(I)Ljava/lang/String;"⟩ : MethodName) prog_15_method_4_code 3 (some (.object "java/lang/String")) :: ws) ({ frames := 1, cells := 0, slots := 0, locals := 13 } : Room)) (fun a U => a = #[(.ref a1), (.int (1 : Int32))] ∧ Z.Warmed39 U.vm ∧ U.heap = h0) (fun _ _ _ _ _ => True) (fun _ U o U' => ∃ v L, o = .returned v ∧ QNull h0 n0 v U'.heap L ∧ FrameEnd U o U' L 0 0) := by
  refine MetFree.of_bodySF (plainFor_of_name pn_1) hisR ?_
  intro p e s m args below meth c s₁ Bd hml0 hP hK
  obtain ⟨rfl, hZ, hh⟩ := hP
  have hx := Bd.exec
  have hby := Bd.bytes
  have hml : c.maxLocals = 3 := hml0
  have hown : s.vm.findClass "com/example/sequela/sequela/Fields" = some m.cls := findClass_of_methodNamed Bd.named
  have hnm := (name_of_methodNamed Bd.named Bd.method).1
  have hrt := Bd.returns
  have hlk : meth.locks = false := Bd.notSynchronized
  have X0 : Stand p l e ({ frames := 1, cells := 0, slots := 0, locals := 13 } : Room) s m #[(.ref a1), (.int (1 : Int32))] below meth c s₁ [] 0 0 := Stand.of_body Bd
  have e0 : s₁.heap = h0 := by rw [← hh, Bd.state]; rfl
  have N0 := Fr.nil n0
  have Z0 : n0 ≤ h0.size := O0.1 ▸ O0.2.1
  show own_Go p e below (s₁.setTop (entryFrame m #[(.ref a1), (.int (1 : Int32))] 3)) (fun o U' => ∃ v L, o = .returned v ∧ QNull h0 n0 v U'.heap L ∧ FrameEnd s o U' L 0 0)
  refine own_go (fun _ k => castTop (ef_rm_get_1N m a1 _) k) ?_
  show own_Go p e below (s₁.setTop (mkF m 0 #[.val (.ref a1), .val (.int (1 : Int32)), .unset] [])) _
  refine own_go (fun _ k => XS.aloadN X0.here hx rfl (hb hby d_prog_15_m4_0) rfl rfl k) ?_
  show own_Go p e below (s₁.setTop (mkF m 1 #[.val (.ref a1), .val (.int (1 : Int32)), .unset] [(.ref a1)])) _
  refine own_go (fun _ k => XS.iloadN X0.here hx rfl (hb hby d_prog_15_m4_1) rfl k) ?_
  show own_Go p e below (s₁.setTop (mkF m 2 #[.val (.ref a1), .val (.int (1 : Int32)), .unset] [(.int (1 : Int32)), (.ref a1)])) _
  obtain ⟨cq68, q68, q68'⟩ := E_a.cell
  obtain ⟨v68, _, ⟨T68, L68, k68, n68⟩, -, X68, ⟨Lc68, hQ68, l68, y68, z68⟩, st68⟩ := X0.privateBack hx (y := (⟨"com/example/sequela/sequela/Fields", "start", "(I)I"⟩ : MethodName)) hown (mvT hZ (hw _ (List.mem_of_getElem? (i := 54) rfl))) (mvT hZ (hw _ (List.mem_of_getElem? (i := 55) rfl))) (own_selP hZ (hw _ (List.mem_of_getElem? (i := 5) rfl)) (hw _ (List.mem_of_getElem? (i := 56) rfl)) (hw _ (List.mem_of_getElem? (i := 55) rfl)) (by decide)) (Cond.privateMethod_at (mvP hZ (hw _ (List.mem_of_getElem? (i := 56) rfl)) (args := #[]))) (mvT hZ (hw _ (List.mem_of_getElem? (i := 57) rfl))) (by decide) (backOf (W := 0) (rm_start1 l Z a0 hw [] a1 a2 k2 b b v2 h0 n0 O0 E_a F_e V_a2) hZ (hw _ (List.mem_of_getElem? (i := 57) rfl)) (hw _ (List.mem_of_getElem? (i := 6) rfl)) (by decide) (by decide)) (g := (mkF m 2 #[.val (.ref a1), .val (.int (1 : Int32)), .unset] [(.int (1 : Int32)), (.ref a1)])) rfl (by rw [hml]; rfl) (Steps.refl _) (a := a1) (by rw [e0]; exact q68) q68' (argsL := [(.int (1 : Int32))]) (rest := []) (lenOf pd_10 rfl) rfl (by show 2 * 0 + _ ≤ _; exact Nat.le_of_eq rfl) (hb hby d_prog_15_m4_2) (fun _ _ => ⟨rfl, e0, (by decide : 0 + 0 ≤ _), (by decide : 0 + 0 ≤ _)⟩)
  dsimp only [Pt.U, Pt.locs, Pt.cells, Pt.slots] at X68 l68 y68 z68 st68 hQ68
  subst l68 y68 z68
  refine own_gos st68 ?_
  obtain ⟨rfl, Nq68, e68⟩ := hQ68
  have N68 := Fr.app N0 Nq68
  show own_Go p e below (T68.setTop (mkF m 5 #[.val (.ref a1), .val (.int (1 : Int32)), .unset] [(.int b)])) _
  refine own_go (fun _ k => XS.istoreN X68.here hx rfl (hb hby d_prog_15_m4_5) rfl (l' := #[.val (.ref a1), .val (.int (1 : Int32)), .val (.int b)]) rfl k) ?_
  show own_Go p e below (T68.setTop (mkF m 6 #[.val (.ref a1), .val (.int (1 : Int32)), .val (.int b)] [])) _
  refine own_go (fun _ k => XS.iloadN X68.here hx rfl (hb hby d_prog_15_m4_6) rfl k) ?_
  show own_Go p e below (T68.setTop (mkF m 7 #[.val (.ref a1), .val (.int (1 : Int32)), .val (.int b)] [(.int b)])) _
  refine own_go (fun _ k => XS.aloadN X68.here hx rfl (hb hby d_prog_15_m4_7) rfl rfl k) ?_
  show own_Go p e below (T68.setTop (mkF m 8 #[.val (.ref a1), .val (.int (1 : Int32)), .val (.int b)] [(.ref a1), (.int b)])) _
  obtain ⟨T69, X69, e69, st69⟩ := getF X68 hx hZ hown (host := "") (Or.inl (hw _ (List.mem_of_getElem? (i := 47) rfl))) Via.refl e68 F_e (g := (mkF m 8 #[.val (.ref a1), .val (.int (1 : Int32)), .val (.int b)] [(.ref a1), (.int b)])) rfl rfl (hb hby d_prog_15_m4_8)
  refine own_go st69 ?_
  show own_Go p e below (T69.setTop (mkF m 11 #[.val (.ref a1), .val (.int (1 : Int32)), .val (.int b)] [(.ref a2), (.int b)])) _
  refine own_go (fun _ k => XS.iloadN X69.here hx rfl (hb hby d_prog_15_m4_11) rfl k) ?_
  show own_Go p e below (T69.setTop (mkF m 12 #[.val (.ref a1), .val (.int (1 : Int32)), .val (.int b)] [(.int (1 : Int32)), (.ref a2), (.int b)])) _
  obtain ⟨c70, A70, q70, S70, M70, Hs70, Gs70⟩ := id V_a2
  have hi70 := inb_of (j := (1 : Int32)) S70 ⟨by decide, by decide⟩
  refine own_go (fun _ k => X69.iaload hx (j := (1 : Int32)) (v := (.int b)) (by rw [e69]; exact A70.1) (State.isArrayOf_alike hZ.alike A70.2.1) A70.2.2 hi70 (Has.at Hs70 hi70 rfl) (g := (mkF m 12 #[.val (.ref a1), .val (.int (1 : Int32)), .val (.int b)] [(.int (1 : Int32)), (.ref a2), (.int b)])) rfl rfl (hb hby d_prog_15_m4_12) _ k) ?_
  show own_Go p e below (T69.setTop (mkF m 13 #[.val (.ref a1), .val (.int (1 : Int32)), .val (.int b)] [(.int b), (.int b)])) _
  refine own_go (fun _ k => XS.icmpNo X69.here hx rfl (hb hby d_prog_15_m4_13) rfl (teq (rfl : b = b)).2 k) ?_
  show own_Go p e below (T69.setTop (mkF m 16 #[.val (.ref a1), .val (.int (1 : Int32)), .val (.int b)] [])) _
  refine own_go (fun _ k => XS.aconstNull X69.here hx rfl (hb hby d_prog_15_m4_16) k) ?_
  show own_Go p e below (T69.setTop (mkF m 17 #[.val (.ref a1), .val (.int (1 : Int32)), .val (.int b)] [.null])) _
  refine own_go (fun _ k => XS.goto X69.here hx rfl (pc0 := 17) (pc' := 34) rfl (hb hby d_prog_15_m4_17) (by decide) (by decide) k) ?_
  show own_Go p e below (T69.setTop (mkF m 34 #[.val (.ref a1), .val (.int (1 : Int32)), .val (.int b)] [.null])) _
  refine own_fin (v := (some .null)) X69 (fun h => by rw [hrt] at h; cases h) hlk (fun fs hr => retR X69 hx hrt (by rfl) rfl rfl (hb hby d_prog_15_m4_34) hr) (QQ := QNull h0 n0) ?_ (by decide) (by decide)
  rw [e69]
  exact ⟨rfl, N68, (Keep.refl h0 [])⟩

theorem ef_rm_get_1S (m : MethodId) (x0 : Addr) (x1 : Int32) : entryFrame m #[(.ref x0), (.int x1)] 3 = mkF m 0 #[.val (.ref x0), .val (.int x1), .unset] [] := by
   first | (simp [entryFrame, mkF, argsToLocals, Value.category]; done) | rfl
set_option maxRecDepth 65536 in
set_option maxHeartbeats 40000000 in
theorem rm_get_1S (l : Launch) (Z : State) (a0 : Array Value) (hw : ∀ d ∈ tables_1, d.before a0 Z = true) (ws : List Jvm.Cond) (a1 : Addr) (a2 : Addr) (k2 : ClassId) (a3 : Addr) (a4 : Addr) (k4 : ClassId) (G1 : Int32) (G3 : Value) (v2 : Int32) (c0 : Int32) (c1 : Int32) (c2 : Int32) (c3 : Int32) (c4 : Int32) (c5 : Int32) (c6 : Int32) (b : Int32) (ee : Int32) (z : Int32) (ds : List Int32) (h0 : Heap) (n0 : Nat) (O0 : Old Z n0 h0) (E_a : Exa Z h0 a1 "com/example/sequela/sequela/Fields") (F_e : Fld Z h0 a1 "com/example/sequela/sequela/Fields" "ends" "[I" (.ref a2)) (F_t : Fld Z h0 a1 "com/example/sequela/sequela/Fields" "text" "Ljava/lang/String;" (.ref a3)) (V_a2 : Arv Z h0 a2 k2 .int (3 : Int32) [(.int b), (.int ee), (.int v2)] (.int (0 : Int32))) (E_a3 : Exa Z h0 a3 "java/lang/String") (Fv_a3 : Fld Z h0 a3 "java/lang/String" "value" "[B" (.ref a4)) (Fc_a3 : Fld Z h0 a3 "java/lang/String" "coder" "B" (.int (0 : Int32))) (V_a4 : Arv Z h0 a4 k4 .byte (7 : Int32) ((([c0, c1, c2, c3, c4, c5, c6] : List Int32).map (fun c => c.toInt8.toInt32)).map Value.int) (.int (0 : Int32))) (hp_a3 : ∀ c ∈ ([c0, c1, c2, c3, c4, c5, c6] : List Int32), ¬ c < 0 ∧ ¬ (255 : Int32) < c) (O2 : Sta Z Z.heap "java/lang/String" "COMPACT_STRINGS" "Z" (.int G1)) (P5 : ¬ (G1 = (0 : Int32))) (O4 : Sta Z Z.heap "jdk/internal/util/Preconditions" "SIOOBE_FORMATTER" "Ljava/util/function/BiFunction;" G3) (rG3 : G3.isRef = true) (hne : ¬ (b = ee)) (hR : own_R b ee z) (hU : own_U ds b z ((([c0, c1, c2, c3, c4, c5, c6] : List Int32).map (fun c => c.toInt8.toInt32)).map Value.int)) :
    MetFree l (⟨"com/example/sequela/sequela/Fields", "get", "(I)Ljava/lang/String;"⟩ : MethodName) (head1 (Jvm.Cond.code (⟨"com/example/sequela/sequela/Fields", "get", "(I)Ljava/lang/String;"⟩ : MethodName) prog_15_method_4_code 3 (some (.object "java/lang/String")) :: ws) ({ frames := 5, cells := 2, slots := 6, locals := 80 } : Room)) (fun a U => a = #[(.ref a1), (.int (1 : Int32))] ∧ Z.Warmed39 U.vm ∧ U.heap = h0) (fun _ _ _ _ _ => True) (fun _ U o U' => ∃ v L, o = .returned v ∧ QStr Z z ds h0 n0 v U'.heap L ∧ FrameEnd U o U' L 2 6) := by
  refine MetFree.of_bodySF (plainFor_of_name pn_1) hisR ?_
  intro p e s m args below meth c s₁ Bd hml0 hP hK
  obtain ⟨rfl, hZ, hh⟩ := hP
  have hx := Bd.exec
  have hby := Bd.bytes
  have hml : c.maxLocals = 3 := hml0
  have hown : s.vm.findClass "com/example/sequela/sequela/Fields" = some m.cls := findClass_of_methodNamed Bd.named
  have hnm := (name_of_methodNamed Bd.named Bd.method).1
  have hrt := Bd.returns
  have hlk : meth.locks = false := Bd.notSynchronized
  have X0 : Stand p l e ({ frames := 5, cells := 2, slots := 6, locals := 80 } : Room) s m #[(.ref a1), (.int (1 : Int32))] below meth c s₁ [] 0 0 := Stand.of_body Bd
  have e0 : s₁.heap = h0 := by rw [← hh, Bd.state]; rfl
  have N0 := Fr.nil n0
  have Z0 : n0 ≤ h0.size := O0.1 ▸ O0.2.1
  show own_Go p e below (s₁.setTop (entryFrame m #[(.ref a1), (.int (1 : Int32))] 3)) (fun o U' => ∃ v L, o = .returned v ∧ QStr Z z ds h0 n0 v U'.heap L ∧ FrameEnd s o U' L 2 6)
  refine own_go (fun _ k => castTop (ef_rm_get_1S m a1 _) k) ?_
  show own_Go p e below (s₁.setTop (mkF m 0 #[.val (.ref a1), .val (.int (1 : Int32)), .unset] [])) _
  refine own_go (fun _ k => XS.aloadN X0.here hx rfl (hb hby d_prog_15_m4_0) rfl rfl k) ?_
  show own_Go p e below (s₁.setTop (mkF m 1 #[.val (.ref a1), .val (.int (1 : Int32)), .unset] [(.ref a1)])) _
  refine own_go (fun _ k => XS.iloadN X0.here hx rfl (hb hby d_prog_15_m4_1) rfl k) ?_
  show own_Go p e below (s₁.setTop (mkF m 2 #[.val (.ref a1), .val (.int (1 : Int32)), .unset] [(.int (1 : Int32)), (.ref a1)])) _
  obtain ⟨cq71, q71, q71'⟩ := E_a.cell
  obtain ⟨v71, _, ⟨T71, L71, k71, n71⟩, -, X71, ⟨Lc71, hQ71, l71, y71, z71⟩, st71⟩ := X0.privateBack hx (y := (⟨"com/example/sequela/sequela/Fields", "start", "(I)I"⟩ : MethodName)) hown (mvT hZ (hw _ (List.mem_of_getElem? (i := 54) rfl))) (mvT hZ (hw _ (List.mem_of_getElem? (i := 55) rfl))) (own_selP hZ (hw _ (List.mem_of_getElem? (i := 5) rfl)) (hw _ (List.mem_of_getElem? (i := 56) rfl)) (hw _ (List.mem_of_getElem? (i := 55) rfl)) (by decide)) (Cond.privateMethod_at (mvP hZ (hw _ (List.mem_of_getElem? (i := 56) rfl)) (args := #[]))) (mvT hZ (hw _ (List.mem_of_getElem? (i := 57) rfl))) (by decide) (backOf (W := 0) (rm_start1 l Z a0 hw [] a1 a2 k2 b ee v2 h0 n0 O0 E_a F_e V_a2) hZ (hw _ (List.mem_of_getElem? (i := 57) rfl)) (hw _ (List.mem_of_getElem? (i := 6) rfl)) (by decide) (by decide)) (g := (mkF m 2 #[.val (.ref a1), .val (.int (1 : Int32)), .unset] [(.int (1 : Int32)), (.ref a1)])) rfl (by rw [hml]; rfl) (Steps.refl _) (a := a1) (by rw [e0]; exact q71) q71' (argsL := [(.int (1 : Int32))]) (rest := []) (lenOf pd_10 rfl) rfl (by show 2 * 0 + _ ≤ _; exact Nat.le_of_eq rfl) (hb hby d_prog_15_m4_2) (fun _ _ => ⟨rfl, e0, (by decide : 0 + 0 ≤ _), (by decide : 0 + 0 ≤ _)⟩)
  dsimp only [Pt.U, Pt.locs, Pt.cells, Pt.slots] at X71 l71 y71 z71 st71 hQ71
  subst l71 y71 z71
  refine own_gos st71 ?_
  obtain ⟨rfl, Nq71, e71⟩ := hQ71
  have N71 := Fr.app N0 Nq71
  show own_Go p e below (T71.setTop (mkF m 5 #[.val (.ref a1), .val (.int (1 : Int32)), .unset] [(.int b)])) _
  refine own_go (fun _ k => XS.istoreN X71.here hx rfl (hb hby d_prog_15_m4_5) rfl (l' := #[.val (.ref a1), .val (.int (1 : Int32)), .val (.int b)]) rfl k) ?_
  show own_Go p e below (T71.setTop (mkF m 6 #[.val (.ref a1), .val (.int (1 : Int32)), .val (.int b)] [])) _
  refine own_go (fun _ k => XS.iloadN X71.here hx rfl (hb hby d_prog_15_m4_6) rfl k) ?_
  show own_Go p e below (T71.setTop (mkF m 7 #[.val (.ref a1), .val (.int (1 : Int32)), .val (.int b)] [(.int b)])) _
  refine own_go (fun _ k => XS.aloadN X71.here hx rfl (hb hby d_prog_15_m4_7) rfl rfl k) ?_
  show own_Go p e below (T71.setTop (mkF m 8 #[.val (.ref a1), .val (.int (1 : Int32)), .val (.int b)] [(.ref a1), (.int b)])) _
  obtain ⟨T72, X72, e72, st72⟩ := getF X71 hx hZ hown (host := "") (Or.inl (hw _ (List.mem_of_getElem? (i := 47) rfl))) Via.refl e71 F_e (g := (mkF m 8 #[.val (.ref a1), .val (.int (1 : Int32)), .val (.int b)] [(.ref a1), (.int b)])) rfl rfl (hb hby d_prog_15_m4_8)
  refine own_go st72 ?_
  show own_Go p e below (T72.setTop (mkF m 11 #[.val (.ref a1), .val (.int (1 : Int32)), .val (.int b)] [(.ref a2), (.int b)])) _
  refine own_go (fun _ k => XS.iloadN X72.here hx rfl (hb hby d_prog_15_m4_11) rfl k) ?_
  show own_Go p e below (T72.setTop (mkF m 12 #[.val (.ref a1), .val (.int (1 : Int32)), .val (.int b)] [(.int (1 : Int32)), (.ref a2), (.int b)])) _
  obtain ⟨c73, A73, q73, S73, M73, Hs73, Gs73⟩ := id V_a2
  have hi73 := inb_of (j := (1 : Int32)) S73 ⟨by decide, by decide⟩
  refine own_go (fun _ k => X72.iaload hx (j := (1 : Int32)) (v := (.int ee)) (by rw [e72]; exact A73.1) (State.isArrayOf_alike hZ.alike A73.2.1) A73.2.2 hi73 (Has.at Hs73 hi73 rfl) (g := (mkF m 12 #[.val (.ref a1), .val (.int (1 : Int32)), .val (.int b)] [(.int (1 : Int32)), (.ref a2), (.int b)])) rfl rfl (hb hby d_prog_15_m4_12) _ k) ?_
  show own_Go p e below (T72.setTop (mkF m 13 #[.val (.ref a1), .val (.int (1 : Int32)), .val (.int b)] [(.int ee), (.int b)])) _
  refine own_go (fun _ k => XS.icmpYes X72.here hx rfl (pc0 := 13) (pc' := 20) rfl (hb hby d_prog_15_m4_13) rfl (feq hne).2 (by decide) (by decide) k) ?_
  show own_Go p e below (T72.setTop (mkF m 20 #[.val (.ref a1), .val (.int (1 : Int32)), .val (.int b)] [])) _
  refine own_go (fun _ k => XS.aloadN X72.here hx rfl (hb hby d_prog_15_m4_20) rfl rfl k) ?_
  show own_Go p e below (T72.setTop (mkF m 21 #[.val (.ref a1), .val (.int (1 : Int32)), .val (.int b)] [(.ref a1)])) _
  obtain ⟨T74, X74, e74, st74⟩ := getF X72 hx hZ hown (host := "") (Or.inl (hw _ (List.mem_of_getElem? (i := 45) rfl))) Via.refl e72 F_t (g := (mkF m 21 #[.val (.ref a1), .val (.int (1 : Int32)), .val (.int b)] [(.ref a1)])) rfl rfl (hb hby d_prog_15_m4_21)
  refine own_go st74 ?_
  show own_Go p e below (T74.setTop (mkF m 24 #[.val (.ref a1), .val (.int (1 : Int32)), .val (.int b)] [(.ref a3)])) _
  refine own_go (fun _ k => XS.iloadN X74.here hx rfl (hb hby d_prog_15_m4_24) rfl k) ?_
  show own_Go p e below (T74.setTop (mkF m 25 #[.val (.ref a1), .val (.int (1 : Int32)), .val (.int b)] [(.int b), (.ref a3)])) _
  refine own_go (fun _ k => XS.aloadN X74.here hx rfl (hb hby d_prog_15_m4_25) rfl rfl k) ?_
  show own_Go p e below (T74.setTop (mkF m 26 #[.val (.ref a1), .val (.int (1 : Int32)), .val (.int b)] [(.ref a1), (.int b), (.ref a3)])) _
  obtain ⟨T75, X75, e75, st75⟩ := getF X74 hx hZ hown (host := "") (Or.inl (hw _ (List.mem_of_getElem? (i := 47) rfl))) Via.refl e74 F_e (g := (mkF m 26 #[.val (.ref a1), .val (.int (1 : Int32)), .val (.int b)] [(.ref a1), (.int b), (.ref a3)])) rfl rfl (hb hby d_prog_15_m4_26)
  refine own_go st75 ?_
  show own_Go p e below (T75.setTop (mkF m 29 #[.val (.ref a1), .val (.int (1 : Int32)), .val (.int b)] [(.ref a2), (.int b), (.ref a3)])) _
  refine own_go (fun _ k => XS.iloadN X75.here hx rfl (hb hby d_prog_15_m4_29) rfl k) ?_
  show own_Go p e below (T75.setTop (mkF m 30 #[.val (.ref a1), .val (.int (1 : Int32)), .val (.int b)] [(.int (1 : Int32)), (.ref a2), (.int b), (.ref a3)])) _
  obtain ⟨c76, A76, q76, S76, M76, Hs76, Gs76⟩ := id V_a2
  have hi76 := inb_of (j := (1 : Int32)) S76 ⟨by decide, by decide⟩
  refine own_go (fun _ k => X75.iaload hx (j := (1 : Int32)) (v := (.int ee)) (by rw [e75]; exact A76.1) (State.isArrayOf_alike hZ.alike A76.2.1) A76.2.2 hi76 (Has.at Hs76 hi76 rfl) (g := (mkF m 30 #[.val (.ref a1), .val (.int (1 : Int32)), .val (.int b)] [(.int (1 : Int32)), (.ref a2), (.int b), (.ref a3)])) rfl rfl (hb hby d_prog_15_m4_30) _ k) ?_
  show own_Go p e below (T75.setTop (mkF m 31 #[.val (.ref a1), .val (.int (1 : Int32)), .val (.int b)] [(.int ee), (.int b), (.ref a3)])) _
  obtain ⟨cq77, kq77, q77a, q77b, q77c⟩ := isOf hZ e75 E_a3
  obtain ⟨v77, _, ⟨T77, L77, k77, n77⟩, -, X77, ⟨Lc77, hQ77, l77, y77, z77⟩, st77⟩ := X75.virtualBack hx (y := (⟨"java/lang/String", "substring", "(II)Ljava/lang/String;"⟩ : MethodName)) (z := (⟨"java/lang/String", "substring", "(II)Ljava/lang/String;"⟩ : MethodName)) hown (mvT hZ (hw _ (List.mem_of_getElem? (i := 58) rfl))) (mvT hZ (hw _ (List.mem_of_getElem? (i := 59) rfl))) (notFace_of_selects (args := #[]) (mvT hZ (hw _ (List.mem_of_getElem? (i := 61) rfl)))) (mvT hZ (hw _ (List.mem_of_getElem? (i := 61) rfl))) (mvT hZ (hw _ (List.mem_of_getElem? (i := 60) rfl))) (by decide) (backOf (W := 0) (rm_sub l Z a0 hw [] a3 a4 k4 G1 G3 (c0) (c1) (c2) (c3) (c4) (c5) (c6) b ee z ds h0 n0 O0 E_a3 Fv_a3 Fc_a3 V_a4 hp_a3 O2 P5 O4 rG3 hR hU) hZ (hw _ (List.mem_of_getElem? (i := 62) rfl)) (hw _ (List.mem_of_getElem? (i := 9) rfl)) (by decide) (by decide)) q77a q77c (g := (mkF m 31 #[.val (.ref a1), .val (.int (1 : Int32)), .val (.int b)] [(.int ee), (.int b), (.ref a3)])) rfl (by rw [hml]; rfl) (Steps.refl _) (argsL := [(.int b), (.int ee)]) (rest := []) (lenOf pd_11 rfl) rfl (by show 2 * 0 + _ ≤ _; exact Nat.le_of_eq rfl) (hb hby d_prog_15_m4_31) (fun _ _ => ⟨rfl, e75, (by decide : 0 + 2 ≤ _), (by decide : 0 + 6 ≤ _)⟩)
  dsimp only [Pt.U, Pt.locs, Pt.cells, Pt.slots] at X77 l77 y77 z77 st77 hQ77
  subst l77 y77 z77
  refine own_gos st77 ?_
  obtain ⟨x77, t77, kt77, rfl, Nq77, K77, xg77, tg77, Ex77, Fv77, Fc77, Vt77⟩ := hQ77
  have N77 := Fr.app N71 Nq77
  show own_Go p e below (T77.setTop (mkF m 34 #[.val (.ref a1), .val (.int (1 : Int32)), .val (.int b)] [(.ref x77)])) _
  have f78 := ((Keep.refl h0 []).trans K77 all0)
  refine own_fin (v := (some (.ref x77))) X77 (fun h => by rw [hrt] at h; cases h) hlk (fun fs hr => retR X77 hx hrt (by rfl) rfl rfl (hb hby d_prog_15_m4_34) hr) (QQ := QStr Z z ds h0 n0) ?_ (by decide) (by decide)
  exact ⟨x77, t77, _, rfl, N77, f78, xg77, tg77, Ex77, Fv77, Fc77, Vt77⟩

theorem ef_rm_get_2N (m : MethodId) (x0 : Addr) (x1 : Int32) : entryFrame m #[(.ref x0), (.int x1)] 3 = mkF m 0 #[.val (.ref x0), .val (.int x1), .unset] [] := by
   first | (simp [entryFrame, mkF, argsToLocals, Value.category]; done) | rfl
set_option maxRecDepth 65536 in
set_option maxHeartbeats 40000000 in
theorem rm_get_2N (l : Launch) (Z : State) (a0 : Array Value) (hw : ∀ d ∈ tables_1, d.before a0 Z = true) (ws : List Jvm.Cond) (a1 : Addr) (a2 : Addr) (k2 : ClassId) (a3 : Addr) (a4 : Addr) (k4 : ClassId) (G1 : Int32) (G3 : Value) (v0 : Int32) (c0 : Int32) (c1 : Int32) (c2 : Int32) (c3 : Int32) (c4 : Int32) (c5 : Int32) (c6 : Int32) (b : Int32) (h0 : Heap) (n0 : Nat) (O0 : Old Z n0 h0) (E_a : Exa Z h0 a1 "com/example/sequela/sequela/Fields") (F_e : Fld Z h0 a1 "com/example/sequela/sequela/Fields" "ends" "[I" (.ref a2)) (F_t : Fld Z h0 a1 "com/example/sequela/sequela/Fields" "text" "Ljava/lang/String;" (.ref a3)) (V_a2 : Arv Z h0 a2 k2 .int (3 : Int32) [(.int v0), (.int b), (.int b)] (.int (0 : Int32))) (E_a3 : Exa Z h0 a3 "java/lang/String") (Fv_a3 : Fld Z h0 a3 "java/lang/String" "value" "[B" (.ref a4)) (Fc_a3 : Fld Z h0 a3 "java/lang/String" "coder" "B" (.int (0 : Int32))) (V_a4 : Arv Z h0 a4 k4 .byte (7 : Int32) ((([c0, c1, c2, c3, c4, c5, c6] : List Int32).map (fun c => c.toInt8.toInt32)).map Value.int) (.int (0 : Int32))) (hp_a3 : ∀ c ∈ ([c0, c1, c2, c3, c4, c5, c6] : List Int32), ¬ c < 0 ∧ ¬ (255 : Int32) < c) (O2 : Sta Z Z.heap "java/lang/String" "COMPACT_STRINGS" "Z" (.int G1)) (P5 : ¬ (G1 = (0 : Int32))) (O4 : Sta Z Z.heap "jdk/internal/util/Preconditions" "SIOOBE_FORMATTER" "Ljava/util/function/BiFunction;" G3) (rG3 : G3.isRef = true) :
    MetFree l (⟨"com/example/sequela/sequela/Fields", "get", "(I)Ljava/lang/String;"⟩ : MethodName) (head1 (Jvm.Cond.code (⟨"com/example/sequela/sequela/Fields", "get", "(I)Ljava/lang/String;"⟩ : MethodName) prog_15_method_4_code 3 (some (.object "java/lang/String")) :: ws) ({ frames := 1, cells := 0, slots := 0, locals := 13 } : Room)) (fun a U => a = #[(.ref a1), (.int (2 : Int32))] ∧ Z.Warmed39 U.vm ∧ U.heap = h0) (fun _ _ _ _ _ => True) (fun _ U o U' => ∃ v L, o = .returned v ∧ QNull h0 n0 v U'.heap L ∧ FrameEnd U o U' L 0 0) := by
  refine MetFree.of_bodySF (plainFor_of_name pn_1) hisR ?_
  intro p e s m args below meth c s₁ Bd hml0 hP hK
  obtain ⟨rfl, hZ, hh⟩ := hP
  have hx := Bd.exec
  have hby := Bd.bytes
  have hml : c.maxLocals = 3 := hml0
  have hown : s.vm.findClass "com/example/sequela/sequela/Fields" = some m.cls := findClass_of_methodNamed Bd.named
  have hnm := (name_of_methodNamed Bd.named Bd.method).1
  have hrt := Bd.returns
  have hlk : meth.locks = false := Bd.notSynchronized
  have X0 : Stand p l e ({ frames := 1, cells := 0, slots := 0, locals := 13 } : Room) s m #[(.ref a1), (.int (2 : Int32))] below meth c s₁ [] 0 0 := Stand.of_body Bd
  have e0 : s₁.heap = h0 := by rw [← hh, Bd.state]; rfl
  have N0 := Fr.nil n0
  have Z0 : n0 ≤ h0.size := O0.1 ▸ O0.2.1
  show own_Go p e below (s₁.setTop (entryFrame m #[(.ref a1), (.int (2 : Int32))] 3)) (fun o U' => ∃ v L, o = .returned v ∧ QNull h0 n0 v U'.heap L ∧ FrameEnd s o U' L 0 0)
  refine own_go (fun _ k => castTop (ef_rm_get_2N m a1 _) k) ?_
  show own_Go p e below (s₁.setTop (mkF m 0 #[.val (.ref a1), .val (.int (2 : Int32)), .unset] [])) _
  refine own_go (fun _ k => XS.aloadN X0.here hx rfl (hb hby d_prog_15_m4_0) rfl rfl k) ?_
  show own_Go p e below (s₁.setTop (mkF m 1 #[.val (.ref a1), .val (.int (2 : Int32)), .unset] [(.ref a1)])) _
  refine own_go (fun _ k => XS.iloadN X0.here hx rfl (hb hby d_prog_15_m4_1) rfl k) ?_
  show own_Go p e below (s₁.setTop (mkF m 2 #[.val (.ref a1), .val (.int (2 : Int32)), .unset] [(.int (2 : Int32)), (.ref a1)])) _
  obtain ⟨cq79, q79, q79'⟩ := E_a.cell
  obtain ⟨v79, _, ⟨T79, L79, k79, n79⟩, -, X79, ⟨Lc79, hQ79, l79, y79, z79⟩, st79⟩ := X0.privateBack hx (y := (⟨"com/example/sequela/sequela/Fields", "start", "(I)I"⟩ : MethodName)) hown (mvT hZ (hw _ (List.mem_of_getElem? (i := 54) rfl))) (mvT hZ (hw _ (List.mem_of_getElem? (i := 55) rfl))) (own_selP hZ (hw _ (List.mem_of_getElem? (i := 5) rfl)) (hw _ (List.mem_of_getElem? (i := 56) rfl)) (hw _ (List.mem_of_getElem? (i := 55) rfl)) (by decide)) (Cond.privateMethod_at (mvP hZ (hw _ (List.mem_of_getElem? (i := 56) rfl)) (args := #[]))) (mvT hZ (hw _ (List.mem_of_getElem? (i := 57) rfl))) (by decide) (backOf (W := 0) (rm_start2 l Z a0 hw [] a1 a2 k2 v0 b b h0 n0 O0 E_a F_e V_a2) hZ (hw _ (List.mem_of_getElem? (i := 57) rfl)) (hw _ (List.mem_of_getElem? (i := 6) rfl)) (by decide) (by decide)) (g := (mkF m 2 #[.val (.ref a1), .val (.int (2 : Int32)), .unset] [(.int (2 : Int32)), (.ref a1)])) rfl (by rw [hml]; rfl) (Steps.refl _) (a := a1) (by rw [e0]; exact q79) q79' (argsL := [(.int (2 : Int32))]) (rest := []) (lenOf pd_10 rfl) rfl (by show 2 * 0 + _ ≤ _; exact Nat.le_of_eq rfl) (hb hby d_prog_15_m4_2) (fun _ _ => ⟨rfl, e0, (by decide : 0 + 0 ≤ _), (by decide : 0 + 0 ≤ _)⟩)
  dsimp only [Pt.U, Pt.locs, Pt.cells, Pt.slots] at X79 l79 y79 z79 st79 hQ79
  subst l79 y79 z79
  refine own_gos st79 ?_
  obtain ⟨rfl, Nq79, e79⟩ := hQ79
  have N79 := Fr.app N0 Nq79
  show own_Go p e below (T79.setTop (mkF m 5 #[.val (.ref a1), .val (.int (2 : Int32)), .unset] [(.int b)])) _
  refine own_go (fun _ k => XS.istoreN X79.here hx rfl (hb hby d_prog_15_m4_5) rfl (l' := #[.val (.ref a1), .val (.int (2 : Int32)), .val (.int b)]) rfl k) ?_
  show own_Go p e below (T79.setTop (mkF m 6 #[.val (.ref a1), .val (.int (2 : Int32)), .val (.int b)] [])) _
  refine own_go (fun _ k => XS.iloadN X79.here hx rfl (hb hby d_prog_15_m4_6) rfl k) ?_
  show own_Go p e below (T79.setTop (mkF m 7 #[.val (.ref a1), .val (.int (2 : Int32)), .val (.int b)] [(.int b)])) _
  refine own_go (fun _ k => XS.aloadN X79.here hx rfl (hb hby d_prog_15_m4_7) rfl rfl k) ?_
  show own_Go p e below (T79.setTop (mkF m 8 #[.val (.ref a1), .val (.int (2 : Int32)), .val (.int b)] [(.ref a1), (.int b)])) _
  obtain ⟨T80, X80, e80, st80⟩ := getF X79 hx hZ hown (host := "") (Or.inl (hw _ (List.mem_of_getElem? (i := 47) rfl))) Via.refl e79 F_e (g := (mkF m 8 #[.val (.ref a1), .val (.int (2 : Int32)), .val (.int b)] [(.ref a1), (.int b)])) rfl rfl (hb hby d_prog_15_m4_8)
  refine own_go st80 ?_
  show own_Go p e below (T80.setTop (mkF m 11 #[.val (.ref a1), .val (.int (2 : Int32)), .val (.int b)] [(.ref a2), (.int b)])) _
  refine own_go (fun _ k => XS.iloadN X80.here hx rfl (hb hby d_prog_15_m4_11) rfl k) ?_
  show own_Go p e below (T80.setTop (mkF m 12 #[.val (.ref a1), .val (.int (2 : Int32)), .val (.int b)] [(.int (2 : Int32)), (.ref a2), (.int b)])) _
  obtain ⟨c81, A81, q81, S81, M81, Hs81, Gs81⟩ := id V_a2
  have hi81 := inb_of (j := (2 : Int32)) S81 ⟨by decide, by decide⟩
  refine own_go (fun _ k => X80.iaload hx (j := (2 : Int32)) (v := (.int b)) (by rw [e80]; exact A81.1) (State.isArrayOf_alike hZ.alike A81.2.1) A81.2.2 hi81 (Has.at Hs81 hi81 rfl) (g := (mkF m 12 #[.val (.ref a1), .val (.int (2 : Int32)), .val (.int b)] [(.int (2 : Int32)), (.ref a2), (.int b)])) rfl rfl (hb hby d_prog_15_m4_12) _ k) ?_
  show own_Go p e below (T80.setTop (mkF m 13 #[.val (.ref a1), .val (.int (2 : Int32)), .val (.int b)] [(.int b), (.int b)])) _
  refine own_go (fun _ k => XS.icmpNo X80.here hx rfl (hb hby d_prog_15_m4_13) rfl (teq (rfl : b = b)).2 k) ?_
  show own_Go p e below (T80.setTop (mkF m 16 #[.val (.ref a1), .val (.int (2 : Int32)), .val (.int b)] [])) _
  refine own_go (fun _ k => XS.aconstNull X80.here hx rfl (hb hby d_prog_15_m4_16) k) ?_
  show own_Go p e below (T80.setTop (mkF m 17 #[.val (.ref a1), .val (.int (2 : Int32)), .val (.int b)] [.null])) _
  refine own_go (fun _ k => XS.goto X80.here hx rfl (pc0 := 17) (pc' := 34) rfl (hb hby d_prog_15_m4_17) (by decide) (by decide) k) ?_
  show own_Go p e below (T80.setTop (mkF m 34 #[.val (.ref a1), .val (.int (2 : Int32)), .val (.int b)] [.null])) _
  refine own_fin (v := (some .null)) X80 (fun h => by rw [hrt] at h; cases h) hlk (fun fs hr => retR X80 hx hrt (by rfl) rfl rfl (hb hby d_prog_15_m4_34) hr) (QQ := QNull h0 n0) ?_ (by decide) (by decide)
  rw [e80]
  exact ⟨rfl, N79, (Keep.refl h0 [])⟩

theorem ef_rm_get_2S (m : MethodId) (x0 : Addr) (x1 : Int32) : entryFrame m #[(.ref x0), (.int x1)] 3 = mkF m 0 #[.val (.ref x0), .val (.int x1), .unset] [] := by
   first | (simp [entryFrame, mkF, argsToLocals, Value.category]; done) | rfl
set_option maxRecDepth 65536 in
set_option maxHeartbeats 40000000 in
theorem rm_get_2S (l : Launch) (Z : State) (a0 : Array Value) (hw : ∀ d ∈ tables_1, d.before a0 Z = true) (ws : List Jvm.Cond) (a1 : Addr) (a2 : Addr) (k2 : ClassId) (a3 : Addr) (a4 : Addr) (k4 : ClassId) (G1 : Int32) (G3 : Value) (v0 : Int32) (c0 : Int32) (c1 : Int32) (c2 : Int32) (c3 : Int32) (c4 : Int32) (c5 : Int32) (c6 : Int32) (b : Int32) (ee : Int32) (z : Int32) (ds : List Int32) (h0 : Heap) (n0 : Nat) (O0 : Old Z n0 h0) (E_a : Exa Z h0 a1 "com/example/sequela/sequela/Fields") (F_e : Fld Z h0 a1 "com/example/sequela/sequela/Fields" "ends" "[I" (.ref a2)) (F_t : Fld Z h0 a1 "com/example/sequela/sequela/Fields" "text" "Ljava/lang/String;" (.ref a3)) (V_a2 : Arv Z h0 a2 k2 .int (3 : Int32) [(.int v0), (.int b), (.int ee)] (.int (0 : Int32))) (E_a3 : Exa Z h0 a3 "java/lang/String") (Fv_a3 : Fld Z h0 a3 "java/lang/String" "value" "[B" (.ref a4)) (Fc_a3 : Fld Z h0 a3 "java/lang/String" "coder" "B" (.int (0 : Int32))) (V_a4 : Arv Z h0 a4 k4 .byte (7 : Int32) ((([c0, c1, c2, c3, c4, c5, c6] : List Int32).map (fun c => c.toInt8.toInt32)).map Value.int) (.int (0 : Int32))) (hp_a3 : ∀ c ∈ ([c0, c1, c2, c3, c4, c5, c6] : List Int32), ¬ c < 0 ∧ ¬ (255 : Int32) < c) (O2 : Sta Z Z.heap "java/lang/String" "COMPACT_STRINGS" "Z" (.int G1)) (P5 : ¬ (G1 = (0 : Int32))) (O4 : Sta Z Z.heap "jdk/internal/util/Preconditions" "SIOOBE_FORMATTER" "Ljava/util/function/BiFunction;" G3) (rG3 : G3.isRef = true) (hne : ¬ (b = ee)) (hR : own_R b ee z) (hU : own_U ds b z ((([c0, c1, c2, c3, c4, c5, c6] : List Int32).map (fun c => c.toInt8.toInt32)).map Value.int)) :
    MetFree l (⟨"com/example/sequela/sequela/Fields", "get", "(I)Ljava/lang/String;"⟩ : MethodName) (head1 (Jvm.Cond.code (⟨"com/example/sequela/sequela/Fields", "get", "(I)Ljava/lang/String;"⟩ : MethodName) prog_15_method_4_code 3 (some (.object "java/lang/String")) :: ws) ({ frames := 5, cells := 2, slots := 6, locals := 80 } : Room)) (fun a U => a = #[(.ref a1), (.int (2 : Int32))] ∧ Z.Warmed39 U.vm ∧ U.heap = h0) (fun _ _ _ _ _ => True) (fun _ U o U' => ∃ v L, o = .returned v ∧ QStr Z z ds h0 n0 v U'.heap L ∧ FrameEnd U o U' L 2 6) := by
  refine MetFree.of_bodySF (plainFor_of_name pn_1) hisR ?_
  intro p e s m args below meth c s₁ Bd hml0 hP hK
  obtain ⟨rfl, hZ, hh⟩ := hP
  have hx := Bd.exec
  have hby := Bd.bytes
  have hml : c.maxLocals = 3 := hml0
  have hown : s.vm.findClass "com/example/sequela/sequela/Fields" = some m.cls := findClass_of_methodNamed Bd.named
  have hnm := (name_of_methodNamed Bd.named Bd.method).1
  have hrt := Bd.returns
  have hlk : meth.locks = false := Bd.notSynchronized
  have X0 : Stand p l e ({ frames := 5, cells := 2, slots := 6, locals := 80 } : Room) s m #[(.ref a1), (.int (2 : Int32))] below meth c s₁ [] 0 0 := Stand.of_body Bd
  have e0 : s₁.heap = h0 := by rw [← hh, Bd.state]; rfl
  have N0 := Fr.nil n0
  have Z0 : n0 ≤ h0.size := O0.1 ▸ O0.2.1
  show own_Go p e below (s₁.setTop (entryFrame m #[(.ref a1), (.int (2 : Int32))] 3)) (fun o U' => ∃ v L, o = .returned v ∧ QStr Z z ds h0 n0 v U'.heap L ∧ FrameEnd s o U' L 2 6)
  refine own_go (fun _ k => castTop (ef_rm_get_2S m a1 _) k) ?_
  show own_Go p e below (s₁.setTop (mkF m 0 #[.val (.ref a1), .val (.int (2 : Int32)), .unset] [])) _
  refine own_go (fun _ k => XS.aloadN X0.here hx rfl (hb hby d_prog_15_m4_0) rfl rfl k) ?_
  show own_Go p e below (s₁.setTop (mkF m 1 #[.val (.ref a1), .val (.int (2 : Int32)), .unset] [(.ref a1)])) _
  refine own_go (fun _ k => XS.iloadN X0.here hx rfl (hb hby d_prog_15_m4_1) rfl k) ?_
  show own_Go p e below (s₁.setTop (mkF m 2 #[.val (.ref a1), .val (.int (2 : Int32)), .unset] [(.int (2 : Int32)), (.ref a1)])) _
  obtain ⟨cq82, q82, q82'⟩ := E_a.cell
  obtain ⟨v82, _, ⟨T82, L82, k82, n82⟩, -, X82, ⟨Lc82, hQ82, l82, y82, z82⟩, st82⟩ := X0.privateBack hx (y := (⟨"com/example/sequela/sequela/Fields", "start", "(I)I"⟩ : MethodName)) hown (mvT hZ (hw _ (List.mem_of_getElem? (i := 54) rfl))) (mvT hZ (hw _ (List.mem_of_getElem? (i := 55) rfl))) (own_selP hZ (hw _ (List.mem_of_getElem? (i := 5) rfl)) (hw _ (List.mem_of_getElem? (i := 56) rfl)) (hw _ (List.mem_of_getElem? (i := 55) rfl)) (by decide)) (Cond.privateMethod_at (mvP hZ (hw _ (List.mem_of_getElem? (i := 56) rfl)) (args := #[]))) (mvT hZ (hw _ (List.mem_of_getElem? (i := 57) rfl))) (by decide) (backOf (W := 0) (rm_start2 l Z a0 hw [] a1 a2 k2 v0 b ee h0 n0 O0 E_a F_e V_a2) hZ (hw _ (List.mem_of_getElem? (i := 57) rfl)) (hw _ (List.mem_of_getElem? (i := 6) rfl)) (by decide) (by decide)) (g := (mkF m 2 #[.val (.ref a1), .val (.int (2 : Int32)), .unset] [(.int (2 : Int32)), (.ref a1)])) rfl (by rw [hml]; rfl) (Steps.refl _) (a := a1) (by rw [e0]; exact q82) q82' (argsL := [(.int (2 : Int32))]) (rest := []) (lenOf pd_10 rfl) rfl (by show 2 * 0 + _ ≤ _; exact Nat.le_of_eq rfl) (hb hby d_prog_15_m4_2) (fun _ _ => ⟨rfl, e0, (by decide : 0 + 0 ≤ _), (by decide : 0 + 0 ≤ _)⟩)
  dsimp only [Pt.U, Pt.locs, Pt.cells, Pt.slots] at X82 l82 y82 z82 st82 hQ82
  subst l82 y82 z82
  refine own_gos st82 ?_
  obtain ⟨rfl, Nq82, e82⟩ := hQ82
  have N82 := Fr.app N0 Nq82
  show own_Go p e below (T82.setTop (mkF m 5 #[.val (.ref a1), .val (.int (2 : Int32)), .unset] [(.int b)])) _
  refine own_go (fun _ k => XS.istoreN X82.here hx rfl (hb hby d_prog_15_m4_5) rfl (l' := #[.val (.ref a1), .val (.int (2 : Int32)), .val (.int b)]) rfl k) ?_
  show own_Go p e below (T82.setTop (mkF m 6 #[.val (.ref a1), .val (.int (2 : Int32)), .val (.int b)] [])) _
  refine own_go (fun _ k => XS.iloadN X82.here hx rfl (hb hby d_prog_15_m4_6) rfl k) ?_
  show own_Go p e below (T82.setTop (mkF m 7 #[.val (.ref a1), .val (.int (2 : Int32)), .val (.int b)] [(.int b)])) _
  refine own_go (fun _ k => XS.aloadN X82.here hx rfl (hb hby d_prog_15_m4_7) rfl rfl k) ?_
  show own_Go p e below (T82.setTop (mkF m 8 #[.val (.ref a1), .val (.int (2 : Int32)), .val (.int b)] [(.ref a1), (.int b)])) _
  obtain ⟨T83, X83, e83, st83⟩ := getF X82 hx hZ hown (host := "") (Or.inl (hw _ (List.mem_of_getElem? (i := 47) rfl))) Via.refl e82 F_e (g := (mkF m 8 #[.val (.ref a1), .val (.int (2 : Int32)), .val (.int b)] [(.ref a1), (.int b)])) rfl rfl (hb hby d_prog_15_m4_8)
  refine own_go st83 ?_
  show own_Go p e below (T83.setTop (mkF m 11 #[.val (.ref a1), .val (.int (2 : Int32)), .val (.int b)] [(.ref a2), (.int b)])) _
  refine own_go (fun _ k => XS.iloadN X83.here hx rfl (hb hby d_prog_15_m4_11) rfl k) ?_
  show own_Go p e below (T83.setTop (mkF m 12 #[.val (.ref a1), .val (.int (2 : Int32)), .val (.int b)] [(.int (2 : Int32)), (.ref a2), (.int b)])) _
  obtain ⟨c84, A84, q84, S84, M84, Hs84, Gs84⟩ := id V_a2
  have hi84 := inb_of (j := (2 : Int32)) S84 ⟨by decide, by decide⟩
  refine own_go (fun _ k => X83.iaload hx (j := (2 : Int32)) (v := (.int ee)) (by rw [e83]; exact A84.1) (State.isArrayOf_alike hZ.alike A84.2.1) A84.2.2 hi84 (Has.at Hs84 hi84 rfl) (g := (mkF m 12 #[.val (.ref a1), .val (.int (2 : Int32)), .val (.int b)] [(.int (2 : Int32)), (.ref a2), (.int b)])) rfl rfl (hb hby d_prog_15_m4_12) _ k) ?_
  show own_Go p e below (T83.setTop (mkF m 13 #[.val (.ref a1), .val (.int (2 : Int32)), .val (.int b)] [(.int ee), (.int b)])) _
  refine own_go (fun _ k => XS.icmpYes X83.here hx rfl (pc0 := 13) (pc' := 20) rfl (hb hby d_prog_15_m4_13) rfl (feq hne).2 (by decide) (by decide) k) ?_
  show own_Go p e below (T83.setTop (mkF m 20 #[.val (.ref a1), .val (.int (2 : Int32)), .val (.int b)] [])) _
  refine own_go (fun _ k => XS.aloadN X83.here hx rfl (hb hby d_prog_15_m4_20) rfl rfl k) ?_
  show own_Go p e below (T83.setTop (mkF m 21 #[.val (.ref a1), .val (.int (2 : Int32)), .val (.int b)] [(.ref a1)])) _
  obtain ⟨T85, X85, e85, st85⟩ := getF X83 hx hZ hown (host := "") (Or.inl (hw _ (List.mem_of_getElem? (i := 45) rfl))) Via.refl e83 F_t (g := (mkF m 21 #[.val (.ref a1), .val (.int (2 : Int32)), .val (.int b)] [(.ref a1)])) rfl rfl (hb hby d_prog_15_m4_21)
  refine own_go st85 ?_
  show own_Go p e below (T85.setTop (mkF m 24 #[.val (.ref a1), .val (.int (2 : Int32)), .val (.int b)] [(.ref a3)])) _
  refine own_go (fun _ k => XS.iloadN X85.here hx rfl (hb hby d_prog_15_m4_24) rfl k) ?_
  show own_Go p e below (T85.setTop (mkF m 25 #[.val (.ref a1), .val (.int (2 : Int32)), .val (.int b)] [(.int b), (.ref a3)])) _
  refine own_go (fun _ k => XS.aloadN X85.here hx rfl (hb hby d_prog_15_m4_25) rfl rfl k) ?_
  show own_Go p e below (T85.setTop (mkF m 26 #[.val (.ref a1), .val (.int (2 : Int32)), .val (.int b)] [(.ref a1), (.int b), (.ref a3)])) _
  obtain ⟨T86, X86, e86, st86⟩ := getF X85 hx hZ hown (host := "") (Or.inl (hw _ (List.mem_of_getElem? (i := 47) rfl))) Via.refl e85 F_e (g := (mkF m 26 #[.val (.ref a1), .val (.int (2 : Int32)), .val (.int b)] [(.ref a1), (.int b), (.ref a3)])) rfl rfl (hb hby d_prog_15_m4_26)
  refine own_go st86 ?_
  show own_Go p e below (T86.setTop (mkF m 29 #[.val (.ref a1), .val (.int (2 : Int32)), .val (.int b)] [(.ref a2), (.int b), (.ref a3)])) _
  refine own_go (fun _ k => XS.iloadN X86.here hx rfl (hb hby d_prog_15_m4_29) rfl k) ?_
  show own_Go p e below (T86.setTop (mkF m 30 #[.val (.ref a1), .val (.int (2 : Int32)), .val (.int b)] [(.int (2 : Int32)), (.ref a2), (.int b), (.ref a3)])) _
  obtain ⟨c87, A87, q87, S87, M87, Hs87, Gs87⟩ := id V_a2
  have hi87 := inb_of (j := (2 : Int32)) S87 ⟨by decide, by decide⟩
  refine own_go (fun _ k => X86.iaload hx (j := (2 : Int32)) (v := (.int ee)) (by rw [e86]; exact A87.1) (State.isArrayOf_alike hZ.alike A87.2.1) A87.2.2 hi87 (Has.at Hs87 hi87 rfl) (g := (mkF m 30 #[.val (.ref a1), .val (.int (2 : Int32)), .val (.int b)] [(.int (2 : Int32)), (.ref a2), (.int b), (.ref a3)])) rfl rfl (hb hby d_prog_15_m4_30) _ k) ?_
  show own_Go p e below (T86.setTop (mkF m 31 #[.val (.ref a1), .val (.int (2 : Int32)), .val (.int b)] [(.int ee), (.int b), (.ref a3)])) _
  obtain ⟨cq88, kq88, q88a, q88b, q88c⟩ := isOf hZ e86 E_a3
  obtain ⟨v88, _, ⟨T88, L88, k88, n88⟩, -, X88, ⟨Lc88, hQ88, l88, y88, z88⟩, st88⟩ := X86.virtualBack hx (y := (⟨"java/lang/String", "substring", "(II)Ljava/lang/String;"⟩ : MethodName)) (z := (⟨"java/lang/String", "substring", "(II)Ljava/lang/String;"⟩ : MethodName)) hown (mvT hZ (hw _ (List.mem_of_getElem? (i := 58) rfl))) (mvT hZ (hw _ (List.mem_of_getElem? (i := 59) rfl))) (notFace_of_selects (args := #[]) (mvT hZ (hw _ (List.mem_of_getElem? (i := 61) rfl)))) (mvT hZ (hw _ (List.mem_of_getElem? (i := 61) rfl))) (mvT hZ (hw _ (List.mem_of_getElem? (i := 60) rfl))) (by decide) (backOf (W := 0) (rm_sub l Z a0 hw [] a3 a4 k4 G1 G3 (c0) (c1) (c2) (c3) (c4) (c5) (c6) b ee z ds h0 n0 O0 E_a3 Fv_a3 Fc_a3 V_a4 hp_a3 O2 P5 O4 rG3 hR hU) hZ (hw _ (List.mem_of_getElem? (i := 62) rfl)) (hw _ (List.mem_of_getElem? (i := 9) rfl)) (by decide) (by decide)) q88a q88c (g := (mkF m 31 #[.val (.ref a1), .val (.int (2 : Int32)), .val (.int b)] [(.int ee), (.int b), (.ref a3)])) rfl (by rw [hml]; rfl) (Steps.refl _) (argsL := [(.int b), (.int ee)]) (rest := []) (lenOf pd_11 rfl) rfl (by show 2 * 0 + _ ≤ _; exact Nat.le_of_eq rfl) (hb hby d_prog_15_m4_31) (fun _ _ => ⟨rfl, e86, (by decide : 0 + 2 ≤ _), (by decide : 0 + 6 ≤ _)⟩)
  dsimp only [Pt.U, Pt.locs, Pt.cells, Pt.slots] at X88 l88 y88 z88 st88 hQ88
  subst l88 y88 z88
  refine own_gos st88 ?_
  obtain ⟨x88, t88, kt88, rfl, Nq88, K88, xg88, tg88, Ex88, Fv88, Fc88, Vt88⟩ := hQ88
  have N88 := Fr.app N82 Nq88
  show own_Go p e below (T88.setTop (mkF m 34 #[.val (.ref a1), .val (.int (2 : Int32)), .val (.int b)] [(.ref x88)])) _
  have f89 := ((Keep.refl h0 []).trans K88 all0)
  refine own_fin (v := (some (.ref x88))) X88 (fun h => by rw [hrt] at h; cases h) hlk (fun fs hr => retR X88 hx hrt (by rfl) rfl rfl (hb hby d_prog_15_m4_34) hr) (QQ := QStr Z z ds h0 n0) ?_ (by decide) (by decide)
  exact ⟨x88, t88, _, rfl, N88, f89, xg88, tg88, Ex88, Fv88, Fc88, Vt88⟩

theorem own_wStr {Z : State} {a0 : Array Value} (hw : ∀ d ∈ tables_1, d.before a0 Z = true) : ∀ d ∈ StrChars.Road.words, d.before a0 Z = true := fun d hd => hw d ((by decide +kernel : ∀ d ∈ StrChars.Road.words, d ∈ tables_1) d hd)
def own_c0 (v : Int64) : Int32 := nar .char ((v &&& (255 : Int64)).toInt32.toUInt32.toUInt16.toUInt32.toInt32)
def own_c (v : Int64) (k : Int32) : Int32 := own_c0 ((v.toUInt64 >>> (k &&& 0x3f).toInt64.toUInt64).toInt64)
theorem own_c0r (v : Int64) : ¬ own_c0 v < 0 ∧ ¬ (255 : Int32) < own_c0 v := by
  have t : ∀ k : Fin 256, ¬ nar .char ((Int64.ofNat k.val).toInt32.toUInt32.toUInt16.toUInt32.toInt32) < 0 ∧ ¬ (255 : Int32) < nar .char ((Int64.ofNat k.val).toInt32.toUInt32.toUInt16.toUInt32.toInt32) := by decide +kernel
  have h : (v &&& 255).toBitVec.toNat < 256 := by
    simp only [Int64.toBitVec_and, BitVec.toNat_and]
    exact Nat.lt_succ_of_le Nat.and_le_right
  have e : (v &&& 255) = Int64.ofNat (v &&& 255).toBitVec.toNat := by
    apply Int64.toBitVec_inj.mp
    show _ = BitVec.ofNat 64 _
    rw [BitVec.ofNat_toNat]; simp
  unfold own_c0
  rw [e]
  exact t ⟨_, h⟩
theorem own_c7 (v : Int64) : ∀ c ∈ ([own_c0 v, own_c v 8, own_c v 16, own_c v 24, own_c v 32, own_c v 40, own_c v 48] : List Int32), ¬ c < 0 ∧ ¬ (255 : Int32) < c := fun c hc => by
  simp only [List.mem_cons, List.not_mem_nil, or_false] at hc
  rcases hc with rfl | rfl | rfl | rfl | rfl | rfl | rfl <;> first | exact own_c0r _ | (unfold own_c; exact own_c0r _)
theorem own_m3 (x : Int32) : (x &&& (255 : Int32)) % (3 : Int32) = 0 ∨ (x &&& (255 : Int32)) % (3 : Int32) = 1 ∨ (x &&& (255 : Int32)) % (3 : Int32) = 2 := by
  have t : ∀ k : Fin 256, (Int32.ofNat k.val) % (3 : Int32) = 0 ∨ (Int32.ofNat k.val) % (3 : Int32) = 1 ∨ (Int32.ofNat k.val) % (3 : Int32) = 2 := by decide +kernel
  have h : (x &&& 255).toBitVec.toNat < 256 := by
    simp only [Int32.toBitVec_and, BitVec.toNat_and]
    exact Nat.lt_succ_of_le Nat.and_le_right
  have e : (x &&& 255) = Int32.ofNat (x &&& 255).toBitVec.toNat := by
    apply Int32.toBitVec_inj.mp
    show _ = BitVec.ofNat 32 _
    rw [BitVec.ofNat_toNat]; simp
  rw [e]
  exact t ⟨_, h⟩
theorem own_nn (x : Int32) : 0 ≤ (x &&& (2147483647 : Int32)).toInt := by
  have e : (x &&& (2147483647 : Int32)).toInt = ((x.toBitVec &&& 2147483647#32).toNat : Int) := by
    show (x.toBitVec &&& 2147483647#32).toInt = _
    rw [BitVec.toInt_eq_toNat_of_lt]
    rw [BitVec.toNat_and]
    have := @Nat.and_le_right x.toBitVec.toNat (2147483647#32).toNat
    simp at this ⊢; omega
  rw [e]; exact Int.natCast_nonneg _
theorem own_i3 (x : Int32) : (x &&& (2147483647 : Int32)) % (3 : Int32) = 0 ∨ (x &&& (2147483647 : Int32)) % (3 : Int32) = 1 ∨ (x &&& (2147483647 : Int32)) % (3 : Int32) = 2 := by
  have h := own_nn x
  have e : ((x &&& (2147483647 : Int32)) % (3 : Int32)).toInt = (x &&& (2147483647 : Int32)).toInt.tmod 3 := Int32.toInt_mod ..
  rw [Int.tmod_eq_emod_of_nonneg h] at e
  have : (x &&& (2147483647 : Int32)).toInt % 3 = 0 ∨ (x &&& (2147483647 : Int32)).toInt % 3 = 1 ∨ (x &&& (2147483647 : Int32)).toInt % 3 = 2 := by omega
  rcases this with q | q | q <;> rw [q] at e
  · exact Or.inl (Int32.toInt_inj.mp e)
  · exact Or.inr (Or.inl (Int32.toInt_inj.mp e))
  · exact Or.inr (Or.inr (Int32.toInt_inj.mp e))
def QQ0 (n0 : Nat) (v : Option Value) (h : Heap) (L : List Loc) : Prop := v = some (.int 1) ∧ Fr n0 L
theorem pn_6 : plainName "com/example/sequela/sequela/FieldsGetPinLaw" = true := by first | (simp [plainName, overriddenIn]; done) | decide +kernel
set_option maxRecDepth 65536 in
set_option maxHeartbeats 40000000 in
theorem tail_0_0 (l : Launch) (Z : State) (a0 : Array Value) (hw : ∀ d ∈ tables_1, d.before a0 Z = true) (p1 : Int64) (p2 : Int32) (p3 : Int32) (ca : Addr) (kc : ClassId) (ea : Addr) (fo : Addr) (l1 : Int32) (l2 : Int32) (G1 : Int32) (G3 : Value) (c0 : Int32) (c1 : Int32) (c2 : Int32) (c3 : Int32) (c4 : Int32) (c5 : Int32) (c6 : Int32) (h0 : Heap) (n0 : Nat) {p : Program} {e : Env} {s : State} {m : MethodId} {below : List Frame} {meth : Method} {c : Code} {T0 : State} {locs : List Loc} (X0 : Stand p l e room_1 s m #[(.long p1), (.int p2), (.int p3)] below meth c T0 locs 5 23) (hx : p.tables.exec = Jvm.exec) (hby : c.code = code) (hml : c.maxLocals = maxLocals) (hown : s.vm.findClass "com/example/sequela/sequela/FieldsGetPinLaw" = some m.cls) (hZ : Z.Warmed39 s.vm) (hrt : meth.sig.returnType = ret) (hlk : meth.locks = false) (h1 : Heap) (e0 : T0.heap = h1) (N0 : Fr n0 locs) (Z0 : n0 ≤ h1.size) (O1 : Old Z n0 h1) (V_ca : Arv Z h1 ca kc .char (7 : Int32) [(.int c0), (.int c1), (.int c2), (.int c3), (.int c4), (.int c5), (.int c6)] (.int (0 : Int32))) (O2 : Sta Z Z.heap "java/lang/String" "COMPACT_STRINGS" "Z" (.int G1)) (P5 : ¬ (G1 = (0 : Int32))) (O4 : Sta Z Z.heap "jdk/internal/util/Preconditions" "SIOOBE_FORMATTER" "Ljava/util/function/BiFunction;" G3) (rG3 : G3.isRef = true) :
    own_Go p e below (T0.setTop (mkF m 202 #[.val (.long p1), .second, .val (.int p2), .val (.int p3), .val (.ref ca), .val (.int (0 : Int32)), .val (.int l1), .val (.int l2), .val (.ref ea), .val (.int (0 : Int32)), .val (.ref fo), .unset, .unset, .unset] [.null])) (fun o U' => ∃ v L, o = .returned v ∧ QQ0 n0 v U'.heap L ∧ FrameEnd s o U' L 24 128) := by
  show own_Go p e below (T0.setTop (mkF m 202 #[.val (.long p1), .second, .val (.int p2), .val (.int p3), .val (.ref ca), .val (.int (0 : Int32)), .val (.int l1), .val (.int l2), .val (.ref ea), .val (.int (0 : Int32)), .val (.ref fo), .unset, .unset, .unset] [.null])) _
  refine own_go (fun _ k => XS.astore X0.here hx rfl (hb hby at_202) rfl rfl (l' := #[.val (.long p1), .second, .val (.int p2), .val (.int p3), .val (.ref ca), .val (.int (0 : Int32)), .val (.int l1), .val (.int l2), .val (.ref ea), .val (.int (0 : Int32)), .val (.ref fo), .val .null, .unset, .unset]) rfl k) ?_
  show own_Go p e below (T0.setTop (mkF m 204 #[.val (.long p1), .second, .val (.int p2), .val (.int p3), .val (.ref ca), .val (.int (0 : Int32)), .val (.int l1), .val (.int l2), .val (.ref ea), .val (.int (0 : Int32)), .val (.ref fo), .val .null, .unset, .unset] [])) _
  refine own_go (fun _ k => XS.iload X0.here hx rfl (hb hby at_204) rfl k) ?_
  show own_Go p e below (T0.setTop (mkF m 206 #[.val (.long p1), .second, .val (.int p2), .val (.int p3), .val (.ref ca), .val (.int (0 : Int32)), .val (.int l1), .val (.int l2), .val (.ref ea), .val (.int (0 : Int32)), .val (.ref fo), .val .null, .unset, .unset] [(.int (0 : Int32))])) _
  refine own_go (fun _ k => XS.ifNo X0.here hx rfl (hb hby at_206) rfl ((if0 _ _).trans (teq (by decide : (0 : Int32) = (0 : Int32))).2) k) ?_
  show own_Go p e below (T0.setTop (mkF m 209 #[.val (.long p1), .second, .val (.int p2), .val (.int p3), .val (.ref ca), .val (.int (0 : Int32)), .val (.int l1), .val (.int l2), .val (.ref ea), .val (.int (0 : Int32)), .val (.ref fo), .val .null, .unset, .unset] [])) _
  refine own_go (fun _ k => XS.iconst X0.here hx rfl (hb hby at_209) k) ?_
  show own_Go p e below (T0.setTop (mkF m 210 #[.val (.long p1), .second, .val (.int p2), .val (.int p3), .val (.ref ca), .val (.int (0 : Int32)), .val (.int l1), .val (.int l2), .val (.ref ea), .val (.int (0 : Int32)), .val (.ref fo), .val .null, .unset, .unset] [(.int (0 : Int32))])) _
  refine own_go (fun _ k => XS.goto X0.here hx rfl (pc0 := 210) (pc' := 229) rfl (hb hby at_210) (by decide) (by decide) k) ?_
  show own_Go p e below (T0.setTop (mkF m 229 #[.val (.long p1), .second, .val (.int p2), .val (.int p3), .val (.ref ca), .val (.int (0 : Int32)), .val (.int l1), .val (.int l2), .val (.ref ea), .val (.int (0 : Int32)), .val (.ref fo), .val .null, .unset, .unset] [(.int (0 : Int32))])) _
  refine own_go (fun _ k => XS.istore X0.here hx rfl (hb hby at_229) rfl (l' := #[.val (.long p1), .second, .val (.int p2), .val (.int p3), .val (.ref ca), .val (.int (0 : Int32)), .val (.int l1), .val (.int l2), .val (.ref ea), .val (.int (0 : Int32)), .val (.ref fo), .val .null, .val (.int (0 : Int32)), .unset]) rfl k) ?_
  show own_Go p e below (T0.setTop (mkF m 231 #[.val (.long p1), .second, .val (.int p2), .val (.int p3), .val (.ref ca), .val (.int (0 : Int32)), .val (.int l1), .val (.int l2), .val (.ref ea), .val (.int (0 : Int32)), .val (.ref fo), .val .null, .val (.int (0 : Int32)), .unset] [])) _
  refine own_go (fun _ k => XS.iload X0.here hx rfl (hb hby at_231) rfl k) ?_
  show own_Go p e below (T0.setTop (mkF m 233 #[.val (.long p1), .second, .val (.int p2), .val (.int p3), .val (.ref ca), .val (.int (0 : Int32)), .val (.int l1), .val (.int l2), .val (.ref ea), .val (.int (0 : Int32)), .val (.ref fo), .val .null, .val (.int (0 : Int32)), .unset] [(.int (0 : Int32))])) _
  refine own_go (fun _ k => XS.ifNo X0.here hx rfl (hb hby at_233) rfl ((if0 _ _).trans (teq (by decide : (0 : Int32) = (0 : Int32))).2) k) ?_
  show own_Go p e below (T0.setTop (mkF m 236 #[.val (.long p1), .second, .val (.int p2), .val (.int p3), .val (.ref ca), .val (.int (0 : Int32)), .val (.int l1), .val (.int l2), .val (.ref ea), .val (.int (0 : Int32)), .val (.ref fo), .val .null, .val (.int (0 : Int32)), .unset] [])) _
  refine own_go (fun _ k => XS.iload X0.here hx rfl (hb hby at_236) rfl k) ?_
  show own_Go p e below (T0.setTop (mkF m 238 #[.val (.long p1), .second, .val (.int p2), .val (.int p3), .val (.ref ca), .val (.int (0 : Int32)), .val (.int l1), .val (.int l2), .val (.ref ea), .val (.int (0 : Int32)), .val (.ref fo), .val .null, .val (.int (0 : Int32)), .unset] [(.int (0 : Int32))])) _
  refine own_go (fun _ k => XS.goto X0.here hx rfl (pc0 := 238) (pc' := 254) rfl (hb hby at_238) (by decide) (by decide) k) ?_
  show own_Go p e below (T0.setTop (mkF m 254 #[.val (.long p1), .second, .val (.int p2), .val (.int p3), .val (.ref ca), .val (.int (0 : Int32)), .val (.int l1), .val (.int l2), .val (.ref ea), .val (.int (0 : Int32)), .val (.ref fo), .val .null, .val (.int (0 : Int32)), .unset] [(.int (0 : Int32))])) _
  refine own_go (fun _ k => XS.istore X0.here hx rfl (hb hby at_254) rfl (l' := #[.val (.long p1), .second, .val (.int p2), .val (.int p3), .val (.ref ca), .val (.int (0 : Int32)), .val (.int l1), .val (.int l2), .val (.ref ea), .val (.int (0 : Int32)), .val (.ref fo), .val .null, .val (.int (0 : Int32)), .val (.int (0 : Int32))]) rfl k) ?_
  show own_Go p e below (T0.setTop (mkF m 256 #[.val (.long p1), .second, .val (.int p2), .val (.int p3), .val (.ref ca), .val (.int (0 : Int32)), .val (.int l1), .val (.int l2), .val (.ref ea), .val (.int (0 : Int32)), .val (.ref fo), .val .null, .val (.int (0 : Int32)), .val (.int (0 : Int32))] [])) _
  refine own_go (fun _ k => XS.iload X0.here hx rfl (hb hby at_256) rfl k) ?_
  show own_Go p e below (T0.setTop (mkF m 258 #[.val (.long p1), .second, .val (.int p2), .val (.int p3), .val (.ref ca), .val (.int (0 : Int32)), .val (.int l1), .val (.int l2), .val (.ref ea), .val (.int (0 : Int32)), .val (.ref fo), .val .null, .val (.int (0 : Int32)), .val (.int (0 : Int32))] [(.int (0 : Int32))])) _
  refine own_go (fun _ k => XS.ifNo X0.here hx rfl (hb hby at_258) rfl ((if0 _ _).trans (teq (by decide : (0 : Int32) = (0 : Int32))).2) k) ?_
  show own_Go p e below (T0.setTop (mkF m 261 #[.val (.long p1), .second, .val (.int p2), .val (.int p3), .val (.ref ca), .val (.int (0 : Int32)), .val (.int l1), .val (.int l2), .val (.ref ea), .val (.int (0 : Int32)), .val (.ref fo), .val .null, .val (.int (0 : Int32)), .val (.int (0 : Int32))] [])) _
  refine own_go (fun _ k => XS.aload X0.here hx rfl (hb hby at_261) rfl rfl k) ?_
  show own_Go p e below (T0.setTop (mkF m 263 #[.val (.long p1), .second, .val (.int p2), .val (.int p3), .val (.ref ca), .val (.int (0 : Int32)), .val (.int l1), .val (.int l2), .val (.ref ea), .val (.int (0 : Int32)), .val (.ref fo), .val .null, .val (.int (0 : Int32)), .val (.int (0 : Int32))] [.null])) _
  refine own_go (fun _ k => XS.ifnonnullNo X0.here hx rfl (hb hby at_263) rfl k) ?_
  show own_Go p e below (T0.setTop (mkF m 266 #[.val (.long p1), .second, .val (.int p2), .val (.int p3), .val (.ref ca), .val (.int (0 : Int32)), .val (.int l1), .val (.int l2), .val (.ref ea), .val (.int (0 : Int32)), .val (.ref fo), .val .null, .val (.int (0 : Int32)), .val (.int (0 : Int32))] [])) _
  refine own_go (fun _ k => XS.iconst X0.here hx rfl (hb hby at_266) k) ?_
  show own_Go p e below (T0.setTop (mkF m 267 #[.val (.long p1), .second, .val (.int p2), .val (.int p3), .val (.ref ca), .val (.int (0 : Int32)), .val (.int l1), .val (.int l2), .val (.ref ea), .val (.int (0 : Int32)), .val (.ref fo), .val .null, .val (.int (0 : Int32)), .val (.int (0 : Int32))] [(.int (1 : Int32))])) _
  refine own_go (fun _ k => XS.goto X0.here hx rfl (pc0 := 267) (pc' := 271) rfl (hb hby at_267) (by decide) (by decide) k) ?_
  show own_Go p e below (T0.setTop (mkF m 271 #[.val (.long p1), .second, .val (.int p2), .val (.int p3), .val (.ref ca), .val (.int (0 : Int32)), .val (.int l1), .val (.int l2), .val (.ref ea), .val (.int (0 : Int32)), .val (.ref fo), .val .null, .val (.int (0 : Int32)), .val (.int (0 : Int32))] [(.int (1 : Int32))])) _
  refine own_fin (v := (some (.int (nar .boolean (1 : Int32))))) X0 (fun h => by rw [hrt] at h; cases h) hlk (fun fs hr => retN X0 hx (t := .boolean) hrt (by simp) (hb hby at_271) hr) (QQ := QQ0 n0) ?_ (by decide) (by decide)
  rw [e0]
  exact ⟨rfl, N0⟩

theorem pd_12 : parseMethodDescriptor "(I)C" = some ⟨[.int], some .char⟩ := by decide +kernel
set_option maxRecDepth 65536 in
set_option maxHeartbeats 40000000 in
theorem tail_0_1 (l : Launch) (Z : State) (a0 : Array Value) (hw : ∀ d ∈ tables_1, d.before a0 Z = true) (p1 : Int64) (p2 : Int32) (p3 : Int32) (ca : Addr) (kc : ClassId) (ea : Addr) (fo : Addr) (l1 : Int32) (l2 : Int32) (G1 : Int32) (G3 : Value) (c0 : Int32) (c1 : Int32) (c2 : Int32) (c3 : Int32) (c4 : Int32) (c5 : Int32) (c6 : Int32) (r : Addr) (tt : Addr) (kt : ClassId) (d0 : Int32) (h0 : Heap) (n0 : Nat) {p : Program} {e : Env} {s : State} {m : MethodId} {below : List Frame} {meth : Method} {c : Code} {T0 : State} {locs : List Loc} (X0 : Stand p l e room_1 s m #[(.long p1), (.int p2), (.int p3)] below meth c T0 locs 7 29) (hx : p.tables.exec = Jvm.exec) (hby : c.code = code) (hml : c.maxLocals = maxLocals) (hown : s.vm.findClass "com/example/sequela/sequela/FieldsGetPinLaw" = some m.cls) (hZ : Z.Warmed39 s.vm) (hrt : meth.sig.returnType = ret) (hlk : meth.locks = false) (h1 : Heap) (e0 : T0.heap = h1) (N0 : Fr n0 locs) (Z0 : n0 ≤ h1.size) (O1 : Old Z n0 h1) (V_ca : Arv Z h1 ca kc .char (7 : Int32) [(.int c0), (.int c1), (.int c2), (.int c3), (.int c4), (.int c5), (.int c6)] (.int (0 : Int32))) (E_r : Exa Z h1 r "java/lang/String") (Fv_r : Fld Z h1 r "java/lang/String" "value" "[B" (.ref tt)) (Fc_r : Fld Z h1 r "java/lang/String" "coder" "B" (.int (0 : Int32))) (V_tt : Arv Z h1 tt kt .byte (1 : Int32) ((([d0] : List Int32).map (fun c => c.toInt8.toInt32)).map Value.int) (.int (0 : Int32))) (O2 : Sta Z Z.heap "java/lang/String" "COMPACT_STRINGS" "Z" (.int G1)) (P5 : ¬ (G1 = (0 : Int32))) (O4 : Sta Z Z.heap "jdk/internal/util/Preconditions" "SIOOBE_FORMATTER" "Ljava/util/function/BiFunction;" G3) (rG3 : G3.isRef = true) (hp_r : ∀ c ∈ ([d0] : List Int32), ¬ c < 0 ∧ ¬ (255 : Int32) < c) (hb0 : ¬ (0 : Int32) < 0 ∧ (0 : Int32) < (7 : Int32)) (hd0 : ([(.int c0), (.int c1), (.int c2), (.int c3), (.int c4), (.int c5), (.int c6)] : List Value).getD ((0 : Int32)).toNatClampNeg (.int (0 : Int32)) = (.int d0)) :
    own_Go p e below (T0.setTop (mkF m 202 #[.val (.long p1), .second, .val (.int p2), .val (.int p3), .val (.ref ca), .val (.int (1 : Int32)), .val (.int l1), .val (.int l2), .val (.ref ea), .val (.int (0 : Int32)), .val (.ref fo), .unset, .unset, .unset] [(.ref r)])) (fun o U' => ∃ v L, o = .returned v ∧ QQ0 n0 v U'.heap L ∧ FrameEnd s o U' L 24 128) := by
  show own_Go p e below (T0.setTop (mkF m 202 #[.val (.long p1), .second, .val (.int p2), .val (.int p3), .val (.ref ca), .val (.int (1 : Int32)), .val (.int l1), .val (.int l2), .val (.ref ea), .val (.int (0 : Int32)), .val (.ref fo), .unset, .unset, .unset] [(.ref r)])) _
  refine own_go (fun _ k => XS.astore X0.here hx rfl (hb hby at_202) rfl rfl (l' := #[.val (.long p1), .second, .val (.int p2), .val (.int p3), .val (.ref ca), .val (.int (1 : Int32)), .val (.int l1), .val (.int l2), .val (.ref ea), .val (.int (0 : Int32)), .val (.ref fo), .val (.ref r), .unset, .unset]) rfl k) ?_
  show own_Go p e below (T0.setTop (mkF m 204 #[.val (.long p1), .second, .val (.int p2), .val (.int p3), .val (.ref ca), .val (.int (1 : Int32)), .val (.int l1), .val (.int l2), .val (.ref ea), .val (.int (0 : Int32)), .val (.ref fo), .val (.ref r), .unset, .unset] [])) _
  refine own_go (fun _ k => XS.iload X0.here hx rfl (hb hby at_204) rfl k) ?_
  show own_Go p e below (T0.setTop (mkF m 206 #[.val (.long p1), .second, .val (.int p2), .val (.int p3), .val (.ref ca), .val (.int (1 : Int32)), .val (.int l1), .val (.int l2), .val (.ref ea), .val (.int (0 : Int32)), .val (.ref fo), .val (.ref r), .unset, .unset] [(.int (0 : Int32))])) _
  refine own_go (fun _ k => XS.ifNo X0.here hx rfl (hb hby at_206) rfl ((if0 _ _).trans (teq (by decide : (0 : Int32) = (0 : Int32))).2) k) ?_
  show own_Go p e below (T0.setTop (mkF m 209 #[.val (.long p1), .second, .val (.int p2), .val (.int p3), .val (.ref ca), .val (.int (1 : Int32)), .val (.int l1), .val (.int l2), .val (.ref ea), .val (.int (0 : Int32)), .val (.ref fo), .val (.ref r), .unset, .unset] [])) _
  refine own_go (fun _ k => XS.iconst X0.here hx rfl (hb hby at_209) k) ?_
  show own_Go p e below (T0.setTop (mkF m 210 #[.val (.long p1), .second, .val (.int p2), .val (.int p3), .val (.ref ca), .val (.int (1 : Int32)), .val (.int l1), .val (.int l2), .val (.ref ea), .val (.int (0 : Int32)), .val (.ref fo), .val (.ref r), .unset, .unset] [(.int (0 : Int32))])) _
  refine own_go (fun _ k => XS.goto X0.here hx rfl (pc0 := 210) (pc' := 229) rfl (hb hby at_210) (by decide) (by decide) k) ?_
  show own_Go p e below (T0.setTop (mkF m 229 #[.val (.long p1), .second, .val (.int p2), .val (.int p3), .val (.ref ca), .val (.int (1 : Int32)), .val (.int l1), .val (.int l2), .val (.ref ea), .val (.int (0 : Int32)), .val (.ref fo), .val (.ref r), .unset, .unset] [(.int (0 : Int32))])) _
  refine own_go (fun _ k => XS.istore X0.here hx rfl (hb hby at_229) rfl (l' := #[.val (.long p1), .second, .val (.int p2), .val (.int p3), .val (.ref ca), .val (.int (1 : Int32)), .val (.int l1), .val (.int l2), .val (.ref ea), .val (.int (0 : Int32)), .val (.ref fo), .val (.ref r), .val (.int (0 : Int32)), .unset]) rfl k) ?_
  show own_Go p e below (T0.setTop (mkF m 231 #[.val (.long p1), .second, .val (.int p2), .val (.int p3), .val (.ref ca), .val (.int (1 : Int32)), .val (.int l1), .val (.int l2), .val (.ref ea), .val (.int (0 : Int32)), .val (.ref fo), .val (.ref r), .val (.int (0 : Int32)), .unset] [])) _
  refine own_go (fun _ k => XS.iload X0.here hx rfl (hb hby at_231) rfl k) ?_
  show own_Go p e below (T0.setTop (mkF m 233 #[.val (.long p1), .second, .val (.int p2), .val (.int p3), .val (.ref ca), .val (.int (1 : Int32)), .val (.int l1), .val (.int l2), .val (.ref ea), .val (.int (0 : Int32)), .val (.ref fo), .val (.ref r), .val (.int (0 : Int32)), .unset] [(.int (0 : Int32))])) _
  refine own_go (fun _ k => XS.ifNo X0.here hx rfl (hb hby at_233) rfl ((if0 _ _).trans (teq (by decide : (0 : Int32) = (0 : Int32))).2) k) ?_
  show own_Go p e below (T0.setTop (mkF m 236 #[.val (.long p1), .second, .val (.int p2), .val (.int p3), .val (.ref ca), .val (.int (1 : Int32)), .val (.int l1), .val (.int l2), .val (.ref ea), .val (.int (0 : Int32)), .val (.ref fo), .val (.ref r), .val (.int (0 : Int32)), .unset] [])) _
  refine own_go (fun _ k => XS.iload X0.here hx rfl (hb hby at_236) rfl k) ?_
  show own_Go p e below (T0.setTop (mkF m 238 #[.val (.long p1), .second, .val (.int p2), .val (.int p3), .val (.ref ca), .val (.int (1 : Int32)), .val (.int l1), .val (.int l2), .val (.ref ea), .val (.int (0 : Int32)), .val (.ref fo), .val (.ref r), .val (.int (0 : Int32)), .unset] [(.int (1 : Int32))])) _
  refine own_go (fun _ k => XS.goto X0.here hx rfl (pc0 := 238) (pc' := 254) rfl (hb hby at_238) (by decide) (by decide) k) ?_
  show own_Go p e below (T0.setTop (mkF m 254 #[.val (.long p1), .second, .val (.int p2), .val (.int p3), .val (.ref ca), .val (.int (1 : Int32)), .val (.int l1), .val (.int l2), .val (.ref ea), .val (.int (0 : Int32)), .val (.ref fo), .val (.ref r), .val (.int (0 : Int32)), .unset] [(.int (1 : Int32))])) _
  refine own_go (fun _ k => XS.istore X0.here hx rfl (hb hby at_254) rfl (l' := #[.val (.long p1), .second, .val (.int p2), .val (.int p3), .val (.ref ca), .val (.int (1 : Int32)), .val (.int l1), .val (.int l2), .val (.ref ea), .val (.int (0 : Int32)), .val (.ref fo), .val (.ref r), .val (.int (0 : Int32)), .val (.int (1 : Int32))]) rfl k) ?_
  show own_Go p e below (T0.setTop (mkF m 256 #[.val (.long p1), .second, .val (.int p2), .val (.int p3), .val (.ref ca), .val (.int (1 : Int32)), .val (.int l1), .val (.int l2), .val (.ref ea), .val (.int (0 : Int32)), .val (.ref fo), .val (.ref r), .val (.int (0 : Int32)), .val (.int (1 : Int32))] [])) _
  refine own_go (fun _ k => XS.iload X0.here hx rfl (hb hby at_256) rfl k) ?_
  show own_Go p e below (T0.setTop (mkF m 258 #[.val (.long p1), .second, .val (.int p2), .val (.int p3), .val (.ref ca), .val (.int (1 : Int32)), .val (.int l1), .val (.int l2), .val (.ref ea), .val (.int (0 : Int32)), .val (.ref fo), .val (.ref r), .val (.int (0 : Int32)), .val (.int (1 : Int32))] [(.int (1 : Int32))])) _
  refine own_go (fun _ k => XS.ifYes X0.here hx rfl (pc0 := 258) (pc' := 272) rfl (hb hby at_258) rfl ((if0 _ _).trans (feq (by decide : ¬ ((1 : Int32) = (0 : Int32)))).2) (by decide) (by decide) k) ?_
  show own_Go p e below (T0.setTop (mkF m 272 #[.val (.long p1), .second, .val (.int p2), .val (.int p3), .val (.ref ca), .val (.int (1 : Int32)), .val (.int l1), .val (.int l2), .val (.ref ea), .val (.int (0 : Int32)), .val (.ref fo), .val (.ref r), .val (.int (0 : Int32)), .val (.int (1 : Int32))] [])) _
  refine own_go (fun _ k => XS.aload X0.here hx rfl (hb hby at_272) rfl rfl k) ?_
  show own_Go p e below (T0.setTop (mkF m 274 #[.val (.long p1), .second, .val (.int p2), .val (.int p3), .val (.ref ca), .val (.int (1 : Int32)), .val (.int l1), .val (.int l2), .val (.ref ea), .val (.int (0 : Int32)), .val (.ref fo), .val (.ref r), .val (.int (0 : Int32)), .val (.int (1 : Int32))] [(.ref r)])) _
  refine own_go (fun _ k => XS.ifnullNo X0.here hx rfl (hb hby at_274) rfl k) ?_
  show own_Go p e below (T0.setTop (mkF m 277 #[.val (.long p1), .second, .val (.int p2), .val (.int p3), .val (.ref ca), .val (.int (1 : Int32)), .val (.int l1), .val (.int l2), .val (.ref ea), .val (.int (0 : Int32)), .val (.ref fo), .val (.ref r), .val (.int (0 : Int32)), .val (.int (1 : Int32))] [])) _
  refine own_go (fun _ k => XS.aload X0.here hx rfl (hb hby at_277) rfl rfl k) ?_
  show own_Go p e below (T0.setTop (mkF m 279 #[.val (.long p1), .second, .val (.int p2), .val (.int p3), .val (.ref ca), .val (.int (1 : Int32)), .val (.int l1), .val (.int l2), .val (.ref ea), .val (.int (0 : Int32)), .val (.ref fo), .val (.ref r), .val (.int (0 : Int32)), .val (.int (1 : Int32))] [(.ref r)])) _
  have hcd90 : StrChars.Road.CodA ([d0] : List Int32) 0 (1 : Int32) (((([d0] : List Int32)).map (fun c => c.toInt8.toInt32)).map Value.int) := StrChars.Road.codOf (n := 1) rfl (fun x hx => (hp_r x hx).2)
  have hbd90 := own_up _ hp_r
  obtain ⟨cq91, kq91, q91a, q91b, q91c⟩ := isOf hZ e0 E_r
  obtain ⟨v91, _, ⟨T91, L91, k91, n91⟩, -, X91, ⟨Lc91, hQ91, l91, y91, z91⟩, st91⟩ := X0.virtualBack hx (y := (⟨"java/lang/String", "length", "()I"⟩ : MethodName)) (z := (⟨"java/lang/String", "length", "()I"⟩ : MethodName)) hown (mvT hZ (hw _ (List.mem_of_getElem? (i := 112) rfl))) (mvT hZ (hw _ (List.mem_of_getElem? (i := 64) rfl))) (notFace_of_selects (args := #[]) (mvT hZ (hw _ (List.mem_of_getElem? (i := 66) rfl)))) (mvT hZ (hw _ (List.mem_of_getElem? (i := 66) rfl))) (mvT hZ (hw _ (List.mem_of_getElem? (i := 65) rfl))) (by decide) (StrChars.Road.lenW (W := 0) hZ (own_wLen hw) (kI := 4) (hw _ (List.mem_of_getElem? (i := 8) rfl)) E_r Fv_r Fc_r V_tt hcd90 hbd90 (O2.ext O1.2) P5 (Nat.le_of_ble_eq_true rfl) (by decide) (by decide)) q91a q91c (g := (mkF m 279 #[.val (.long p1), .second, .val (.int p2), .val (.int p3), .val (.ref ca), .val (.int (1 : Int32)), .val (.int l1), .val (.int l2), .val (.ref ea), .val (.int (0 : Int32)), .val (.ref fo), .val (.ref r), .val (.int (0 : Int32)), .val (.int (1 : Int32))] [(.ref r)])) rfl (by rw [hml]; rfl) (Steps.refl _) (argsL := []) (rest := []) (lenOf pd_6 rfl) rfl (by show 2 * 0 + _ ≤ _; exact Nat.le_of_eq rfl) (hb hby at_279) (fun _ _ => ⟨rfl, e0, (by decide : 7 + 0 ≤ _), (by decide : 29 + 0 ≤ _)⟩)
  dsimp only [Pt.U, Pt.locs, Pt.cells, Pt.slots] at X91 l91 y91 z91 st91 hQ91
  subst l91 y91 z91
  refine own_gos st91 ?_
  obtain ⟨rfl, rfl, e91⟩ := hQ91
  have Nq91 : Fr n0 ([] : List Loc) := Fr.nil n0
  have N91 := Fr.app N0 Nq91
  show own_Go p e below (T91.setTop (mkF m 282 #[.val (.long p1), .second, .val (.int p2), .val (.int p3), .val (.ref ca), .val (.int (1 : Int32)), .val (.int l1), .val (.int l2), .val (.ref ea), .val (.int (0 : Int32)), .val (.ref fo), .val (.ref r), .val (.int (0 : Int32)), .val (.int (1 : Int32))] [(.int (1 : Int32))])) _
  refine own_go (fun _ k => XS.iload X91.here hx rfl (hb hby at_282) rfl k) ?_
  show own_Go p e below (T91.setTop (mkF m 284 #[.val (.long p1), .second, .val (.int p2), .val (.int p3), .val (.ref ca), .val (.int (1 : Int32)), .val (.int l1), .val (.int l2), .val (.ref ea), .val (.int (0 : Int32)), .val (.ref fo), .val (.ref r), .val (.int (0 : Int32)), .val (.int (1 : Int32))] [(.int (1 : Int32)), (.int (1 : Int32))])) _
  refine own_go (fun _ k => XS.icmpYes X91.here hx rfl (pc0 := 284) (pc' := 289) rfl (hb hby at_284) rfl (teq (by decide : (1 : Int32) = (1 : Int32))).1 (by decide) (by decide) k) ?_
  show own_Go p e below (T91.setTop (mkF m 289 #[.val (.long p1), .second, .val (.int p2), .val (.int p3), .val (.ref ca), .val (.int (1 : Int32)), .val (.int l1), .val (.int l2), .val (.ref ea), .val (.int (0 : Int32)), .val (.ref fo), .val (.ref r), .val (.int (0 : Int32)), .val (.int (1 : Int32))] [])) _
  refine own_go (fun _ k => XS.aload X91.here hx rfl (hb hby at_289) rfl rfl k) ?_
  show own_Go p e below (T91.setTop (mkF m 291 #[.val (.long p1), .second, .val (.int p2), .val (.int p3), .val (.ref ca), .val (.int (1 : Int32)), .val (.int l1), .val (.int l2), .val (.ref ea), .val (.int (0 : Int32)), .val (.ref fo), .val (.ref r), .val (.int (0 : Int32)), .val (.int (1 : Int32))] [(.ref r)])) _
  refine own_go (fun _ k => XS.iconst X91.here hx rfl (hb hby at_291) k) ?_
  show own_Go p e below (T91.setTop (mkF m 292 #[.val (.long p1), .second, .val (.int p2), .val (.int p3), .val (.ref ca), .val (.int (1 : Int32)), .val (.int l1), .val (.int l2), .val (.ref ea), .val (.int (0 : Int32)), .val (.ref fo), .val (.ref r), .val (.int (0 : Int32)), .val (.int (1 : Int32))] [(.int (0 : Int32)), (.ref r)])) _
  obtain ⟨cq92, kq92, q92a, q92b, q92c⟩ := isOf hZ e91 E_r
  obtain ⟨v92, _, ⟨T92, L92, k92, n92⟩, -, X92, ⟨Lc92, hQ92, l92, y92, z92⟩, st92⟩ := X91.virtualBack hx (y := (⟨"java/lang/String", "charAt", "(I)C"⟩ : MethodName)) (z := (⟨"java/lang/String", "charAt", "(I)C"⟩ : MethodName)) hown (mvT hZ (hw _ (List.mem_of_getElem? (i := 113) rfl))) (mvT hZ (hw _ (List.mem_of_getElem? (i := 114) rfl))) (notFace_of_selects (args := #[]) (mvT hZ (hw _ (List.mem_of_getElem? (i := 116) rfl)))) (mvT hZ (hw _ (List.mem_of_getElem? (i := 116) rfl))) (mvT hZ (hw _ (List.mem_of_getElem? (i := 115) rfl))) (by decide) (StrChars.Road.chN (W := 0) hZ (own_wChN hw) (kI := 4) (hw _ (List.mem_of_getElem? (i := 8) rfl)) E_r Fv_r Fc_r V_tt hcd90 hbd90 (O2.ext O1.2) P5 (O4.ext O1.2) rG3 (Nat.le_of_ble_eq_true rfl) (i := 0) (Nat.le_of_ble_eq_true rfl) (j := 0) rfl (by decide) (by decide)) q92a q92c (g := (mkF m 292 #[.val (.long p1), .second, .val (.int p2), .val (.int p3), .val (.ref ca), .val (.int (1 : Int32)), .val (.int l1), .val (.int l2), .val (.ref ea), .val (.int (0 : Int32)), .val (.ref fo), .val (.ref r), .val (.int (0 : Int32)), .val (.int (1 : Int32))] [(.int (0 : Int32)), (.ref r)])) rfl (by rw [hml]; rfl) (Steps.refl _) (argsL := [(.int (0 : Int32))]) (rest := []) (lenOf pd_12 rfl) rfl (by show 2 * 0 + _ ≤ _; exact Nat.le_of_eq rfl) (hb hby at_292) (fun _ _ => ⟨rfl, e91, (by decide : 7 + 0 ≤ _), (by decide : 29 + 0 ≤ _)⟩)
  dsimp only [Pt.U, Pt.locs, Pt.cells, Pt.slots] at X92 l92 y92 z92 st92 hQ92
  subst l92 y92 z92
  refine own_gos st92 ?_
  obtain ⟨rfl, rfl, e92⟩ := hQ92
  have Nq92 : Fr n0 ([] : List Loc) := Fr.nil n0
  have N92 := Fr.app N91 Nq92
  show own_Go p e below (T92.setTop (mkF m 295 #[.val (.long p1), .second, .val (.int p2), .val (.int p3), .val (.ref ca), .val (.int (1 : Int32)), .val (.int l1), .val (.int l2), .val (.ref ea), .val (.int (0 : Int32)), .val (.ref fo), .val (.ref r), .val (.int (0 : Int32)), .val (.int (1 : Int32))] [(.int d0)])) _
  refine own_go (fun _ k => XS.aload X92.here hx rfl (hb hby at_295) rfl rfl k) ?_
  show own_Go p e below (T92.setTop (mkF m 297 #[.val (.long p1), .second, .val (.int p2), .val (.int p3), .val (.ref ca), .val (.int (1 : Int32)), .val (.int l1), .val (.int l2), .val (.ref ea), .val (.int (0 : Int32)), .val (.ref fo), .val (.ref r), .val (.int (0 : Int32)), .val (.int (1 : Int32))] [(.ref ca), (.int d0)])) _
  refine own_go (fun _ k => XS.iload X92.here hx rfl (hb hby at_297) rfl k) ?_
  show own_Go p e below (T92.setTop (mkF m 299 #[.val (.long p1), .second, .val (.int p2), .val (.int p3), .val (.ref ca), .val (.int (1 : Int32)), .val (.int l1), .val (.int l2), .val (.ref ea), .val (.int (0 : Int32)), .val (.ref fo), .val (.ref r), .val (.int (0 : Int32)), .val (.int (1 : Int32))] [(.int (0 : Int32)), (.ref ca), (.int d0)])) _
  obtain ⟨c93, A93, q93, S93, M93, Hs93, Gs93⟩ := id V_ca
  have hi93 := inb_of (j := (0 : Int32)) S93 hb0
  refine own_go (fun _ k => X92.caload hx (j := (0 : Int32)) (v := (.int d0)) (by rw [e92]; exact A93.1) (State.isArrayOf_alike hZ.alike A93.2.1) A93.2.2 hi93 (Has.at Hs93 hi93 hd0) (g := (mkF m 299 #[.val (.long p1), .second, .val (.int p2), .val (.int p3), .val (.ref ca), .val (.int (1 : Int32)), .val (.int l1), .val (.int l2), .val (.ref ea), .val (.int (0 : Int32)), .val (.ref fo), .val (.ref r), .val (.int (0 : Int32)), .val (.int (1 : Int32))] [(.int (0 : Int32)), (.ref ca), (.int d0)])) rfl rfl (hb hby at_299) _ k) ?_
  show own_Go p e below (T92.setTop (mkF m 300 #[.val (.long p1), .second, .val (.int p2), .val (.int p3), .val (.ref ca), .val (.int (1 : Int32)), .val (.int l1), .val (.int l2), .val (.ref ea), .val (.int (0 : Int32)), .val (.ref fo), .val (.ref r), .val (.int (0 : Int32)), .val (.int (1 : Int32))] [(.int d0), (.int d0)])) _
  refine own_go (fun _ k => XS.icmpYes X92.here hx rfl (pc0 := 300) (pc' := 305) rfl (hb hby at_300) rfl (teq (rfl : d0 = d0)).1 (by decide) (by decide) k) ?_
  show own_Go p e below (T92.setTop (mkF m 305 #[.val (.long p1), .second, .val (.int p2), .val (.int p3), .val (.ref ca), .val (.int (1 : Int32)), .val (.int l1), .val (.int l2), .val (.ref ea), .val (.int (0 : Int32)), .val (.ref fo), .val (.ref r), .val (.int (0 : Int32)), .val (.int (1 : Int32))] [])) _
  refine own_go (fun _ k => XS.iload X92.here hx rfl (hb hby at_305) rfl k) ?_
  show own_Go p e below (T92.setTop (mkF m 307 #[.val (.long p1), .second, .val (.int p2), .val (.int p3), .val (.ref ca), .val (.int (1 : Int32)), .val (.int l1), .val (.int l2), .val (.ref ea), .val (.int (0 : Int32)), .val (.ref fo), .val (.ref r), .val (.int (0 : Int32)), .val (.int (1 : Int32))] [(.int (1 : Int32))])) _
  refine own_go (fun _ k => XS.iconst X92.here hx rfl (hb hby at_307) k) ?_
  show own_Go p e below (T92.setTop (mkF m 308 #[.val (.long p1), .second, .val (.int p2), .val (.int p3), .val (.ref ca), .val (.int (1 : Int32)), .val (.int l1), .val (.int l2), .val (.ref ea), .val (.int (0 : Int32)), .val (.ref fo), .val (.ref r), .val (.int (0 : Int32)), .val (.int (1 : Int32))] [(.int (2 : Int32)), (.int (1 : Int32))])) _
  refine own_go (fun _ k => XS.icmpYes X92.here hx rfl (pc0 := 308) (pc' := 327) rfl (hb hby at_308) rfl (tlt (by decide : (1 : Int32) < (2 : Int32))).1 (by decide) (by decide) k) ?_
  show own_Go p e below (T92.setTop (mkF m 327 #[.val (.long p1), .second, .val (.int p2), .val (.int p3), .val (.ref ca), .val (.int (1 : Int32)), .val (.int l1), .val (.int l2), .val (.ref ea), .val (.int (0 : Int32)), .val (.ref fo), .val (.ref r), .val (.int (0 : Int32)), .val (.int (1 : Int32))] [])) _
  refine own_go (fun _ k => XS.iconst X92.here hx rfl (hb hby at_327) k) ?_
  show own_Go p e below (T92.setTop (mkF m 328 #[.val (.long p1), .second, .val (.int p2), .val (.int p3), .val (.ref ca), .val (.int (1 : Int32)), .val (.int l1), .val (.int l2), .val (.ref ea), .val (.int (0 : Int32)), .val (.ref fo), .val (.ref r), .val (.int (0 : Int32)), .val (.int (1 : Int32))] [(.int (1 : Int32))])) _
  refine own_go (fun _ k => XS.goto X92.here hx rfl (pc0 := 328) (pc' := 332) rfl (hb hby at_328) (by decide) (by decide) k) ?_
  show own_Go p e below (T92.setTop (mkF m 332 #[.val (.long p1), .second, .val (.int p2), .val (.int p3), .val (.ref ca), .val (.int (1 : Int32)), .val (.int l1), .val (.int l2), .val (.ref ea), .val (.int (0 : Int32)), .val (.ref fo), .val (.ref r), .val (.int (0 : Int32)), .val (.int (1 : Int32))] [(.int (1 : Int32))])) _
  refine own_fin (v := (some (.int (nar .boolean (1 : Int32))))) X92 (fun h => by rw [hrt] at h; cases h) hlk (fun fs hr => retN X92 hx (t := .boolean) hrt (by simp) (hb hby at_332) hr) (QQ := QQ0 n0) ?_ (by decide) (by decide)
  rw [e92]
  exact ⟨rfl, N92⟩

set_option maxRecDepth 65536 in
set_option maxHeartbeats 40000000 in
theorem tail_0_2 (l : Launch) (Z : State) (a0 : Array Value) (hw : ∀ d ∈ tables_1, d.before a0 Z = true) (p1 : Int64) (p2 : Int32) (p3 : Int32) (ca : Addr) (kc : ClassId) (ea : Addr) (fo : Addr) (l1 : Int32) (l2 : Int32) (G1 : Int32) (G3 : Value) (c0 : Int32) (c1 : Int32) (c2 : Int32) (c3 : Int32) (c4 : Int32) (c5 : Int32) (c6 : Int32) (r : Addr) (tt : Addr) (kt : ClassId) (d0 : Int32) (d1 : Int32) (h0 : Heap) (n0 : Nat) {p : Program} {e : Env} {s : State} {m : MethodId} {below : List Frame} {meth : Method} {c : Code} {T0 : State} {locs : List Loc} (X0 : Stand p l e room_1 s m #[(.long p1), (.int p2), (.int p3)] below meth c T0 locs 7 29) (hx : p.tables.exec = Jvm.exec) (hby : c.code = code) (hml : c.maxLocals = maxLocals) (hown : s.vm.findClass "com/example/sequela/sequela/FieldsGetPinLaw" = some m.cls) (hZ : Z.Warmed39 s.vm) (hrt : meth.sig.returnType = ret) (hlk : meth.locks = false) (h1 : Heap) (e0 : T0.heap = h1) (N0 : Fr n0 locs) (Z0 : n0 ≤ h1.size) (O1 : Old Z n0 h1) (V_ca : Arv Z h1 ca kc .char (7 : Int32) [(.int c0), (.int c1), (.int c2), (.int c3), (.int c4), (.int c5), (.int c6)] (.int (0 : Int32))) (E_r : Exa Z h1 r "java/lang/String") (Fv_r : Fld Z h1 r "java/lang/String" "value" "[B" (.ref tt)) (Fc_r : Fld Z h1 r "java/lang/String" "coder" "B" (.int (0 : Int32))) (V_tt : Arv Z h1 tt kt .byte (2 : Int32) ((([d0, d1] : List Int32).map (fun c => c.toInt8.toInt32)).map Value.int) (.int (0 : Int32))) (O2 : Sta Z Z.heap "java/lang/String" "COMPACT_STRINGS" "Z" (.int G1)) (P5 : ¬ (G1 = (0 : Int32))) (O4 : Sta Z Z.heap "jdk/internal/util/Preconditions" "SIOOBE_FORMATTER" "Ljava/util/function/BiFunction;" G3) (rG3 : G3.isRef = true) (hp_r : ∀ c ∈ ([d0, d1] : List Int32), ¬ c < 0 ∧ ¬ (255 : Int32) < c) (hb0 : ¬ (0 : Int32) < 0 ∧ (0 : Int32) < (7 : Int32)) (hd0 : ([(.int c0), (.int c1), (.int c2), (.int c3), (.int c4), (.int c5), (.int c6)] : List Value).getD ((0 : Int32)).toNatClampNeg (.int (0 : Int32)) = (.int d0)) (hb1 : ¬ (1 : Int32) < 0 ∧ (1 : Int32) < (7 : Int32)) (hd1 : ([(.int c0), (.int c1), (.int c2), (.int c3), (.int c4), (.int c5), (.int c6)] : List Value).getD ((1 : Int32)).toNatClampNeg (.int (0 : Int32)) = (.int d1)) :
    own_Go p e below (T0.setTop (mkF m 202 #[.val (.long p1), .second, .val (.int p2), .val (.int p3), .val (.ref ca), .val (.int (2 : Int32)), .val (.int l1), .val (.int l2), .val (.ref ea), .val (.int (0 : Int32)), .val (.ref fo), .unset, .unset, .unset] [(.ref r)])) (fun o U' => ∃ v L, o = .returned v ∧ QQ0 n0 v U'.heap L ∧ FrameEnd s o U' L 24 128) := by
  show own_Go p e below (T0.setTop (mkF m 202 #[.val (.long p1), .second, .val (.int p2), .val (.int p3), .val (.ref ca), .val (.int (2 : Int32)), .val (.int l1), .val (.int l2), .val (.ref ea), .val (.int (0 : Int32)), .val (.ref fo), .unset, .unset, .unset] [(.ref r)])) _
  refine own_go (fun _ k => XS.astore X0.here hx rfl (hb hby at_202) rfl rfl (l' := #[.val (.long p1), .second, .val (.int p2), .val (.int p3), .val (.ref ca), .val (.int (2 : Int32)), .val (.int l1), .val (.int l2), .val (.ref ea), .val (.int (0 : Int32)), .val (.ref fo), .val (.ref r), .unset, .unset]) rfl k) ?_
  show own_Go p e below (T0.setTop (mkF m 204 #[.val (.long p1), .second, .val (.int p2), .val (.int p3), .val (.ref ca), .val (.int (2 : Int32)), .val (.int l1), .val (.int l2), .val (.ref ea), .val (.int (0 : Int32)), .val (.ref fo), .val (.ref r), .unset, .unset] [])) _
  refine own_go (fun _ k => XS.iload X0.here hx rfl (hb hby at_204) rfl k) ?_
  show own_Go p e below (T0.setTop (mkF m 206 #[.val (.long p1), .second, .val (.int p2), .val (.int p3), .val (.ref ca), .val (.int (2 : Int32)), .val (.int l1), .val (.int l2), .val (.ref ea), .val (.int (0 : Int32)), .val (.ref fo), .val (.ref r), .unset, .unset] [(.int (0 : Int32))])) _
  refine own_go (fun _ k => XS.ifNo X0.here hx rfl (hb hby at_206) rfl ((if0 _ _).trans (teq (by decide : (0 : Int32) = (0 : Int32))).2) k) ?_
  show own_Go p e below (T0.setTop (mkF m 209 #[.val (.long p1), .second, .val (.int p2), .val (.int p3), .val (.ref ca), .val (.int (2 : Int32)), .val (.int l1), .val (.int l2), .val (.ref ea), .val (.int (0 : Int32)), .val (.ref fo), .val (.ref r), .unset, .unset] [])) _
  refine own_go (fun _ k => XS.iconst X0.here hx rfl (hb hby at_209) k) ?_
  show own_Go p e below (T0.setTop (mkF m 210 #[.val (.long p1), .second, .val (.int p2), .val (.int p3), .val (.ref ca), .val (.int (2 : Int32)), .val (.int l1), .val (.int l2), .val (.ref ea), .val (.int (0 : Int32)), .val (.ref fo), .val (.ref r), .unset, .unset] [(.int (0 : Int32))])) _
  refine own_go (fun _ k => XS.goto X0.here hx rfl (pc0 := 210) (pc' := 229) rfl (hb hby at_210) (by decide) (by decide) k) ?_
  show own_Go p e below (T0.setTop (mkF m 229 #[.val (.long p1), .second, .val (.int p2), .val (.int p3), .val (.ref ca), .val (.int (2 : Int32)), .val (.int l1), .val (.int l2), .val (.ref ea), .val (.int (0 : Int32)), .val (.ref fo), .val (.ref r), .unset, .unset] [(.int (0 : Int32))])) _
  refine own_go (fun _ k => XS.istore X0.here hx rfl (hb hby at_229) rfl (l' := #[.val (.long p1), .second, .val (.int p2), .val (.int p3), .val (.ref ca), .val (.int (2 : Int32)), .val (.int l1), .val (.int l2), .val (.ref ea), .val (.int (0 : Int32)), .val (.ref fo), .val (.ref r), .val (.int (0 : Int32)), .unset]) rfl k) ?_
  show own_Go p e below (T0.setTop (mkF m 231 #[.val (.long p1), .second, .val (.int p2), .val (.int p3), .val (.ref ca), .val (.int (2 : Int32)), .val (.int l1), .val (.int l2), .val (.ref ea), .val (.int (0 : Int32)), .val (.ref fo), .val (.ref r), .val (.int (0 : Int32)), .unset] [])) _
  refine own_go (fun _ k => XS.iload X0.here hx rfl (hb hby at_231) rfl k) ?_
  show own_Go p e below (T0.setTop (mkF m 233 #[.val (.long p1), .second, .val (.int p2), .val (.int p3), .val (.ref ca), .val (.int (2 : Int32)), .val (.int l1), .val (.int l2), .val (.ref ea), .val (.int (0 : Int32)), .val (.ref fo), .val (.ref r), .val (.int (0 : Int32)), .unset] [(.int (0 : Int32))])) _
  refine own_go (fun _ k => XS.ifNo X0.here hx rfl (hb hby at_233) rfl ((if0 _ _).trans (teq (by decide : (0 : Int32) = (0 : Int32))).2) k) ?_
  show own_Go p e below (T0.setTop (mkF m 236 #[.val (.long p1), .second, .val (.int p2), .val (.int p3), .val (.ref ca), .val (.int (2 : Int32)), .val (.int l1), .val (.int l2), .val (.ref ea), .val (.int (0 : Int32)), .val (.ref fo), .val (.ref r), .val (.int (0 : Int32)), .unset] [])) _
  refine own_go (fun _ k => XS.iload X0.here hx rfl (hb hby at_236) rfl k) ?_
  show own_Go p e below (T0.setTop (mkF m 238 #[.val (.long p1), .second, .val (.int p2), .val (.int p3), .val (.ref ca), .val (.int (2 : Int32)), .val (.int l1), .val (.int l2), .val (.ref ea), .val (.int (0 : Int32)), .val (.ref fo), .val (.ref r), .val (.int (0 : Int32)), .unset] [(.int (2 : Int32))])) _
  refine own_go (fun _ k => XS.goto X0.here hx rfl (pc0 := 238) (pc' := 254) rfl (hb hby at_238) (by decide) (by decide) k) ?_
  show own_Go p e below (T0.setTop (mkF m 254 #[.val (.long p1), .second, .val (.int p2), .val (.int p3), .val (.ref ca), .val (.int (2 : Int32)), .val (.int l1), .val (.int l2), .val (.ref ea), .val (.int (0 : Int32)), .val (.ref fo), .val (.ref r), .val (.int (0 : Int32)), .unset] [(.int (2 : Int32))])) _
  refine own_go (fun _ k => XS.istore X0.here hx rfl (hb hby at_254) rfl (l' := #[.val (.long p1), .second, .val (.int p2), .val (.int p3), .val (.ref ca), .val (.int (2 : Int32)), .val (.int l1), .val (.int l2), .val (.ref ea), .val (.int (0 : Int32)), .val (.ref fo), .val (.ref r), .val (.int (0 : Int32)), .val (.int (2 : Int32))]) rfl k) ?_
  show own_Go p e below (T0.setTop (mkF m 256 #[.val (.long p1), .second, .val (.int p2), .val (.int p3), .val (.ref ca), .val (.int (2 : Int32)), .val (.int l1), .val (.int l2), .val (.ref ea), .val (.int (0 : Int32)), .val (.ref fo), .val (.ref r), .val (.int (0 : Int32)), .val (.int (2 : Int32))] [])) _
  refine own_go (fun _ k => XS.iload X0.here hx rfl (hb hby at_256) rfl k) ?_
  show own_Go p e below (T0.setTop (mkF m 258 #[.val (.long p1), .second, .val (.int p2), .val (.int p3), .val (.ref ca), .val (.int (2 : Int32)), .val (.int l1), .val (.int l2), .val (.ref ea), .val (.int (0 : Int32)), .val (.ref fo), .val (.ref r), .val (.int (0 : Int32)), .val (.int (2 : Int32))] [(.int (2 : Int32))])) _
  refine own_go (fun _ k => XS.ifYes X0.here hx rfl (pc0 := 258) (pc' := 272) rfl (hb hby at_258) rfl ((if0 _ _).trans (feq (by decide : ¬ ((2 : Int32) = (0 : Int32)))).2) (by decide) (by decide) k) ?_
  show own_Go p e below (T0.setTop (mkF m 272 #[.val (.long p1), .second, .val (.int p2), .val (.int p3), .val (.ref ca), .val (.int (2 : Int32)), .val (.int l1), .val (.int l2), .val (.ref ea), .val (.int (0 : Int32)), .val (.ref fo), .val (.ref r), .val (.int (0 : Int32)), .val (.int (2 : Int32))] [])) _
  refine own_go (fun _ k => XS.aload X0.here hx rfl (hb hby at_272) rfl rfl k) ?_
  show own_Go p e below (T0.setTop (mkF m 274 #[.val (.long p1), .second, .val (.int p2), .val (.int p3), .val (.ref ca), .val (.int (2 : Int32)), .val (.int l1), .val (.int l2), .val (.ref ea), .val (.int (0 : Int32)), .val (.ref fo), .val (.ref r), .val (.int (0 : Int32)), .val (.int (2 : Int32))] [(.ref r)])) _
  refine own_go (fun _ k => XS.ifnullNo X0.here hx rfl (hb hby at_274) rfl k) ?_
  show own_Go p e below (T0.setTop (mkF m 277 #[.val (.long p1), .second, .val (.int p2), .val (.int p3), .val (.ref ca), .val (.int (2 : Int32)), .val (.int l1), .val (.int l2), .val (.ref ea), .val (.int (0 : Int32)), .val (.ref fo), .val (.ref r), .val (.int (0 : Int32)), .val (.int (2 : Int32))] [])) _
  refine own_go (fun _ k => XS.aload X0.here hx rfl (hb hby at_277) rfl rfl k) ?_
  show own_Go p e below (T0.setTop (mkF m 279 #[.val (.long p1), .second, .val (.int p2), .val (.int p3), .val (.ref ca), .val (.int (2 : Int32)), .val (.int l1), .val (.int l2), .val (.ref ea), .val (.int (0 : Int32)), .val (.ref fo), .val (.ref r), .val (.int (0 : Int32)), .val (.int (2 : Int32))] [(.ref r)])) _
  have hcd94 : StrChars.Road.CodA ([d0, d1] : List Int32) 0 (2 : Int32) (((([d0, d1] : List Int32)).map (fun c => c.toInt8.toInt32)).map Value.int) := StrChars.Road.codOf (n := 2) rfl (fun x hx => (hp_r x hx).2)
  have hbd94 := own_up _ hp_r
  obtain ⟨cq95, kq95, q95a, q95b, q95c⟩ := isOf hZ e0 E_r
  obtain ⟨v95, _, ⟨T95, L95, k95, n95⟩, -, X95, ⟨Lc95, hQ95, l95, y95, z95⟩, st95⟩ := X0.virtualBack hx (y := (⟨"java/lang/String", "length", "()I"⟩ : MethodName)) (z := (⟨"java/lang/String", "length", "()I"⟩ : MethodName)) hown (mvT hZ (hw _ (List.mem_of_getElem? (i := 112) rfl))) (mvT hZ (hw _ (List.mem_of_getElem? (i := 64) rfl))) (notFace_of_selects (args := #[]) (mvT hZ (hw _ (List.mem_of_getElem? (i := 66) rfl)))) (mvT hZ (hw _ (List.mem_of_getElem? (i := 66) rfl))) (mvT hZ (hw _ (List.mem_of_getElem? (i := 65) rfl))) (by decide) (StrChars.Road.lenW (W := 0) hZ (own_wLen hw) (kI := 4) (hw _ (List.mem_of_getElem? (i := 8) rfl)) E_r Fv_r Fc_r V_tt hcd94 hbd94 (O2.ext O1.2) P5 (Nat.le_of_ble_eq_true rfl) (by decide) (by decide)) q95a q95c (g := (mkF m 279 #[.val (.long p1), .second, .val (.int p2), .val (.int p3), .val (.ref ca), .val (.int (2 : Int32)), .val (.int l1), .val (.int l2), .val (.ref ea), .val (.int (0 : Int32)), .val (.ref fo), .val (.ref r), .val (.int (0 : Int32)), .val (.int (2 : Int32))] [(.ref r)])) rfl (by rw [hml]; rfl) (Steps.refl _) (argsL := []) (rest := []) (lenOf pd_6 rfl) rfl (by show 2 * 0 + _ ≤ _; exact Nat.le_of_eq rfl) (hb hby at_279) (fun _ _ => ⟨rfl, e0, (by decide : 7 + 0 ≤ _), (by decide : 29 + 0 ≤ _)⟩)
  dsimp only [Pt.U, Pt.locs, Pt.cells, Pt.slots] at X95 l95 y95 z95 st95 hQ95
  subst l95 y95 z95
  refine own_gos st95 ?_
  obtain ⟨rfl, rfl, e95⟩ := hQ95
  have Nq95 : Fr n0 ([] : List Loc) := Fr.nil n0
  have N95 := Fr.app N0 Nq95
  show own_Go p e below (T95.setTop (mkF m 282 #[.val (.long p1), .second, .val (.int p2), .val (.int p3), .val (.ref ca), .val (.int (2 : Int32)), .val (.int l1), .val (.int l2), .val (.ref ea), .val (.int (0 : Int32)), .val (.ref fo), .val (.ref r), .val (.int (0 : Int32)), .val (.int (2 : Int32))] [(.int (2 : Int32))])) _
  refine own_go (fun _ k => XS.iload X95.here hx rfl (hb hby at_282) rfl k) ?_
  show own_Go p e below (T95.setTop (mkF m 284 #[.val (.long p1), .second, .val (.int p2), .val (.int p3), .val (.ref ca), .val (.int (2 : Int32)), .val (.int l1), .val (.int l2), .val (.ref ea), .val (.int (0 : Int32)), .val (.ref fo), .val (.ref r), .val (.int (0 : Int32)), .val (.int (2 : Int32))] [(.int (2 : Int32)), (.int (2 : Int32))])) _
  refine own_go (fun _ k => XS.icmpYes X95.here hx rfl (pc0 := 284) (pc' := 289) rfl (hb hby at_284) rfl (teq (by decide : (2 : Int32) = (2 : Int32))).1 (by decide) (by decide) k) ?_
  show own_Go p e below (T95.setTop (mkF m 289 #[.val (.long p1), .second, .val (.int p2), .val (.int p3), .val (.ref ca), .val (.int (2 : Int32)), .val (.int l1), .val (.int l2), .val (.ref ea), .val (.int (0 : Int32)), .val (.ref fo), .val (.ref r), .val (.int (0 : Int32)), .val (.int (2 : Int32))] [])) _
  refine own_go (fun _ k => XS.aload X95.here hx rfl (hb hby at_289) rfl rfl k) ?_
  show own_Go p e below (T95.setTop (mkF m 291 #[.val (.long p1), .second, .val (.int p2), .val (.int p3), .val (.ref ca), .val (.int (2 : Int32)), .val (.int l1), .val (.int l2), .val (.ref ea), .val (.int (0 : Int32)), .val (.ref fo), .val (.ref r), .val (.int (0 : Int32)), .val (.int (2 : Int32))] [(.ref r)])) _
  refine own_go (fun _ k => XS.iconst X95.here hx rfl (hb hby at_291) k) ?_
  show own_Go p e below (T95.setTop (mkF m 292 #[.val (.long p1), .second, .val (.int p2), .val (.int p3), .val (.ref ca), .val (.int (2 : Int32)), .val (.int l1), .val (.int l2), .val (.ref ea), .val (.int (0 : Int32)), .val (.ref fo), .val (.ref r), .val (.int (0 : Int32)), .val (.int (2 : Int32))] [(.int (0 : Int32)), (.ref r)])) _
  obtain ⟨cq96, kq96, q96a, q96b, q96c⟩ := isOf hZ e95 E_r
  obtain ⟨v96, _, ⟨T96, L96, k96, n96⟩, -, X96, ⟨Lc96, hQ96, l96, y96, z96⟩, st96⟩ := X95.virtualBack hx (y := (⟨"java/lang/String", "charAt", "(I)C"⟩ : MethodName)) (z := (⟨"java/lang/String", "charAt", "(I)C"⟩ : MethodName)) hown (mvT hZ (hw _ (List.mem_of_getElem? (i := 113) rfl))) (mvT hZ (hw _ (List.mem_of_getElem? (i := 114) rfl))) (notFace_of_selects (args := #[]) (mvT hZ (hw _ (List.mem_of_getElem? (i := 116) rfl)))) (mvT hZ (hw _ (List.mem_of_getElem? (i := 116) rfl))) (mvT hZ (hw _ (List.mem_of_getElem? (i := 115) rfl))) (by decide) (StrChars.Road.chN (W := 0) hZ (own_wChN hw) (kI := 4) (hw _ (List.mem_of_getElem? (i := 8) rfl)) E_r Fv_r Fc_r V_tt hcd94 hbd94 (O2.ext O1.2) P5 (O4.ext O1.2) rG3 (Nat.le_of_ble_eq_true rfl) (i := 0) (Nat.le_of_ble_eq_true rfl) (j := 0) rfl (by decide) (by decide)) q96a q96c (g := (mkF m 292 #[.val (.long p1), .second, .val (.int p2), .val (.int p3), .val (.ref ca), .val (.int (2 : Int32)), .val (.int l1), .val (.int l2), .val (.ref ea), .val (.int (0 : Int32)), .val (.ref fo), .val (.ref r), .val (.int (0 : Int32)), .val (.int (2 : Int32))] [(.int (0 : Int32)), (.ref r)])) rfl (by rw [hml]; rfl) (Steps.refl _) (argsL := [(.int (0 : Int32))]) (rest := []) (lenOf pd_12 rfl) rfl (by show 2 * 0 + _ ≤ _; exact Nat.le_of_eq rfl) (hb hby at_292) (fun _ _ => ⟨rfl, e95, (by decide : 7 + 0 ≤ _), (by decide : 29 + 0 ≤ _)⟩)
  dsimp only [Pt.U, Pt.locs, Pt.cells, Pt.slots] at X96 l96 y96 z96 st96 hQ96
  subst l96 y96 z96
  refine own_gos st96 ?_
  obtain ⟨rfl, rfl, e96⟩ := hQ96
  have Nq96 : Fr n0 ([] : List Loc) := Fr.nil n0
  have N96 := Fr.app N95 Nq96
  show own_Go p e below (T96.setTop (mkF m 295 #[.val (.long p1), .second, .val (.int p2), .val (.int p3), .val (.ref ca), .val (.int (2 : Int32)), .val (.int l1), .val (.int l2), .val (.ref ea), .val (.int (0 : Int32)), .val (.ref fo), .val (.ref r), .val (.int (0 : Int32)), .val (.int (2 : Int32))] [(.int d0)])) _
  refine own_go (fun _ k => XS.aload X96.here hx rfl (hb hby at_295) rfl rfl k) ?_
  show own_Go p e below (T96.setTop (mkF m 297 #[.val (.long p1), .second, .val (.int p2), .val (.int p3), .val (.ref ca), .val (.int (2 : Int32)), .val (.int l1), .val (.int l2), .val (.ref ea), .val (.int (0 : Int32)), .val (.ref fo), .val (.ref r), .val (.int (0 : Int32)), .val (.int (2 : Int32))] [(.ref ca), (.int d0)])) _
  refine own_go (fun _ k => XS.iload X96.here hx rfl (hb hby at_297) rfl k) ?_
  show own_Go p e below (T96.setTop (mkF m 299 #[.val (.long p1), .second, .val (.int p2), .val (.int p3), .val (.ref ca), .val (.int (2 : Int32)), .val (.int l1), .val (.int l2), .val (.ref ea), .val (.int (0 : Int32)), .val (.ref fo), .val (.ref r), .val (.int (0 : Int32)), .val (.int (2 : Int32))] [(.int (0 : Int32)), (.ref ca), (.int d0)])) _
  obtain ⟨c97, A97, q97, S97, M97, Hs97, Gs97⟩ := id V_ca
  have hi97 := inb_of (j := (0 : Int32)) S97 hb0
  refine own_go (fun _ k => X96.caload hx (j := (0 : Int32)) (v := (.int d0)) (by rw [e96]; exact A97.1) (State.isArrayOf_alike hZ.alike A97.2.1) A97.2.2 hi97 (Has.at Hs97 hi97 hd0) (g := (mkF m 299 #[.val (.long p1), .second, .val (.int p2), .val (.int p3), .val (.ref ca), .val (.int (2 : Int32)), .val (.int l1), .val (.int l2), .val (.ref ea), .val (.int (0 : Int32)), .val (.ref fo), .val (.ref r), .val (.int (0 : Int32)), .val (.int (2 : Int32))] [(.int (0 : Int32)), (.ref ca), (.int d0)])) rfl rfl (hb hby at_299) _ k) ?_
  show own_Go p e below (T96.setTop (mkF m 300 #[.val (.long p1), .second, .val (.int p2), .val (.int p3), .val (.ref ca), .val (.int (2 : Int32)), .val (.int l1), .val (.int l2), .val (.ref ea), .val (.int (0 : Int32)), .val (.ref fo), .val (.ref r), .val (.int (0 : Int32)), .val (.int (2 : Int32))] [(.int d0), (.int d0)])) _
  refine own_go (fun _ k => XS.icmpYes X96.here hx rfl (pc0 := 300) (pc' := 305) rfl (hb hby at_300) rfl (teq (rfl : d0 = d0)).1 (by decide) (by decide) k) ?_
  show own_Go p e below (T96.setTop (mkF m 305 #[.val (.long p1), .second, .val (.int p2), .val (.int p3), .val (.ref ca), .val (.int (2 : Int32)), .val (.int l1), .val (.int l2), .val (.ref ea), .val (.int (0 : Int32)), .val (.ref fo), .val (.ref r), .val (.int (0 : Int32)), .val (.int (2 : Int32))] [])) _
  refine own_go (fun _ k => XS.iload X96.here hx rfl (hb hby at_305) rfl k) ?_
  show own_Go p e below (T96.setTop (mkF m 307 #[.val (.long p1), .second, .val (.int p2), .val (.int p3), .val (.ref ca), .val (.int (2 : Int32)), .val (.int l1), .val (.int l2), .val (.ref ea), .val (.int (0 : Int32)), .val (.ref fo), .val (.ref r), .val (.int (0 : Int32)), .val (.int (2 : Int32))] [(.int (2 : Int32))])) _
  refine own_go (fun _ k => XS.iconst X96.here hx rfl (hb hby at_307) k) ?_
  show own_Go p e below (T96.setTop (mkF m 308 #[.val (.long p1), .second, .val (.int p2), .val (.int p3), .val (.ref ca), .val (.int (2 : Int32)), .val (.int l1), .val (.int l2), .val (.ref ea), .val (.int (0 : Int32)), .val (.ref fo), .val (.ref r), .val (.int (0 : Int32)), .val (.int (2 : Int32))] [(.int (2 : Int32)), (.int (2 : Int32))])) _
  refine own_go (fun _ k => XS.icmpNo X96.here hx rfl (hb hby at_308) rfl (flt (by decide : ¬ ((2 : Int32) < (2 : Int32)))).1 k) ?_
  show own_Go p e below (T96.setTop (mkF m 311 #[.val (.long p1), .second, .val (.int p2), .val (.int p3), .val (.ref ca), .val (.int (2 : Int32)), .val (.int l1), .val (.int l2), .val (.ref ea), .val (.int (0 : Int32)), .val (.ref fo), .val (.ref r), .val (.int (0 : Int32)), .val (.int (2 : Int32))] [])) _
  refine own_go (fun _ k => XS.aload X96.here hx rfl (hb hby at_311) rfl rfl k) ?_
  show own_Go p e below (T96.setTop (mkF m 313 #[.val (.long p1), .second, .val (.int p2), .val (.int p3), .val (.ref ca), .val (.int (2 : Int32)), .val (.int l1), .val (.int l2), .val (.ref ea), .val (.int (0 : Int32)), .val (.ref fo), .val (.ref r), .val (.int (0 : Int32)), .val (.int (2 : Int32))] [(.ref r)])) _
  refine own_go (fun _ k => XS.iconst X96.here hx rfl (hb hby at_313) k) ?_
  show own_Go p e below (T96.setTop (mkF m 314 #[.val (.long p1), .second, .val (.int p2), .val (.int p3), .val (.ref ca), .val (.int (2 : Int32)), .val (.int l1), .val (.int l2), .val (.ref ea), .val (.int (0 : Int32)), .val (.ref fo), .val (.ref r), .val (.int (0 : Int32)), .val (.int (2 : Int32))] [(.int (1 : Int32)), (.ref r)])) _
  obtain ⟨cq98, kq98, q98a, q98b, q98c⟩ := isOf hZ e96 E_r
  obtain ⟨v98, _, ⟨T98, L98, k98, n98⟩, -, X98, ⟨Lc98, hQ98, l98, y98, z98⟩, st98⟩ := X96.virtualBack hx (y := (⟨"java/lang/String", "charAt", "(I)C"⟩ : MethodName)) (z := (⟨"java/lang/String", "charAt", "(I)C"⟩ : MethodName)) hown (mvT hZ (hw _ (List.mem_of_getElem? (i := 113) rfl))) (mvT hZ (hw _ (List.mem_of_getElem? (i := 114) rfl))) (notFace_of_selects (args := #[]) (mvT hZ (hw _ (List.mem_of_getElem? (i := 116) rfl)))) (mvT hZ (hw _ (List.mem_of_getElem? (i := 116) rfl))) (mvT hZ (hw _ (List.mem_of_getElem? (i := 115) rfl))) (by decide) (StrChars.Road.chN (W := 0) hZ (own_wChN hw) (kI := 4) (hw _ (List.mem_of_getElem? (i := 8) rfl)) E_r Fv_r Fc_r V_tt hcd94 hbd94 (O2.ext O1.2) P5 (O4.ext O1.2) rG3 (Nat.le_of_ble_eq_true rfl) (i := 1) (Nat.le_of_ble_eq_true rfl) (j := 1) rfl (by decide) (by decide)) q98a q98c (g := (mkF m 314 #[.val (.long p1), .second, .val (.int p2), .val (.int p3), .val (.ref ca), .val (.int (2 : Int32)), .val (.int l1), .val (.int l2), .val (.ref ea), .val (.int (0 : Int32)), .val (.ref fo), .val (.ref r), .val (.int (0 : Int32)), .val (.int (2 : Int32))] [(.int (1 : Int32)), (.ref r)])) rfl (by rw [hml]; rfl) (Steps.refl _) (argsL := [(.int (1 : Int32))]) (rest := []) (lenOf pd_12 rfl) rfl (by show 2 * 0 + _ ≤ _; exact Nat.le_of_eq rfl) (hb hby at_314) (fun _ _ => ⟨rfl, e96, (by decide : 7 + 0 ≤ _), (by decide : 29 + 0 ≤ _)⟩)
  dsimp only [Pt.U, Pt.locs, Pt.cells, Pt.slots] at X98 l98 y98 z98 st98 hQ98
  subst l98 y98 z98
  refine own_gos st98 ?_
  obtain ⟨rfl, rfl, e98⟩ := hQ98
  have Nq98 : Fr n0 ([] : List Loc) := Fr.nil n0
  have N98 := Fr.app N96 Nq98
  show own_Go p e below (T98.setTop (mkF m 317 #[.val (.long p1), .second, .val (.int p2), .val (.int p3), .val (.ref ca), .val (.int (2 : Int32)), .val (.int l1), .val (.int l2), .val (.ref ea), .val (.int (0 : Int32)), .val (.ref fo), .val (.ref r), .val (.int (0 : Int32)), .val (.int (2 : Int32))] [(.int d1)])) _
  refine own_go (fun _ k => XS.aload X98.here hx rfl (hb hby at_317) rfl rfl k) ?_
  show own_Go p e below (T98.setTop (mkF m 319 #[.val (.long p1), .second, .val (.int p2), .val (.int p3), .val (.ref ca), .val (.int (2 : Int32)), .val (.int l1), .val (.int l2), .val (.ref ea), .val (.int (0 : Int32)), .val (.ref fo), .val (.ref r), .val (.int (0 : Int32)), .val (.int (2 : Int32))] [(.ref ca), (.int d1)])) _
  refine own_go (fun _ k => XS.iload X98.here hx rfl (hb hby at_319) rfl k) ?_
  show own_Go p e below (T98.setTop (mkF m 321 #[.val (.long p1), .second, .val (.int p2), .val (.int p3), .val (.ref ca), .val (.int (2 : Int32)), .val (.int l1), .val (.int l2), .val (.ref ea), .val (.int (0 : Int32)), .val (.ref fo), .val (.ref r), .val (.int (0 : Int32)), .val (.int (2 : Int32))] [(.int (0 : Int32)), (.ref ca), (.int d1)])) _
  refine own_go (fun _ k => XS.iconst X98.here hx rfl (hb hby at_321) k) ?_
  show own_Go p e below (T98.setTop (mkF m 322 #[.val (.long p1), .second, .val (.int p2), .val (.int p3), .val (.ref ca), .val (.int (2 : Int32)), .val (.int l1), .val (.int l2), .val (.ref ea), .val (.int (0 : Int32)), .val (.ref fo), .val (.ref r), .val (.int (0 : Int32)), .val (.int (2 : Int32))] [(.int (1 : Int32)), (.int (0 : Int32)), (.ref ca), (.int d1)])) _
  refine own_go (fun _ k => XS.iadd X98.here hx rfl (hb hby at_322) rfl k) ?_
  show own_Go p e below (T98.setTop (mkF m 323 #[.val (.long p1), .second, .val (.int p2), .val (.int p3), .val (.ref ca), .val (.int (2 : Int32)), .val (.int l1), .val (.int l2), .val (.ref ea), .val (.int (0 : Int32)), .val (.ref fo), .val (.ref r), .val (.int (0 : Int32)), .val (.int (2 : Int32))] [(.int (1 : Int32)), (.ref ca), (.int d1)])) _
  obtain ⟨c99, A99, q99, S99, M99, Hs99, Gs99⟩ := id V_ca
  have hi99 := inb_of (j := (1 : Int32)) S99 hb1
  refine own_go (fun _ k => X98.caload hx (j := (1 : Int32)) (v := (.int d1)) (by rw [e98]; exact A99.1) (State.isArrayOf_alike hZ.alike A99.2.1) A99.2.2 hi99 (Has.at Hs99 hi99 hd1) (g := (mkF m 323 #[.val (.long p1), .second, .val (.int p2), .val (.int p3), .val (.ref ca), .val (.int (2 : Int32)), .val (.int l1), .val (.int l2), .val (.ref ea), .val (.int (0 : Int32)), .val (.ref fo), .val (.ref r), .val (.int (0 : Int32)), .val (.int (2 : Int32))] [(.int (1 : Int32)), (.ref ca), (.int d1)])) rfl rfl (hb hby at_323) _ k) ?_
  show own_Go p e below (T98.setTop (mkF m 324 #[.val (.long p1), .second, .val (.int p2), .val (.int p3), .val (.ref ca), .val (.int (2 : Int32)), .val (.int l1), .val (.int l2), .val (.ref ea), .val (.int (0 : Int32)), .val (.ref fo), .val (.ref r), .val (.int (0 : Int32)), .val (.int (2 : Int32))] [(.int d1), (.int d1)])) _
  refine own_go (fun _ k => XS.icmpNo X98.here hx rfl (hb hby at_324) rfl (teq (rfl : d1 = d1)).2 k) ?_
  show own_Go p e below (T98.setTop (mkF m 327 #[.val (.long p1), .second, .val (.int p2), .val (.int p3), .val (.ref ca), .val (.int (2 : Int32)), .val (.int l1), .val (.int l2), .val (.ref ea), .val (.int (0 : Int32)), .val (.ref fo), .val (.ref r), .val (.int (0 : Int32)), .val (.int (2 : Int32))] [])) _
  refine own_go (fun _ k => XS.iconst X98.here hx rfl (hb hby at_327) k) ?_
  show own_Go p e below (T98.setTop (mkF m 328 #[.val (.long p1), .second, .val (.int p2), .val (.int p3), .val (.ref ca), .val (.int (2 : Int32)), .val (.int l1), .val (.int l2), .val (.ref ea), .val (.int (0 : Int32)), .val (.ref fo), .val (.ref r), .val (.int (0 : Int32)), .val (.int (2 : Int32))] [(.int (1 : Int32))])) _
  refine own_go (fun _ k => XS.goto X98.here hx rfl (pc0 := 328) (pc' := 332) rfl (hb hby at_328) (by decide) (by decide) k) ?_
  show own_Go p e below (T98.setTop (mkF m 332 #[.val (.long p1), .second, .val (.int p2), .val (.int p3), .val (.ref ca), .val (.int (2 : Int32)), .val (.int l1), .val (.int l2), .val (.ref ea), .val (.int (0 : Int32)), .val (.ref fo), .val (.ref r), .val (.int (0 : Int32)), .val (.int (2 : Int32))] [(.int (1 : Int32))])) _
  refine own_fin (v := (some (.int (nar .boolean (1 : Int32))))) X98 (fun h => by rw [hrt] at h; cases h) hlk (fun fs hr => retN X98 hx (t := .boolean) hrt (by simp) (hb hby at_332) hr) (QQ := QQ0 n0) ?_ (by decide) (by decide)
  rw [e98]
  exact ⟨rfl, N98⟩

set_option maxRecDepth 65536 in
set_option maxHeartbeats 40000000 in
theorem tail_1_0 (l : Launch) (Z : State) (a0 : Array Value) (hw : ∀ d ∈ tables_1, d.before a0 Z = true) (p1 : Int64) (p2 : Int32) (p3 : Int32) (ca : Addr) (kc : ClassId) (ea : Addr) (fo : Addr) (l0 : Int32) (l2 : Int32) (G1 : Int32) (G3 : Value) (c0 : Int32) (c1 : Int32) (c2 : Int32) (c3 : Int32) (c4 : Int32) (c5 : Int32) (c6 : Int32) (h0 : Heap) (n0 : Nat) {p : Program} {e : Env} {s : State} {m : MethodId} {below : List Frame} {meth : Method} {c : Code} {T0 : State} {locs : List Loc} (X0 : Stand p l e room_1 s m #[(.long p1), (.int p2), (.int p3)] below meth c T0 locs 5 23) (hx : p.tables.exec = Jvm.exec) (hby : c.code = code) (hml : c.maxLocals = maxLocals) (hown : s.vm.findClass "com/example/sequela/sequela/FieldsGetPinLaw" = some m.cls) (hZ : Z.Warmed39 s.vm) (hrt : meth.sig.returnType = ret) (hlk : meth.locks = false) (h1 : Heap) (e0 : T0.heap = h1) (N0 : Fr n0 locs) (Z0 : n0 ≤ h1.size) (O1 : Old Z n0 h1) (V_ca : Arv Z h1 ca kc .char (7 : Int32) [(.int c0), (.int c1), (.int c2), (.int c3), (.int c4), (.int c5), (.int c6)] (.int (0 : Int32))) (O2 : Sta Z Z.heap "java/lang/String" "COMPACT_STRINGS" "Z" (.int G1)) (P5 : ¬ (G1 = (0 : Int32))) (O4 : Sta Z Z.heap "jdk/internal/util/Preconditions" "SIOOBE_FORMATTER" "Ljava/util/function/BiFunction;" G3) (rG3 : G3.isRef = true) :
    own_Go p e below (T0.setTop (mkF m 202 #[.val (.long p1), .second, .val (.int p2), .val (.int p3), .val (.ref ca), .val (.int l0), .val (.int (0 : Int32)), .val (.int l2), .val (.ref ea), .val (.int (1 : Int32)), .val (.ref fo), .unset, .unset, .unset] [.null])) (fun o U' => ∃ v L, o = .returned v ∧ QQ0 n0 v U'.heap L ∧ FrameEnd s o U' L 24 128) := by
  show own_Go p e below (T0.setTop (mkF m 202 #[.val (.long p1), .second, .val (.int p2), .val (.int p3), .val (.ref ca), .val (.int l0), .val (.int (0 : Int32)), .val (.int l2), .val (.ref ea), .val (.int (1 : Int32)), .val (.ref fo), .unset, .unset, .unset] [.null])) _
  refine own_go (fun _ k => XS.astore X0.here hx rfl (hb hby at_202) rfl rfl (l' := #[.val (.long p1), .second, .val (.int p2), .val (.int p3), .val (.ref ca), .val (.int l0), .val (.int (0 : Int32)), .val (.int l2), .val (.ref ea), .val (.int (1 : Int32)), .val (.ref fo), .val .null, .unset, .unset]) rfl k) ?_
  show own_Go p e below (T0.setTop (mkF m 204 #[.val (.long p1), .second, .val (.int p2), .val (.int p3), .val (.ref ca), .val (.int l0), .val (.int (0 : Int32)), .val (.int l2), .val (.ref ea), .val (.int (1 : Int32)), .val (.ref fo), .val .null, .unset, .unset] [])) _
  refine own_go (fun _ k => XS.iload X0.here hx rfl (hb hby at_204) rfl k) ?_
  show own_Go p e below (T0.setTop (mkF m 206 #[.val (.long p1), .second, .val (.int p2), .val (.int p3), .val (.ref ca), .val (.int l0), .val (.int (0 : Int32)), .val (.int l2), .val (.ref ea), .val (.int (1 : Int32)), .val (.ref fo), .val .null, .unset, .unset] [(.int (1 : Int32))])) _
  refine own_go (fun _ k => XS.ifYes X0.here hx rfl (pc0 := 206) (pc' := 213) rfl (hb hby at_206) rfl ((if0 _ _).trans (feq (by decide : ¬ ((1 : Int32) = (0 : Int32)))).2) (by decide) (by decide) k) ?_
  show own_Go p e below (T0.setTop (mkF m 213 #[.val (.long p1), .second, .val (.int p2), .val (.int p3), .val (.ref ca), .val (.int l0), .val (.int (0 : Int32)), .val (.int l2), .val (.ref ea), .val (.int (1 : Int32)), .val (.ref fo), .val .null, .unset, .unset] [])) _
  refine own_go (fun _ k => XS.iload X0.here hx rfl (hb hby at_213) rfl k) ?_
  show own_Go p e below (T0.setTop (mkF m 215 #[.val (.long p1), .second, .val (.int p2), .val (.int p3), .val (.ref ca), .val (.int l0), .val (.int (0 : Int32)), .val (.int l2), .val (.ref ea), .val (.int (1 : Int32)), .val (.ref fo), .val .null, .unset, .unset] [(.int (1 : Int32))])) _
  refine own_go (fun _ k => XS.iconst X0.here hx rfl (hb hby at_215) k) ?_
  show own_Go p e below (T0.setTop (mkF m 216 #[.val (.long p1), .second, .val (.int p2), .val (.int p3), .val (.ref ca), .val (.int l0), .val (.int (0 : Int32)), .val (.int l2), .val (.ref ea), .val (.int (1 : Int32)), .val (.ref fo), .val .null, .unset, .unset] [(.int (1 : Int32)), (.int (1 : Int32))])) _
  refine own_go (fun _ k => XS.icmpNo X0.here hx rfl (hb hby at_216) rfl (teq (by decide : (1 : Int32) = (1 : Int32))).2 k) ?_
  show own_Go p e below (T0.setTop (mkF m 219 #[.val (.long p1), .second, .val (.int p2), .val (.int p3), .val (.ref ca), .val (.int l0), .val (.int (0 : Int32)), .val (.int l2), .val (.ref ea), .val (.int (1 : Int32)), .val (.ref fo), .val .null, .unset, .unset] [])) _
  refine own_go (fun _ k => XS.iload X0.here hx rfl (hb hby at_219) rfl k) ?_
  show own_Go p e below (T0.setTop (mkF m 221 #[.val (.long p1), .second, .val (.int p2), .val (.int p3), .val (.ref ca), .val (.int l0), .val (.int (0 : Int32)), .val (.int l2), .val (.ref ea), .val (.int (1 : Int32)), .val (.ref fo), .val .null, .unset, .unset] [(.int l0)])) _
  refine own_go (fun _ k => XS.goto X0.here hx rfl (pc0 := 221) (pc' := 229) rfl (hb hby at_221) (by decide) (by decide) k) ?_
  show own_Go p e below (T0.setTop (mkF m 229 #[.val (.long p1), .second, .val (.int p2), .val (.int p3), .val (.ref ca), .val (.int l0), .val (.int (0 : Int32)), .val (.int l2), .val (.ref ea), .val (.int (1 : Int32)), .val (.ref fo), .val .null, .unset, .unset] [(.int l0)])) _
  refine own_go (fun _ k => XS.istore X0.here hx rfl (hb hby at_229) rfl (l' := #[.val (.long p1), .second, .val (.int p2), .val (.int p3), .val (.ref ca), .val (.int l0), .val (.int (0 : Int32)), .val (.int l2), .val (.ref ea), .val (.int (1 : Int32)), .val (.ref fo), .val .null, .val (.int l0), .unset]) rfl k) ?_
  show own_Go p e below (T0.setTop (mkF m 231 #[.val (.long p1), .second, .val (.int p2), .val (.int p3), .val (.ref ca), .val (.int l0), .val (.int (0 : Int32)), .val (.int l2), .val (.ref ea), .val (.int (1 : Int32)), .val (.ref fo), .val .null, .val (.int l0), .unset] [])) _
  refine own_go (fun _ k => XS.iload X0.here hx rfl (hb hby at_231) rfl k) ?_
  show own_Go p e below (T0.setTop (mkF m 233 #[.val (.long p1), .second, .val (.int p2), .val (.int p3), .val (.ref ca), .val (.int l0), .val (.int (0 : Int32)), .val (.int l2), .val (.ref ea), .val (.int (1 : Int32)), .val (.ref fo), .val .null, .val (.int l0), .unset] [(.int (1 : Int32))])) _
  refine own_go (fun _ k => XS.ifYes X0.here hx rfl (pc0 := 233) (pc' := 241) rfl (hb hby at_233) rfl ((if0 _ _).trans (feq (by decide : ¬ ((1 : Int32) = (0 : Int32)))).2) (by decide) (by decide) k) ?_
  show own_Go p e below (T0.setTop (mkF m 241 #[.val (.long p1), .second, .val (.int p2), .val (.int p3), .val (.ref ca), .val (.int l0), .val (.int (0 : Int32)), .val (.int l2), .val (.ref ea), .val (.int (1 : Int32)), .val (.ref fo), .val .null, .val (.int l0), .unset] [])) _
  refine own_go (fun _ k => XS.iload X0.here hx rfl (hb hby at_241) rfl k) ?_
  show own_Go p e below (T0.setTop (mkF m 243 #[.val (.long p1), .second, .val (.int p2), .val (.int p3), .val (.ref ca), .val (.int l0), .val (.int (0 : Int32)), .val (.int l2), .val (.ref ea), .val (.int (1 : Int32)), .val (.ref fo), .val .null, .val (.int l0), .unset] [(.int (1 : Int32))])) _
  refine own_go (fun _ k => XS.iconst X0.here hx rfl (hb hby at_243) k) ?_
  show own_Go p e below (T0.setTop (mkF m 244 #[.val (.long p1), .second, .val (.int p2), .val (.int p3), .val (.ref ca), .val (.int l0), .val (.int (0 : Int32)), .val (.int l2), .val (.ref ea), .val (.int (1 : Int32)), .val (.ref fo), .val .null, .val (.int l0), .unset] [(.int (1 : Int32)), (.int (1 : Int32))])) _
  refine own_go (fun _ k => XS.icmpNo X0.here hx rfl (hb hby at_244) rfl (teq (by decide : (1 : Int32) = (1 : Int32))).2 k) ?_
  show own_Go p e below (T0.setTop (mkF m 247 #[.val (.long p1), .second, .val (.int p2), .val (.int p3), .val (.ref ca), .val (.int l0), .val (.int (0 : Int32)), .val (.int l2), .val (.ref ea), .val (.int (1 : Int32)), .val (.ref fo), .val .null, .val (.int l0), .unset] [])) _
  refine own_go (fun _ k => XS.iload X0.here hx rfl (hb hby at_247) rfl k) ?_
  show own_Go p e below (T0.setTop (mkF m 249 #[.val (.long p1), .second, .val (.int p2), .val (.int p3), .val (.ref ca), .val (.int l0), .val (.int (0 : Int32)), .val (.int l2), .val (.ref ea), .val (.int (1 : Int32)), .val (.ref fo), .val .null, .val (.int l0), .unset] [(.int (0 : Int32))])) _
  refine own_go (fun _ k => XS.goto X0.here hx rfl (pc0 := 249) (pc' := 254) rfl (hb hby at_249) (by decide) (by decide) k) ?_
  show own_Go p e below (T0.setTop (mkF m 254 #[.val (.long p1), .second, .val (.int p2), .val (.int p3), .val (.ref ca), .val (.int l0), .val (.int (0 : Int32)), .val (.int l2), .val (.ref ea), .val (.int (1 : Int32)), .val (.ref fo), .val .null, .val (.int l0), .unset] [(.int (0 : Int32))])) _
  refine own_go (fun _ k => XS.istore X0.here hx rfl (hb hby at_254) rfl (l' := #[.val (.long p1), .second, .val (.int p2), .val (.int p3), .val (.ref ca), .val (.int l0), .val (.int (0 : Int32)), .val (.int l2), .val (.ref ea), .val (.int (1 : Int32)), .val (.ref fo), .val .null, .val (.int l0), .val (.int (0 : Int32))]) rfl k) ?_
  show own_Go p e below (T0.setTop (mkF m 256 #[.val (.long p1), .second, .val (.int p2), .val (.int p3), .val (.ref ca), .val (.int l0), .val (.int (0 : Int32)), .val (.int l2), .val (.ref ea), .val (.int (1 : Int32)), .val (.ref fo), .val .null, .val (.int l0), .val (.int (0 : Int32))] [])) _
  refine own_go (fun _ k => XS.iload X0.here hx rfl (hb hby at_256) rfl k) ?_
  show own_Go p e below (T0.setTop (mkF m 258 #[.val (.long p1), .second, .val (.int p2), .val (.int p3), .val (.ref ca), .val (.int l0), .val (.int (0 : Int32)), .val (.int l2), .val (.ref ea), .val (.int (1 : Int32)), .val (.ref fo), .val .null, .val (.int l0), .val (.int (0 : Int32))] [(.int (0 : Int32))])) _
  refine own_go (fun _ k => XS.ifNo X0.here hx rfl (hb hby at_258) rfl ((if0 _ _).trans (teq (by decide : (0 : Int32) = (0 : Int32))).2) k) ?_
  show own_Go p e below (T0.setTop (mkF m 261 #[.val (.long p1), .second, .val (.int p2), .val (.int p3), .val (.ref ca), .val (.int l0), .val (.int (0 : Int32)), .val (.int l2), .val (.ref ea), .val (.int (1 : Int32)), .val (.ref fo), .val .null, .val (.int l0), .val (.int (0 : Int32))] [])) _
  refine own_go (fun _ k => XS.aload X0.here hx rfl (hb hby at_261) rfl rfl k) ?_
  show own_Go p e below (T0.setTop (mkF m 263 #[.val (.long p1), .second, .val (.int p2), .val (.int p3), .val (.ref ca), .val (.int l0), .val (.int (0 : Int32)), .val (.int l2), .val (.ref ea), .val (.int (1 : Int32)), .val (.ref fo), .val .null, .val (.int l0), .val (.int (0 : Int32))] [.null])) _
  refine own_go (fun _ k => XS.ifnonnullNo X0.here hx rfl (hb hby at_263) rfl k) ?_
  show own_Go p e below (T0.setTop (mkF m 266 #[.val (.long p1), .second, .val (.int p2), .val (.int p3), .val (.ref ca), .val (.int l0), .val (.int (0 : Int32)), .val (.int l2), .val (.ref ea), .val (.int (1 : Int32)), .val (.ref fo), .val .null, .val (.int l0), .val (.int (0 : Int32))] [])) _
  refine own_go (fun _ k => XS.iconst X0.here hx rfl (hb hby at_266) k) ?_
  show own_Go p e below (T0.setTop (mkF m 267 #[.val (.long p1), .second, .val (.int p2), .val (.int p3), .val (.ref ca), .val (.int l0), .val (.int (0 : Int32)), .val (.int l2), .val (.ref ea), .val (.int (1 : Int32)), .val (.ref fo), .val .null, .val (.int l0), .val (.int (0 : Int32))] [(.int (1 : Int32))])) _
  refine own_go (fun _ k => XS.goto X0.here hx rfl (pc0 := 267) (pc' := 271) rfl (hb hby at_267) (by decide) (by decide) k) ?_
  show own_Go p e below (T0.setTop (mkF m 271 #[.val (.long p1), .second, .val (.int p2), .val (.int p3), .val (.ref ca), .val (.int l0), .val (.int (0 : Int32)), .val (.int l2), .val (.ref ea), .val (.int (1 : Int32)), .val (.ref fo), .val .null, .val (.int l0), .val (.int (0 : Int32))] [(.int (1 : Int32))])) _
  refine own_fin (v := (some (.int (nar .boolean (1 : Int32))))) X0 (fun h => by rw [hrt] at h; cases h) hlk (fun fs hr => retN X0 hx (t := .boolean) hrt (by simp) (hb hby at_271) hr) (QQ := QQ0 n0) ?_ (by decide) (by decide)
  rw [e0]
  exact ⟨rfl, N0⟩

set_option maxRecDepth 65536 in
set_option maxHeartbeats 40000000 in
theorem tail_1_1 (l : Launch) (Z : State) (a0 : Array Value) (hw : ∀ d ∈ tables_1, d.before a0 Z = true) (p1 : Int64) (p2 : Int32) (p3 : Int32) (ca : Addr) (kc : ClassId) (ea : Addr) (fo : Addr) (l0 : Int32) (l2 : Int32) (G1 : Int32) (G3 : Value) (c0 : Int32) (c1 : Int32) (c2 : Int32) (c3 : Int32) (c4 : Int32) (c5 : Int32) (c6 : Int32) (r : Addr) (tt : Addr) (kt : ClassId) (d0 : Int32) (h0 : Heap) (n0 : Nat) {p : Program} {e : Env} {s : State} {m : MethodId} {below : List Frame} {meth : Method} {c : Code} {T0 : State} {locs : List Loc} (X0 : Stand p l e room_1 s m #[(.long p1), (.int p2), (.int p3)] below meth c T0 locs 7 29) (hx : p.tables.exec = Jvm.exec) (hby : c.code = code) (hml : c.maxLocals = maxLocals) (hown : s.vm.findClass "com/example/sequela/sequela/FieldsGetPinLaw" = some m.cls) (hZ : Z.Warmed39 s.vm) (hrt : meth.sig.returnType = ret) (hlk : meth.locks = false) (h1 : Heap) (e0 : T0.heap = h1) (N0 : Fr n0 locs) (Z0 : n0 ≤ h1.size) (O1 : Old Z n0 h1) (V_ca : Arv Z h1 ca kc .char (7 : Int32) [(.int c0), (.int c1), (.int c2), (.int c3), (.int c4), (.int c5), (.int c6)] (.int (0 : Int32))) (E_r : Exa Z h1 r "java/lang/String") (Fv_r : Fld Z h1 r "java/lang/String" "value" "[B" (.ref tt)) (Fc_r : Fld Z h1 r "java/lang/String" "coder" "B" (.int (0 : Int32))) (V_tt : Arv Z h1 tt kt .byte (1 : Int32) ((([d0] : List Int32).map (fun c => c.toInt8.toInt32)).map Value.int) (.int (0 : Int32))) (O2 : Sta Z Z.heap "java/lang/String" "COMPACT_STRINGS" "Z" (.int G1)) (P5 : ¬ (G1 = (0 : Int32))) (O4 : Sta Z Z.heap "jdk/internal/util/Preconditions" "SIOOBE_FORMATTER" "Ljava/util/function/BiFunction;" G3) (rG3 : G3.isRef = true) (hp_r : ∀ c ∈ ([d0] : List Int32), ¬ c < 0 ∧ ¬ (255 : Int32) < c) (hb0 : ¬ l0 < 0 ∧ l0 < (7 : Int32)) (hd0 : ([(.int c0), (.int c1), (.int c2), (.int c3), (.int c4), (.int c5), (.int c6)] : List Value).getD (l0).toNatClampNeg (.int (0 : Int32)) = (.int d0)) :
    own_Go p e below (T0.setTop (mkF m 202 #[.val (.long p1), .second, .val (.int p2), .val (.int p3), .val (.ref ca), .val (.int l0), .val (.int (1 : Int32)), .val (.int l2), .val (.ref ea), .val (.int (1 : Int32)), .val (.ref fo), .unset, .unset, .unset] [(.ref r)])) (fun o U' => ∃ v L, o = .returned v ∧ QQ0 n0 v U'.heap L ∧ FrameEnd s o U' L 24 128) := by
  show own_Go p e below (T0.setTop (mkF m 202 #[.val (.long p1), .second, .val (.int p2), .val (.int p3), .val (.ref ca), .val (.int l0), .val (.int (1 : Int32)), .val (.int l2), .val (.ref ea), .val (.int (1 : Int32)), .val (.ref fo), .unset, .unset, .unset] [(.ref r)])) _
  refine own_go (fun _ k => XS.astore X0.here hx rfl (hb hby at_202) rfl rfl (l' := #[.val (.long p1), .second, .val (.int p2), .val (.int p3), .val (.ref ca), .val (.int l0), .val (.int (1 : Int32)), .val (.int l2), .val (.ref ea), .val (.int (1 : Int32)), .val (.ref fo), .val (.ref r), .unset, .unset]) rfl k) ?_
  show own_Go p e below (T0.setTop (mkF m 204 #[.val (.long p1), .second, .val (.int p2), .val (.int p3), .val (.ref ca), .val (.int l0), .val (.int (1 : Int32)), .val (.int l2), .val (.ref ea), .val (.int (1 : Int32)), .val (.ref fo), .val (.ref r), .unset, .unset] [])) _
  refine own_go (fun _ k => XS.iload X0.here hx rfl (hb hby at_204) rfl k) ?_
  show own_Go p e below (T0.setTop (mkF m 206 #[.val (.long p1), .second, .val (.int p2), .val (.int p3), .val (.ref ca), .val (.int l0), .val (.int (1 : Int32)), .val (.int l2), .val (.ref ea), .val (.int (1 : Int32)), .val (.ref fo), .val (.ref r), .unset, .unset] [(.int (1 : Int32))])) _
  refine own_go (fun _ k => XS.ifYes X0.here hx rfl (pc0 := 206) (pc' := 213) rfl (hb hby at_206) rfl ((if0 _ _).trans (feq (by decide : ¬ ((1 : Int32) = (0 : Int32)))).2) (by decide) (by decide) k) ?_
  show own_Go p e below (T0.setTop (mkF m 213 #[.val (.long p1), .second, .val (.int p2), .val (.int p3), .val (.ref ca), .val (.int l0), .val (.int (1 : Int32)), .val (.int l2), .val (.ref ea), .val (.int (1 : Int32)), .val (.ref fo), .val (.ref r), .unset, .unset] [])) _
  refine own_go (fun _ k => XS.iload X0.here hx rfl (hb hby at_213) rfl k) ?_
  show own_Go p e below (T0.setTop (mkF m 215 #[.val (.long p1), .second, .val (.int p2), .val (.int p3), .val (.ref ca), .val (.int l0), .val (.int (1 : Int32)), .val (.int l2), .val (.ref ea), .val (.int (1 : Int32)), .val (.ref fo), .val (.ref r), .unset, .unset] [(.int (1 : Int32))])) _
  refine own_go (fun _ k => XS.iconst X0.here hx rfl (hb hby at_215) k) ?_
  show own_Go p e below (T0.setTop (mkF m 216 #[.val (.long p1), .second, .val (.int p2), .val (.int p3), .val (.ref ca), .val (.int l0), .val (.int (1 : Int32)), .val (.int l2), .val (.ref ea), .val (.int (1 : Int32)), .val (.ref fo), .val (.ref r), .unset, .unset] [(.int (1 : Int32)), (.int (1 : Int32))])) _
  refine own_go (fun _ k => XS.icmpNo X0.here hx rfl (hb hby at_216) rfl (teq (by decide : (1 : Int32) = (1 : Int32))).2 k) ?_
  show own_Go p e below (T0.setTop (mkF m 219 #[.val (.long p1), .second, .val (.int p2), .val (.int p3), .val (.ref ca), .val (.int l0), .val (.int (1 : Int32)), .val (.int l2), .val (.ref ea), .val (.int (1 : Int32)), .val (.ref fo), .val (.ref r), .unset, .unset] [])) _
  refine own_go (fun _ k => XS.iload X0.here hx rfl (hb hby at_219) rfl k) ?_
  show own_Go p e below (T0.setTop (mkF m 221 #[.val (.long p1), .second, .val (.int p2), .val (.int p3), .val (.ref ca), .val (.int l0), .val (.int (1 : Int32)), .val (.int l2), .val (.ref ea), .val (.int (1 : Int32)), .val (.ref fo), .val (.ref r), .unset, .unset] [(.int l0)])) _
  refine own_go (fun _ k => XS.goto X0.here hx rfl (pc0 := 221) (pc' := 229) rfl (hb hby at_221) (by decide) (by decide) k) ?_
  show own_Go p e below (T0.setTop (mkF m 229 #[.val (.long p1), .second, .val (.int p2), .val (.int p3), .val (.ref ca), .val (.int l0), .val (.int (1 : Int32)), .val (.int l2), .val (.ref ea), .val (.int (1 : Int32)), .val (.ref fo), .val (.ref r), .unset, .unset] [(.int l0)])) _
  refine own_go (fun _ k => XS.istore X0.here hx rfl (hb hby at_229) rfl (l' := #[.val (.long p1), .second, .val (.int p2), .val (.int p3), .val (.ref ca), .val (.int l0), .val (.int (1 : Int32)), .val (.int l2), .val (.ref ea), .val (.int (1 : Int32)), .val (.ref fo), .val (.ref r), .val (.int l0), .unset]) rfl k) ?_
  show own_Go p e below (T0.setTop (mkF m 231 #[.val (.long p1), .second, .val (.int p2), .val (.int p3), .val (.ref ca), .val (.int l0), .val (.int (1 : Int32)), .val (.int l2), .val (.ref ea), .val (.int (1 : Int32)), .val (.ref fo), .val (.ref r), .val (.int l0), .unset] [])) _
  refine own_go (fun _ k => XS.iload X0.here hx rfl (hb hby at_231) rfl k) ?_
  show own_Go p e below (T0.setTop (mkF m 233 #[.val (.long p1), .second, .val (.int p2), .val (.int p3), .val (.ref ca), .val (.int l0), .val (.int (1 : Int32)), .val (.int l2), .val (.ref ea), .val (.int (1 : Int32)), .val (.ref fo), .val (.ref r), .val (.int l0), .unset] [(.int (1 : Int32))])) _
  refine own_go (fun _ k => XS.ifYes X0.here hx rfl (pc0 := 233) (pc' := 241) rfl (hb hby at_233) rfl ((if0 _ _).trans (feq (by decide : ¬ ((1 : Int32) = (0 : Int32)))).2) (by decide) (by decide) k) ?_
  show own_Go p e below (T0.setTop (mkF m 241 #[.val (.long p1), .second, .val (.int p2), .val (.int p3), .val (.ref ca), .val (.int l0), .val (.int (1 : Int32)), .val (.int l2), .val (.ref ea), .val (.int (1 : Int32)), .val (.ref fo), .val (.ref r), .val (.int l0), .unset] [])) _
  refine own_go (fun _ k => XS.iload X0.here hx rfl (hb hby at_241) rfl k) ?_
  show own_Go p e below (T0.setTop (mkF m 243 #[.val (.long p1), .second, .val (.int p2), .val (.int p3), .val (.ref ca), .val (.int l0), .val (.int (1 : Int32)), .val (.int l2), .val (.ref ea), .val (.int (1 : Int32)), .val (.ref fo), .val (.ref r), .val (.int l0), .unset] [(.int (1 : Int32))])) _
  refine own_go (fun _ k => XS.iconst X0.here hx rfl (hb hby at_243) k) ?_
  show own_Go p e below (T0.setTop (mkF m 244 #[.val (.long p1), .second, .val (.int p2), .val (.int p3), .val (.ref ca), .val (.int l0), .val (.int (1 : Int32)), .val (.int l2), .val (.ref ea), .val (.int (1 : Int32)), .val (.ref fo), .val (.ref r), .val (.int l0), .unset] [(.int (1 : Int32)), (.int (1 : Int32))])) _
  refine own_go (fun _ k => XS.icmpNo X0.here hx rfl (hb hby at_244) rfl (teq (by decide : (1 : Int32) = (1 : Int32))).2 k) ?_
  show own_Go p e below (T0.setTop (mkF m 247 #[.val (.long p1), .second, .val (.int p2), .val (.int p3), .val (.ref ca), .val (.int l0), .val (.int (1 : Int32)), .val (.int l2), .val (.ref ea), .val (.int (1 : Int32)), .val (.ref fo), .val (.ref r), .val (.int l0), .unset] [])) _
  refine own_go (fun _ k => XS.iload X0.here hx rfl (hb hby at_247) rfl k) ?_
  show own_Go p e below (T0.setTop (mkF m 249 #[.val (.long p1), .second, .val (.int p2), .val (.int p3), .val (.ref ca), .val (.int l0), .val (.int (1 : Int32)), .val (.int l2), .val (.ref ea), .val (.int (1 : Int32)), .val (.ref fo), .val (.ref r), .val (.int l0), .unset] [(.int (1 : Int32))])) _
  refine own_go (fun _ k => XS.goto X0.here hx rfl (pc0 := 249) (pc' := 254) rfl (hb hby at_249) (by decide) (by decide) k) ?_
  show own_Go p e below (T0.setTop (mkF m 254 #[.val (.long p1), .second, .val (.int p2), .val (.int p3), .val (.ref ca), .val (.int l0), .val (.int (1 : Int32)), .val (.int l2), .val (.ref ea), .val (.int (1 : Int32)), .val (.ref fo), .val (.ref r), .val (.int l0), .unset] [(.int (1 : Int32))])) _
  refine own_go (fun _ k => XS.istore X0.here hx rfl (hb hby at_254) rfl (l' := #[.val (.long p1), .second, .val (.int p2), .val (.int p3), .val (.ref ca), .val (.int l0), .val (.int (1 : Int32)), .val (.int l2), .val (.ref ea), .val (.int (1 : Int32)), .val (.ref fo), .val (.ref r), .val (.int l0), .val (.int (1 : Int32))]) rfl k) ?_
  show own_Go p e below (T0.setTop (mkF m 256 #[.val (.long p1), .second, .val (.int p2), .val (.int p3), .val (.ref ca), .val (.int l0), .val (.int (1 : Int32)), .val (.int l2), .val (.ref ea), .val (.int (1 : Int32)), .val (.ref fo), .val (.ref r), .val (.int l0), .val (.int (1 : Int32))] [])) _
  refine own_go (fun _ k => XS.iload X0.here hx rfl (hb hby at_256) rfl k) ?_
  show own_Go p e below (T0.setTop (mkF m 258 #[.val (.long p1), .second, .val (.int p2), .val (.int p3), .val (.ref ca), .val (.int l0), .val (.int (1 : Int32)), .val (.int l2), .val (.ref ea), .val (.int (1 : Int32)), .val (.ref fo), .val (.ref r), .val (.int l0), .val (.int (1 : Int32))] [(.int (1 : Int32))])) _
  refine own_go (fun _ k => XS.ifYes X0.here hx rfl (pc0 := 258) (pc' := 272) rfl (hb hby at_258) rfl ((if0 _ _).trans (feq (by decide : ¬ ((1 : Int32) = (0 : Int32)))).2) (by decide) (by decide) k) ?_
  show own_Go p e below (T0.setTop (mkF m 272 #[.val (.long p1), .second, .val (.int p2), .val (.int p3), .val (.ref ca), .val (.int l0), .val (.int (1 : Int32)), .val (.int l2), .val (.ref ea), .val (.int (1 : Int32)), .val (.ref fo), .val (.ref r), .val (.int l0), .val (.int (1 : Int32))] [])) _
  refine own_go (fun _ k => XS.aload X0.here hx rfl (hb hby at_272) rfl rfl k) ?_
  show own_Go p e below (T0.setTop (mkF m 274 #[.val (.long p1), .second, .val (.int p2), .val (.int p3), .val (.ref ca), .val (.int l0), .val (.int (1 : Int32)), .val (.int l2), .val (.ref ea), .val (.int (1 : Int32)), .val (.ref fo), .val (.ref r), .val (.int l0), .val (.int (1 : Int32))] [(.ref r)])) _
  refine own_go (fun _ k => XS.ifnullNo X0.here hx rfl (hb hby at_274) rfl k) ?_
  show own_Go p e below (T0.setTop (mkF m 277 #[.val (.long p1), .second, .val (.int p2), .val (.int p3), .val (.ref ca), .val (.int l0), .val (.int (1 : Int32)), .val (.int l2), .val (.ref ea), .val (.int (1 : Int32)), .val (.ref fo), .val (.ref r), .val (.int l0), .val (.int (1 : Int32))] [])) _
  refine own_go (fun _ k => XS.aload X0.here hx rfl (hb hby at_277) rfl rfl k) ?_
  show own_Go p e below (T0.setTop (mkF m 279 #[.val (.long p1), .second, .val (.int p2), .val (.int p3), .val (.ref ca), .val (.int l0), .val (.int (1 : Int32)), .val (.int l2), .val (.ref ea), .val (.int (1 : Int32)), .val (.ref fo), .val (.ref r), .val (.int l0), .val (.int (1 : Int32))] [(.ref r)])) _
  have hcd100 : StrChars.Road.CodA ([d0] : List Int32) 0 (1 : Int32) (((([d0] : List Int32)).map (fun c => c.toInt8.toInt32)).map Value.int) := StrChars.Road.codOf (n := 1) rfl (fun x hx => (hp_r x hx).2)
  have hbd100 := own_up _ hp_r
  obtain ⟨cq101, kq101, q101a, q101b, q101c⟩ := isOf hZ e0 E_r
  obtain ⟨v101, _, ⟨T101, L101, k101, n101⟩, -, X101, ⟨Lc101, hQ101, l101, y101, z101⟩, st101⟩ := X0.virtualBack hx (y := (⟨"java/lang/String", "length", "()I"⟩ : MethodName)) (z := (⟨"java/lang/String", "length", "()I"⟩ : MethodName)) hown (mvT hZ (hw _ (List.mem_of_getElem? (i := 112) rfl))) (mvT hZ (hw _ (List.mem_of_getElem? (i := 64) rfl))) (notFace_of_selects (args := #[]) (mvT hZ (hw _ (List.mem_of_getElem? (i := 66) rfl)))) (mvT hZ (hw _ (List.mem_of_getElem? (i := 66) rfl))) (mvT hZ (hw _ (List.mem_of_getElem? (i := 65) rfl))) (by decide) (StrChars.Road.lenW (W := 0) hZ (own_wLen hw) (kI := 4) (hw _ (List.mem_of_getElem? (i := 8) rfl)) E_r Fv_r Fc_r V_tt hcd100 hbd100 (O2.ext O1.2) P5 (Nat.le_of_ble_eq_true rfl) (by decide) (by decide)) q101a q101c (g := (mkF m 279 #[.val (.long p1), .second, .val (.int p2), .val (.int p3), .val (.ref ca), .val (.int l0), .val (.int (1 : Int32)), .val (.int l2), .val (.ref ea), .val (.int (1 : Int32)), .val (.ref fo), .val (.ref r), .val (.int l0), .val (.int (1 : Int32))] [(.ref r)])) rfl (by rw [hml]; rfl) (Steps.refl _) (argsL := []) (rest := []) (lenOf pd_6 rfl) rfl (by show 2 * 0 + _ ≤ _; exact Nat.le_of_eq rfl) (hb hby at_279) (fun _ _ => ⟨rfl, e0, (by decide : 7 + 0 ≤ _), (by decide : 29 + 0 ≤ _)⟩)
  dsimp only [Pt.U, Pt.locs, Pt.cells, Pt.slots] at X101 l101 y101 z101 st101 hQ101
  subst l101 y101 z101
  refine own_gos st101 ?_
  obtain ⟨rfl, rfl, e101⟩ := hQ101
  have Nq101 : Fr n0 ([] : List Loc) := Fr.nil n0
  have N101 := Fr.app N0 Nq101
  show own_Go p e below (T101.setTop (mkF m 282 #[.val (.long p1), .second, .val (.int p2), .val (.int p3), .val (.ref ca), .val (.int l0), .val (.int (1 : Int32)), .val (.int l2), .val (.ref ea), .val (.int (1 : Int32)), .val (.ref fo), .val (.ref r), .val (.int l0), .val (.int (1 : Int32))] [(.int (1 : Int32))])) _
  refine own_go (fun _ k => XS.iload X101.here hx rfl (hb hby at_282) rfl k) ?_
  show own_Go p e below (T101.setTop (mkF m 284 #[.val (.long p1), .second, .val (.int p2), .val (.int p3), .val (.ref ca), .val (.int l0), .val (.int (1 : Int32)), .val (.int l2), .val (.ref ea), .val (.int (1 : Int32)), .val (.ref fo), .val (.ref r), .val (.int l0), .val (.int (1 : Int32))] [(.int (1 : Int32)), (.int (1 : Int32))])) _
  refine own_go (fun _ k => XS.icmpYes X101.here hx rfl (pc0 := 284) (pc' := 289) rfl (hb hby at_284) rfl (teq (by decide : (1 : Int32) = (1 : Int32))).1 (by decide) (by decide) k) ?_
  show own_Go p e below (T101.setTop (mkF m 289 #[.val (.long p1), .second, .val (.int p2), .val (.int p3), .val (.ref ca), .val (.int l0), .val (.int (1 : Int32)), .val (.int l2), .val (.ref ea), .val (.int (1 : Int32)), .val (.ref fo), .val (.ref r), .val (.int l0), .val (.int (1 : Int32))] [])) _
  refine own_go (fun _ k => XS.aload X101.here hx rfl (hb hby at_289) rfl rfl k) ?_
  show own_Go p e below (T101.setTop (mkF m 291 #[.val (.long p1), .second, .val (.int p2), .val (.int p3), .val (.ref ca), .val (.int l0), .val (.int (1 : Int32)), .val (.int l2), .val (.ref ea), .val (.int (1 : Int32)), .val (.ref fo), .val (.ref r), .val (.int l0), .val (.int (1 : Int32))] [(.ref r)])) _
  refine own_go (fun _ k => XS.iconst X101.here hx rfl (hb hby at_291) k) ?_
  show own_Go p e below (T101.setTop (mkF m 292 #[.val (.long p1), .second, .val (.int p2), .val (.int p3), .val (.ref ca), .val (.int l0), .val (.int (1 : Int32)), .val (.int l2), .val (.ref ea), .val (.int (1 : Int32)), .val (.ref fo), .val (.ref r), .val (.int l0), .val (.int (1 : Int32))] [(.int (0 : Int32)), (.ref r)])) _
  obtain ⟨cq102, kq102, q102a, q102b, q102c⟩ := isOf hZ e101 E_r
  obtain ⟨v102, _, ⟨T102, L102, k102, n102⟩, -, X102, ⟨Lc102, hQ102, l102, y102, z102⟩, st102⟩ := X101.virtualBack hx (y := (⟨"java/lang/String", "charAt", "(I)C"⟩ : MethodName)) (z := (⟨"java/lang/String", "charAt", "(I)C"⟩ : MethodName)) hown (mvT hZ (hw _ (List.mem_of_getElem? (i := 113) rfl))) (mvT hZ (hw _ (List.mem_of_getElem? (i := 114) rfl))) (notFace_of_selects (args := #[]) (mvT hZ (hw _ (List.mem_of_getElem? (i := 116) rfl)))) (mvT hZ (hw _ (List.mem_of_getElem? (i := 116) rfl))) (mvT hZ (hw _ (List.mem_of_getElem? (i := 115) rfl))) (by decide) (StrChars.Road.chN (W := 0) hZ (own_wChN hw) (kI := 4) (hw _ (List.mem_of_getElem? (i := 8) rfl)) E_r Fv_r Fc_r V_tt hcd100 hbd100 (O2.ext O1.2) P5 (O4.ext O1.2) rG3 (Nat.le_of_ble_eq_true rfl) (i := 0) (Nat.le_of_ble_eq_true rfl) (j := 0) rfl (by decide) (by decide)) q102a q102c (g := (mkF m 292 #[.val (.long p1), .second, .val (.int p2), .val (.int p3), .val (.ref ca), .val (.int l0), .val (.int (1 : Int32)), .val (.int l2), .val (.ref ea), .val (.int (1 : Int32)), .val (.ref fo), .val (.ref r), .val (.int l0), .val (.int (1 : Int32))] [(.int (0 : Int32)), (.ref r)])) rfl (by rw [hml]; rfl) (Steps.refl _) (argsL := [(.int (0 : Int32))]) (rest := []) (lenOf pd_12 rfl) rfl (by show 2 * 0 + _ ≤ _; exact Nat.le_of_eq rfl) (hb hby at_292) (fun _ _ => ⟨rfl, e101, (by decide : 7 + 0 ≤ _), (by decide : 29 + 0 ≤ _)⟩)
  dsimp only [Pt.U, Pt.locs, Pt.cells, Pt.slots] at X102 l102 y102 z102 st102 hQ102
  subst l102 y102 z102
  refine own_gos st102 ?_
  obtain ⟨rfl, rfl, e102⟩ := hQ102
  have Nq102 : Fr n0 ([] : List Loc) := Fr.nil n0
  have N102 := Fr.app N101 Nq102
  show own_Go p e below (T102.setTop (mkF m 295 #[.val (.long p1), .second, .val (.int p2), .val (.int p3), .val (.ref ca), .val (.int l0), .val (.int (1 : Int32)), .val (.int l2), .val (.ref ea), .val (.int (1 : Int32)), .val (.ref fo), .val (.ref r), .val (.int l0), .val (.int (1 : Int32))] [(.int d0)])) _
  refine own_go (fun _ k => XS.aload X102.here hx rfl (hb hby at_295) rfl rfl k) ?_
  show own_Go p e below (T102.setTop (mkF m 297 #[.val (.long p1), .second, .val (.int p2), .val (.int p3), .val (.ref ca), .val (.int l0), .val (.int (1 : Int32)), .val (.int l2), .val (.ref ea), .val (.int (1 : Int32)), .val (.ref fo), .val (.ref r), .val (.int l0), .val (.int (1 : Int32))] [(.ref ca), (.int d0)])) _
  refine own_go (fun _ k => XS.iload X102.here hx rfl (hb hby at_297) rfl k) ?_
  show own_Go p e below (T102.setTop (mkF m 299 #[.val (.long p1), .second, .val (.int p2), .val (.int p3), .val (.ref ca), .val (.int l0), .val (.int (1 : Int32)), .val (.int l2), .val (.ref ea), .val (.int (1 : Int32)), .val (.ref fo), .val (.ref r), .val (.int l0), .val (.int (1 : Int32))] [(.int l0), (.ref ca), (.int d0)])) _
  obtain ⟨c103, A103, q103, S103, M103, Hs103, Gs103⟩ := id V_ca
  have hi103 := inb_of (j := l0) S103 hb0
  refine own_go (fun _ k => X102.caload hx (j := l0) (v := (.int d0)) (by rw [e102]; exact A103.1) (State.isArrayOf_alike hZ.alike A103.2.1) A103.2.2 hi103 (Has.at Hs103 hi103 hd0) (g := (mkF m 299 #[.val (.long p1), .second, .val (.int p2), .val (.int p3), .val (.ref ca), .val (.int l0), .val (.int (1 : Int32)), .val (.int l2), .val (.ref ea), .val (.int (1 : Int32)), .val (.ref fo), .val (.ref r), .val (.int l0), .val (.int (1 : Int32))] [(.int l0), (.ref ca), (.int d0)])) rfl rfl (hb hby at_299) _ k) ?_
  show own_Go p e below (T102.setTop (mkF m 300 #[.val (.long p1), .second, .val (.int p2), .val (.int p3), .val (.ref ca), .val (.int l0), .val (.int (1 : Int32)), .val (.int l2), .val (.ref ea), .val (.int (1 : Int32)), .val (.ref fo), .val (.ref r), .val (.int l0), .val (.int (1 : Int32))] [(.int d0), (.int d0)])) _
  refine own_go (fun _ k => XS.icmpYes X102.here hx rfl (pc0 := 300) (pc' := 305) rfl (hb hby at_300) rfl (teq (rfl : d0 = d0)).1 (by decide) (by decide) k) ?_
  show own_Go p e below (T102.setTop (mkF m 305 #[.val (.long p1), .second, .val (.int p2), .val (.int p3), .val (.ref ca), .val (.int l0), .val (.int (1 : Int32)), .val (.int l2), .val (.ref ea), .val (.int (1 : Int32)), .val (.ref fo), .val (.ref r), .val (.int l0), .val (.int (1 : Int32))] [])) _
  refine own_go (fun _ k => XS.iload X102.here hx rfl (hb hby at_305) rfl k) ?_
  show own_Go p e below (T102.setTop (mkF m 307 #[.val (.long p1), .second, .val (.int p2), .val (.int p3), .val (.ref ca), .val (.int l0), .val (.int (1 : Int32)), .val (.int l2), .val (.ref ea), .val (.int (1 : Int32)), .val (.ref fo), .val (.ref r), .val (.int l0), .val (.int (1 : Int32))] [(.int (1 : Int32))])) _
  refine own_go (fun _ k => XS.iconst X102.here hx rfl (hb hby at_307) k) ?_
  show own_Go p e below (T102.setTop (mkF m 308 #[.val (.long p1), .second, .val (.int p2), .val (.int p3), .val (.ref ca), .val (.int l0), .val (.int (1 : Int32)), .val (.int l2), .val (.ref ea), .val (.int (1 : Int32)), .val (.ref fo), .val (.ref r), .val (.int l0), .val (.int (1 : Int32))] [(.int (2 : Int32)), (.int (1 : Int32))])) _
  refine own_go (fun _ k => XS.icmpYes X102.here hx rfl (pc0 := 308) (pc' := 327) rfl (hb hby at_308) rfl (tlt (by decide : (1 : Int32) < (2 : Int32))).1 (by decide) (by decide) k) ?_
  show own_Go p e below (T102.setTop (mkF m 327 #[.val (.long p1), .second, .val (.int p2), .val (.int p3), .val (.ref ca), .val (.int l0), .val (.int (1 : Int32)), .val (.int l2), .val (.ref ea), .val (.int (1 : Int32)), .val (.ref fo), .val (.ref r), .val (.int l0), .val (.int (1 : Int32))] [])) _
  refine own_go (fun _ k => XS.iconst X102.here hx rfl (hb hby at_327) k) ?_
  show own_Go p e below (T102.setTop (mkF m 328 #[.val (.long p1), .second, .val (.int p2), .val (.int p3), .val (.ref ca), .val (.int l0), .val (.int (1 : Int32)), .val (.int l2), .val (.ref ea), .val (.int (1 : Int32)), .val (.ref fo), .val (.ref r), .val (.int l0), .val (.int (1 : Int32))] [(.int (1 : Int32))])) _
  refine own_go (fun _ k => XS.goto X102.here hx rfl (pc0 := 328) (pc' := 332) rfl (hb hby at_328) (by decide) (by decide) k) ?_
  show own_Go p e below (T102.setTop (mkF m 332 #[.val (.long p1), .second, .val (.int p2), .val (.int p3), .val (.ref ca), .val (.int l0), .val (.int (1 : Int32)), .val (.int l2), .val (.ref ea), .val (.int (1 : Int32)), .val (.ref fo), .val (.ref r), .val (.int l0), .val (.int (1 : Int32))] [(.int (1 : Int32))])) _
  refine own_fin (v := (some (.int (nar .boolean (1 : Int32))))) X102 (fun h => by rw [hrt] at h; cases h) hlk (fun fs hr => retN X102 hx (t := .boolean) hrt (by simp) (hb hby at_332) hr) (QQ := QQ0 n0) ?_ (by decide) (by decide)
  rw [e102]
  exact ⟨rfl, N102⟩

set_option maxRecDepth 65536 in
set_option maxHeartbeats 40000000 in
theorem tail_1_2 (l : Launch) (Z : State) (a0 : Array Value) (hw : ∀ d ∈ tables_1, d.before a0 Z = true) (p1 : Int64) (p2 : Int32) (p3 : Int32) (ca : Addr) (kc : ClassId) (ea : Addr) (fo : Addr) (l0 : Int32) (l2 : Int32) (G1 : Int32) (G3 : Value) (c0 : Int32) (c1 : Int32) (c2 : Int32) (c3 : Int32) (c4 : Int32) (c5 : Int32) (c6 : Int32) (r : Addr) (tt : Addr) (kt : ClassId) (d0 : Int32) (d1 : Int32) (h0 : Heap) (n0 : Nat) {p : Program} {e : Env} {s : State} {m : MethodId} {below : List Frame} {meth : Method} {c : Code} {T0 : State} {locs : List Loc} (X0 : Stand p l e room_1 s m #[(.long p1), (.int p2), (.int p3)] below meth c T0 locs 7 29) (hx : p.tables.exec = Jvm.exec) (hby : c.code = code) (hml : c.maxLocals = maxLocals) (hown : s.vm.findClass "com/example/sequela/sequela/FieldsGetPinLaw" = some m.cls) (hZ : Z.Warmed39 s.vm) (hrt : meth.sig.returnType = ret) (hlk : meth.locks = false) (h1 : Heap) (e0 : T0.heap = h1) (N0 : Fr n0 locs) (Z0 : n0 ≤ h1.size) (O1 : Old Z n0 h1) (V_ca : Arv Z h1 ca kc .char (7 : Int32) [(.int c0), (.int c1), (.int c2), (.int c3), (.int c4), (.int c5), (.int c6)] (.int (0 : Int32))) (E_r : Exa Z h1 r "java/lang/String") (Fv_r : Fld Z h1 r "java/lang/String" "value" "[B" (.ref tt)) (Fc_r : Fld Z h1 r "java/lang/String" "coder" "B" (.int (0 : Int32))) (V_tt : Arv Z h1 tt kt .byte (2 : Int32) ((([d0, d1] : List Int32).map (fun c => c.toInt8.toInt32)).map Value.int) (.int (0 : Int32))) (O2 : Sta Z Z.heap "java/lang/String" "COMPACT_STRINGS" "Z" (.int G1)) (P5 : ¬ (G1 = (0 : Int32))) (O4 : Sta Z Z.heap "jdk/internal/util/Preconditions" "SIOOBE_FORMATTER" "Ljava/util/function/BiFunction;" G3) (rG3 : G3.isRef = true) (hp_r : ∀ c ∈ ([d0, d1] : List Int32), ¬ c < 0 ∧ ¬ (255 : Int32) < c) (hb0 : ¬ l0 < 0 ∧ l0 < (7 : Int32)) (hd0 : ([(.int c0), (.int c1), (.int c2), (.int c3), (.int c4), (.int c5), (.int c6)] : List Value).getD (l0).toNatClampNeg (.int (0 : Int32)) = (.int d0)) (hb1 : ¬ (l0 + (1 : Int32)) < 0 ∧ (l0 + (1 : Int32)) < (7 : Int32)) (hd1 : ([(.int c0), (.int c1), (.int c2), (.int c3), (.int c4), (.int c5), (.int c6)] : List Value).getD ((l0 + (1 : Int32))).toNatClampNeg (.int (0 : Int32)) = (.int d1)) :
    own_Go p e below (T0.setTop (mkF m 202 #[.val (.long p1), .second, .val (.int p2), .val (.int p3), .val (.ref ca), .val (.int l0), .val (.int (2 : Int32)), .val (.int l2), .val (.ref ea), .val (.int (1 : Int32)), .val (.ref fo), .unset, .unset, .unset] [(.ref r)])) (fun o U' => ∃ v L, o = .returned v ∧ QQ0 n0 v U'.heap L ∧ FrameEnd s o U' L 24 128) := by
  show own_Go p e below (T0.setTop (mkF m 202 #[.val (.long p1), .second, .val (.int p2), .val (.int p3), .val (.ref ca), .val (.int l0), .val (.int (2 : Int32)), .val (.int l2), .val (.ref ea), .val (.int (1 : Int32)), .val (.ref fo), .unset, .unset, .unset] [(.ref r)])) _
  refine own_go (fun _ k => XS.astore X0.here hx rfl (hb hby at_202) rfl rfl (l' := #[.val (.long p1), .second, .val (.int p2), .val (.int p3), .val (.ref ca), .val (.int l0), .val (.int (2 : Int32)), .val (.int l2), .val (.ref ea), .val (.int (1 : Int32)), .val (.ref fo), .val (.ref r), .unset, .unset]) rfl k) ?_
  show own_Go p e below (T0.setTop (mkF m 204 #[.val (.long p1), .second, .val (.int p2), .val (.int p3), .val (.ref ca), .val (.int l0), .val (.int (2 : Int32)), .val (.int l2), .val (.ref ea), .val (.int (1 : Int32)), .val (.ref fo), .val (.ref r), .unset, .unset] [])) _
  refine own_go (fun _ k => XS.iload X0.here hx rfl (hb hby at_204) rfl k) ?_
  show own_Go p e below (T0.setTop (mkF m 206 #[.val (.long p1), .second, .val (.int p2), .val (.int p3), .val (.ref ca), .val (.int l0), .val (.int (2 : Int32)), .val (.int l2), .val (.ref ea), .val (.int (1 : Int32)), .val (.ref fo), .val (.ref r), .unset, .unset] [(.int (1 : Int32))])) _
  refine own_go (fun _ k => XS.ifYes X0.here hx rfl (pc0 := 206) (pc' := 213) rfl (hb hby at_206) rfl ((if0 _ _).trans (feq (by decide : ¬ ((1 : Int32) = (0 : Int32)))).2) (by decide) (by decide) k) ?_
  show own_Go p e below (T0.setTop (mkF m 213 #[.val (.long p1), .second, .val (.int p2), .val (.int p3), .val (.ref ca), .val (.int l0), .val (.int (2 : Int32)), .val (.int l2), .val (.ref ea), .val (.int (1 : Int32)), .val (.ref fo), .val (.ref r), .unset, .unset] [])) _
  refine own_go (fun _ k => XS.iload X0.here hx rfl (hb hby at_213) rfl k) ?_
  show own_Go p e below (T0.setTop (mkF m 215 #[.val (.long p1), .second, .val (.int p2), .val (.int p3), .val (.ref ca), .val (.int l0), .val (.int (2 : Int32)), .val (.int l2), .val (.ref ea), .val (.int (1 : Int32)), .val (.ref fo), .val (.ref r), .unset, .unset] [(.int (1 : Int32))])) _
  refine own_go (fun _ k => XS.iconst X0.here hx rfl (hb hby at_215) k) ?_
  show own_Go p e below (T0.setTop (mkF m 216 #[.val (.long p1), .second, .val (.int p2), .val (.int p3), .val (.ref ca), .val (.int l0), .val (.int (2 : Int32)), .val (.int l2), .val (.ref ea), .val (.int (1 : Int32)), .val (.ref fo), .val (.ref r), .unset, .unset] [(.int (1 : Int32)), (.int (1 : Int32))])) _
  refine own_go (fun _ k => XS.icmpNo X0.here hx rfl (hb hby at_216) rfl (teq (by decide : (1 : Int32) = (1 : Int32))).2 k) ?_
  show own_Go p e below (T0.setTop (mkF m 219 #[.val (.long p1), .second, .val (.int p2), .val (.int p3), .val (.ref ca), .val (.int l0), .val (.int (2 : Int32)), .val (.int l2), .val (.ref ea), .val (.int (1 : Int32)), .val (.ref fo), .val (.ref r), .unset, .unset] [])) _
  refine own_go (fun _ k => XS.iload X0.here hx rfl (hb hby at_219) rfl k) ?_
  show own_Go p e below (T0.setTop (mkF m 221 #[.val (.long p1), .second, .val (.int p2), .val (.int p3), .val (.ref ca), .val (.int l0), .val (.int (2 : Int32)), .val (.int l2), .val (.ref ea), .val (.int (1 : Int32)), .val (.ref fo), .val (.ref r), .unset, .unset] [(.int l0)])) _
  refine own_go (fun _ k => XS.goto X0.here hx rfl (pc0 := 221) (pc' := 229) rfl (hb hby at_221) (by decide) (by decide) k) ?_
  show own_Go p e below (T0.setTop (mkF m 229 #[.val (.long p1), .second, .val (.int p2), .val (.int p3), .val (.ref ca), .val (.int l0), .val (.int (2 : Int32)), .val (.int l2), .val (.ref ea), .val (.int (1 : Int32)), .val (.ref fo), .val (.ref r), .unset, .unset] [(.int l0)])) _
  refine own_go (fun _ k => XS.istore X0.here hx rfl (hb hby at_229) rfl (l' := #[.val (.long p1), .second, .val (.int p2), .val (.int p3), .val (.ref ca), .val (.int l0), .val (.int (2 : Int32)), .val (.int l2), .val (.ref ea), .val (.int (1 : Int32)), .val (.ref fo), .val (.ref r), .val (.int l0), .unset]) rfl k) ?_
  show own_Go p e below (T0.setTop (mkF m 231 #[.val (.long p1), .second, .val (.int p2), .val (.int p3), .val (.ref ca), .val (.int l0), .val (.int (2 : Int32)), .val (.int l2), .val (.ref ea), .val (.int (1 : Int32)), .val (.ref fo), .val (.ref r), .val (.int l0), .unset] [])) _
  refine own_go (fun _ k => XS.iload X0.here hx rfl (hb hby at_231) rfl k) ?_
  show own_Go p e below (T0.setTop (mkF m 233 #[.val (.long p1), .second, .val (.int p2), .val (.int p3), .val (.ref ca), .val (.int l0), .val (.int (2 : Int32)), .val (.int l2), .val (.ref ea), .val (.int (1 : Int32)), .val (.ref fo), .val (.ref r), .val (.int l0), .unset] [(.int (1 : Int32))])) _
  refine own_go (fun _ k => XS.ifYes X0.here hx rfl (pc0 := 233) (pc' := 241) rfl (hb hby at_233) rfl ((if0 _ _).trans (feq (by decide : ¬ ((1 : Int32) = (0 : Int32)))).2) (by decide) (by decide) k) ?_
  show own_Go p e below (T0.setTop (mkF m 241 #[.val (.long p1), .second, .val (.int p2), .val (.int p3), .val (.ref ca), .val (.int l0), .val (.int (2 : Int32)), .val (.int l2), .val (.ref ea), .val (.int (1 : Int32)), .val (.ref fo), .val (.ref r), .val (.int l0), .unset] [])) _
  refine own_go (fun _ k => XS.iload X0.here hx rfl (hb hby at_241) rfl k) ?_
  show own_Go p e below (T0.setTop (mkF m 243 #[.val (.long p1), .second, .val (.int p2), .val (.int p3), .val (.ref ca), .val (.int l0), .val (.int (2 : Int32)), .val (.int l2), .val (.ref ea), .val (.int (1 : Int32)), .val (.ref fo), .val (.ref r), .val (.int l0), .unset] [(.int (1 : Int32))])) _
  refine own_go (fun _ k => XS.iconst X0.here hx rfl (hb hby at_243) k) ?_
  show own_Go p e below (T0.setTop (mkF m 244 #[.val (.long p1), .second, .val (.int p2), .val (.int p3), .val (.ref ca), .val (.int l0), .val (.int (2 : Int32)), .val (.int l2), .val (.ref ea), .val (.int (1 : Int32)), .val (.ref fo), .val (.ref r), .val (.int l0), .unset] [(.int (1 : Int32)), (.int (1 : Int32))])) _
  refine own_go (fun _ k => XS.icmpNo X0.here hx rfl (hb hby at_244) rfl (teq (by decide : (1 : Int32) = (1 : Int32))).2 k) ?_
  show own_Go p e below (T0.setTop (mkF m 247 #[.val (.long p1), .second, .val (.int p2), .val (.int p3), .val (.ref ca), .val (.int l0), .val (.int (2 : Int32)), .val (.int l2), .val (.ref ea), .val (.int (1 : Int32)), .val (.ref fo), .val (.ref r), .val (.int l0), .unset] [])) _
  refine own_go (fun _ k => XS.iload X0.here hx rfl (hb hby at_247) rfl k) ?_
  show own_Go p e below (T0.setTop (mkF m 249 #[.val (.long p1), .second, .val (.int p2), .val (.int p3), .val (.ref ca), .val (.int l0), .val (.int (2 : Int32)), .val (.int l2), .val (.ref ea), .val (.int (1 : Int32)), .val (.ref fo), .val (.ref r), .val (.int l0), .unset] [(.int (2 : Int32))])) _
  refine own_go (fun _ k => XS.goto X0.here hx rfl (pc0 := 249) (pc' := 254) rfl (hb hby at_249) (by decide) (by decide) k) ?_
  show own_Go p e below (T0.setTop (mkF m 254 #[.val (.long p1), .second, .val (.int p2), .val (.int p3), .val (.ref ca), .val (.int l0), .val (.int (2 : Int32)), .val (.int l2), .val (.ref ea), .val (.int (1 : Int32)), .val (.ref fo), .val (.ref r), .val (.int l0), .unset] [(.int (2 : Int32))])) _
  refine own_go (fun _ k => XS.istore X0.here hx rfl (hb hby at_254) rfl (l' := #[.val (.long p1), .second, .val (.int p2), .val (.int p3), .val (.ref ca), .val (.int l0), .val (.int (2 : Int32)), .val (.int l2), .val (.ref ea), .val (.int (1 : Int32)), .val (.ref fo), .val (.ref r), .val (.int l0), .val (.int (2 : Int32))]) rfl k) ?_
  show own_Go p e below (T0.setTop (mkF m 256 #[.val (.long p1), .second, .val (.int p2), .val (.int p3), .val (.ref ca), .val (.int l0), .val (.int (2 : Int32)), .val (.int l2), .val (.ref ea), .val (.int (1 : Int32)), .val (.ref fo), .val (.ref r), .val (.int l0), .val (.int (2 : Int32))] [])) _
  refine own_go (fun _ k => XS.iload X0.here hx rfl (hb hby at_256) rfl k) ?_
  show own_Go p e below (T0.setTop (mkF m 258 #[.val (.long p1), .second, .val (.int p2), .val (.int p3), .val (.ref ca), .val (.int l0), .val (.int (2 : Int32)), .val (.int l2), .val (.ref ea), .val (.int (1 : Int32)), .val (.ref fo), .val (.ref r), .val (.int l0), .val (.int (2 : Int32))] [(.int (2 : Int32))])) _
  refine own_go (fun _ k => XS.ifYes X0.here hx rfl (pc0 := 258) (pc' := 272) rfl (hb hby at_258) rfl ((if0 _ _).trans (feq (by decide : ¬ ((2 : Int32) = (0 : Int32)))).2) (by decide) (by decide) k) ?_
  show own_Go p e below (T0.setTop (mkF m 272 #[.val (.long p1), .second, .val (.int p2), .val (.int p3), .val (.ref ca), .val (.int l0), .val (.int (2 : Int32)), .val (.int l2), .val (.ref ea), .val (.int (1 : Int32)), .val (.ref fo), .val (.ref r), .val (.int l0), .val (.int (2 : Int32))] [])) _
  refine own_go (fun _ k => XS.aload X0.here hx rfl (hb hby at_272) rfl rfl k) ?_
  show own_Go p e below (T0.setTop (mkF m 274 #[.val (.long p1), .second, .val (.int p2), .val (.int p3), .val (.ref ca), .val (.int l0), .val (.int (2 : Int32)), .val (.int l2), .val (.ref ea), .val (.int (1 : Int32)), .val (.ref fo), .val (.ref r), .val (.int l0), .val (.int (2 : Int32))] [(.ref r)])) _
  refine own_go (fun _ k => XS.ifnullNo X0.here hx rfl (hb hby at_274) rfl k) ?_
  show own_Go p e below (T0.setTop (mkF m 277 #[.val (.long p1), .second, .val (.int p2), .val (.int p3), .val (.ref ca), .val (.int l0), .val (.int (2 : Int32)), .val (.int l2), .val (.ref ea), .val (.int (1 : Int32)), .val (.ref fo), .val (.ref r), .val (.int l0), .val (.int (2 : Int32))] [])) _
  refine own_go (fun _ k => XS.aload X0.here hx rfl (hb hby at_277) rfl rfl k) ?_
  show own_Go p e below (T0.setTop (mkF m 279 #[.val (.long p1), .second, .val (.int p2), .val (.int p3), .val (.ref ca), .val (.int l0), .val (.int (2 : Int32)), .val (.int l2), .val (.ref ea), .val (.int (1 : Int32)), .val (.ref fo), .val (.ref r), .val (.int l0), .val (.int (2 : Int32))] [(.ref r)])) _
  have hcd104 : StrChars.Road.CodA ([d0, d1] : List Int32) 0 (2 : Int32) (((([d0, d1] : List Int32)).map (fun c => c.toInt8.toInt32)).map Value.int) := StrChars.Road.codOf (n := 2) rfl (fun x hx => (hp_r x hx).2)
  have hbd104 := own_up _ hp_r
  obtain ⟨cq105, kq105, q105a, q105b, q105c⟩ := isOf hZ e0 E_r
  obtain ⟨v105, _, ⟨T105, L105, k105, n105⟩, -, X105, ⟨Lc105, hQ105, l105, y105, z105⟩, st105⟩ := X0.virtualBack hx (y := (⟨"java/lang/String", "length", "()I"⟩ : MethodName)) (z := (⟨"java/lang/String", "length", "()I"⟩ : MethodName)) hown (mvT hZ (hw _ (List.mem_of_getElem? (i := 112) rfl))) (mvT hZ (hw _ (List.mem_of_getElem? (i := 64) rfl))) (notFace_of_selects (args := #[]) (mvT hZ (hw _ (List.mem_of_getElem? (i := 66) rfl)))) (mvT hZ (hw _ (List.mem_of_getElem? (i := 66) rfl))) (mvT hZ (hw _ (List.mem_of_getElem? (i := 65) rfl))) (by decide) (StrChars.Road.lenW (W := 0) hZ (own_wLen hw) (kI := 4) (hw _ (List.mem_of_getElem? (i := 8) rfl)) E_r Fv_r Fc_r V_tt hcd104 hbd104 (O2.ext O1.2) P5 (Nat.le_of_ble_eq_true rfl) (by decide) (by decide)) q105a q105c (g := (mkF m 279 #[.val (.long p1), .second, .val (.int p2), .val (.int p3), .val (.ref ca), .val (.int l0), .val (.int (2 : Int32)), .val (.int l2), .val (.ref ea), .val (.int (1 : Int32)), .val (.ref fo), .val (.ref r), .val (.int l0), .val (.int (2 : Int32))] [(.ref r)])) rfl (by rw [hml]; rfl) (Steps.refl _) (argsL := []) (rest := []) (lenOf pd_6 rfl) rfl (by show 2 * 0 + _ ≤ _; exact Nat.le_of_eq rfl) (hb hby at_279) (fun _ _ => ⟨rfl, e0, (by decide : 7 + 0 ≤ _), (by decide : 29 + 0 ≤ _)⟩)
  dsimp only [Pt.U, Pt.locs, Pt.cells, Pt.slots] at X105 l105 y105 z105 st105 hQ105
  subst l105 y105 z105
  refine own_gos st105 ?_
  obtain ⟨rfl, rfl, e105⟩ := hQ105
  have Nq105 : Fr n0 ([] : List Loc) := Fr.nil n0
  have N105 := Fr.app N0 Nq105
  show own_Go p e below (T105.setTop (mkF m 282 #[.val (.long p1), .second, .val (.int p2), .val (.int p3), .val (.ref ca), .val (.int l0), .val (.int (2 : Int32)), .val (.int l2), .val (.ref ea), .val (.int (1 : Int32)), .val (.ref fo), .val (.ref r), .val (.int l0), .val (.int (2 : Int32))] [(.int (2 : Int32))])) _
  refine own_go (fun _ k => XS.iload X105.here hx rfl (hb hby at_282) rfl k) ?_
  show own_Go p e below (T105.setTop (mkF m 284 #[.val (.long p1), .second, .val (.int p2), .val (.int p3), .val (.ref ca), .val (.int l0), .val (.int (2 : Int32)), .val (.int l2), .val (.ref ea), .val (.int (1 : Int32)), .val (.ref fo), .val (.ref r), .val (.int l0), .val (.int (2 : Int32))] [(.int (2 : Int32)), (.int (2 : Int32))])) _
  refine own_go (fun _ k => XS.icmpYes X105.here hx rfl (pc0 := 284) (pc' := 289) rfl (hb hby at_284) rfl (teq (by decide : (2 : Int32) = (2 : Int32))).1 (by decide) (by decide) k) ?_
  show own_Go p e below (T105.setTop (mkF m 289 #[.val (.long p1), .second, .val (.int p2), .val (.int p3), .val (.ref ca), .val (.int l0), .val (.int (2 : Int32)), .val (.int l2), .val (.ref ea), .val (.int (1 : Int32)), .val (.ref fo), .val (.ref r), .val (.int l0), .val (.int (2 : Int32))] [])) _
  refine own_go (fun _ k => XS.aload X105.here hx rfl (hb hby at_289) rfl rfl k) ?_
  show own_Go p e below (T105.setTop (mkF m 291 #[.val (.long p1), .second, .val (.int p2), .val (.int p3), .val (.ref ca), .val (.int l0), .val (.int (2 : Int32)), .val (.int l2), .val (.ref ea), .val (.int (1 : Int32)), .val (.ref fo), .val (.ref r), .val (.int l0), .val (.int (2 : Int32))] [(.ref r)])) _
  refine own_go (fun _ k => XS.iconst X105.here hx rfl (hb hby at_291) k) ?_
  show own_Go p e below (T105.setTop (mkF m 292 #[.val (.long p1), .second, .val (.int p2), .val (.int p3), .val (.ref ca), .val (.int l0), .val (.int (2 : Int32)), .val (.int l2), .val (.ref ea), .val (.int (1 : Int32)), .val (.ref fo), .val (.ref r), .val (.int l0), .val (.int (2 : Int32))] [(.int (0 : Int32)), (.ref r)])) _
  obtain ⟨cq106, kq106, q106a, q106b, q106c⟩ := isOf hZ e105 E_r
  obtain ⟨v106, _, ⟨T106, L106, k106, n106⟩, -, X106, ⟨Lc106, hQ106, l106, y106, z106⟩, st106⟩ := X105.virtualBack hx (y := (⟨"java/lang/String", "charAt", "(I)C"⟩ : MethodName)) (z := (⟨"java/lang/String", "charAt", "(I)C"⟩ : MethodName)) hown (mvT hZ (hw _ (List.mem_of_getElem? (i := 113) rfl))) (mvT hZ (hw _ (List.mem_of_getElem? (i := 114) rfl))) (notFace_of_selects (args := #[]) (mvT hZ (hw _ (List.mem_of_getElem? (i := 116) rfl)))) (mvT hZ (hw _ (List.mem_of_getElem? (i := 116) rfl))) (mvT hZ (hw _ (List.mem_of_getElem? (i := 115) rfl))) (by decide) (StrChars.Road.chN (W := 0) hZ (own_wChN hw) (kI := 4) (hw _ (List.mem_of_getElem? (i := 8) rfl)) E_r Fv_r Fc_r V_tt hcd104 hbd104 (O2.ext O1.2) P5 (O4.ext O1.2) rG3 (Nat.le_of_ble_eq_true rfl) (i := 0) (Nat.le_of_ble_eq_true rfl) (j := 0) rfl (by decide) (by decide)) q106a q106c (g := (mkF m 292 #[.val (.long p1), .second, .val (.int p2), .val (.int p3), .val (.ref ca), .val (.int l0), .val (.int (2 : Int32)), .val (.int l2), .val (.ref ea), .val (.int (1 : Int32)), .val (.ref fo), .val (.ref r), .val (.int l0), .val (.int (2 : Int32))] [(.int (0 : Int32)), (.ref r)])) rfl (by rw [hml]; rfl) (Steps.refl _) (argsL := [(.int (0 : Int32))]) (rest := []) (lenOf pd_12 rfl) rfl (by show 2 * 0 + _ ≤ _; exact Nat.le_of_eq rfl) (hb hby at_292) (fun _ _ => ⟨rfl, e105, (by decide : 7 + 0 ≤ _), (by decide : 29 + 0 ≤ _)⟩)
  dsimp only [Pt.U, Pt.locs, Pt.cells, Pt.slots] at X106 l106 y106 z106 st106 hQ106
  subst l106 y106 z106
  refine own_gos st106 ?_
  obtain ⟨rfl, rfl, e106⟩ := hQ106
  have Nq106 : Fr n0 ([] : List Loc) := Fr.nil n0
  have N106 := Fr.app N105 Nq106
  show own_Go p e below (T106.setTop (mkF m 295 #[.val (.long p1), .second, .val (.int p2), .val (.int p3), .val (.ref ca), .val (.int l0), .val (.int (2 : Int32)), .val (.int l2), .val (.ref ea), .val (.int (1 : Int32)), .val (.ref fo), .val (.ref r), .val (.int l0), .val (.int (2 : Int32))] [(.int d0)])) _
  refine own_go (fun _ k => XS.aload X106.here hx rfl (hb hby at_295) rfl rfl k) ?_
  show own_Go p e below (T106.setTop (mkF m 297 #[.val (.long p1), .second, .val (.int p2), .val (.int p3), .val (.ref ca), .val (.int l0), .val (.int (2 : Int32)), .val (.int l2), .val (.ref ea), .val (.int (1 : Int32)), .val (.ref fo), .val (.ref r), .val (.int l0), .val (.int (2 : Int32))] [(.ref ca), (.int d0)])) _
  refine own_go (fun _ k => XS.iload X106.here hx rfl (hb hby at_297) rfl k) ?_
  show own_Go p e below (T106.setTop (mkF m 299 #[.val (.long p1), .second, .val (.int p2), .val (.int p3), .val (.ref ca), .val (.int l0), .val (.int (2 : Int32)), .val (.int l2), .val (.ref ea), .val (.int (1 : Int32)), .val (.ref fo), .val (.ref r), .val (.int l0), .val (.int (2 : Int32))] [(.int l0), (.ref ca), (.int d0)])) _
  obtain ⟨c107, A107, q107, S107, M107, Hs107, Gs107⟩ := id V_ca
  have hi107 := inb_of (j := l0) S107 hb0
  refine own_go (fun _ k => X106.caload hx (j := l0) (v := (.int d0)) (by rw [e106]; exact A107.1) (State.isArrayOf_alike hZ.alike A107.2.1) A107.2.2 hi107 (Has.at Hs107 hi107 hd0) (g := (mkF m 299 #[.val (.long p1), .second, .val (.int p2), .val (.int p3), .val (.ref ca), .val (.int l0), .val (.int (2 : Int32)), .val (.int l2), .val (.ref ea), .val (.int (1 : Int32)), .val (.ref fo), .val (.ref r), .val (.int l0), .val (.int (2 : Int32))] [(.int l0), (.ref ca), (.int d0)])) rfl rfl (hb hby at_299) _ k) ?_
  show own_Go p e below (T106.setTop (mkF m 300 #[.val (.long p1), .second, .val (.int p2), .val (.int p3), .val (.ref ca), .val (.int l0), .val (.int (2 : Int32)), .val (.int l2), .val (.ref ea), .val (.int (1 : Int32)), .val (.ref fo), .val (.ref r), .val (.int l0), .val (.int (2 : Int32))] [(.int d0), (.int d0)])) _
  refine own_go (fun _ k => XS.icmpYes X106.here hx rfl (pc0 := 300) (pc' := 305) rfl (hb hby at_300) rfl (teq (rfl : d0 = d0)).1 (by decide) (by decide) k) ?_
  show own_Go p e below (T106.setTop (mkF m 305 #[.val (.long p1), .second, .val (.int p2), .val (.int p3), .val (.ref ca), .val (.int l0), .val (.int (2 : Int32)), .val (.int l2), .val (.ref ea), .val (.int (1 : Int32)), .val (.ref fo), .val (.ref r), .val (.int l0), .val (.int (2 : Int32))] [])) _
  refine own_go (fun _ k => XS.iload X106.here hx rfl (hb hby at_305) rfl k) ?_
  show own_Go p e below (T106.setTop (mkF m 307 #[.val (.long p1), .second, .val (.int p2), .val (.int p3), .val (.ref ca), .val (.int l0), .val (.int (2 : Int32)), .val (.int l2), .val (.ref ea), .val (.int (1 : Int32)), .val (.ref fo), .val (.ref r), .val (.int l0), .val (.int (2 : Int32))] [(.int (2 : Int32))])) _
  refine own_go (fun _ k => XS.iconst X106.here hx rfl (hb hby at_307) k) ?_
  show own_Go p e below (T106.setTop (mkF m 308 #[.val (.long p1), .second, .val (.int p2), .val (.int p3), .val (.ref ca), .val (.int l0), .val (.int (2 : Int32)), .val (.int l2), .val (.ref ea), .val (.int (1 : Int32)), .val (.ref fo), .val (.ref r), .val (.int l0), .val (.int (2 : Int32))] [(.int (2 : Int32)), (.int (2 : Int32))])) _
  refine own_go (fun _ k => XS.icmpNo X106.here hx rfl (hb hby at_308) rfl (flt (by decide : ¬ ((2 : Int32) < (2 : Int32)))).1 k) ?_
  show own_Go p e below (T106.setTop (mkF m 311 #[.val (.long p1), .second, .val (.int p2), .val (.int p3), .val (.ref ca), .val (.int l0), .val (.int (2 : Int32)), .val (.int l2), .val (.ref ea), .val (.int (1 : Int32)), .val (.ref fo), .val (.ref r), .val (.int l0), .val (.int (2 : Int32))] [])) _
  refine own_go (fun _ k => XS.aload X106.here hx rfl (hb hby at_311) rfl rfl k) ?_
  show own_Go p e below (T106.setTop (mkF m 313 #[.val (.long p1), .second, .val (.int p2), .val (.int p3), .val (.ref ca), .val (.int l0), .val (.int (2 : Int32)), .val (.int l2), .val (.ref ea), .val (.int (1 : Int32)), .val (.ref fo), .val (.ref r), .val (.int l0), .val (.int (2 : Int32))] [(.ref r)])) _
  refine own_go (fun _ k => XS.iconst X106.here hx rfl (hb hby at_313) k) ?_
  show own_Go p e below (T106.setTop (mkF m 314 #[.val (.long p1), .second, .val (.int p2), .val (.int p3), .val (.ref ca), .val (.int l0), .val (.int (2 : Int32)), .val (.int l2), .val (.ref ea), .val (.int (1 : Int32)), .val (.ref fo), .val (.ref r), .val (.int l0), .val (.int (2 : Int32))] [(.int (1 : Int32)), (.ref r)])) _
  obtain ⟨cq108, kq108, q108a, q108b, q108c⟩ := isOf hZ e106 E_r
  obtain ⟨v108, _, ⟨T108, L108, k108, n108⟩, -, X108, ⟨Lc108, hQ108, l108, y108, z108⟩, st108⟩ := X106.virtualBack hx (y := (⟨"java/lang/String", "charAt", "(I)C"⟩ : MethodName)) (z := (⟨"java/lang/String", "charAt", "(I)C"⟩ : MethodName)) hown (mvT hZ (hw _ (List.mem_of_getElem? (i := 113) rfl))) (mvT hZ (hw _ (List.mem_of_getElem? (i := 114) rfl))) (notFace_of_selects (args := #[]) (mvT hZ (hw _ (List.mem_of_getElem? (i := 116) rfl)))) (mvT hZ (hw _ (List.mem_of_getElem? (i := 116) rfl))) (mvT hZ (hw _ (List.mem_of_getElem? (i := 115) rfl))) (by decide) (StrChars.Road.chN (W := 0) hZ (own_wChN hw) (kI := 4) (hw _ (List.mem_of_getElem? (i := 8) rfl)) E_r Fv_r Fc_r V_tt hcd104 hbd104 (O2.ext O1.2) P5 (O4.ext O1.2) rG3 (Nat.le_of_ble_eq_true rfl) (i := 1) (Nat.le_of_ble_eq_true rfl) (j := 1) rfl (by decide) (by decide)) q108a q108c (g := (mkF m 314 #[.val (.long p1), .second, .val (.int p2), .val (.int p3), .val (.ref ca), .val (.int l0), .val (.int (2 : Int32)), .val (.int l2), .val (.ref ea), .val (.int (1 : Int32)), .val (.ref fo), .val (.ref r), .val (.int l0), .val (.int (2 : Int32))] [(.int (1 : Int32)), (.ref r)])) rfl (by rw [hml]; rfl) (Steps.refl _) (argsL := [(.int (1 : Int32))]) (rest := []) (lenOf pd_12 rfl) rfl (by show 2 * 0 + _ ≤ _; exact Nat.le_of_eq rfl) (hb hby at_314) (fun _ _ => ⟨rfl, e106, (by decide : 7 + 0 ≤ _), (by decide : 29 + 0 ≤ _)⟩)
  dsimp only [Pt.U, Pt.locs, Pt.cells, Pt.slots] at X108 l108 y108 z108 st108 hQ108
  subst l108 y108 z108
  refine own_gos st108 ?_
  obtain ⟨rfl, rfl, e108⟩ := hQ108
  have Nq108 : Fr n0 ([] : List Loc) := Fr.nil n0
  have N108 := Fr.app N106 Nq108
  show own_Go p e below (T108.setTop (mkF m 317 #[.val (.long p1), .second, .val (.int p2), .val (.int p3), .val (.ref ca), .val (.int l0), .val (.int (2 : Int32)), .val (.int l2), .val (.ref ea), .val (.int (1 : Int32)), .val (.ref fo), .val (.ref r), .val (.int l0), .val (.int (2 : Int32))] [(.int d1)])) _
  refine own_go (fun _ k => XS.aload X108.here hx rfl (hb hby at_317) rfl rfl k) ?_
  show own_Go p e below (T108.setTop (mkF m 319 #[.val (.long p1), .second, .val (.int p2), .val (.int p3), .val (.ref ca), .val (.int l0), .val (.int (2 : Int32)), .val (.int l2), .val (.ref ea), .val (.int (1 : Int32)), .val (.ref fo), .val (.ref r), .val (.int l0), .val (.int (2 : Int32))] [(.ref ca), (.int d1)])) _
  refine own_go (fun _ k => XS.iload X108.here hx rfl (hb hby at_319) rfl k) ?_
  show own_Go p e below (T108.setTop (mkF m 321 #[.val (.long p1), .second, .val (.int p2), .val (.int p3), .val (.ref ca), .val (.int l0), .val (.int (2 : Int32)), .val (.int l2), .val (.ref ea), .val (.int (1 : Int32)), .val (.ref fo), .val (.ref r), .val (.int l0), .val (.int (2 : Int32))] [(.int l0), (.ref ca), (.int d1)])) _
  refine own_go (fun _ k => XS.iconst X108.here hx rfl (hb hby at_321) k) ?_
  show own_Go p e below (T108.setTop (mkF m 322 #[.val (.long p1), .second, .val (.int p2), .val (.int p3), .val (.ref ca), .val (.int l0), .val (.int (2 : Int32)), .val (.int l2), .val (.ref ea), .val (.int (1 : Int32)), .val (.ref fo), .val (.ref r), .val (.int l0), .val (.int (2 : Int32))] [(.int (1 : Int32)), (.int l0), (.ref ca), (.int d1)])) _
  refine own_go (fun _ k => XS.iadd X108.here hx rfl (hb hby at_322) rfl k) ?_
  show own_Go p e below (T108.setTop (mkF m 323 #[.val (.long p1), .second, .val (.int p2), .val (.int p3), .val (.ref ca), .val (.int l0), .val (.int (2 : Int32)), .val (.int l2), .val (.ref ea), .val (.int (1 : Int32)), .val (.ref fo), .val (.ref r), .val (.int l0), .val (.int (2 : Int32))] [(.int (l0 + (1 : Int32))), (.ref ca), (.int d1)])) _
  obtain ⟨c109, A109, q109, S109, M109, Hs109, Gs109⟩ := id V_ca
  have hi109 := inb_of (j := (l0 + (1 : Int32))) S109 hb1
  refine own_go (fun _ k => X108.caload hx (j := (l0 + (1 : Int32))) (v := (.int d1)) (by rw [e108]; exact A109.1) (State.isArrayOf_alike hZ.alike A109.2.1) A109.2.2 hi109 (Has.at Hs109 hi109 hd1) (g := (mkF m 323 #[.val (.long p1), .second, .val (.int p2), .val (.int p3), .val (.ref ca), .val (.int l0), .val (.int (2 : Int32)), .val (.int l2), .val (.ref ea), .val (.int (1 : Int32)), .val (.ref fo), .val (.ref r), .val (.int l0), .val (.int (2 : Int32))] [(.int (l0 + (1 : Int32))), (.ref ca), (.int d1)])) rfl rfl (hb hby at_323) _ k) ?_
  show own_Go p e below (T108.setTop (mkF m 324 #[.val (.long p1), .second, .val (.int p2), .val (.int p3), .val (.ref ca), .val (.int l0), .val (.int (2 : Int32)), .val (.int l2), .val (.ref ea), .val (.int (1 : Int32)), .val (.ref fo), .val (.ref r), .val (.int l0), .val (.int (2 : Int32))] [(.int d1), (.int d1)])) _
  refine own_go (fun _ k => XS.icmpNo X108.here hx rfl (hb hby at_324) rfl (teq (rfl : d1 = d1)).2 k) ?_
  show own_Go p e below (T108.setTop (mkF m 327 #[.val (.long p1), .second, .val (.int p2), .val (.int p3), .val (.ref ca), .val (.int l0), .val (.int (2 : Int32)), .val (.int l2), .val (.ref ea), .val (.int (1 : Int32)), .val (.ref fo), .val (.ref r), .val (.int l0), .val (.int (2 : Int32))] [])) _
  refine own_go (fun _ k => XS.iconst X108.here hx rfl (hb hby at_327) k) ?_
  show own_Go p e below (T108.setTop (mkF m 328 #[.val (.long p1), .second, .val (.int p2), .val (.int p3), .val (.ref ca), .val (.int l0), .val (.int (2 : Int32)), .val (.int l2), .val (.ref ea), .val (.int (1 : Int32)), .val (.ref fo), .val (.ref r), .val (.int l0), .val (.int (2 : Int32))] [(.int (1 : Int32))])) _
  refine own_go (fun _ k => XS.goto X108.here hx rfl (pc0 := 328) (pc' := 332) rfl (hb hby at_328) (by decide) (by decide) k) ?_
  show own_Go p e below (T108.setTop (mkF m 332 #[.val (.long p1), .second, .val (.int p2), .val (.int p3), .val (.ref ca), .val (.int l0), .val (.int (2 : Int32)), .val (.int l2), .val (.ref ea), .val (.int (1 : Int32)), .val (.ref fo), .val (.ref r), .val (.int l0), .val (.int (2 : Int32))] [(.int (1 : Int32))])) _
  refine own_fin (v := (some (.int (nar .boolean (1 : Int32))))) X108 (fun h => by rw [hrt] at h; cases h) hlk (fun fs hr => retN X108 hx (t := .boolean) hrt (by simp) (hb hby at_332) hr) (QQ := QQ0 n0) ?_ (by decide) (by decide)
  rw [e108]
  exact ⟨rfl, N108⟩

set_option maxRecDepth 65536 in
set_option maxHeartbeats 40000000 in
theorem tail_2_0 (l : Launch) (Z : State) (a0 : Array Value) (hw : ∀ d ∈ tables_1, d.before a0 Z = true) (p1 : Int64) (p2 : Int32) (p3 : Int32) (ca : Addr) (kc : ClassId) (ea : Addr) (fo : Addr) (l0 : Int32) (l1 : Int32) (G1 : Int32) (G3 : Value) (c0 : Int32) (c1 : Int32) (c2 : Int32) (c3 : Int32) (c4 : Int32) (c5 : Int32) (c6 : Int32) (h0 : Heap) (n0 : Nat) {p : Program} {e : Env} {s : State} {m : MethodId} {below : List Frame} {meth : Method} {c : Code} {T0 : State} {locs : List Loc} (X0 : Stand p l e room_1 s m #[(.long p1), (.int p2), (.int p3)] below meth c T0 locs 5 23) (hx : p.tables.exec = Jvm.exec) (hby : c.code = code) (hml : c.maxLocals = maxLocals) (hown : s.vm.findClass "com/example/sequela/sequela/FieldsGetPinLaw" = some m.cls) (hZ : Z.Warmed39 s.vm) (hrt : meth.sig.returnType = ret) (hlk : meth.locks = false) (h1 : Heap) (e0 : T0.heap = h1) (N0 : Fr n0 locs) (Z0 : n0 ≤ h1.size) (O1 : Old Z n0 h1) (V_ca : Arv Z h1 ca kc .char (7 : Int32) [(.int c0), (.int c1), (.int c2), (.int c3), (.int c4), (.int c5), (.int c6)] (.int (0 : Int32))) (O2 : Sta Z Z.heap "java/lang/String" "COMPACT_STRINGS" "Z" (.int G1)) (P5 : ¬ (G1 = (0 : Int32))) (O4 : Sta Z Z.heap "jdk/internal/util/Preconditions" "SIOOBE_FORMATTER" "Ljava/util/function/BiFunction;" G3) (rG3 : G3.isRef = true) :
    own_Go p e below (T0.setTop (mkF m 202 #[.val (.long p1), .second, .val (.int p2), .val (.int p3), .val (.ref ca), .val (.int l0), .val (.int l1), .val (.int (0 : Int32)), .val (.ref ea), .val (.int (2 : Int32)), .val (.ref fo), .unset, .unset, .unset] [.null])) (fun o U' => ∃ v L, o = .returned v ∧ QQ0 n0 v U'.heap L ∧ FrameEnd s o U' L 24 128) := by
  show own_Go p e below (T0.setTop (mkF m 202 #[.val (.long p1), .second, .val (.int p2), .val (.int p3), .val (.ref ca), .val (.int l0), .val (.int l1), .val (.int (0 : Int32)), .val (.ref ea), .val (.int (2 : Int32)), .val (.ref fo), .unset, .unset, .unset] [.null])) _
  refine own_go (fun _ k => XS.astore X0.here hx rfl (hb hby at_202) rfl rfl (l' := #[.val (.long p1), .second, .val (.int p2), .val (.int p3), .val (.ref ca), .val (.int l0), .val (.int l1), .val (.int (0 : Int32)), .val (.ref ea), .val (.int (2 : Int32)), .val (.ref fo), .val .null, .unset, .unset]) rfl k) ?_
  show own_Go p e below (T0.setTop (mkF m 204 #[.val (.long p1), .second, .val (.int p2), .val (.int p3), .val (.ref ca), .val (.int l0), .val (.int l1), .val (.int (0 : Int32)), .val (.ref ea), .val (.int (2 : Int32)), .val (.ref fo), .val .null, .unset, .unset] [])) _
  refine own_go (fun _ k => XS.iload X0.here hx rfl (hb hby at_204) rfl k) ?_
  show own_Go p e below (T0.setTop (mkF m 206 #[.val (.long p1), .second, .val (.int p2), .val (.int p3), .val (.ref ca), .val (.int l0), .val (.int l1), .val (.int (0 : Int32)), .val (.ref ea), .val (.int (2 : Int32)), .val (.ref fo), .val .null, .unset, .unset] [(.int (2 : Int32))])) _
  refine own_go (fun _ k => XS.ifYes X0.here hx rfl (pc0 := 206) (pc' := 213) rfl (hb hby at_206) rfl ((if0 _ _).trans (feq (by decide : ¬ ((2 : Int32) = (0 : Int32)))).2) (by decide) (by decide) k) ?_
  show own_Go p e below (T0.setTop (mkF m 213 #[.val (.long p1), .second, .val (.int p2), .val (.int p3), .val (.ref ca), .val (.int l0), .val (.int l1), .val (.int (0 : Int32)), .val (.ref ea), .val (.int (2 : Int32)), .val (.ref fo), .val .null, .unset, .unset] [])) _
  refine own_go (fun _ k => XS.iload X0.here hx rfl (hb hby at_213) rfl k) ?_
  show own_Go p e below (T0.setTop (mkF m 215 #[.val (.long p1), .second, .val (.int p2), .val (.int p3), .val (.ref ca), .val (.int l0), .val (.int l1), .val (.int (0 : Int32)), .val (.ref ea), .val (.int (2 : Int32)), .val (.ref fo), .val .null, .unset, .unset] [(.int (2 : Int32))])) _
  refine own_go (fun _ k => XS.iconst X0.here hx rfl (hb hby at_215) k) ?_
  show own_Go p e below (T0.setTop (mkF m 216 #[.val (.long p1), .second, .val (.int p2), .val (.int p3), .val (.ref ca), .val (.int l0), .val (.int l1), .val (.int (0 : Int32)), .val (.ref ea), .val (.int (2 : Int32)), .val (.ref fo), .val .null, .unset, .unset] [(.int (1 : Int32)), (.int (2 : Int32))])) _
  refine own_go (fun _ k => XS.icmpYes X0.here hx rfl (pc0 := 216) (pc' := 224) rfl (hb hby at_216) rfl (feq (by decide : ¬ ((2 : Int32) = (1 : Int32)))).2 (by decide) (by decide) k) ?_
  show own_Go p e below (T0.setTop (mkF m 224 #[.val (.long p1), .second, .val (.int p2), .val (.int p3), .val (.ref ca), .val (.int l0), .val (.int l1), .val (.int (0 : Int32)), .val (.ref ea), .val (.int (2 : Int32)), .val (.ref fo), .val .null, .unset, .unset] [])) _
  refine own_go (fun _ k => XS.iload X0.here hx rfl (hb hby at_224) rfl k) ?_
  show own_Go p e below (T0.setTop (mkF m 226 #[.val (.long p1), .second, .val (.int p2), .val (.int p3), .val (.ref ca), .val (.int l0), .val (.int l1), .val (.int (0 : Int32)), .val (.ref ea), .val (.int (2 : Int32)), .val (.ref fo), .val .null, .unset, .unset] [(.int l0)])) _
  refine own_go (fun _ k => XS.iload X0.here hx rfl (hb hby at_226) rfl k) ?_
  show own_Go p e below (T0.setTop (mkF m 228 #[.val (.long p1), .second, .val (.int p2), .val (.int p3), .val (.ref ca), .val (.int l0), .val (.int l1), .val (.int (0 : Int32)), .val (.ref ea), .val (.int (2 : Int32)), .val (.ref fo), .val .null, .unset, .unset] [(.int l1), (.int l0)])) _
  refine own_go (fun _ k => XS.iadd X0.here hx rfl (hb hby at_228) rfl k) ?_
  show own_Go p e below (T0.setTop (mkF m 229 #[.val (.long p1), .second, .val (.int p2), .val (.int p3), .val (.ref ca), .val (.int l0), .val (.int l1), .val (.int (0 : Int32)), .val (.ref ea), .val (.int (2 : Int32)), .val (.ref fo), .val .null, .unset, .unset] [(.int (l0 + l1))])) _
  refine own_go (fun _ k => XS.istore X0.here hx rfl (hb hby at_229) rfl (l' := #[.val (.long p1), .second, .val (.int p2), .val (.int p3), .val (.ref ca), .val (.int l0), .val (.int l1), .val (.int (0 : Int32)), .val (.ref ea), .val (.int (2 : Int32)), .val (.ref fo), .val .null, .val (.int (l0 + l1)), .unset]) rfl k) ?_
  show own_Go p e below (T0.setTop (mkF m 231 #[.val (.long p1), .second, .val (.int p2), .val (.int p3), .val (.ref ca), .val (.int l0), .val (.int l1), .val (.int (0 : Int32)), .val (.ref ea), .val (.int (2 : Int32)), .val (.ref fo), .val .null, .val (.int (l0 + l1)), .unset] [])) _
  refine own_go (fun _ k => XS.iload X0.here hx rfl (hb hby at_231) rfl k) ?_
  show own_Go p e below (T0.setTop (mkF m 233 #[.val (.long p1), .second, .val (.int p2), .val (.int p3), .val (.ref ca), .val (.int l0), .val (.int l1), .val (.int (0 : Int32)), .val (.ref ea), .val (.int (2 : Int32)), .val (.ref fo), .val .null, .val (.int (l0 + l1)), .unset] [(.int (2 : Int32))])) _
  refine own_go (fun _ k => XS.ifYes X0.here hx rfl (pc0 := 233) (pc' := 241) rfl (hb hby at_233) rfl ((if0 _ _).trans (feq (by decide : ¬ ((2 : Int32) = (0 : Int32)))).2) (by decide) (by decide) k) ?_
  show own_Go p e below (T0.setTop (mkF m 241 #[.val (.long p1), .second, .val (.int p2), .val (.int p3), .val (.ref ca), .val (.int l0), .val (.int l1), .val (.int (0 : Int32)), .val (.ref ea), .val (.int (2 : Int32)), .val (.ref fo), .val .null, .val (.int (l0 + l1)), .unset] [])) _
  refine own_go (fun _ k => XS.iload X0.here hx rfl (hb hby at_241) rfl k) ?_
  show own_Go p e below (T0.setTop (mkF m 243 #[.val (.long p1), .second, .val (.int p2), .val (.int p3), .val (.ref ca), .val (.int l0), .val (.int l1), .val (.int (0 : Int32)), .val (.ref ea), .val (.int (2 : Int32)), .val (.ref fo), .val .null, .val (.int (l0 + l1)), .unset] [(.int (2 : Int32))])) _
  refine own_go (fun _ k => XS.iconst X0.here hx rfl (hb hby at_243) k) ?_
  show own_Go p e below (T0.setTop (mkF m 244 #[.val (.long p1), .second, .val (.int p2), .val (.int p3), .val (.ref ca), .val (.int l0), .val (.int l1), .val (.int (0 : Int32)), .val (.ref ea), .val (.int (2 : Int32)), .val (.ref fo), .val .null, .val (.int (l0 + l1)), .unset] [(.int (1 : Int32)), (.int (2 : Int32))])) _
  refine own_go (fun _ k => XS.icmpYes X0.here hx rfl (pc0 := 244) (pc' := 252) rfl (hb hby at_244) rfl (feq (by decide : ¬ ((2 : Int32) = (1 : Int32)))).2 (by decide) (by decide) k) ?_
  show own_Go p e below (T0.setTop (mkF m 252 #[.val (.long p1), .second, .val (.int p2), .val (.int p3), .val (.ref ca), .val (.int l0), .val (.int l1), .val (.int (0 : Int32)), .val (.ref ea), .val (.int (2 : Int32)), .val (.ref fo), .val .null, .val (.int (l0 + l1)), .unset] [])) _
  refine own_go (fun _ k => XS.iload X0.here hx rfl (hb hby at_252) rfl k) ?_
  show own_Go p e below (T0.setTop (mkF m 254 #[.val (.long p1), .second, .val (.int p2), .val (.int p3), .val (.ref ca), .val (.int l0), .val (.int l1), .val (.int (0 : Int32)), .val (.ref ea), .val (.int (2 : Int32)), .val (.ref fo), .val .null, .val (.int (l0 + l1)), .unset] [(.int (0 : Int32))])) _
  refine own_go (fun _ k => XS.istore X0.here hx rfl (hb hby at_254) rfl (l' := #[.val (.long p1), .second, .val (.int p2), .val (.int p3), .val (.ref ca), .val (.int l0), .val (.int l1), .val (.int (0 : Int32)), .val (.ref ea), .val (.int (2 : Int32)), .val (.ref fo), .val .null, .val (.int (l0 + l1)), .val (.int (0 : Int32))]) rfl k) ?_
  show own_Go p e below (T0.setTop (mkF m 256 #[.val (.long p1), .second, .val (.int p2), .val (.int p3), .val (.ref ca), .val (.int l0), .val (.int l1), .val (.int (0 : Int32)), .val (.ref ea), .val (.int (2 : Int32)), .val (.ref fo), .val .null, .val (.int (l0 + l1)), .val (.int (0 : Int32))] [])) _
  refine own_go (fun _ k => XS.iload X0.here hx rfl (hb hby at_256) rfl k) ?_
  show own_Go p e below (T0.setTop (mkF m 258 #[.val (.long p1), .second, .val (.int p2), .val (.int p3), .val (.ref ca), .val (.int l0), .val (.int l1), .val (.int (0 : Int32)), .val (.ref ea), .val (.int (2 : Int32)), .val (.ref fo), .val .null, .val (.int (l0 + l1)), .val (.int (0 : Int32))] [(.int (0 : Int32))])) _
  refine own_go (fun _ k => XS.ifNo X0.here hx rfl (hb hby at_258) rfl ((if0 _ _).trans (teq (by decide : (0 : Int32) = (0 : Int32))).2) k) ?_
  show own_Go p e below (T0.setTop (mkF m 261 #[.val (.long p1), .second, .val (.int p2), .val (.int p3), .val (.ref ca), .val (.int l0), .val (.int l1), .val (.int (0 : Int32)), .val (.ref ea), .val (.int (2 : Int32)), .val (.ref fo), .val .null, .val (.int (l0 + l1)), .val (.int (0 : Int32))] [])) _
  refine own_go (fun _ k => XS.aload X0.here hx rfl (hb hby at_261) rfl rfl k) ?_
  show own_Go p e below (T0.setTop (mkF m 263 #[.val (.long p1), .second, .val (.int p2), .val (.int p3), .val (.ref ca), .val (.int l0), .val (.int l1), .val (.int (0 : Int32)), .val (.ref ea), .val (.int (2 : Int32)), .val (.ref fo), .val .null, .val (.int (l0 + l1)), .val (.int (0 : Int32))] [.null])) _
  refine own_go (fun _ k => XS.ifnonnullNo X0.here hx rfl (hb hby at_263) rfl k) ?_
  show own_Go p e below (T0.setTop (mkF m 266 #[.val (.long p1), .second, .val (.int p2), .val (.int p3), .val (.ref ca), .val (.int l0), .val (.int l1), .val (.int (0 : Int32)), .val (.ref ea), .val (.int (2 : Int32)), .val (.ref fo), .val .null, .val (.int (l0 + l1)), .val (.int (0 : Int32))] [])) _
  refine own_go (fun _ k => XS.iconst X0.here hx rfl (hb hby at_266) k) ?_
  show own_Go p e below (T0.setTop (mkF m 267 #[.val (.long p1), .second, .val (.int p2), .val (.int p3), .val (.ref ca), .val (.int l0), .val (.int l1), .val (.int (0 : Int32)), .val (.ref ea), .val (.int (2 : Int32)), .val (.ref fo), .val .null, .val (.int (l0 + l1)), .val (.int (0 : Int32))] [(.int (1 : Int32))])) _
  refine own_go (fun _ k => XS.goto X0.here hx rfl (pc0 := 267) (pc' := 271) rfl (hb hby at_267) (by decide) (by decide) k) ?_
  show own_Go p e below (T0.setTop (mkF m 271 #[.val (.long p1), .second, .val (.int p2), .val (.int p3), .val (.ref ca), .val (.int l0), .val (.int l1), .val (.int (0 : Int32)), .val (.ref ea), .val (.int (2 : Int32)), .val (.ref fo), .val .null, .val (.int (l0 + l1)), .val (.int (0 : Int32))] [(.int (1 : Int32))])) _
  refine own_fin (v := (some (.int (nar .boolean (1 : Int32))))) X0 (fun h => by rw [hrt] at h; cases h) hlk (fun fs hr => retN X0 hx (t := .boolean) hrt (by simp) (hb hby at_271) hr) (QQ := QQ0 n0) ?_ (by decide) (by decide)
  rw [e0]
  exact ⟨rfl, N0⟩

set_option maxRecDepth 65536 in
set_option maxHeartbeats 40000000 in
theorem tail_2_1 (l : Launch) (Z : State) (a0 : Array Value) (hw : ∀ d ∈ tables_1, d.before a0 Z = true) (p1 : Int64) (p2 : Int32) (p3 : Int32) (ca : Addr) (kc : ClassId) (ea : Addr) (fo : Addr) (l0 : Int32) (l1 : Int32) (G1 : Int32) (G3 : Value) (c0 : Int32) (c1 : Int32) (c2 : Int32) (c3 : Int32) (c4 : Int32) (c5 : Int32) (c6 : Int32) (r : Addr) (tt : Addr) (kt : ClassId) (d0 : Int32) (h0 : Heap) (n0 : Nat) {p : Program} {e : Env} {s : State} {m : MethodId} {below : List Frame} {meth : Method} {c : Code} {T0 : State} {locs : List Loc} (X0 : Stand p l e room_1 s m #[(.long p1), (.int p2), (.int p3)] below meth c T0 locs 7 29) (hx : p.tables.exec = Jvm.exec) (hby : c.code = code) (hml : c.maxLocals = maxLocals) (hown : s.vm.findClass "com/example/sequela/sequela/FieldsGetPinLaw" = some m.cls) (hZ : Z.Warmed39 s.vm) (hrt : meth.sig.returnType = ret) (hlk : meth.locks = false) (h1 : Heap) (e0 : T0.heap = h1) (N0 : Fr n0 locs) (Z0 : n0 ≤ h1.size) (O1 : Old Z n0 h1) (V_ca : Arv Z h1 ca kc .char (7 : Int32) [(.int c0), (.int c1), (.int c2), (.int c3), (.int c4), (.int c5), (.int c6)] (.int (0 : Int32))) (E_r : Exa Z h1 r "java/lang/String") (Fv_r : Fld Z h1 r "java/lang/String" "value" "[B" (.ref tt)) (Fc_r : Fld Z h1 r "java/lang/String" "coder" "B" (.int (0 : Int32))) (V_tt : Arv Z h1 tt kt .byte (1 : Int32) ((([d0] : List Int32).map (fun c => c.toInt8.toInt32)).map Value.int) (.int (0 : Int32))) (O2 : Sta Z Z.heap "java/lang/String" "COMPACT_STRINGS" "Z" (.int G1)) (P5 : ¬ (G1 = (0 : Int32))) (O4 : Sta Z Z.heap "jdk/internal/util/Preconditions" "SIOOBE_FORMATTER" "Ljava/util/function/BiFunction;" G3) (rG3 : G3.isRef = true) (hp_r : ∀ c ∈ ([d0] : List Int32), ¬ c < 0 ∧ ¬ (255 : Int32) < c) (hb0 : ¬ (l0 + l1) < 0 ∧ (l0 + l1) < (7 : Int32)) (hd0 : ([(.int c0), (.int c1), (.int c2), (.int c3), (.int c4), (.int c5), (.int c6)] : List Value).getD ((l0 + l1)).toNatClampNeg (.int (0 : Int32)) = (.int d0)) :
    own_Go p e below (T0.setTop (mkF m 202 #[.val (.long p1), .second, .val (.int p2), .val (.int p3), .val (.ref ca), .val (.int l0), .val (.int l1), .val (.int (1 : Int32)), .val (.ref ea), .val (.int (2 : Int32)), .val (.ref fo), .unset, .unset, .unset] [(.ref r)])) (fun o U' => ∃ v L, o = .returned v ∧ QQ0 n0 v U'.heap L ∧ FrameEnd s o U' L 24 128) := by
  show own_Go p e below (T0.setTop (mkF m 202 #[.val (.long p1), .second, .val (.int p2), .val (.int p3), .val (.ref ca), .val (.int l0), .val (.int l1), .val (.int (1 : Int32)), .val (.ref ea), .val (.int (2 : Int32)), .val (.ref fo), .unset, .unset, .unset] [(.ref r)])) _
  refine own_go (fun _ k => XS.astore X0.here hx rfl (hb hby at_202) rfl rfl (l' := #[.val (.long p1), .second, .val (.int p2), .val (.int p3), .val (.ref ca), .val (.int l0), .val (.int l1), .val (.int (1 : Int32)), .val (.ref ea), .val (.int (2 : Int32)), .val (.ref fo), .val (.ref r), .unset, .unset]) rfl k) ?_
  show own_Go p e below (T0.setTop (mkF m 204 #[.val (.long p1), .second, .val (.int p2), .val (.int p3), .val (.ref ca), .val (.int l0), .val (.int l1), .val (.int (1 : Int32)), .val (.ref ea), .val (.int (2 : Int32)), .val (.ref fo), .val (.ref r), .unset, .unset] [])) _
  refine own_go (fun _ k => XS.iload X0.here hx rfl (hb hby at_204) rfl k) ?_
  show own_Go p e below (T0.setTop (mkF m 206 #[.val (.long p1), .second, .val (.int p2), .val (.int p3), .val (.ref ca), .val (.int l0), .val (.int l1), .val (.int (1 : Int32)), .val (.ref ea), .val (.int (2 : Int32)), .val (.ref fo), .val (.ref r), .unset, .unset] [(.int (2 : Int32))])) _
  refine own_go (fun _ k => XS.ifYes X0.here hx rfl (pc0 := 206) (pc' := 213) rfl (hb hby at_206) rfl ((if0 _ _).trans (feq (by decide : ¬ ((2 : Int32) = (0 : Int32)))).2) (by decide) (by decide) k) ?_
  show own_Go p e below (T0.setTop (mkF m 213 #[.val (.long p1), .second, .val (.int p2), .val (.int p3), .val (.ref ca), .val (.int l0), .val (.int l1), .val (.int (1 : Int32)), .val (.ref ea), .val (.int (2 : Int32)), .val (.ref fo), .val (.ref r), .unset, .unset] [])) _
  refine own_go (fun _ k => XS.iload X0.here hx rfl (hb hby at_213) rfl k) ?_
  show own_Go p e below (T0.setTop (mkF m 215 #[.val (.long p1), .second, .val (.int p2), .val (.int p3), .val (.ref ca), .val (.int l0), .val (.int l1), .val (.int (1 : Int32)), .val (.ref ea), .val (.int (2 : Int32)), .val (.ref fo), .val (.ref r), .unset, .unset] [(.int (2 : Int32))])) _
  refine own_go (fun _ k => XS.iconst X0.here hx rfl (hb hby at_215) k) ?_
  show own_Go p e below (T0.setTop (mkF m 216 #[.val (.long p1), .second, .val (.int p2), .val (.int p3), .val (.ref ca), .val (.int l0), .val (.int l1), .val (.int (1 : Int32)), .val (.ref ea), .val (.int (2 : Int32)), .val (.ref fo), .val (.ref r), .unset, .unset] [(.int (1 : Int32)), (.int (2 : Int32))])) _
  refine own_go (fun _ k => XS.icmpYes X0.here hx rfl (pc0 := 216) (pc' := 224) rfl (hb hby at_216) rfl (feq (by decide : ¬ ((2 : Int32) = (1 : Int32)))).2 (by decide) (by decide) k) ?_
  show own_Go p e below (T0.setTop (mkF m 224 #[.val (.long p1), .second, .val (.int p2), .val (.int p3), .val (.ref ca), .val (.int l0), .val (.int l1), .val (.int (1 : Int32)), .val (.ref ea), .val (.int (2 : Int32)), .val (.ref fo), .val (.ref r), .unset, .unset] [])) _
  refine own_go (fun _ k => XS.iload X0.here hx rfl (hb hby at_224) rfl k) ?_
  show own_Go p e below (T0.setTop (mkF m 226 #[.val (.long p1), .second, .val (.int p2), .val (.int p3), .val (.ref ca), .val (.int l0), .val (.int l1), .val (.int (1 : Int32)), .val (.ref ea), .val (.int (2 : Int32)), .val (.ref fo), .val (.ref r), .unset, .unset] [(.int l0)])) _
  refine own_go (fun _ k => XS.iload X0.here hx rfl (hb hby at_226) rfl k) ?_
  show own_Go p e below (T0.setTop (mkF m 228 #[.val (.long p1), .second, .val (.int p2), .val (.int p3), .val (.ref ca), .val (.int l0), .val (.int l1), .val (.int (1 : Int32)), .val (.ref ea), .val (.int (2 : Int32)), .val (.ref fo), .val (.ref r), .unset, .unset] [(.int l1), (.int l0)])) _
  refine own_go (fun _ k => XS.iadd X0.here hx rfl (hb hby at_228) rfl k) ?_
  show own_Go p e below (T0.setTop (mkF m 229 #[.val (.long p1), .second, .val (.int p2), .val (.int p3), .val (.ref ca), .val (.int l0), .val (.int l1), .val (.int (1 : Int32)), .val (.ref ea), .val (.int (2 : Int32)), .val (.ref fo), .val (.ref r), .unset, .unset] [(.int (l0 + l1))])) _
  refine own_go (fun _ k => XS.istore X0.here hx rfl (hb hby at_229) rfl (l' := #[.val (.long p1), .second, .val (.int p2), .val (.int p3), .val (.ref ca), .val (.int l0), .val (.int l1), .val (.int (1 : Int32)), .val (.ref ea), .val (.int (2 : Int32)), .val (.ref fo), .val (.ref r), .val (.int (l0 + l1)), .unset]) rfl k) ?_
  show own_Go p e below (T0.setTop (mkF m 231 #[.val (.long p1), .second, .val (.int p2), .val (.int p3), .val (.ref ca), .val (.int l0), .val (.int l1), .val (.int (1 : Int32)), .val (.ref ea), .val (.int (2 : Int32)), .val (.ref fo), .val (.ref r), .val (.int (l0 + l1)), .unset] [])) _
  refine own_go (fun _ k => XS.iload X0.here hx rfl (hb hby at_231) rfl k) ?_
  show own_Go p e below (T0.setTop (mkF m 233 #[.val (.long p1), .second, .val (.int p2), .val (.int p3), .val (.ref ca), .val (.int l0), .val (.int l1), .val (.int (1 : Int32)), .val (.ref ea), .val (.int (2 : Int32)), .val (.ref fo), .val (.ref r), .val (.int (l0 + l1)), .unset] [(.int (2 : Int32))])) _
  refine own_go (fun _ k => XS.ifYes X0.here hx rfl (pc0 := 233) (pc' := 241) rfl (hb hby at_233) rfl ((if0 _ _).trans (feq (by decide : ¬ ((2 : Int32) = (0 : Int32)))).2) (by decide) (by decide) k) ?_
  show own_Go p e below (T0.setTop (mkF m 241 #[.val (.long p1), .second, .val (.int p2), .val (.int p3), .val (.ref ca), .val (.int l0), .val (.int l1), .val (.int (1 : Int32)), .val (.ref ea), .val (.int (2 : Int32)), .val (.ref fo), .val (.ref r), .val (.int (l0 + l1)), .unset] [])) _
  refine own_go (fun _ k => XS.iload X0.here hx rfl (hb hby at_241) rfl k) ?_
  show own_Go p e below (T0.setTop (mkF m 243 #[.val (.long p1), .second, .val (.int p2), .val (.int p3), .val (.ref ca), .val (.int l0), .val (.int l1), .val (.int (1 : Int32)), .val (.ref ea), .val (.int (2 : Int32)), .val (.ref fo), .val (.ref r), .val (.int (l0 + l1)), .unset] [(.int (2 : Int32))])) _
  refine own_go (fun _ k => XS.iconst X0.here hx rfl (hb hby at_243) k) ?_
  show own_Go p e below (T0.setTop (mkF m 244 #[.val (.long p1), .second, .val (.int p2), .val (.int p3), .val (.ref ca), .val (.int l0), .val (.int l1), .val (.int (1 : Int32)), .val (.ref ea), .val (.int (2 : Int32)), .val (.ref fo), .val (.ref r), .val (.int (l0 + l1)), .unset] [(.int (1 : Int32)), (.int (2 : Int32))])) _
  refine own_go (fun _ k => XS.icmpYes X0.here hx rfl (pc0 := 244) (pc' := 252) rfl (hb hby at_244) rfl (feq (by decide : ¬ ((2 : Int32) = (1 : Int32)))).2 (by decide) (by decide) k) ?_
  show own_Go p e below (T0.setTop (mkF m 252 #[.val (.long p1), .second, .val (.int p2), .val (.int p3), .val (.ref ca), .val (.int l0), .val (.int l1), .val (.int (1 : Int32)), .val (.ref ea), .val (.int (2 : Int32)), .val (.ref fo), .val (.ref r), .val (.int (l0 + l1)), .unset] [])) _
  refine own_go (fun _ k => XS.iload X0.here hx rfl (hb hby at_252) rfl k) ?_
  show own_Go p e below (T0.setTop (mkF m 254 #[.val (.long p1), .second, .val (.int p2), .val (.int p3), .val (.ref ca), .val (.int l0), .val (.int l1), .val (.int (1 : Int32)), .val (.ref ea), .val (.int (2 : Int32)), .val (.ref fo), .val (.ref r), .val (.int (l0 + l1)), .unset] [(.int (1 : Int32))])) _
  refine own_go (fun _ k => XS.istore X0.here hx rfl (hb hby at_254) rfl (l' := #[.val (.long p1), .second, .val (.int p2), .val (.int p3), .val (.ref ca), .val (.int l0), .val (.int l1), .val (.int (1 : Int32)), .val (.ref ea), .val (.int (2 : Int32)), .val (.ref fo), .val (.ref r), .val (.int (l0 + l1)), .val (.int (1 : Int32))]) rfl k) ?_
  show own_Go p e below (T0.setTop (mkF m 256 #[.val (.long p1), .second, .val (.int p2), .val (.int p3), .val (.ref ca), .val (.int l0), .val (.int l1), .val (.int (1 : Int32)), .val (.ref ea), .val (.int (2 : Int32)), .val (.ref fo), .val (.ref r), .val (.int (l0 + l1)), .val (.int (1 : Int32))] [])) _
  refine own_go (fun _ k => XS.iload X0.here hx rfl (hb hby at_256) rfl k) ?_
  show own_Go p e below (T0.setTop (mkF m 258 #[.val (.long p1), .second, .val (.int p2), .val (.int p3), .val (.ref ca), .val (.int l0), .val (.int l1), .val (.int (1 : Int32)), .val (.ref ea), .val (.int (2 : Int32)), .val (.ref fo), .val (.ref r), .val (.int (l0 + l1)), .val (.int (1 : Int32))] [(.int (1 : Int32))])) _
  refine own_go (fun _ k => XS.ifYes X0.here hx rfl (pc0 := 258) (pc' := 272) rfl (hb hby at_258) rfl ((if0 _ _).trans (feq (by decide : ¬ ((1 : Int32) = (0 : Int32)))).2) (by decide) (by decide) k) ?_
  show own_Go p e below (T0.setTop (mkF m 272 #[.val (.long p1), .second, .val (.int p2), .val (.int p3), .val (.ref ca), .val (.int l0), .val (.int l1), .val (.int (1 : Int32)), .val (.ref ea), .val (.int (2 : Int32)), .val (.ref fo), .val (.ref r), .val (.int (l0 + l1)), .val (.int (1 : Int32))] [])) _
  refine own_go (fun _ k => XS.aload X0.here hx rfl (hb hby at_272) rfl rfl k) ?_
  show own_Go p e below (T0.setTop (mkF m 274 #[.val (.long p1), .second, .val (.int p2), .val (.int p3), .val (.ref ca), .val (.int l0), .val (.int l1), .val (.int (1 : Int32)), .val (.ref ea), .val (.int (2 : Int32)), .val (.ref fo), .val (.ref r), .val (.int (l0 + l1)), .val (.int (1 : Int32))] [(.ref r)])) _
  refine own_go (fun _ k => XS.ifnullNo X0.here hx rfl (hb hby at_274) rfl k) ?_
  show own_Go p e below (T0.setTop (mkF m 277 #[.val (.long p1), .second, .val (.int p2), .val (.int p3), .val (.ref ca), .val (.int l0), .val (.int l1), .val (.int (1 : Int32)), .val (.ref ea), .val (.int (2 : Int32)), .val (.ref fo), .val (.ref r), .val (.int (l0 + l1)), .val (.int (1 : Int32))] [])) _
  refine own_go (fun _ k => XS.aload X0.here hx rfl (hb hby at_277) rfl rfl k) ?_
  show own_Go p e below (T0.setTop (mkF m 279 #[.val (.long p1), .second, .val (.int p2), .val (.int p3), .val (.ref ca), .val (.int l0), .val (.int l1), .val (.int (1 : Int32)), .val (.ref ea), .val (.int (2 : Int32)), .val (.ref fo), .val (.ref r), .val (.int (l0 + l1)), .val (.int (1 : Int32))] [(.ref r)])) _
  have hcd110 : StrChars.Road.CodA ([d0] : List Int32) 0 (1 : Int32) (((([d0] : List Int32)).map (fun c => c.toInt8.toInt32)).map Value.int) := StrChars.Road.codOf (n := 1) rfl (fun x hx => (hp_r x hx).2)
  have hbd110 := own_up _ hp_r
  obtain ⟨cq111, kq111, q111a, q111b, q111c⟩ := isOf hZ e0 E_r
  obtain ⟨v111, _, ⟨T111, L111, k111, n111⟩, -, X111, ⟨Lc111, hQ111, l111, y111, z111⟩, st111⟩ := X0.virtualBack hx (y := (⟨"java/lang/String", "length", "()I"⟩ : MethodName)) (z := (⟨"java/lang/String", "length", "()I"⟩ : MethodName)) hown (mvT hZ (hw _ (List.mem_of_getElem? (i := 112) rfl))) (mvT hZ (hw _ (List.mem_of_getElem? (i := 64) rfl))) (notFace_of_selects (args := #[]) (mvT hZ (hw _ (List.mem_of_getElem? (i := 66) rfl)))) (mvT hZ (hw _ (List.mem_of_getElem? (i := 66) rfl))) (mvT hZ (hw _ (List.mem_of_getElem? (i := 65) rfl))) (by decide) (StrChars.Road.lenW (W := 0) hZ (own_wLen hw) (kI := 4) (hw _ (List.mem_of_getElem? (i := 8) rfl)) E_r Fv_r Fc_r V_tt hcd110 hbd110 (O2.ext O1.2) P5 (Nat.le_of_ble_eq_true rfl) (by decide) (by decide)) q111a q111c (g := (mkF m 279 #[.val (.long p1), .second, .val (.int p2), .val (.int p3), .val (.ref ca), .val (.int l0), .val (.int l1), .val (.int (1 : Int32)), .val (.ref ea), .val (.int (2 : Int32)), .val (.ref fo), .val (.ref r), .val (.int (l0 + l1)), .val (.int (1 : Int32))] [(.ref r)])) rfl (by rw [hml]; rfl) (Steps.refl _) (argsL := []) (rest := []) (lenOf pd_6 rfl) rfl (by show 2 * 0 + _ ≤ _; exact Nat.le_of_eq rfl) (hb hby at_279) (fun _ _ => ⟨rfl, e0, (by decide : 7 + 0 ≤ _), (by decide : 29 + 0 ≤ _)⟩)
  dsimp only [Pt.U, Pt.locs, Pt.cells, Pt.slots] at X111 l111 y111 z111 st111 hQ111
  subst l111 y111 z111
  refine own_gos st111 ?_
  obtain ⟨rfl, rfl, e111⟩ := hQ111
  have Nq111 : Fr n0 ([] : List Loc) := Fr.nil n0
  have N111 := Fr.app N0 Nq111
  show own_Go p e below (T111.setTop (mkF m 282 #[.val (.long p1), .second, .val (.int p2), .val (.int p3), .val (.ref ca), .val (.int l0), .val (.int l1), .val (.int (1 : Int32)), .val (.ref ea), .val (.int (2 : Int32)), .val (.ref fo), .val (.ref r), .val (.int (l0 + l1)), .val (.int (1 : Int32))] [(.int (1 : Int32))])) _
  refine own_go (fun _ k => XS.iload X111.here hx rfl (hb hby at_282) rfl k) ?_
  show own_Go p e below (T111.setTop (mkF m 284 #[.val (.long p1), .second, .val (.int p2), .val (.int p3), .val (.ref ca), .val (.int l0), .val (.int l1), .val (.int (1 : Int32)), .val (.ref ea), .val (.int (2 : Int32)), .val (.ref fo), .val (.ref r), .val (.int (l0 + l1)), .val (.int (1 : Int32))] [(.int (1 : Int32)), (.int (1 : Int32))])) _
  refine own_go (fun _ k => XS.icmpYes X111.here hx rfl (pc0 := 284) (pc' := 289) rfl (hb hby at_284) rfl (teq (by decide : (1 : Int32) = (1 : Int32))).1 (by decide) (by decide) k) ?_
  show own_Go p e below (T111.setTop (mkF m 289 #[.val (.long p1), .second, .val (.int p2), .val (.int p3), .val (.ref ca), .val (.int l0), .val (.int l1), .val (.int (1 : Int32)), .val (.ref ea), .val (.int (2 : Int32)), .val (.ref fo), .val (.ref r), .val (.int (l0 + l1)), .val (.int (1 : Int32))] [])) _
  refine own_go (fun _ k => XS.aload X111.here hx rfl (hb hby at_289) rfl rfl k) ?_
  show own_Go p e below (T111.setTop (mkF m 291 #[.val (.long p1), .second, .val (.int p2), .val (.int p3), .val (.ref ca), .val (.int l0), .val (.int l1), .val (.int (1 : Int32)), .val (.ref ea), .val (.int (2 : Int32)), .val (.ref fo), .val (.ref r), .val (.int (l0 + l1)), .val (.int (1 : Int32))] [(.ref r)])) _
  refine own_go (fun _ k => XS.iconst X111.here hx rfl (hb hby at_291) k) ?_
  show own_Go p e below (T111.setTop (mkF m 292 #[.val (.long p1), .second, .val (.int p2), .val (.int p3), .val (.ref ca), .val (.int l0), .val (.int l1), .val (.int (1 : Int32)), .val (.ref ea), .val (.int (2 : Int32)), .val (.ref fo), .val (.ref r), .val (.int (l0 + l1)), .val (.int (1 : Int32))] [(.int (0 : Int32)), (.ref r)])) _
  obtain ⟨cq112, kq112, q112a, q112b, q112c⟩ := isOf hZ e111 E_r
  obtain ⟨v112, _, ⟨T112, L112, k112, n112⟩, -, X112, ⟨Lc112, hQ112, l112, y112, z112⟩, st112⟩ := X111.virtualBack hx (y := (⟨"java/lang/String", "charAt", "(I)C"⟩ : MethodName)) (z := (⟨"java/lang/String", "charAt", "(I)C"⟩ : MethodName)) hown (mvT hZ (hw _ (List.mem_of_getElem? (i := 113) rfl))) (mvT hZ (hw _ (List.mem_of_getElem? (i := 114) rfl))) (notFace_of_selects (args := #[]) (mvT hZ (hw _ (List.mem_of_getElem? (i := 116) rfl)))) (mvT hZ (hw _ (List.mem_of_getElem? (i := 116) rfl))) (mvT hZ (hw _ (List.mem_of_getElem? (i := 115) rfl))) (by decide) (StrChars.Road.chN (W := 0) hZ (own_wChN hw) (kI := 4) (hw _ (List.mem_of_getElem? (i := 8) rfl)) E_r Fv_r Fc_r V_tt hcd110 hbd110 (O2.ext O1.2) P5 (O4.ext O1.2) rG3 (Nat.le_of_ble_eq_true rfl) (i := 0) (Nat.le_of_ble_eq_true rfl) (j := 0) rfl (by decide) (by decide)) q112a q112c (g := (mkF m 292 #[.val (.long p1), .second, .val (.int p2), .val (.int p3), .val (.ref ca), .val (.int l0), .val (.int l1), .val (.int (1 : Int32)), .val (.ref ea), .val (.int (2 : Int32)), .val (.ref fo), .val (.ref r), .val (.int (l0 + l1)), .val (.int (1 : Int32))] [(.int (0 : Int32)), (.ref r)])) rfl (by rw [hml]; rfl) (Steps.refl _) (argsL := [(.int (0 : Int32))]) (rest := []) (lenOf pd_12 rfl) rfl (by show 2 * 0 + _ ≤ _; exact Nat.le_of_eq rfl) (hb hby at_292) (fun _ _ => ⟨rfl, e111, (by decide : 7 + 0 ≤ _), (by decide : 29 + 0 ≤ _)⟩)
  dsimp only [Pt.U, Pt.locs, Pt.cells, Pt.slots] at X112 l112 y112 z112 st112 hQ112
  subst l112 y112 z112
  refine own_gos st112 ?_
  obtain ⟨rfl, rfl, e112⟩ := hQ112
  have Nq112 : Fr n0 ([] : List Loc) := Fr.nil n0
  have N112 := Fr.app N111 Nq112
  show own_Go p e below (T112.setTop (mkF m 295 #[.val (.long p1), .second, .val (.int p2), .val (.int p3), .val (.ref ca), .val (.int l0), .val (.int l1), .val (.int (1 : Int32)), .val (.ref ea), .val (.int (2 : Int32)), .val (.ref fo), .val (.ref r), .val (.int (l0 + l1)), .val (.int (1 : Int32))] [(.int d0)])) _
  refine own_go (fun _ k => XS.aload X112.here hx rfl (hb hby at_295) rfl rfl k) ?_
  show own_Go p e below (T112.setTop (mkF m 297 #[.val (.long p1), .second, .val (.int p2), .val (.int p3), .val (.ref ca), .val (.int l0), .val (.int l1), .val (.int (1 : Int32)), .val (.ref ea), .val (.int (2 : Int32)), .val (.ref fo), .val (.ref r), .val (.int (l0 + l1)), .val (.int (1 : Int32))] [(.ref ca), (.int d0)])) _
  refine own_go (fun _ k => XS.iload X112.here hx rfl (hb hby at_297) rfl k) ?_
  show own_Go p e below (T112.setTop (mkF m 299 #[.val (.long p1), .second, .val (.int p2), .val (.int p3), .val (.ref ca), .val (.int l0), .val (.int l1), .val (.int (1 : Int32)), .val (.ref ea), .val (.int (2 : Int32)), .val (.ref fo), .val (.ref r), .val (.int (l0 + l1)), .val (.int (1 : Int32))] [(.int (l0 + l1)), (.ref ca), (.int d0)])) _
  obtain ⟨c113, A113, q113, S113, M113, Hs113, Gs113⟩ := id V_ca
  have hi113 := inb_of (j := (l0 + l1)) S113 hb0
  refine own_go (fun _ k => X112.caload hx (j := (l0 + l1)) (v := (.int d0)) (by rw [e112]; exact A113.1) (State.isArrayOf_alike hZ.alike A113.2.1) A113.2.2 hi113 (Has.at Hs113 hi113 hd0) (g := (mkF m 299 #[.val (.long p1), .second, .val (.int p2), .val (.int p3), .val (.ref ca), .val (.int l0), .val (.int l1), .val (.int (1 : Int32)), .val (.ref ea), .val (.int (2 : Int32)), .val (.ref fo), .val (.ref r), .val (.int (l0 + l1)), .val (.int (1 : Int32))] [(.int (l0 + l1)), (.ref ca), (.int d0)])) rfl rfl (hb hby at_299) _ k) ?_
  show own_Go p e below (T112.setTop (mkF m 300 #[.val (.long p1), .second, .val (.int p2), .val (.int p3), .val (.ref ca), .val (.int l0), .val (.int l1), .val (.int (1 : Int32)), .val (.ref ea), .val (.int (2 : Int32)), .val (.ref fo), .val (.ref r), .val (.int (l0 + l1)), .val (.int (1 : Int32))] [(.int d0), (.int d0)])) _
  refine own_go (fun _ k => XS.icmpYes X112.here hx rfl (pc0 := 300) (pc' := 305) rfl (hb hby at_300) rfl (teq (rfl : d0 = d0)).1 (by decide) (by decide) k) ?_
  show own_Go p e below (T112.setTop (mkF m 305 #[.val (.long p1), .second, .val (.int p2), .val (.int p3), .val (.ref ca), .val (.int l0), .val (.int l1), .val (.int (1 : Int32)), .val (.ref ea), .val (.int (2 : Int32)), .val (.ref fo), .val (.ref r), .val (.int (l0 + l1)), .val (.int (1 : Int32))] [])) _
  refine own_go (fun _ k => XS.iload X112.here hx rfl (hb hby at_305) rfl k) ?_
  show own_Go p e below (T112.setTop (mkF m 307 #[.val (.long p1), .second, .val (.int p2), .val (.int p3), .val (.ref ca), .val (.int l0), .val (.int l1), .val (.int (1 : Int32)), .val (.ref ea), .val (.int (2 : Int32)), .val (.ref fo), .val (.ref r), .val (.int (l0 + l1)), .val (.int (1 : Int32))] [(.int (1 : Int32))])) _
  refine own_go (fun _ k => XS.iconst X112.here hx rfl (hb hby at_307) k) ?_
  show own_Go p e below (T112.setTop (mkF m 308 #[.val (.long p1), .second, .val (.int p2), .val (.int p3), .val (.ref ca), .val (.int l0), .val (.int l1), .val (.int (1 : Int32)), .val (.ref ea), .val (.int (2 : Int32)), .val (.ref fo), .val (.ref r), .val (.int (l0 + l1)), .val (.int (1 : Int32))] [(.int (2 : Int32)), (.int (1 : Int32))])) _
  refine own_go (fun _ k => XS.icmpYes X112.here hx rfl (pc0 := 308) (pc' := 327) rfl (hb hby at_308) rfl (tlt (by decide : (1 : Int32) < (2 : Int32))).1 (by decide) (by decide) k) ?_
  show own_Go p e below (T112.setTop (mkF m 327 #[.val (.long p1), .second, .val (.int p2), .val (.int p3), .val (.ref ca), .val (.int l0), .val (.int l1), .val (.int (1 : Int32)), .val (.ref ea), .val (.int (2 : Int32)), .val (.ref fo), .val (.ref r), .val (.int (l0 + l1)), .val (.int (1 : Int32))] [])) _
  refine own_go (fun _ k => XS.iconst X112.here hx rfl (hb hby at_327) k) ?_
  show own_Go p e below (T112.setTop (mkF m 328 #[.val (.long p1), .second, .val (.int p2), .val (.int p3), .val (.ref ca), .val (.int l0), .val (.int l1), .val (.int (1 : Int32)), .val (.ref ea), .val (.int (2 : Int32)), .val (.ref fo), .val (.ref r), .val (.int (l0 + l1)), .val (.int (1 : Int32))] [(.int (1 : Int32))])) _
  refine own_go (fun _ k => XS.goto X112.here hx rfl (pc0 := 328) (pc' := 332) rfl (hb hby at_328) (by decide) (by decide) k) ?_
  show own_Go p e below (T112.setTop (mkF m 332 #[.val (.long p1), .second, .val (.int p2), .val (.int p3), .val (.ref ca), .val (.int l0), .val (.int l1), .val (.int (1 : Int32)), .val (.ref ea), .val (.int (2 : Int32)), .val (.ref fo), .val (.ref r), .val (.int (l0 + l1)), .val (.int (1 : Int32))] [(.int (1 : Int32))])) _
  refine own_fin (v := (some (.int (nar .boolean (1 : Int32))))) X112 (fun h => by rw [hrt] at h; cases h) hlk (fun fs hr => retN X112 hx (t := .boolean) hrt (by simp) (hb hby at_332) hr) (QQ := QQ0 n0) ?_ (by decide) (by decide)
  rw [e112]
  exact ⟨rfl, N112⟩

set_option maxRecDepth 65536 in
set_option maxHeartbeats 40000000 in
theorem tail_2_2 (l : Launch) (Z : State) (a0 : Array Value) (hw : ∀ d ∈ tables_1, d.before a0 Z = true) (p1 : Int64) (p2 : Int32) (p3 : Int32) (ca : Addr) (kc : ClassId) (ea : Addr) (fo : Addr) (l0 : Int32) (l1 : Int32) (G1 : Int32) (G3 : Value) (c0 : Int32) (c1 : Int32) (c2 : Int32) (c3 : Int32) (c4 : Int32) (c5 : Int32) (c6 : Int32) (r : Addr) (tt : Addr) (kt : ClassId) (d0 : Int32) (d1 : Int32) (h0 : Heap) (n0 : Nat) {p : Program} {e : Env} {s : State} {m : MethodId} {below : List Frame} {meth : Method} {c : Code} {T0 : State} {locs : List Loc} (X0 : Stand p l e room_1 s m #[(.long p1), (.int p2), (.int p3)] below meth c T0 locs 7 29) (hx : p.tables.exec = Jvm.exec) (hby : c.code = code) (hml : c.maxLocals = maxLocals) (hown : s.vm.findClass "com/example/sequela/sequela/FieldsGetPinLaw" = some m.cls) (hZ : Z.Warmed39 s.vm) (hrt : meth.sig.returnType = ret) (hlk : meth.locks = false) (h1 : Heap) (e0 : T0.heap = h1) (N0 : Fr n0 locs) (Z0 : n0 ≤ h1.size) (O1 : Old Z n0 h1) (V_ca : Arv Z h1 ca kc .char (7 : Int32) [(.int c0), (.int c1), (.int c2), (.int c3), (.int c4), (.int c5), (.int c6)] (.int (0 : Int32))) (E_r : Exa Z h1 r "java/lang/String") (Fv_r : Fld Z h1 r "java/lang/String" "value" "[B" (.ref tt)) (Fc_r : Fld Z h1 r "java/lang/String" "coder" "B" (.int (0 : Int32))) (V_tt : Arv Z h1 tt kt .byte (2 : Int32) ((([d0, d1] : List Int32).map (fun c => c.toInt8.toInt32)).map Value.int) (.int (0 : Int32))) (O2 : Sta Z Z.heap "java/lang/String" "COMPACT_STRINGS" "Z" (.int G1)) (P5 : ¬ (G1 = (0 : Int32))) (O4 : Sta Z Z.heap "jdk/internal/util/Preconditions" "SIOOBE_FORMATTER" "Ljava/util/function/BiFunction;" G3) (rG3 : G3.isRef = true) (hp_r : ∀ c ∈ ([d0, d1] : List Int32), ¬ c < 0 ∧ ¬ (255 : Int32) < c) (hb0 : ¬ (l0 + l1) < 0 ∧ (l0 + l1) < (7 : Int32)) (hd0 : ([(.int c0), (.int c1), (.int c2), (.int c3), (.int c4), (.int c5), (.int c6)] : List Value).getD ((l0 + l1)).toNatClampNeg (.int (0 : Int32)) = (.int d0)) (hb1 : ¬ ((l0 + l1) + (1 : Int32)) < 0 ∧ ((l0 + l1) + (1 : Int32)) < (7 : Int32)) (hd1 : ([(.int c0), (.int c1), (.int c2), (.int c3), (.int c4), (.int c5), (.int c6)] : List Value).getD (((l0 + l1) + (1 : Int32))).toNatClampNeg (.int (0 : Int32)) = (.int d1)) :
    own_Go p e below (T0.setTop (mkF m 202 #[.val (.long p1), .second, .val (.int p2), .val (.int p3), .val (.ref ca), .val (.int l0), .val (.int l1), .val (.int (2 : Int32)), .val (.ref ea), .val (.int (2 : Int32)), .val (.ref fo), .unset, .unset, .unset] [(.ref r)])) (fun o U' => ∃ v L, o = .returned v ∧ QQ0 n0 v U'.heap L ∧ FrameEnd s o U' L 24 128) := by
  show own_Go p e below (T0.setTop (mkF m 202 #[.val (.long p1), .second, .val (.int p2), .val (.int p3), .val (.ref ca), .val (.int l0), .val (.int l1), .val (.int (2 : Int32)), .val (.ref ea), .val (.int (2 : Int32)), .val (.ref fo), .unset, .unset, .unset] [(.ref r)])) _
  refine own_go (fun _ k => XS.astore X0.here hx rfl (hb hby at_202) rfl rfl (l' := #[.val (.long p1), .second, .val (.int p2), .val (.int p3), .val (.ref ca), .val (.int l0), .val (.int l1), .val (.int (2 : Int32)), .val (.ref ea), .val (.int (2 : Int32)), .val (.ref fo), .val (.ref r), .unset, .unset]) rfl k) ?_
  show own_Go p e below (T0.setTop (mkF m 204 #[.val (.long p1), .second, .val (.int p2), .val (.int p3), .val (.ref ca), .val (.int l0), .val (.int l1), .val (.int (2 : Int32)), .val (.ref ea), .val (.int (2 : Int32)), .val (.ref fo), .val (.ref r), .unset, .unset] [])) _
  refine own_go (fun _ k => XS.iload X0.here hx rfl (hb hby at_204) rfl k) ?_
  show own_Go p e below (T0.setTop (mkF m 206 #[.val (.long p1), .second, .val (.int p2), .val (.int p3), .val (.ref ca), .val (.int l0), .val (.int l1), .val (.int (2 : Int32)), .val (.ref ea), .val (.int (2 : Int32)), .val (.ref fo), .val (.ref r), .unset, .unset] [(.int (2 : Int32))])) _
  refine own_go (fun _ k => XS.ifYes X0.here hx rfl (pc0 := 206) (pc' := 213) rfl (hb hby at_206) rfl ((if0 _ _).trans (feq (by decide : ¬ ((2 : Int32) = (0 : Int32)))).2) (by decide) (by decide) k) ?_
  show own_Go p e below (T0.setTop (mkF m 213 #[.val (.long p1), .second, .val (.int p2), .val (.int p3), .val (.ref ca), .val (.int l0), .val (.int l1), .val (.int (2 : Int32)), .val (.ref ea), .val (.int (2 : Int32)), .val (.ref fo), .val (.ref r), .unset, .unset] [])) _
  refine own_go (fun _ k => XS.iload X0.here hx rfl (hb hby at_213) rfl k) ?_
  show own_Go p e below (T0.setTop (mkF m 215 #[.val (.long p1), .second, .val (.int p2), .val (.int p3), .val (.ref ca), .val (.int l0), .val (.int l1), .val (.int (2 : Int32)), .val (.ref ea), .val (.int (2 : Int32)), .val (.ref fo), .val (.ref r), .unset, .unset] [(.int (2 : Int32))])) _
  refine own_go (fun _ k => XS.iconst X0.here hx rfl (hb hby at_215) k) ?_
  show own_Go p e below (T0.setTop (mkF m 216 #[.val (.long p1), .second, .val (.int p2), .val (.int p3), .val (.ref ca), .val (.int l0), .val (.int l1), .val (.int (2 : Int32)), .val (.ref ea), .val (.int (2 : Int32)), .val (.ref fo), .val (.ref r), .unset, .unset] [(.int (1 : Int32)), (.int (2 : Int32))])) _
  refine own_go (fun _ k => XS.icmpYes X0.here hx rfl (pc0 := 216) (pc' := 224) rfl (hb hby at_216) rfl (feq (by decide : ¬ ((2 : Int32) = (1 : Int32)))).2 (by decide) (by decide) k) ?_
  show own_Go p e below (T0.setTop (mkF m 224 #[.val (.long p1), .second, .val (.int p2), .val (.int p3), .val (.ref ca), .val (.int l0), .val (.int l1), .val (.int (2 : Int32)), .val (.ref ea), .val (.int (2 : Int32)), .val (.ref fo), .val (.ref r), .unset, .unset] [])) _
  refine own_go (fun _ k => XS.iload X0.here hx rfl (hb hby at_224) rfl k) ?_
  show own_Go p e below (T0.setTop (mkF m 226 #[.val (.long p1), .second, .val (.int p2), .val (.int p3), .val (.ref ca), .val (.int l0), .val (.int l1), .val (.int (2 : Int32)), .val (.ref ea), .val (.int (2 : Int32)), .val (.ref fo), .val (.ref r), .unset, .unset] [(.int l0)])) _
  refine own_go (fun _ k => XS.iload X0.here hx rfl (hb hby at_226) rfl k) ?_
  show own_Go p e below (T0.setTop (mkF m 228 #[.val (.long p1), .second, .val (.int p2), .val (.int p3), .val (.ref ca), .val (.int l0), .val (.int l1), .val (.int (2 : Int32)), .val (.ref ea), .val (.int (2 : Int32)), .val (.ref fo), .val (.ref r), .unset, .unset] [(.int l1), (.int l0)])) _
  refine own_go (fun _ k => XS.iadd X0.here hx rfl (hb hby at_228) rfl k) ?_
  show own_Go p e below (T0.setTop (mkF m 229 #[.val (.long p1), .second, .val (.int p2), .val (.int p3), .val (.ref ca), .val (.int l0), .val (.int l1), .val (.int (2 : Int32)), .val (.ref ea), .val (.int (2 : Int32)), .val (.ref fo), .val (.ref r), .unset, .unset] [(.int (l0 + l1))])) _
  refine own_go (fun _ k => XS.istore X0.here hx rfl (hb hby at_229) rfl (l' := #[.val (.long p1), .second, .val (.int p2), .val (.int p3), .val (.ref ca), .val (.int l0), .val (.int l1), .val (.int (2 : Int32)), .val (.ref ea), .val (.int (2 : Int32)), .val (.ref fo), .val (.ref r), .val (.int (l0 + l1)), .unset]) rfl k) ?_
  show own_Go p e below (T0.setTop (mkF m 231 #[.val (.long p1), .second, .val (.int p2), .val (.int p3), .val (.ref ca), .val (.int l0), .val (.int l1), .val (.int (2 : Int32)), .val (.ref ea), .val (.int (2 : Int32)), .val (.ref fo), .val (.ref r), .val (.int (l0 + l1)), .unset] [])) _
  refine own_go (fun _ k => XS.iload X0.here hx rfl (hb hby at_231) rfl k) ?_
  show own_Go p e below (T0.setTop (mkF m 233 #[.val (.long p1), .second, .val (.int p2), .val (.int p3), .val (.ref ca), .val (.int l0), .val (.int l1), .val (.int (2 : Int32)), .val (.ref ea), .val (.int (2 : Int32)), .val (.ref fo), .val (.ref r), .val (.int (l0 + l1)), .unset] [(.int (2 : Int32))])) _
  refine own_go (fun _ k => XS.ifYes X0.here hx rfl (pc0 := 233) (pc' := 241) rfl (hb hby at_233) rfl ((if0 _ _).trans (feq (by decide : ¬ ((2 : Int32) = (0 : Int32)))).2) (by decide) (by decide) k) ?_
  show own_Go p e below (T0.setTop (mkF m 241 #[.val (.long p1), .second, .val (.int p2), .val (.int p3), .val (.ref ca), .val (.int l0), .val (.int l1), .val (.int (2 : Int32)), .val (.ref ea), .val (.int (2 : Int32)), .val (.ref fo), .val (.ref r), .val (.int (l0 + l1)), .unset] [])) _
  refine own_go (fun _ k => XS.iload X0.here hx rfl (hb hby at_241) rfl k) ?_
  show own_Go p e below (T0.setTop (mkF m 243 #[.val (.long p1), .second, .val (.int p2), .val (.int p3), .val (.ref ca), .val (.int l0), .val (.int l1), .val (.int (2 : Int32)), .val (.ref ea), .val (.int (2 : Int32)), .val (.ref fo), .val (.ref r), .val (.int (l0 + l1)), .unset] [(.int (2 : Int32))])) _
  refine own_go (fun _ k => XS.iconst X0.here hx rfl (hb hby at_243) k) ?_
  show own_Go p e below (T0.setTop (mkF m 244 #[.val (.long p1), .second, .val (.int p2), .val (.int p3), .val (.ref ca), .val (.int l0), .val (.int l1), .val (.int (2 : Int32)), .val (.ref ea), .val (.int (2 : Int32)), .val (.ref fo), .val (.ref r), .val (.int (l0 + l1)), .unset] [(.int (1 : Int32)), (.int (2 : Int32))])) _
  refine own_go (fun _ k => XS.icmpYes X0.here hx rfl (pc0 := 244) (pc' := 252) rfl (hb hby at_244) rfl (feq (by decide : ¬ ((2 : Int32) = (1 : Int32)))).2 (by decide) (by decide) k) ?_
  show own_Go p e below (T0.setTop (mkF m 252 #[.val (.long p1), .second, .val (.int p2), .val (.int p3), .val (.ref ca), .val (.int l0), .val (.int l1), .val (.int (2 : Int32)), .val (.ref ea), .val (.int (2 : Int32)), .val (.ref fo), .val (.ref r), .val (.int (l0 + l1)), .unset] [])) _
  refine own_go (fun _ k => XS.iload X0.here hx rfl (hb hby at_252) rfl k) ?_
  show own_Go p e below (T0.setTop (mkF m 254 #[.val (.long p1), .second, .val (.int p2), .val (.int p3), .val (.ref ca), .val (.int l0), .val (.int l1), .val (.int (2 : Int32)), .val (.ref ea), .val (.int (2 : Int32)), .val (.ref fo), .val (.ref r), .val (.int (l0 + l1)), .unset] [(.int (2 : Int32))])) _
  refine own_go (fun _ k => XS.istore X0.here hx rfl (hb hby at_254) rfl (l' := #[.val (.long p1), .second, .val (.int p2), .val (.int p3), .val (.ref ca), .val (.int l0), .val (.int l1), .val (.int (2 : Int32)), .val (.ref ea), .val (.int (2 : Int32)), .val (.ref fo), .val (.ref r), .val (.int (l0 + l1)), .val (.int (2 : Int32))]) rfl k) ?_
  show own_Go p e below (T0.setTop (mkF m 256 #[.val (.long p1), .second, .val (.int p2), .val (.int p3), .val (.ref ca), .val (.int l0), .val (.int l1), .val (.int (2 : Int32)), .val (.ref ea), .val (.int (2 : Int32)), .val (.ref fo), .val (.ref r), .val (.int (l0 + l1)), .val (.int (2 : Int32))] [])) _
  refine own_go (fun _ k => XS.iload X0.here hx rfl (hb hby at_256) rfl k) ?_
  show own_Go p e below (T0.setTop (mkF m 258 #[.val (.long p1), .second, .val (.int p2), .val (.int p3), .val (.ref ca), .val (.int l0), .val (.int l1), .val (.int (2 : Int32)), .val (.ref ea), .val (.int (2 : Int32)), .val (.ref fo), .val (.ref r), .val (.int (l0 + l1)), .val (.int (2 : Int32))] [(.int (2 : Int32))])) _
  refine own_go (fun _ k => XS.ifYes X0.here hx rfl (pc0 := 258) (pc' := 272) rfl (hb hby at_258) rfl ((if0 _ _).trans (feq (by decide : ¬ ((2 : Int32) = (0 : Int32)))).2) (by decide) (by decide) k) ?_
  show own_Go p e below (T0.setTop (mkF m 272 #[.val (.long p1), .second, .val (.int p2), .val (.int p3), .val (.ref ca), .val (.int l0), .val (.int l1), .val (.int (2 : Int32)), .val (.ref ea), .val (.int (2 : Int32)), .val (.ref fo), .val (.ref r), .val (.int (l0 + l1)), .val (.int (2 : Int32))] [])) _
  refine own_go (fun _ k => XS.aload X0.here hx rfl (hb hby at_272) rfl rfl k) ?_
  show own_Go p e below (T0.setTop (mkF m 274 #[.val (.long p1), .second, .val (.int p2), .val (.int p3), .val (.ref ca), .val (.int l0), .val (.int l1), .val (.int (2 : Int32)), .val (.ref ea), .val (.int (2 : Int32)), .val (.ref fo), .val (.ref r), .val (.int (l0 + l1)), .val (.int (2 : Int32))] [(.ref r)])) _
  refine own_go (fun _ k => XS.ifnullNo X0.here hx rfl (hb hby at_274) rfl k) ?_
  show own_Go p e below (T0.setTop (mkF m 277 #[.val (.long p1), .second, .val (.int p2), .val (.int p3), .val (.ref ca), .val (.int l0), .val (.int l1), .val (.int (2 : Int32)), .val (.ref ea), .val (.int (2 : Int32)), .val (.ref fo), .val (.ref r), .val (.int (l0 + l1)), .val (.int (2 : Int32))] [])) _
  refine own_go (fun _ k => XS.aload X0.here hx rfl (hb hby at_277) rfl rfl k) ?_
  show own_Go p e below (T0.setTop (mkF m 279 #[.val (.long p1), .second, .val (.int p2), .val (.int p3), .val (.ref ca), .val (.int l0), .val (.int l1), .val (.int (2 : Int32)), .val (.ref ea), .val (.int (2 : Int32)), .val (.ref fo), .val (.ref r), .val (.int (l0 + l1)), .val (.int (2 : Int32))] [(.ref r)])) _
  have hcd114 : StrChars.Road.CodA ([d0, d1] : List Int32) 0 (2 : Int32) (((([d0, d1] : List Int32)).map (fun c => c.toInt8.toInt32)).map Value.int) := StrChars.Road.codOf (n := 2) rfl (fun x hx => (hp_r x hx).2)
  have hbd114 := own_up _ hp_r
  obtain ⟨cq115, kq115, q115a, q115b, q115c⟩ := isOf hZ e0 E_r
  obtain ⟨v115, _, ⟨T115, L115, k115, n115⟩, -, X115, ⟨Lc115, hQ115, l115, y115, z115⟩, st115⟩ := X0.virtualBack hx (y := (⟨"java/lang/String", "length", "()I"⟩ : MethodName)) (z := (⟨"java/lang/String", "length", "()I"⟩ : MethodName)) hown (mvT hZ (hw _ (List.mem_of_getElem? (i := 112) rfl))) (mvT hZ (hw _ (List.mem_of_getElem? (i := 64) rfl))) (notFace_of_selects (args := #[]) (mvT hZ (hw _ (List.mem_of_getElem? (i := 66) rfl)))) (mvT hZ (hw _ (List.mem_of_getElem? (i := 66) rfl))) (mvT hZ (hw _ (List.mem_of_getElem? (i := 65) rfl))) (by decide) (StrChars.Road.lenW (W := 0) hZ (own_wLen hw) (kI := 4) (hw _ (List.mem_of_getElem? (i := 8) rfl)) E_r Fv_r Fc_r V_tt hcd114 hbd114 (O2.ext O1.2) P5 (Nat.le_of_ble_eq_true rfl) (by decide) (by decide)) q115a q115c (g := (mkF m 279 #[.val (.long p1), .second, .val (.int p2), .val (.int p3), .val (.ref ca), .val (.int l0), .val (.int l1), .val (.int (2 : Int32)), .val (.ref ea), .val (.int (2 : Int32)), .val (.ref fo), .val (.ref r), .val (.int (l0 + l1)), .val (.int (2 : Int32))] [(.ref r)])) rfl (by rw [hml]; rfl) (Steps.refl _) (argsL := []) (rest := []) (lenOf pd_6 rfl) rfl (by show 2 * 0 + _ ≤ _; exact Nat.le_of_eq rfl) (hb hby at_279) (fun _ _ => ⟨rfl, e0, (by decide : 7 + 0 ≤ _), (by decide : 29 + 0 ≤ _)⟩)
  dsimp only [Pt.U, Pt.locs, Pt.cells, Pt.slots] at X115 l115 y115 z115 st115 hQ115
  subst l115 y115 z115
  refine own_gos st115 ?_
  obtain ⟨rfl, rfl, e115⟩ := hQ115
  have Nq115 : Fr n0 ([] : List Loc) := Fr.nil n0
  have N115 := Fr.app N0 Nq115
  show own_Go p e below (T115.setTop (mkF m 282 #[.val (.long p1), .second, .val (.int p2), .val (.int p3), .val (.ref ca), .val (.int l0), .val (.int l1), .val (.int (2 : Int32)), .val (.ref ea), .val (.int (2 : Int32)), .val (.ref fo), .val (.ref r), .val (.int (l0 + l1)), .val (.int (2 : Int32))] [(.int (2 : Int32))])) _
  refine own_go (fun _ k => XS.iload X115.here hx rfl (hb hby at_282) rfl k) ?_
  show own_Go p e below (T115.setTop (mkF m 284 #[.val (.long p1), .second, .val (.int p2), .val (.int p3), .val (.ref ca), .val (.int l0), .val (.int l1), .val (.int (2 : Int32)), .val (.ref ea), .val (.int (2 : Int32)), .val (.ref fo), .val (.ref r), .val (.int (l0 + l1)), .val (.int (2 : Int32))] [(.int (2 : Int32)), (.int (2 : Int32))])) _
  refine own_go (fun _ k => XS.icmpYes X115.here hx rfl (pc0 := 284) (pc' := 289) rfl (hb hby at_284) rfl (teq (by decide : (2 : Int32) = (2 : Int32))).1 (by decide) (by decide) k) ?_
  show own_Go p e below (T115.setTop (mkF m 289 #[.val (.long p1), .second, .val (.int p2), .val (.int p3), .val (.ref ca), .val (.int l0), .val (.int l1), .val (.int (2 : Int32)), .val (.ref ea), .val (.int (2 : Int32)), .val (.ref fo), .val (.ref r), .val (.int (l0 + l1)), .val (.int (2 : Int32))] [])) _
  refine own_go (fun _ k => XS.aload X115.here hx rfl (hb hby at_289) rfl rfl k) ?_
  show own_Go p e below (T115.setTop (mkF m 291 #[.val (.long p1), .second, .val (.int p2), .val (.int p3), .val (.ref ca), .val (.int l0), .val (.int l1), .val (.int (2 : Int32)), .val (.ref ea), .val (.int (2 : Int32)), .val (.ref fo), .val (.ref r), .val (.int (l0 + l1)), .val (.int (2 : Int32))] [(.ref r)])) _
  refine own_go (fun _ k => XS.iconst X115.here hx rfl (hb hby at_291) k) ?_
  show own_Go p e below (T115.setTop (mkF m 292 #[.val (.long p1), .second, .val (.int p2), .val (.int p3), .val (.ref ca), .val (.int l0), .val (.int l1), .val (.int (2 : Int32)), .val (.ref ea), .val (.int (2 : Int32)), .val (.ref fo), .val (.ref r), .val (.int (l0 + l1)), .val (.int (2 : Int32))] [(.int (0 : Int32)), (.ref r)])) _
  obtain ⟨cq116, kq116, q116a, q116b, q116c⟩ := isOf hZ e115 E_r
  obtain ⟨v116, _, ⟨T116, L116, k116, n116⟩, -, X116, ⟨Lc116, hQ116, l116, y116, z116⟩, st116⟩ := X115.virtualBack hx (y := (⟨"java/lang/String", "charAt", "(I)C"⟩ : MethodName)) (z := (⟨"java/lang/String", "charAt", "(I)C"⟩ : MethodName)) hown (mvT hZ (hw _ (List.mem_of_getElem? (i := 113) rfl))) (mvT hZ (hw _ (List.mem_of_getElem? (i := 114) rfl))) (notFace_of_selects (args := #[]) (mvT hZ (hw _ (List.mem_of_getElem? (i := 116) rfl)))) (mvT hZ (hw _ (List.mem_of_getElem? (i := 116) rfl))) (mvT hZ (hw _ (List.mem_of_getElem? (i := 115) rfl))) (by decide) (StrChars.Road.chN (W := 0) hZ (own_wChN hw) (kI := 4) (hw _ (List.mem_of_getElem? (i := 8) rfl)) E_r Fv_r Fc_r V_tt hcd114 hbd114 (O2.ext O1.2) P5 (O4.ext O1.2) rG3 (Nat.le_of_ble_eq_true rfl) (i := 0) (Nat.le_of_ble_eq_true rfl) (j := 0) rfl (by decide) (by decide)) q116a q116c (g := (mkF m 292 #[.val (.long p1), .second, .val (.int p2), .val (.int p3), .val (.ref ca), .val (.int l0), .val (.int l1), .val (.int (2 : Int32)), .val (.ref ea), .val (.int (2 : Int32)), .val (.ref fo), .val (.ref r), .val (.int (l0 + l1)), .val (.int (2 : Int32))] [(.int (0 : Int32)), (.ref r)])) rfl (by rw [hml]; rfl) (Steps.refl _) (argsL := [(.int (0 : Int32))]) (rest := []) (lenOf pd_12 rfl) rfl (by show 2 * 0 + _ ≤ _; exact Nat.le_of_eq rfl) (hb hby at_292) (fun _ _ => ⟨rfl, e115, (by decide : 7 + 0 ≤ _), (by decide : 29 + 0 ≤ _)⟩)
  dsimp only [Pt.U, Pt.locs, Pt.cells, Pt.slots] at X116 l116 y116 z116 st116 hQ116
  subst l116 y116 z116
  refine own_gos st116 ?_
  obtain ⟨rfl, rfl, e116⟩ := hQ116
  have Nq116 : Fr n0 ([] : List Loc) := Fr.nil n0
  have N116 := Fr.app N115 Nq116
  show own_Go p e below (T116.setTop (mkF m 295 #[.val (.long p1), .second, .val (.int p2), .val (.int p3), .val (.ref ca), .val (.int l0), .val (.int l1), .val (.int (2 : Int32)), .val (.ref ea), .val (.int (2 : Int32)), .val (.ref fo), .val (.ref r), .val (.int (l0 + l1)), .val (.int (2 : Int32))] [(.int d0)])) _
  refine own_go (fun _ k => XS.aload X116.here hx rfl (hb hby at_295) rfl rfl k) ?_
  show own_Go p e below (T116.setTop (mkF m 297 #[.val (.long p1), .second, .val (.int p2), .val (.int p3), .val (.ref ca), .val (.int l0), .val (.int l1), .val (.int (2 : Int32)), .val (.ref ea), .val (.int (2 : Int32)), .val (.ref fo), .val (.ref r), .val (.int (l0 + l1)), .val (.int (2 : Int32))] [(.ref ca), (.int d0)])) _
  refine own_go (fun _ k => XS.iload X116.here hx rfl (hb hby at_297) rfl k) ?_
  show own_Go p e below (T116.setTop (mkF m 299 #[.val (.long p1), .second, .val (.int p2), .val (.int p3), .val (.ref ca), .val (.int l0), .val (.int l1), .val (.int (2 : Int32)), .val (.ref ea), .val (.int (2 : Int32)), .val (.ref fo), .val (.ref r), .val (.int (l0 + l1)), .val (.int (2 : Int32))] [(.int (l0 + l1)), (.ref ca), (.int d0)])) _
  obtain ⟨c117, A117, q117, S117, M117, Hs117, Gs117⟩ := id V_ca
  have hi117 := inb_of (j := (l0 + l1)) S117 hb0
  refine own_go (fun _ k => X116.caload hx (j := (l0 + l1)) (v := (.int d0)) (by rw [e116]; exact A117.1) (State.isArrayOf_alike hZ.alike A117.2.1) A117.2.2 hi117 (Has.at Hs117 hi117 hd0) (g := (mkF m 299 #[.val (.long p1), .second, .val (.int p2), .val (.int p3), .val (.ref ca), .val (.int l0), .val (.int l1), .val (.int (2 : Int32)), .val (.ref ea), .val (.int (2 : Int32)), .val (.ref fo), .val (.ref r), .val (.int (l0 + l1)), .val (.int (2 : Int32))] [(.int (l0 + l1)), (.ref ca), (.int d0)])) rfl rfl (hb hby at_299) _ k) ?_
  show own_Go p e below (T116.setTop (mkF m 300 #[.val (.long p1), .second, .val (.int p2), .val (.int p3), .val (.ref ca), .val (.int l0), .val (.int l1), .val (.int (2 : Int32)), .val (.ref ea), .val (.int (2 : Int32)), .val (.ref fo), .val (.ref r), .val (.int (l0 + l1)), .val (.int (2 : Int32))] [(.int d0), (.int d0)])) _
  refine own_go (fun _ k => XS.icmpYes X116.here hx rfl (pc0 := 300) (pc' := 305) rfl (hb hby at_300) rfl (teq (rfl : d0 = d0)).1 (by decide) (by decide) k) ?_
  show own_Go p e below (T116.setTop (mkF m 305 #[.val (.long p1), .second, .val (.int p2), .val (.int p3), .val (.ref ca), .val (.int l0), .val (.int l1), .val (.int (2 : Int32)), .val (.ref ea), .val (.int (2 : Int32)), .val (.ref fo), .val (.ref r), .val (.int (l0 + l1)), .val (.int (2 : Int32))] [])) _
  refine own_go (fun _ k => XS.iload X116.here hx rfl (hb hby at_305) rfl k) ?_
  show own_Go p e below (T116.setTop (mkF m 307 #[.val (.long p1), .second, .val (.int p2), .val (.int p3), .val (.ref ca), .val (.int l0), .val (.int l1), .val (.int (2 : Int32)), .val (.ref ea), .val (.int (2 : Int32)), .val (.ref fo), .val (.ref r), .val (.int (l0 + l1)), .val (.int (2 : Int32))] [(.int (2 : Int32))])) _
  refine own_go (fun _ k => XS.iconst X116.here hx rfl (hb hby at_307) k) ?_
  show own_Go p e below (T116.setTop (mkF m 308 #[.val (.long p1), .second, .val (.int p2), .val (.int p3), .val (.ref ca), .val (.int l0), .val (.int l1), .val (.int (2 : Int32)), .val (.ref ea), .val (.int (2 : Int32)), .val (.ref fo), .val (.ref r), .val (.int (l0 + l1)), .val (.int (2 : Int32))] [(.int (2 : Int32)), (.int (2 : Int32))])) _
  refine own_go (fun _ k => XS.icmpNo X116.here hx rfl (hb hby at_308) rfl (flt (by decide : ¬ ((2 : Int32) < (2 : Int32)))).1 k) ?_
  show own_Go p e below (T116.setTop (mkF m 311 #[.val (.long p1), .second, .val (.int p2), .val (.int p3), .val (.ref ca), .val (.int l0), .val (.int l1), .val (.int (2 : Int32)), .val (.ref ea), .val (.int (2 : Int32)), .val (.ref fo), .val (.ref r), .val (.int (l0 + l1)), .val (.int (2 : Int32))] [])) _
  refine own_go (fun _ k => XS.aload X116.here hx rfl (hb hby at_311) rfl rfl k) ?_
  show own_Go p e below (T116.setTop (mkF m 313 #[.val (.long p1), .second, .val (.int p2), .val (.int p3), .val (.ref ca), .val (.int l0), .val (.int l1), .val (.int (2 : Int32)), .val (.ref ea), .val (.int (2 : Int32)), .val (.ref fo), .val (.ref r), .val (.int (l0 + l1)), .val (.int (2 : Int32))] [(.ref r)])) _
  refine own_go (fun _ k => XS.iconst X116.here hx rfl (hb hby at_313) k) ?_
  show own_Go p e below (T116.setTop (mkF m 314 #[.val (.long p1), .second, .val (.int p2), .val (.int p3), .val (.ref ca), .val (.int l0), .val (.int l1), .val (.int (2 : Int32)), .val (.ref ea), .val (.int (2 : Int32)), .val (.ref fo), .val (.ref r), .val (.int (l0 + l1)), .val (.int (2 : Int32))] [(.int (1 : Int32)), (.ref r)])) _
  obtain ⟨cq118, kq118, q118a, q118b, q118c⟩ := isOf hZ e116 E_r
  obtain ⟨v118, _, ⟨T118, L118, k118, n118⟩, -, X118, ⟨Lc118, hQ118, l118, y118, z118⟩, st118⟩ := X116.virtualBack hx (y := (⟨"java/lang/String", "charAt", "(I)C"⟩ : MethodName)) (z := (⟨"java/lang/String", "charAt", "(I)C"⟩ : MethodName)) hown (mvT hZ (hw _ (List.mem_of_getElem? (i := 113) rfl))) (mvT hZ (hw _ (List.mem_of_getElem? (i := 114) rfl))) (notFace_of_selects (args := #[]) (mvT hZ (hw _ (List.mem_of_getElem? (i := 116) rfl)))) (mvT hZ (hw _ (List.mem_of_getElem? (i := 116) rfl))) (mvT hZ (hw _ (List.mem_of_getElem? (i := 115) rfl))) (by decide) (StrChars.Road.chN (W := 0) hZ (own_wChN hw) (kI := 4) (hw _ (List.mem_of_getElem? (i := 8) rfl)) E_r Fv_r Fc_r V_tt hcd114 hbd114 (O2.ext O1.2) P5 (O4.ext O1.2) rG3 (Nat.le_of_ble_eq_true rfl) (i := 1) (Nat.le_of_ble_eq_true rfl) (j := 1) rfl (by decide) (by decide)) q118a q118c (g := (mkF m 314 #[.val (.long p1), .second, .val (.int p2), .val (.int p3), .val (.ref ca), .val (.int l0), .val (.int l1), .val (.int (2 : Int32)), .val (.ref ea), .val (.int (2 : Int32)), .val (.ref fo), .val (.ref r), .val (.int (l0 + l1)), .val (.int (2 : Int32))] [(.int (1 : Int32)), (.ref r)])) rfl (by rw [hml]; rfl) (Steps.refl _) (argsL := [(.int (1 : Int32))]) (rest := []) (lenOf pd_12 rfl) rfl (by show 2 * 0 + _ ≤ _; exact Nat.le_of_eq rfl) (hb hby at_314) (fun _ _ => ⟨rfl, e116, (by decide : 7 + 0 ≤ _), (by decide : 29 + 0 ≤ _)⟩)
  dsimp only [Pt.U, Pt.locs, Pt.cells, Pt.slots] at X118 l118 y118 z118 st118 hQ118
  subst l118 y118 z118
  refine own_gos st118 ?_
  obtain ⟨rfl, rfl, e118⟩ := hQ118
  have Nq118 : Fr n0 ([] : List Loc) := Fr.nil n0
  have N118 := Fr.app N116 Nq118
  show own_Go p e below (T118.setTop (mkF m 317 #[.val (.long p1), .second, .val (.int p2), .val (.int p3), .val (.ref ca), .val (.int l0), .val (.int l1), .val (.int (2 : Int32)), .val (.ref ea), .val (.int (2 : Int32)), .val (.ref fo), .val (.ref r), .val (.int (l0 + l1)), .val (.int (2 : Int32))] [(.int d1)])) _
  refine own_go (fun _ k => XS.aload X118.here hx rfl (hb hby at_317) rfl rfl k) ?_
  show own_Go p e below (T118.setTop (mkF m 319 #[.val (.long p1), .second, .val (.int p2), .val (.int p3), .val (.ref ca), .val (.int l0), .val (.int l1), .val (.int (2 : Int32)), .val (.ref ea), .val (.int (2 : Int32)), .val (.ref fo), .val (.ref r), .val (.int (l0 + l1)), .val (.int (2 : Int32))] [(.ref ca), (.int d1)])) _
  refine own_go (fun _ k => XS.iload X118.here hx rfl (hb hby at_319) rfl k) ?_
  show own_Go p e below (T118.setTop (mkF m 321 #[.val (.long p1), .second, .val (.int p2), .val (.int p3), .val (.ref ca), .val (.int l0), .val (.int l1), .val (.int (2 : Int32)), .val (.ref ea), .val (.int (2 : Int32)), .val (.ref fo), .val (.ref r), .val (.int (l0 + l1)), .val (.int (2 : Int32))] [(.int (l0 + l1)), (.ref ca), (.int d1)])) _
  refine own_go (fun _ k => XS.iconst X118.here hx rfl (hb hby at_321) k) ?_
  show own_Go p e below (T118.setTop (mkF m 322 #[.val (.long p1), .second, .val (.int p2), .val (.int p3), .val (.ref ca), .val (.int l0), .val (.int l1), .val (.int (2 : Int32)), .val (.ref ea), .val (.int (2 : Int32)), .val (.ref fo), .val (.ref r), .val (.int (l0 + l1)), .val (.int (2 : Int32))] [(.int (1 : Int32)), (.int (l0 + l1)), (.ref ca), (.int d1)])) _
  refine own_go (fun _ k => XS.iadd X118.here hx rfl (hb hby at_322) rfl k) ?_
  show own_Go p e below (T118.setTop (mkF m 323 #[.val (.long p1), .second, .val (.int p2), .val (.int p3), .val (.ref ca), .val (.int l0), .val (.int l1), .val (.int (2 : Int32)), .val (.ref ea), .val (.int (2 : Int32)), .val (.ref fo), .val (.ref r), .val (.int (l0 + l1)), .val (.int (2 : Int32))] [(.int ((l0 + l1) + (1 : Int32))), (.ref ca), (.int d1)])) _
  obtain ⟨c119, A119, q119, S119, M119, Hs119, Gs119⟩ := id V_ca
  have hi119 := inb_of (j := ((l0 + l1) + (1 : Int32))) S119 hb1
  refine own_go (fun _ k => X118.caload hx (j := ((l0 + l1) + (1 : Int32))) (v := (.int d1)) (by rw [e118]; exact A119.1) (State.isArrayOf_alike hZ.alike A119.2.1) A119.2.2 hi119 (Has.at Hs119 hi119 hd1) (g := (mkF m 323 #[.val (.long p1), .second, .val (.int p2), .val (.int p3), .val (.ref ca), .val (.int l0), .val (.int l1), .val (.int (2 : Int32)), .val (.ref ea), .val (.int (2 : Int32)), .val (.ref fo), .val (.ref r), .val (.int (l0 + l1)), .val (.int (2 : Int32))] [(.int ((l0 + l1) + (1 : Int32))), (.ref ca), (.int d1)])) rfl rfl (hb hby at_323) _ k) ?_
  show own_Go p e below (T118.setTop (mkF m 324 #[.val (.long p1), .second, .val (.int p2), .val (.int p3), .val (.ref ca), .val (.int l0), .val (.int l1), .val (.int (2 : Int32)), .val (.ref ea), .val (.int (2 : Int32)), .val (.ref fo), .val (.ref r), .val (.int (l0 + l1)), .val (.int (2 : Int32))] [(.int d1), (.int d1)])) _
  refine own_go (fun _ k => XS.icmpNo X118.here hx rfl (hb hby at_324) rfl (teq (rfl : d1 = d1)).2 k) ?_
  show own_Go p e below (T118.setTop (mkF m 327 #[.val (.long p1), .second, .val (.int p2), .val (.int p3), .val (.ref ca), .val (.int l0), .val (.int l1), .val (.int (2 : Int32)), .val (.ref ea), .val (.int (2 : Int32)), .val (.ref fo), .val (.ref r), .val (.int (l0 + l1)), .val (.int (2 : Int32))] [])) _
  refine own_go (fun _ k => XS.iconst X118.here hx rfl (hb hby at_327) k) ?_
  show own_Go p e below (T118.setTop (mkF m 328 #[.val (.long p1), .second, .val (.int p2), .val (.int p3), .val (.ref ca), .val (.int l0), .val (.int l1), .val (.int (2 : Int32)), .val (.ref ea), .val (.int (2 : Int32)), .val (.ref fo), .val (.ref r), .val (.int (l0 + l1)), .val (.int (2 : Int32))] [(.int (1 : Int32))])) _
  refine own_go (fun _ k => XS.goto X118.here hx rfl (pc0 := 328) (pc' := 332) rfl (hb hby at_328) (by decide) (by decide) k) ?_
  show own_Go p e below (T118.setTop (mkF m 332 #[.val (.long p1), .second, .val (.int p2), .val (.int p3), .val (.ref ca), .val (.int l0), .val (.int l1), .val (.int (2 : Int32)), .val (.ref ea), .val (.int (2 : Int32)), .val (.ref fo), .val (.ref r), .val (.int (l0 + l1)), .val (.int (2 : Int32))] [(.int (1 : Int32))])) _
  refine own_fin (v := (some (.int (nar .boolean (1 : Int32))))) X118 (fun h => by rw [hrt] at h; cases h) hlk (fun fs hr => retN X118 hx (t := .boolean) hrt (by simp) (hb hby at_332) hr) (QQ := QQ0 n0) ?_ (by decide) (by decide)
  rw [e118]
  exact ⟨rfl, N118⟩

theorem pd_13 : parseMethodDescriptor "([C)V" = some ⟨[(.array .char)], none⟩ := by decide +kernel
theorem pd_14 : parseMethodDescriptor "(Ljava/lang/String;[I)V" = some ⟨[(.object "java/lang/String"), (.array .int)], none⟩ := by decide +kernel
theorem pd_15 : parseMethodDescriptor "(I)Ljava/lang/String;" = some ⟨[.int], some (.object "java/lang/String")⟩ := by decide +kernel
theorem ef_rm_law (m : MethodId) (x0 : Int64) (x1 : Int32) (x2 : Int32) : entryFrame m #[(.long x0), (.int x1), (.int x2)] maxLocals = mkF m 0 #[.val (.long x0), .second, .val (.int x1), .val (.int x2), .unset, .unset, .unset, .unset, .unset, .unset, .unset, .unset, .unset, .unset] [] := by
   first | (simp [entryFrame, mkF, argsToLocals, Value.category, maxLocals]; done) | rfl
set_option maxRecDepth 65536 in
set_option maxHeartbeats 40000000 in
theorem rm_law (l : Launch) (Z : State) (a0 : Array Value) (hw : ∀ d ∈ tables_1, d.before a0 Z = true) (ws : List Jvm.Cond) (p1 : Int64) (p2 : Int32) (p3 : Int32) (G1 : Int32) (G3 : Value) (h0 : Heap) (n0 : Nat) (O0 : Old Z n0 h0) (O2 : Sta Z Z.heap "java/lang/String" "COMPACT_STRINGS" "Z" (.int G1)) (P5 : ¬ (G1 = (0 : Int32))) (O4 : Sta Z Z.heap "jdk/internal/util/Preconditions" "SIOOBE_FORMATTER" "Ljava/util/function/BiFunction;" G3) (rG3 : G3.isRef = true) :
    MetFree l x (head1 (Jvm.Cond.code x code maxLocals ret :: ws) room_1) (fun a U => a = #[(.long p1), (.int p2), (.int p3)] ∧ Z.Warmed39 U.vm ∧ U.heap = h0) (fun _ _ _ _ _ => True) (fun _ U o U' => ∃ v L, o = .returned v ∧ QQ0 n0 v U'.heap L ∧ FrameEnd U o U' L 24 128) := by
  refine MetFree.of_bodySF (plainFor_of_name pn_6) hisR ?_
  intro p e s m args below meth c s₁ Bd hml0 hP hK
  obtain ⟨rfl, hZ, hh⟩ := hP
  have hx := Bd.exec
  have hby := Bd.bytes
  have hml : c.maxLocals = maxLocals := hml0
  have hown : s.vm.findClass "com/example/sequela/sequela/FieldsGetPinLaw" = some m.cls := findClass_of_methodNamed Bd.named
  have hnm := (name_of_methodNamed Bd.named Bd.method).1
  have hrt := Bd.returns
  have hlk : meth.locks = false := Bd.notSynchronized
  have X0 : Stand p l e room_1 s m #[(.long p1), (.int p2), (.int p3)] below meth c s₁ [] 0 0 := Stand.of_body Bd
  have e0 : s₁.heap = h0 := by rw [← hh, Bd.state]; rfl
  have N0 := Fr.nil n0
  have Z0 : n0 ≤ h0.size := O0.1 ▸ O0.2.1
  show own_Go p e below (s₁.setTop (entryFrame m #[(.long p1), (.int p2), (.int p3)] maxLocals)) (fun o U' => ∃ v L, o = .returned v ∧ QQ0 n0 v U'.heap L ∧ FrameEnd s o U' L 24 128)
  refine own_go (fun _ k => castTop (ef_rm_law m p1 p2 p3) k) ?_
  show own_Go p e below (s₁.setTop (mkF m 0 #[.val (.long p1), .second, .val (.int p2), .val (.int p3), .unset, .unset, .unset, .unset, .unset, .unset, .unset, .unset, .unset, .unset] [])) _
  refine own_go (fun _ k => XS.bipush X0.here hx rfl (hb hby at_0) k) ?_
  show own_Go p e below (s₁.setTop (mkF m 2 #[.val (.long p1), .second, .val (.int p2), .val (.int p3), .unset, .unset, .unset, .unset, .unset, .unset, .unset, .unset, .unset, .unset] [(.int (7 : Int32))])) _
  obtain ⟨T120, h120, k120, X120, e120, E120, A120, st120⟩ := newP X0 hx hZ (hw _ (List.mem_of_getElem? (i := 0) rfl)) e0 (g := (mkF m 2 #[.val (.long p1), .second, .val (.int p2), .val (.int p3), .unset, .unset, .unset, .unset, .unset, .unset, .unset, .unset, .unset, .unset] [(.int (7 : Int32))])) rfl (hb hby at_2) rfl (by decide) (cap := 7) (by decide) (by decide) (by decide) (by decide)
  obtain ⟨b120, g120⟩ : ∃ z, z = h0.size := ⟨_, rfl⟩
  rw [← g120] at A120 st120
  refine own_go st120 ?_
  have V120 : Arv Z h120 b120 k120 .char (7 : Int32) [(.int (0 : Int32)), (.int (0 : Int32)), (.int (0 : Int32)), (.int (0 : Int32)), (.int (0 : Int32)), (.int (0 : Int32)), (.int (0 : Int32))] (.int (0 : Int32)) := (Arv.new A120 (by decide)).pad (pad_rep [] (.int (0 : Int32)) 7)
  show own_Go p e below (T120.setTop (mkF m 4 #[.val (.long p1), .second, .val (.int p2), .val (.int p3), .unset, .unset, .unset, .unset, .unset, .unset, .unset, .unset, .unset, .unset] [(.ref b120)])) _
  refine own_go (fun _ k => XS.astore X120.here hx rfl (hb hby at_4) rfl rfl (l' := #[.val (.long p1), .second, .val (.int p2), .val (.int p3), .val (.ref b120), .unset, .unset, .unset, .unset, .unset, .unset, .unset, .unset, .unset]) rfl k) ?_
  show own_Go p e below (T120.setTop (mkF m 6 #[.val (.long p1), .second, .val (.int p2), .val (.int p3), .val (.ref b120), .unset, .unset, .unset, .unset, .unset, .unset, .unset, .unset, .unset] [])) _
  refine own_go (fun _ k => XS.aload X120.here hx rfl (hb hby at_6) rfl rfl k) ?_
  show own_Go p e below (T120.setTop (mkF m 8 #[.val (.long p1), .second, .val (.int p2), .val (.int p3), .val (.ref b120), .unset, .unset, .unset, .unset, .unset, .unset, .unset, .unset, .unset] [(.ref b120)])) _
  refine own_go (fun _ k => XS.iconst X120.here hx rfl (hb hby at_8) k) ?_
  show own_Go p e below (T120.setTop (mkF m 9 #[.val (.long p1), .second, .val (.int p2), .val (.int p3), .val (.ref b120), .unset, .unset, .unset, .unset, .unset, .unset, .unset, .unset, .unset] [(.int (0 : Int32)), (.ref b120)])) _
  refine own_go (fun _ k => XS.lloadN X120.here hx rfl (hb hby at_9) rfl k) ?_
  show own_Go p e below (T120.setTop (mkF m 10 #[.val (.long p1), .second, .val (.int p2), .val (.int p3), .val (.ref b120), .unset, .unset, .unset, .unset, .unset, .unset, .unset, .unset, .unset] [(.long p1), (.int (0 : Int32)), (.ref b120)])) _
  refine own_go (fun _ k => X120.ldc2Long hx hown (mvT hZ (hw _ (List.mem_of_getElem? (i := 1) rfl))) (g := (mkF m 10 #[.val (.long p1), .second, .val (.int p2), .val (.int p3), .val (.ref b120), .unset, .unset, .unset, .unset, .unset, .unset, .unset, .unset, .unset] [(.long p1), (.int (0 : Int32)), (.ref b120)])) rfl (hb hby at_10) _ k) ?_
  show own_Go p e below (T120.setTop (mkF m 13 #[.val (.long p1), .second, .val (.int p2), .val (.int p3), .val (.ref b120), .unset, .unset, .unset, .unset, .unset, .unset, .unset, .unset, .unset] [(.long (255 : Int64)), (.long p1), (.int (0 : Int32)), (.ref b120)])) _
  refine own_go (fun _ k => XS.land X120.here hx rfl (hb hby at_13) rfl k) ?_
  show own_Go p e below (T120.setTop (mkF m 14 #[.val (.long p1), .second, .val (.int p2), .val (.int p3), .val (.ref b120), .unset, .unset, .unset, .unset, .unset, .unset, .unset, .unset, .unset] [(.long (p1 &&& (255 : Int64))), (.int (0 : Int32)), (.ref b120)])) _
  refine own_go (fun _ k => XS.l2i X120.here hx rfl (hb hby at_14) rfl k) ?_
  show own_Go p e below (T120.setTop (mkF m 15 #[.val (.long p1), .second, .val (.int p2), .val (.int p3), .val (.ref b120), .unset, .unset, .unset, .unset, .unset, .unset, .unset, .unset, .unset] [(.int ((p1 &&& (255 : Int64)).toInt32)), (.int (0 : Int32)), (.ref b120)])) _
  refine own_go (fun _ k => XS.i2c X120.here hx rfl (hb hby at_15) rfl k) ?_
  show own_Go p e below (T120.setTop (mkF m 16 #[.val (.long p1), .second, .val (.int p2), .val (.int p3), .val (.ref b120), .unset, .unset, .unset, .unset, .unset, .unset, .unset, .unset, .unset] [(.int (((p1 &&& (255 : Int64)).toInt32).toUInt32.toUInt16.toUInt32.toInt32)), (.int (0 : Int32)), (.ref b120)])) _
  obtain ⟨c121, A121, q121, S121, M121, Hs121, Gs121⟩ := id V120
  obtain ⟨T122, h122, X122, e122, W122, st122⟩ := stC X120 hx hZ e120 A121 (j := (0 : Int32)) (inb_of S121 ⟨by decide, by decide⟩) (g := (mkF m 16 #[.val (.long p1), .second, .val (.int p2), .val (.int p3), .val (.ref b120), .unset, .unset, .unset, .unset, .unset, .unset, .unset, .unset, .unset] [(.int (((p1 &&& (255 : Int64)).toInt32).toUInt32.toUInt16.toUInt32.toInt32)), (.int (0 : Int32)), (.ref b120)])) rfl rfl (hb hby at_16)
  refine own_go st122 ?_
  have N122 := Fr.snoc X122 N0 (Nat.le_trans Z0 (Nat.le_of_eq g120.symm))
  have V122 : Arv Z h122 b120 k120 .char (7 : Int32) [(.int (own_c0 p1)), (.int (0 : Int32)), (.int (0 : Int32)), (.int (0 : Int32)), (.int (0 : Int32)), (.int (0 : Int32)), (.int (0 : Int32))] (.int (0 : Int32)) := Arv.set A121 q121 S121 M121 Hs121 Gs121 (fits_nar_char _) W122 0 rfl (Nat.le_of_ble_eq_true rfl)
  show own_Go p e below (T122.setTop (mkF m 17 #[.val (.long p1), .second, .val (.int p2), .val (.int p3), .val (.ref b120), .unset, .unset, .unset, .unset, .unset, .unset, .unset, .unset, .unset] [])) _
  refine own_go (fun _ k => XS.aload X122.here hx rfl (hb hby at_17) rfl rfl k) ?_
  show own_Go p e below (T122.setTop (mkF m 19 #[.val (.long p1), .second, .val (.int p2), .val (.int p3), .val (.ref b120), .unset, .unset, .unset, .unset, .unset, .unset, .unset, .unset, .unset] [(.ref b120)])) _
  refine own_go (fun _ k => XS.iconst X122.here hx rfl (hb hby at_19) k) ?_
  show own_Go p e below (T122.setTop (mkF m 20 #[.val (.long p1), .second, .val (.int p2), .val (.int p3), .val (.ref b120), .unset, .unset, .unset, .unset, .unset, .unset, .unset, .unset, .unset] [(.int (1 : Int32)), (.ref b120)])) _
  refine own_go (fun _ k => XS.lloadN X122.here hx rfl (hb hby at_20) rfl k) ?_
  show own_Go p e below (T122.setTop (mkF m 21 #[.val (.long p1), .second, .val (.int p2), .val (.int p3), .val (.ref b120), .unset, .unset, .unset, .unset, .unset, .unset, .unset, .unset, .unset] [(.long p1), (.int (1 : Int32)), (.ref b120)])) _
  refine own_go (fun _ k => XS.bipush X122.here hx rfl (hb hby at_21) k) ?_
  show own_Go p e below (T122.setTop (mkF m 23 #[.val (.long p1), .second, .val (.int p2), .val (.int p3), .val (.ref b120), .unset, .unset, .unset, .unset, .unset, .unset, .unset, .unset, .unset] [(.int (8 : Int32)), (.long p1), (.int (1 : Int32)), (.ref b120)])) _
  refine own_go (fun _ k => XS.lushr X122.here hx rfl (hb hby at_23) rfl k) ?_
  show own_Go p e below (T122.setTop (mkF m 24 #[.val (.long p1), .second, .val (.int p2), .val (.int p3), .val (.ref b120), .unset, .unset, .unset, .unset, .unset, .unset, .unset, .unset, .unset] [(.long ((p1.toUInt64 >>> ((8 : Int32) &&& 0x3f).toInt64.toUInt64).toInt64)), (.int (1 : Int32)), (.ref b120)])) _
  refine own_go (fun _ k => X122.ldc2Long hx hown (mvT hZ (hw _ (List.mem_of_getElem? (i := 1) rfl))) (g := (mkF m 24 #[.val (.long p1), .second, .val (.int p2), .val (.int p3), .val (.ref b120), .unset, .unset, .unset, .unset, .unset, .unset, .unset, .unset, .unset] [(.long ((p1.toUInt64 >>> ((8 : Int32) &&& 0x3f).toInt64.toUInt64).toInt64)), (.int (1 : Int32)), (.ref b120)])) rfl (hb hby at_24) _ k) ?_
  show own_Go p e below (T122.setTop (mkF m 27 #[.val (.long p1), .second, .val (.int p2), .val (.int p3), .val (.ref b120), .unset, .unset, .unset, .unset, .unset, .unset, .unset, .unset, .unset] [(.long (255 : Int64)), (.long ((p1.toUInt64 >>> ((8 : Int32) &&& 0x3f).toInt64.toUInt64).toInt64)), (.int (1 : Int32)), (.ref b120)])) _
  refine own_go (fun _ k => XS.land X122.here hx rfl (hb hby at_27) rfl k) ?_
  show own_Go p e below (T122.setTop (mkF m 28 #[.val (.long p1), .second, .val (.int p2), .val (.int p3), .val (.ref b120), .unset, .unset, .unset, .unset, .unset, .unset, .unset, .unset, .unset] [(.long (((p1.toUInt64 >>> ((8 : Int32) &&& 0x3f).toInt64.toUInt64).toInt64) &&& (255 : Int64))), (.int (1 : Int32)), (.ref b120)])) _
  refine own_go (fun _ k => XS.l2i X122.here hx rfl (hb hby at_28) rfl k) ?_
  show own_Go p e below (T122.setTop (mkF m 29 #[.val (.long p1), .second, .val (.int p2), .val (.int p3), .val (.ref b120), .unset, .unset, .unset, .unset, .unset, .unset, .unset, .unset, .unset] [(.int ((((p1.toUInt64 >>> ((8 : Int32) &&& 0x3f).toInt64.toUInt64).toInt64) &&& (255 : Int64)).toInt32)), (.int (1 : Int32)), (.ref b120)])) _
  refine own_go (fun _ k => XS.i2c X122.here hx rfl (hb hby at_29) rfl k) ?_
  show own_Go p e below (T122.setTop (mkF m 30 #[.val (.long p1), .second, .val (.int p2), .val (.int p3), .val (.ref b120), .unset, .unset, .unset, .unset, .unset, .unset, .unset, .unset, .unset] [(.int (((((p1.toUInt64 >>> ((8 : Int32) &&& 0x3f).toInt64.toUInt64).toInt64) &&& (255 : Int64)).toInt32).toUInt32.toUInt16.toUInt32.toInt32)), (.int (1 : Int32)), (.ref b120)])) _
  obtain ⟨c123, A123, q123, S123, M123, Hs123, Gs123⟩ := id V122
  obtain ⟨T124, h124, X124, e124, W124, st124⟩ := stC X122 hx hZ e122 A123 (j := (1 : Int32)) (inb_of S123 ⟨by decide, by decide⟩) (g := (mkF m 30 #[.val (.long p1), .second, .val (.int p2), .val (.int p3), .val (.ref b120), .unset, .unset, .unset, .unset, .unset, .unset, .unset, .unset, .unset] [(.int (((((p1.toUInt64 >>> ((8 : Int32) &&& 0x3f).toInt64.toUInt64).toInt64) &&& (255 : Int64)).toInt32).toUInt32.toUInt16.toUInt32.toInt32)), (.int (1 : Int32)), (.ref b120)])) rfl rfl (hb hby at_30)
  refine own_go st124 ?_
  have N124 := Fr.snoc X124 N122 (Nat.le_trans Z0 (Nat.le_of_eq g120.symm))
  have V124 : Arv Z h124 b120 k120 .char (7 : Int32) [(.int (own_c0 p1)), (.int (own_c p1 8)), (.int (0 : Int32)), (.int (0 : Int32)), (.int (0 : Int32)), (.int (0 : Int32)), (.int (0 : Int32))] (.int (0 : Int32)) := Arv.set A123 q123 S123 M123 Hs123 Gs123 (fits_nar_char _) W124 1 rfl (Nat.le_of_ble_eq_true rfl)
  show own_Go p e below (T124.setTop (mkF m 31 #[.val (.long p1), .second, .val (.int p2), .val (.int p3), .val (.ref b120), .unset, .unset, .unset, .unset, .unset, .unset, .unset, .unset, .unset] [])) _
  refine own_go (fun _ k => XS.aload X124.here hx rfl (hb hby at_31) rfl rfl k) ?_
  show own_Go p e below (T124.setTop (mkF m 33 #[.val (.long p1), .second, .val (.int p2), .val (.int p3), .val (.ref b120), .unset, .unset, .unset, .unset, .unset, .unset, .unset, .unset, .unset] [(.ref b120)])) _
  refine own_go (fun _ k => XS.iconst X124.here hx rfl (hb hby at_33) k) ?_
  show own_Go p e below (T124.setTop (mkF m 34 #[.val (.long p1), .second, .val (.int p2), .val (.int p3), .val (.ref b120), .unset, .unset, .unset, .unset, .unset, .unset, .unset, .unset, .unset] [(.int (2 : Int32)), (.ref b120)])) _
  refine own_go (fun _ k => XS.lloadN X124.here hx rfl (hb hby at_34) rfl k) ?_
  show own_Go p e below (T124.setTop (mkF m 35 #[.val (.long p1), .second, .val (.int p2), .val (.int p3), .val (.ref b120), .unset, .unset, .unset, .unset, .unset, .unset, .unset, .unset, .unset] [(.long p1), (.int (2 : Int32)), (.ref b120)])) _
  refine own_go (fun _ k => XS.bipush X124.here hx rfl (hb hby at_35) k) ?_
  show own_Go p e below (T124.setTop (mkF m 37 #[.val (.long p1), .second, .val (.int p2), .val (.int p3), .val (.ref b120), .unset, .unset, .unset, .unset, .unset, .unset, .unset, .unset, .unset] [(.int (16 : Int32)), (.long p1), (.int (2 : Int32)), (.ref b120)])) _
  refine own_go (fun _ k => XS.lushr X124.here hx rfl (hb hby at_37) rfl k) ?_
  show own_Go p e below (T124.setTop (mkF m 38 #[.val (.long p1), .second, .val (.int p2), .val (.int p3), .val (.ref b120), .unset, .unset, .unset, .unset, .unset, .unset, .unset, .unset, .unset] [(.long ((p1.toUInt64 >>> ((16 : Int32) &&& 0x3f).toInt64.toUInt64).toInt64)), (.int (2 : Int32)), (.ref b120)])) _
  refine own_go (fun _ k => X124.ldc2Long hx hown (mvT hZ (hw _ (List.mem_of_getElem? (i := 1) rfl))) (g := (mkF m 38 #[.val (.long p1), .second, .val (.int p2), .val (.int p3), .val (.ref b120), .unset, .unset, .unset, .unset, .unset, .unset, .unset, .unset, .unset] [(.long ((p1.toUInt64 >>> ((16 : Int32) &&& 0x3f).toInt64.toUInt64).toInt64)), (.int (2 : Int32)), (.ref b120)])) rfl (hb hby at_38) _ k) ?_
  show own_Go p e below (T124.setTop (mkF m 41 #[.val (.long p1), .second, .val (.int p2), .val (.int p3), .val (.ref b120), .unset, .unset, .unset, .unset, .unset, .unset, .unset, .unset, .unset] [(.long (255 : Int64)), (.long ((p1.toUInt64 >>> ((16 : Int32) &&& 0x3f).toInt64.toUInt64).toInt64)), (.int (2 : Int32)), (.ref b120)])) _
  refine own_go (fun _ k => XS.land X124.here hx rfl (hb hby at_41) rfl k) ?_
  show own_Go p e below (T124.setTop (mkF m 42 #[.val (.long p1), .second, .val (.int p2), .val (.int p3), .val (.ref b120), .unset, .unset, .unset, .unset, .unset, .unset, .unset, .unset, .unset] [(.long (((p1.toUInt64 >>> ((16 : Int32) &&& 0x3f).toInt64.toUInt64).toInt64) &&& (255 : Int64))), (.int (2 : Int32)), (.ref b120)])) _
  refine own_go (fun _ k => XS.l2i X124.here hx rfl (hb hby at_42) rfl k) ?_
  show own_Go p e below (T124.setTop (mkF m 43 #[.val (.long p1), .second, .val (.int p2), .val (.int p3), .val (.ref b120), .unset, .unset, .unset, .unset, .unset, .unset, .unset, .unset, .unset] [(.int ((((p1.toUInt64 >>> ((16 : Int32) &&& 0x3f).toInt64.toUInt64).toInt64) &&& (255 : Int64)).toInt32)), (.int (2 : Int32)), (.ref b120)])) _
  refine own_go (fun _ k => XS.i2c X124.here hx rfl (hb hby at_43) rfl k) ?_
  show own_Go p e below (T124.setTop (mkF m 44 #[.val (.long p1), .second, .val (.int p2), .val (.int p3), .val (.ref b120), .unset, .unset, .unset, .unset, .unset, .unset, .unset, .unset, .unset] [(.int (((((p1.toUInt64 >>> ((16 : Int32) &&& 0x3f).toInt64.toUInt64).toInt64) &&& (255 : Int64)).toInt32).toUInt32.toUInt16.toUInt32.toInt32)), (.int (2 : Int32)), (.ref b120)])) _
  obtain ⟨c125, A125, q125, S125, M125, Hs125, Gs125⟩ := id V124
  obtain ⟨T126, h126, X126, e126, W126, st126⟩ := stC X124 hx hZ e124 A125 (j := (2 : Int32)) (inb_of S125 ⟨by decide, by decide⟩) (g := (mkF m 44 #[.val (.long p1), .second, .val (.int p2), .val (.int p3), .val (.ref b120), .unset, .unset, .unset, .unset, .unset, .unset, .unset, .unset, .unset] [(.int (((((p1.toUInt64 >>> ((16 : Int32) &&& 0x3f).toInt64.toUInt64).toInt64) &&& (255 : Int64)).toInt32).toUInt32.toUInt16.toUInt32.toInt32)), (.int (2 : Int32)), (.ref b120)])) rfl rfl (hb hby at_44)
  refine own_go st126 ?_
  have N126 := Fr.snoc X126 N124 (Nat.le_trans Z0 (Nat.le_of_eq g120.symm))
  have V126 : Arv Z h126 b120 k120 .char (7 : Int32) [(.int (own_c0 p1)), (.int (own_c p1 8)), (.int (own_c p1 16)), (.int (0 : Int32)), (.int (0 : Int32)), (.int (0 : Int32)), (.int (0 : Int32))] (.int (0 : Int32)) := Arv.set A125 q125 S125 M125 Hs125 Gs125 (fits_nar_char _) W126 2 rfl (Nat.le_of_ble_eq_true rfl)
  show own_Go p e below (T126.setTop (mkF m 45 #[.val (.long p1), .second, .val (.int p2), .val (.int p3), .val (.ref b120), .unset, .unset, .unset, .unset, .unset, .unset, .unset, .unset, .unset] [])) _
  refine own_go (fun _ k => XS.aload X126.here hx rfl (hb hby at_45) rfl rfl k) ?_
  show own_Go p e below (T126.setTop (mkF m 47 #[.val (.long p1), .second, .val (.int p2), .val (.int p3), .val (.ref b120), .unset, .unset, .unset, .unset, .unset, .unset, .unset, .unset, .unset] [(.ref b120)])) _
  refine own_go (fun _ k => XS.iconst X126.here hx rfl (hb hby at_47) k) ?_
  show own_Go p e below (T126.setTop (mkF m 48 #[.val (.long p1), .second, .val (.int p2), .val (.int p3), .val (.ref b120), .unset, .unset, .unset, .unset, .unset, .unset, .unset, .unset, .unset] [(.int (3 : Int32)), (.ref b120)])) _
  refine own_go (fun _ k => XS.lloadN X126.here hx rfl (hb hby at_48) rfl k) ?_
  show own_Go p e below (T126.setTop (mkF m 49 #[.val (.long p1), .second, .val (.int p2), .val (.int p3), .val (.ref b120), .unset, .unset, .unset, .unset, .unset, .unset, .unset, .unset, .unset] [(.long p1), (.int (3 : Int32)), (.ref b120)])) _
  refine own_go (fun _ k => XS.bipush X126.here hx rfl (hb hby at_49) k) ?_
  show own_Go p e below (T126.setTop (mkF m 51 #[.val (.long p1), .second, .val (.int p2), .val (.int p3), .val (.ref b120), .unset, .unset, .unset, .unset, .unset, .unset, .unset, .unset, .unset] [(.int (24 : Int32)), (.long p1), (.int (3 : Int32)), (.ref b120)])) _
  refine own_go (fun _ k => XS.lushr X126.here hx rfl (hb hby at_51) rfl k) ?_
  show own_Go p e below (T126.setTop (mkF m 52 #[.val (.long p1), .second, .val (.int p2), .val (.int p3), .val (.ref b120), .unset, .unset, .unset, .unset, .unset, .unset, .unset, .unset, .unset] [(.long ((p1.toUInt64 >>> ((24 : Int32) &&& 0x3f).toInt64.toUInt64).toInt64)), (.int (3 : Int32)), (.ref b120)])) _
  refine own_go (fun _ k => X126.ldc2Long hx hown (mvT hZ (hw _ (List.mem_of_getElem? (i := 1) rfl))) (g := (mkF m 52 #[.val (.long p1), .second, .val (.int p2), .val (.int p3), .val (.ref b120), .unset, .unset, .unset, .unset, .unset, .unset, .unset, .unset, .unset] [(.long ((p1.toUInt64 >>> ((24 : Int32) &&& 0x3f).toInt64.toUInt64).toInt64)), (.int (3 : Int32)), (.ref b120)])) rfl (hb hby at_52) _ k) ?_
  show own_Go p e below (T126.setTop (mkF m 55 #[.val (.long p1), .second, .val (.int p2), .val (.int p3), .val (.ref b120), .unset, .unset, .unset, .unset, .unset, .unset, .unset, .unset, .unset] [(.long (255 : Int64)), (.long ((p1.toUInt64 >>> ((24 : Int32) &&& 0x3f).toInt64.toUInt64).toInt64)), (.int (3 : Int32)), (.ref b120)])) _
  refine own_go (fun _ k => XS.land X126.here hx rfl (hb hby at_55) rfl k) ?_
  show own_Go p e below (T126.setTop (mkF m 56 #[.val (.long p1), .second, .val (.int p2), .val (.int p3), .val (.ref b120), .unset, .unset, .unset, .unset, .unset, .unset, .unset, .unset, .unset] [(.long (((p1.toUInt64 >>> ((24 : Int32) &&& 0x3f).toInt64.toUInt64).toInt64) &&& (255 : Int64))), (.int (3 : Int32)), (.ref b120)])) _
  refine own_go (fun _ k => XS.l2i X126.here hx rfl (hb hby at_56) rfl k) ?_
  show own_Go p e below (T126.setTop (mkF m 57 #[.val (.long p1), .second, .val (.int p2), .val (.int p3), .val (.ref b120), .unset, .unset, .unset, .unset, .unset, .unset, .unset, .unset, .unset] [(.int ((((p1.toUInt64 >>> ((24 : Int32) &&& 0x3f).toInt64.toUInt64).toInt64) &&& (255 : Int64)).toInt32)), (.int (3 : Int32)), (.ref b120)])) _
  refine own_go (fun _ k => XS.i2c X126.here hx rfl (hb hby at_57) rfl k) ?_
  show own_Go p e below (T126.setTop (mkF m 58 #[.val (.long p1), .second, .val (.int p2), .val (.int p3), .val (.ref b120), .unset, .unset, .unset, .unset, .unset, .unset, .unset, .unset, .unset] [(.int (((((p1.toUInt64 >>> ((24 : Int32) &&& 0x3f).toInt64.toUInt64).toInt64) &&& (255 : Int64)).toInt32).toUInt32.toUInt16.toUInt32.toInt32)), (.int (3 : Int32)), (.ref b120)])) _
  obtain ⟨c127, A127, q127, S127, M127, Hs127, Gs127⟩ := id V126
  obtain ⟨T128, h128, X128, e128, W128, st128⟩ := stC X126 hx hZ e126 A127 (j := (3 : Int32)) (inb_of S127 ⟨by decide, by decide⟩) (g := (mkF m 58 #[.val (.long p1), .second, .val (.int p2), .val (.int p3), .val (.ref b120), .unset, .unset, .unset, .unset, .unset, .unset, .unset, .unset, .unset] [(.int (((((p1.toUInt64 >>> ((24 : Int32) &&& 0x3f).toInt64.toUInt64).toInt64) &&& (255 : Int64)).toInt32).toUInt32.toUInt16.toUInt32.toInt32)), (.int (3 : Int32)), (.ref b120)])) rfl rfl (hb hby at_58)
  refine own_go st128 ?_
  have N128 := Fr.snoc X128 N126 (Nat.le_trans Z0 (Nat.le_of_eq g120.symm))
  have V128 : Arv Z h128 b120 k120 .char (7 : Int32) [(.int (own_c0 p1)), (.int (own_c p1 8)), (.int (own_c p1 16)), (.int (own_c p1 24)), (.int (0 : Int32)), (.int (0 : Int32)), (.int (0 : Int32))] (.int (0 : Int32)) := Arv.set A127 q127 S127 M127 Hs127 Gs127 (fits_nar_char _) W128 3 rfl (Nat.le_of_ble_eq_true rfl)
  show own_Go p e below (T128.setTop (mkF m 59 #[.val (.long p1), .second, .val (.int p2), .val (.int p3), .val (.ref b120), .unset, .unset, .unset, .unset, .unset, .unset, .unset, .unset, .unset] [])) _
  refine own_go (fun _ k => XS.aload X128.here hx rfl (hb hby at_59) rfl rfl k) ?_
  show own_Go p e below (T128.setTop (mkF m 61 #[.val (.long p1), .second, .val (.int p2), .val (.int p3), .val (.ref b120), .unset, .unset, .unset, .unset, .unset, .unset, .unset, .unset, .unset] [(.ref b120)])) _
  refine own_go (fun _ k => XS.iconst X128.here hx rfl (hb hby at_61) k) ?_
  show own_Go p e below (T128.setTop (mkF m 62 #[.val (.long p1), .second, .val (.int p2), .val (.int p3), .val (.ref b120), .unset, .unset, .unset, .unset, .unset, .unset, .unset, .unset, .unset] [(.int (4 : Int32)), (.ref b120)])) _
  refine own_go (fun _ k => XS.lloadN X128.here hx rfl (hb hby at_62) rfl k) ?_
  show own_Go p e below (T128.setTop (mkF m 63 #[.val (.long p1), .second, .val (.int p2), .val (.int p3), .val (.ref b120), .unset, .unset, .unset, .unset, .unset, .unset, .unset, .unset, .unset] [(.long p1), (.int (4 : Int32)), (.ref b120)])) _
  refine own_go (fun _ k => XS.bipush X128.here hx rfl (hb hby at_63) k) ?_
  show own_Go p e below (T128.setTop (mkF m 65 #[.val (.long p1), .second, .val (.int p2), .val (.int p3), .val (.ref b120), .unset, .unset, .unset, .unset, .unset, .unset, .unset, .unset, .unset] [(.int (32 : Int32)), (.long p1), (.int (4 : Int32)), (.ref b120)])) _
  refine own_go (fun _ k => XS.lushr X128.here hx rfl (hb hby at_65) rfl k) ?_
  show own_Go p e below (T128.setTop (mkF m 66 #[.val (.long p1), .second, .val (.int p2), .val (.int p3), .val (.ref b120), .unset, .unset, .unset, .unset, .unset, .unset, .unset, .unset, .unset] [(.long ((p1.toUInt64 >>> ((32 : Int32) &&& 0x3f).toInt64.toUInt64).toInt64)), (.int (4 : Int32)), (.ref b120)])) _
  refine own_go (fun _ k => X128.ldc2Long hx hown (mvT hZ (hw _ (List.mem_of_getElem? (i := 1) rfl))) (g := (mkF m 66 #[.val (.long p1), .second, .val (.int p2), .val (.int p3), .val (.ref b120), .unset, .unset, .unset, .unset, .unset, .unset, .unset, .unset, .unset] [(.long ((p1.toUInt64 >>> ((32 : Int32) &&& 0x3f).toInt64.toUInt64).toInt64)), (.int (4 : Int32)), (.ref b120)])) rfl (hb hby at_66) _ k) ?_
  show own_Go p e below (T128.setTop (mkF m 69 #[.val (.long p1), .second, .val (.int p2), .val (.int p3), .val (.ref b120), .unset, .unset, .unset, .unset, .unset, .unset, .unset, .unset, .unset] [(.long (255 : Int64)), (.long ((p1.toUInt64 >>> ((32 : Int32) &&& 0x3f).toInt64.toUInt64).toInt64)), (.int (4 : Int32)), (.ref b120)])) _
  refine own_go (fun _ k => XS.land X128.here hx rfl (hb hby at_69) rfl k) ?_
  show own_Go p e below (T128.setTop (mkF m 70 #[.val (.long p1), .second, .val (.int p2), .val (.int p3), .val (.ref b120), .unset, .unset, .unset, .unset, .unset, .unset, .unset, .unset, .unset] [(.long (((p1.toUInt64 >>> ((32 : Int32) &&& 0x3f).toInt64.toUInt64).toInt64) &&& (255 : Int64))), (.int (4 : Int32)), (.ref b120)])) _
  refine own_go (fun _ k => XS.l2i X128.here hx rfl (hb hby at_70) rfl k) ?_
  show own_Go p e below (T128.setTop (mkF m 71 #[.val (.long p1), .second, .val (.int p2), .val (.int p3), .val (.ref b120), .unset, .unset, .unset, .unset, .unset, .unset, .unset, .unset, .unset] [(.int ((((p1.toUInt64 >>> ((32 : Int32) &&& 0x3f).toInt64.toUInt64).toInt64) &&& (255 : Int64)).toInt32)), (.int (4 : Int32)), (.ref b120)])) _
  refine own_go (fun _ k => XS.i2c X128.here hx rfl (hb hby at_71) rfl k) ?_
  show own_Go p e below (T128.setTop (mkF m 72 #[.val (.long p1), .second, .val (.int p2), .val (.int p3), .val (.ref b120), .unset, .unset, .unset, .unset, .unset, .unset, .unset, .unset, .unset] [(.int (((((p1.toUInt64 >>> ((32 : Int32) &&& 0x3f).toInt64.toUInt64).toInt64) &&& (255 : Int64)).toInt32).toUInt32.toUInt16.toUInt32.toInt32)), (.int (4 : Int32)), (.ref b120)])) _
  obtain ⟨c129, A129, q129, S129, M129, Hs129, Gs129⟩ := id V128
  obtain ⟨T130, h130, X130, e130, W130, st130⟩ := stC X128 hx hZ e128 A129 (j := (4 : Int32)) (inb_of S129 ⟨by decide, by decide⟩) (g := (mkF m 72 #[.val (.long p1), .second, .val (.int p2), .val (.int p3), .val (.ref b120), .unset, .unset, .unset, .unset, .unset, .unset, .unset, .unset, .unset] [(.int (((((p1.toUInt64 >>> ((32 : Int32) &&& 0x3f).toInt64.toUInt64).toInt64) &&& (255 : Int64)).toInt32).toUInt32.toUInt16.toUInt32.toInt32)), (.int (4 : Int32)), (.ref b120)])) rfl rfl (hb hby at_72)
  refine own_go st130 ?_
  have N130 := Fr.snoc X130 N128 (Nat.le_trans Z0 (Nat.le_of_eq g120.symm))
  have V130 : Arv Z h130 b120 k120 .char (7 : Int32) [(.int (own_c0 p1)), (.int (own_c p1 8)), (.int (own_c p1 16)), (.int (own_c p1 24)), (.int (own_c p1 32)), (.int (0 : Int32)), (.int (0 : Int32))] (.int (0 : Int32)) := Arv.set A129 q129 S129 M129 Hs129 Gs129 (fits_nar_char _) W130 4 rfl (Nat.le_of_ble_eq_true rfl)
  show own_Go p e below (T130.setTop (mkF m 73 #[.val (.long p1), .second, .val (.int p2), .val (.int p3), .val (.ref b120), .unset, .unset, .unset, .unset, .unset, .unset, .unset, .unset, .unset] [])) _
  refine own_go (fun _ k => XS.aload X130.here hx rfl (hb hby at_73) rfl rfl k) ?_
  show own_Go p e below (T130.setTop (mkF m 75 #[.val (.long p1), .second, .val (.int p2), .val (.int p3), .val (.ref b120), .unset, .unset, .unset, .unset, .unset, .unset, .unset, .unset, .unset] [(.ref b120)])) _
  refine own_go (fun _ k => XS.iconst X130.here hx rfl (hb hby at_75) k) ?_
  show own_Go p e below (T130.setTop (mkF m 76 #[.val (.long p1), .second, .val (.int p2), .val (.int p3), .val (.ref b120), .unset, .unset, .unset, .unset, .unset, .unset, .unset, .unset, .unset] [(.int (5 : Int32)), (.ref b120)])) _
  refine own_go (fun _ k => XS.lloadN X130.here hx rfl (hb hby at_76) rfl k) ?_
  show own_Go p e below (T130.setTop (mkF m 77 #[.val (.long p1), .second, .val (.int p2), .val (.int p3), .val (.ref b120), .unset, .unset, .unset, .unset, .unset, .unset, .unset, .unset, .unset] [(.long p1), (.int (5 : Int32)), (.ref b120)])) _
  refine own_go (fun _ k => XS.bipush X130.here hx rfl (hb hby at_77) k) ?_
  show own_Go p e below (T130.setTop (mkF m 79 #[.val (.long p1), .second, .val (.int p2), .val (.int p3), .val (.ref b120), .unset, .unset, .unset, .unset, .unset, .unset, .unset, .unset, .unset] [(.int (40 : Int32)), (.long p1), (.int (5 : Int32)), (.ref b120)])) _
  refine own_go (fun _ k => XS.lushr X130.here hx rfl (hb hby at_79) rfl k) ?_
  show own_Go p e below (T130.setTop (mkF m 80 #[.val (.long p1), .second, .val (.int p2), .val (.int p3), .val (.ref b120), .unset, .unset, .unset, .unset, .unset, .unset, .unset, .unset, .unset] [(.long ((p1.toUInt64 >>> ((40 : Int32) &&& 0x3f).toInt64.toUInt64).toInt64)), (.int (5 : Int32)), (.ref b120)])) _
  refine own_go (fun _ k => X130.ldc2Long hx hown (mvT hZ (hw _ (List.mem_of_getElem? (i := 1) rfl))) (g := (mkF m 80 #[.val (.long p1), .second, .val (.int p2), .val (.int p3), .val (.ref b120), .unset, .unset, .unset, .unset, .unset, .unset, .unset, .unset, .unset] [(.long ((p1.toUInt64 >>> ((40 : Int32) &&& 0x3f).toInt64.toUInt64).toInt64)), (.int (5 : Int32)), (.ref b120)])) rfl (hb hby at_80) _ k) ?_
  show own_Go p e below (T130.setTop (mkF m 83 #[.val (.long p1), .second, .val (.int p2), .val (.int p3), .val (.ref b120), .unset, .unset, .unset, .unset, .unset, .unset, .unset, .unset, .unset] [(.long (255 : Int64)), (.long ((p1.toUInt64 >>> ((40 : Int32) &&& 0x3f).toInt64.toUInt64).toInt64)), (.int (5 : Int32)), (.ref b120)])) _
  refine own_go (fun _ k => XS.land X130.here hx rfl (hb hby at_83) rfl k) ?_
  show own_Go p e below (T130.setTop (mkF m 84 #[.val (.long p1), .second, .val (.int p2), .val (.int p3), .val (.ref b120), .unset, .unset, .unset, .unset, .unset, .unset, .unset, .unset, .unset] [(.long (((p1.toUInt64 >>> ((40 : Int32) &&& 0x3f).toInt64.toUInt64).toInt64) &&& (255 : Int64))), (.int (5 : Int32)), (.ref b120)])) _
  refine own_go (fun _ k => XS.l2i X130.here hx rfl (hb hby at_84) rfl k) ?_
  show own_Go p e below (T130.setTop (mkF m 85 #[.val (.long p1), .second, .val (.int p2), .val (.int p3), .val (.ref b120), .unset, .unset, .unset, .unset, .unset, .unset, .unset, .unset, .unset] [(.int ((((p1.toUInt64 >>> ((40 : Int32) &&& 0x3f).toInt64.toUInt64).toInt64) &&& (255 : Int64)).toInt32)), (.int (5 : Int32)), (.ref b120)])) _
  refine own_go (fun _ k => XS.i2c X130.here hx rfl (hb hby at_85) rfl k) ?_
  show own_Go p e below (T130.setTop (mkF m 86 #[.val (.long p1), .second, .val (.int p2), .val (.int p3), .val (.ref b120), .unset, .unset, .unset, .unset, .unset, .unset, .unset, .unset, .unset] [(.int (((((p1.toUInt64 >>> ((40 : Int32) &&& 0x3f).toInt64.toUInt64).toInt64) &&& (255 : Int64)).toInt32).toUInt32.toUInt16.toUInt32.toInt32)), (.int (5 : Int32)), (.ref b120)])) _
  obtain ⟨c131, A131, q131, S131, M131, Hs131, Gs131⟩ := id V130
  obtain ⟨T132, h132, X132, e132, W132, st132⟩ := stC X130 hx hZ e130 A131 (j := (5 : Int32)) (inb_of S131 ⟨by decide, by decide⟩) (g := (mkF m 86 #[.val (.long p1), .second, .val (.int p2), .val (.int p3), .val (.ref b120), .unset, .unset, .unset, .unset, .unset, .unset, .unset, .unset, .unset] [(.int (((((p1.toUInt64 >>> ((40 : Int32) &&& 0x3f).toInt64.toUInt64).toInt64) &&& (255 : Int64)).toInt32).toUInt32.toUInt16.toUInt32.toInt32)), (.int (5 : Int32)), (.ref b120)])) rfl rfl (hb hby at_86)
  refine own_go st132 ?_
  have N132 := Fr.snoc X132 N130 (Nat.le_trans Z0 (Nat.le_of_eq g120.symm))
  have V132 : Arv Z h132 b120 k120 .char (7 : Int32) [(.int (own_c0 p1)), (.int (own_c p1 8)), (.int (own_c p1 16)), (.int (own_c p1 24)), (.int (own_c p1 32)), (.int (own_c p1 40)), (.int (0 : Int32))] (.int (0 : Int32)) := Arv.set A131 q131 S131 M131 Hs131 Gs131 (fits_nar_char _) W132 5 rfl (Nat.le_of_ble_eq_true rfl)
  show own_Go p e below (T132.setTop (mkF m 87 #[.val (.long p1), .second, .val (.int p2), .val (.int p3), .val (.ref b120), .unset, .unset, .unset, .unset, .unset, .unset, .unset, .unset, .unset] [])) _
  refine own_go (fun _ k => XS.aload X132.here hx rfl (hb hby at_87) rfl rfl k) ?_
  show own_Go p e below (T132.setTop (mkF m 89 #[.val (.long p1), .second, .val (.int p2), .val (.int p3), .val (.ref b120), .unset, .unset, .unset, .unset, .unset, .unset, .unset, .unset, .unset] [(.ref b120)])) _
  refine own_go (fun _ k => XS.bipush X132.here hx rfl (hb hby at_89) k) ?_
  show own_Go p e below (T132.setTop (mkF m 91 #[.val (.long p1), .second, .val (.int p2), .val (.int p3), .val (.ref b120), .unset, .unset, .unset, .unset, .unset, .unset, .unset, .unset, .unset] [(.int (6 : Int32)), (.ref b120)])) _
  refine own_go (fun _ k => XS.lloadN X132.here hx rfl (hb hby at_91) rfl k) ?_
  show own_Go p e below (T132.setTop (mkF m 92 #[.val (.long p1), .second, .val (.int p2), .val (.int p3), .val (.ref b120), .unset, .unset, .unset, .unset, .unset, .unset, .unset, .unset, .unset] [(.long p1), (.int (6 : Int32)), (.ref b120)])) _
  refine own_go (fun _ k => XS.bipush X132.here hx rfl (hb hby at_92) k) ?_
  show own_Go p e below (T132.setTop (mkF m 94 #[.val (.long p1), .second, .val (.int p2), .val (.int p3), .val (.ref b120), .unset, .unset, .unset, .unset, .unset, .unset, .unset, .unset, .unset] [(.int (48 : Int32)), (.long p1), (.int (6 : Int32)), (.ref b120)])) _
  refine own_go (fun _ k => XS.lushr X132.here hx rfl (hb hby at_94) rfl k) ?_
  show own_Go p e below (T132.setTop (mkF m 95 #[.val (.long p1), .second, .val (.int p2), .val (.int p3), .val (.ref b120), .unset, .unset, .unset, .unset, .unset, .unset, .unset, .unset, .unset] [(.long ((p1.toUInt64 >>> ((48 : Int32) &&& 0x3f).toInt64.toUInt64).toInt64)), (.int (6 : Int32)), (.ref b120)])) _
  refine own_go (fun _ k => X132.ldc2Long hx hown (mvT hZ (hw _ (List.mem_of_getElem? (i := 1) rfl))) (g := (mkF m 95 #[.val (.long p1), .second, .val (.int p2), .val (.int p3), .val (.ref b120), .unset, .unset, .unset, .unset, .unset, .unset, .unset, .unset, .unset] [(.long ((p1.toUInt64 >>> ((48 : Int32) &&& 0x3f).toInt64.toUInt64).toInt64)), (.int (6 : Int32)), (.ref b120)])) rfl (hb hby at_95) _ k) ?_
  show own_Go p e below (T132.setTop (mkF m 98 #[.val (.long p1), .second, .val (.int p2), .val (.int p3), .val (.ref b120), .unset, .unset, .unset, .unset, .unset, .unset, .unset, .unset, .unset] [(.long (255 : Int64)), (.long ((p1.toUInt64 >>> ((48 : Int32) &&& 0x3f).toInt64.toUInt64).toInt64)), (.int (6 : Int32)), (.ref b120)])) _
  refine own_go (fun _ k => XS.land X132.here hx rfl (hb hby at_98) rfl k) ?_
  show own_Go p e below (T132.setTop (mkF m 99 #[.val (.long p1), .second, .val (.int p2), .val (.int p3), .val (.ref b120), .unset, .unset, .unset, .unset, .unset, .unset, .unset, .unset, .unset] [(.long (((p1.toUInt64 >>> ((48 : Int32) &&& 0x3f).toInt64.toUInt64).toInt64) &&& (255 : Int64))), (.int (6 : Int32)), (.ref b120)])) _
  refine own_go (fun _ k => XS.l2i X132.here hx rfl (hb hby at_99) rfl k) ?_
  show own_Go p e below (T132.setTop (mkF m 100 #[.val (.long p1), .second, .val (.int p2), .val (.int p3), .val (.ref b120), .unset, .unset, .unset, .unset, .unset, .unset, .unset, .unset, .unset] [(.int ((((p1.toUInt64 >>> ((48 : Int32) &&& 0x3f).toInt64.toUInt64).toInt64) &&& (255 : Int64)).toInt32)), (.int (6 : Int32)), (.ref b120)])) _
  refine own_go (fun _ k => XS.i2c X132.here hx rfl (hb hby at_100) rfl k) ?_
  show own_Go p e below (T132.setTop (mkF m 101 #[.val (.long p1), .second, .val (.int p2), .val (.int p3), .val (.ref b120), .unset, .unset, .unset, .unset, .unset, .unset, .unset, .unset, .unset] [(.int (((((p1.toUInt64 >>> ((48 : Int32) &&& 0x3f).toInt64.toUInt64).toInt64) &&& (255 : Int64)).toInt32).toUInt32.toUInt16.toUInt32.toInt32)), (.int (6 : Int32)), (.ref b120)])) _
  obtain ⟨c133, A133, q133, S133, M133, Hs133, Gs133⟩ := id V132
  obtain ⟨T134, h134, X134, e134, W134, st134⟩ := stC X132 hx hZ e132 A133 (j := (6 : Int32)) (inb_of S133 ⟨by decide, by decide⟩) (g := (mkF m 101 #[.val (.long p1), .second, .val (.int p2), .val (.int p3), .val (.ref b120), .unset, .unset, .unset, .unset, .unset, .unset, .unset, .unset, .unset] [(.int (((((p1.toUInt64 >>> ((48 : Int32) &&& 0x3f).toInt64.toUInt64).toInt64) &&& (255 : Int64)).toInt32).toUInt32.toUInt16.toUInt32.toInt32)), (.int (6 : Int32)), (.ref b120)])) rfl rfl (hb hby at_101)
  refine own_go st134 ?_
  have N134 := Fr.snoc X134 N132 (Nat.le_trans Z0 (Nat.le_of_eq g120.symm))
  have V134 : Arv Z h134 b120 k120 .char (7 : Int32) [(.int (own_c0 p1)), (.int (own_c p1 8)), (.int (own_c p1 16)), (.int (own_c p1 24)), (.int (own_c p1 32)), (.int (own_c p1 40)), (.int (own_c p1 48))] (.int (0 : Int32)) := Arv.set A133 q133 S133 M133 Hs133 Gs133 (fits_nar_char _) W134 6 rfl (Nat.le_of_ble_eq_true rfl)
  show own_Go p e below (T134.setTop (mkF m 102 #[.val (.long p1), .second, .val (.int p2), .val (.int p3), .val (.ref b120), .unset, .unset, .unset, .unset, .unset, .unset, .unset, .unset, .unset] [])) _
  refine own_go (fun _ k => XS.iloadN X134.here hx rfl (hb hby at_102) rfl k) ?_
  show own_Go p e below (T134.setTop (mkF m 103 #[.val (.long p1), .second, .val (.int p2), .val (.int p3), .val (.ref b120), .unset, .unset, .unset, .unset, .unset, .unset, .unset, .unset, .unset] [(.int p2)])) _
  refine own_go (fun _ k => XS.sipush X134.here hx rfl (hb hby at_103) k) ?_
  show own_Go p e below (T134.setTop (mkF m 106 #[.val (.long p1), .second, .val (.int p2), .val (.int p3), .val (.ref b120), .unset, .unset, .unset, .unset, .unset, .unset, .unset, .unset, .unset] [(.int (255 : Int32)), (.int p2)])) _
  refine own_go (fun _ k => XS.iand X134.here hx rfl (hb hby at_106) rfl k) ?_
  show own_Go p e below (T134.setTop (mkF m 107 #[.val (.long p1), .second, .val (.int p2), .val (.int p3), .val (.ref b120), .unset, .unset, .unset, .unset, .unset, .unset, .unset, .unset, .unset] [(.int (p2 &&& (255 : Int32)))])) _
  refine own_go (fun _ k => XS.iconst X134.here hx rfl (hb hby at_107) k) ?_
  show own_Go p e below (T134.setTop (mkF m 108 #[.val (.long p1), .second, .val (.int p2), .val (.int p3), .val (.ref b120), .unset, .unset, .unset, .unset, .unset, .unset, .unset, .unset, .unset] [(.int (3 : Int32)), (.int (p2 &&& (255 : Int32)))])) _
  refine own_go (fun _ k => Jvm.RoadKit.iremM (g := (mkF m 108 #[.val (.long p1), .second, .val (.int p2), .val (.int p3), .val (.ref b120), .unset, .unset, .unset, .unset, .unset, .unset, .unset, .unset, .unset] [(.int (3 : Int32)), (.int (p2 &&& (255 : Int32)))])) X134 hx rfl (hb hby at_108) rfl (by decide) k) ?_
  show own_Go p e below (T134.setTop (mkF m 109 #[.val (.long p1), .second, .val (.int p2), .val (.int p3), .val (.ref b120), .unset, .unset, .unset, .unset, .unset, .unset, .unset, .unset, .unset] [(.int ((p2 &&& (255 : Int32)) % (3 : Int32)))])) _
  refine own_go (fun _ k => XS.istore X134.here hx rfl (hb hby at_109) rfl (l' := #[.val (.long p1), .second, .val (.int p2), .val (.int p3), .val (.ref b120), .val (.int ((p2 &&& (255 : Int32)) % (3 : Int32))), .unset, .unset, .unset, .unset, .unset, .unset, .unset, .unset]) rfl k) ?_
  show own_Go p e below (T134.setTop (mkF m 111 #[.val (.long p1), .second, .val (.int p2), .val (.int p3), .val (.ref b120), .val (.int ((p2 &&& (255 : Int32)) % (3 : Int32))), .unset, .unset, .unset, .unset, .unset, .unset, .unset, .unset] [])) _
  refine own_go (fun _ k => XS.iloadN X134.here hx rfl (hb hby at_111) rfl k) ?_
  show own_Go p e below (T134.setTop (mkF m 112 #[.val (.long p1), .second, .val (.int p2), .val (.int p3), .val (.ref b120), .val (.int ((p2 &&& (255 : Int32)) % (3 : Int32))), .unset, .unset, .unset, .unset, .unset, .unset, .unset, .unset] [(.int p2)])) _
  refine own_go (fun _ k => XS.bipush X134.here hx rfl (hb hby at_112) k) ?_
  show own_Go p e below (T134.setTop (mkF m 114 #[.val (.long p1), .second, .val (.int p2), .val (.int p3), .val (.ref b120), .val (.int ((p2 &&& (255 : Int32)) % (3 : Int32))), .unset, .unset, .unset, .unset, .unset, .unset, .unset, .unset] [(.int (8 : Int32)), (.int p2)])) _
  refine own_go (fun _ k => XS.iushr X134.here hx rfl (hb hby at_114) rfl k) ?_
  show own_Go p e below (T134.setTop (mkF m 115 #[.val (.long p1), .second, .val (.int p2), .val (.int p3), .val (.ref b120), .val (.int ((p2 &&& (255 : Int32)) % (3 : Int32))), .unset, .unset, .unset, .unset, .unset, .unset, .unset, .unset] [(.int ((p2.toUInt32 >>> ((8 : Int32) &&& 31).toUInt32).toInt32))])) _
  refine own_go (fun _ k => XS.sipush X134.here hx rfl (hb hby at_115) k) ?_
  show own_Go p e below (T134.setTop (mkF m 118 #[.val (.long p1), .second, .val (.int p2), .val (.int p3), .val (.ref b120), .val (.int ((p2 &&& (255 : Int32)) % (3 : Int32))), .unset, .unset, .unset, .unset, .unset, .unset, .unset, .unset] [(.int (255 : Int32)), (.int ((p2.toUInt32 >>> ((8 : Int32) &&& 31).toUInt32).toInt32))])) _
  refine own_go (fun _ k => XS.iand X134.here hx rfl (hb hby at_118) rfl k) ?_
  show own_Go p e below (T134.setTop (mkF m 119 #[.val (.long p1), .second, .val (.int p2), .val (.int p3), .val (.ref b120), .val (.int ((p2 &&& (255 : Int32)) % (3 : Int32))), .unset, .unset, .unset, .unset, .unset, .unset, .unset, .unset] [(.int (((p2.toUInt32 >>> ((8 : Int32) &&& 31).toUInt32).toInt32) &&& (255 : Int32)))])) _
  refine own_go (fun _ k => XS.iconst X134.here hx rfl (hb hby at_119) k) ?_
  show own_Go p e below (T134.setTop (mkF m 120 #[.val (.long p1), .second, .val (.int p2), .val (.int p3), .val (.ref b120), .val (.int ((p2 &&& (255 : Int32)) % (3 : Int32))), .unset, .unset, .unset, .unset, .unset, .unset, .unset, .unset] [(.int (3 : Int32)), (.int (((p2.toUInt32 >>> ((8 : Int32) &&& 31).toUInt32).toInt32) &&& (255 : Int32)))])) _
  refine own_go (fun _ k => Jvm.RoadKit.iremM (g := (mkF m 120 #[.val (.long p1), .second, .val (.int p2), .val (.int p3), .val (.ref b120), .val (.int ((p2 &&& (255 : Int32)) % (3 : Int32))), .unset, .unset, .unset, .unset, .unset, .unset, .unset, .unset] [(.int (3 : Int32)), (.int (((p2.toUInt32 >>> ((8 : Int32) &&& 31).toUInt32).toInt32) &&& (255 : Int32)))])) X134 hx rfl (hb hby at_120) rfl (by decide) k) ?_
  show own_Go p e below (T134.setTop (mkF m 121 #[.val (.long p1), .second, .val (.int p2), .val (.int p3), .val (.ref b120), .val (.int ((p2 &&& (255 : Int32)) % (3 : Int32))), .unset, .unset, .unset, .unset, .unset, .unset, .unset, .unset] [(.int ((((p2.toUInt32 >>> ((8 : Int32) &&& 31).toUInt32).toInt32) &&& (255 : Int32)) % (3 : Int32)))])) _
  refine own_go (fun _ k => XS.istore X134.here hx rfl (hb hby at_121) rfl (l' := #[.val (.long p1), .second, .val (.int p2), .val (.int p3), .val (.ref b120), .val (.int ((p2 &&& (255 : Int32)) % (3 : Int32))), .val (.int ((((p2.toUInt32 >>> ((8 : Int32) &&& 31).toUInt32).toInt32) &&& (255 : Int32)) % (3 : Int32))), .unset, .unset, .unset, .unset, .unset, .unset, .unset]) rfl k) ?_
  show own_Go p e below (T134.setTop (mkF m 123 #[.val (.long p1), .second, .val (.int p2), .val (.int p3), .val (.ref b120), .val (.int ((p2 &&& (255 : Int32)) % (3 : Int32))), .val (.int ((((p2.toUInt32 >>> ((8 : Int32) &&& 31).toUInt32).toInt32) &&& (255 : Int32)) % (3 : Int32))), .unset, .unset, .unset, .unset, .unset, .unset, .unset] [])) _
  refine own_go (fun _ k => XS.iloadN X134.here hx rfl (hb hby at_123) rfl k) ?_
  show own_Go p e below (T134.setTop (mkF m 124 #[.val (.long p1), .second, .val (.int p2), .val (.int p3), .val (.ref b120), .val (.int ((p2 &&& (255 : Int32)) % (3 : Int32))), .val (.int ((((p2.toUInt32 >>> ((8 : Int32) &&& 31).toUInt32).toInt32) &&& (255 : Int32)) % (3 : Int32))), .unset, .unset, .unset, .unset, .unset, .unset, .unset] [(.int p2)])) _
  refine own_go (fun _ k => XS.bipush X134.here hx rfl (hb hby at_124) k) ?_
  show own_Go p e below (T134.setTop (mkF m 126 #[.val (.long p1), .second, .val (.int p2), .val (.int p3), .val (.ref b120), .val (.int ((p2 &&& (255 : Int32)) % (3 : Int32))), .val (.int ((((p2.toUInt32 >>> ((8 : Int32) &&& 31).toUInt32).toInt32) &&& (255 : Int32)) % (3 : Int32))), .unset, .unset, .unset, .unset, .unset, .unset, .unset] [(.int (16 : Int32)), (.int p2)])) _
  refine own_go (fun _ k => XS.iushr X134.here hx rfl (hb hby at_126) rfl k) ?_
  show own_Go p e below (T134.setTop (mkF m 127 #[.val (.long p1), .second, .val (.int p2), .val (.int p3), .val (.ref b120), .val (.int ((p2 &&& (255 : Int32)) % (3 : Int32))), .val (.int ((((p2.toUInt32 >>> ((8 : Int32) &&& 31).toUInt32).toInt32) &&& (255 : Int32)) % (3 : Int32))), .unset, .unset, .unset, .unset, .unset, .unset, .unset] [(.int ((p2.toUInt32 >>> ((16 : Int32) &&& 31).toUInt32).toInt32))])) _
  refine own_go (fun _ k => XS.sipush X134.here hx rfl (hb hby at_127) k) ?_
  show own_Go p e below (T134.setTop (mkF m 130 #[.val (.long p1), .second, .val (.int p2), .val (.int p3), .val (.ref b120), .val (.int ((p2 &&& (255 : Int32)) % (3 : Int32))), .val (.int ((((p2.toUInt32 >>> ((8 : Int32) &&& 31).toUInt32).toInt32) &&& (255 : Int32)) % (3 : Int32))), .unset, .unset, .unset, .unset, .unset, .unset, .unset] [(.int (255 : Int32)), (.int ((p2.toUInt32 >>> ((16 : Int32) &&& 31).toUInt32).toInt32))])) _
  refine own_go (fun _ k => XS.iand X134.here hx rfl (hb hby at_130) rfl k) ?_
  show own_Go p e below (T134.setTop (mkF m 131 #[.val (.long p1), .second, .val (.int p2), .val (.int p3), .val (.ref b120), .val (.int ((p2 &&& (255 : Int32)) % (3 : Int32))), .val (.int ((((p2.toUInt32 >>> ((8 : Int32) &&& 31).toUInt32).toInt32) &&& (255 : Int32)) % (3 : Int32))), .unset, .unset, .unset, .unset, .unset, .unset, .unset] [(.int (((p2.toUInt32 >>> ((16 : Int32) &&& 31).toUInt32).toInt32) &&& (255 : Int32)))])) _
  refine own_go (fun _ k => XS.iconst X134.here hx rfl (hb hby at_131) k) ?_
  show own_Go p e below (T134.setTop (mkF m 132 #[.val (.long p1), .second, .val (.int p2), .val (.int p3), .val (.ref b120), .val (.int ((p2 &&& (255 : Int32)) % (3 : Int32))), .val (.int ((((p2.toUInt32 >>> ((8 : Int32) &&& 31).toUInt32).toInt32) &&& (255 : Int32)) % (3 : Int32))), .unset, .unset, .unset, .unset, .unset, .unset, .unset] [(.int (3 : Int32)), (.int (((p2.toUInt32 >>> ((16 : Int32) &&& 31).toUInt32).toInt32) &&& (255 : Int32)))])) _
  refine own_go (fun _ k => Jvm.RoadKit.iremM (g := (mkF m 132 #[.val (.long p1), .second, .val (.int p2), .val (.int p3), .val (.ref b120), .val (.int ((p2 &&& (255 : Int32)) % (3 : Int32))), .val (.int ((((p2.toUInt32 >>> ((8 : Int32) &&& 31).toUInt32).toInt32) &&& (255 : Int32)) % (3 : Int32))), .unset, .unset, .unset, .unset, .unset, .unset, .unset] [(.int (3 : Int32)), (.int (((p2.toUInt32 >>> ((16 : Int32) &&& 31).toUInt32).toInt32) &&& (255 : Int32)))])) X134 hx rfl (hb hby at_132) rfl (by decide) k) ?_
  show own_Go p e below (T134.setTop (mkF m 133 #[.val (.long p1), .second, .val (.int p2), .val (.int p3), .val (.ref b120), .val (.int ((p2 &&& (255 : Int32)) % (3 : Int32))), .val (.int ((((p2.toUInt32 >>> ((8 : Int32) &&& 31).toUInt32).toInt32) &&& (255 : Int32)) % (3 : Int32))), .unset, .unset, .unset, .unset, .unset, .unset, .unset] [(.int ((((p2.toUInt32 >>> ((16 : Int32) &&& 31).toUInt32).toInt32) &&& (255 : Int32)) % (3 : Int32)))])) _
  refine own_go (fun _ k => XS.istore X134.here hx rfl (hb hby at_133) rfl (l' := #[.val (.long p1), .second, .val (.int p2), .val (.int p3), .val (.ref b120), .val (.int ((p2 &&& (255 : Int32)) % (3 : Int32))), .val (.int ((((p2.toUInt32 >>> ((8 : Int32) &&& 31).toUInt32).toInt32) &&& (255 : Int32)) % (3 : Int32))), .val (.int ((((p2.toUInt32 >>> ((16 : Int32) &&& 31).toUInt32).toInt32) &&& (255 : Int32)) % (3 : Int32))), .unset, .unset, .unset, .unset, .unset, .unset]) rfl k) ?_
  show own_Go p e below (T134.setTop (mkF m 135 #[.val (.long p1), .second, .val (.int p2), .val (.int p3), .val (.ref b120), .val (.int ((p2 &&& (255 : Int32)) % (3 : Int32))), .val (.int ((((p2.toUInt32 >>> ((8 : Int32) &&& 31).toUInt32).toInt32) &&& (255 : Int32)) % (3 : Int32))), .val (.int ((((p2.toUInt32 >>> ((16 : Int32) &&& 31).toUInt32).toInt32) &&& (255 : Int32)) % (3 : Int32))), .unset, .unset, .unset, .unset, .unset, .unset] [])) _
  obtain ⟨l0, h_l0⟩ : ∃ z, z = ((p2 &&& (255 : Int32)) % (3 : Int32)) := ⟨_, rfl⟩
  rw [← h_l0]
  obtain ⟨l1, h_l1⟩ : ∃ z, z = ((((p2.toUInt32 >>> ((8 : Int32) &&& 31).toUInt32).toInt32) &&& (255 : Int32)) % (3 : Int32)) := ⟨_, rfl⟩
  rw [← h_l1]
  obtain ⟨l2, h_l2⟩ : ∃ z, z = ((((p2.toUInt32 >>> ((16 : Int32) &&& 31).toUInt32).toInt32) &&& (255 : Int32)) % (3 : Int32)) := ⟨_, rfl⟩
  rw [← h_l2]
  show own_Go p e below (T134.setTop (mkF m 135 #[.val (.long p1), .second, .val (.int p2), .val (.int p3), .val (.ref b120), .val (.int l0), .val (.int l1), .val (.int l2), .unset, .unset, .unset, .unset, .unset, .unset] [])) _
  refine own_go (fun _ k => XS.iconst X134.here hx rfl (hb hby at_135) k) ?_
  show own_Go p e below (T134.setTop (mkF m 136 #[.val (.long p1), .second, .val (.int p2), .val (.int p3), .val (.ref b120), .val (.int l0), .val (.int l1), .val (.int l2), .unset, .unset, .unset, .unset, .unset, .unset] [(.int (3 : Int32))])) _
  obtain ⟨T135, h135, k135, X135, e135, E135, A135, st135⟩ := newP X134 hx hZ (hw _ (List.mem_of_getElem? (i := 2) rfl)) e134 (g := (mkF m 136 #[.val (.long p1), .second, .val (.int p2), .val (.int p3), .val (.ref b120), .val (.int l0), .val (.int l1), .val (.int l2), .unset, .unset, .unset, .unset, .unset, .unset] [(.int (3 : Int32))])) rfl (hb hby at_136) rfl (by decide) (cap := 3) (by decide) (by decide) (by decide) (by decide)
  obtain ⟨b135, g135⟩ : ∃ z, z = h134.size := ⟨_, rfl⟩
  rw [← g135] at A135 st135
  refine own_go st135 ?_
  have V135 : Arv Z h135 b135 k135 .int (3 : Int32) [(.int (0 : Int32)), (.int (0 : Int32)), (.int (0 : Int32))] (.int (0 : Int32)) := (Arv.new A135 (by decide)).pad (pad_rep [] (.int (0 : Int32)) 3)
  show own_Go p e below (T135.setTop (mkF m 138 #[.val (.long p1), .second, .val (.int p2), .val (.int p3), .val (.ref b120), .val (.int l0), .val (.int l1), .val (.int l2), .unset, .unset, .unset, .unset, .unset, .unset] [(.ref b135)])) _
  refine own_go (fun _ k => XS.astore X135.here hx rfl (hb hby at_138) rfl rfl (l' := #[.val (.long p1), .second, .val (.int p2), .val (.int p3), .val (.ref b120), .val (.int l0), .val (.int l1), .val (.int l2), .val (.ref b135), .unset, .unset, .unset, .unset, .unset]) rfl k) ?_
  show own_Go p e below (T135.setTop (mkF m 140 #[.val (.long p1), .second, .val (.int p2), .val (.int p3), .val (.ref b120), .val (.int l0), .val (.int l1), .val (.int l2), .val (.ref b135), .unset, .unset, .unset, .unset, .unset] [])) _
  refine own_go (fun _ k => XS.aload X135.here hx rfl (hb hby at_140) rfl rfl k) ?_
  show own_Go p e below (T135.setTop (mkF m 142 #[.val (.long p1), .second, .val (.int p2), .val (.int p3), .val (.ref b120), .val (.int l0), .val (.int l1), .val (.int l2), .val (.ref b135), .unset, .unset, .unset, .unset, .unset] [(.ref b135)])) _
  refine own_go (fun _ k => XS.iconst X135.here hx rfl (hb hby at_142) k) ?_
  show own_Go p e below (T135.setTop (mkF m 143 #[.val (.long p1), .second, .val (.int p2), .val (.int p3), .val (.ref b120), .val (.int l0), .val (.int l1), .val (.int l2), .val (.ref b135), .unset, .unset, .unset, .unset, .unset] [(.int (0 : Int32)), (.ref b135)])) _
  refine own_go (fun _ k => XS.iload X135.here hx rfl (hb hby at_143) rfl k) ?_
  show own_Go p e below (T135.setTop (mkF m 145 #[.val (.long p1), .second, .val (.int p2), .val (.int p3), .val (.ref b120), .val (.int l0), .val (.int l1), .val (.int l2), .val (.ref b135), .unset, .unset, .unset, .unset, .unset] [(.int l0), (.int (0 : Int32)), (.ref b135)])) _
  obtain ⟨c136, A136, q136, S136, M136, Hs136, Gs136⟩ := id V135
  obtain ⟨T137, h137, X137, e137, W137, st137⟩ := stI X135 hx hZ e135 A136 (j := (0 : Int32)) (inb_of S136 ⟨by decide, by decide⟩) (g := (mkF m 145 #[.val (.long p1), .second, .val (.int p2), .val (.int p3), .val (.ref b120), .val (.int l0), .val (.int l1), .val (.int l2), .val (.ref b135), .unset, .unset, .unset, .unset, .unset] [(.int l0), (.int (0 : Int32)), (.ref b135)])) rfl rfl (hb hby at_145)
  have z138 := (Nat.le_trans (Nat.le_trans (Nat.le_trans (Nat.le_trans (Nat.le_trans (Nat.le_trans (Nat.le_trans E120.1 (Keep.of_wr W122).1) (Keep.of_wr W124).1) (Keep.of_wr W126).1) (Keep.of_wr W128).1) (Keep.of_wr W130).1) (Keep.of_wr W132).1) (Keep.of_wr W134).1)
  refine own_go st137 ?_
  have N137 := Fr.snoc X137 N134 (Nat.le_trans Z0 (Nat.le_trans z138 (Nat.le_of_eq g135.symm)))
  have V137 : Arv Z h137 b135 k135 .int (3 : Int32) [(.int l0), (.int (0 : Int32)), (.int (0 : Int32))] (.int (0 : Int32)) := Arv.set A136 q136 S136 M136 Hs136 Gs136 rfl W137 0 rfl (Nat.le_of_ble_eq_true rfl)
  show own_Go p e below (T137.setTop (mkF m 146 #[.val (.long p1), .second, .val (.int p2), .val (.int p3), .val (.ref b120), .val (.int l0), .val (.int l1), .val (.int l2), .val (.ref b135), .unset, .unset, .unset, .unset, .unset] [])) _
  refine own_go (fun _ k => XS.aload X137.here hx rfl (hb hby at_146) rfl rfl k) ?_
  show own_Go p e below (T137.setTop (mkF m 148 #[.val (.long p1), .second, .val (.int p2), .val (.int p3), .val (.ref b120), .val (.int l0), .val (.int l1), .val (.int l2), .val (.ref b135), .unset, .unset, .unset, .unset, .unset] [(.ref b135)])) _
  refine own_go (fun _ k => XS.iconst X137.here hx rfl (hb hby at_148) k) ?_
  show own_Go p e below (T137.setTop (mkF m 149 #[.val (.long p1), .second, .val (.int p2), .val (.int p3), .val (.ref b120), .val (.int l0), .val (.int l1), .val (.int l2), .val (.ref b135), .unset, .unset, .unset, .unset, .unset] [(.int (1 : Int32)), (.ref b135)])) _
  refine own_go (fun _ k => XS.iload X137.here hx rfl (hb hby at_149) rfl k) ?_
  show own_Go p e below (T137.setTop (mkF m 151 #[.val (.long p1), .second, .val (.int p2), .val (.int p3), .val (.ref b120), .val (.int l0), .val (.int l1), .val (.int l2), .val (.ref b135), .unset, .unset, .unset, .unset, .unset] [(.int l0), (.int (1 : Int32)), (.ref b135)])) _
  refine own_go (fun _ k => XS.iload X137.here hx rfl (hb hby at_151) rfl k) ?_
  show own_Go p e below (T137.setTop (mkF m 153 #[.val (.long p1), .second, .val (.int p2), .val (.int p3), .val (.ref b120), .val (.int l0), .val (.int l1), .val (.int l2), .val (.ref b135), .unset, .unset, .unset, .unset, .unset] [(.int l1), (.int l0), (.int (1 : Int32)), (.ref b135)])) _
  refine own_go (fun _ k => XS.iadd X137.here hx rfl (hb hby at_153) rfl k) ?_
  show own_Go p e below (T137.setTop (mkF m 154 #[.val (.long p1), .second, .val (.int p2), .val (.int p3), .val (.ref b120), .val (.int l0), .val (.int l1), .val (.int l2), .val (.ref b135), .unset, .unset, .unset, .unset, .unset] [(.int (l0 + l1)), (.int (1 : Int32)), (.ref b135)])) _
  obtain ⟨c139, A139, q139, S139, M139, Hs139, Gs139⟩ := id V137
  obtain ⟨T140, h140, X140, e140, W140, st140⟩ := stI X137 hx hZ e137 A139 (j := (1 : Int32)) (inb_of S139 ⟨by decide, by decide⟩) (g := (mkF m 154 #[.val (.long p1), .second, .val (.int p2), .val (.int p3), .val (.ref b120), .val (.int l0), .val (.int l1), .val (.int l2), .val (.ref b135), .unset, .unset, .unset, .unset, .unset] [(.int (l0 + l1)), (.int (1 : Int32)), (.ref b135)])) rfl rfl (hb hby at_154)
  refine own_go st140 ?_
  have N140 := Fr.snoc X140 N137 (Nat.le_trans Z0 (Nat.le_trans z138 (Nat.le_of_eq g135.symm)))
  have V140 : Arv Z h140 b135 k135 .int (3 : Int32) [(.int l0), (.int (l0 + l1)), (.int (0 : Int32))] (.int (0 : Int32)) := Arv.set A139 q139 S139 M139 Hs139 Gs139 rfl W140 1 rfl (Nat.le_of_ble_eq_true rfl)
  show own_Go p e below (T140.setTop (mkF m 155 #[.val (.long p1), .second, .val (.int p2), .val (.int p3), .val (.ref b120), .val (.int l0), .val (.int l1), .val (.int l2), .val (.ref b135), .unset, .unset, .unset, .unset, .unset] [])) _
  refine own_go (fun _ k => XS.aload X140.here hx rfl (hb hby at_155) rfl rfl k) ?_
  show own_Go p e below (T140.setTop (mkF m 157 #[.val (.long p1), .second, .val (.int p2), .val (.int p3), .val (.ref b120), .val (.int l0), .val (.int l1), .val (.int l2), .val (.ref b135), .unset, .unset, .unset, .unset, .unset] [(.ref b135)])) _
  refine own_go (fun _ k => XS.iconst X140.here hx rfl (hb hby at_157) k) ?_
  show own_Go p e below (T140.setTop (mkF m 158 #[.val (.long p1), .second, .val (.int p2), .val (.int p3), .val (.ref b120), .val (.int l0), .val (.int l1), .val (.int l2), .val (.ref b135), .unset, .unset, .unset, .unset, .unset] [(.int (2 : Int32)), (.ref b135)])) _
  refine own_go (fun _ k => XS.iload X140.here hx rfl (hb hby at_158) rfl k) ?_
  show own_Go p e below (T140.setTop (mkF m 160 #[.val (.long p1), .second, .val (.int p2), .val (.int p3), .val (.ref b120), .val (.int l0), .val (.int l1), .val (.int l2), .val (.ref b135), .unset, .unset, .unset, .unset, .unset] [(.int l0), (.int (2 : Int32)), (.ref b135)])) _
  refine own_go (fun _ k => XS.iload X140.here hx rfl (hb hby at_160) rfl k) ?_
  show own_Go p e below (T140.setTop (mkF m 162 #[.val (.long p1), .second, .val (.int p2), .val (.int p3), .val (.ref b120), .val (.int l0), .val (.int l1), .val (.int l2), .val (.ref b135), .unset, .unset, .unset, .unset, .unset] [(.int l1), (.int l0), (.int (2 : Int32)), (.ref b135)])) _
  refine own_go (fun _ k => XS.iadd X140.here hx rfl (hb hby at_162) rfl k) ?_
  show own_Go p e below (T140.setTop (mkF m 163 #[.val (.long p1), .second, .val (.int p2), .val (.int p3), .val (.ref b120), .val (.int l0), .val (.int l1), .val (.int l2), .val (.ref b135), .unset, .unset, .unset, .unset, .unset] [(.int (l0 + l1)), (.int (2 : Int32)), (.ref b135)])) _
  refine own_go (fun _ k => XS.iload X140.here hx rfl (hb hby at_163) rfl k) ?_
  show own_Go p e below (T140.setTop (mkF m 165 #[.val (.long p1), .second, .val (.int p2), .val (.int p3), .val (.ref b120), .val (.int l0), .val (.int l1), .val (.int l2), .val (.ref b135), .unset, .unset, .unset, .unset, .unset] [(.int l2), (.int (l0 + l1)), (.int (2 : Int32)), (.ref b135)])) _
  refine own_go (fun _ k => XS.iadd X140.here hx rfl (hb hby at_165) rfl k) ?_
  show own_Go p e below (T140.setTop (mkF m 166 #[.val (.long p1), .second, .val (.int p2), .val (.int p3), .val (.ref b120), .val (.int l0), .val (.int l1), .val (.int l2), .val (.ref b135), .unset, .unset, .unset, .unset, .unset] [(.int ((l0 + l1) + l2)), (.int (2 : Int32)), (.ref b135)])) _
  obtain ⟨c141, A141, q141, S141, M141, Hs141, Gs141⟩ := id V140
  obtain ⟨T142, h142, X142, e142, W142, st142⟩ := stI X140 hx hZ e140 A141 (j := (2 : Int32)) (inb_of S141 ⟨by decide, by decide⟩) (g := (mkF m 166 #[.val (.long p1), .second, .val (.int p2), .val (.int p3), .val (.ref b120), .val (.int l0), .val (.int l1), .val (.int l2), .val (.ref b135), .unset, .unset, .unset, .unset, .unset] [(.int ((l0 + l1) + l2)), (.int (2 : Int32)), (.ref b135)])) rfl rfl (hb hby at_166)
  refine own_go st142 ?_
  have N142 := Fr.snoc X142 N140 (Nat.le_trans Z0 (Nat.le_trans z138 (Nat.le_of_eq g135.symm)))
  have V142 : Arv Z h142 b135 k135 .int (3 : Int32) [(.int l0), (.int (l0 + l1)), (.int ((l0 + l1) + l2))] (.int (0 : Int32)) := Arv.set A141 q141 S141 M141 Hs141 Gs141 rfl W142 2 rfl (Nat.le_of_ble_eq_true rfl)
  show own_Go p e below (T142.setTop (mkF m 167 #[.val (.long p1), .second, .val (.int p2), .val (.int p3), .val (.ref b120), .val (.int l0), .val (.int l1), .val (.int l2), .val (.ref b135), .unset, .unset, .unset, .unset, .unset] [])) _
  refine own_go (fun _ k => XS.iloadN X142.here hx rfl (hb hby at_167) rfl k) ?_
  show own_Go p e below (T142.setTop (mkF m 168 #[.val (.long p1), .second, .val (.int p2), .val (.int p3), .val (.ref b120), .val (.int l0), .val (.int l1), .val (.int l2), .val (.ref b135), .unset, .unset, .unset, .unset, .unset] [(.int p3)])) _
  refine own_go (fun _ k => X142.ldcInt hx hown (mvT hZ (hw _ (List.mem_of_getElem? (i := 3) rfl))) (g := (mkF m 168 #[.val (.long p1), .second, .val (.int p2), .val (.int p3), .val (.ref b120), .val (.int l0), .val (.int l1), .val (.int l2), .val (.ref b135), .unset, .unset, .unset, .unset, .unset] [(.int p3)])) rfl (hb hby at_168) _ k) ?_
  show own_Go p e below (T142.setTop (mkF m 170 #[.val (.long p1), .second, .val (.int p2), .val (.int p3), .val (.ref b120), .val (.int l0), .val (.int l1), .val (.int l2), .val (.ref b135), .unset, .unset, .unset, .unset, .unset] [(.int (2147483647 : Int32)), (.int p3)])) _
  refine own_go (fun _ k => XS.iand X142.here hx rfl (hb hby at_170) rfl k) ?_
  show own_Go p e below (T142.setTop (mkF m 171 #[.val (.long p1), .second, .val (.int p2), .val (.int p3), .val (.ref b120), .val (.int l0), .val (.int l1), .val (.int l2), .val (.ref b135), .unset, .unset, .unset, .unset, .unset] [(.int (p3 &&& (2147483647 : Int32)))])) _
  refine own_go (fun _ k => XS.iconst X142.here hx rfl (hb hby at_171) k) ?_
  show own_Go p e below (T142.setTop (mkF m 172 #[.val (.long p1), .second, .val (.int p2), .val (.int p3), .val (.ref b120), .val (.int l0), .val (.int l1), .val (.int l2), .val (.ref b135), .unset, .unset, .unset, .unset, .unset] [(.int (3 : Int32)), (.int (p3 &&& (2147483647 : Int32)))])) _
  refine own_go (fun _ k => Jvm.RoadKit.iremM (g := (mkF m 172 #[.val (.long p1), .second, .val (.int p2), .val (.int p3), .val (.ref b120), .val (.int l0), .val (.int l1), .val (.int l2), .val (.ref b135), .unset, .unset, .unset, .unset, .unset] [(.int (3 : Int32)), (.int (p3 &&& (2147483647 : Int32)))])) X142 hx rfl (hb hby at_172) rfl (by decide) k) ?_
  show own_Go p e below (T142.setTop (mkF m 173 #[.val (.long p1), .second, .val (.int p2), .val (.int p3), .val (.ref b120), .val (.int l0), .val (.int l1), .val (.int l2), .val (.ref b135), .unset, .unset, .unset, .unset, .unset] [(.int ((p3 &&& (2147483647 : Int32)) % (3 : Int32)))])) _
  refine own_go (fun _ k => XS.istore X142.here hx rfl (hb hby at_173) rfl (l' := #[.val (.long p1), .second, .val (.int p2), .val (.int p3), .val (.ref b120), .val (.int l0), .val (.int l1), .val (.int l2), .val (.ref b135), .val (.int ((p3 &&& (2147483647 : Int32)) % (3 : Int32))), .unset, .unset, .unset, .unset]) rfl k) ?_
  show own_Go p e below (T142.setTop (mkF m 175 #[.val (.long p1), .second, .val (.int p2), .val (.int p3), .val (.ref b120), .val (.int l0), .val (.int l1), .val (.int l2), .val (.ref b135), .val (.int ((p3 &&& (2147483647 : Int32)) % (3 : Int32))), .unset, .unset, .unset, .unset] [])) _
  obtain ⟨ix, h_ix⟩ : ∃ z, z = ((p3 &&& (2147483647 : Int32)) % (3 : Int32)) := ⟨_, rfl⟩
  rw [← h_ix]
  show own_Go p e below (T142.setTop (mkF m 175 #[.val (.long p1), .second, .val (.int p2), .val (.int p3), .val (.ref b120), .val (.int l0), .val (.int l1), .val (.int l2), .val (.ref b135), .val (.int ix), .unset, .unset, .unset, .unset] [])) _
  obtain ⟨T143, h143, X143, e143, E143, A143, D143, U143, st143⟩ := newO X142 hx hZ hown (hw _ (List.mem_of_getElem? (i := 4) rfl)) (hw _ (List.mem_of_getElem? (i := 5) rfl)) (hw _ (List.mem_of_getElem? (i := 6) rfl)) e142 (g := (mkF m 175 #[.val (.long p1), .second, .val (.int p2), .val (.int p3), .val (.ref b120), .val (.int l0), .val (.int l1), .val (.int l2), .val (.ref b135), .val (.int ix), .unset, .unset, .unset, .unset] [])) rfl (hb hby at_175) (by decide) (by decide)
  obtain ⟨b143, g143⟩ : ∃ z, z = h142.size := ⟨_, rfl⟩
  rw [← g143] at A143 D143 U143 st143
  refine own_go st143 ?_
  have F143_text : Fld Z h143 b143 "com/example/sequela/sequela/Fields" "text" "Ljava/lang/String;" .null := D143 (Or.inr (hw _ (List.mem_of_getElem? (i := 46) rfl))) (ty := (.object "java/lang/String")) (by decide)
  have F143_ends : Fld Z h143 b143 "com/example/sequela/sequela/Fields" "ends" "[I" .null := D143 (Or.inr (hw _ (List.mem_of_getElem? (i := 48) rfl))) (ty := (.array .int)) (by decide)
  show own_Go p e below (T143.setTop (mkF m 178 #[.val (.long p1), .second, .val (.int p2), .val (.int p3), .val (.ref b120), .val (.int l0), .val (.int l1), .val (.int l2), .val (.ref b135), .val (.int ix), .unset, .unset, .unset, .unset] [(.ref b143)])) _
  refine own_go (fun _ k => XS.dup X143.here hx rfl (hb hby at_178) rfl rfl k) ?_
  show own_Go p e below (T143.setTop (mkF m 179 #[.val (.long p1), .second, .val (.int p2), .val (.int p3), .val (.ref b120), .val (.int l0), .val (.int l1), .val (.int l2), .val (.ref b135), .val (.int ix), .unset, .unset, .unset, .unset] [(.ref b143), (.ref b143)])) _
  obtain ⟨T144, h144, X144, e144, E144, A144, D144, U144, st144⟩ := newO X143 hx hZ hown (hw _ (List.mem_of_getElem? (i := 7) rfl)) (hw _ (List.mem_of_getElem? (i := 8) rfl)) (hw _ (List.mem_of_getElem? (i := 9) rfl)) e143 (g := (mkF m 179 #[.val (.long p1), .second, .val (.int p2), .val (.int p3), .val (.ref b120), .val (.int l0), .val (.int l1), .val (.int l2), .val (.ref b135), .val (.int ix), .unset, .unset, .unset, .unset] [(.ref b143), (.ref b143)])) rfl (hb hby at_179) (by decide) (by decide)
  obtain ⟨b144, g144⟩ : ∃ z, z = h143.size := ⟨_, rfl⟩
  rw [← g144] at A144 D144 U144 st144
  refine own_go st144 ?_
  have F144_coder : Fld Z h144 b144 "java/lang/String" "coder" "B" (.int (0 : Int32)) := D144 (Or.inr (hw _ (List.mem_of_getElem? (i := 33) rfl))) (ty := .byte) (by decide)
  have F144_value : Fld Z h144 b144 "java/lang/String" "value" "[B" .null := D144 (Or.inr (hw _ (List.mem_of_getElem? (i := 35) rfl))) (ty := (.array .byte)) (by decide)
  show own_Go p e below (T144.setTop (mkF m 182 #[.val (.long p1), .second, .val (.int p2), .val (.int p3), .val (.ref b120), .val (.int l0), .val (.int l1), .val (.int l2), .val (.ref b135), .val (.int ix), .unset, .unset, .unset, .unset] [(.ref b144), (.ref b143), (.ref b143)])) _
  refine own_go (fun _ k => XS.dup X144.here hx rfl (hb hby at_182) rfl rfl k) ?_
  show own_Go p e below (T144.setTop (mkF m 183 #[.val (.long p1), .second, .val (.int p2), .val (.int p3), .val (.ref b120), .val (.int l0), .val (.int l1), .val (.int l2), .val (.ref b135), .val (.int ix), .unset, .unset, .unset, .unset] [(.ref b144), (.ref b144), (.ref b143), (.ref b143)])) _
  refine own_go (fun _ k => XS.aload X144.here hx rfl (hb hby at_183) rfl rfl k) ?_
  show own_Go p e below (T144.setTop (mkF m 185 #[.val (.long p1), .second, .val (.int p2), .val (.int p3), .val (.ref b120), .val (.int l0), .val (.int l1), .val (.int l2), .val (.ref b135), .val (.int ix), .unset, .unset, .unset, .unset] [(.ref b120), (.ref b144), (.ref b144), (.ref b143), (.ref b143)])) _
  have f145 := ((((((((((((((O0.ext E120).wr W122 (Nat.le_trans Z0 (Nat.le_of_eq g120.symm))).wr W124 (Nat.le_trans Z0 (Nat.le_of_eq g120.symm))).wr W126 (Nat.le_trans Z0 (Nat.le_of_eq g120.symm))).wr W128 (Nat.le_trans Z0 (Nat.le_of_eq g120.symm))).wr W130 (Nat.le_trans Z0 (Nat.le_of_eq g120.symm))).wr W132 (Nat.le_trans Z0 (Nat.le_of_eq g120.symm))).wr W134 (Nat.le_trans Z0 (Nat.le_of_eq g120.symm))).ext E135).wr W137 (Nat.le_trans Z0 (Nat.le_trans z138 (Nat.le_of_eq g135.symm)))).wr W140 (Nat.le_trans Z0 (Nat.le_trans z138 (Nat.le_of_eq g135.symm)))).wr W142 (Nat.le_trans Z0 (Nat.le_trans z138 (Nat.le_of_eq g135.symm)))).ext E143).ext E144)
  have z146 := (Nat.le_trans (Nat.le_trans (Nat.le_trans (Nat.le_trans (Nat.le_trans z138 E135.1) (Keep.of_wr W137).1) (Keep.of_wr W140).1) (Keep.of_wr W142).1) E143.1)
  have z148 := (Nat.le_trans (Nat.le_trans (Nat.le_trans (Nat.le_trans (Nat.le_trans (Nat.le_trans (Keep.of_wr W122).1 (Keep.of_wr W124).1) (Keep.of_wr W126).1) (Keep.of_wr W128).1) (Keep.of_wr W130).1) (Keep.of_wr W132).1) (Keep.of_wr W134).1)
  have ne147 : b120 ≠ b135 := Nat.ne_of_lt (Nat.lt_of_lt_of_le (Nat.lt_of_lt_of_le V120.lt z148) (Nat.le_of_eq g135.symm))
  have f149 := ((((((V134.ext E135).other W137 ne147).other W140 ne147).other W142 ne147).ext E143).ext E144)
  obtain ⟨v150, _, ⟨T150, L150, k150, n150⟩, -, X150, ⟨Lc150, hQ150, l150, y150, z150⟩, st150⟩ := X144.specialBack hx (y := (⟨"java/lang/String", "<init>", "([C)V"⟩ : MethodName)) rfl hown (mvT hZ (hw _ (List.mem_of_getElem? (i := 10) rfl))) (mvT hZ (hw _ (List.mem_of_getElem? (i := 11) rfl))) (mvT hZ (hw _ (List.mem_of_getElem? (i := 12) rfl))) (by decide) (StrChars.Road.backV (W := 3) hZ (own_wStr hw) (kI := 4) (hw _ (List.mem_of_getElem? (i := 8) rfl)) (cs := ([(own_c0 p1), (own_c p1 8), (own_c p1 16), (own_c p1 24), (own_c p1 32), (own_c p1 40), (own_c p1 48)] : List Int32)) (bs := (([(own_c0 p1), (own_c p1 8), (own_c p1 16), (own_c p1 24), (own_c p1 32), (own_c p1 40), (own_c p1 48)] : List Int32)).map (fun c => c.toInt8.toInt32)) (n := 7) (Nat.le_trans Z0 (Nat.le_trans z146 (Nat.le_of_eq g144.symm))) (Nat.le_trans Z0 (Nat.le_trans z146 E144.1)) A144 F144_value F144_coder f149 (O2.ext f145.2) P5 rfl rfl (by decide) (by decide) (own_c7 p1) rfl (by decide) (by decide)) (g := (mkF m 185 #[.val (.long p1), .second, .val (.int p2), .val (.int p3), .val (.ref b120), .val (.int l0), .val (.int l1), .val (.int l2), .val (.ref b135), .val (.int ix), .unset, .unset, .unset, .unset] [(.ref b120), (.ref b144), (.ref b144), (.ref b143), (.ref b143)])) rfl (by rw [hml]; rfl) (Steps.refl _) (a := b144) (argsL := [(.ref b120)]) (rest := [(.ref b144), (.ref b143), (.ref b143)]) (lenOf pd_13 rfl) rfl (by show 2 * 0 + _ ≤ _; exact Nat.le_of_eq rfl) (hb hby at_185) (fun _ _ => ⟨rfl, e144, (by decide : 4 + 1 ≤ _), (by decide : 16 + 7 ≤ _)⟩)
  dsimp only [Pt.U, Pt.locs, Pt.cells, Pt.slots] at X150 l150 y150 z150 st150 hQ150
  subst l150 y150 z150
  refine own_gos st150 ?_
  obtain ⟨rfl, Nq150, K150, Eq150, Fc150, t150, kt150, -, tg150, tn150, Fv150, Vt150⟩ := hQ150
  have N150 := Fr.app N142 Nq150
  show own_Go p e below (T150.setTop (mkF m 188 #[.val (.long p1), .second, .val (.int p2), .val (.int p3), .val (.ref b120), .val (.int l0), .val (.int l1), .val (.int l2), .val (.ref b135), .val (.int ix), .unset, .unset, .unset, .unset] [(.ref b144), (.ref b143), (.ref b143)])) _
  refine own_go (fun _ k => XS.aload X150.here hx rfl (hb hby at_188) rfl rfl k) ?_
  show own_Go p e below (T150.setTop (mkF m 190 #[.val (.long p1), .second, .val (.int p2), .val (.int p3), .val (.ref b120), .val (.int l0), .val (.int l1), .val (.int l2), .val (.ref b135), .val (.int ix), .unset, .unset, .unset, .unset] [(.ref b135), (.ref b144), (.ref b143), (.ref b143)])) _
  have f151 := ((A143.ext E144).keep K150)
  have ne152 : b143 ≠ b144 := Nat.ne_of_lt (Nat.lt_of_lt_of_le A143.lt (Nat.le_of_eq g144.symm))
  have f153 := ((F143_text.ext E144).keep K150 (ninS ne152 nin0))
  have f154 := ((F143_ends.ext E144).keep K150 (ninS ne152 nin0))
  have z155 := (Nat.le_trans (Nat.le_trans (Nat.le_trans (Nat.le_trans z138 E135.1) (Keep.of_wr W137).1) (Keep.of_wr W140).1) (Keep.of_wr W142).1)
  have f156 := (f145.keep K150 (allS (Nat.le_trans Z0 (Nat.le_trans z146 (Nat.le_of_eq g144.symm))) all0))
  obtain ⟨v157, _, ⟨T157, L157, k157, n157⟩, -, X157, ⟨Lc157, hQ157, l157, y157, z157⟩, st157⟩ := X150.specialBack hx (y := (⟨"com/example/sequela/sequela/Fields", "<init>", "(Ljava/lang/String;[I)V"⟩ : MethodName)) rfl hown (mvT hZ (hw _ (List.mem_of_getElem? (i := 36) rfl))) (mvT hZ (hw _ (List.mem_of_getElem? (i := 37) rfl))) (mvT hZ (hw _ (List.mem_of_getElem? (i := 38) rfl))) (by decide) (backOf (W := 1) (rm_fin l Z a0 hw [] b143 b144 b135 T150.heap n0 f156 f151 f153 f154 (Nat.le_trans Z0 (Nat.le_trans z155 (Nat.le_of_eq g143.symm)))) hZ (hw _ (List.mem_of_getElem? (i := 38) rfl)) (hw _ (List.mem_of_getElem? (i := 6) rfl)) (by decide) (by decide)) (g := (mkF m 190 #[.val (.long p1), .second, .val (.int p2), .val (.int p3), .val (.ref b120), .val (.int l0), .val (.int l1), .val (.int l2), .val (.ref b135), .val (.int ix), .unset, .unset, .unset, .unset] [(.ref b135), (.ref b144), (.ref b143), (.ref b143)])) rfl (by rw [hml]; rfl) (Steps.refl _) (a := b143) (argsL := [(.ref b144), (.ref b135)]) (rest := [(.ref b143)]) (lenOf pd_14 rfl) rfl (by show 2 * 0 + _ ≤ _; exact Nat.le_of_eq rfl) (hb hby at_190) (fun _ _ => ⟨rfl, (rfl : T150.heap = T150.heap), (by decide : 5 + 0 ≤ _), (by decide : 23 + 0 ≤ _)⟩)
  dsimp only [Pt.U, Pt.locs, Pt.cells, Pt.slots] at X157 l157 y157 z157 st157 hQ157
  subst l157 y157 z157
  refine own_gos st157 ?_
  obtain ⟨rfl, Nq157, K157, Ft157, Fe157⟩ := hQ157
  have N157 := Fr.app N150 Nq157
  show own_Go p e below (T157.setTop (mkF m 193 #[.val (.long p1), .second, .val (.int p2), .val (.int p3), .val (.ref b120), .val (.int l0), .val (.int l1), .val (.int l2), .val (.ref b135), .val (.int ix), .unset, .unset, .unset, .unset] [(.ref b143)])) _
  refine own_go (fun _ k => XS.astore X157.here hx rfl (hb hby at_193) rfl rfl (l' := #[.val (.long p1), .second, .val (.int p2), .val (.int p3), .val (.ref b120), .val (.int l0), .val (.int l1), .val (.int l2), .val (.ref b135), .val (.int ix), .val (.ref b143), .unset, .unset, .unset]) rfl k) ?_
  show own_Go p e below (T157.setTop (mkF m 195 #[.val (.long p1), .second, .val (.int p2), .val (.int p3), .val (.ref b120), .val (.int l0), .val (.int l1), .val (.int l2), .val (.ref b135), .val (.int ix), .val (.ref b143), .unset, .unset, .unset] [])) _
  rcases (h_ix ▸ own_i3 p3 : ix = 0 ∨ ix = 1 ∨ ix = 2) with q_ix | q_ix | q_ix
  · subst q_ix
    rcases (h_l0 ▸ own_m3 p2 : l0 = 0 ∨ l0 = 1 ∨ l0 = 2) with q_l0 | q_l0 | q_l0
    · subst q_l0
      show own_Go p e below (T157.setTop (mkF m 195 #[.val (.long p1), .second, .val (.int p2), .val (.int p3), .val (.ref b120), .val (.int (0 : Int32)), .val (.int l1), .val (.int l2), .val (.ref b135), .val (.int (0 : Int32)), .val (.ref b143), .unset, .unset, .unset] [])) _
      refine own_go (fun _ k => XS.aload X157.here hx rfl (hb hby at_195) rfl rfl k) ?_
      show own_Go p e below (T157.setTop (mkF m 197 #[.val (.long p1), .second, .val (.int p2), .val (.int p3), .val (.ref b120), .val (.int (0 : Int32)), .val (.int l1), .val (.int l2), .val (.ref b135), .val (.int (0 : Int32)), .val (.ref b143), .unset, .unset, .unset] [(.ref b143)])) _
      refine own_go (fun _ k => XS.iload X157.here hx rfl (hb hby at_197) rfl k) ?_
      show own_Go p e below (T157.setTop (mkF m 199 #[.val (.long p1), .second, .val (.int p2), .val (.int p3), .val (.ref b120), .val (.int (0 : Int32)), .val (.int l1), .val (.int l2), .val (.ref b135), .val (.int (0 : Int32)), .val (.ref b143), .unset, .unset, .unset] [(.int (0 : Int32)), (.ref b143)])) _
      have z159 := (Nat.le_trans (Nat.le_trans (Nat.le_trans (Keep.of_wr W137).1 (Keep.of_wr W140).1) (Keep.of_wr W142).1) E143.1)
      have ne158 : b135 ≠ b144 := Nat.ne_of_lt (Nat.lt_of_lt_of_le (Nat.lt_of_lt_of_le V135.lt z159) (Nat.le_of_eq g144.symm))
      have z161 := (Nat.le_trans (Nat.le_trans (Keep.of_wr W137).1 (Keep.of_wr W140).1) (Keep.of_wr W142).1)
      have ne160 : b135 ≠ b143 := Nat.ne_of_lt (Nat.lt_of_lt_of_le (Nat.lt_of_lt_of_le V135.lt z161) (Nat.le_of_eq g143.symm))
      have f162 := ((((V142.ext E143).ext E144).keep K150 (ninS ne158 nin0)).keep K157 (ninS ne160 nin0))
      have f163 := (Fv150.keep K157 (ninS (Ne.symm ne152) nin0))
      have f164 := (Fc150.keep K157 (ninS (Ne.symm ne152) nin0))
      have ne165 : b143 ≠ t150 := Nat.ne_of_lt (Nat.lt_of_lt_of_le (Nat.lt_of_lt_of_le A143.lt E144.1) tg150)
      have f166 := (Vt150.keep K157 (ninS (Ne.symm ne165) nin0))
      have f167 := (f156.keep K157 (allS (Nat.le_trans Z0 (Nat.le_trans z155 (Nat.le_of_eq g143.symm))) all0))
      obtain ⟨cq168, kq168, q168a, q168b, q168c⟩ := isOf hZ (rfl : T157.heap = T157.heap) (f151.keep K157)
      obtain ⟨v168, _, ⟨T168, L168, k168, n168⟩, -, X168, ⟨Lc168, hQ168, l168, y168, z168⟩, st168⟩ := X157.virtualBack hx (y := (⟨"com/example/sequela/sequela/Fields", "get", "(I)Ljava/lang/String;"⟩ : MethodName)) (z := (⟨"com/example/sequela/sequela/Fields", "get", "(I)Ljava/lang/String;"⟩ : MethodName)) hown (mvT hZ (hw _ (List.mem_of_getElem? (i := 49) rfl))) (mvT hZ (hw _ (List.mem_of_getElem? (i := 50) rfl))) (notFace_of_selects (args := #[]) (mvT hZ (hw _ (List.mem_of_getElem? (i := 52) rfl)))) (mvT hZ (hw _ (List.mem_of_getElem? (i := 52) rfl))) (mvT hZ (hw _ (List.mem_of_getElem? (i := 51) rfl))) (by decide) (backOf (W := 0) (rm_get_0N l Z a0 hw [] b143 b135 k135 b144 t150 kt150 G1 G3 ((0 : Int32) + l1) (((0 : Int32) + l1) + l2) ((own_c0 p1)) ((own_c p1 8)) ((own_c p1 16)) ((own_c p1 24)) ((own_c p1 32)) ((own_c p1 40)) ((own_c p1 48))  T157.heap n0 f167 (f151.keep K157) Fe157 Ft157 f162 (Eq150.keep K157) f163 f164 f166 (own_c7 p1) O2 P5 O4 rG3) hZ (hw _ (List.mem_of_getElem? (i := 53) rfl)) (hw _ (List.mem_of_getElem? (i := 6) rfl)) (by decide) (by decide)) q168a q168c (g := (mkF m 199 #[.val (.long p1), .second, .val (.int p2), .val (.int p3), .val (.ref b120), .val (.int (0 : Int32)), .val (.int l1), .val (.int l2), .val (.ref b135), .val (.int (0 : Int32)), .val (.ref b143), .unset, .unset, .unset] [(.int (0 : Int32)), (.ref b143)])) rfl (by rw [hml]; rfl) (Steps.refl _) (argsL := [(.int (0 : Int32))]) (rest := []) (lenOf pd_15 rfl) rfl (by show 2 * 0 + _ ≤ _; exact Nat.le_of_eq rfl) (hb hby at_199) (fun _ _ => ⟨rfl, (rfl : T157.heap = T157.heap), (by decide : 5 + 0 ≤ _), (by decide : 23 + 0 ≤ _)⟩)
      dsimp only [Pt.U, Pt.locs, Pt.cells, Pt.slots] at X168 l168 y168 z168 st168 hQ168
      subst l168 y168 z168
      refine own_gos st168 ?_
      obtain ⟨rfl, Nq168, K168⟩ := hQ168
      have N168 := Fr.app N157 Nq168
      show own_Go p e below (T168.setTop (mkF m 202 #[.val (.long p1), .second, .val (.int p2), .val (.int p3), .val (.ref b120), .val (.int (0 : Int32)), .val (.int l1), .val (.int l2), .val (.ref b135), .val (.int (0 : Int32)), .val (.ref b143), .unset, .unset, .unset] [.null])) _
      have z170 := (Nat.le_trans (Nat.le_trans (Nat.le_trans (Nat.le_trans (Nat.le_trans z148 E135.1) (Keep.of_wr W137).1) (Keep.of_wr W140).1) (Keep.of_wr W142).1) E143.1)
      have ne169 : b120 ≠ b144 := Nat.ne_of_lt (Nat.lt_of_lt_of_le (Nat.lt_of_lt_of_le V120.lt z170) (Nat.le_of_eq g144.symm))
      have z172 := (Nat.le_trans (Nat.le_trans (Nat.le_trans (Nat.le_trans z148 E135.1) (Keep.of_wr W137).1) (Keep.of_wr W140).1) (Keep.of_wr W142).1)
      have ne171 : b120 ≠ b143 := Nat.ne_of_lt (Nat.lt_of_lt_of_le (Nat.lt_of_lt_of_le V120.lt z172) (Nat.le_of_eq g143.symm))
      have f173 := (((f149.keep K150 (ninS ne169 nin0)).keep K157 (ninS ne171 nin0)).keep K168 nin0)
      have z174 := (Nat.le_trans (Nat.le_trans (Nat.le_trans (Nat.le_trans z146 E144.1) K150.1) K157.1) K168.1)
      exact tail_0_0 l Z a0 hw p1 p2 p3 b120 k120 b135 b143 l1 l2 G1 G3 (own_c0 p1) (own_c p1 8) (own_c p1 16) (own_c p1 24) (own_c p1 32) (own_c p1 40) (own_c p1 48) h0 n0 X168 hx hby hml hown hZ hrt hlk T168.heap (rfl : T168.heap = T168.heap) N168 (Nat.le_trans Z0 z174) (f167.keep K168 all0) f173 O2 P5 O4 rG3
    · subst q_l0
      show own_Go p e below (T157.setTop (mkF m 195 #[.val (.long p1), .second, .val (.int p2), .val (.int p3), .val (.ref b120), .val (.int (1 : Int32)), .val (.int l1), .val (.int l2), .val (.ref b135), .val (.int (0 : Int32)), .val (.ref b143), .unset, .unset, .unset] [])) _
      refine own_go (fun _ k => XS.aload X157.here hx rfl (hb hby at_195) rfl rfl k) ?_
      show own_Go p e below (T157.setTop (mkF m 197 #[.val (.long p1), .second, .val (.int p2), .val (.int p3), .val (.ref b120), .val (.int (1 : Int32)), .val (.int l1), .val (.int l2), .val (.ref b135), .val (.int (0 : Int32)), .val (.ref b143), .unset, .unset, .unset] [(.ref b143)])) _
      refine own_go (fun _ k => XS.iload X157.here hx rfl (hb hby at_197) rfl k) ?_
      show own_Go p e below (T157.setTop (mkF m 199 #[.val (.long p1), .second, .val (.int p2), .val (.int p3), .val (.ref b120), .val (.int (1 : Int32)), .val (.int l1), .val (.int l2), .val (.ref b135), .val (.int (0 : Int32)), .val (.ref b143), .unset, .unset, .unset] [(.int (0 : Int32)), (.ref b143)])) _
      have z176 := (Nat.le_trans (Nat.le_trans (Nat.le_trans (Keep.of_wr W137).1 (Keep.of_wr W140).1) (Keep.of_wr W142).1) E143.1)
      have ne175 : b135 ≠ b144 := Nat.ne_of_lt (Nat.lt_of_lt_of_le (Nat.lt_of_lt_of_le V135.lt z176) (Nat.le_of_eq g144.symm))
      have z178 := (Nat.le_trans (Nat.le_trans (Keep.of_wr W137).1 (Keep.of_wr W140).1) (Keep.of_wr W142).1)
      have ne177 : b135 ≠ b143 := Nat.ne_of_lt (Nat.lt_of_lt_of_le (Nat.lt_of_lt_of_le V135.lt z178) (Nat.le_of_eq g143.symm))
      have f179 := ((((V142.ext E143).ext E144).keep K150 (ninS ne175 nin0)).keep K157 (ninS ne177 nin0))
      have f180 := (Fv150.keep K157 (ninS (Ne.symm ne152) nin0))
      have f181 := (Fc150.keep K157 (ninS (Ne.symm ne152) nin0))
      have ne182 : b143 ≠ t150 := Nat.ne_of_lt (Nat.lt_of_lt_of_le (Nat.lt_of_lt_of_le A143.lt E144.1) tg150)
      have f183 := (Vt150.keep K157 (ninS (Ne.symm ne182) nin0))
      have f184 := (f156.keep K157 (allS (Nat.le_trans Z0 (Nat.le_trans z155 (Nat.le_of_eq g143.symm))) all0))
      obtain ⟨cq185, kq185, q185a, q185b, q185c⟩ := isOf hZ (rfl : T157.heap = T157.heap) (f151.keep K157)
      obtain ⟨v185, _, ⟨T185, L185, k185, n185⟩, -, X185, ⟨Lc185, hQ185, l185, y185, z185⟩, st185⟩ := X157.virtualBack hx (y := (⟨"com/example/sequela/sequela/Fields", "get", "(I)Ljava/lang/String;"⟩ : MethodName)) (z := (⟨"com/example/sequela/sequela/Fields", "get", "(I)Ljava/lang/String;"⟩ : MethodName)) hown (mvT hZ (hw _ (List.mem_of_getElem? (i := 49) rfl))) (mvT hZ (hw _ (List.mem_of_getElem? (i := 50) rfl))) (notFace_of_selects (args := #[]) (mvT hZ (hw _ (List.mem_of_getElem? (i := 52) rfl)))) (mvT hZ (hw _ (List.mem_of_getElem? (i := 52) rfl))) (mvT hZ (hw _ (List.mem_of_getElem? (i := 51) rfl))) (by decide) (backOf (W := 0) (rm_get_0S l Z a0 hw [] b143 b135 k135 b144 t150 kt150 G1 G3 ((1 : Int32) + l1) (((1 : Int32) + l1) + l2) ((own_c0 p1)) ((own_c p1 8)) ((own_c p1 16)) ((own_c p1 24)) ((own_c p1 32)) ((own_c p1 40)) ((own_c p1 48)) (1 : Int32) (1 : Int32) ([(own_c0 p1)] : List Int32) T157.heap n0 f184 (f151.keep K157) Fe157 Ft157 f179 (Eq150.keep K157) f180 f181 f183 (own_c7 p1) O2 P5 O4 rG3 (by decide) (by unfold own_R; decide) rfl) hZ (hw _ (List.mem_of_getElem? (i := 53) rfl)) (hw _ (List.mem_of_getElem? (i := 6) rfl)) (by decide) (by decide)) q185a q185c (g := (mkF m 199 #[.val (.long p1), .second, .val (.int p2), .val (.int p3), .val (.ref b120), .val (.int (1 : Int32)), .val (.int l1), .val (.int l2), .val (.ref b135), .val (.int (0 : Int32)), .val (.ref b143), .unset, .unset, .unset] [(.int (0 : Int32)), (.ref b143)])) rfl (by rw [hml]; rfl) (Steps.refl _) (argsL := [(.int (0 : Int32))]) (rest := []) (lenOf pd_15 rfl) rfl (by show 2 * 0 + _ ≤ _; exact Nat.le_of_eq rfl) (hb hby at_199) (fun _ _ => ⟨rfl, (rfl : T157.heap = T157.heap), (by decide : 5 + 2 ≤ _), (by decide : 23 + 6 ≤ _)⟩)
      dsimp only [Pt.U, Pt.locs, Pt.cells, Pt.slots] at X185 l185 y185 z185 st185 hQ185
      subst l185 y185 z185
      refine own_gos st185 ?_
      obtain ⟨x185, t185, kt185, rfl, Nq185, K185, xg185, tg185, Ex185, Fv185, Fc185, Vt185⟩ := hQ185
      have N185 := Fr.app N157 Nq185
      show own_Go p e below (T185.setTop (mkF m 202 #[.val (.long p1), .second, .val (.int p2), .val (.int p3), .val (.ref b120), .val (.int (1 : Int32)), .val (.int l1), .val (.int l2), .val (.ref b135), .val (.int (0 : Int32)), .val (.ref b143), .unset, .unset, .unset] [(.ref x185)])) _
      have z187 := (Nat.le_trans (Nat.le_trans (Nat.le_trans (Nat.le_trans (Nat.le_trans z148 E135.1) (Keep.of_wr W137).1) (Keep.of_wr W140).1) (Keep.of_wr W142).1) E143.1)
      have ne186 : b120 ≠ b144 := Nat.ne_of_lt (Nat.lt_of_lt_of_le (Nat.lt_of_lt_of_le V120.lt z187) (Nat.le_of_eq g144.symm))
      have z189 := (Nat.le_trans (Nat.le_trans (Nat.le_trans (Nat.le_trans z148 E135.1) (Keep.of_wr W137).1) (Keep.of_wr W140).1) (Keep.of_wr W142).1)
      have ne188 : b120 ≠ b143 := Nat.ne_of_lt (Nat.lt_of_lt_of_le (Nat.lt_of_lt_of_le V120.lt z189) (Nat.le_of_eq g143.symm))
      have f190 := (((f149.keep K150 (ninS ne186 nin0)).keep K157 (ninS ne188 nin0)).keep K185 nin0)
      have z191 := (Nat.le_trans (Nat.le_trans (Nat.le_trans (Nat.le_trans z146 E144.1) K150.1) K157.1) K185.1)
      exact tail_0_1 l Z a0 hw p1 p2 p3 b120 k120 b135 b143 l1 l2 G1 G3 (own_c0 p1) (own_c p1 8) (own_c p1 16) (own_c p1 24) (own_c p1 32) (own_c p1 40) (own_c p1 48) x185 t185 kt185 (own_c0 p1) h0 n0 X185 hx hby hml hown hZ hrt hlk T185.heap (rfl : T185.heap = T185.heap) N185 (Nat.le_trans Z0 z191) (f184.keep K185 all0) f190 Ex185 Fv185 Fc185 Vt185 O2 P5 O4 rG3 (fun c hc => own_c7 p1 c (by simp only [List.mem_cons, List.not_mem_nil, or_false] at hc ⊢; rcases hc with rfl <;> simp)) (by decide) rfl
    · subst q_l0
      show own_Go p e below (T157.setTop (mkF m 195 #[.val (.long p1), .second, .val (.int p2), .val (.int p3), .val (.ref b120), .val (.int (2 : Int32)), .val (.int l1), .val (.int l2), .val (.ref b135), .val (.int (0 : Int32)), .val (.ref b143), .unset, .unset, .unset] [])) _
      refine own_go (fun _ k => XS.aload X157.here hx rfl (hb hby at_195) rfl rfl k) ?_
      show own_Go p e below (T157.setTop (mkF m 197 #[.val (.long p1), .second, .val (.int p2), .val (.int p3), .val (.ref b120), .val (.int (2 : Int32)), .val (.int l1), .val (.int l2), .val (.ref b135), .val (.int (0 : Int32)), .val (.ref b143), .unset, .unset, .unset] [(.ref b143)])) _
      refine own_go (fun _ k => XS.iload X157.here hx rfl (hb hby at_197) rfl k) ?_
      show own_Go p e below (T157.setTop (mkF m 199 #[.val (.long p1), .second, .val (.int p2), .val (.int p3), .val (.ref b120), .val (.int (2 : Int32)), .val (.int l1), .val (.int l2), .val (.ref b135), .val (.int (0 : Int32)), .val (.ref b143), .unset, .unset, .unset] [(.int (0 : Int32)), (.ref b143)])) _
      have z193 := (Nat.le_trans (Nat.le_trans (Nat.le_trans (Keep.of_wr W137).1 (Keep.of_wr W140).1) (Keep.of_wr W142).1) E143.1)
      have ne192 : b135 ≠ b144 := Nat.ne_of_lt (Nat.lt_of_lt_of_le (Nat.lt_of_lt_of_le V135.lt z193) (Nat.le_of_eq g144.symm))
      have z195 := (Nat.le_trans (Nat.le_trans (Keep.of_wr W137).1 (Keep.of_wr W140).1) (Keep.of_wr W142).1)
      have ne194 : b135 ≠ b143 := Nat.ne_of_lt (Nat.lt_of_lt_of_le (Nat.lt_of_lt_of_le V135.lt z195) (Nat.le_of_eq g143.symm))
      have f196 := ((((V142.ext E143).ext E144).keep K150 (ninS ne192 nin0)).keep K157 (ninS ne194 nin0))
      have f197 := (Fv150.keep K157 (ninS (Ne.symm ne152) nin0))
      have f198 := (Fc150.keep K157 (ninS (Ne.symm ne152) nin0))
      have ne199 : b143 ≠ t150 := Nat.ne_of_lt (Nat.lt_of_lt_of_le (Nat.lt_of_lt_of_le A143.lt E144.1) tg150)
      have f200 := (Vt150.keep K157 (ninS (Ne.symm ne199) nin0))
      have f201 := (f156.keep K157 (allS (Nat.le_trans Z0 (Nat.le_trans z155 (Nat.le_of_eq g143.symm))) all0))
      obtain ⟨cq202, kq202, q202a, q202b, q202c⟩ := isOf hZ (rfl : T157.heap = T157.heap) (f151.keep K157)
      obtain ⟨v202, _, ⟨T202, L202, k202, n202⟩, -, X202, ⟨Lc202, hQ202, l202, y202, z202⟩, st202⟩ := X157.virtualBack hx (y := (⟨"com/example/sequela/sequela/Fields", "get", "(I)Ljava/lang/String;"⟩ : MethodName)) (z := (⟨"com/example/sequela/sequela/Fields", "get", "(I)Ljava/lang/String;"⟩ : MethodName)) hown (mvT hZ (hw _ (List.mem_of_getElem? (i := 49) rfl))) (mvT hZ (hw _ (List.mem_of_getElem? (i := 50) rfl))) (notFace_of_selects (args := #[]) (mvT hZ (hw _ (List.mem_of_getElem? (i := 52) rfl)))) (mvT hZ (hw _ (List.mem_of_getElem? (i := 52) rfl))) (mvT hZ (hw _ (List.mem_of_getElem? (i := 51) rfl))) (by decide) (backOf (W := 0) (rm_get_0S l Z a0 hw [] b143 b135 k135 b144 t150 kt150 G1 G3 ((2 : Int32) + l1) (((2 : Int32) + l1) + l2) ((own_c0 p1)) ((own_c p1 8)) ((own_c p1 16)) ((own_c p1 24)) ((own_c p1 32)) ((own_c p1 40)) ((own_c p1 48)) (2 : Int32) (2 : Int32) ([(own_c0 p1), (own_c p1 8)] : List Int32) T157.heap n0 f201 (f151.keep K157) Fe157 Ft157 f196 (Eq150.keep K157) f197 f198 f200 (own_c7 p1) O2 P5 O4 rG3 (by decide) (by unfold own_R; decide) rfl) hZ (hw _ (List.mem_of_getElem? (i := 53) rfl)) (hw _ (List.mem_of_getElem? (i := 6) rfl)) (by decide) (by decide)) q202a q202c (g := (mkF m 199 #[.val (.long p1), .second, .val (.int p2), .val (.int p3), .val (.ref b120), .val (.int (2 : Int32)), .val (.int l1), .val (.int l2), .val (.ref b135), .val (.int (0 : Int32)), .val (.ref b143), .unset, .unset, .unset] [(.int (0 : Int32)), (.ref b143)])) rfl (by rw [hml]; rfl) (Steps.refl _) (argsL := [(.int (0 : Int32))]) (rest := []) (lenOf pd_15 rfl) rfl (by show 2 * 0 + _ ≤ _; exact Nat.le_of_eq rfl) (hb hby at_199) (fun _ _ => ⟨rfl, (rfl : T157.heap = T157.heap), (by decide : 5 + 2 ≤ _), (by decide : 23 + 6 ≤ _)⟩)
      dsimp only [Pt.U, Pt.locs, Pt.cells, Pt.slots] at X202 l202 y202 z202 st202 hQ202
      subst l202 y202 z202
      refine own_gos st202 ?_
      obtain ⟨x202, t202, kt202, rfl, Nq202, K202, xg202, tg202, Ex202, Fv202, Fc202, Vt202⟩ := hQ202
      have N202 := Fr.app N157 Nq202
      show own_Go p e below (T202.setTop (mkF m 202 #[.val (.long p1), .second, .val (.int p2), .val (.int p3), .val (.ref b120), .val (.int (2 : Int32)), .val (.int l1), .val (.int l2), .val (.ref b135), .val (.int (0 : Int32)), .val (.ref b143), .unset, .unset, .unset] [(.ref x202)])) _
      have z204 := (Nat.le_trans (Nat.le_trans (Nat.le_trans (Nat.le_trans (Nat.le_trans z148 E135.1) (Keep.of_wr W137).1) (Keep.of_wr W140).1) (Keep.of_wr W142).1) E143.1)
      have ne203 : b120 ≠ b144 := Nat.ne_of_lt (Nat.lt_of_lt_of_le (Nat.lt_of_lt_of_le V120.lt z204) (Nat.le_of_eq g144.symm))
      have z206 := (Nat.le_trans (Nat.le_trans (Nat.le_trans (Nat.le_trans z148 E135.1) (Keep.of_wr W137).1) (Keep.of_wr W140).1) (Keep.of_wr W142).1)
      have ne205 : b120 ≠ b143 := Nat.ne_of_lt (Nat.lt_of_lt_of_le (Nat.lt_of_lt_of_le V120.lt z206) (Nat.le_of_eq g143.symm))
      have f207 := (((f149.keep K150 (ninS ne203 nin0)).keep K157 (ninS ne205 nin0)).keep K202 nin0)
      have z208 := (Nat.le_trans (Nat.le_trans (Nat.le_trans (Nat.le_trans z146 E144.1) K150.1) K157.1) K202.1)
      exact tail_0_2 l Z a0 hw p1 p2 p3 b120 k120 b135 b143 l1 l2 G1 G3 (own_c0 p1) (own_c p1 8) (own_c p1 16) (own_c p1 24) (own_c p1 32) (own_c p1 40) (own_c p1 48) x202 t202 kt202 (own_c0 p1) (own_c p1 8) h0 n0 X202 hx hby hml hown hZ hrt hlk T202.heap (rfl : T202.heap = T202.heap) N202 (Nat.le_trans Z0 z208) (f201.keep K202 all0) f207 Ex202 Fv202 Fc202 Vt202 O2 P5 O4 rG3 (fun c hc => own_c7 p1 c (by simp only [List.mem_cons, List.not_mem_nil, or_false] at hc ⊢; rcases hc with rfl | rfl <;> simp)) (by decide) rfl (by decide) rfl
  · subst q_ix
    rcases (h_l0 ▸ own_m3 p2 : l0 = 0 ∨ l0 = 1 ∨ l0 = 2) with q_l0 | q_l0 | q_l0
    · subst q_l0
      rcases (h_l1 ▸ own_m3 ((p2.toUInt32 >>> ((8 : Int32) &&& 31).toUInt32).toInt32) : l1 = 0 ∨ l1 = 1 ∨ l1 = 2) with q_l1 | q_l1 | q_l1
      · subst q_l1
        show own_Go p e below (T157.setTop (mkF m 195 #[.val (.long p1), .second, .val (.int p2), .val (.int p3), .val (.ref b120), .val (.int (0 : Int32)), .val (.int (0 : Int32)), .val (.int l2), .val (.ref b135), .val (.int (1 : Int32)), .val (.ref b143), .unset, .unset, .unset] [])) _
        refine own_go (fun _ k => XS.aload X157.here hx rfl (hb hby at_195) rfl rfl k) ?_
        show own_Go p e below (T157.setTop (mkF m 197 #[.val (.long p1), .second, .val (.int p2), .val (.int p3), .val (.ref b120), .val (.int (0 : Int32)), .val (.int (0 : Int32)), .val (.int l2), .val (.ref b135), .val (.int (1 : Int32)), .val (.ref b143), .unset, .unset, .unset] [(.ref b143)])) _
        refine own_go (fun _ k => XS.iload X157.here hx rfl (hb hby at_197) rfl k) ?_
        show own_Go p e below (T157.setTop (mkF m 199 #[.val (.long p1), .second, .val (.int p2), .val (.int p3), .val (.ref b120), .val (.int (0 : Int32)), .val (.int (0 : Int32)), .val (.int l2), .val (.ref b135), .val (.int (1 : Int32)), .val (.ref b143), .unset, .unset, .unset] [(.int (1 : Int32)), (.ref b143)])) _
        have z210 := (Nat.le_trans (Nat.le_trans (Nat.le_trans (Keep.of_wr W137).1 (Keep.of_wr W140).1) (Keep.of_wr W142).1) E143.1)
        have ne209 : b135 ≠ b144 := Nat.ne_of_lt (Nat.lt_of_lt_of_le (Nat.lt_of_lt_of_le V135.lt z210) (Nat.le_of_eq g144.symm))
        have z212 := (Nat.le_trans (Nat.le_trans (Keep.of_wr W137).1 (Keep.of_wr W140).1) (Keep.of_wr W142).1)
        have ne211 : b135 ≠ b143 := Nat.ne_of_lt (Nat.lt_of_lt_of_le (Nat.lt_of_lt_of_le V135.lt z212) (Nat.le_of_eq g143.symm))
        have f213 := ((((V142.ext E143).ext E144).keep K150 (ninS ne209 nin0)).keep K157 (ninS ne211 nin0))
        have f214 := (Fv150.keep K157 (ninS (Ne.symm ne152) nin0))
        have f215 := (Fc150.keep K157 (ninS (Ne.symm ne152) nin0))
        have ne216 : b143 ≠ t150 := Nat.ne_of_lt (Nat.lt_of_lt_of_le (Nat.lt_of_lt_of_le A143.lt E144.1) tg150)
        have f217 := (Vt150.keep K157 (ninS (Ne.symm ne216) nin0))
        have f218 := (f156.keep K157 (allS (Nat.le_trans Z0 (Nat.le_trans z155 (Nat.le_of_eq g143.symm))) all0))
        obtain ⟨cq219, kq219, q219a, q219b, q219c⟩ := isOf hZ (rfl : T157.heap = T157.heap) (f151.keep K157)
        obtain ⟨v219, _, ⟨T219, L219, k219, n219⟩, -, X219, ⟨Lc219, hQ219, l219, y219, z219⟩, st219⟩ := X157.virtualBack hx (y := (⟨"com/example/sequela/sequela/Fields", "get", "(I)Ljava/lang/String;"⟩ : MethodName)) (z := (⟨"com/example/sequela/sequela/Fields", "get", "(I)Ljava/lang/String;"⟩ : MethodName)) hown (mvT hZ (hw _ (List.mem_of_getElem? (i := 49) rfl))) (mvT hZ (hw _ (List.mem_of_getElem? (i := 50) rfl))) (notFace_of_selects (args := #[]) (mvT hZ (hw _ (List.mem_of_getElem? (i := 52) rfl)))) (mvT hZ (hw _ (List.mem_of_getElem? (i := 52) rfl))) (mvT hZ (hw _ (List.mem_of_getElem? (i := 51) rfl))) (by decide) (backOf (W := 0) (rm_get_1N l Z a0 hw [] b143 b135 k135 b144 t150 kt150 G1 G3 ((0 : Int32) + l2) ((own_c0 p1)) ((own_c p1 8)) ((own_c p1 16)) ((own_c p1 24)) ((own_c p1 32)) ((own_c p1 40)) ((own_c p1 48)) (0 : Int32) T157.heap n0 f218 (f151.keep K157) Fe157 Ft157 f213 (Eq150.keep K157) f214 f215 f217 (own_c7 p1) O2 P5 O4 rG3) hZ (hw _ (List.mem_of_getElem? (i := 53) rfl)) (hw _ (List.mem_of_getElem? (i := 6) rfl)) (by decide) (by decide)) q219a q219c (g := (mkF m 199 #[.val (.long p1), .second, .val (.int p2), .val (.int p3), .val (.ref b120), .val (.int (0 : Int32)), .val (.int (0 : Int32)), .val (.int l2), .val (.ref b135), .val (.int (1 : Int32)), .val (.ref b143), .unset, .unset, .unset] [(.int (1 : Int32)), (.ref b143)])) rfl (by rw [hml]; rfl) (Steps.refl _) (argsL := [(.int (1 : Int32))]) (rest := []) (lenOf pd_15 rfl) rfl (by show 2 * 0 + _ ≤ _; exact Nat.le_of_eq rfl) (hb hby at_199) (fun _ _ => ⟨rfl, (rfl : T157.heap = T157.heap), (by decide : 5 + 0 ≤ _), (by decide : 23 + 0 ≤ _)⟩)
        dsimp only [Pt.U, Pt.locs, Pt.cells, Pt.slots] at X219 l219 y219 z219 st219 hQ219
        subst l219 y219 z219
        refine own_gos st219 ?_
        obtain ⟨rfl, Nq219, K219⟩ := hQ219
        have N219 := Fr.app N157 Nq219
        show own_Go p e below (T219.setTop (mkF m 202 #[.val (.long p1), .second, .val (.int p2), .val (.int p3), .val (.ref b120), .val (.int (0 : Int32)), .val (.int (0 : Int32)), .val (.int l2), .val (.ref b135), .val (.int (1 : Int32)), .val (.ref b143), .unset, .unset, .unset] [.null])) _
        have z221 := (Nat.le_trans (Nat.le_trans (Nat.le_trans (Nat.le_trans (Nat.le_trans z148 E135.1) (Keep.of_wr W137).1) (Keep.of_wr W140).1) (Keep.of_wr W142).1) E143.1)
        have ne220 : b120 ≠ b144 := Nat.ne_of_lt (Nat.lt_of_lt_of_le (Nat.lt_of_lt_of_le V120.lt z221) (Nat.le_of_eq g144.symm))
        have z223 := (Nat.le_trans (Nat.le_trans (Nat.le_trans (Nat.le_trans z148 E135.1) (Keep.of_wr W137).1) (Keep.of_wr W140).1) (Keep.of_wr W142).1)
        have ne222 : b120 ≠ b143 := Nat.ne_of_lt (Nat.lt_of_lt_of_le (Nat.lt_of_lt_of_le V120.lt z223) (Nat.le_of_eq g143.symm))
        have f224 := (((f149.keep K150 (ninS ne220 nin0)).keep K157 (ninS ne222 nin0)).keep K219 nin0)
        have z225 := (Nat.le_trans (Nat.le_trans (Nat.le_trans (Nat.le_trans z146 E144.1) K150.1) K157.1) K219.1)
        exact tail_1_0 l Z a0 hw p1 p2 p3 b120 k120 b135 b143 (0 : Int32) l2 G1 G3 (own_c0 p1) (own_c p1 8) (own_c p1 16) (own_c p1 24) (own_c p1 32) (own_c p1 40) (own_c p1 48) h0 n0 X219 hx hby hml hown hZ hrt hlk T219.heap (rfl : T219.heap = T219.heap) N219 (Nat.le_trans Z0 z225) (f218.keep K219 all0) f224 O2 P5 O4 rG3
      · subst q_l1
        show own_Go p e below (T157.setTop (mkF m 195 #[.val (.long p1), .second, .val (.int p2), .val (.int p3), .val (.ref b120), .val (.int (0 : Int32)), .val (.int (1 : Int32)), .val (.int l2), .val (.ref b135), .val (.int (1 : Int32)), .val (.ref b143), .unset, .unset, .unset] [])) _
        refine own_go (fun _ k => XS.aload X157.here hx rfl (hb hby at_195) rfl rfl k) ?_
        show own_Go p e below (T157.setTop (mkF m 197 #[.val (.long p1), .second, .val (.int p2), .val (.int p3), .val (.ref b120), .val (.int (0 : Int32)), .val (.int (1 : Int32)), .val (.int l2), .val (.ref b135), .val (.int (1 : Int32)), .val (.ref b143), .unset, .unset, .unset] [(.ref b143)])) _
        refine own_go (fun _ k => XS.iload X157.here hx rfl (hb hby at_197) rfl k) ?_
        show own_Go p e below (T157.setTop (mkF m 199 #[.val (.long p1), .second, .val (.int p2), .val (.int p3), .val (.ref b120), .val (.int (0 : Int32)), .val (.int (1 : Int32)), .val (.int l2), .val (.ref b135), .val (.int (1 : Int32)), .val (.ref b143), .unset, .unset, .unset] [(.int (1 : Int32)), (.ref b143)])) _
        have z227 := (Nat.le_trans (Nat.le_trans (Nat.le_trans (Keep.of_wr W137).1 (Keep.of_wr W140).1) (Keep.of_wr W142).1) E143.1)
        have ne226 : b135 ≠ b144 := Nat.ne_of_lt (Nat.lt_of_lt_of_le (Nat.lt_of_lt_of_le V135.lt z227) (Nat.le_of_eq g144.symm))
        have z229 := (Nat.le_trans (Nat.le_trans (Keep.of_wr W137).1 (Keep.of_wr W140).1) (Keep.of_wr W142).1)
        have ne228 : b135 ≠ b143 := Nat.ne_of_lt (Nat.lt_of_lt_of_le (Nat.lt_of_lt_of_le V135.lt z229) (Nat.le_of_eq g143.symm))
        have f230 := ((((V142.ext E143).ext E144).keep K150 (ninS ne226 nin0)).keep K157 (ninS ne228 nin0))
        have f231 := (Fv150.keep K157 (ninS (Ne.symm ne152) nin0))
        have f232 := (Fc150.keep K157 (ninS (Ne.symm ne152) nin0))
        have ne233 : b143 ≠ t150 := Nat.ne_of_lt (Nat.lt_of_lt_of_le (Nat.lt_of_lt_of_le A143.lt E144.1) tg150)
        have f234 := (Vt150.keep K157 (ninS (Ne.symm ne233) nin0))
        have f235 := (f156.keep K157 (allS (Nat.le_trans Z0 (Nat.le_trans z155 (Nat.le_of_eq g143.symm))) all0))
        obtain ⟨cq236, kq236, q236a, q236b, q236c⟩ := isOf hZ (rfl : T157.heap = T157.heap) (f151.keep K157)
        obtain ⟨v236, _, ⟨T236, L236, k236, n236⟩, -, X236, ⟨Lc236, hQ236, l236, y236, z236⟩, st236⟩ := X157.virtualBack hx (y := (⟨"com/example/sequela/sequela/Fields", "get", "(I)Ljava/lang/String;"⟩ : MethodName)) (z := (⟨"com/example/sequela/sequela/Fields", "get", "(I)Ljava/lang/String;"⟩ : MethodName)) hown (mvT hZ (hw _ (List.mem_of_getElem? (i := 49) rfl))) (mvT hZ (hw _ (List.mem_of_getElem? (i := 50) rfl))) (notFace_of_selects (args := #[]) (mvT hZ (hw _ (List.mem_of_getElem? (i := 52) rfl)))) (mvT hZ (hw _ (List.mem_of_getElem? (i := 52) rfl))) (mvT hZ (hw _ (List.mem_of_getElem? (i := 51) rfl))) (by decide) (backOf (W := 0) (rm_get_1S l Z a0 hw [] b143 b135 k135 b144 t150 kt150 G1 G3 ((1 : Int32) + l2) ((own_c0 p1)) ((own_c p1 8)) ((own_c p1 16)) ((own_c p1 24)) ((own_c p1 32)) ((own_c p1 40)) ((own_c p1 48)) (0 : Int32) (1 : Int32) (1 : Int32) ([(own_c0 p1)] : List Int32) T157.heap n0 f235 (f151.keep K157) Fe157 Ft157 f230 (Eq150.keep K157) f231 f232 f234 (own_c7 p1) O2 P5 O4 rG3 (by decide) (by unfold own_R; decide) rfl) hZ (hw _ (List.mem_of_getElem? (i := 53) rfl)) (hw _ (List.mem_of_getElem? (i := 6) rfl)) (by decide) (by decide)) q236a q236c (g := (mkF m 199 #[.val (.long p1), .second, .val (.int p2), .val (.int p3), .val (.ref b120), .val (.int (0 : Int32)), .val (.int (1 : Int32)), .val (.int l2), .val (.ref b135), .val (.int (1 : Int32)), .val (.ref b143), .unset, .unset, .unset] [(.int (1 : Int32)), (.ref b143)])) rfl (by rw [hml]; rfl) (Steps.refl _) (argsL := [(.int (1 : Int32))]) (rest := []) (lenOf pd_15 rfl) rfl (by show 2 * 0 + _ ≤ _; exact Nat.le_of_eq rfl) (hb hby at_199) (fun _ _ => ⟨rfl, (rfl : T157.heap = T157.heap), (by decide : 5 + 2 ≤ _), (by decide : 23 + 6 ≤ _)⟩)
        dsimp only [Pt.U, Pt.locs, Pt.cells, Pt.slots] at X236 l236 y236 z236 st236 hQ236
        subst l236 y236 z236
        refine own_gos st236 ?_
        obtain ⟨x236, t236, kt236, rfl, Nq236, K236, xg236, tg236, Ex236, Fv236, Fc236, Vt236⟩ := hQ236
        have N236 := Fr.app N157 Nq236
        show own_Go p e below (T236.setTop (mkF m 202 #[.val (.long p1), .second, .val (.int p2), .val (.int p3), .val (.ref b120), .val (.int (0 : Int32)), .val (.int (1 : Int32)), .val (.int l2), .val (.ref b135), .val (.int (1 : Int32)), .val (.ref b143), .unset, .unset, .unset] [(.ref x236)])) _
        have z238 := (Nat.le_trans (Nat.le_trans (Nat.le_trans (Nat.le_trans (Nat.le_trans z148 E135.1) (Keep.of_wr W137).1) (Keep.of_wr W140).1) (Keep.of_wr W142).1) E143.1)
        have ne237 : b120 ≠ b144 := Nat.ne_of_lt (Nat.lt_of_lt_of_le (Nat.lt_of_lt_of_le V120.lt z238) (Nat.le_of_eq g144.symm))
        have z240 := (Nat.le_trans (Nat.le_trans (Nat.le_trans (Nat.le_trans z148 E135.1) (Keep.of_wr W137).1) (Keep.of_wr W140).1) (Keep.of_wr W142).1)
        have ne239 : b120 ≠ b143 := Nat.ne_of_lt (Nat.lt_of_lt_of_le (Nat.lt_of_lt_of_le V120.lt z240) (Nat.le_of_eq g143.symm))
        have f241 := (((f149.keep K150 (ninS ne237 nin0)).keep K157 (ninS ne239 nin0)).keep K236 nin0)
        have z242 := (Nat.le_trans (Nat.le_trans (Nat.le_trans (Nat.le_trans z146 E144.1) K150.1) K157.1) K236.1)
        exact tail_1_1 l Z a0 hw p1 p2 p3 b120 k120 b135 b143 (0 : Int32) l2 G1 G3 (own_c0 p1) (own_c p1 8) (own_c p1 16) (own_c p1 24) (own_c p1 32) (own_c p1 40) (own_c p1 48) x236 t236 kt236 (own_c0 p1) h0 n0 X236 hx hby hml hown hZ hrt hlk T236.heap (rfl : T236.heap = T236.heap) N236 (Nat.le_trans Z0 z242) (f235.keep K236 all0) f241 Ex236 Fv236 Fc236 Vt236 O2 P5 O4 rG3 (fun c hc => own_c7 p1 c (by simp only [List.mem_cons, List.not_mem_nil, or_false] at hc ⊢; rcases hc with rfl <;> simp)) (by decide) rfl
      · subst q_l1
        show own_Go p e below (T157.setTop (mkF m 195 #[.val (.long p1), .second, .val (.int p2), .val (.int p3), .val (.ref b120), .val (.int (0 : Int32)), .val (.int (2 : Int32)), .val (.int l2), .val (.ref b135), .val (.int (1 : Int32)), .val (.ref b143), .unset, .unset, .unset] [])) _
        refine own_go (fun _ k => XS.aload X157.here hx rfl (hb hby at_195) rfl rfl k) ?_
        show own_Go p e below (T157.setTop (mkF m 197 #[.val (.long p1), .second, .val (.int p2), .val (.int p3), .val (.ref b120), .val (.int (0 : Int32)), .val (.int (2 : Int32)), .val (.int l2), .val (.ref b135), .val (.int (1 : Int32)), .val (.ref b143), .unset, .unset, .unset] [(.ref b143)])) _
        refine own_go (fun _ k => XS.iload X157.here hx rfl (hb hby at_197) rfl k) ?_
        show own_Go p e below (T157.setTop (mkF m 199 #[.val (.long p1), .second, .val (.int p2), .val (.int p3), .val (.ref b120), .val (.int (0 : Int32)), .val (.int (2 : Int32)), .val (.int l2), .val (.ref b135), .val (.int (1 : Int32)), .val (.ref b143), .unset, .unset, .unset] [(.int (1 : Int32)), (.ref b143)])) _
        have z244 := (Nat.le_trans (Nat.le_trans (Nat.le_trans (Keep.of_wr W137).1 (Keep.of_wr W140).1) (Keep.of_wr W142).1) E143.1)
        have ne243 : b135 ≠ b144 := Nat.ne_of_lt (Nat.lt_of_lt_of_le (Nat.lt_of_lt_of_le V135.lt z244) (Nat.le_of_eq g144.symm))
        have z246 := (Nat.le_trans (Nat.le_trans (Keep.of_wr W137).1 (Keep.of_wr W140).1) (Keep.of_wr W142).1)
        have ne245 : b135 ≠ b143 := Nat.ne_of_lt (Nat.lt_of_lt_of_le (Nat.lt_of_lt_of_le V135.lt z246) (Nat.le_of_eq g143.symm))
        have f247 := ((((V142.ext E143).ext E144).keep K150 (ninS ne243 nin0)).keep K157 (ninS ne245 nin0))
        have f248 := (Fv150.keep K157 (ninS (Ne.symm ne152) nin0))
        have f249 := (Fc150.keep K157 (ninS (Ne.symm ne152) nin0))
        have ne250 : b143 ≠ t150 := Nat.ne_of_lt (Nat.lt_of_lt_of_le (Nat.lt_of_lt_of_le A143.lt E144.1) tg150)
        have f251 := (Vt150.keep K157 (ninS (Ne.symm ne250) nin0))
        have f252 := (f156.keep K157 (allS (Nat.le_trans Z0 (Nat.le_trans z155 (Nat.le_of_eq g143.symm))) all0))
        obtain ⟨cq253, kq253, q253a, q253b, q253c⟩ := isOf hZ (rfl : T157.heap = T157.heap) (f151.keep K157)
        obtain ⟨v253, _, ⟨T253, L253, k253, n253⟩, -, X253, ⟨Lc253, hQ253, l253, y253, z253⟩, st253⟩ := X157.virtualBack hx (y := (⟨"com/example/sequela/sequela/Fields", "get", "(I)Ljava/lang/String;"⟩ : MethodName)) (z := (⟨"com/example/sequela/sequela/Fields", "get", "(I)Ljava/lang/String;"⟩ : MethodName)) hown (mvT hZ (hw _ (List.mem_of_getElem? (i := 49) rfl))) (mvT hZ (hw _ (List.mem_of_getElem? (i := 50) rfl))) (notFace_of_selects (args := #[]) (mvT hZ (hw _ (List.mem_of_getElem? (i := 52) rfl)))) (mvT hZ (hw _ (List.mem_of_getElem? (i := 52) rfl))) (mvT hZ (hw _ (List.mem_of_getElem? (i := 51) rfl))) (by decide) (backOf (W := 0) (rm_get_1S l Z a0 hw [] b143 b135 k135 b144 t150 kt150 G1 G3 ((2 : Int32) + l2) ((own_c0 p1)) ((own_c p1 8)) ((own_c p1 16)) ((own_c p1 24)) ((own_c p1 32)) ((own_c p1 40)) ((own_c p1 48)) (0 : Int32) (2 : Int32) (2 : Int32) ([(own_c0 p1), (own_c p1 8)] : List Int32) T157.heap n0 f252 (f151.keep K157) Fe157 Ft157 f247 (Eq150.keep K157) f248 f249 f251 (own_c7 p1) O2 P5 O4 rG3 (by decide) (by unfold own_R; decide) rfl) hZ (hw _ (List.mem_of_getElem? (i := 53) rfl)) (hw _ (List.mem_of_getElem? (i := 6) rfl)) (by decide) (by decide)) q253a q253c (g := (mkF m 199 #[.val (.long p1), .second, .val (.int p2), .val (.int p3), .val (.ref b120), .val (.int (0 : Int32)), .val (.int (2 : Int32)), .val (.int l2), .val (.ref b135), .val (.int (1 : Int32)), .val (.ref b143), .unset, .unset, .unset] [(.int (1 : Int32)), (.ref b143)])) rfl (by rw [hml]; rfl) (Steps.refl _) (argsL := [(.int (1 : Int32))]) (rest := []) (lenOf pd_15 rfl) rfl (by show 2 * 0 + _ ≤ _; exact Nat.le_of_eq rfl) (hb hby at_199) (fun _ _ => ⟨rfl, (rfl : T157.heap = T157.heap), (by decide : 5 + 2 ≤ _), (by decide : 23 + 6 ≤ _)⟩)
        dsimp only [Pt.U, Pt.locs, Pt.cells, Pt.slots] at X253 l253 y253 z253 st253 hQ253
        subst l253 y253 z253
        refine own_gos st253 ?_
        obtain ⟨x253, t253, kt253, rfl, Nq253, K253, xg253, tg253, Ex253, Fv253, Fc253, Vt253⟩ := hQ253
        have N253 := Fr.app N157 Nq253
        show own_Go p e below (T253.setTop (mkF m 202 #[.val (.long p1), .second, .val (.int p2), .val (.int p3), .val (.ref b120), .val (.int (0 : Int32)), .val (.int (2 : Int32)), .val (.int l2), .val (.ref b135), .val (.int (1 : Int32)), .val (.ref b143), .unset, .unset, .unset] [(.ref x253)])) _
        have z255 := (Nat.le_trans (Nat.le_trans (Nat.le_trans (Nat.le_trans (Nat.le_trans z148 E135.1) (Keep.of_wr W137).1) (Keep.of_wr W140).1) (Keep.of_wr W142).1) E143.1)
        have ne254 : b120 ≠ b144 := Nat.ne_of_lt (Nat.lt_of_lt_of_le (Nat.lt_of_lt_of_le V120.lt z255) (Nat.le_of_eq g144.symm))
        have z257 := (Nat.le_trans (Nat.le_trans (Nat.le_trans (Nat.le_trans z148 E135.1) (Keep.of_wr W137).1) (Keep.of_wr W140).1) (Keep.of_wr W142).1)
        have ne256 : b120 ≠ b143 := Nat.ne_of_lt (Nat.lt_of_lt_of_le (Nat.lt_of_lt_of_le V120.lt z257) (Nat.le_of_eq g143.symm))
        have f258 := (((f149.keep K150 (ninS ne254 nin0)).keep K157 (ninS ne256 nin0)).keep K253 nin0)
        have z259 := (Nat.le_trans (Nat.le_trans (Nat.le_trans (Nat.le_trans z146 E144.1) K150.1) K157.1) K253.1)
        exact tail_1_2 l Z a0 hw p1 p2 p3 b120 k120 b135 b143 (0 : Int32) l2 G1 G3 (own_c0 p1) (own_c p1 8) (own_c p1 16) (own_c p1 24) (own_c p1 32) (own_c p1 40) (own_c p1 48) x253 t253 kt253 (own_c0 p1) (own_c p1 8) h0 n0 X253 hx hby hml hown hZ hrt hlk T253.heap (rfl : T253.heap = T253.heap) N253 (Nat.le_trans Z0 z259) (f252.keep K253 all0) f258 Ex253 Fv253 Fc253 Vt253 O2 P5 O4 rG3 (fun c hc => own_c7 p1 c (by simp only [List.mem_cons, List.not_mem_nil, or_false] at hc ⊢; rcases hc with rfl | rfl <;> simp)) (by decide) rfl (by decide) rfl
    · subst q_l0
      rcases (h_l1 ▸ own_m3 ((p2.toUInt32 >>> ((8 : Int32) &&& 31).toUInt32).toInt32) : l1 = 0 ∨ l1 = 1 ∨ l1 = 2) with q_l1 | q_l1 | q_l1
      · subst q_l1
        show own_Go p e below (T157.setTop (mkF m 195 #[.val (.long p1), .second, .val (.int p2), .val (.int p3), .val (.ref b120), .val (.int (1 : Int32)), .val (.int (0 : Int32)), .val (.int l2), .val (.ref b135), .val (.int (1 : Int32)), .val (.ref b143), .unset, .unset, .unset] [])) _
        refine own_go (fun _ k => XS.aload X157.here hx rfl (hb hby at_195) rfl rfl k) ?_
        show own_Go p e below (T157.setTop (mkF m 197 #[.val (.long p1), .second, .val (.int p2), .val (.int p3), .val (.ref b120), .val (.int (1 : Int32)), .val (.int (0 : Int32)), .val (.int l2), .val (.ref b135), .val (.int (1 : Int32)), .val (.ref b143), .unset, .unset, .unset] [(.ref b143)])) _
        refine own_go (fun _ k => XS.iload X157.here hx rfl (hb hby at_197) rfl k) ?_
        show own_Go p e below (T157.setTop (mkF m 199 #[.val (.long p1), .second, .val (.int p2), .val (.int p3), .val (.ref b120), .val (.int (1 : Int32)), .val (.int (0 : Int32)), .val (.int l2), .val (.ref b135), .val (.int (1 : Int32)), .val (.ref b143), .unset, .unset, .unset] [(.int (1 : Int32)), (.ref b143)])) _
        have z261 := (Nat.le_trans (Nat.le_trans (Nat.le_trans (Keep.of_wr W137).1 (Keep.of_wr W140).1) (Keep.of_wr W142).1) E143.1)
        have ne260 : b135 ≠ b144 := Nat.ne_of_lt (Nat.lt_of_lt_of_le (Nat.lt_of_lt_of_le V135.lt z261) (Nat.le_of_eq g144.symm))
        have z263 := (Nat.le_trans (Nat.le_trans (Keep.of_wr W137).1 (Keep.of_wr W140).1) (Keep.of_wr W142).1)
        have ne262 : b135 ≠ b143 := Nat.ne_of_lt (Nat.lt_of_lt_of_le (Nat.lt_of_lt_of_le V135.lt z263) (Nat.le_of_eq g143.symm))
        have f264 := ((((V142.ext E143).ext E144).keep K150 (ninS ne260 nin0)).keep K157 (ninS ne262 nin0))
        have f265 := (Fv150.keep K157 (ninS (Ne.symm ne152) nin0))
        have f266 := (Fc150.keep K157 (ninS (Ne.symm ne152) nin0))
        have ne267 : b143 ≠ t150 := Nat.ne_of_lt (Nat.lt_of_lt_of_le (Nat.lt_of_lt_of_le A143.lt E144.1) tg150)
        have f268 := (Vt150.keep K157 (ninS (Ne.symm ne267) nin0))
        have f269 := (f156.keep K157 (allS (Nat.le_trans Z0 (Nat.le_trans z155 (Nat.le_of_eq g143.symm))) all0))
        obtain ⟨cq270, kq270, q270a, q270b, q270c⟩ := isOf hZ (rfl : T157.heap = T157.heap) (f151.keep K157)
        obtain ⟨v270, _, ⟨T270, L270, k270, n270⟩, -, X270, ⟨Lc270, hQ270, l270, y270, z270⟩, st270⟩ := X157.virtualBack hx (y := (⟨"com/example/sequela/sequela/Fields", "get", "(I)Ljava/lang/String;"⟩ : MethodName)) (z := (⟨"com/example/sequela/sequela/Fields", "get", "(I)Ljava/lang/String;"⟩ : MethodName)) hown (mvT hZ (hw _ (List.mem_of_getElem? (i := 49) rfl))) (mvT hZ (hw _ (List.mem_of_getElem? (i := 50) rfl))) (notFace_of_selects (args := #[]) (mvT hZ (hw _ (List.mem_of_getElem? (i := 52) rfl)))) (mvT hZ (hw _ (List.mem_of_getElem? (i := 52) rfl))) (mvT hZ (hw _ (List.mem_of_getElem? (i := 51) rfl))) (by decide) (backOf (W := 0) (rm_get_1N l Z a0 hw [] b143 b135 k135 b144 t150 kt150 G1 G3 ((1 : Int32) + l2) ((own_c0 p1)) ((own_c p1 8)) ((own_c p1 16)) ((own_c p1 24)) ((own_c p1 32)) ((own_c p1 40)) ((own_c p1 48)) (1 : Int32) T157.heap n0 f269 (f151.keep K157) Fe157 Ft157 f264 (Eq150.keep K157) f265 f266 f268 (own_c7 p1) O2 P5 O4 rG3) hZ (hw _ (List.mem_of_getElem? (i := 53) rfl)) (hw _ (List.mem_of_getElem? (i := 6) rfl)) (by decide) (by decide)) q270a q270c (g := (mkF m 199 #[.val (.long p1), .second, .val (.int p2), .val (.int p3), .val (.ref b120), .val (.int (1 : Int32)), .val (.int (0 : Int32)), .val (.int l2), .val (.ref b135), .val (.int (1 : Int32)), .val (.ref b143), .unset, .unset, .unset] [(.int (1 : Int32)), (.ref b143)])) rfl (by rw [hml]; rfl) (Steps.refl _) (argsL := [(.int (1 : Int32))]) (rest := []) (lenOf pd_15 rfl) rfl (by show 2 * 0 + _ ≤ _; exact Nat.le_of_eq rfl) (hb hby at_199) (fun _ _ => ⟨rfl, (rfl : T157.heap = T157.heap), (by decide : 5 + 0 ≤ _), (by decide : 23 + 0 ≤ _)⟩)
        dsimp only [Pt.U, Pt.locs, Pt.cells, Pt.slots] at X270 l270 y270 z270 st270 hQ270
        subst l270 y270 z270
        refine own_gos st270 ?_
        obtain ⟨rfl, Nq270, K270⟩ := hQ270
        have N270 := Fr.app N157 Nq270
        show own_Go p e below (T270.setTop (mkF m 202 #[.val (.long p1), .second, .val (.int p2), .val (.int p3), .val (.ref b120), .val (.int (1 : Int32)), .val (.int (0 : Int32)), .val (.int l2), .val (.ref b135), .val (.int (1 : Int32)), .val (.ref b143), .unset, .unset, .unset] [.null])) _
        have z272 := (Nat.le_trans (Nat.le_trans (Nat.le_trans (Nat.le_trans (Nat.le_trans z148 E135.1) (Keep.of_wr W137).1) (Keep.of_wr W140).1) (Keep.of_wr W142).1) E143.1)
        have ne271 : b120 ≠ b144 := Nat.ne_of_lt (Nat.lt_of_lt_of_le (Nat.lt_of_lt_of_le V120.lt z272) (Nat.le_of_eq g144.symm))
        have z274 := (Nat.le_trans (Nat.le_trans (Nat.le_trans (Nat.le_trans z148 E135.1) (Keep.of_wr W137).1) (Keep.of_wr W140).1) (Keep.of_wr W142).1)
        have ne273 : b120 ≠ b143 := Nat.ne_of_lt (Nat.lt_of_lt_of_le (Nat.lt_of_lt_of_le V120.lt z274) (Nat.le_of_eq g143.symm))
        have f275 := (((f149.keep K150 (ninS ne271 nin0)).keep K157 (ninS ne273 nin0)).keep K270 nin0)
        have z276 := (Nat.le_trans (Nat.le_trans (Nat.le_trans (Nat.le_trans z146 E144.1) K150.1) K157.1) K270.1)
        exact tail_1_0 l Z a0 hw p1 p2 p3 b120 k120 b135 b143 (1 : Int32) l2 G1 G3 (own_c0 p1) (own_c p1 8) (own_c p1 16) (own_c p1 24) (own_c p1 32) (own_c p1 40) (own_c p1 48) h0 n0 X270 hx hby hml hown hZ hrt hlk T270.heap (rfl : T270.heap = T270.heap) N270 (Nat.le_trans Z0 z276) (f269.keep K270 all0) f275 O2 P5 O4 rG3
      · subst q_l1
        show own_Go p e below (T157.setTop (mkF m 195 #[.val (.long p1), .second, .val (.int p2), .val (.int p3), .val (.ref b120), .val (.int (1 : Int32)), .val (.int (1 : Int32)), .val (.int l2), .val (.ref b135), .val (.int (1 : Int32)), .val (.ref b143), .unset, .unset, .unset] [])) _
        refine own_go (fun _ k => XS.aload X157.here hx rfl (hb hby at_195) rfl rfl k) ?_
        show own_Go p e below (T157.setTop (mkF m 197 #[.val (.long p1), .second, .val (.int p2), .val (.int p3), .val (.ref b120), .val (.int (1 : Int32)), .val (.int (1 : Int32)), .val (.int l2), .val (.ref b135), .val (.int (1 : Int32)), .val (.ref b143), .unset, .unset, .unset] [(.ref b143)])) _
        refine own_go (fun _ k => XS.iload X157.here hx rfl (hb hby at_197) rfl k) ?_
        show own_Go p e below (T157.setTop (mkF m 199 #[.val (.long p1), .second, .val (.int p2), .val (.int p3), .val (.ref b120), .val (.int (1 : Int32)), .val (.int (1 : Int32)), .val (.int l2), .val (.ref b135), .val (.int (1 : Int32)), .val (.ref b143), .unset, .unset, .unset] [(.int (1 : Int32)), (.ref b143)])) _
        have z278 := (Nat.le_trans (Nat.le_trans (Nat.le_trans (Keep.of_wr W137).1 (Keep.of_wr W140).1) (Keep.of_wr W142).1) E143.1)
        have ne277 : b135 ≠ b144 := Nat.ne_of_lt (Nat.lt_of_lt_of_le (Nat.lt_of_lt_of_le V135.lt z278) (Nat.le_of_eq g144.symm))
        have z280 := (Nat.le_trans (Nat.le_trans (Keep.of_wr W137).1 (Keep.of_wr W140).1) (Keep.of_wr W142).1)
        have ne279 : b135 ≠ b143 := Nat.ne_of_lt (Nat.lt_of_lt_of_le (Nat.lt_of_lt_of_le V135.lt z280) (Nat.le_of_eq g143.symm))
        have f281 := ((((V142.ext E143).ext E144).keep K150 (ninS ne277 nin0)).keep K157 (ninS ne279 nin0))
        have f282 := (Fv150.keep K157 (ninS (Ne.symm ne152) nin0))
        have f283 := (Fc150.keep K157 (ninS (Ne.symm ne152) nin0))
        have ne284 : b143 ≠ t150 := Nat.ne_of_lt (Nat.lt_of_lt_of_le (Nat.lt_of_lt_of_le A143.lt E144.1) tg150)
        have f285 := (Vt150.keep K157 (ninS (Ne.symm ne284) nin0))
        have f286 := (f156.keep K157 (allS (Nat.le_trans Z0 (Nat.le_trans z155 (Nat.le_of_eq g143.symm))) all0))
        obtain ⟨cq287, kq287, q287a, q287b, q287c⟩ := isOf hZ (rfl : T157.heap = T157.heap) (f151.keep K157)
        obtain ⟨v287, _, ⟨T287, L287, k287, n287⟩, -, X287, ⟨Lc287, hQ287, l287, y287, z287⟩, st287⟩ := X157.virtualBack hx (y := (⟨"com/example/sequela/sequela/Fields", "get", "(I)Ljava/lang/String;"⟩ : MethodName)) (z := (⟨"com/example/sequela/sequela/Fields", "get", "(I)Ljava/lang/String;"⟩ : MethodName)) hown (mvT hZ (hw _ (List.mem_of_getElem? (i := 49) rfl))) (mvT hZ (hw _ (List.mem_of_getElem? (i := 50) rfl))) (notFace_of_selects (args := #[]) (mvT hZ (hw _ (List.mem_of_getElem? (i := 52) rfl)))) (mvT hZ (hw _ (List.mem_of_getElem? (i := 52) rfl))) (mvT hZ (hw _ (List.mem_of_getElem? (i := 51) rfl))) (by decide) (backOf (W := 0) (rm_get_1S l Z a0 hw [] b143 b135 k135 b144 t150 kt150 G1 G3 ((2 : Int32) + l2) ((own_c0 p1)) ((own_c p1 8)) ((own_c p1 16)) ((own_c p1 24)) ((own_c p1 32)) ((own_c p1 40)) ((own_c p1 48)) (1 : Int32) (2 : Int32) (1 : Int32) ([(own_c p1 8)] : List Int32) T157.heap n0 f286 (f151.keep K157) Fe157 Ft157 f281 (Eq150.keep K157) f282 f283 f285 (own_c7 p1) O2 P5 O4 rG3 (by decide) (by unfold own_R; decide) rfl) hZ (hw _ (List.mem_of_getElem? (i := 53) rfl)) (hw _ (List.mem_of_getElem? (i := 6) rfl)) (by decide) (by decide)) q287a q287c (g := (mkF m 199 #[.val (.long p1), .second, .val (.int p2), .val (.int p3), .val (.ref b120), .val (.int (1 : Int32)), .val (.int (1 : Int32)), .val (.int l2), .val (.ref b135), .val (.int (1 : Int32)), .val (.ref b143), .unset, .unset, .unset] [(.int (1 : Int32)), (.ref b143)])) rfl (by rw [hml]; rfl) (Steps.refl _) (argsL := [(.int (1 : Int32))]) (rest := []) (lenOf pd_15 rfl) rfl (by show 2 * 0 + _ ≤ _; exact Nat.le_of_eq rfl) (hb hby at_199) (fun _ _ => ⟨rfl, (rfl : T157.heap = T157.heap), (by decide : 5 + 2 ≤ _), (by decide : 23 + 6 ≤ _)⟩)
        dsimp only [Pt.U, Pt.locs, Pt.cells, Pt.slots] at X287 l287 y287 z287 st287 hQ287
        subst l287 y287 z287
        refine own_gos st287 ?_
        obtain ⟨x287, t287, kt287, rfl, Nq287, K287, xg287, tg287, Ex287, Fv287, Fc287, Vt287⟩ := hQ287
        have N287 := Fr.app N157 Nq287
        show own_Go p e below (T287.setTop (mkF m 202 #[.val (.long p1), .second, .val (.int p2), .val (.int p3), .val (.ref b120), .val (.int (1 : Int32)), .val (.int (1 : Int32)), .val (.int l2), .val (.ref b135), .val (.int (1 : Int32)), .val (.ref b143), .unset, .unset, .unset] [(.ref x287)])) _
        have z289 := (Nat.le_trans (Nat.le_trans (Nat.le_trans (Nat.le_trans (Nat.le_trans z148 E135.1) (Keep.of_wr W137).1) (Keep.of_wr W140).1) (Keep.of_wr W142).1) E143.1)
        have ne288 : b120 ≠ b144 := Nat.ne_of_lt (Nat.lt_of_lt_of_le (Nat.lt_of_lt_of_le V120.lt z289) (Nat.le_of_eq g144.symm))
        have z291 := (Nat.le_trans (Nat.le_trans (Nat.le_trans (Nat.le_trans z148 E135.1) (Keep.of_wr W137).1) (Keep.of_wr W140).1) (Keep.of_wr W142).1)
        have ne290 : b120 ≠ b143 := Nat.ne_of_lt (Nat.lt_of_lt_of_le (Nat.lt_of_lt_of_le V120.lt z291) (Nat.le_of_eq g143.symm))
        have f292 := (((f149.keep K150 (ninS ne288 nin0)).keep K157 (ninS ne290 nin0)).keep K287 nin0)
        have z293 := (Nat.le_trans (Nat.le_trans (Nat.le_trans (Nat.le_trans z146 E144.1) K150.1) K157.1) K287.1)
        exact tail_1_1 l Z a0 hw p1 p2 p3 b120 k120 b135 b143 (1 : Int32) l2 G1 G3 (own_c0 p1) (own_c p1 8) (own_c p1 16) (own_c p1 24) (own_c p1 32) (own_c p1 40) (own_c p1 48) x287 t287 kt287 (own_c p1 8) h0 n0 X287 hx hby hml hown hZ hrt hlk T287.heap (rfl : T287.heap = T287.heap) N287 (Nat.le_trans Z0 z293) (f286.keep K287 all0) f292 Ex287 Fv287 Fc287 Vt287 O2 P5 O4 rG3 (fun c hc => own_c7 p1 c (by simp only [List.mem_cons, List.not_mem_nil, or_false] at hc ⊢; rcases hc with rfl <;> simp)) (by decide) rfl
      · subst q_l1
        show own_Go p e below (T157.setTop (mkF m 195 #[.val (.long p1), .second, .val (.int p2), .val (.int p3), .val (.ref b120), .val (.int (1 : Int32)), .val (.int (2 : Int32)), .val (.int l2), .val (.ref b135), .val (.int (1 : Int32)), .val (.ref b143), .unset, .unset, .unset] [])) _
        refine own_go (fun _ k => XS.aload X157.here hx rfl (hb hby at_195) rfl rfl k) ?_
        show own_Go p e below (T157.setTop (mkF m 197 #[.val (.long p1), .second, .val (.int p2), .val (.int p3), .val (.ref b120), .val (.int (1 : Int32)), .val (.int (2 : Int32)), .val (.int l2), .val (.ref b135), .val (.int (1 : Int32)), .val (.ref b143), .unset, .unset, .unset] [(.ref b143)])) _
        refine own_go (fun _ k => XS.iload X157.here hx rfl (hb hby at_197) rfl k) ?_
        show own_Go p e below (T157.setTop (mkF m 199 #[.val (.long p1), .second, .val (.int p2), .val (.int p3), .val (.ref b120), .val (.int (1 : Int32)), .val (.int (2 : Int32)), .val (.int l2), .val (.ref b135), .val (.int (1 : Int32)), .val (.ref b143), .unset, .unset, .unset] [(.int (1 : Int32)), (.ref b143)])) _
        have z295 := (Nat.le_trans (Nat.le_trans (Nat.le_trans (Keep.of_wr W137).1 (Keep.of_wr W140).1) (Keep.of_wr W142).1) E143.1)
        have ne294 : b135 ≠ b144 := Nat.ne_of_lt (Nat.lt_of_lt_of_le (Nat.lt_of_lt_of_le V135.lt z295) (Nat.le_of_eq g144.symm))
        have z297 := (Nat.le_trans (Nat.le_trans (Keep.of_wr W137).1 (Keep.of_wr W140).1) (Keep.of_wr W142).1)
        have ne296 : b135 ≠ b143 := Nat.ne_of_lt (Nat.lt_of_lt_of_le (Nat.lt_of_lt_of_le V135.lt z297) (Nat.le_of_eq g143.symm))
        have f298 := ((((V142.ext E143).ext E144).keep K150 (ninS ne294 nin0)).keep K157 (ninS ne296 nin0))
        have f299 := (Fv150.keep K157 (ninS (Ne.symm ne152) nin0))
        have f300 := (Fc150.keep K157 (ninS (Ne.symm ne152) nin0))
        have ne301 : b143 ≠ t150 := Nat.ne_of_lt (Nat.lt_of_lt_of_le (Nat.lt_of_lt_of_le A143.lt E144.1) tg150)
        have f302 := (Vt150.keep K157 (ninS (Ne.symm ne301) nin0))
        have f303 := (f156.keep K157 (allS (Nat.le_trans Z0 (Nat.le_trans z155 (Nat.le_of_eq g143.symm))) all0))
        obtain ⟨cq304, kq304, q304a, q304b, q304c⟩ := isOf hZ (rfl : T157.heap = T157.heap) (f151.keep K157)
        obtain ⟨v304, _, ⟨T304, L304, k304, n304⟩, -, X304, ⟨Lc304, hQ304, l304, y304, z304⟩, st304⟩ := X157.virtualBack hx (y := (⟨"com/example/sequela/sequela/Fields", "get", "(I)Ljava/lang/String;"⟩ : MethodName)) (z := (⟨"com/example/sequela/sequela/Fields", "get", "(I)Ljava/lang/String;"⟩ : MethodName)) hown (mvT hZ (hw _ (List.mem_of_getElem? (i := 49) rfl))) (mvT hZ (hw _ (List.mem_of_getElem? (i := 50) rfl))) (notFace_of_selects (args := #[]) (mvT hZ (hw _ (List.mem_of_getElem? (i := 52) rfl)))) (mvT hZ (hw _ (List.mem_of_getElem? (i := 52) rfl))) (mvT hZ (hw _ (List.mem_of_getElem? (i := 51) rfl))) (by decide) (backOf (W := 0) (rm_get_1S l Z a0 hw [] b143 b135 k135 b144 t150 kt150 G1 G3 ((3 : Int32) + l2) ((own_c0 p1)) ((own_c p1 8)) ((own_c p1 16)) ((own_c p1 24)) ((own_c p1 32)) ((own_c p1 40)) ((own_c p1 48)) (1 : Int32) (3 : Int32) (2 : Int32) ([(own_c p1 8), (own_c p1 16)] : List Int32) T157.heap n0 f303 (f151.keep K157) Fe157 Ft157 f298 (Eq150.keep K157) f299 f300 f302 (own_c7 p1) O2 P5 O4 rG3 (by decide) (by unfold own_R; decide) rfl) hZ (hw _ (List.mem_of_getElem? (i := 53) rfl)) (hw _ (List.mem_of_getElem? (i := 6) rfl)) (by decide) (by decide)) q304a q304c (g := (mkF m 199 #[.val (.long p1), .second, .val (.int p2), .val (.int p3), .val (.ref b120), .val (.int (1 : Int32)), .val (.int (2 : Int32)), .val (.int l2), .val (.ref b135), .val (.int (1 : Int32)), .val (.ref b143), .unset, .unset, .unset] [(.int (1 : Int32)), (.ref b143)])) rfl (by rw [hml]; rfl) (Steps.refl _) (argsL := [(.int (1 : Int32))]) (rest := []) (lenOf pd_15 rfl) rfl (by show 2 * 0 + _ ≤ _; exact Nat.le_of_eq rfl) (hb hby at_199) (fun _ _ => ⟨rfl, (rfl : T157.heap = T157.heap), (by decide : 5 + 2 ≤ _), (by decide : 23 + 6 ≤ _)⟩)
        dsimp only [Pt.U, Pt.locs, Pt.cells, Pt.slots] at X304 l304 y304 z304 st304 hQ304
        subst l304 y304 z304
        refine own_gos st304 ?_
        obtain ⟨x304, t304, kt304, rfl, Nq304, K304, xg304, tg304, Ex304, Fv304, Fc304, Vt304⟩ := hQ304
        have N304 := Fr.app N157 Nq304
        show own_Go p e below (T304.setTop (mkF m 202 #[.val (.long p1), .second, .val (.int p2), .val (.int p3), .val (.ref b120), .val (.int (1 : Int32)), .val (.int (2 : Int32)), .val (.int l2), .val (.ref b135), .val (.int (1 : Int32)), .val (.ref b143), .unset, .unset, .unset] [(.ref x304)])) _
        have z306 := (Nat.le_trans (Nat.le_trans (Nat.le_trans (Nat.le_trans (Nat.le_trans z148 E135.1) (Keep.of_wr W137).1) (Keep.of_wr W140).1) (Keep.of_wr W142).1) E143.1)
        have ne305 : b120 ≠ b144 := Nat.ne_of_lt (Nat.lt_of_lt_of_le (Nat.lt_of_lt_of_le V120.lt z306) (Nat.le_of_eq g144.symm))
        have z308 := (Nat.le_trans (Nat.le_trans (Nat.le_trans (Nat.le_trans z148 E135.1) (Keep.of_wr W137).1) (Keep.of_wr W140).1) (Keep.of_wr W142).1)
        have ne307 : b120 ≠ b143 := Nat.ne_of_lt (Nat.lt_of_lt_of_le (Nat.lt_of_lt_of_le V120.lt z308) (Nat.le_of_eq g143.symm))
        have f309 := (((f149.keep K150 (ninS ne305 nin0)).keep K157 (ninS ne307 nin0)).keep K304 nin0)
        have z310 := (Nat.le_trans (Nat.le_trans (Nat.le_trans (Nat.le_trans z146 E144.1) K150.1) K157.1) K304.1)
        exact tail_1_2 l Z a0 hw p1 p2 p3 b120 k120 b135 b143 (1 : Int32) l2 G1 G3 (own_c0 p1) (own_c p1 8) (own_c p1 16) (own_c p1 24) (own_c p1 32) (own_c p1 40) (own_c p1 48) x304 t304 kt304 (own_c p1 8) (own_c p1 16) h0 n0 X304 hx hby hml hown hZ hrt hlk T304.heap (rfl : T304.heap = T304.heap) N304 (Nat.le_trans Z0 z310) (f303.keep K304 all0) f309 Ex304 Fv304 Fc304 Vt304 O2 P5 O4 rG3 (fun c hc => own_c7 p1 c (by simp only [List.mem_cons, List.not_mem_nil, or_false] at hc ⊢; rcases hc with rfl | rfl <;> simp)) (by decide) rfl (by decide) rfl
    · subst q_l0
      rcases (h_l1 ▸ own_m3 ((p2.toUInt32 >>> ((8 : Int32) &&& 31).toUInt32).toInt32) : l1 = 0 ∨ l1 = 1 ∨ l1 = 2) with q_l1 | q_l1 | q_l1
      · subst q_l1
        show own_Go p e below (T157.setTop (mkF m 195 #[.val (.long p1), .second, .val (.int p2), .val (.int p3), .val (.ref b120), .val (.int (2 : Int32)), .val (.int (0 : Int32)), .val (.int l2), .val (.ref b135), .val (.int (1 : Int32)), .val (.ref b143), .unset, .unset, .unset] [])) _
        refine own_go (fun _ k => XS.aload X157.here hx rfl (hb hby at_195) rfl rfl k) ?_
        show own_Go p e below (T157.setTop (mkF m 197 #[.val (.long p1), .second, .val (.int p2), .val (.int p3), .val (.ref b120), .val (.int (2 : Int32)), .val (.int (0 : Int32)), .val (.int l2), .val (.ref b135), .val (.int (1 : Int32)), .val (.ref b143), .unset, .unset, .unset] [(.ref b143)])) _
        refine own_go (fun _ k => XS.iload X157.here hx rfl (hb hby at_197) rfl k) ?_
        show own_Go p e below (T157.setTop (mkF m 199 #[.val (.long p1), .second, .val (.int p2), .val (.int p3), .val (.ref b120), .val (.int (2 : Int32)), .val (.int (0 : Int32)), .val (.int l2), .val (.ref b135), .val (.int (1 : Int32)), .val (.ref b143), .unset, .unset, .unset] [(.int (1 : Int32)), (.ref b143)])) _
        have z312 := (Nat.le_trans (Nat.le_trans (Nat.le_trans (Keep.of_wr W137).1 (Keep.of_wr W140).1) (Keep.of_wr W142).1) E143.1)
        have ne311 : b135 ≠ b144 := Nat.ne_of_lt (Nat.lt_of_lt_of_le (Nat.lt_of_lt_of_le V135.lt z312) (Nat.le_of_eq g144.symm))
        have z314 := (Nat.le_trans (Nat.le_trans (Keep.of_wr W137).1 (Keep.of_wr W140).1) (Keep.of_wr W142).1)
        have ne313 : b135 ≠ b143 := Nat.ne_of_lt (Nat.lt_of_lt_of_le (Nat.lt_of_lt_of_le V135.lt z314) (Nat.le_of_eq g143.symm))
        have f315 := ((((V142.ext E143).ext E144).keep K150 (ninS ne311 nin0)).keep K157 (ninS ne313 nin0))
        have f316 := (Fv150.keep K157 (ninS (Ne.symm ne152) nin0))
        have f317 := (Fc150.keep K157 (ninS (Ne.symm ne152) nin0))
        have ne318 : b143 ≠ t150 := Nat.ne_of_lt (Nat.lt_of_lt_of_le (Nat.lt_of_lt_of_le A143.lt E144.1) tg150)
        have f319 := (Vt150.keep K157 (ninS (Ne.symm ne318) nin0))
        have f320 := (f156.keep K157 (allS (Nat.le_trans Z0 (Nat.le_trans z155 (Nat.le_of_eq g143.symm))) all0))
        obtain ⟨cq321, kq321, q321a, q321b, q321c⟩ := isOf hZ (rfl : T157.heap = T157.heap) (f151.keep K157)
        obtain ⟨v321, _, ⟨T321, L321, k321, n321⟩, -, X321, ⟨Lc321, hQ321, l321, y321, z321⟩, st321⟩ := X157.virtualBack hx (y := (⟨"com/example/sequela/sequela/Fields", "get", "(I)Ljava/lang/String;"⟩ : MethodName)) (z := (⟨"com/example/sequela/sequela/Fields", "get", "(I)Ljava/lang/String;"⟩ : MethodName)) hown (mvT hZ (hw _ (List.mem_of_getElem? (i := 49) rfl))) (mvT hZ (hw _ (List.mem_of_getElem? (i := 50) rfl))) (notFace_of_selects (args := #[]) (mvT hZ (hw _ (List.mem_of_getElem? (i := 52) rfl)))) (mvT hZ (hw _ (List.mem_of_getElem? (i := 52) rfl))) (mvT hZ (hw _ (List.mem_of_getElem? (i := 51) rfl))) (by decide) (backOf (W := 0) (rm_get_1N l Z a0 hw [] b143 b135 k135 b144 t150 kt150 G1 G3 ((2 : Int32) + l2) ((own_c0 p1)) ((own_c p1 8)) ((own_c p1 16)) ((own_c p1 24)) ((own_c p1 32)) ((own_c p1 40)) ((own_c p1 48)) (2 : Int32) T157.heap n0 f320 (f151.keep K157) Fe157 Ft157 f315 (Eq150.keep K157) f316 f317 f319 (own_c7 p1) O2 P5 O4 rG3) hZ (hw _ (List.mem_of_getElem? (i := 53) rfl)) (hw _ (List.mem_of_getElem? (i := 6) rfl)) (by decide) (by decide)) q321a q321c (g := (mkF m 199 #[.val (.long p1), .second, .val (.int p2), .val (.int p3), .val (.ref b120), .val (.int (2 : Int32)), .val (.int (0 : Int32)), .val (.int l2), .val (.ref b135), .val (.int (1 : Int32)), .val (.ref b143), .unset, .unset, .unset] [(.int (1 : Int32)), (.ref b143)])) rfl (by rw [hml]; rfl) (Steps.refl _) (argsL := [(.int (1 : Int32))]) (rest := []) (lenOf pd_15 rfl) rfl (by show 2 * 0 + _ ≤ _; exact Nat.le_of_eq rfl) (hb hby at_199) (fun _ _ => ⟨rfl, (rfl : T157.heap = T157.heap), (by decide : 5 + 0 ≤ _), (by decide : 23 + 0 ≤ _)⟩)
        dsimp only [Pt.U, Pt.locs, Pt.cells, Pt.slots] at X321 l321 y321 z321 st321 hQ321
        subst l321 y321 z321
        refine own_gos st321 ?_
        obtain ⟨rfl, Nq321, K321⟩ := hQ321
        have N321 := Fr.app N157 Nq321
        show own_Go p e below (T321.setTop (mkF m 202 #[.val (.long p1), .second, .val (.int p2), .val (.int p3), .val (.ref b120), .val (.int (2 : Int32)), .val (.int (0 : Int32)), .val (.int l2), .val (.ref b135), .val (.int (1 : Int32)), .val (.ref b143), .unset, .unset, .unset] [.null])) _
        have z323 := (Nat.le_trans (Nat.le_trans (Nat.le_trans (Nat.le_trans (Nat.le_trans z148 E135.1) (Keep.of_wr W137).1) (Keep.of_wr W140).1) (Keep.of_wr W142).1) E143.1)
        have ne322 : b120 ≠ b144 := Nat.ne_of_lt (Nat.lt_of_lt_of_le (Nat.lt_of_lt_of_le V120.lt z323) (Nat.le_of_eq g144.symm))
        have z325 := (Nat.le_trans (Nat.le_trans (Nat.le_trans (Nat.le_trans z148 E135.1) (Keep.of_wr W137).1) (Keep.of_wr W140).1) (Keep.of_wr W142).1)
        have ne324 : b120 ≠ b143 := Nat.ne_of_lt (Nat.lt_of_lt_of_le (Nat.lt_of_lt_of_le V120.lt z325) (Nat.le_of_eq g143.symm))
        have f326 := (((f149.keep K150 (ninS ne322 nin0)).keep K157 (ninS ne324 nin0)).keep K321 nin0)
        have z327 := (Nat.le_trans (Nat.le_trans (Nat.le_trans (Nat.le_trans z146 E144.1) K150.1) K157.1) K321.1)
        exact tail_1_0 l Z a0 hw p1 p2 p3 b120 k120 b135 b143 (2 : Int32) l2 G1 G3 (own_c0 p1) (own_c p1 8) (own_c p1 16) (own_c p1 24) (own_c p1 32) (own_c p1 40) (own_c p1 48) h0 n0 X321 hx hby hml hown hZ hrt hlk T321.heap (rfl : T321.heap = T321.heap) N321 (Nat.le_trans Z0 z327) (f320.keep K321 all0) f326 O2 P5 O4 rG3
      · subst q_l1
        show own_Go p e below (T157.setTop (mkF m 195 #[.val (.long p1), .second, .val (.int p2), .val (.int p3), .val (.ref b120), .val (.int (2 : Int32)), .val (.int (1 : Int32)), .val (.int l2), .val (.ref b135), .val (.int (1 : Int32)), .val (.ref b143), .unset, .unset, .unset] [])) _
        refine own_go (fun _ k => XS.aload X157.here hx rfl (hb hby at_195) rfl rfl k) ?_
        show own_Go p e below (T157.setTop (mkF m 197 #[.val (.long p1), .second, .val (.int p2), .val (.int p3), .val (.ref b120), .val (.int (2 : Int32)), .val (.int (1 : Int32)), .val (.int l2), .val (.ref b135), .val (.int (1 : Int32)), .val (.ref b143), .unset, .unset, .unset] [(.ref b143)])) _
        refine own_go (fun _ k => XS.iload X157.here hx rfl (hb hby at_197) rfl k) ?_
        show own_Go p e below (T157.setTop (mkF m 199 #[.val (.long p1), .second, .val (.int p2), .val (.int p3), .val (.ref b120), .val (.int (2 : Int32)), .val (.int (1 : Int32)), .val (.int l2), .val (.ref b135), .val (.int (1 : Int32)), .val (.ref b143), .unset, .unset, .unset] [(.int (1 : Int32)), (.ref b143)])) _
        have z329 := (Nat.le_trans (Nat.le_trans (Nat.le_trans (Keep.of_wr W137).1 (Keep.of_wr W140).1) (Keep.of_wr W142).1) E143.1)
        have ne328 : b135 ≠ b144 := Nat.ne_of_lt (Nat.lt_of_lt_of_le (Nat.lt_of_lt_of_le V135.lt z329) (Nat.le_of_eq g144.symm))
        have z331 := (Nat.le_trans (Nat.le_trans (Keep.of_wr W137).1 (Keep.of_wr W140).1) (Keep.of_wr W142).1)
        have ne330 : b135 ≠ b143 := Nat.ne_of_lt (Nat.lt_of_lt_of_le (Nat.lt_of_lt_of_le V135.lt z331) (Nat.le_of_eq g143.symm))
        have f332 := ((((V142.ext E143).ext E144).keep K150 (ninS ne328 nin0)).keep K157 (ninS ne330 nin0))
        have f333 := (Fv150.keep K157 (ninS (Ne.symm ne152) nin0))
        have f334 := (Fc150.keep K157 (ninS (Ne.symm ne152) nin0))
        have ne335 : b143 ≠ t150 := Nat.ne_of_lt (Nat.lt_of_lt_of_le (Nat.lt_of_lt_of_le A143.lt E144.1) tg150)
        have f336 := (Vt150.keep K157 (ninS (Ne.symm ne335) nin0))
        have f337 := (f156.keep K157 (allS (Nat.le_trans Z0 (Nat.le_trans z155 (Nat.le_of_eq g143.symm))) all0))
        obtain ⟨cq338, kq338, q338a, q338b, q338c⟩ := isOf hZ (rfl : T157.heap = T157.heap) (f151.keep K157)
        obtain ⟨v338, _, ⟨T338, L338, k338, n338⟩, -, X338, ⟨Lc338, hQ338, l338, y338, z338⟩, st338⟩ := X157.virtualBack hx (y := (⟨"com/example/sequela/sequela/Fields", "get", "(I)Ljava/lang/String;"⟩ : MethodName)) (z := (⟨"com/example/sequela/sequela/Fields", "get", "(I)Ljava/lang/String;"⟩ : MethodName)) hown (mvT hZ (hw _ (List.mem_of_getElem? (i := 49) rfl))) (mvT hZ (hw _ (List.mem_of_getElem? (i := 50) rfl))) (notFace_of_selects (args := #[]) (mvT hZ (hw _ (List.mem_of_getElem? (i := 52) rfl)))) (mvT hZ (hw _ (List.mem_of_getElem? (i := 52) rfl))) (mvT hZ (hw _ (List.mem_of_getElem? (i := 51) rfl))) (by decide) (backOf (W := 0) (rm_get_1S l Z a0 hw [] b143 b135 k135 b144 t150 kt150 G1 G3 ((3 : Int32) + l2) ((own_c0 p1)) ((own_c p1 8)) ((own_c p1 16)) ((own_c p1 24)) ((own_c p1 32)) ((own_c p1 40)) ((own_c p1 48)) (2 : Int32) (3 : Int32) (1 : Int32) ([(own_c p1 16)] : List Int32) T157.heap n0 f337 (f151.keep K157) Fe157 Ft157 f332 (Eq150.keep K157) f333 f334 f336 (own_c7 p1) O2 P5 O4 rG3 (by decide) (by unfold own_R; decide) rfl) hZ (hw _ (List.mem_of_getElem? (i := 53) rfl)) (hw _ (List.mem_of_getElem? (i := 6) rfl)) (by decide) (by decide)) q338a q338c (g := (mkF m 199 #[.val (.long p1), .second, .val (.int p2), .val (.int p3), .val (.ref b120), .val (.int (2 : Int32)), .val (.int (1 : Int32)), .val (.int l2), .val (.ref b135), .val (.int (1 : Int32)), .val (.ref b143), .unset, .unset, .unset] [(.int (1 : Int32)), (.ref b143)])) rfl (by rw [hml]; rfl) (Steps.refl _) (argsL := [(.int (1 : Int32))]) (rest := []) (lenOf pd_15 rfl) rfl (by show 2 * 0 + _ ≤ _; exact Nat.le_of_eq rfl) (hb hby at_199) (fun _ _ => ⟨rfl, (rfl : T157.heap = T157.heap), (by decide : 5 + 2 ≤ _), (by decide : 23 + 6 ≤ _)⟩)
        dsimp only [Pt.U, Pt.locs, Pt.cells, Pt.slots] at X338 l338 y338 z338 st338 hQ338
        subst l338 y338 z338
        refine own_gos st338 ?_
        obtain ⟨x338, t338, kt338, rfl, Nq338, K338, xg338, tg338, Ex338, Fv338, Fc338, Vt338⟩ := hQ338
        have N338 := Fr.app N157 Nq338
        show own_Go p e below (T338.setTop (mkF m 202 #[.val (.long p1), .second, .val (.int p2), .val (.int p3), .val (.ref b120), .val (.int (2 : Int32)), .val (.int (1 : Int32)), .val (.int l2), .val (.ref b135), .val (.int (1 : Int32)), .val (.ref b143), .unset, .unset, .unset] [(.ref x338)])) _
        have z340 := (Nat.le_trans (Nat.le_trans (Nat.le_trans (Nat.le_trans (Nat.le_trans z148 E135.1) (Keep.of_wr W137).1) (Keep.of_wr W140).1) (Keep.of_wr W142).1) E143.1)
        have ne339 : b120 ≠ b144 := Nat.ne_of_lt (Nat.lt_of_lt_of_le (Nat.lt_of_lt_of_le V120.lt z340) (Nat.le_of_eq g144.symm))
        have z342 := (Nat.le_trans (Nat.le_trans (Nat.le_trans (Nat.le_trans z148 E135.1) (Keep.of_wr W137).1) (Keep.of_wr W140).1) (Keep.of_wr W142).1)
        have ne341 : b120 ≠ b143 := Nat.ne_of_lt (Nat.lt_of_lt_of_le (Nat.lt_of_lt_of_le V120.lt z342) (Nat.le_of_eq g143.symm))
        have f343 := (((f149.keep K150 (ninS ne339 nin0)).keep K157 (ninS ne341 nin0)).keep K338 nin0)
        have z344 := (Nat.le_trans (Nat.le_trans (Nat.le_trans (Nat.le_trans z146 E144.1) K150.1) K157.1) K338.1)
        exact tail_1_1 l Z a0 hw p1 p2 p3 b120 k120 b135 b143 (2 : Int32) l2 G1 G3 (own_c0 p1) (own_c p1 8) (own_c p1 16) (own_c p1 24) (own_c p1 32) (own_c p1 40) (own_c p1 48) x338 t338 kt338 (own_c p1 16) h0 n0 X338 hx hby hml hown hZ hrt hlk T338.heap (rfl : T338.heap = T338.heap) N338 (Nat.le_trans Z0 z344) (f337.keep K338 all0) f343 Ex338 Fv338 Fc338 Vt338 O2 P5 O4 rG3 (fun c hc => own_c7 p1 c (by simp only [List.mem_cons, List.not_mem_nil, or_false] at hc ⊢; rcases hc with rfl <;> simp)) (by decide) rfl
      · subst q_l1
        show own_Go p e below (T157.setTop (mkF m 195 #[.val (.long p1), .second, .val (.int p2), .val (.int p3), .val (.ref b120), .val (.int (2 : Int32)), .val (.int (2 : Int32)), .val (.int l2), .val (.ref b135), .val (.int (1 : Int32)), .val (.ref b143), .unset, .unset, .unset] [])) _
        refine own_go (fun _ k => XS.aload X157.here hx rfl (hb hby at_195) rfl rfl k) ?_
        show own_Go p e below (T157.setTop (mkF m 197 #[.val (.long p1), .second, .val (.int p2), .val (.int p3), .val (.ref b120), .val (.int (2 : Int32)), .val (.int (2 : Int32)), .val (.int l2), .val (.ref b135), .val (.int (1 : Int32)), .val (.ref b143), .unset, .unset, .unset] [(.ref b143)])) _
        refine own_go (fun _ k => XS.iload X157.here hx rfl (hb hby at_197) rfl k) ?_
        show own_Go p e below (T157.setTop (mkF m 199 #[.val (.long p1), .second, .val (.int p2), .val (.int p3), .val (.ref b120), .val (.int (2 : Int32)), .val (.int (2 : Int32)), .val (.int l2), .val (.ref b135), .val (.int (1 : Int32)), .val (.ref b143), .unset, .unset, .unset] [(.int (1 : Int32)), (.ref b143)])) _
        have z346 := (Nat.le_trans (Nat.le_trans (Nat.le_trans (Keep.of_wr W137).1 (Keep.of_wr W140).1) (Keep.of_wr W142).1) E143.1)
        have ne345 : b135 ≠ b144 := Nat.ne_of_lt (Nat.lt_of_lt_of_le (Nat.lt_of_lt_of_le V135.lt z346) (Nat.le_of_eq g144.symm))
        have z348 := (Nat.le_trans (Nat.le_trans (Keep.of_wr W137).1 (Keep.of_wr W140).1) (Keep.of_wr W142).1)
        have ne347 : b135 ≠ b143 := Nat.ne_of_lt (Nat.lt_of_lt_of_le (Nat.lt_of_lt_of_le V135.lt z348) (Nat.le_of_eq g143.symm))
        have f349 := ((((V142.ext E143).ext E144).keep K150 (ninS ne345 nin0)).keep K157 (ninS ne347 nin0))
        have f350 := (Fv150.keep K157 (ninS (Ne.symm ne152) nin0))
        have f351 := (Fc150.keep K157 (ninS (Ne.symm ne152) nin0))
        have ne352 : b143 ≠ t150 := Nat.ne_of_lt (Nat.lt_of_lt_of_le (Nat.lt_of_lt_of_le A143.lt E144.1) tg150)
        have f353 := (Vt150.keep K157 (ninS (Ne.symm ne352) nin0))
        have f354 := (f156.keep K157 (allS (Nat.le_trans Z0 (Nat.le_trans z155 (Nat.le_of_eq g143.symm))) all0))
        obtain ⟨cq355, kq355, q355a, q355b, q355c⟩ := isOf hZ (rfl : T157.heap = T157.heap) (f151.keep K157)
        obtain ⟨v355, _, ⟨T355, L355, k355, n355⟩, -, X355, ⟨Lc355, hQ355, l355, y355, z355⟩, st355⟩ := X157.virtualBack hx (y := (⟨"com/example/sequela/sequela/Fields", "get", "(I)Ljava/lang/String;"⟩ : MethodName)) (z := (⟨"com/example/sequela/sequela/Fields", "get", "(I)Ljava/lang/String;"⟩ : MethodName)) hown (mvT hZ (hw _ (List.mem_of_getElem? (i := 49) rfl))) (mvT hZ (hw _ (List.mem_of_getElem? (i := 50) rfl))) (notFace_of_selects (args := #[]) (mvT hZ (hw _ (List.mem_of_getElem? (i := 52) rfl)))) (mvT hZ (hw _ (List.mem_of_getElem? (i := 52) rfl))) (mvT hZ (hw _ (List.mem_of_getElem? (i := 51) rfl))) (by decide) (backOf (W := 0) (rm_get_1S l Z a0 hw [] b143 b135 k135 b144 t150 kt150 G1 G3 ((4 : Int32) + l2) ((own_c0 p1)) ((own_c p1 8)) ((own_c p1 16)) ((own_c p1 24)) ((own_c p1 32)) ((own_c p1 40)) ((own_c p1 48)) (2 : Int32) (4 : Int32) (2 : Int32) ([(own_c p1 16), (own_c p1 24)] : List Int32) T157.heap n0 f354 (f151.keep K157) Fe157 Ft157 f349 (Eq150.keep K157) f350 f351 f353 (own_c7 p1) O2 P5 O4 rG3 (by decide) (by unfold own_R; decide) rfl) hZ (hw _ (List.mem_of_getElem? (i := 53) rfl)) (hw _ (List.mem_of_getElem? (i := 6) rfl)) (by decide) (by decide)) q355a q355c (g := (mkF m 199 #[.val (.long p1), .second, .val (.int p2), .val (.int p3), .val (.ref b120), .val (.int (2 : Int32)), .val (.int (2 : Int32)), .val (.int l2), .val (.ref b135), .val (.int (1 : Int32)), .val (.ref b143), .unset, .unset, .unset] [(.int (1 : Int32)), (.ref b143)])) rfl (by rw [hml]; rfl) (Steps.refl _) (argsL := [(.int (1 : Int32))]) (rest := []) (lenOf pd_15 rfl) rfl (by show 2 * 0 + _ ≤ _; exact Nat.le_of_eq rfl) (hb hby at_199) (fun _ _ => ⟨rfl, (rfl : T157.heap = T157.heap), (by decide : 5 + 2 ≤ _), (by decide : 23 + 6 ≤ _)⟩)
        dsimp only [Pt.U, Pt.locs, Pt.cells, Pt.slots] at X355 l355 y355 z355 st355 hQ355
        subst l355 y355 z355
        refine own_gos st355 ?_
        obtain ⟨x355, t355, kt355, rfl, Nq355, K355, xg355, tg355, Ex355, Fv355, Fc355, Vt355⟩ := hQ355
        have N355 := Fr.app N157 Nq355
        show own_Go p e below (T355.setTop (mkF m 202 #[.val (.long p1), .second, .val (.int p2), .val (.int p3), .val (.ref b120), .val (.int (2 : Int32)), .val (.int (2 : Int32)), .val (.int l2), .val (.ref b135), .val (.int (1 : Int32)), .val (.ref b143), .unset, .unset, .unset] [(.ref x355)])) _
        have z357 := (Nat.le_trans (Nat.le_trans (Nat.le_trans (Nat.le_trans (Nat.le_trans z148 E135.1) (Keep.of_wr W137).1) (Keep.of_wr W140).1) (Keep.of_wr W142).1) E143.1)
        have ne356 : b120 ≠ b144 := Nat.ne_of_lt (Nat.lt_of_lt_of_le (Nat.lt_of_lt_of_le V120.lt z357) (Nat.le_of_eq g144.symm))
        have z359 := (Nat.le_trans (Nat.le_trans (Nat.le_trans (Nat.le_trans z148 E135.1) (Keep.of_wr W137).1) (Keep.of_wr W140).1) (Keep.of_wr W142).1)
        have ne358 : b120 ≠ b143 := Nat.ne_of_lt (Nat.lt_of_lt_of_le (Nat.lt_of_lt_of_le V120.lt z359) (Nat.le_of_eq g143.symm))
        have f360 := (((f149.keep K150 (ninS ne356 nin0)).keep K157 (ninS ne358 nin0)).keep K355 nin0)
        have z361 := (Nat.le_trans (Nat.le_trans (Nat.le_trans (Nat.le_trans z146 E144.1) K150.1) K157.1) K355.1)
        exact tail_1_2 l Z a0 hw p1 p2 p3 b120 k120 b135 b143 (2 : Int32) l2 G1 G3 (own_c0 p1) (own_c p1 8) (own_c p1 16) (own_c p1 24) (own_c p1 32) (own_c p1 40) (own_c p1 48) x355 t355 kt355 (own_c p1 16) (own_c p1 24) h0 n0 X355 hx hby hml hown hZ hrt hlk T355.heap (rfl : T355.heap = T355.heap) N355 (Nat.le_trans Z0 z361) (f354.keep K355 all0) f360 Ex355 Fv355 Fc355 Vt355 O2 P5 O4 rG3 (fun c hc => own_c7 p1 c (by simp only [List.mem_cons, List.not_mem_nil, or_false] at hc ⊢; rcases hc with rfl | rfl <;> simp)) (by decide) rfl (by decide) rfl
  · subst q_ix
    rcases (h_l0 ▸ own_m3 p2 : l0 = 0 ∨ l0 = 1 ∨ l0 = 2) with q_l0 | q_l0 | q_l0
    · subst q_l0
      rcases (h_l1 ▸ own_m3 ((p2.toUInt32 >>> ((8 : Int32) &&& 31).toUInt32).toInt32) : l1 = 0 ∨ l1 = 1 ∨ l1 = 2) with q_l1 | q_l1 | q_l1
      · subst q_l1
        rcases (h_l2 ▸ own_m3 ((p2.toUInt32 >>> ((16 : Int32) &&& 31).toUInt32).toInt32) : l2 = 0 ∨ l2 = 1 ∨ l2 = 2) with q_l2 | q_l2 | q_l2
        · subst q_l2
          show own_Go p e below (T157.setTop (mkF m 195 #[.val (.long p1), .second, .val (.int p2), .val (.int p3), .val (.ref b120), .val (.int (0 : Int32)), .val (.int (0 : Int32)), .val (.int (0 : Int32)), .val (.ref b135), .val (.int (2 : Int32)), .val (.ref b143), .unset, .unset, .unset] [])) _
          refine own_go (fun _ k => XS.aload X157.here hx rfl (hb hby at_195) rfl rfl k) ?_
          show own_Go p e below (T157.setTop (mkF m 197 #[.val (.long p1), .second, .val (.int p2), .val (.int p3), .val (.ref b120), .val (.int (0 : Int32)), .val (.int (0 : Int32)), .val (.int (0 : Int32)), .val (.ref b135), .val (.int (2 : Int32)), .val (.ref b143), .unset, .unset, .unset] [(.ref b143)])) _
          refine own_go (fun _ k => XS.iload X157.here hx rfl (hb hby at_197) rfl k) ?_
          show own_Go p e below (T157.setTop (mkF m 199 #[.val (.long p1), .second, .val (.int p2), .val (.int p3), .val (.ref b120), .val (.int (0 : Int32)), .val (.int (0 : Int32)), .val (.int (0 : Int32)), .val (.ref b135), .val (.int (2 : Int32)), .val (.ref b143), .unset, .unset, .unset] [(.int (2 : Int32)), (.ref b143)])) _
          have z363 := (Nat.le_trans (Nat.le_trans (Nat.le_trans (Keep.of_wr W137).1 (Keep.of_wr W140).1) (Keep.of_wr W142).1) E143.1)
          have ne362 : b135 ≠ b144 := Nat.ne_of_lt (Nat.lt_of_lt_of_le (Nat.lt_of_lt_of_le V135.lt z363) (Nat.le_of_eq g144.symm))
          have z365 := (Nat.le_trans (Nat.le_trans (Keep.of_wr W137).1 (Keep.of_wr W140).1) (Keep.of_wr W142).1)
          have ne364 : b135 ≠ b143 := Nat.ne_of_lt (Nat.lt_of_lt_of_le (Nat.lt_of_lt_of_le V135.lt z365) (Nat.le_of_eq g143.symm))
          have f366 := ((((V142.ext E143).ext E144).keep K150 (ninS ne362 nin0)).keep K157 (ninS ne364 nin0))
          have f367 := (Fv150.keep K157 (ninS (Ne.symm ne152) nin0))
          have f368 := (Fc150.keep K157 (ninS (Ne.symm ne152) nin0))
          have ne369 : b143 ≠ t150 := Nat.ne_of_lt (Nat.lt_of_lt_of_le (Nat.lt_of_lt_of_le A143.lt E144.1) tg150)
          have f370 := (Vt150.keep K157 (ninS (Ne.symm ne369) nin0))
          have f371 := (f156.keep K157 (allS (Nat.le_trans Z0 (Nat.le_trans z155 (Nat.le_of_eq g143.symm))) all0))
          obtain ⟨cq372, kq372, q372a, q372b, q372c⟩ := isOf hZ (rfl : T157.heap = T157.heap) (f151.keep K157)
          obtain ⟨v372, _, ⟨T372, L372, k372, n372⟩, -, X372, ⟨Lc372, hQ372, l372, y372, z372⟩, st372⟩ := X157.virtualBack hx (y := (⟨"com/example/sequela/sequela/Fields", "get", "(I)Ljava/lang/String;"⟩ : MethodName)) (z := (⟨"com/example/sequela/sequela/Fields", "get", "(I)Ljava/lang/String;"⟩ : MethodName)) hown (mvT hZ (hw _ (List.mem_of_getElem? (i := 49) rfl))) (mvT hZ (hw _ (List.mem_of_getElem? (i := 50) rfl))) (notFace_of_selects (args := #[]) (mvT hZ (hw _ (List.mem_of_getElem? (i := 52) rfl)))) (mvT hZ (hw _ (List.mem_of_getElem? (i := 52) rfl))) (mvT hZ (hw _ (List.mem_of_getElem? (i := 51) rfl))) (by decide) (backOf (W := 0) (rm_get_2N l Z a0 hw [] b143 b135 k135 b144 t150 kt150 G1 G3 (0 : Int32) ((own_c0 p1)) ((own_c p1 8)) ((own_c p1 16)) ((own_c p1 24)) ((own_c p1 32)) ((own_c p1 40)) ((own_c p1 48)) (0 : Int32) T157.heap n0 f371 (f151.keep K157) Fe157 Ft157 f366 (Eq150.keep K157) f367 f368 f370 (own_c7 p1) O2 P5 O4 rG3) hZ (hw _ (List.mem_of_getElem? (i := 53) rfl)) (hw _ (List.mem_of_getElem? (i := 6) rfl)) (by decide) (by decide)) q372a q372c (g := (mkF m 199 #[.val (.long p1), .second, .val (.int p2), .val (.int p3), .val (.ref b120), .val (.int (0 : Int32)), .val (.int (0 : Int32)), .val (.int (0 : Int32)), .val (.ref b135), .val (.int (2 : Int32)), .val (.ref b143), .unset, .unset, .unset] [(.int (2 : Int32)), (.ref b143)])) rfl (by rw [hml]; rfl) (Steps.refl _) (argsL := [(.int (2 : Int32))]) (rest := []) (lenOf pd_15 rfl) rfl (by show 2 * 0 + _ ≤ _; exact Nat.le_of_eq rfl) (hb hby at_199) (fun _ _ => ⟨rfl, (rfl : T157.heap = T157.heap), (by decide : 5 + 0 ≤ _), (by decide : 23 + 0 ≤ _)⟩)
          dsimp only [Pt.U, Pt.locs, Pt.cells, Pt.slots] at X372 l372 y372 z372 st372 hQ372
          subst l372 y372 z372
          refine own_gos st372 ?_
          obtain ⟨rfl, Nq372, K372⟩ := hQ372
          have N372 := Fr.app N157 Nq372
          show own_Go p e below (T372.setTop (mkF m 202 #[.val (.long p1), .second, .val (.int p2), .val (.int p3), .val (.ref b120), .val (.int (0 : Int32)), .val (.int (0 : Int32)), .val (.int (0 : Int32)), .val (.ref b135), .val (.int (2 : Int32)), .val (.ref b143), .unset, .unset, .unset] [.null])) _
          have z374 := (Nat.le_trans (Nat.le_trans (Nat.le_trans (Nat.le_trans (Nat.le_trans z148 E135.1) (Keep.of_wr W137).1) (Keep.of_wr W140).1) (Keep.of_wr W142).1) E143.1)
          have ne373 : b120 ≠ b144 := Nat.ne_of_lt (Nat.lt_of_lt_of_le (Nat.lt_of_lt_of_le V120.lt z374) (Nat.le_of_eq g144.symm))
          have z376 := (Nat.le_trans (Nat.le_trans (Nat.le_trans (Nat.le_trans z148 E135.1) (Keep.of_wr W137).1) (Keep.of_wr W140).1) (Keep.of_wr W142).1)
          have ne375 : b120 ≠ b143 := Nat.ne_of_lt (Nat.lt_of_lt_of_le (Nat.lt_of_lt_of_le V120.lt z376) (Nat.le_of_eq g143.symm))
          have f377 := (((f149.keep K150 (ninS ne373 nin0)).keep K157 (ninS ne375 nin0)).keep K372 nin0)
          have z378 := (Nat.le_trans (Nat.le_trans (Nat.le_trans (Nat.le_trans z146 E144.1) K150.1) K157.1) K372.1)
          exact tail_2_0 l Z a0 hw p1 p2 p3 b120 k120 b135 b143 (0 : Int32) (0 : Int32) G1 G3 (own_c0 p1) (own_c p1 8) (own_c p1 16) (own_c p1 24) (own_c p1 32) (own_c p1 40) (own_c p1 48) h0 n0 X372 hx hby hml hown hZ hrt hlk T372.heap (rfl : T372.heap = T372.heap) N372 (Nat.le_trans Z0 z378) (f371.keep K372 all0) f377 O2 P5 O4 rG3
        · subst q_l2
          show own_Go p e below (T157.setTop (mkF m 195 #[.val (.long p1), .second, .val (.int p2), .val (.int p3), .val (.ref b120), .val (.int (0 : Int32)), .val (.int (0 : Int32)), .val (.int (1 : Int32)), .val (.ref b135), .val (.int (2 : Int32)), .val (.ref b143), .unset, .unset, .unset] [])) _
          refine own_go (fun _ k => XS.aload X157.here hx rfl (hb hby at_195) rfl rfl k) ?_
          show own_Go p e below (T157.setTop (mkF m 197 #[.val (.long p1), .second, .val (.int p2), .val (.int p3), .val (.ref b120), .val (.int (0 : Int32)), .val (.int (0 : Int32)), .val (.int (1 : Int32)), .val (.ref b135), .val (.int (2 : Int32)), .val (.ref b143), .unset, .unset, .unset] [(.ref b143)])) _
          refine own_go (fun _ k => XS.iload X157.here hx rfl (hb hby at_197) rfl k) ?_
          show own_Go p e below (T157.setTop (mkF m 199 #[.val (.long p1), .second, .val (.int p2), .val (.int p3), .val (.ref b120), .val (.int (0 : Int32)), .val (.int (0 : Int32)), .val (.int (1 : Int32)), .val (.ref b135), .val (.int (2 : Int32)), .val (.ref b143), .unset, .unset, .unset] [(.int (2 : Int32)), (.ref b143)])) _
          have z380 := (Nat.le_trans (Nat.le_trans (Nat.le_trans (Keep.of_wr W137).1 (Keep.of_wr W140).1) (Keep.of_wr W142).1) E143.1)
          have ne379 : b135 ≠ b144 := Nat.ne_of_lt (Nat.lt_of_lt_of_le (Nat.lt_of_lt_of_le V135.lt z380) (Nat.le_of_eq g144.symm))
          have z382 := (Nat.le_trans (Nat.le_trans (Keep.of_wr W137).1 (Keep.of_wr W140).1) (Keep.of_wr W142).1)
          have ne381 : b135 ≠ b143 := Nat.ne_of_lt (Nat.lt_of_lt_of_le (Nat.lt_of_lt_of_le V135.lt z382) (Nat.le_of_eq g143.symm))
          have f383 := ((((V142.ext E143).ext E144).keep K150 (ninS ne379 nin0)).keep K157 (ninS ne381 nin0))
          have f384 := (Fv150.keep K157 (ninS (Ne.symm ne152) nin0))
          have f385 := (Fc150.keep K157 (ninS (Ne.symm ne152) nin0))
          have ne386 : b143 ≠ t150 := Nat.ne_of_lt (Nat.lt_of_lt_of_le (Nat.lt_of_lt_of_le A143.lt E144.1) tg150)
          have f387 := (Vt150.keep K157 (ninS (Ne.symm ne386) nin0))
          have f388 := (f156.keep K157 (allS (Nat.le_trans Z0 (Nat.le_trans z155 (Nat.le_of_eq g143.symm))) all0))
          obtain ⟨cq389, kq389, q389a, q389b, q389c⟩ := isOf hZ (rfl : T157.heap = T157.heap) (f151.keep K157)
          obtain ⟨v389, _, ⟨T389, L389, k389, n389⟩, -, X389, ⟨Lc389, hQ389, l389, y389, z389⟩, st389⟩ := X157.virtualBack hx (y := (⟨"com/example/sequela/sequela/Fields", "get", "(I)Ljava/lang/String;"⟩ : MethodName)) (z := (⟨"com/example/sequela/sequela/Fields", "get", "(I)Ljava/lang/String;"⟩ : MethodName)) hown (mvT hZ (hw _ (List.mem_of_getElem? (i := 49) rfl))) (mvT hZ (hw _ (List.mem_of_getElem? (i := 50) rfl))) (notFace_of_selects (args := #[]) (mvT hZ (hw _ (List.mem_of_getElem? (i := 52) rfl)))) (mvT hZ (hw _ (List.mem_of_getElem? (i := 52) rfl))) (mvT hZ (hw _ (List.mem_of_getElem? (i := 51) rfl))) (by decide) (backOf (W := 0) (rm_get_2S l Z a0 hw [] b143 b135 k135 b144 t150 kt150 G1 G3 (0 : Int32) ((own_c0 p1)) ((own_c p1 8)) ((own_c p1 16)) ((own_c p1 24)) ((own_c p1 32)) ((own_c p1 40)) ((own_c p1 48)) (0 : Int32) (1 : Int32) (1 : Int32) ([(own_c0 p1)] : List Int32) T157.heap n0 f388 (f151.keep K157) Fe157 Ft157 f383 (Eq150.keep K157) f384 f385 f387 (own_c7 p1) O2 P5 O4 rG3 (by decide) (by unfold own_R; decide) rfl) hZ (hw _ (List.mem_of_getElem? (i := 53) rfl)) (hw _ (List.mem_of_getElem? (i := 6) rfl)) (by decide) (by decide)) q389a q389c (g := (mkF m 199 #[.val (.long p1), .second, .val (.int p2), .val (.int p3), .val (.ref b120), .val (.int (0 : Int32)), .val (.int (0 : Int32)), .val (.int (1 : Int32)), .val (.ref b135), .val (.int (2 : Int32)), .val (.ref b143), .unset, .unset, .unset] [(.int (2 : Int32)), (.ref b143)])) rfl (by rw [hml]; rfl) (Steps.refl _) (argsL := [(.int (2 : Int32))]) (rest := []) (lenOf pd_15 rfl) rfl (by show 2 * 0 + _ ≤ _; exact Nat.le_of_eq rfl) (hb hby at_199) (fun _ _ => ⟨rfl, (rfl : T157.heap = T157.heap), (by decide : 5 + 2 ≤ _), (by decide : 23 + 6 ≤ _)⟩)
          dsimp only [Pt.U, Pt.locs, Pt.cells, Pt.slots] at X389 l389 y389 z389 st389 hQ389
          subst l389 y389 z389
          refine own_gos st389 ?_
          obtain ⟨x389, t389, kt389, rfl, Nq389, K389, xg389, tg389, Ex389, Fv389, Fc389, Vt389⟩ := hQ389
          have N389 := Fr.app N157 Nq389
          show own_Go p e below (T389.setTop (mkF m 202 #[.val (.long p1), .second, .val (.int p2), .val (.int p3), .val (.ref b120), .val (.int (0 : Int32)), .val (.int (0 : Int32)), .val (.int (1 : Int32)), .val (.ref b135), .val (.int (2 : Int32)), .val (.ref b143), .unset, .unset, .unset] [(.ref x389)])) _
          have z391 := (Nat.le_trans (Nat.le_trans (Nat.le_trans (Nat.le_trans (Nat.le_trans z148 E135.1) (Keep.of_wr W137).1) (Keep.of_wr W140).1) (Keep.of_wr W142).1) E143.1)
          have ne390 : b120 ≠ b144 := Nat.ne_of_lt (Nat.lt_of_lt_of_le (Nat.lt_of_lt_of_le V120.lt z391) (Nat.le_of_eq g144.symm))
          have z393 := (Nat.le_trans (Nat.le_trans (Nat.le_trans (Nat.le_trans z148 E135.1) (Keep.of_wr W137).1) (Keep.of_wr W140).1) (Keep.of_wr W142).1)
          have ne392 : b120 ≠ b143 := Nat.ne_of_lt (Nat.lt_of_lt_of_le (Nat.lt_of_lt_of_le V120.lt z393) (Nat.le_of_eq g143.symm))
          have f394 := (((f149.keep K150 (ninS ne390 nin0)).keep K157 (ninS ne392 nin0)).keep K389 nin0)
          have z395 := (Nat.le_trans (Nat.le_trans (Nat.le_trans (Nat.le_trans z146 E144.1) K150.1) K157.1) K389.1)
          exact tail_2_1 l Z a0 hw p1 p2 p3 b120 k120 b135 b143 (0 : Int32) (0 : Int32) G1 G3 (own_c0 p1) (own_c p1 8) (own_c p1 16) (own_c p1 24) (own_c p1 32) (own_c p1 40) (own_c p1 48) x389 t389 kt389 (own_c0 p1) h0 n0 X389 hx hby hml hown hZ hrt hlk T389.heap (rfl : T389.heap = T389.heap) N389 (Nat.le_trans Z0 z395) (f388.keep K389 all0) f394 Ex389 Fv389 Fc389 Vt389 O2 P5 O4 rG3 (fun c hc => own_c7 p1 c (by simp only [List.mem_cons, List.not_mem_nil, or_false] at hc ⊢; rcases hc with rfl <;> simp)) (by decide) rfl
        · subst q_l2
          show own_Go p e below (T157.setTop (mkF m 195 #[.val (.long p1), .second, .val (.int p2), .val (.int p3), .val (.ref b120), .val (.int (0 : Int32)), .val (.int (0 : Int32)), .val (.int (2 : Int32)), .val (.ref b135), .val (.int (2 : Int32)), .val (.ref b143), .unset, .unset, .unset] [])) _
          refine own_go (fun _ k => XS.aload X157.here hx rfl (hb hby at_195) rfl rfl k) ?_
          show own_Go p e below (T157.setTop (mkF m 197 #[.val (.long p1), .second, .val (.int p2), .val (.int p3), .val (.ref b120), .val (.int (0 : Int32)), .val (.int (0 : Int32)), .val (.int (2 : Int32)), .val (.ref b135), .val (.int (2 : Int32)), .val (.ref b143), .unset, .unset, .unset] [(.ref b143)])) _
          refine own_go (fun _ k => XS.iload X157.here hx rfl (hb hby at_197) rfl k) ?_
          show own_Go p e below (T157.setTop (mkF m 199 #[.val (.long p1), .second, .val (.int p2), .val (.int p3), .val (.ref b120), .val (.int (0 : Int32)), .val (.int (0 : Int32)), .val (.int (2 : Int32)), .val (.ref b135), .val (.int (2 : Int32)), .val (.ref b143), .unset, .unset, .unset] [(.int (2 : Int32)), (.ref b143)])) _
          have z397 := (Nat.le_trans (Nat.le_trans (Nat.le_trans (Keep.of_wr W137).1 (Keep.of_wr W140).1) (Keep.of_wr W142).1) E143.1)
          have ne396 : b135 ≠ b144 := Nat.ne_of_lt (Nat.lt_of_lt_of_le (Nat.lt_of_lt_of_le V135.lt z397) (Nat.le_of_eq g144.symm))
          have z399 := (Nat.le_trans (Nat.le_trans (Keep.of_wr W137).1 (Keep.of_wr W140).1) (Keep.of_wr W142).1)
          have ne398 : b135 ≠ b143 := Nat.ne_of_lt (Nat.lt_of_lt_of_le (Nat.lt_of_lt_of_le V135.lt z399) (Nat.le_of_eq g143.symm))
          have f400 := ((((V142.ext E143).ext E144).keep K150 (ninS ne396 nin0)).keep K157 (ninS ne398 nin0))
          have f401 := (Fv150.keep K157 (ninS (Ne.symm ne152) nin0))
          have f402 := (Fc150.keep K157 (ninS (Ne.symm ne152) nin0))
          have ne403 : b143 ≠ t150 := Nat.ne_of_lt (Nat.lt_of_lt_of_le (Nat.lt_of_lt_of_le A143.lt E144.1) tg150)
          have f404 := (Vt150.keep K157 (ninS (Ne.symm ne403) nin0))
          have f405 := (f156.keep K157 (allS (Nat.le_trans Z0 (Nat.le_trans z155 (Nat.le_of_eq g143.symm))) all0))
          obtain ⟨cq406, kq406, q406a, q406b, q406c⟩ := isOf hZ (rfl : T157.heap = T157.heap) (f151.keep K157)
          obtain ⟨v406, _, ⟨T406, L406, k406, n406⟩, -, X406, ⟨Lc406, hQ406, l406, y406, z406⟩, st406⟩ := X157.virtualBack hx (y := (⟨"com/example/sequela/sequela/Fields", "get", "(I)Ljava/lang/String;"⟩ : MethodName)) (z := (⟨"com/example/sequela/sequela/Fields", "get", "(I)Ljava/lang/String;"⟩ : MethodName)) hown (mvT hZ (hw _ (List.mem_of_getElem? (i := 49) rfl))) (mvT hZ (hw _ (List.mem_of_getElem? (i := 50) rfl))) (notFace_of_selects (args := #[]) (mvT hZ (hw _ (List.mem_of_getElem? (i := 52) rfl)))) (mvT hZ (hw _ (List.mem_of_getElem? (i := 52) rfl))) (mvT hZ (hw _ (List.mem_of_getElem? (i := 51) rfl))) (by decide) (backOf (W := 0) (rm_get_2S l Z a0 hw [] b143 b135 k135 b144 t150 kt150 G1 G3 (0 : Int32) ((own_c0 p1)) ((own_c p1 8)) ((own_c p1 16)) ((own_c p1 24)) ((own_c p1 32)) ((own_c p1 40)) ((own_c p1 48)) (0 : Int32) (2 : Int32) (2 : Int32) ([(own_c0 p1), (own_c p1 8)] : List Int32) T157.heap n0 f405 (f151.keep K157) Fe157 Ft157 f400 (Eq150.keep K157) f401 f402 f404 (own_c7 p1) O2 P5 O4 rG3 (by decide) (by unfold own_R; decide) rfl) hZ (hw _ (List.mem_of_getElem? (i := 53) rfl)) (hw _ (List.mem_of_getElem? (i := 6) rfl)) (by decide) (by decide)) q406a q406c (g := (mkF m 199 #[.val (.long p1), .second, .val (.int p2), .val (.int p3), .val (.ref b120), .val (.int (0 : Int32)), .val (.int (0 : Int32)), .val (.int (2 : Int32)), .val (.ref b135), .val (.int (2 : Int32)), .val (.ref b143), .unset, .unset, .unset] [(.int (2 : Int32)), (.ref b143)])) rfl (by rw [hml]; rfl) (Steps.refl _) (argsL := [(.int (2 : Int32))]) (rest := []) (lenOf pd_15 rfl) rfl (by show 2 * 0 + _ ≤ _; exact Nat.le_of_eq rfl) (hb hby at_199) (fun _ _ => ⟨rfl, (rfl : T157.heap = T157.heap), (by decide : 5 + 2 ≤ _), (by decide : 23 + 6 ≤ _)⟩)
          dsimp only [Pt.U, Pt.locs, Pt.cells, Pt.slots] at X406 l406 y406 z406 st406 hQ406
          subst l406 y406 z406
          refine own_gos st406 ?_
          obtain ⟨x406, t406, kt406, rfl, Nq406, K406, xg406, tg406, Ex406, Fv406, Fc406, Vt406⟩ := hQ406
          have N406 := Fr.app N157 Nq406
          show own_Go p e below (T406.setTop (mkF m 202 #[.val (.long p1), .second, .val (.int p2), .val (.int p3), .val (.ref b120), .val (.int (0 : Int32)), .val (.int (0 : Int32)), .val (.int (2 : Int32)), .val (.ref b135), .val (.int (2 : Int32)), .val (.ref b143), .unset, .unset, .unset] [(.ref x406)])) _
          have z408 := (Nat.le_trans (Nat.le_trans (Nat.le_trans (Nat.le_trans (Nat.le_trans z148 E135.1) (Keep.of_wr W137).1) (Keep.of_wr W140).1) (Keep.of_wr W142).1) E143.1)
          have ne407 : b120 ≠ b144 := Nat.ne_of_lt (Nat.lt_of_lt_of_le (Nat.lt_of_lt_of_le V120.lt z408) (Nat.le_of_eq g144.symm))
          have z410 := (Nat.le_trans (Nat.le_trans (Nat.le_trans (Nat.le_trans z148 E135.1) (Keep.of_wr W137).1) (Keep.of_wr W140).1) (Keep.of_wr W142).1)
          have ne409 : b120 ≠ b143 := Nat.ne_of_lt (Nat.lt_of_lt_of_le (Nat.lt_of_lt_of_le V120.lt z410) (Nat.le_of_eq g143.symm))
          have f411 := (((f149.keep K150 (ninS ne407 nin0)).keep K157 (ninS ne409 nin0)).keep K406 nin0)
          have z412 := (Nat.le_trans (Nat.le_trans (Nat.le_trans (Nat.le_trans z146 E144.1) K150.1) K157.1) K406.1)
          exact tail_2_2 l Z a0 hw p1 p2 p3 b120 k120 b135 b143 (0 : Int32) (0 : Int32) G1 G3 (own_c0 p1) (own_c p1 8) (own_c p1 16) (own_c p1 24) (own_c p1 32) (own_c p1 40) (own_c p1 48) x406 t406 kt406 (own_c0 p1) (own_c p1 8) h0 n0 X406 hx hby hml hown hZ hrt hlk T406.heap (rfl : T406.heap = T406.heap) N406 (Nat.le_trans Z0 z412) (f405.keep K406 all0) f411 Ex406 Fv406 Fc406 Vt406 O2 P5 O4 rG3 (fun c hc => own_c7 p1 c (by simp only [List.mem_cons, List.not_mem_nil, or_false] at hc ⊢; rcases hc with rfl | rfl <;> simp)) (by decide) rfl (by decide) rfl
      · subst q_l1
        rcases (h_l2 ▸ own_m3 ((p2.toUInt32 >>> ((16 : Int32) &&& 31).toUInt32).toInt32) : l2 = 0 ∨ l2 = 1 ∨ l2 = 2) with q_l2 | q_l2 | q_l2
        · subst q_l2
          show own_Go p e below (T157.setTop (mkF m 195 #[.val (.long p1), .second, .val (.int p2), .val (.int p3), .val (.ref b120), .val (.int (0 : Int32)), .val (.int (1 : Int32)), .val (.int (0 : Int32)), .val (.ref b135), .val (.int (2 : Int32)), .val (.ref b143), .unset, .unset, .unset] [])) _
          refine own_go (fun _ k => XS.aload X157.here hx rfl (hb hby at_195) rfl rfl k) ?_
          show own_Go p e below (T157.setTop (mkF m 197 #[.val (.long p1), .second, .val (.int p2), .val (.int p3), .val (.ref b120), .val (.int (0 : Int32)), .val (.int (1 : Int32)), .val (.int (0 : Int32)), .val (.ref b135), .val (.int (2 : Int32)), .val (.ref b143), .unset, .unset, .unset] [(.ref b143)])) _
          refine own_go (fun _ k => XS.iload X157.here hx rfl (hb hby at_197) rfl k) ?_
          show own_Go p e below (T157.setTop (mkF m 199 #[.val (.long p1), .second, .val (.int p2), .val (.int p3), .val (.ref b120), .val (.int (0 : Int32)), .val (.int (1 : Int32)), .val (.int (0 : Int32)), .val (.ref b135), .val (.int (2 : Int32)), .val (.ref b143), .unset, .unset, .unset] [(.int (2 : Int32)), (.ref b143)])) _
          have z414 := (Nat.le_trans (Nat.le_trans (Nat.le_trans (Keep.of_wr W137).1 (Keep.of_wr W140).1) (Keep.of_wr W142).1) E143.1)
          have ne413 : b135 ≠ b144 := Nat.ne_of_lt (Nat.lt_of_lt_of_le (Nat.lt_of_lt_of_le V135.lt z414) (Nat.le_of_eq g144.symm))
          have z416 := (Nat.le_trans (Nat.le_trans (Keep.of_wr W137).1 (Keep.of_wr W140).1) (Keep.of_wr W142).1)
          have ne415 : b135 ≠ b143 := Nat.ne_of_lt (Nat.lt_of_lt_of_le (Nat.lt_of_lt_of_le V135.lt z416) (Nat.le_of_eq g143.symm))
          have f417 := ((((V142.ext E143).ext E144).keep K150 (ninS ne413 nin0)).keep K157 (ninS ne415 nin0))
          have f418 := (Fv150.keep K157 (ninS (Ne.symm ne152) nin0))
          have f419 := (Fc150.keep K157 (ninS (Ne.symm ne152) nin0))
          have ne420 : b143 ≠ t150 := Nat.ne_of_lt (Nat.lt_of_lt_of_le (Nat.lt_of_lt_of_le A143.lt E144.1) tg150)
          have f421 := (Vt150.keep K157 (ninS (Ne.symm ne420) nin0))
          have f422 := (f156.keep K157 (allS (Nat.le_trans Z0 (Nat.le_trans z155 (Nat.le_of_eq g143.symm))) all0))
          obtain ⟨cq423, kq423, q423a, q423b, q423c⟩ := isOf hZ (rfl : T157.heap = T157.heap) (f151.keep K157)
          obtain ⟨v423, _, ⟨T423, L423, k423, n423⟩, -, X423, ⟨Lc423, hQ423, l423, y423, z423⟩, st423⟩ := X157.virtualBack hx (y := (⟨"com/example/sequela/sequela/Fields", "get", "(I)Ljava/lang/String;"⟩ : MethodName)) (z := (⟨"com/example/sequela/sequela/Fields", "get", "(I)Ljava/lang/String;"⟩ : MethodName)) hown (mvT hZ (hw _ (List.mem_of_getElem? (i := 49) rfl))) (mvT hZ (hw _ (List.mem_of_getElem? (i := 50) rfl))) (notFace_of_selects (args := #[]) (mvT hZ (hw _ (List.mem_of_getElem? (i := 52) rfl)))) (mvT hZ (hw _ (List.mem_of_getElem? (i := 52) rfl))) (mvT hZ (hw _ (List.mem_of_getElem? (i := 51) rfl))) (by decide) (backOf (W := 0) (rm_get_2N l Z a0 hw [] b143 b135 k135 b144 t150 kt150 G1 G3 (0 : Int32) ((own_c0 p1)) ((own_c p1 8)) ((own_c p1 16)) ((own_c p1 24)) ((own_c p1 32)) ((own_c p1 40)) ((own_c p1 48)) (1 : Int32) T157.heap n0 f422 (f151.keep K157) Fe157 Ft157 f417 (Eq150.keep K157) f418 f419 f421 (own_c7 p1) O2 P5 O4 rG3) hZ (hw _ (List.mem_of_getElem? (i := 53) rfl)) (hw _ (List.mem_of_getElem? (i := 6) rfl)) (by decide) (by decide)) q423a q423c (g := (mkF m 199 #[.val (.long p1), .second, .val (.int p2), .val (.int p3), .val (.ref b120), .val (.int (0 : Int32)), .val (.int (1 : Int32)), .val (.int (0 : Int32)), .val (.ref b135), .val (.int (2 : Int32)), .val (.ref b143), .unset, .unset, .unset] [(.int (2 : Int32)), (.ref b143)])) rfl (by rw [hml]; rfl) (Steps.refl _) (argsL := [(.int (2 : Int32))]) (rest := []) (lenOf pd_15 rfl) rfl (by show 2 * 0 + _ ≤ _; exact Nat.le_of_eq rfl) (hb hby at_199) (fun _ _ => ⟨rfl, (rfl : T157.heap = T157.heap), (by decide : 5 + 0 ≤ _), (by decide : 23 + 0 ≤ _)⟩)
          dsimp only [Pt.U, Pt.locs, Pt.cells, Pt.slots] at X423 l423 y423 z423 st423 hQ423
          subst l423 y423 z423
          refine own_gos st423 ?_
          obtain ⟨rfl, Nq423, K423⟩ := hQ423
          have N423 := Fr.app N157 Nq423
          show own_Go p e below (T423.setTop (mkF m 202 #[.val (.long p1), .second, .val (.int p2), .val (.int p3), .val (.ref b120), .val (.int (0 : Int32)), .val (.int (1 : Int32)), .val (.int (0 : Int32)), .val (.ref b135), .val (.int (2 : Int32)), .val (.ref b143), .unset, .unset, .unset] [.null])) _
          have z425 := (Nat.le_trans (Nat.le_trans (Nat.le_trans (Nat.le_trans (Nat.le_trans z148 E135.1) (Keep.of_wr W137).1) (Keep.of_wr W140).1) (Keep.of_wr W142).1) E143.1)
          have ne424 : b120 ≠ b144 := Nat.ne_of_lt (Nat.lt_of_lt_of_le (Nat.lt_of_lt_of_le V120.lt z425) (Nat.le_of_eq g144.symm))
          have z427 := (Nat.le_trans (Nat.le_trans (Nat.le_trans (Nat.le_trans z148 E135.1) (Keep.of_wr W137).1) (Keep.of_wr W140).1) (Keep.of_wr W142).1)
          have ne426 : b120 ≠ b143 := Nat.ne_of_lt (Nat.lt_of_lt_of_le (Nat.lt_of_lt_of_le V120.lt z427) (Nat.le_of_eq g143.symm))
          have f428 := (((f149.keep K150 (ninS ne424 nin0)).keep K157 (ninS ne426 nin0)).keep K423 nin0)
          have z429 := (Nat.le_trans (Nat.le_trans (Nat.le_trans (Nat.le_trans z146 E144.1) K150.1) K157.1) K423.1)
          exact tail_2_0 l Z a0 hw p1 p2 p3 b120 k120 b135 b143 (0 : Int32) (1 : Int32) G1 G3 (own_c0 p1) (own_c p1 8) (own_c p1 16) (own_c p1 24) (own_c p1 32) (own_c p1 40) (own_c p1 48) h0 n0 X423 hx hby hml hown hZ hrt hlk T423.heap (rfl : T423.heap = T423.heap) N423 (Nat.le_trans Z0 z429) (f422.keep K423 all0) f428 O2 P5 O4 rG3
        · subst q_l2
          show own_Go p e below (T157.setTop (mkF m 195 #[.val (.long p1), .second, .val (.int p2), .val (.int p3), .val (.ref b120), .val (.int (0 : Int32)), .val (.int (1 : Int32)), .val (.int (1 : Int32)), .val (.ref b135), .val (.int (2 : Int32)), .val (.ref b143), .unset, .unset, .unset] [])) _
          refine own_go (fun _ k => XS.aload X157.here hx rfl (hb hby at_195) rfl rfl k) ?_
          show own_Go p e below (T157.setTop (mkF m 197 #[.val (.long p1), .second, .val (.int p2), .val (.int p3), .val (.ref b120), .val (.int (0 : Int32)), .val (.int (1 : Int32)), .val (.int (1 : Int32)), .val (.ref b135), .val (.int (2 : Int32)), .val (.ref b143), .unset, .unset, .unset] [(.ref b143)])) _
          refine own_go (fun _ k => XS.iload X157.here hx rfl (hb hby at_197) rfl k) ?_
          show own_Go p e below (T157.setTop (mkF m 199 #[.val (.long p1), .second, .val (.int p2), .val (.int p3), .val (.ref b120), .val (.int (0 : Int32)), .val (.int (1 : Int32)), .val (.int (1 : Int32)), .val (.ref b135), .val (.int (2 : Int32)), .val (.ref b143), .unset, .unset, .unset] [(.int (2 : Int32)), (.ref b143)])) _
          have z431 := (Nat.le_trans (Nat.le_trans (Nat.le_trans (Keep.of_wr W137).1 (Keep.of_wr W140).1) (Keep.of_wr W142).1) E143.1)
          have ne430 : b135 ≠ b144 := Nat.ne_of_lt (Nat.lt_of_lt_of_le (Nat.lt_of_lt_of_le V135.lt z431) (Nat.le_of_eq g144.symm))
          have z433 := (Nat.le_trans (Nat.le_trans (Keep.of_wr W137).1 (Keep.of_wr W140).1) (Keep.of_wr W142).1)
          have ne432 : b135 ≠ b143 := Nat.ne_of_lt (Nat.lt_of_lt_of_le (Nat.lt_of_lt_of_le V135.lt z433) (Nat.le_of_eq g143.symm))
          have f434 := ((((V142.ext E143).ext E144).keep K150 (ninS ne430 nin0)).keep K157 (ninS ne432 nin0))
          have f435 := (Fv150.keep K157 (ninS (Ne.symm ne152) nin0))
          have f436 := (Fc150.keep K157 (ninS (Ne.symm ne152) nin0))
          have ne437 : b143 ≠ t150 := Nat.ne_of_lt (Nat.lt_of_lt_of_le (Nat.lt_of_lt_of_le A143.lt E144.1) tg150)
          have f438 := (Vt150.keep K157 (ninS (Ne.symm ne437) nin0))
          have f439 := (f156.keep K157 (allS (Nat.le_trans Z0 (Nat.le_trans z155 (Nat.le_of_eq g143.symm))) all0))
          obtain ⟨cq440, kq440, q440a, q440b, q440c⟩ := isOf hZ (rfl : T157.heap = T157.heap) (f151.keep K157)
          obtain ⟨v440, _, ⟨T440, L440, k440, n440⟩, -, X440, ⟨Lc440, hQ440, l440, y440, z440⟩, st440⟩ := X157.virtualBack hx (y := (⟨"com/example/sequela/sequela/Fields", "get", "(I)Ljava/lang/String;"⟩ : MethodName)) (z := (⟨"com/example/sequela/sequela/Fields", "get", "(I)Ljava/lang/String;"⟩ : MethodName)) hown (mvT hZ (hw _ (List.mem_of_getElem? (i := 49) rfl))) (mvT hZ (hw _ (List.mem_of_getElem? (i := 50) rfl))) (notFace_of_selects (args := #[]) (mvT hZ (hw _ (List.mem_of_getElem? (i := 52) rfl)))) (mvT hZ (hw _ (List.mem_of_getElem? (i := 52) rfl))) (mvT hZ (hw _ (List.mem_of_getElem? (i := 51) rfl))) (by decide) (backOf (W := 0) (rm_get_2S l Z a0 hw [] b143 b135 k135 b144 t150 kt150 G1 G3 (0 : Int32) ((own_c0 p1)) ((own_c p1 8)) ((own_c p1 16)) ((own_c p1 24)) ((own_c p1 32)) ((own_c p1 40)) ((own_c p1 48)) (1 : Int32) (2 : Int32) (1 : Int32) ([(own_c p1 8)] : List Int32) T157.heap n0 f439 (f151.keep K157) Fe157 Ft157 f434 (Eq150.keep K157) f435 f436 f438 (own_c7 p1) O2 P5 O4 rG3 (by decide) (by unfold own_R; decide) rfl) hZ (hw _ (List.mem_of_getElem? (i := 53) rfl)) (hw _ (List.mem_of_getElem? (i := 6) rfl)) (by decide) (by decide)) q440a q440c (g := (mkF m 199 #[.val (.long p1), .second, .val (.int p2), .val (.int p3), .val (.ref b120), .val (.int (0 : Int32)), .val (.int (1 : Int32)), .val (.int (1 : Int32)), .val (.ref b135), .val (.int (2 : Int32)), .val (.ref b143), .unset, .unset, .unset] [(.int (2 : Int32)), (.ref b143)])) rfl (by rw [hml]; rfl) (Steps.refl _) (argsL := [(.int (2 : Int32))]) (rest := []) (lenOf pd_15 rfl) rfl (by show 2 * 0 + _ ≤ _; exact Nat.le_of_eq rfl) (hb hby at_199) (fun _ _ => ⟨rfl, (rfl : T157.heap = T157.heap), (by decide : 5 + 2 ≤ _), (by decide : 23 + 6 ≤ _)⟩)
          dsimp only [Pt.U, Pt.locs, Pt.cells, Pt.slots] at X440 l440 y440 z440 st440 hQ440
          subst l440 y440 z440
          refine own_gos st440 ?_
          obtain ⟨x440, t440, kt440, rfl, Nq440, K440, xg440, tg440, Ex440, Fv440, Fc440, Vt440⟩ := hQ440
          have N440 := Fr.app N157 Nq440
          show own_Go p e below (T440.setTop (mkF m 202 #[.val (.long p1), .second, .val (.int p2), .val (.int p3), .val (.ref b120), .val (.int (0 : Int32)), .val (.int (1 : Int32)), .val (.int (1 : Int32)), .val (.ref b135), .val (.int (2 : Int32)), .val (.ref b143), .unset, .unset, .unset] [(.ref x440)])) _
          have z442 := (Nat.le_trans (Nat.le_trans (Nat.le_trans (Nat.le_trans (Nat.le_trans z148 E135.1) (Keep.of_wr W137).1) (Keep.of_wr W140).1) (Keep.of_wr W142).1) E143.1)
          have ne441 : b120 ≠ b144 := Nat.ne_of_lt (Nat.lt_of_lt_of_le (Nat.lt_of_lt_of_le V120.lt z442) (Nat.le_of_eq g144.symm))
          have z444 := (Nat.le_trans (Nat.le_trans (Nat.le_trans (Nat.le_trans z148 E135.1) (Keep.of_wr W137).1) (Keep.of_wr W140).1) (Keep.of_wr W142).1)
          have ne443 : b120 ≠ b143 := Nat.ne_of_lt (Nat.lt_of_lt_of_le (Nat.lt_of_lt_of_le V120.lt z444) (Nat.le_of_eq g143.symm))
          have f445 := (((f149.keep K150 (ninS ne441 nin0)).keep K157 (ninS ne443 nin0)).keep K440 nin0)
          have z446 := (Nat.le_trans (Nat.le_trans (Nat.le_trans (Nat.le_trans z146 E144.1) K150.1) K157.1) K440.1)
          exact tail_2_1 l Z a0 hw p1 p2 p3 b120 k120 b135 b143 (0 : Int32) (1 : Int32) G1 G3 (own_c0 p1) (own_c p1 8) (own_c p1 16) (own_c p1 24) (own_c p1 32) (own_c p1 40) (own_c p1 48) x440 t440 kt440 (own_c p1 8) h0 n0 X440 hx hby hml hown hZ hrt hlk T440.heap (rfl : T440.heap = T440.heap) N440 (Nat.le_trans Z0 z446) (f439.keep K440 all0) f445 Ex440 Fv440 Fc440 Vt440 O2 P5 O4 rG3 (fun c hc => own_c7 p1 c (by simp only [List.mem_cons, List.not_mem_nil, or_false] at hc ⊢; rcases hc with rfl <;> simp)) (by decide) rfl
        · subst q_l2
          show own_Go p e below (T157.setTop (mkF m 195 #[.val (.long p1), .second, .val (.int p2), .val (.int p3), .val (.ref b120), .val (.int (0 : Int32)), .val (.int (1 : Int32)), .val (.int (2 : Int32)), .val (.ref b135), .val (.int (2 : Int32)), .val (.ref b143), .unset, .unset, .unset] [])) _
          refine own_go (fun _ k => XS.aload X157.here hx rfl (hb hby at_195) rfl rfl k) ?_
          show own_Go p e below (T157.setTop (mkF m 197 #[.val (.long p1), .second, .val (.int p2), .val (.int p3), .val (.ref b120), .val (.int (0 : Int32)), .val (.int (1 : Int32)), .val (.int (2 : Int32)), .val (.ref b135), .val (.int (2 : Int32)), .val (.ref b143), .unset, .unset, .unset] [(.ref b143)])) _
          refine own_go (fun _ k => XS.iload X157.here hx rfl (hb hby at_197) rfl k) ?_
          show own_Go p e below (T157.setTop (mkF m 199 #[.val (.long p1), .second, .val (.int p2), .val (.int p3), .val (.ref b120), .val (.int (0 : Int32)), .val (.int (1 : Int32)), .val (.int (2 : Int32)), .val (.ref b135), .val (.int (2 : Int32)), .val (.ref b143), .unset, .unset, .unset] [(.int (2 : Int32)), (.ref b143)])) _
          have z448 := (Nat.le_trans (Nat.le_trans (Nat.le_trans (Keep.of_wr W137).1 (Keep.of_wr W140).1) (Keep.of_wr W142).1) E143.1)
          have ne447 : b135 ≠ b144 := Nat.ne_of_lt (Nat.lt_of_lt_of_le (Nat.lt_of_lt_of_le V135.lt z448) (Nat.le_of_eq g144.symm))
          have z450 := (Nat.le_trans (Nat.le_trans (Keep.of_wr W137).1 (Keep.of_wr W140).1) (Keep.of_wr W142).1)
          have ne449 : b135 ≠ b143 := Nat.ne_of_lt (Nat.lt_of_lt_of_le (Nat.lt_of_lt_of_le V135.lt z450) (Nat.le_of_eq g143.symm))
          have f451 := ((((V142.ext E143).ext E144).keep K150 (ninS ne447 nin0)).keep K157 (ninS ne449 nin0))
          have f452 := (Fv150.keep K157 (ninS (Ne.symm ne152) nin0))
          have f453 := (Fc150.keep K157 (ninS (Ne.symm ne152) nin0))
          have ne454 : b143 ≠ t150 := Nat.ne_of_lt (Nat.lt_of_lt_of_le (Nat.lt_of_lt_of_le A143.lt E144.1) tg150)
          have f455 := (Vt150.keep K157 (ninS (Ne.symm ne454) nin0))
          have f456 := (f156.keep K157 (allS (Nat.le_trans Z0 (Nat.le_trans z155 (Nat.le_of_eq g143.symm))) all0))
          obtain ⟨cq457, kq457, q457a, q457b, q457c⟩ := isOf hZ (rfl : T157.heap = T157.heap) (f151.keep K157)
          obtain ⟨v457, _, ⟨T457, L457, k457, n457⟩, -, X457, ⟨Lc457, hQ457, l457, y457, z457⟩, st457⟩ := X157.virtualBack hx (y := (⟨"com/example/sequela/sequela/Fields", "get", "(I)Ljava/lang/String;"⟩ : MethodName)) (z := (⟨"com/example/sequela/sequela/Fields", "get", "(I)Ljava/lang/String;"⟩ : MethodName)) hown (mvT hZ (hw _ (List.mem_of_getElem? (i := 49) rfl))) (mvT hZ (hw _ (List.mem_of_getElem? (i := 50) rfl))) (notFace_of_selects (args := #[]) (mvT hZ (hw _ (List.mem_of_getElem? (i := 52) rfl)))) (mvT hZ (hw _ (List.mem_of_getElem? (i := 52) rfl))) (mvT hZ (hw _ (List.mem_of_getElem? (i := 51) rfl))) (by decide) (backOf (W := 0) (rm_get_2S l Z a0 hw [] b143 b135 k135 b144 t150 kt150 G1 G3 (0 : Int32) ((own_c0 p1)) ((own_c p1 8)) ((own_c p1 16)) ((own_c p1 24)) ((own_c p1 32)) ((own_c p1 40)) ((own_c p1 48)) (1 : Int32) (3 : Int32) (2 : Int32) ([(own_c p1 8), (own_c p1 16)] : List Int32) T157.heap n0 f456 (f151.keep K157) Fe157 Ft157 f451 (Eq150.keep K157) f452 f453 f455 (own_c7 p1) O2 P5 O4 rG3 (by decide) (by unfold own_R; decide) rfl) hZ (hw _ (List.mem_of_getElem? (i := 53) rfl)) (hw _ (List.mem_of_getElem? (i := 6) rfl)) (by decide) (by decide)) q457a q457c (g := (mkF m 199 #[.val (.long p1), .second, .val (.int p2), .val (.int p3), .val (.ref b120), .val (.int (0 : Int32)), .val (.int (1 : Int32)), .val (.int (2 : Int32)), .val (.ref b135), .val (.int (2 : Int32)), .val (.ref b143), .unset, .unset, .unset] [(.int (2 : Int32)), (.ref b143)])) rfl (by rw [hml]; rfl) (Steps.refl _) (argsL := [(.int (2 : Int32))]) (rest := []) (lenOf pd_15 rfl) rfl (by show 2 * 0 + _ ≤ _; exact Nat.le_of_eq rfl) (hb hby at_199) (fun _ _ => ⟨rfl, (rfl : T157.heap = T157.heap), (by decide : 5 + 2 ≤ _), (by decide : 23 + 6 ≤ _)⟩)
          dsimp only [Pt.U, Pt.locs, Pt.cells, Pt.slots] at X457 l457 y457 z457 st457 hQ457
          subst l457 y457 z457
          refine own_gos st457 ?_
          obtain ⟨x457, t457, kt457, rfl, Nq457, K457, xg457, tg457, Ex457, Fv457, Fc457, Vt457⟩ := hQ457
          have N457 := Fr.app N157 Nq457
          show own_Go p e below (T457.setTop (mkF m 202 #[.val (.long p1), .second, .val (.int p2), .val (.int p3), .val (.ref b120), .val (.int (0 : Int32)), .val (.int (1 : Int32)), .val (.int (2 : Int32)), .val (.ref b135), .val (.int (2 : Int32)), .val (.ref b143), .unset, .unset, .unset] [(.ref x457)])) _
          have z459 := (Nat.le_trans (Nat.le_trans (Nat.le_trans (Nat.le_trans (Nat.le_trans z148 E135.1) (Keep.of_wr W137).1) (Keep.of_wr W140).1) (Keep.of_wr W142).1) E143.1)
          have ne458 : b120 ≠ b144 := Nat.ne_of_lt (Nat.lt_of_lt_of_le (Nat.lt_of_lt_of_le V120.lt z459) (Nat.le_of_eq g144.symm))
          have z461 := (Nat.le_trans (Nat.le_trans (Nat.le_trans (Nat.le_trans z148 E135.1) (Keep.of_wr W137).1) (Keep.of_wr W140).1) (Keep.of_wr W142).1)
          have ne460 : b120 ≠ b143 := Nat.ne_of_lt (Nat.lt_of_lt_of_le (Nat.lt_of_lt_of_le V120.lt z461) (Nat.le_of_eq g143.symm))
          have f462 := (((f149.keep K150 (ninS ne458 nin0)).keep K157 (ninS ne460 nin0)).keep K457 nin0)
          have z463 := (Nat.le_trans (Nat.le_trans (Nat.le_trans (Nat.le_trans z146 E144.1) K150.1) K157.1) K457.1)
          exact tail_2_2 l Z a0 hw p1 p2 p3 b120 k120 b135 b143 (0 : Int32) (1 : Int32) G1 G3 (own_c0 p1) (own_c p1 8) (own_c p1 16) (own_c p1 24) (own_c p1 32) (own_c p1 40) (own_c p1 48) x457 t457 kt457 (own_c p1 8) (own_c p1 16) h0 n0 X457 hx hby hml hown hZ hrt hlk T457.heap (rfl : T457.heap = T457.heap) N457 (Nat.le_trans Z0 z463) (f456.keep K457 all0) f462 Ex457 Fv457 Fc457 Vt457 O2 P5 O4 rG3 (fun c hc => own_c7 p1 c (by simp only [List.mem_cons, List.not_mem_nil, or_false] at hc ⊢; rcases hc with rfl | rfl <;> simp)) (by decide) rfl (by decide) rfl
      · subst q_l1
        rcases (h_l2 ▸ own_m3 ((p2.toUInt32 >>> ((16 : Int32) &&& 31).toUInt32).toInt32) : l2 = 0 ∨ l2 = 1 ∨ l2 = 2) with q_l2 | q_l2 | q_l2
        · subst q_l2
          show own_Go p e below (T157.setTop (mkF m 195 #[.val (.long p1), .second, .val (.int p2), .val (.int p3), .val (.ref b120), .val (.int (0 : Int32)), .val (.int (2 : Int32)), .val (.int (0 : Int32)), .val (.ref b135), .val (.int (2 : Int32)), .val (.ref b143), .unset, .unset, .unset] [])) _
          refine own_go (fun _ k => XS.aload X157.here hx rfl (hb hby at_195) rfl rfl k) ?_
          show own_Go p e below (T157.setTop (mkF m 197 #[.val (.long p1), .second, .val (.int p2), .val (.int p3), .val (.ref b120), .val (.int (0 : Int32)), .val (.int (2 : Int32)), .val (.int (0 : Int32)), .val (.ref b135), .val (.int (2 : Int32)), .val (.ref b143), .unset, .unset, .unset] [(.ref b143)])) _
          refine own_go (fun _ k => XS.iload X157.here hx rfl (hb hby at_197) rfl k) ?_
          show own_Go p e below (T157.setTop (mkF m 199 #[.val (.long p1), .second, .val (.int p2), .val (.int p3), .val (.ref b120), .val (.int (0 : Int32)), .val (.int (2 : Int32)), .val (.int (0 : Int32)), .val (.ref b135), .val (.int (2 : Int32)), .val (.ref b143), .unset, .unset, .unset] [(.int (2 : Int32)), (.ref b143)])) _
          have z465 := (Nat.le_trans (Nat.le_trans (Nat.le_trans (Keep.of_wr W137).1 (Keep.of_wr W140).1) (Keep.of_wr W142).1) E143.1)
          have ne464 : b135 ≠ b144 := Nat.ne_of_lt (Nat.lt_of_lt_of_le (Nat.lt_of_lt_of_le V135.lt z465) (Nat.le_of_eq g144.symm))
          have z467 := (Nat.le_trans (Nat.le_trans (Keep.of_wr W137).1 (Keep.of_wr W140).1) (Keep.of_wr W142).1)
          have ne466 : b135 ≠ b143 := Nat.ne_of_lt (Nat.lt_of_lt_of_le (Nat.lt_of_lt_of_le V135.lt z467) (Nat.le_of_eq g143.symm))
          have f468 := ((((V142.ext E143).ext E144).keep K150 (ninS ne464 nin0)).keep K157 (ninS ne466 nin0))
          have f469 := (Fv150.keep K157 (ninS (Ne.symm ne152) nin0))
          have f470 := (Fc150.keep K157 (ninS (Ne.symm ne152) nin0))
          have ne471 : b143 ≠ t150 := Nat.ne_of_lt (Nat.lt_of_lt_of_le (Nat.lt_of_lt_of_le A143.lt E144.1) tg150)
          have f472 := (Vt150.keep K157 (ninS (Ne.symm ne471) nin0))
          have f473 := (f156.keep K157 (allS (Nat.le_trans Z0 (Nat.le_trans z155 (Nat.le_of_eq g143.symm))) all0))
          obtain ⟨cq474, kq474, q474a, q474b, q474c⟩ := isOf hZ (rfl : T157.heap = T157.heap) (f151.keep K157)
          obtain ⟨v474, _, ⟨T474, L474, k474, n474⟩, -, X474, ⟨Lc474, hQ474, l474, y474, z474⟩, st474⟩ := X157.virtualBack hx (y := (⟨"com/example/sequela/sequela/Fields", "get", "(I)Ljava/lang/String;"⟩ : MethodName)) (z := (⟨"com/example/sequela/sequela/Fields", "get", "(I)Ljava/lang/String;"⟩ : MethodName)) hown (mvT hZ (hw _ (List.mem_of_getElem? (i := 49) rfl))) (mvT hZ (hw _ (List.mem_of_getElem? (i := 50) rfl))) (notFace_of_selects (args := #[]) (mvT hZ (hw _ (List.mem_of_getElem? (i := 52) rfl)))) (mvT hZ (hw _ (List.mem_of_getElem? (i := 52) rfl))) (mvT hZ (hw _ (List.mem_of_getElem? (i := 51) rfl))) (by decide) (backOf (W := 0) (rm_get_2N l Z a0 hw [] b143 b135 k135 b144 t150 kt150 G1 G3 (0 : Int32) ((own_c0 p1)) ((own_c p1 8)) ((own_c p1 16)) ((own_c p1 24)) ((own_c p1 32)) ((own_c p1 40)) ((own_c p1 48)) (2 : Int32) T157.heap n0 f473 (f151.keep K157) Fe157 Ft157 f468 (Eq150.keep K157) f469 f470 f472 (own_c7 p1) O2 P5 O4 rG3) hZ (hw _ (List.mem_of_getElem? (i := 53) rfl)) (hw _ (List.mem_of_getElem? (i := 6) rfl)) (by decide) (by decide)) q474a q474c (g := (mkF m 199 #[.val (.long p1), .second, .val (.int p2), .val (.int p3), .val (.ref b120), .val (.int (0 : Int32)), .val (.int (2 : Int32)), .val (.int (0 : Int32)), .val (.ref b135), .val (.int (2 : Int32)), .val (.ref b143), .unset, .unset, .unset] [(.int (2 : Int32)), (.ref b143)])) rfl (by rw [hml]; rfl) (Steps.refl _) (argsL := [(.int (2 : Int32))]) (rest := []) (lenOf pd_15 rfl) rfl (by show 2 * 0 + _ ≤ _; exact Nat.le_of_eq rfl) (hb hby at_199) (fun _ _ => ⟨rfl, (rfl : T157.heap = T157.heap), (by decide : 5 + 0 ≤ _), (by decide : 23 + 0 ≤ _)⟩)
          dsimp only [Pt.U, Pt.locs, Pt.cells, Pt.slots] at X474 l474 y474 z474 st474 hQ474
          subst l474 y474 z474
          refine own_gos st474 ?_
          obtain ⟨rfl, Nq474, K474⟩ := hQ474
          have N474 := Fr.app N157 Nq474
          show own_Go p e below (T474.setTop (mkF m 202 #[.val (.long p1), .second, .val (.int p2), .val (.int p3), .val (.ref b120), .val (.int (0 : Int32)), .val (.int (2 : Int32)), .val (.int (0 : Int32)), .val (.ref b135), .val (.int (2 : Int32)), .val (.ref b143), .unset, .unset, .unset] [.null])) _
          have z476 := (Nat.le_trans (Nat.le_trans (Nat.le_trans (Nat.le_trans (Nat.le_trans z148 E135.1) (Keep.of_wr W137).1) (Keep.of_wr W140).1) (Keep.of_wr W142).1) E143.1)
          have ne475 : b120 ≠ b144 := Nat.ne_of_lt (Nat.lt_of_lt_of_le (Nat.lt_of_lt_of_le V120.lt z476) (Nat.le_of_eq g144.symm))
          have z478 := (Nat.le_trans (Nat.le_trans (Nat.le_trans (Nat.le_trans z148 E135.1) (Keep.of_wr W137).1) (Keep.of_wr W140).1) (Keep.of_wr W142).1)
          have ne477 : b120 ≠ b143 := Nat.ne_of_lt (Nat.lt_of_lt_of_le (Nat.lt_of_lt_of_le V120.lt z478) (Nat.le_of_eq g143.symm))
          have f479 := (((f149.keep K150 (ninS ne475 nin0)).keep K157 (ninS ne477 nin0)).keep K474 nin0)
          have z480 := (Nat.le_trans (Nat.le_trans (Nat.le_trans (Nat.le_trans z146 E144.1) K150.1) K157.1) K474.1)
          exact tail_2_0 l Z a0 hw p1 p2 p3 b120 k120 b135 b143 (0 : Int32) (2 : Int32) G1 G3 (own_c0 p1) (own_c p1 8) (own_c p1 16) (own_c p1 24) (own_c p1 32) (own_c p1 40) (own_c p1 48) h0 n0 X474 hx hby hml hown hZ hrt hlk T474.heap (rfl : T474.heap = T474.heap) N474 (Nat.le_trans Z0 z480) (f473.keep K474 all0) f479 O2 P5 O4 rG3
        · subst q_l2
          show own_Go p e below (T157.setTop (mkF m 195 #[.val (.long p1), .second, .val (.int p2), .val (.int p3), .val (.ref b120), .val (.int (0 : Int32)), .val (.int (2 : Int32)), .val (.int (1 : Int32)), .val (.ref b135), .val (.int (2 : Int32)), .val (.ref b143), .unset, .unset, .unset] [])) _
          refine own_go (fun _ k => XS.aload X157.here hx rfl (hb hby at_195) rfl rfl k) ?_
          show own_Go p e below (T157.setTop (mkF m 197 #[.val (.long p1), .second, .val (.int p2), .val (.int p3), .val (.ref b120), .val (.int (0 : Int32)), .val (.int (2 : Int32)), .val (.int (1 : Int32)), .val (.ref b135), .val (.int (2 : Int32)), .val (.ref b143), .unset, .unset, .unset] [(.ref b143)])) _
          refine own_go (fun _ k => XS.iload X157.here hx rfl (hb hby at_197) rfl k) ?_
          show own_Go p e below (T157.setTop (mkF m 199 #[.val (.long p1), .second, .val (.int p2), .val (.int p3), .val (.ref b120), .val (.int (0 : Int32)), .val (.int (2 : Int32)), .val (.int (1 : Int32)), .val (.ref b135), .val (.int (2 : Int32)), .val (.ref b143), .unset, .unset, .unset] [(.int (2 : Int32)), (.ref b143)])) _
          have z482 := (Nat.le_trans (Nat.le_trans (Nat.le_trans (Keep.of_wr W137).1 (Keep.of_wr W140).1) (Keep.of_wr W142).1) E143.1)
          have ne481 : b135 ≠ b144 := Nat.ne_of_lt (Nat.lt_of_lt_of_le (Nat.lt_of_lt_of_le V135.lt z482) (Nat.le_of_eq g144.symm))
          have z484 := (Nat.le_trans (Nat.le_trans (Keep.of_wr W137).1 (Keep.of_wr W140).1) (Keep.of_wr W142).1)
          have ne483 : b135 ≠ b143 := Nat.ne_of_lt (Nat.lt_of_lt_of_le (Nat.lt_of_lt_of_le V135.lt z484) (Nat.le_of_eq g143.symm))
          have f485 := ((((V142.ext E143).ext E144).keep K150 (ninS ne481 nin0)).keep K157 (ninS ne483 nin0))
          have f486 := (Fv150.keep K157 (ninS (Ne.symm ne152) nin0))
          have f487 := (Fc150.keep K157 (ninS (Ne.symm ne152) nin0))
          have ne488 : b143 ≠ t150 := Nat.ne_of_lt (Nat.lt_of_lt_of_le (Nat.lt_of_lt_of_le A143.lt E144.1) tg150)
          have f489 := (Vt150.keep K157 (ninS (Ne.symm ne488) nin0))
          have f490 := (f156.keep K157 (allS (Nat.le_trans Z0 (Nat.le_trans z155 (Nat.le_of_eq g143.symm))) all0))
          obtain ⟨cq491, kq491, q491a, q491b, q491c⟩ := isOf hZ (rfl : T157.heap = T157.heap) (f151.keep K157)
          obtain ⟨v491, _, ⟨T491, L491, k491, n491⟩, -, X491, ⟨Lc491, hQ491, l491, y491, z491⟩, st491⟩ := X157.virtualBack hx (y := (⟨"com/example/sequela/sequela/Fields", "get", "(I)Ljava/lang/String;"⟩ : MethodName)) (z := (⟨"com/example/sequela/sequela/Fields", "get", "(I)Ljava/lang/String;"⟩ : MethodName)) hown (mvT hZ (hw _ (List.mem_of_getElem? (i := 49) rfl))) (mvT hZ (hw _ (List.mem_of_getElem? (i := 50) rfl))) (notFace_of_selects (args := #[]) (mvT hZ (hw _ (List.mem_of_getElem? (i := 52) rfl)))) (mvT hZ (hw _ (List.mem_of_getElem? (i := 52) rfl))) (mvT hZ (hw _ (List.mem_of_getElem? (i := 51) rfl))) (by decide) (backOf (W := 0) (rm_get_2S l Z a0 hw [] b143 b135 k135 b144 t150 kt150 G1 G3 (0 : Int32) ((own_c0 p1)) ((own_c p1 8)) ((own_c p1 16)) ((own_c p1 24)) ((own_c p1 32)) ((own_c p1 40)) ((own_c p1 48)) (2 : Int32) (3 : Int32) (1 : Int32) ([(own_c p1 16)] : List Int32) T157.heap n0 f490 (f151.keep K157) Fe157 Ft157 f485 (Eq150.keep K157) f486 f487 f489 (own_c7 p1) O2 P5 O4 rG3 (by decide) (by unfold own_R; decide) rfl) hZ (hw _ (List.mem_of_getElem? (i := 53) rfl)) (hw _ (List.mem_of_getElem? (i := 6) rfl)) (by decide) (by decide)) q491a q491c (g := (mkF m 199 #[.val (.long p1), .second, .val (.int p2), .val (.int p3), .val (.ref b120), .val (.int (0 : Int32)), .val (.int (2 : Int32)), .val (.int (1 : Int32)), .val (.ref b135), .val (.int (2 : Int32)), .val (.ref b143), .unset, .unset, .unset] [(.int (2 : Int32)), (.ref b143)])) rfl (by rw [hml]; rfl) (Steps.refl _) (argsL := [(.int (2 : Int32))]) (rest := []) (lenOf pd_15 rfl) rfl (by show 2 * 0 + _ ≤ _; exact Nat.le_of_eq rfl) (hb hby at_199) (fun _ _ => ⟨rfl, (rfl : T157.heap = T157.heap), (by decide : 5 + 2 ≤ _), (by decide : 23 + 6 ≤ _)⟩)
          dsimp only [Pt.U, Pt.locs, Pt.cells, Pt.slots] at X491 l491 y491 z491 st491 hQ491
          subst l491 y491 z491
          refine own_gos st491 ?_
          obtain ⟨x491, t491, kt491, rfl, Nq491, K491, xg491, tg491, Ex491, Fv491, Fc491, Vt491⟩ := hQ491
          have N491 := Fr.app N157 Nq491
          show own_Go p e below (T491.setTop (mkF m 202 #[.val (.long p1), .second, .val (.int p2), .val (.int p3), .val (.ref b120), .val (.int (0 : Int32)), .val (.int (2 : Int32)), .val (.int (1 : Int32)), .val (.ref b135), .val (.int (2 : Int32)), .val (.ref b143), .unset, .unset, .unset] [(.ref x491)])) _
          have z493 := (Nat.le_trans (Nat.le_trans (Nat.le_trans (Nat.le_trans (Nat.le_trans z148 E135.1) (Keep.of_wr W137).1) (Keep.of_wr W140).1) (Keep.of_wr W142).1) E143.1)
          have ne492 : b120 ≠ b144 := Nat.ne_of_lt (Nat.lt_of_lt_of_le (Nat.lt_of_lt_of_le V120.lt z493) (Nat.le_of_eq g144.symm))
          have z495 := (Nat.le_trans (Nat.le_trans (Nat.le_trans (Nat.le_trans z148 E135.1) (Keep.of_wr W137).1) (Keep.of_wr W140).1) (Keep.of_wr W142).1)
          have ne494 : b120 ≠ b143 := Nat.ne_of_lt (Nat.lt_of_lt_of_le (Nat.lt_of_lt_of_le V120.lt z495) (Nat.le_of_eq g143.symm))
          have f496 := (((f149.keep K150 (ninS ne492 nin0)).keep K157 (ninS ne494 nin0)).keep K491 nin0)
          have z497 := (Nat.le_trans (Nat.le_trans (Nat.le_trans (Nat.le_trans z146 E144.1) K150.1) K157.1) K491.1)
          exact tail_2_1 l Z a0 hw p1 p2 p3 b120 k120 b135 b143 (0 : Int32) (2 : Int32) G1 G3 (own_c0 p1) (own_c p1 8) (own_c p1 16) (own_c p1 24) (own_c p1 32) (own_c p1 40) (own_c p1 48) x491 t491 kt491 (own_c p1 16) h0 n0 X491 hx hby hml hown hZ hrt hlk T491.heap (rfl : T491.heap = T491.heap) N491 (Nat.le_trans Z0 z497) (f490.keep K491 all0) f496 Ex491 Fv491 Fc491 Vt491 O2 P5 O4 rG3 (fun c hc => own_c7 p1 c (by simp only [List.mem_cons, List.not_mem_nil, or_false] at hc ⊢; rcases hc with rfl <;> simp)) (by decide) rfl
        · subst q_l2
          show own_Go p e below (T157.setTop (mkF m 195 #[.val (.long p1), .second, .val (.int p2), .val (.int p3), .val (.ref b120), .val (.int (0 : Int32)), .val (.int (2 : Int32)), .val (.int (2 : Int32)), .val (.ref b135), .val (.int (2 : Int32)), .val (.ref b143), .unset, .unset, .unset] [])) _
          refine own_go (fun _ k => XS.aload X157.here hx rfl (hb hby at_195) rfl rfl k) ?_
          show own_Go p e below (T157.setTop (mkF m 197 #[.val (.long p1), .second, .val (.int p2), .val (.int p3), .val (.ref b120), .val (.int (0 : Int32)), .val (.int (2 : Int32)), .val (.int (2 : Int32)), .val (.ref b135), .val (.int (2 : Int32)), .val (.ref b143), .unset, .unset, .unset] [(.ref b143)])) _
          refine own_go (fun _ k => XS.iload X157.here hx rfl (hb hby at_197) rfl k) ?_
          show own_Go p e below (T157.setTop (mkF m 199 #[.val (.long p1), .second, .val (.int p2), .val (.int p3), .val (.ref b120), .val (.int (0 : Int32)), .val (.int (2 : Int32)), .val (.int (2 : Int32)), .val (.ref b135), .val (.int (2 : Int32)), .val (.ref b143), .unset, .unset, .unset] [(.int (2 : Int32)), (.ref b143)])) _
          have z499 := (Nat.le_trans (Nat.le_trans (Nat.le_trans (Keep.of_wr W137).1 (Keep.of_wr W140).1) (Keep.of_wr W142).1) E143.1)
          have ne498 : b135 ≠ b144 := Nat.ne_of_lt (Nat.lt_of_lt_of_le (Nat.lt_of_lt_of_le V135.lt z499) (Nat.le_of_eq g144.symm))
          have z501 := (Nat.le_trans (Nat.le_trans (Keep.of_wr W137).1 (Keep.of_wr W140).1) (Keep.of_wr W142).1)
          have ne500 : b135 ≠ b143 := Nat.ne_of_lt (Nat.lt_of_lt_of_le (Nat.lt_of_lt_of_le V135.lt z501) (Nat.le_of_eq g143.symm))
          have f502 := ((((V142.ext E143).ext E144).keep K150 (ninS ne498 nin0)).keep K157 (ninS ne500 nin0))
          have f503 := (Fv150.keep K157 (ninS (Ne.symm ne152) nin0))
          have f504 := (Fc150.keep K157 (ninS (Ne.symm ne152) nin0))
          have ne505 : b143 ≠ t150 := Nat.ne_of_lt (Nat.lt_of_lt_of_le (Nat.lt_of_lt_of_le A143.lt E144.1) tg150)
          have f506 := (Vt150.keep K157 (ninS (Ne.symm ne505) nin0))
          have f507 := (f156.keep K157 (allS (Nat.le_trans Z0 (Nat.le_trans z155 (Nat.le_of_eq g143.symm))) all0))
          obtain ⟨cq508, kq508, q508a, q508b, q508c⟩ := isOf hZ (rfl : T157.heap = T157.heap) (f151.keep K157)
          obtain ⟨v508, _, ⟨T508, L508, k508, n508⟩, -, X508, ⟨Lc508, hQ508, l508, y508, z508⟩, st508⟩ := X157.virtualBack hx (y := (⟨"com/example/sequela/sequela/Fields", "get", "(I)Ljava/lang/String;"⟩ : MethodName)) (z := (⟨"com/example/sequela/sequela/Fields", "get", "(I)Ljava/lang/String;"⟩ : MethodName)) hown (mvT hZ (hw _ (List.mem_of_getElem? (i := 49) rfl))) (mvT hZ (hw _ (List.mem_of_getElem? (i := 50) rfl))) (notFace_of_selects (args := #[]) (mvT hZ (hw _ (List.mem_of_getElem? (i := 52) rfl)))) (mvT hZ (hw _ (List.mem_of_getElem? (i := 52) rfl))) (mvT hZ (hw _ (List.mem_of_getElem? (i := 51) rfl))) (by decide) (backOf (W := 0) (rm_get_2S l Z a0 hw [] b143 b135 k135 b144 t150 kt150 G1 G3 (0 : Int32) ((own_c0 p1)) ((own_c p1 8)) ((own_c p1 16)) ((own_c p1 24)) ((own_c p1 32)) ((own_c p1 40)) ((own_c p1 48)) (2 : Int32) (4 : Int32) (2 : Int32) ([(own_c p1 16), (own_c p1 24)] : List Int32) T157.heap n0 f507 (f151.keep K157) Fe157 Ft157 f502 (Eq150.keep K157) f503 f504 f506 (own_c7 p1) O2 P5 O4 rG3 (by decide) (by unfold own_R; decide) rfl) hZ (hw _ (List.mem_of_getElem? (i := 53) rfl)) (hw _ (List.mem_of_getElem? (i := 6) rfl)) (by decide) (by decide)) q508a q508c (g := (mkF m 199 #[.val (.long p1), .second, .val (.int p2), .val (.int p3), .val (.ref b120), .val (.int (0 : Int32)), .val (.int (2 : Int32)), .val (.int (2 : Int32)), .val (.ref b135), .val (.int (2 : Int32)), .val (.ref b143), .unset, .unset, .unset] [(.int (2 : Int32)), (.ref b143)])) rfl (by rw [hml]; rfl) (Steps.refl _) (argsL := [(.int (2 : Int32))]) (rest := []) (lenOf pd_15 rfl) rfl (by show 2 * 0 + _ ≤ _; exact Nat.le_of_eq rfl) (hb hby at_199) (fun _ _ => ⟨rfl, (rfl : T157.heap = T157.heap), (by decide : 5 + 2 ≤ _), (by decide : 23 + 6 ≤ _)⟩)
          dsimp only [Pt.U, Pt.locs, Pt.cells, Pt.slots] at X508 l508 y508 z508 st508 hQ508
          subst l508 y508 z508
          refine own_gos st508 ?_
          obtain ⟨x508, t508, kt508, rfl, Nq508, K508, xg508, tg508, Ex508, Fv508, Fc508, Vt508⟩ := hQ508
          have N508 := Fr.app N157 Nq508
          show own_Go p e below (T508.setTop (mkF m 202 #[.val (.long p1), .second, .val (.int p2), .val (.int p3), .val (.ref b120), .val (.int (0 : Int32)), .val (.int (2 : Int32)), .val (.int (2 : Int32)), .val (.ref b135), .val (.int (2 : Int32)), .val (.ref b143), .unset, .unset, .unset] [(.ref x508)])) _
          have z510 := (Nat.le_trans (Nat.le_trans (Nat.le_trans (Nat.le_trans (Nat.le_trans z148 E135.1) (Keep.of_wr W137).1) (Keep.of_wr W140).1) (Keep.of_wr W142).1) E143.1)
          have ne509 : b120 ≠ b144 := Nat.ne_of_lt (Nat.lt_of_lt_of_le (Nat.lt_of_lt_of_le V120.lt z510) (Nat.le_of_eq g144.symm))
          have z512 := (Nat.le_trans (Nat.le_trans (Nat.le_trans (Nat.le_trans z148 E135.1) (Keep.of_wr W137).1) (Keep.of_wr W140).1) (Keep.of_wr W142).1)
          have ne511 : b120 ≠ b143 := Nat.ne_of_lt (Nat.lt_of_lt_of_le (Nat.lt_of_lt_of_le V120.lt z512) (Nat.le_of_eq g143.symm))
          have f513 := (((f149.keep K150 (ninS ne509 nin0)).keep K157 (ninS ne511 nin0)).keep K508 nin0)
          have z514 := (Nat.le_trans (Nat.le_trans (Nat.le_trans (Nat.le_trans z146 E144.1) K150.1) K157.1) K508.1)
          exact tail_2_2 l Z a0 hw p1 p2 p3 b120 k120 b135 b143 (0 : Int32) (2 : Int32) G1 G3 (own_c0 p1) (own_c p1 8) (own_c p1 16) (own_c p1 24) (own_c p1 32) (own_c p1 40) (own_c p1 48) x508 t508 kt508 (own_c p1 16) (own_c p1 24) h0 n0 X508 hx hby hml hown hZ hrt hlk T508.heap (rfl : T508.heap = T508.heap) N508 (Nat.le_trans Z0 z514) (f507.keep K508 all0) f513 Ex508 Fv508 Fc508 Vt508 O2 P5 O4 rG3 (fun c hc => own_c7 p1 c (by simp only [List.mem_cons, List.not_mem_nil, or_false] at hc ⊢; rcases hc with rfl | rfl <;> simp)) (by decide) rfl (by decide) rfl
    · subst q_l0
      rcases (h_l1 ▸ own_m3 ((p2.toUInt32 >>> ((8 : Int32) &&& 31).toUInt32).toInt32) : l1 = 0 ∨ l1 = 1 ∨ l1 = 2) with q_l1 | q_l1 | q_l1
      · subst q_l1
        rcases (h_l2 ▸ own_m3 ((p2.toUInt32 >>> ((16 : Int32) &&& 31).toUInt32).toInt32) : l2 = 0 ∨ l2 = 1 ∨ l2 = 2) with q_l2 | q_l2 | q_l2
        · subst q_l2
          show own_Go p e below (T157.setTop (mkF m 195 #[.val (.long p1), .second, .val (.int p2), .val (.int p3), .val (.ref b120), .val (.int (1 : Int32)), .val (.int (0 : Int32)), .val (.int (0 : Int32)), .val (.ref b135), .val (.int (2 : Int32)), .val (.ref b143), .unset, .unset, .unset] [])) _
          refine own_go (fun _ k => XS.aload X157.here hx rfl (hb hby at_195) rfl rfl k) ?_
          show own_Go p e below (T157.setTop (mkF m 197 #[.val (.long p1), .second, .val (.int p2), .val (.int p3), .val (.ref b120), .val (.int (1 : Int32)), .val (.int (0 : Int32)), .val (.int (0 : Int32)), .val (.ref b135), .val (.int (2 : Int32)), .val (.ref b143), .unset, .unset, .unset] [(.ref b143)])) _
          refine own_go (fun _ k => XS.iload X157.here hx rfl (hb hby at_197) rfl k) ?_
          show own_Go p e below (T157.setTop (mkF m 199 #[.val (.long p1), .second, .val (.int p2), .val (.int p3), .val (.ref b120), .val (.int (1 : Int32)), .val (.int (0 : Int32)), .val (.int (0 : Int32)), .val (.ref b135), .val (.int (2 : Int32)), .val (.ref b143), .unset, .unset, .unset] [(.int (2 : Int32)), (.ref b143)])) _
          have z516 := (Nat.le_trans (Nat.le_trans (Nat.le_trans (Keep.of_wr W137).1 (Keep.of_wr W140).1) (Keep.of_wr W142).1) E143.1)
          have ne515 : b135 ≠ b144 := Nat.ne_of_lt (Nat.lt_of_lt_of_le (Nat.lt_of_lt_of_le V135.lt z516) (Nat.le_of_eq g144.symm))
          have z518 := (Nat.le_trans (Nat.le_trans (Keep.of_wr W137).1 (Keep.of_wr W140).1) (Keep.of_wr W142).1)
          have ne517 : b135 ≠ b143 := Nat.ne_of_lt (Nat.lt_of_lt_of_le (Nat.lt_of_lt_of_le V135.lt z518) (Nat.le_of_eq g143.symm))
          have f519 := ((((V142.ext E143).ext E144).keep K150 (ninS ne515 nin0)).keep K157 (ninS ne517 nin0))
          have f520 := (Fv150.keep K157 (ninS (Ne.symm ne152) nin0))
          have f521 := (Fc150.keep K157 (ninS (Ne.symm ne152) nin0))
          have ne522 : b143 ≠ t150 := Nat.ne_of_lt (Nat.lt_of_lt_of_le (Nat.lt_of_lt_of_le A143.lt E144.1) tg150)
          have f523 := (Vt150.keep K157 (ninS (Ne.symm ne522) nin0))
          have f524 := (f156.keep K157 (allS (Nat.le_trans Z0 (Nat.le_trans z155 (Nat.le_of_eq g143.symm))) all0))
          obtain ⟨cq525, kq525, q525a, q525b, q525c⟩ := isOf hZ (rfl : T157.heap = T157.heap) (f151.keep K157)
          obtain ⟨v525, _, ⟨T525, L525, k525, n525⟩, -, X525, ⟨Lc525, hQ525, l525, y525, z525⟩, st525⟩ := X157.virtualBack hx (y := (⟨"com/example/sequela/sequela/Fields", "get", "(I)Ljava/lang/String;"⟩ : MethodName)) (z := (⟨"com/example/sequela/sequela/Fields", "get", "(I)Ljava/lang/String;"⟩ : MethodName)) hown (mvT hZ (hw _ (List.mem_of_getElem? (i := 49) rfl))) (mvT hZ (hw _ (List.mem_of_getElem? (i := 50) rfl))) (notFace_of_selects (args := #[]) (mvT hZ (hw _ (List.mem_of_getElem? (i := 52) rfl)))) (mvT hZ (hw _ (List.mem_of_getElem? (i := 52) rfl))) (mvT hZ (hw _ (List.mem_of_getElem? (i := 51) rfl))) (by decide) (backOf (W := 0) (rm_get_2N l Z a0 hw [] b143 b135 k135 b144 t150 kt150 G1 G3 (1 : Int32) ((own_c0 p1)) ((own_c p1 8)) ((own_c p1 16)) ((own_c p1 24)) ((own_c p1 32)) ((own_c p1 40)) ((own_c p1 48)) (1 : Int32) T157.heap n0 f524 (f151.keep K157) Fe157 Ft157 f519 (Eq150.keep K157) f520 f521 f523 (own_c7 p1) O2 P5 O4 rG3) hZ (hw _ (List.mem_of_getElem? (i := 53) rfl)) (hw _ (List.mem_of_getElem? (i := 6) rfl)) (by decide) (by decide)) q525a q525c (g := (mkF m 199 #[.val (.long p1), .second, .val (.int p2), .val (.int p3), .val (.ref b120), .val (.int (1 : Int32)), .val (.int (0 : Int32)), .val (.int (0 : Int32)), .val (.ref b135), .val (.int (2 : Int32)), .val (.ref b143), .unset, .unset, .unset] [(.int (2 : Int32)), (.ref b143)])) rfl (by rw [hml]; rfl) (Steps.refl _) (argsL := [(.int (2 : Int32))]) (rest := []) (lenOf pd_15 rfl) rfl (by show 2 * 0 + _ ≤ _; exact Nat.le_of_eq rfl) (hb hby at_199) (fun _ _ => ⟨rfl, (rfl : T157.heap = T157.heap), (by decide : 5 + 0 ≤ _), (by decide : 23 + 0 ≤ _)⟩)
          dsimp only [Pt.U, Pt.locs, Pt.cells, Pt.slots] at X525 l525 y525 z525 st525 hQ525
          subst l525 y525 z525
          refine own_gos st525 ?_
          obtain ⟨rfl, Nq525, K525⟩ := hQ525
          have N525 := Fr.app N157 Nq525
          show own_Go p e below (T525.setTop (mkF m 202 #[.val (.long p1), .second, .val (.int p2), .val (.int p3), .val (.ref b120), .val (.int (1 : Int32)), .val (.int (0 : Int32)), .val (.int (0 : Int32)), .val (.ref b135), .val (.int (2 : Int32)), .val (.ref b143), .unset, .unset, .unset] [.null])) _
          have z527 := (Nat.le_trans (Nat.le_trans (Nat.le_trans (Nat.le_trans (Nat.le_trans z148 E135.1) (Keep.of_wr W137).1) (Keep.of_wr W140).1) (Keep.of_wr W142).1) E143.1)
          have ne526 : b120 ≠ b144 := Nat.ne_of_lt (Nat.lt_of_lt_of_le (Nat.lt_of_lt_of_le V120.lt z527) (Nat.le_of_eq g144.symm))
          have z529 := (Nat.le_trans (Nat.le_trans (Nat.le_trans (Nat.le_trans z148 E135.1) (Keep.of_wr W137).1) (Keep.of_wr W140).1) (Keep.of_wr W142).1)
          have ne528 : b120 ≠ b143 := Nat.ne_of_lt (Nat.lt_of_lt_of_le (Nat.lt_of_lt_of_le V120.lt z529) (Nat.le_of_eq g143.symm))
          have f530 := (((f149.keep K150 (ninS ne526 nin0)).keep K157 (ninS ne528 nin0)).keep K525 nin0)
          have z531 := (Nat.le_trans (Nat.le_trans (Nat.le_trans (Nat.le_trans z146 E144.1) K150.1) K157.1) K525.1)
          exact tail_2_0 l Z a0 hw p1 p2 p3 b120 k120 b135 b143 (1 : Int32) (0 : Int32) G1 G3 (own_c0 p1) (own_c p1 8) (own_c p1 16) (own_c p1 24) (own_c p1 32) (own_c p1 40) (own_c p1 48) h0 n0 X525 hx hby hml hown hZ hrt hlk T525.heap (rfl : T525.heap = T525.heap) N525 (Nat.le_trans Z0 z531) (f524.keep K525 all0) f530 O2 P5 O4 rG3
        · subst q_l2
          show own_Go p e below (T157.setTop (mkF m 195 #[.val (.long p1), .second, .val (.int p2), .val (.int p3), .val (.ref b120), .val (.int (1 : Int32)), .val (.int (0 : Int32)), .val (.int (1 : Int32)), .val (.ref b135), .val (.int (2 : Int32)), .val (.ref b143), .unset, .unset, .unset] [])) _
          refine own_go (fun _ k => XS.aload X157.here hx rfl (hb hby at_195) rfl rfl k) ?_
          show own_Go p e below (T157.setTop (mkF m 197 #[.val (.long p1), .second, .val (.int p2), .val (.int p3), .val (.ref b120), .val (.int (1 : Int32)), .val (.int (0 : Int32)), .val (.int (1 : Int32)), .val (.ref b135), .val (.int (2 : Int32)), .val (.ref b143), .unset, .unset, .unset] [(.ref b143)])) _
          refine own_go (fun _ k => XS.iload X157.here hx rfl (hb hby at_197) rfl k) ?_
          show own_Go p e below (T157.setTop (mkF m 199 #[.val (.long p1), .second, .val (.int p2), .val (.int p3), .val (.ref b120), .val (.int (1 : Int32)), .val (.int (0 : Int32)), .val (.int (1 : Int32)), .val (.ref b135), .val (.int (2 : Int32)), .val (.ref b143), .unset, .unset, .unset] [(.int (2 : Int32)), (.ref b143)])) _
          have z533 := (Nat.le_trans (Nat.le_trans (Nat.le_trans (Keep.of_wr W137).1 (Keep.of_wr W140).1) (Keep.of_wr W142).1) E143.1)
          have ne532 : b135 ≠ b144 := Nat.ne_of_lt (Nat.lt_of_lt_of_le (Nat.lt_of_lt_of_le V135.lt z533) (Nat.le_of_eq g144.symm))
          have z535 := (Nat.le_trans (Nat.le_trans (Keep.of_wr W137).1 (Keep.of_wr W140).1) (Keep.of_wr W142).1)
          have ne534 : b135 ≠ b143 := Nat.ne_of_lt (Nat.lt_of_lt_of_le (Nat.lt_of_lt_of_le V135.lt z535) (Nat.le_of_eq g143.symm))
          have f536 := ((((V142.ext E143).ext E144).keep K150 (ninS ne532 nin0)).keep K157 (ninS ne534 nin0))
          have f537 := (Fv150.keep K157 (ninS (Ne.symm ne152) nin0))
          have f538 := (Fc150.keep K157 (ninS (Ne.symm ne152) nin0))
          have ne539 : b143 ≠ t150 := Nat.ne_of_lt (Nat.lt_of_lt_of_le (Nat.lt_of_lt_of_le A143.lt E144.1) tg150)
          have f540 := (Vt150.keep K157 (ninS (Ne.symm ne539) nin0))
          have f541 := (f156.keep K157 (allS (Nat.le_trans Z0 (Nat.le_trans z155 (Nat.le_of_eq g143.symm))) all0))
          obtain ⟨cq542, kq542, q542a, q542b, q542c⟩ := isOf hZ (rfl : T157.heap = T157.heap) (f151.keep K157)
          obtain ⟨v542, _, ⟨T542, L542, k542, n542⟩, -, X542, ⟨Lc542, hQ542, l542, y542, z542⟩, st542⟩ := X157.virtualBack hx (y := (⟨"com/example/sequela/sequela/Fields", "get", "(I)Ljava/lang/String;"⟩ : MethodName)) (z := (⟨"com/example/sequela/sequela/Fields", "get", "(I)Ljava/lang/String;"⟩ : MethodName)) hown (mvT hZ (hw _ (List.mem_of_getElem? (i := 49) rfl))) (mvT hZ (hw _ (List.mem_of_getElem? (i := 50) rfl))) (notFace_of_selects (args := #[]) (mvT hZ (hw _ (List.mem_of_getElem? (i := 52) rfl)))) (mvT hZ (hw _ (List.mem_of_getElem? (i := 52) rfl))) (mvT hZ (hw _ (List.mem_of_getElem? (i := 51) rfl))) (by decide) (backOf (W := 0) (rm_get_2S l Z a0 hw [] b143 b135 k135 b144 t150 kt150 G1 G3 (1 : Int32) ((own_c0 p1)) ((own_c p1 8)) ((own_c p1 16)) ((own_c p1 24)) ((own_c p1 32)) ((own_c p1 40)) ((own_c p1 48)) (1 : Int32) (2 : Int32) (1 : Int32) ([(own_c p1 8)] : List Int32) T157.heap n0 f541 (f151.keep K157) Fe157 Ft157 f536 (Eq150.keep K157) f537 f538 f540 (own_c7 p1) O2 P5 O4 rG3 (by decide) (by unfold own_R; decide) rfl) hZ (hw _ (List.mem_of_getElem? (i := 53) rfl)) (hw _ (List.mem_of_getElem? (i := 6) rfl)) (by decide) (by decide)) q542a q542c (g := (mkF m 199 #[.val (.long p1), .second, .val (.int p2), .val (.int p3), .val (.ref b120), .val (.int (1 : Int32)), .val (.int (0 : Int32)), .val (.int (1 : Int32)), .val (.ref b135), .val (.int (2 : Int32)), .val (.ref b143), .unset, .unset, .unset] [(.int (2 : Int32)), (.ref b143)])) rfl (by rw [hml]; rfl) (Steps.refl _) (argsL := [(.int (2 : Int32))]) (rest := []) (lenOf pd_15 rfl) rfl (by show 2 * 0 + _ ≤ _; exact Nat.le_of_eq rfl) (hb hby at_199) (fun _ _ => ⟨rfl, (rfl : T157.heap = T157.heap), (by decide : 5 + 2 ≤ _), (by decide : 23 + 6 ≤ _)⟩)
          dsimp only [Pt.U, Pt.locs, Pt.cells, Pt.slots] at X542 l542 y542 z542 st542 hQ542
          subst l542 y542 z542
          refine own_gos st542 ?_
          obtain ⟨x542, t542, kt542, rfl, Nq542, K542, xg542, tg542, Ex542, Fv542, Fc542, Vt542⟩ := hQ542
          have N542 := Fr.app N157 Nq542
          show own_Go p e below (T542.setTop (mkF m 202 #[.val (.long p1), .second, .val (.int p2), .val (.int p3), .val (.ref b120), .val (.int (1 : Int32)), .val (.int (0 : Int32)), .val (.int (1 : Int32)), .val (.ref b135), .val (.int (2 : Int32)), .val (.ref b143), .unset, .unset, .unset] [(.ref x542)])) _
          have z544 := (Nat.le_trans (Nat.le_trans (Nat.le_trans (Nat.le_trans (Nat.le_trans z148 E135.1) (Keep.of_wr W137).1) (Keep.of_wr W140).1) (Keep.of_wr W142).1) E143.1)
          have ne543 : b120 ≠ b144 := Nat.ne_of_lt (Nat.lt_of_lt_of_le (Nat.lt_of_lt_of_le V120.lt z544) (Nat.le_of_eq g144.symm))
          have z546 := (Nat.le_trans (Nat.le_trans (Nat.le_trans (Nat.le_trans z148 E135.1) (Keep.of_wr W137).1) (Keep.of_wr W140).1) (Keep.of_wr W142).1)
          have ne545 : b120 ≠ b143 := Nat.ne_of_lt (Nat.lt_of_lt_of_le (Nat.lt_of_lt_of_le V120.lt z546) (Nat.le_of_eq g143.symm))
          have f547 := (((f149.keep K150 (ninS ne543 nin0)).keep K157 (ninS ne545 nin0)).keep K542 nin0)
          have z548 := (Nat.le_trans (Nat.le_trans (Nat.le_trans (Nat.le_trans z146 E144.1) K150.1) K157.1) K542.1)
          exact tail_2_1 l Z a0 hw p1 p2 p3 b120 k120 b135 b143 (1 : Int32) (0 : Int32) G1 G3 (own_c0 p1) (own_c p1 8) (own_c p1 16) (own_c p1 24) (own_c p1 32) (own_c p1 40) (own_c p1 48) x542 t542 kt542 (own_c p1 8) h0 n0 X542 hx hby hml hown hZ hrt hlk T542.heap (rfl : T542.heap = T542.heap) N542 (Nat.le_trans Z0 z548) (f541.keep K542 all0) f547 Ex542 Fv542 Fc542 Vt542 O2 P5 O4 rG3 (fun c hc => own_c7 p1 c (by simp only [List.mem_cons, List.not_mem_nil, or_false] at hc ⊢; rcases hc with rfl <;> simp)) (by decide) rfl
        · subst q_l2
          show own_Go p e below (T157.setTop (mkF m 195 #[.val (.long p1), .second, .val (.int p2), .val (.int p3), .val (.ref b120), .val (.int (1 : Int32)), .val (.int (0 : Int32)), .val (.int (2 : Int32)), .val (.ref b135), .val (.int (2 : Int32)), .val (.ref b143), .unset, .unset, .unset] [])) _
          refine own_go (fun _ k => XS.aload X157.here hx rfl (hb hby at_195) rfl rfl k) ?_
          show own_Go p e below (T157.setTop (mkF m 197 #[.val (.long p1), .second, .val (.int p2), .val (.int p3), .val (.ref b120), .val (.int (1 : Int32)), .val (.int (0 : Int32)), .val (.int (2 : Int32)), .val (.ref b135), .val (.int (2 : Int32)), .val (.ref b143), .unset, .unset, .unset] [(.ref b143)])) _
          refine own_go (fun _ k => XS.iload X157.here hx rfl (hb hby at_197) rfl k) ?_
          show own_Go p e below (T157.setTop (mkF m 199 #[.val (.long p1), .second, .val (.int p2), .val (.int p3), .val (.ref b120), .val (.int (1 : Int32)), .val (.int (0 : Int32)), .val (.int (2 : Int32)), .val (.ref b135), .val (.int (2 : Int32)), .val (.ref b143), .unset, .unset, .unset] [(.int (2 : Int32)), (.ref b143)])) _
          have z550 := (Nat.le_trans (Nat.le_trans (Nat.le_trans (Keep.of_wr W137).1 (Keep.of_wr W140).1) (Keep.of_wr W142).1) E143.1)
          have ne549 : b135 ≠ b144 := Nat.ne_of_lt (Nat.lt_of_lt_of_le (Nat.lt_of_lt_of_le V135.lt z550) (Nat.le_of_eq g144.symm))
          have z552 := (Nat.le_trans (Nat.le_trans (Keep.of_wr W137).1 (Keep.of_wr W140).1) (Keep.of_wr W142).1)
          have ne551 : b135 ≠ b143 := Nat.ne_of_lt (Nat.lt_of_lt_of_le (Nat.lt_of_lt_of_le V135.lt z552) (Nat.le_of_eq g143.symm))
          have f553 := ((((V142.ext E143).ext E144).keep K150 (ninS ne549 nin0)).keep K157 (ninS ne551 nin0))
          have f554 := (Fv150.keep K157 (ninS (Ne.symm ne152) nin0))
          have f555 := (Fc150.keep K157 (ninS (Ne.symm ne152) nin0))
          have ne556 : b143 ≠ t150 := Nat.ne_of_lt (Nat.lt_of_lt_of_le (Nat.lt_of_lt_of_le A143.lt E144.1) tg150)
          have f557 := (Vt150.keep K157 (ninS (Ne.symm ne556) nin0))
          have f558 := (f156.keep K157 (allS (Nat.le_trans Z0 (Nat.le_trans z155 (Nat.le_of_eq g143.symm))) all0))
          obtain ⟨cq559, kq559, q559a, q559b, q559c⟩ := isOf hZ (rfl : T157.heap = T157.heap) (f151.keep K157)
          obtain ⟨v559, _, ⟨T559, L559, k559, n559⟩, -, X559, ⟨Lc559, hQ559, l559, y559, z559⟩, st559⟩ := X157.virtualBack hx (y := (⟨"com/example/sequela/sequela/Fields", "get", "(I)Ljava/lang/String;"⟩ : MethodName)) (z := (⟨"com/example/sequela/sequela/Fields", "get", "(I)Ljava/lang/String;"⟩ : MethodName)) hown (mvT hZ (hw _ (List.mem_of_getElem? (i := 49) rfl))) (mvT hZ (hw _ (List.mem_of_getElem? (i := 50) rfl))) (notFace_of_selects (args := #[]) (mvT hZ (hw _ (List.mem_of_getElem? (i := 52) rfl)))) (mvT hZ (hw _ (List.mem_of_getElem? (i := 52) rfl))) (mvT hZ (hw _ (List.mem_of_getElem? (i := 51) rfl))) (by decide) (backOf (W := 0) (rm_get_2S l Z a0 hw [] b143 b135 k135 b144 t150 kt150 G1 G3 (1 : Int32) ((own_c0 p1)) ((own_c p1 8)) ((own_c p1 16)) ((own_c p1 24)) ((own_c p1 32)) ((own_c p1 40)) ((own_c p1 48)) (1 : Int32) (3 : Int32) (2 : Int32) ([(own_c p1 8), (own_c p1 16)] : List Int32) T157.heap n0 f558 (f151.keep K157) Fe157 Ft157 f553 (Eq150.keep K157) f554 f555 f557 (own_c7 p1) O2 P5 O4 rG3 (by decide) (by unfold own_R; decide) rfl) hZ (hw _ (List.mem_of_getElem? (i := 53) rfl)) (hw _ (List.mem_of_getElem? (i := 6) rfl)) (by decide) (by decide)) q559a q559c (g := (mkF m 199 #[.val (.long p1), .second, .val (.int p2), .val (.int p3), .val (.ref b120), .val (.int (1 : Int32)), .val (.int (0 : Int32)), .val (.int (2 : Int32)), .val (.ref b135), .val (.int (2 : Int32)), .val (.ref b143), .unset, .unset, .unset] [(.int (2 : Int32)), (.ref b143)])) rfl (by rw [hml]; rfl) (Steps.refl _) (argsL := [(.int (2 : Int32))]) (rest := []) (lenOf pd_15 rfl) rfl (by show 2 * 0 + _ ≤ _; exact Nat.le_of_eq rfl) (hb hby at_199) (fun _ _ => ⟨rfl, (rfl : T157.heap = T157.heap), (by decide : 5 + 2 ≤ _), (by decide : 23 + 6 ≤ _)⟩)
          dsimp only [Pt.U, Pt.locs, Pt.cells, Pt.slots] at X559 l559 y559 z559 st559 hQ559
          subst l559 y559 z559
          refine own_gos st559 ?_
          obtain ⟨x559, t559, kt559, rfl, Nq559, K559, xg559, tg559, Ex559, Fv559, Fc559, Vt559⟩ := hQ559
          have N559 := Fr.app N157 Nq559
          show own_Go p e below (T559.setTop (mkF m 202 #[.val (.long p1), .second, .val (.int p2), .val (.int p3), .val (.ref b120), .val (.int (1 : Int32)), .val (.int (0 : Int32)), .val (.int (2 : Int32)), .val (.ref b135), .val (.int (2 : Int32)), .val (.ref b143), .unset, .unset, .unset] [(.ref x559)])) _
          have z561 := (Nat.le_trans (Nat.le_trans (Nat.le_trans (Nat.le_trans (Nat.le_trans z148 E135.1) (Keep.of_wr W137).1) (Keep.of_wr W140).1) (Keep.of_wr W142).1) E143.1)
          have ne560 : b120 ≠ b144 := Nat.ne_of_lt (Nat.lt_of_lt_of_le (Nat.lt_of_lt_of_le V120.lt z561) (Nat.le_of_eq g144.symm))
          have z563 := (Nat.le_trans (Nat.le_trans (Nat.le_trans (Nat.le_trans z148 E135.1) (Keep.of_wr W137).1) (Keep.of_wr W140).1) (Keep.of_wr W142).1)
          have ne562 : b120 ≠ b143 := Nat.ne_of_lt (Nat.lt_of_lt_of_le (Nat.lt_of_lt_of_le V120.lt z563) (Nat.le_of_eq g143.symm))
          have f564 := (((f149.keep K150 (ninS ne560 nin0)).keep K157 (ninS ne562 nin0)).keep K559 nin0)
          have z565 := (Nat.le_trans (Nat.le_trans (Nat.le_trans (Nat.le_trans z146 E144.1) K150.1) K157.1) K559.1)
          exact tail_2_2 l Z a0 hw p1 p2 p3 b120 k120 b135 b143 (1 : Int32) (0 : Int32) G1 G3 (own_c0 p1) (own_c p1 8) (own_c p1 16) (own_c p1 24) (own_c p1 32) (own_c p1 40) (own_c p1 48) x559 t559 kt559 (own_c p1 8) (own_c p1 16) h0 n0 X559 hx hby hml hown hZ hrt hlk T559.heap (rfl : T559.heap = T559.heap) N559 (Nat.le_trans Z0 z565) (f558.keep K559 all0) f564 Ex559 Fv559 Fc559 Vt559 O2 P5 O4 rG3 (fun c hc => own_c7 p1 c (by simp only [List.mem_cons, List.not_mem_nil, or_false] at hc ⊢; rcases hc with rfl | rfl <;> simp)) (by decide) rfl (by decide) rfl
      · subst q_l1
        rcases (h_l2 ▸ own_m3 ((p2.toUInt32 >>> ((16 : Int32) &&& 31).toUInt32).toInt32) : l2 = 0 ∨ l2 = 1 ∨ l2 = 2) with q_l2 | q_l2 | q_l2
        · subst q_l2
          show own_Go p e below (T157.setTop (mkF m 195 #[.val (.long p1), .second, .val (.int p2), .val (.int p3), .val (.ref b120), .val (.int (1 : Int32)), .val (.int (1 : Int32)), .val (.int (0 : Int32)), .val (.ref b135), .val (.int (2 : Int32)), .val (.ref b143), .unset, .unset, .unset] [])) _
          refine own_go (fun _ k => XS.aload X157.here hx rfl (hb hby at_195) rfl rfl k) ?_
          show own_Go p e below (T157.setTop (mkF m 197 #[.val (.long p1), .second, .val (.int p2), .val (.int p3), .val (.ref b120), .val (.int (1 : Int32)), .val (.int (1 : Int32)), .val (.int (0 : Int32)), .val (.ref b135), .val (.int (2 : Int32)), .val (.ref b143), .unset, .unset, .unset] [(.ref b143)])) _
          refine own_go (fun _ k => XS.iload X157.here hx rfl (hb hby at_197) rfl k) ?_
          show own_Go p e below (T157.setTop (mkF m 199 #[.val (.long p1), .second, .val (.int p2), .val (.int p3), .val (.ref b120), .val (.int (1 : Int32)), .val (.int (1 : Int32)), .val (.int (0 : Int32)), .val (.ref b135), .val (.int (2 : Int32)), .val (.ref b143), .unset, .unset, .unset] [(.int (2 : Int32)), (.ref b143)])) _
          have z567 := (Nat.le_trans (Nat.le_trans (Nat.le_trans (Keep.of_wr W137).1 (Keep.of_wr W140).1) (Keep.of_wr W142).1) E143.1)
          have ne566 : b135 ≠ b144 := Nat.ne_of_lt (Nat.lt_of_lt_of_le (Nat.lt_of_lt_of_le V135.lt z567) (Nat.le_of_eq g144.symm))
          have z569 := (Nat.le_trans (Nat.le_trans (Keep.of_wr W137).1 (Keep.of_wr W140).1) (Keep.of_wr W142).1)
          have ne568 : b135 ≠ b143 := Nat.ne_of_lt (Nat.lt_of_lt_of_le (Nat.lt_of_lt_of_le V135.lt z569) (Nat.le_of_eq g143.symm))
          have f570 := ((((V142.ext E143).ext E144).keep K150 (ninS ne566 nin0)).keep K157 (ninS ne568 nin0))
          have f571 := (Fv150.keep K157 (ninS (Ne.symm ne152) nin0))
          have f572 := (Fc150.keep K157 (ninS (Ne.symm ne152) nin0))
          have ne573 : b143 ≠ t150 := Nat.ne_of_lt (Nat.lt_of_lt_of_le (Nat.lt_of_lt_of_le A143.lt E144.1) tg150)
          have f574 := (Vt150.keep K157 (ninS (Ne.symm ne573) nin0))
          have f575 := (f156.keep K157 (allS (Nat.le_trans Z0 (Nat.le_trans z155 (Nat.le_of_eq g143.symm))) all0))
          obtain ⟨cq576, kq576, q576a, q576b, q576c⟩ := isOf hZ (rfl : T157.heap = T157.heap) (f151.keep K157)
          obtain ⟨v576, _, ⟨T576, L576, k576, n576⟩, -, X576, ⟨Lc576, hQ576, l576, y576, z576⟩, st576⟩ := X157.virtualBack hx (y := (⟨"com/example/sequela/sequela/Fields", "get", "(I)Ljava/lang/String;"⟩ : MethodName)) (z := (⟨"com/example/sequela/sequela/Fields", "get", "(I)Ljava/lang/String;"⟩ : MethodName)) hown (mvT hZ (hw _ (List.mem_of_getElem? (i := 49) rfl))) (mvT hZ (hw _ (List.mem_of_getElem? (i := 50) rfl))) (notFace_of_selects (args := #[]) (mvT hZ (hw _ (List.mem_of_getElem? (i := 52) rfl)))) (mvT hZ (hw _ (List.mem_of_getElem? (i := 52) rfl))) (mvT hZ (hw _ (List.mem_of_getElem? (i := 51) rfl))) (by decide) (backOf (W := 0) (rm_get_2N l Z a0 hw [] b143 b135 k135 b144 t150 kt150 G1 G3 (1 : Int32) ((own_c0 p1)) ((own_c p1 8)) ((own_c p1 16)) ((own_c p1 24)) ((own_c p1 32)) ((own_c p1 40)) ((own_c p1 48)) (2 : Int32) T157.heap n0 f575 (f151.keep K157) Fe157 Ft157 f570 (Eq150.keep K157) f571 f572 f574 (own_c7 p1) O2 P5 O4 rG3) hZ (hw _ (List.mem_of_getElem? (i := 53) rfl)) (hw _ (List.mem_of_getElem? (i := 6) rfl)) (by decide) (by decide)) q576a q576c (g := (mkF m 199 #[.val (.long p1), .second, .val (.int p2), .val (.int p3), .val (.ref b120), .val (.int (1 : Int32)), .val (.int (1 : Int32)), .val (.int (0 : Int32)), .val (.ref b135), .val (.int (2 : Int32)), .val (.ref b143), .unset, .unset, .unset] [(.int (2 : Int32)), (.ref b143)])) rfl (by rw [hml]; rfl) (Steps.refl _) (argsL := [(.int (2 : Int32))]) (rest := []) (lenOf pd_15 rfl) rfl (by show 2 * 0 + _ ≤ _; exact Nat.le_of_eq rfl) (hb hby at_199) (fun _ _ => ⟨rfl, (rfl : T157.heap = T157.heap), (by decide : 5 + 0 ≤ _), (by decide : 23 + 0 ≤ _)⟩)
          dsimp only [Pt.U, Pt.locs, Pt.cells, Pt.slots] at X576 l576 y576 z576 st576 hQ576
          subst l576 y576 z576
          refine own_gos st576 ?_
          obtain ⟨rfl, Nq576, K576⟩ := hQ576
          have N576 := Fr.app N157 Nq576
          show own_Go p e below (T576.setTop (mkF m 202 #[.val (.long p1), .second, .val (.int p2), .val (.int p3), .val (.ref b120), .val (.int (1 : Int32)), .val (.int (1 : Int32)), .val (.int (0 : Int32)), .val (.ref b135), .val (.int (2 : Int32)), .val (.ref b143), .unset, .unset, .unset] [.null])) _
          have z578 := (Nat.le_trans (Nat.le_trans (Nat.le_trans (Nat.le_trans (Nat.le_trans z148 E135.1) (Keep.of_wr W137).1) (Keep.of_wr W140).1) (Keep.of_wr W142).1) E143.1)
          have ne577 : b120 ≠ b144 := Nat.ne_of_lt (Nat.lt_of_lt_of_le (Nat.lt_of_lt_of_le V120.lt z578) (Nat.le_of_eq g144.symm))
          have z580 := (Nat.le_trans (Nat.le_trans (Nat.le_trans (Nat.le_trans z148 E135.1) (Keep.of_wr W137).1) (Keep.of_wr W140).1) (Keep.of_wr W142).1)
          have ne579 : b120 ≠ b143 := Nat.ne_of_lt (Nat.lt_of_lt_of_le (Nat.lt_of_lt_of_le V120.lt z580) (Nat.le_of_eq g143.symm))
          have f581 := (((f149.keep K150 (ninS ne577 nin0)).keep K157 (ninS ne579 nin0)).keep K576 nin0)
          have z582 := (Nat.le_trans (Nat.le_trans (Nat.le_trans (Nat.le_trans z146 E144.1) K150.1) K157.1) K576.1)
          exact tail_2_0 l Z a0 hw p1 p2 p3 b120 k120 b135 b143 (1 : Int32) (1 : Int32) G1 G3 (own_c0 p1) (own_c p1 8) (own_c p1 16) (own_c p1 24) (own_c p1 32) (own_c p1 40) (own_c p1 48) h0 n0 X576 hx hby hml hown hZ hrt hlk T576.heap (rfl : T576.heap = T576.heap) N576 (Nat.le_trans Z0 z582) (f575.keep K576 all0) f581 O2 P5 O4 rG3
        · subst q_l2
          show own_Go p e below (T157.setTop (mkF m 195 #[.val (.long p1), .second, .val (.int p2), .val (.int p3), .val (.ref b120), .val (.int (1 : Int32)), .val (.int (1 : Int32)), .val (.int (1 : Int32)), .val (.ref b135), .val (.int (2 : Int32)), .val (.ref b143), .unset, .unset, .unset] [])) _
          refine own_go (fun _ k => XS.aload X157.here hx rfl (hb hby at_195) rfl rfl k) ?_
          show own_Go p e below (T157.setTop (mkF m 197 #[.val (.long p1), .second, .val (.int p2), .val (.int p3), .val (.ref b120), .val (.int (1 : Int32)), .val (.int (1 : Int32)), .val (.int (1 : Int32)), .val (.ref b135), .val (.int (2 : Int32)), .val (.ref b143), .unset, .unset, .unset] [(.ref b143)])) _
          refine own_go (fun _ k => XS.iload X157.here hx rfl (hb hby at_197) rfl k) ?_
          show own_Go p e below (T157.setTop (mkF m 199 #[.val (.long p1), .second, .val (.int p2), .val (.int p3), .val (.ref b120), .val (.int (1 : Int32)), .val (.int (1 : Int32)), .val (.int (1 : Int32)), .val (.ref b135), .val (.int (2 : Int32)), .val (.ref b143), .unset, .unset, .unset] [(.int (2 : Int32)), (.ref b143)])) _
          have z584 := (Nat.le_trans (Nat.le_trans (Nat.le_trans (Keep.of_wr W137).1 (Keep.of_wr W140).1) (Keep.of_wr W142).1) E143.1)
          have ne583 : b135 ≠ b144 := Nat.ne_of_lt (Nat.lt_of_lt_of_le (Nat.lt_of_lt_of_le V135.lt z584) (Nat.le_of_eq g144.symm))
          have z586 := (Nat.le_trans (Nat.le_trans (Keep.of_wr W137).1 (Keep.of_wr W140).1) (Keep.of_wr W142).1)
          have ne585 : b135 ≠ b143 := Nat.ne_of_lt (Nat.lt_of_lt_of_le (Nat.lt_of_lt_of_le V135.lt z586) (Nat.le_of_eq g143.symm))
          have f587 := ((((V142.ext E143).ext E144).keep K150 (ninS ne583 nin0)).keep K157 (ninS ne585 nin0))
          have f588 := (Fv150.keep K157 (ninS (Ne.symm ne152) nin0))
          have f589 := (Fc150.keep K157 (ninS (Ne.symm ne152) nin0))
          have ne590 : b143 ≠ t150 := Nat.ne_of_lt (Nat.lt_of_lt_of_le (Nat.lt_of_lt_of_le A143.lt E144.1) tg150)
          have f591 := (Vt150.keep K157 (ninS (Ne.symm ne590) nin0))
          have f592 := (f156.keep K157 (allS (Nat.le_trans Z0 (Nat.le_trans z155 (Nat.le_of_eq g143.symm))) all0))
          obtain ⟨cq593, kq593, q593a, q593b, q593c⟩ := isOf hZ (rfl : T157.heap = T157.heap) (f151.keep K157)
          obtain ⟨v593, _, ⟨T593, L593, k593, n593⟩, -, X593, ⟨Lc593, hQ593, l593, y593, z593⟩, st593⟩ := X157.virtualBack hx (y := (⟨"com/example/sequela/sequela/Fields", "get", "(I)Ljava/lang/String;"⟩ : MethodName)) (z := (⟨"com/example/sequela/sequela/Fields", "get", "(I)Ljava/lang/String;"⟩ : MethodName)) hown (mvT hZ (hw _ (List.mem_of_getElem? (i := 49) rfl))) (mvT hZ (hw _ (List.mem_of_getElem? (i := 50) rfl))) (notFace_of_selects (args := #[]) (mvT hZ (hw _ (List.mem_of_getElem? (i := 52) rfl)))) (mvT hZ (hw _ (List.mem_of_getElem? (i := 52) rfl))) (mvT hZ (hw _ (List.mem_of_getElem? (i := 51) rfl))) (by decide) (backOf (W := 0) (rm_get_2S l Z a0 hw [] b143 b135 k135 b144 t150 kt150 G1 G3 (1 : Int32) ((own_c0 p1)) ((own_c p1 8)) ((own_c p1 16)) ((own_c p1 24)) ((own_c p1 32)) ((own_c p1 40)) ((own_c p1 48)) (2 : Int32) (3 : Int32) (1 : Int32) ([(own_c p1 16)] : List Int32) T157.heap n0 f592 (f151.keep K157) Fe157 Ft157 f587 (Eq150.keep K157) f588 f589 f591 (own_c7 p1) O2 P5 O4 rG3 (by decide) (by unfold own_R; decide) rfl) hZ (hw _ (List.mem_of_getElem? (i := 53) rfl)) (hw _ (List.mem_of_getElem? (i := 6) rfl)) (by decide) (by decide)) q593a q593c (g := (mkF m 199 #[.val (.long p1), .second, .val (.int p2), .val (.int p3), .val (.ref b120), .val (.int (1 : Int32)), .val (.int (1 : Int32)), .val (.int (1 : Int32)), .val (.ref b135), .val (.int (2 : Int32)), .val (.ref b143), .unset, .unset, .unset] [(.int (2 : Int32)), (.ref b143)])) rfl (by rw [hml]; rfl) (Steps.refl _) (argsL := [(.int (2 : Int32))]) (rest := []) (lenOf pd_15 rfl) rfl (by show 2 * 0 + _ ≤ _; exact Nat.le_of_eq rfl) (hb hby at_199) (fun _ _ => ⟨rfl, (rfl : T157.heap = T157.heap), (by decide : 5 + 2 ≤ _), (by decide : 23 + 6 ≤ _)⟩)
          dsimp only [Pt.U, Pt.locs, Pt.cells, Pt.slots] at X593 l593 y593 z593 st593 hQ593
          subst l593 y593 z593
          refine own_gos st593 ?_
          obtain ⟨x593, t593, kt593, rfl, Nq593, K593, xg593, tg593, Ex593, Fv593, Fc593, Vt593⟩ := hQ593
          have N593 := Fr.app N157 Nq593
          show own_Go p e below (T593.setTop (mkF m 202 #[.val (.long p1), .second, .val (.int p2), .val (.int p3), .val (.ref b120), .val (.int (1 : Int32)), .val (.int (1 : Int32)), .val (.int (1 : Int32)), .val (.ref b135), .val (.int (2 : Int32)), .val (.ref b143), .unset, .unset, .unset] [(.ref x593)])) _
          have z595 := (Nat.le_trans (Nat.le_trans (Nat.le_trans (Nat.le_trans (Nat.le_trans z148 E135.1) (Keep.of_wr W137).1) (Keep.of_wr W140).1) (Keep.of_wr W142).1) E143.1)
          have ne594 : b120 ≠ b144 := Nat.ne_of_lt (Nat.lt_of_lt_of_le (Nat.lt_of_lt_of_le V120.lt z595) (Nat.le_of_eq g144.symm))
          have z597 := (Nat.le_trans (Nat.le_trans (Nat.le_trans (Nat.le_trans z148 E135.1) (Keep.of_wr W137).1) (Keep.of_wr W140).1) (Keep.of_wr W142).1)
          have ne596 : b120 ≠ b143 := Nat.ne_of_lt (Nat.lt_of_lt_of_le (Nat.lt_of_lt_of_le V120.lt z597) (Nat.le_of_eq g143.symm))
          have f598 := (((f149.keep K150 (ninS ne594 nin0)).keep K157 (ninS ne596 nin0)).keep K593 nin0)
          have z599 := (Nat.le_trans (Nat.le_trans (Nat.le_trans (Nat.le_trans z146 E144.1) K150.1) K157.1) K593.1)
          exact tail_2_1 l Z a0 hw p1 p2 p3 b120 k120 b135 b143 (1 : Int32) (1 : Int32) G1 G3 (own_c0 p1) (own_c p1 8) (own_c p1 16) (own_c p1 24) (own_c p1 32) (own_c p1 40) (own_c p1 48) x593 t593 kt593 (own_c p1 16) h0 n0 X593 hx hby hml hown hZ hrt hlk T593.heap (rfl : T593.heap = T593.heap) N593 (Nat.le_trans Z0 z599) (f592.keep K593 all0) f598 Ex593 Fv593 Fc593 Vt593 O2 P5 O4 rG3 (fun c hc => own_c7 p1 c (by simp only [List.mem_cons, List.not_mem_nil, or_false] at hc ⊢; rcases hc with rfl <;> simp)) (by decide) rfl
        · subst q_l2
          show own_Go p e below (T157.setTop (mkF m 195 #[.val (.long p1), .second, .val (.int p2), .val (.int p3), .val (.ref b120), .val (.int (1 : Int32)), .val (.int (1 : Int32)), .val (.int (2 : Int32)), .val (.ref b135), .val (.int (2 : Int32)), .val (.ref b143), .unset, .unset, .unset] [])) _
          refine own_go (fun _ k => XS.aload X157.here hx rfl (hb hby at_195) rfl rfl k) ?_
          show own_Go p e below (T157.setTop (mkF m 197 #[.val (.long p1), .second, .val (.int p2), .val (.int p3), .val (.ref b120), .val (.int (1 : Int32)), .val (.int (1 : Int32)), .val (.int (2 : Int32)), .val (.ref b135), .val (.int (2 : Int32)), .val (.ref b143), .unset, .unset, .unset] [(.ref b143)])) _
          refine own_go (fun _ k => XS.iload X157.here hx rfl (hb hby at_197) rfl k) ?_
          show own_Go p e below (T157.setTop (mkF m 199 #[.val (.long p1), .second, .val (.int p2), .val (.int p3), .val (.ref b120), .val (.int (1 : Int32)), .val (.int (1 : Int32)), .val (.int (2 : Int32)), .val (.ref b135), .val (.int (2 : Int32)), .val (.ref b143), .unset, .unset, .unset] [(.int (2 : Int32)), (.ref b143)])) _
          have z601 := (Nat.le_trans (Nat.le_trans (Nat.le_trans (Keep.of_wr W137).1 (Keep.of_wr W140).1) (Keep.of_wr W142).1) E143.1)
          have ne600 : b135 ≠ b144 := Nat.ne_of_lt (Nat.lt_of_lt_of_le (Nat.lt_of_lt_of_le V135.lt z601) (Nat.le_of_eq g144.symm))
          have z603 := (Nat.le_trans (Nat.le_trans (Keep.of_wr W137).1 (Keep.of_wr W140).1) (Keep.of_wr W142).1)
          have ne602 : b135 ≠ b143 := Nat.ne_of_lt (Nat.lt_of_lt_of_le (Nat.lt_of_lt_of_le V135.lt z603) (Nat.le_of_eq g143.symm))
          have f604 := ((((V142.ext E143).ext E144).keep K150 (ninS ne600 nin0)).keep K157 (ninS ne602 nin0))
          have f605 := (Fv150.keep K157 (ninS (Ne.symm ne152) nin0))
          have f606 := (Fc150.keep K157 (ninS (Ne.symm ne152) nin0))
          have ne607 : b143 ≠ t150 := Nat.ne_of_lt (Nat.lt_of_lt_of_le (Nat.lt_of_lt_of_le A143.lt E144.1) tg150)
          have f608 := (Vt150.keep K157 (ninS (Ne.symm ne607) nin0))
          have f609 := (f156.keep K157 (allS (Nat.le_trans Z0 (Nat.le_trans z155 (Nat.le_of_eq g143.symm))) all0))
          obtain ⟨cq610, kq610, q610a, q610b, q610c⟩ := isOf hZ (rfl : T157.heap = T157.heap) (f151.keep K157)
          obtain ⟨v610, _, ⟨T610, L610, k610, n610⟩, -, X610, ⟨Lc610, hQ610, l610, y610, z610⟩, st610⟩ := X157.virtualBack hx (y := (⟨"com/example/sequela/sequela/Fields", "get", "(I)Ljava/lang/String;"⟩ : MethodName)) (z := (⟨"com/example/sequela/sequela/Fields", "get", "(I)Ljava/lang/String;"⟩ : MethodName)) hown (mvT hZ (hw _ (List.mem_of_getElem? (i := 49) rfl))) (mvT hZ (hw _ (List.mem_of_getElem? (i := 50) rfl))) (notFace_of_selects (args := #[]) (mvT hZ (hw _ (List.mem_of_getElem? (i := 52) rfl)))) (mvT hZ (hw _ (List.mem_of_getElem? (i := 52) rfl))) (mvT hZ (hw _ (List.mem_of_getElem? (i := 51) rfl))) (by decide) (backOf (W := 0) (rm_get_2S l Z a0 hw [] b143 b135 k135 b144 t150 kt150 G1 G3 (1 : Int32) ((own_c0 p1)) ((own_c p1 8)) ((own_c p1 16)) ((own_c p1 24)) ((own_c p1 32)) ((own_c p1 40)) ((own_c p1 48)) (2 : Int32) (4 : Int32) (2 : Int32) ([(own_c p1 16), (own_c p1 24)] : List Int32) T157.heap n0 f609 (f151.keep K157) Fe157 Ft157 f604 (Eq150.keep K157) f605 f606 f608 (own_c7 p1) O2 P5 O4 rG3 (by decide) (by unfold own_R; decide) rfl) hZ (hw _ (List.mem_of_getElem? (i := 53) rfl)) (hw _ (List.mem_of_getElem? (i := 6) rfl)) (by decide) (by decide)) q610a q610c (g := (mkF m 199 #[.val (.long p1), .second, .val (.int p2), .val (.int p3), .val (.ref b120), .val (.int (1 : Int32)), .val (.int (1 : Int32)), .val (.int (2 : Int32)), .val (.ref b135), .val (.int (2 : Int32)), .val (.ref b143), .unset, .unset, .unset] [(.int (2 : Int32)), (.ref b143)])) rfl (by rw [hml]; rfl) (Steps.refl _) (argsL := [(.int (2 : Int32))]) (rest := []) (lenOf pd_15 rfl) rfl (by show 2 * 0 + _ ≤ _; exact Nat.le_of_eq rfl) (hb hby at_199) (fun _ _ => ⟨rfl, (rfl : T157.heap = T157.heap), (by decide : 5 + 2 ≤ _), (by decide : 23 + 6 ≤ _)⟩)
          dsimp only [Pt.U, Pt.locs, Pt.cells, Pt.slots] at X610 l610 y610 z610 st610 hQ610
          subst l610 y610 z610
          refine own_gos st610 ?_
          obtain ⟨x610, t610, kt610, rfl, Nq610, K610, xg610, tg610, Ex610, Fv610, Fc610, Vt610⟩ := hQ610
          have N610 := Fr.app N157 Nq610
          show own_Go p e below (T610.setTop (mkF m 202 #[.val (.long p1), .second, .val (.int p2), .val (.int p3), .val (.ref b120), .val (.int (1 : Int32)), .val (.int (1 : Int32)), .val (.int (2 : Int32)), .val (.ref b135), .val (.int (2 : Int32)), .val (.ref b143), .unset, .unset, .unset] [(.ref x610)])) _
          have z612 := (Nat.le_trans (Nat.le_trans (Nat.le_trans (Nat.le_trans (Nat.le_trans z148 E135.1) (Keep.of_wr W137).1) (Keep.of_wr W140).1) (Keep.of_wr W142).1) E143.1)
          have ne611 : b120 ≠ b144 := Nat.ne_of_lt (Nat.lt_of_lt_of_le (Nat.lt_of_lt_of_le V120.lt z612) (Nat.le_of_eq g144.symm))
          have z614 := (Nat.le_trans (Nat.le_trans (Nat.le_trans (Nat.le_trans z148 E135.1) (Keep.of_wr W137).1) (Keep.of_wr W140).1) (Keep.of_wr W142).1)
          have ne613 : b120 ≠ b143 := Nat.ne_of_lt (Nat.lt_of_lt_of_le (Nat.lt_of_lt_of_le V120.lt z614) (Nat.le_of_eq g143.symm))
          have f615 := (((f149.keep K150 (ninS ne611 nin0)).keep K157 (ninS ne613 nin0)).keep K610 nin0)
          have z616 := (Nat.le_trans (Nat.le_trans (Nat.le_trans (Nat.le_trans z146 E144.1) K150.1) K157.1) K610.1)
          exact tail_2_2 l Z a0 hw p1 p2 p3 b120 k120 b135 b143 (1 : Int32) (1 : Int32) G1 G3 (own_c0 p1) (own_c p1 8) (own_c p1 16) (own_c p1 24) (own_c p1 32) (own_c p1 40) (own_c p1 48) x610 t610 kt610 (own_c p1 16) (own_c p1 24) h0 n0 X610 hx hby hml hown hZ hrt hlk T610.heap (rfl : T610.heap = T610.heap) N610 (Nat.le_trans Z0 z616) (f609.keep K610 all0) f615 Ex610 Fv610 Fc610 Vt610 O2 P5 O4 rG3 (fun c hc => own_c7 p1 c (by simp only [List.mem_cons, List.not_mem_nil, or_false] at hc ⊢; rcases hc with rfl | rfl <;> simp)) (by decide) rfl (by decide) rfl
      · subst q_l1
        rcases (h_l2 ▸ own_m3 ((p2.toUInt32 >>> ((16 : Int32) &&& 31).toUInt32).toInt32) : l2 = 0 ∨ l2 = 1 ∨ l2 = 2) with q_l2 | q_l2 | q_l2
        · subst q_l2
          show own_Go p e below (T157.setTop (mkF m 195 #[.val (.long p1), .second, .val (.int p2), .val (.int p3), .val (.ref b120), .val (.int (1 : Int32)), .val (.int (2 : Int32)), .val (.int (0 : Int32)), .val (.ref b135), .val (.int (2 : Int32)), .val (.ref b143), .unset, .unset, .unset] [])) _
          refine own_go (fun _ k => XS.aload X157.here hx rfl (hb hby at_195) rfl rfl k) ?_
          show own_Go p e below (T157.setTop (mkF m 197 #[.val (.long p1), .second, .val (.int p2), .val (.int p3), .val (.ref b120), .val (.int (1 : Int32)), .val (.int (2 : Int32)), .val (.int (0 : Int32)), .val (.ref b135), .val (.int (2 : Int32)), .val (.ref b143), .unset, .unset, .unset] [(.ref b143)])) _
          refine own_go (fun _ k => XS.iload X157.here hx rfl (hb hby at_197) rfl k) ?_
          show own_Go p e below (T157.setTop (mkF m 199 #[.val (.long p1), .second, .val (.int p2), .val (.int p3), .val (.ref b120), .val (.int (1 : Int32)), .val (.int (2 : Int32)), .val (.int (0 : Int32)), .val (.ref b135), .val (.int (2 : Int32)), .val (.ref b143), .unset, .unset, .unset] [(.int (2 : Int32)), (.ref b143)])) _
          have z618 := (Nat.le_trans (Nat.le_trans (Nat.le_trans (Keep.of_wr W137).1 (Keep.of_wr W140).1) (Keep.of_wr W142).1) E143.1)
          have ne617 : b135 ≠ b144 := Nat.ne_of_lt (Nat.lt_of_lt_of_le (Nat.lt_of_lt_of_le V135.lt z618) (Nat.le_of_eq g144.symm))
          have z620 := (Nat.le_trans (Nat.le_trans (Keep.of_wr W137).1 (Keep.of_wr W140).1) (Keep.of_wr W142).1)
          have ne619 : b135 ≠ b143 := Nat.ne_of_lt (Nat.lt_of_lt_of_le (Nat.lt_of_lt_of_le V135.lt z620) (Nat.le_of_eq g143.symm))
          have f621 := ((((V142.ext E143).ext E144).keep K150 (ninS ne617 nin0)).keep K157 (ninS ne619 nin0))
          have f622 := (Fv150.keep K157 (ninS (Ne.symm ne152) nin0))
          have f623 := (Fc150.keep K157 (ninS (Ne.symm ne152) nin0))
          have ne624 : b143 ≠ t150 := Nat.ne_of_lt (Nat.lt_of_lt_of_le (Nat.lt_of_lt_of_le A143.lt E144.1) tg150)
          have f625 := (Vt150.keep K157 (ninS (Ne.symm ne624) nin0))
          have f626 := (f156.keep K157 (allS (Nat.le_trans Z0 (Nat.le_trans z155 (Nat.le_of_eq g143.symm))) all0))
          obtain ⟨cq627, kq627, q627a, q627b, q627c⟩ := isOf hZ (rfl : T157.heap = T157.heap) (f151.keep K157)
          obtain ⟨v627, _, ⟨T627, L627, k627, n627⟩, -, X627, ⟨Lc627, hQ627, l627, y627, z627⟩, st627⟩ := X157.virtualBack hx (y := (⟨"com/example/sequela/sequela/Fields", "get", "(I)Ljava/lang/String;"⟩ : MethodName)) (z := (⟨"com/example/sequela/sequela/Fields", "get", "(I)Ljava/lang/String;"⟩ : MethodName)) hown (mvT hZ (hw _ (List.mem_of_getElem? (i := 49) rfl))) (mvT hZ (hw _ (List.mem_of_getElem? (i := 50) rfl))) (notFace_of_selects (args := #[]) (mvT hZ (hw _ (List.mem_of_getElem? (i := 52) rfl)))) (mvT hZ (hw _ (List.mem_of_getElem? (i := 52) rfl))) (mvT hZ (hw _ (List.mem_of_getElem? (i := 51) rfl))) (by decide) (backOf (W := 0) (rm_get_2N l Z a0 hw [] b143 b135 k135 b144 t150 kt150 G1 G3 (1 : Int32) ((own_c0 p1)) ((own_c p1 8)) ((own_c p1 16)) ((own_c p1 24)) ((own_c p1 32)) ((own_c p1 40)) ((own_c p1 48)) (3 : Int32) T157.heap n0 f626 (f151.keep K157) Fe157 Ft157 f621 (Eq150.keep K157) f622 f623 f625 (own_c7 p1) O2 P5 O4 rG3) hZ (hw _ (List.mem_of_getElem? (i := 53) rfl)) (hw _ (List.mem_of_getElem? (i := 6) rfl)) (by decide) (by decide)) q627a q627c (g := (mkF m 199 #[.val (.long p1), .second, .val (.int p2), .val (.int p3), .val (.ref b120), .val (.int (1 : Int32)), .val (.int (2 : Int32)), .val (.int (0 : Int32)), .val (.ref b135), .val (.int (2 : Int32)), .val (.ref b143), .unset, .unset, .unset] [(.int (2 : Int32)), (.ref b143)])) rfl (by rw [hml]; rfl) (Steps.refl _) (argsL := [(.int (2 : Int32))]) (rest := []) (lenOf pd_15 rfl) rfl (by show 2 * 0 + _ ≤ _; exact Nat.le_of_eq rfl) (hb hby at_199) (fun _ _ => ⟨rfl, (rfl : T157.heap = T157.heap), (by decide : 5 + 0 ≤ _), (by decide : 23 + 0 ≤ _)⟩)
          dsimp only [Pt.U, Pt.locs, Pt.cells, Pt.slots] at X627 l627 y627 z627 st627 hQ627
          subst l627 y627 z627
          refine own_gos st627 ?_
          obtain ⟨rfl, Nq627, K627⟩ := hQ627
          have N627 := Fr.app N157 Nq627
          show own_Go p e below (T627.setTop (mkF m 202 #[.val (.long p1), .second, .val (.int p2), .val (.int p3), .val (.ref b120), .val (.int (1 : Int32)), .val (.int (2 : Int32)), .val (.int (0 : Int32)), .val (.ref b135), .val (.int (2 : Int32)), .val (.ref b143), .unset, .unset, .unset] [.null])) _
          have z629 := (Nat.le_trans (Nat.le_trans (Nat.le_trans (Nat.le_trans (Nat.le_trans z148 E135.1) (Keep.of_wr W137).1) (Keep.of_wr W140).1) (Keep.of_wr W142).1) E143.1)
          have ne628 : b120 ≠ b144 := Nat.ne_of_lt (Nat.lt_of_lt_of_le (Nat.lt_of_lt_of_le V120.lt z629) (Nat.le_of_eq g144.symm))
          have z631 := (Nat.le_trans (Nat.le_trans (Nat.le_trans (Nat.le_trans z148 E135.1) (Keep.of_wr W137).1) (Keep.of_wr W140).1) (Keep.of_wr W142).1)
          have ne630 : b120 ≠ b143 := Nat.ne_of_lt (Nat.lt_of_lt_of_le (Nat.lt_of_lt_of_le V120.lt z631) (Nat.le_of_eq g143.symm))
          have f632 := (((f149.keep K150 (ninS ne628 nin0)).keep K157 (ninS ne630 nin0)).keep K627 nin0)
          have z633 := (Nat.le_trans (Nat.le_trans (Nat.le_trans (Nat.le_trans z146 E144.1) K150.1) K157.1) K627.1)
          exact tail_2_0 l Z a0 hw p1 p2 p3 b120 k120 b135 b143 (1 : Int32) (2 : Int32) G1 G3 (own_c0 p1) (own_c p1 8) (own_c p1 16) (own_c p1 24) (own_c p1 32) (own_c p1 40) (own_c p1 48) h0 n0 X627 hx hby hml hown hZ hrt hlk T627.heap (rfl : T627.heap = T627.heap) N627 (Nat.le_trans Z0 z633) (f626.keep K627 all0) f632 O2 P5 O4 rG3
        · subst q_l2
          show own_Go p e below (T157.setTop (mkF m 195 #[.val (.long p1), .second, .val (.int p2), .val (.int p3), .val (.ref b120), .val (.int (1 : Int32)), .val (.int (2 : Int32)), .val (.int (1 : Int32)), .val (.ref b135), .val (.int (2 : Int32)), .val (.ref b143), .unset, .unset, .unset] [])) _
          refine own_go (fun _ k => XS.aload X157.here hx rfl (hb hby at_195) rfl rfl k) ?_
          show own_Go p e below (T157.setTop (mkF m 197 #[.val (.long p1), .second, .val (.int p2), .val (.int p3), .val (.ref b120), .val (.int (1 : Int32)), .val (.int (2 : Int32)), .val (.int (1 : Int32)), .val (.ref b135), .val (.int (2 : Int32)), .val (.ref b143), .unset, .unset, .unset] [(.ref b143)])) _
          refine own_go (fun _ k => XS.iload X157.here hx rfl (hb hby at_197) rfl k) ?_
          show own_Go p e below (T157.setTop (mkF m 199 #[.val (.long p1), .second, .val (.int p2), .val (.int p3), .val (.ref b120), .val (.int (1 : Int32)), .val (.int (2 : Int32)), .val (.int (1 : Int32)), .val (.ref b135), .val (.int (2 : Int32)), .val (.ref b143), .unset, .unset, .unset] [(.int (2 : Int32)), (.ref b143)])) _
          have z635 := (Nat.le_trans (Nat.le_trans (Nat.le_trans (Keep.of_wr W137).1 (Keep.of_wr W140).1) (Keep.of_wr W142).1) E143.1)
          have ne634 : b135 ≠ b144 := Nat.ne_of_lt (Nat.lt_of_lt_of_le (Nat.lt_of_lt_of_le V135.lt z635) (Nat.le_of_eq g144.symm))
          have z637 := (Nat.le_trans (Nat.le_trans (Keep.of_wr W137).1 (Keep.of_wr W140).1) (Keep.of_wr W142).1)
          have ne636 : b135 ≠ b143 := Nat.ne_of_lt (Nat.lt_of_lt_of_le (Nat.lt_of_lt_of_le V135.lt z637) (Nat.le_of_eq g143.symm))
          have f638 := ((((V142.ext E143).ext E144).keep K150 (ninS ne634 nin0)).keep K157 (ninS ne636 nin0))
          have f639 := (Fv150.keep K157 (ninS (Ne.symm ne152) nin0))
          have f640 := (Fc150.keep K157 (ninS (Ne.symm ne152) nin0))
          have ne641 : b143 ≠ t150 := Nat.ne_of_lt (Nat.lt_of_lt_of_le (Nat.lt_of_lt_of_le A143.lt E144.1) tg150)
          have f642 := (Vt150.keep K157 (ninS (Ne.symm ne641) nin0))
          have f643 := (f156.keep K157 (allS (Nat.le_trans Z0 (Nat.le_trans z155 (Nat.le_of_eq g143.symm))) all0))
          obtain ⟨cq644, kq644, q644a, q644b, q644c⟩ := isOf hZ (rfl : T157.heap = T157.heap) (f151.keep K157)
          obtain ⟨v644, _, ⟨T644, L644, k644, n644⟩, -, X644, ⟨Lc644, hQ644, l644, y644, z644⟩, st644⟩ := X157.virtualBack hx (y := (⟨"com/example/sequela/sequela/Fields", "get", "(I)Ljava/lang/String;"⟩ : MethodName)) (z := (⟨"com/example/sequela/sequela/Fields", "get", "(I)Ljava/lang/String;"⟩ : MethodName)) hown (mvT hZ (hw _ (List.mem_of_getElem? (i := 49) rfl))) (mvT hZ (hw _ (List.mem_of_getElem? (i := 50) rfl))) (notFace_of_selects (args := #[]) (mvT hZ (hw _ (List.mem_of_getElem? (i := 52) rfl)))) (mvT hZ (hw _ (List.mem_of_getElem? (i := 52) rfl))) (mvT hZ (hw _ (List.mem_of_getElem? (i := 51) rfl))) (by decide) (backOf (W := 0) (rm_get_2S l Z a0 hw [] b143 b135 k135 b144 t150 kt150 G1 G3 (1 : Int32) ((own_c0 p1)) ((own_c p1 8)) ((own_c p1 16)) ((own_c p1 24)) ((own_c p1 32)) ((own_c p1 40)) ((own_c p1 48)) (3 : Int32) (4 : Int32) (1 : Int32) ([(own_c p1 24)] : List Int32) T157.heap n0 f643 (f151.keep K157) Fe157 Ft157 f638 (Eq150.keep K157) f639 f640 f642 (own_c7 p1) O2 P5 O4 rG3 (by decide) (by unfold own_R; decide) rfl) hZ (hw _ (List.mem_of_getElem? (i := 53) rfl)) (hw _ (List.mem_of_getElem? (i := 6) rfl)) (by decide) (by decide)) q644a q644c (g := (mkF m 199 #[.val (.long p1), .second, .val (.int p2), .val (.int p3), .val (.ref b120), .val (.int (1 : Int32)), .val (.int (2 : Int32)), .val (.int (1 : Int32)), .val (.ref b135), .val (.int (2 : Int32)), .val (.ref b143), .unset, .unset, .unset] [(.int (2 : Int32)), (.ref b143)])) rfl (by rw [hml]; rfl) (Steps.refl _) (argsL := [(.int (2 : Int32))]) (rest := []) (lenOf pd_15 rfl) rfl (by show 2 * 0 + _ ≤ _; exact Nat.le_of_eq rfl) (hb hby at_199) (fun _ _ => ⟨rfl, (rfl : T157.heap = T157.heap), (by decide : 5 + 2 ≤ _), (by decide : 23 + 6 ≤ _)⟩)
          dsimp only [Pt.U, Pt.locs, Pt.cells, Pt.slots] at X644 l644 y644 z644 st644 hQ644
          subst l644 y644 z644
          refine own_gos st644 ?_
          obtain ⟨x644, t644, kt644, rfl, Nq644, K644, xg644, tg644, Ex644, Fv644, Fc644, Vt644⟩ := hQ644
          have N644 := Fr.app N157 Nq644
          show own_Go p e below (T644.setTop (mkF m 202 #[.val (.long p1), .second, .val (.int p2), .val (.int p3), .val (.ref b120), .val (.int (1 : Int32)), .val (.int (2 : Int32)), .val (.int (1 : Int32)), .val (.ref b135), .val (.int (2 : Int32)), .val (.ref b143), .unset, .unset, .unset] [(.ref x644)])) _
          have z646 := (Nat.le_trans (Nat.le_trans (Nat.le_trans (Nat.le_trans (Nat.le_trans z148 E135.1) (Keep.of_wr W137).1) (Keep.of_wr W140).1) (Keep.of_wr W142).1) E143.1)
          have ne645 : b120 ≠ b144 := Nat.ne_of_lt (Nat.lt_of_lt_of_le (Nat.lt_of_lt_of_le V120.lt z646) (Nat.le_of_eq g144.symm))
          have z648 := (Nat.le_trans (Nat.le_trans (Nat.le_trans (Nat.le_trans z148 E135.1) (Keep.of_wr W137).1) (Keep.of_wr W140).1) (Keep.of_wr W142).1)
          have ne647 : b120 ≠ b143 := Nat.ne_of_lt (Nat.lt_of_lt_of_le (Nat.lt_of_lt_of_le V120.lt z648) (Nat.le_of_eq g143.symm))
          have f649 := (((f149.keep K150 (ninS ne645 nin0)).keep K157 (ninS ne647 nin0)).keep K644 nin0)
          have z650 := (Nat.le_trans (Nat.le_trans (Nat.le_trans (Nat.le_trans z146 E144.1) K150.1) K157.1) K644.1)
          exact tail_2_1 l Z a0 hw p1 p2 p3 b120 k120 b135 b143 (1 : Int32) (2 : Int32) G1 G3 (own_c0 p1) (own_c p1 8) (own_c p1 16) (own_c p1 24) (own_c p1 32) (own_c p1 40) (own_c p1 48) x644 t644 kt644 (own_c p1 24) h0 n0 X644 hx hby hml hown hZ hrt hlk T644.heap (rfl : T644.heap = T644.heap) N644 (Nat.le_trans Z0 z650) (f643.keep K644 all0) f649 Ex644 Fv644 Fc644 Vt644 O2 P5 O4 rG3 (fun c hc => own_c7 p1 c (by simp only [List.mem_cons, List.not_mem_nil, or_false] at hc ⊢; rcases hc with rfl <;> simp)) (by decide) rfl
        · subst q_l2
          show own_Go p e below (T157.setTop (mkF m 195 #[.val (.long p1), .second, .val (.int p2), .val (.int p3), .val (.ref b120), .val (.int (1 : Int32)), .val (.int (2 : Int32)), .val (.int (2 : Int32)), .val (.ref b135), .val (.int (2 : Int32)), .val (.ref b143), .unset, .unset, .unset] [])) _
          refine own_go (fun _ k => XS.aload X157.here hx rfl (hb hby at_195) rfl rfl k) ?_
          show own_Go p e below (T157.setTop (mkF m 197 #[.val (.long p1), .second, .val (.int p2), .val (.int p3), .val (.ref b120), .val (.int (1 : Int32)), .val (.int (2 : Int32)), .val (.int (2 : Int32)), .val (.ref b135), .val (.int (2 : Int32)), .val (.ref b143), .unset, .unset, .unset] [(.ref b143)])) _
          refine own_go (fun _ k => XS.iload X157.here hx rfl (hb hby at_197) rfl k) ?_
          show own_Go p e below (T157.setTop (mkF m 199 #[.val (.long p1), .second, .val (.int p2), .val (.int p3), .val (.ref b120), .val (.int (1 : Int32)), .val (.int (2 : Int32)), .val (.int (2 : Int32)), .val (.ref b135), .val (.int (2 : Int32)), .val (.ref b143), .unset, .unset, .unset] [(.int (2 : Int32)), (.ref b143)])) _
          have z652 := (Nat.le_trans (Nat.le_trans (Nat.le_trans (Keep.of_wr W137).1 (Keep.of_wr W140).1) (Keep.of_wr W142).1) E143.1)
          have ne651 : b135 ≠ b144 := Nat.ne_of_lt (Nat.lt_of_lt_of_le (Nat.lt_of_lt_of_le V135.lt z652) (Nat.le_of_eq g144.symm))
          have z654 := (Nat.le_trans (Nat.le_trans (Keep.of_wr W137).1 (Keep.of_wr W140).1) (Keep.of_wr W142).1)
          have ne653 : b135 ≠ b143 := Nat.ne_of_lt (Nat.lt_of_lt_of_le (Nat.lt_of_lt_of_le V135.lt z654) (Nat.le_of_eq g143.symm))
          have f655 := ((((V142.ext E143).ext E144).keep K150 (ninS ne651 nin0)).keep K157 (ninS ne653 nin0))
          have f656 := (Fv150.keep K157 (ninS (Ne.symm ne152) nin0))
          have f657 := (Fc150.keep K157 (ninS (Ne.symm ne152) nin0))
          have ne658 : b143 ≠ t150 := Nat.ne_of_lt (Nat.lt_of_lt_of_le (Nat.lt_of_lt_of_le A143.lt E144.1) tg150)
          have f659 := (Vt150.keep K157 (ninS (Ne.symm ne658) nin0))
          have f660 := (f156.keep K157 (allS (Nat.le_trans Z0 (Nat.le_trans z155 (Nat.le_of_eq g143.symm))) all0))
          obtain ⟨cq661, kq661, q661a, q661b, q661c⟩ := isOf hZ (rfl : T157.heap = T157.heap) (f151.keep K157)
          obtain ⟨v661, _, ⟨T661, L661, k661, n661⟩, -, X661, ⟨Lc661, hQ661, l661, y661, z661⟩, st661⟩ := X157.virtualBack hx (y := (⟨"com/example/sequela/sequela/Fields", "get", "(I)Ljava/lang/String;"⟩ : MethodName)) (z := (⟨"com/example/sequela/sequela/Fields", "get", "(I)Ljava/lang/String;"⟩ : MethodName)) hown (mvT hZ (hw _ (List.mem_of_getElem? (i := 49) rfl))) (mvT hZ (hw _ (List.mem_of_getElem? (i := 50) rfl))) (notFace_of_selects (args := #[]) (mvT hZ (hw _ (List.mem_of_getElem? (i := 52) rfl)))) (mvT hZ (hw _ (List.mem_of_getElem? (i := 52) rfl))) (mvT hZ (hw _ (List.mem_of_getElem? (i := 51) rfl))) (by decide) (backOf (W := 0) (rm_get_2S l Z a0 hw [] b143 b135 k135 b144 t150 kt150 G1 G3 (1 : Int32) ((own_c0 p1)) ((own_c p1 8)) ((own_c p1 16)) ((own_c p1 24)) ((own_c p1 32)) ((own_c p1 40)) ((own_c p1 48)) (3 : Int32) (5 : Int32) (2 : Int32) ([(own_c p1 24), (own_c p1 32)] : List Int32) T157.heap n0 f660 (f151.keep K157) Fe157 Ft157 f655 (Eq150.keep K157) f656 f657 f659 (own_c7 p1) O2 P5 O4 rG3 (by decide) (by unfold own_R; decide) rfl) hZ (hw _ (List.mem_of_getElem? (i := 53) rfl)) (hw _ (List.mem_of_getElem? (i := 6) rfl)) (by decide) (by decide)) q661a q661c (g := (mkF m 199 #[.val (.long p1), .second, .val (.int p2), .val (.int p3), .val (.ref b120), .val (.int (1 : Int32)), .val (.int (2 : Int32)), .val (.int (2 : Int32)), .val (.ref b135), .val (.int (2 : Int32)), .val (.ref b143), .unset, .unset, .unset] [(.int (2 : Int32)), (.ref b143)])) rfl (by rw [hml]; rfl) (Steps.refl _) (argsL := [(.int (2 : Int32))]) (rest := []) (lenOf pd_15 rfl) rfl (by show 2 * 0 + _ ≤ _; exact Nat.le_of_eq rfl) (hb hby at_199) (fun _ _ => ⟨rfl, (rfl : T157.heap = T157.heap), (by decide : 5 + 2 ≤ _), (by decide : 23 + 6 ≤ _)⟩)
          dsimp only [Pt.U, Pt.locs, Pt.cells, Pt.slots] at X661 l661 y661 z661 st661 hQ661
          subst l661 y661 z661
          refine own_gos st661 ?_
          obtain ⟨x661, t661, kt661, rfl, Nq661, K661, xg661, tg661, Ex661, Fv661, Fc661, Vt661⟩ := hQ661
          have N661 := Fr.app N157 Nq661
          show own_Go p e below (T661.setTop (mkF m 202 #[.val (.long p1), .second, .val (.int p2), .val (.int p3), .val (.ref b120), .val (.int (1 : Int32)), .val (.int (2 : Int32)), .val (.int (2 : Int32)), .val (.ref b135), .val (.int (2 : Int32)), .val (.ref b143), .unset, .unset, .unset] [(.ref x661)])) _
          have z663 := (Nat.le_trans (Nat.le_trans (Nat.le_trans (Nat.le_trans (Nat.le_trans z148 E135.1) (Keep.of_wr W137).1) (Keep.of_wr W140).1) (Keep.of_wr W142).1) E143.1)
          have ne662 : b120 ≠ b144 := Nat.ne_of_lt (Nat.lt_of_lt_of_le (Nat.lt_of_lt_of_le V120.lt z663) (Nat.le_of_eq g144.symm))
          have z665 := (Nat.le_trans (Nat.le_trans (Nat.le_trans (Nat.le_trans z148 E135.1) (Keep.of_wr W137).1) (Keep.of_wr W140).1) (Keep.of_wr W142).1)
          have ne664 : b120 ≠ b143 := Nat.ne_of_lt (Nat.lt_of_lt_of_le (Nat.lt_of_lt_of_le V120.lt z665) (Nat.le_of_eq g143.symm))
          have f666 := (((f149.keep K150 (ninS ne662 nin0)).keep K157 (ninS ne664 nin0)).keep K661 nin0)
          have z667 := (Nat.le_trans (Nat.le_trans (Nat.le_trans (Nat.le_trans z146 E144.1) K150.1) K157.1) K661.1)
          exact tail_2_2 l Z a0 hw p1 p2 p3 b120 k120 b135 b143 (1 : Int32) (2 : Int32) G1 G3 (own_c0 p1) (own_c p1 8) (own_c p1 16) (own_c p1 24) (own_c p1 32) (own_c p1 40) (own_c p1 48) x661 t661 kt661 (own_c p1 24) (own_c p1 32) h0 n0 X661 hx hby hml hown hZ hrt hlk T661.heap (rfl : T661.heap = T661.heap) N661 (Nat.le_trans Z0 z667) (f660.keep K661 all0) f666 Ex661 Fv661 Fc661 Vt661 O2 P5 O4 rG3 (fun c hc => own_c7 p1 c (by simp only [List.mem_cons, List.not_mem_nil, or_false] at hc ⊢; rcases hc with rfl | rfl <;> simp)) (by decide) rfl (by decide) rfl
    · subst q_l0
      rcases (h_l1 ▸ own_m3 ((p2.toUInt32 >>> ((8 : Int32) &&& 31).toUInt32).toInt32) : l1 = 0 ∨ l1 = 1 ∨ l1 = 2) with q_l1 | q_l1 | q_l1
      · subst q_l1
        rcases (h_l2 ▸ own_m3 ((p2.toUInt32 >>> ((16 : Int32) &&& 31).toUInt32).toInt32) : l2 = 0 ∨ l2 = 1 ∨ l2 = 2) with q_l2 | q_l2 | q_l2
        · subst q_l2
          show own_Go p e below (T157.setTop (mkF m 195 #[.val (.long p1), .second, .val (.int p2), .val (.int p3), .val (.ref b120), .val (.int (2 : Int32)), .val (.int (0 : Int32)), .val (.int (0 : Int32)), .val (.ref b135), .val (.int (2 : Int32)), .val (.ref b143), .unset, .unset, .unset] [])) _
          refine own_go (fun _ k => XS.aload X157.here hx rfl (hb hby at_195) rfl rfl k) ?_
          show own_Go p e below (T157.setTop (mkF m 197 #[.val (.long p1), .second, .val (.int p2), .val (.int p3), .val (.ref b120), .val (.int (2 : Int32)), .val (.int (0 : Int32)), .val (.int (0 : Int32)), .val (.ref b135), .val (.int (2 : Int32)), .val (.ref b143), .unset, .unset, .unset] [(.ref b143)])) _
          refine own_go (fun _ k => XS.iload X157.here hx rfl (hb hby at_197) rfl k) ?_
          show own_Go p e below (T157.setTop (mkF m 199 #[.val (.long p1), .second, .val (.int p2), .val (.int p3), .val (.ref b120), .val (.int (2 : Int32)), .val (.int (0 : Int32)), .val (.int (0 : Int32)), .val (.ref b135), .val (.int (2 : Int32)), .val (.ref b143), .unset, .unset, .unset] [(.int (2 : Int32)), (.ref b143)])) _
          have z669 := (Nat.le_trans (Nat.le_trans (Nat.le_trans (Keep.of_wr W137).1 (Keep.of_wr W140).1) (Keep.of_wr W142).1) E143.1)
          have ne668 : b135 ≠ b144 := Nat.ne_of_lt (Nat.lt_of_lt_of_le (Nat.lt_of_lt_of_le V135.lt z669) (Nat.le_of_eq g144.symm))
          have z671 := (Nat.le_trans (Nat.le_trans (Keep.of_wr W137).1 (Keep.of_wr W140).1) (Keep.of_wr W142).1)
          have ne670 : b135 ≠ b143 := Nat.ne_of_lt (Nat.lt_of_lt_of_le (Nat.lt_of_lt_of_le V135.lt z671) (Nat.le_of_eq g143.symm))
          have f672 := ((((V142.ext E143).ext E144).keep K150 (ninS ne668 nin0)).keep K157 (ninS ne670 nin0))
          have f673 := (Fv150.keep K157 (ninS (Ne.symm ne152) nin0))
          have f674 := (Fc150.keep K157 (ninS (Ne.symm ne152) nin0))
          have ne675 : b143 ≠ t150 := Nat.ne_of_lt (Nat.lt_of_lt_of_le (Nat.lt_of_lt_of_le A143.lt E144.1) tg150)
          have f676 := (Vt150.keep K157 (ninS (Ne.symm ne675) nin0))
          have f677 := (f156.keep K157 (allS (Nat.le_trans Z0 (Nat.le_trans z155 (Nat.le_of_eq g143.symm))) all0))
          obtain ⟨cq678, kq678, q678a, q678b, q678c⟩ := isOf hZ (rfl : T157.heap = T157.heap) (f151.keep K157)
          obtain ⟨v678, _, ⟨T678, L678, k678, n678⟩, -, X678, ⟨Lc678, hQ678, l678, y678, z678⟩, st678⟩ := X157.virtualBack hx (y := (⟨"com/example/sequela/sequela/Fields", "get", "(I)Ljava/lang/String;"⟩ : MethodName)) (z := (⟨"com/example/sequela/sequela/Fields", "get", "(I)Ljava/lang/String;"⟩ : MethodName)) hown (mvT hZ (hw _ (List.mem_of_getElem? (i := 49) rfl))) (mvT hZ (hw _ (List.mem_of_getElem? (i := 50) rfl))) (notFace_of_selects (args := #[]) (mvT hZ (hw _ (List.mem_of_getElem? (i := 52) rfl)))) (mvT hZ (hw _ (List.mem_of_getElem? (i := 52) rfl))) (mvT hZ (hw _ (List.mem_of_getElem? (i := 51) rfl))) (by decide) (backOf (W := 0) (rm_get_2N l Z a0 hw [] b143 b135 k135 b144 t150 kt150 G1 G3 (2 : Int32) ((own_c0 p1)) ((own_c p1 8)) ((own_c p1 16)) ((own_c p1 24)) ((own_c p1 32)) ((own_c p1 40)) ((own_c p1 48)) (2 : Int32) T157.heap n0 f677 (f151.keep K157) Fe157 Ft157 f672 (Eq150.keep K157) f673 f674 f676 (own_c7 p1) O2 P5 O4 rG3) hZ (hw _ (List.mem_of_getElem? (i := 53) rfl)) (hw _ (List.mem_of_getElem? (i := 6) rfl)) (by decide) (by decide)) q678a q678c (g := (mkF m 199 #[.val (.long p1), .second, .val (.int p2), .val (.int p3), .val (.ref b120), .val (.int (2 : Int32)), .val (.int (0 : Int32)), .val (.int (0 : Int32)), .val (.ref b135), .val (.int (2 : Int32)), .val (.ref b143), .unset, .unset, .unset] [(.int (2 : Int32)), (.ref b143)])) rfl (by rw [hml]; rfl) (Steps.refl _) (argsL := [(.int (2 : Int32))]) (rest := []) (lenOf pd_15 rfl) rfl (by show 2 * 0 + _ ≤ _; exact Nat.le_of_eq rfl) (hb hby at_199) (fun _ _ => ⟨rfl, (rfl : T157.heap = T157.heap), (by decide : 5 + 0 ≤ _), (by decide : 23 + 0 ≤ _)⟩)
          dsimp only [Pt.U, Pt.locs, Pt.cells, Pt.slots] at X678 l678 y678 z678 st678 hQ678
          subst l678 y678 z678
          refine own_gos st678 ?_
          obtain ⟨rfl, Nq678, K678⟩ := hQ678
          have N678 := Fr.app N157 Nq678
          show own_Go p e below (T678.setTop (mkF m 202 #[.val (.long p1), .second, .val (.int p2), .val (.int p3), .val (.ref b120), .val (.int (2 : Int32)), .val (.int (0 : Int32)), .val (.int (0 : Int32)), .val (.ref b135), .val (.int (2 : Int32)), .val (.ref b143), .unset, .unset, .unset] [.null])) _
          have z680 := (Nat.le_trans (Nat.le_trans (Nat.le_trans (Nat.le_trans (Nat.le_trans z148 E135.1) (Keep.of_wr W137).1) (Keep.of_wr W140).1) (Keep.of_wr W142).1) E143.1)
          have ne679 : b120 ≠ b144 := Nat.ne_of_lt (Nat.lt_of_lt_of_le (Nat.lt_of_lt_of_le V120.lt z680) (Nat.le_of_eq g144.symm))
          have z682 := (Nat.le_trans (Nat.le_trans (Nat.le_trans (Nat.le_trans z148 E135.1) (Keep.of_wr W137).1) (Keep.of_wr W140).1) (Keep.of_wr W142).1)
          have ne681 : b120 ≠ b143 := Nat.ne_of_lt (Nat.lt_of_lt_of_le (Nat.lt_of_lt_of_le V120.lt z682) (Nat.le_of_eq g143.symm))
          have f683 := (((f149.keep K150 (ninS ne679 nin0)).keep K157 (ninS ne681 nin0)).keep K678 nin0)
          have z684 := (Nat.le_trans (Nat.le_trans (Nat.le_trans (Nat.le_trans z146 E144.1) K150.1) K157.1) K678.1)
          exact tail_2_0 l Z a0 hw p1 p2 p3 b120 k120 b135 b143 (2 : Int32) (0 : Int32) G1 G3 (own_c0 p1) (own_c p1 8) (own_c p1 16) (own_c p1 24) (own_c p1 32) (own_c p1 40) (own_c p1 48) h0 n0 X678 hx hby hml hown hZ hrt hlk T678.heap (rfl : T678.heap = T678.heap) N678 (Nat.le_trans Z0 z684) (f677.keep K678 all0) f683 O2 P5 O4 rG3
        · subst q_l2
          show own_Go p e below (T157.setTop (mkF m 195 #[.val (.long p1), .second, .val (.int p2), .val (.int p3), .val (.ref b120), .val (.int (2 : Int32)), .val (.int (0 : Int32)), .val (.int (1 : Int32)), .val (.ref b135), .val (.int (2 : Int32)), .val (.ref b143), .unset, .unset, .unset] [])) _
          refine own_go (fun _ k => XS.aload X157.here hx rfl (hb hby at_195) rfl rfl k) ?_
          show own_Go p e below (T157.setTop (mkF m 197 #[.val (.long p1), .second, .val (.int p2), .val (.int p3), .val (.ref b120), .val (.int (2 : Int32)), .val (.int (0 : Int32)), .val (.int (1 : Int32)), .val (.ref b135), .val (.int (2 : Int32)), .val (.ref b143), .unset, .unset, .unset] [(.ref b143)])) _
          refine own_go (fun _ k => XS.iload X157.here hx rfl (hb hby at_197) rfl k) ?_
          show own_Go p e below (T157.setTop (mkF m 199 #[.val (.long p1), .second, .val (.int p2), .val (.int p3), .val (.ref b120), .val (.int (2 : Int32)), .val (.int (0 : Int32)), .val (.int (1 : Int32)), .val (.ref b135), .val (.int (2 : Int32)), .val (.ref b143), .unset, .unset, .unset] [(.int (2 : Int32)), (.ref b143)])) _
          have z686 := (Nat.le_trans (Nat.le_trans (Nat.le_trans (Keep.of_wr W137).1 (Keep.of_wr W140).1) (Keep.of_wr W142).1) E143.1)
          have ne685 : b135 ≠ b144 := Nat.ne_of_lt (Nat.lt_of_lt_of_le (Nat.lt_of_lt_of_le V135.lt z686) (Nat.le_of_eq g144.symm))
          have z688 := (Nat.le_trans (Nat.le_trans (Keep.of_wr W137).1 (Keep.of_wr W140).1) (Keep.of_wr W142).1)
          have ne687 : b135 ≠ b143 := Nat.ne_of_lt (Nat.lt_of_lt_of_le (Nat.lt_of_lt_of_le V135.lt z688) (Nat.le_of_eq g143.symm))
          have f689 := ((((V142.ext E143).ext E144).keep K150 (ninS ne685 nin0)).keep K157 (ninS ne687 nin0))
          have f690 := (Fv150.keep K157 (ninS (Ne.symm ne152) nin0))
          have f691 := (Fc150.keep K157 (ninS (Ne.symm ne152) nin0))
          have ne692 : b143 ≠ t150 := Nat.ne_of_lt (Nat.lt_of_lt_of_le (Nat.lt_of_lt_of_le A143.lt E144.1) tg150)
          have f693 := (Vt150.keep K157 (ninS (Ne.symm ne692) nin0))
          have f694 := (f156.keep K157 (allS (Nat.le_trans Z0 (Nat.le_trans z155 (Nat.le_of_eq g143.symm))) all0))
          obtain ⟨cq695, kq695, q695a, q695b, q695c⟩ := isOf hZ (rfl : T157.heap = T157.heap) (f151.keep K157)
          obtain ⟨v695, _, ⟨T695, L695, k695, n695⟩, -, X695, ⟨Lc695, hQ695, l695, y695, z695⟩, st695⟩ := X157.virtualBack hx (y := (⟨"com/example/sequela/sequela/Fields", "get", "(I)Ljava/lang/String;"⟩ : MethodName)) (z := (⟨"com/example/sequela/sequela/Fields", "get", "(I)Ljava/lang/String;"⟩ : MethodName)) hown (mvT hZ (hw _ (List.mem_of_getElem? (i := 49) rfl))) (mvT hZ (hw _ (List.mem_of_getElem? (i := 50) rfl))) (notFace_of_selects (args := #[]) (mvT hZ (hw _ (List.mem_of_getElem? (i := 52) rfl)))) (mvT hZ (hw _ (List.mem_of_getElem? (i := 52) rfl))) (mvT hZ (hw _ (List.mem_of_getElem? (i := 51) rfl))) (by decide) (backOf (W := 0) (rm_get_2S l Z a0 hw [] b143 b135 k135 b144 t150 kt150 G1 G3 (2 : Int32) ((own_c0 p1)) ((own_c p1 8)) ((own_c p1 16)) ((own_c p1 24)) ((own_c p1 32)) ((own_c p1 40)) ((own_c p1 48)) (2 : Int32) (3 : Int32) (1 : Int32) ([(own_c p1 16)] : List Int32) T157.heap n0 f694 (f151.keep K157) Fe157 Ft157 f689 (Eq150.keep K157) f690 f691 f693 (own_c7 p1) O2 P5 O4 rG3 (by decide) (by unfold own_R; decide) rfl) hZ (hw _ (List.mem_of_getElem? (i := 53) rfl)) (hw _ (List.mem_of_getElem? (i := 6) rfl)) (by decide) (by decide)) q695a q695c (g := (mkF m 199 #[.val (.long p1), .second, .val (.int p2), .val (.int p3), .val (.ref b120), .val (.int (2 : Int32)), .val (.int (0 : Int32)), .val (.int (1 : Int32)), .val (.ref b135), .val (.int (2 : Int32)), .val (.ref b143), .unset, .unset, .unset] [(.int (2 : Int32)), (.ref b143)])) rfl (by rw [hml]; rfl) (Steps.refl _) (argsL := [(.int (2 : Int32))]) (rest := []) (lenOf pd_15 rfl) rfl (by show 2 * 0 + _ ≤ _; exact Nat.le_of_eq rfl) (hb hby at_199) (fun _ _ => ⟨rfl, (rfl : T157.heap = T157.heap), (by decide : 5 + 2 ≤ _), (by decide : 23 + 6 ≤ _)⟩)
          dsimp only [Pt.U, Pt.locs, Pt.cells, Pt.slots] at X695 l695 y695 z695 st695 hQ695
          subst l695 y695 z695
          refine own_gos st695 ?_
          obtain ⟨x695, t695, kt695, rfl, Nq695, K695, xg695, tg695, Ex695, Fv695, Fc695, Vt695⟩ := hQ695
          have N695 := Fr.app N157 Nq695
          show own_Go p e below (T695.setTop (mkF m 202 #[.val (.long p1), .second, .val (.int p2), .val (.int p3), .val (.ref b120), .val (.int (2 : Int32)), .val (.int (0 : Int32)), .val (.int (1 : Int32)), .val (.ref b135), .val (.int (2 : Int32)), .val (.ref b143), .unset, .unset, .unset] [(.ref x695)])) _
          have z697 := (Nat.le_trans (Nat.le_trans (Nat.le_trans (Nat.le_trans (Nat.le_trans z148 E135.1) (Keep.of_wr W137).1) (Keep.of_wr W140).1) (Keep.of_wr W142).1) E143.1)
          have ne696 : b120 ≠ b144 := Nat.ne_of_lt (Nat.lt_of_lt_of_le (Nat.lt_of_lt_of_le V120.lt z697) (Nat.le_of_eq g144.symm))
          have z699 := (Nat.le_trans (Nat.le_trans (Nat.le_trans (Nat.le_trans z148 E135.1) (Keep.of_wr W137).1) (Keep.of_wr W140).1) (Keep.of_wr W142).1)
          have ne698 : b120 ≠ b143 := Nat.ne_of_lt (Nat.lt_of_lt_of_le (Nat.lt_of_lt_of_le V120.lt z699) (Nat.le_of_eq g143.symm))
          have f700 := (((f149.keep K150 (ninS ne696 nin0)).keep K157 (ninS ne698 nin0)).keep K695 nin0)
          have z701 := (Nat.le_trans (Nat.le_trans (Nat.le_trans (Nat.le_trans z146 E144.1) K150.1) K157.1) K695.1)
          exact tail_2_1 l Z a0 hw p1 p2 p3 b120 k120 b135 b143 (2 : Int32) (0 : Int32) G1 G3 (own_c0 p1) (own_c p1 8) (own_c p1 16) (own_c p1 24) (own_c p1 32) (own_c p1 40) (own_c p1 48) x695 t695 kt695 (own_c p1 16) h0 n0 X695 hx hby hml hown hZ hrt hlk T695.heap (rfl : T695.heap = T695.heap) N695 (Nat.le_trans Z0 z701) (f694.keep K695 all0) f700 Ex695 Fv695 Fc695 Vt695 O2 P5 O4 rG3 (fun c hc => own_c7 p1 c (by simp only [List.mem_cons, List.not_mem_nil, or_false] at hc ⊢; rcases hc with rfl <;> simp)) (by decide) rfl
        · subst q_l2
          show own_Go p e below (T157.setTop (mkF m 195 #[.val (.long p1), .second, .val (.int p2), .val (.int p3), .val (.ref b120), .val (.int (2 : Int32)), .val (.int (0 : Int32)), .val (.int (2 : Int32)), .val (.ref b135), .val (.int (2 : Int32)), .val (.ref b143), .unset, .unset, .unset] [])) _
          refine own_go (fun _ k => XS.aload X157.here hx rfl (hb hby at_195) rfl rfl k) ?_
          show own_Go p e below (T157.setTop (mkF m 197 #[.val (.long p1), .second, .val (.int p2), .val (.int p3), .val (.ref b120), .val (.int (2 : Int32)), .val (.int (0 : Int32)), .val (.int (2 : Int32)), .val (.ref b135), .val (.int (2 : Int32)), .val (.ref b143), .unset, .unset, .unset] [(.ref b143)])) _
          refine own_go (fun _ k => XS.iload X157.here hx rfl (hb hby at_197) rfl k) ?_
          show own_Go p e below (T157.setTop (mkF m 199 #[.val (.long p1), .second, .val (.int p2), .val (.int p3), .val (.ref b120), .val (.int (2 : Int32)), .val (.int (0 : Int32)), .val (.int (2 : Int32)), .val (.ref b135), .val (.int (2 : Int32)), .val (.ref b143), .unset, .unset, .unset] [(.int (2 : Int32)), (.ref b143)])) _
          have z703 := (Nat.le_trans (Nat.le_trans (Nat.le_trans (Keep.of_wr W137).1 (Keep.of_wr W140).1) (Keep.of_wr W142).1) E143.1)
          have ne702 : b135 ≠ b144 := Nat.ne_of_lt (Nat.lt_of_lt_of_le (Nat.lt_of_lt_of_le V135.lt z703) (Nat.le_of_eq g144.symm))
          have z705 := (Nat.le_trans (Nat.le_trans (Keep.of_wr W137).1 (Keep.of_wr W140).1) (Keep.of_wr W142).1)
          have ne704 : b135 ≠ b143 := Nat.ne_of_lt (Nat.lt_of_lt_of_le (Nat.lt_of_lt_of_le V135.lt z705) (Nat.le_of_eq g143.symm))
          have f706 := ((((V142.ext E143).ext E144).keep K150 (ninS ne702 nin0)).keep K157 (ninS ne704 nin0))
          have f707 := (Fv150.keep K157 (ninS (Ne.symm ne152) nin0))
          have f708 := (Fc150.keep K157 (ninS (Ne.symm ne152) nin0))
          have ne709 : b143 ≠ t150 := Nat.ne_of_lt (Nat.lt_of_lt_of_le (Nat.lt_of_lt_of_le A143.lt E144.1) tg150)
          have f710 := (Vt150.keep K157 (ninS (Ne.symm ne709) nin0))
          have f711 := (f156.keep K157 (allS (Nat.le_trans Z0 (Nat.le_trans z155 (Nat.le_of_eq g143.symm))) all0))
          obtain ⟨cq712, kq712, q712a, q712b, q712c⟩ := isOf hZ (rfl : T157.heap = T157.heap) (f151.keep K157)
          obtain ⟨v712, _, ⟨T712, L712, k712, n712⟩, -, X712, ⟨Lc712, hQ712, l712, y712, z712⟩, st712⟩ := X157.virtualBack hx (y := (⟨"com/example/sequela/sequela/Fields", "get", "(I)Ljava/lang/String;"⟩ : MethodName)) (z := (⟨"com/example/sequela/sequela/Fields", "get", "(I)Ljava/lang/String;"⟩ : MethodName)) hown (mvT hZ (hw _ (List.mem_of_getElem? (i := 49) rfl))) (mvT hZ (hw _ (List.mem_of_getElem? (i := 50) rfl))) (notFace_of_selects (args := #[]) (mvT hZ (hw _ (List.mem_of_getElem? (i := 52) rfl)))) (mvT hZ (hw _ (List.mem_of_getElem? (i := 52) rfl))) (mvT hZ (hw _ (List.mem_of_getElem? (i := 51) rfl))) (by decide) (backOf (W := 0) (rm_get_2S l Z a0 hw [] b143 b135 k135 b144 t150 kt150 G1 G3 (2 : Int32) ((own_c0 p1)) ((own_c p1 8)) ((own_c p1 16)) ((own_c p1 24)) ((own_c p1 32)) ((own_c p1 40)) ((own_c p1 48)) (2 : Int32) (4 : Int32) (2 : Int32) ([(own_c p1 16), (own_c p1 24)] : List Int32) T157.heap n0 f711 (f151.keep K157) Fe157 Ft157 f706 (Eq150.keep K157) f707 f708 f710 (own_c7 p1) O2 P5 O4 rG3 (by decide) (by unfold own_R; decide) rfl) hZ (hw _ (List.mem_of_getElem? (i := 53) rfl)) (hw _ (List.mem_of_getElem? (i := 6) rfl)) (by decide) (by decide)) q712a q712c (g := (mkF m 199 #[.val (.long p1), .second, .val (.int p2), .val (.int p3), .val (.ref b120), .val (.int (2 : Int32)), .val (.int (0 : Int32)), .val (.int (2 : Int32)), .val (.ref b135), .val (.int (2 : Int32)), .val (.ref b143), .unset, .unset, .unset] [(.int (2 : Int32)), (.ref b143)])) rfl (by rw [hml]; rfl) (Steps.refl _) (argsL := [(.int (2 : Int32))]) (rest := []) (lenOf pd_15 rfl) rfl (by show 2 * 0 + _ ≤ _; exact Nat.le_of_eq rfl) (hb hby at_199) (fun _ _ => ⟨rfl, (rfl : T157.heap = T157.heap), (by decide : 5 + 2 ≤ _), (by decide : 23 + 6 ≤ _)⟩)
          dsimp only [Pt.U, Pt.locs, Pt.cells, Pt.slots] at X712 l712 y712 z712 st712 hQ712
          subst l712 y712 z712
          refine own_gos st712 ?_
          obtain ⟨x712, t712, kt712, rfl, Nq712, K712, xg712, tg712, Ex712, Fv712, Fc712, Vt712⟩ := hQ712
          have N712 := Fr.app N157 Nq712
          show own_Go p e below (T712.setTop (mkF m 202 #[.val (.long p1), .second, .val (.int p2), .val (.int p3), .val (.ref b120), .val (.int (2 : Int32)), .val (.int (0 : Int32)), .val (.int (2 : Int32)), .val (.ref b135), .val (.int (2 : Int32)), .val (.ref b143), .unset, .unset, .unset] [(.ref x712)])) _
          have z714 := (Nat.le_trans (Nat.le_trans (Nat.le_trans (Nat.le_trans (Nat.le_trans z148 E135.1) (Keep.of_wr W137).1) (Keep.of_wr W140).1) (Keep.of_wr W142).1) E143.1)
          have ne713 : b120 ≠ b144 := Nat.ne_of_lt (Nat.lt_of_lt_of_le (Nat.lt_of_lt_of_le V120.lt z714) (Nat.le_of_eq g144.symm))
          have z716 := (Nat.le_trans (Nat.le_trans (Nat.le_trans (Nat.le_trans z148 E135.1) (Keep.of_wr W137).1) (Keep.of_wr W140).1) (Keep.of_wr W142).1)
          have ne715 : b120 ≠ b143 := Nat.ne_of_lt (Nat.lt_of_lt_of_le (Nat.lt_of_lt_of_le V120.lt z716) (Nat.le_of_eq g143.symm))
          have f717 := (((f149.keep K150 (ninS ne713 nin0)).keep K157 (ninS ne715 nin0)).keep K712 nin0)
          have z718 := (Nat.le_trans (Nat.le_trans (Nat.le_trans (Nat.le_trans z146 E144.1) K150.1) K157.1) K712.1)
          exact tail_2_2 l Z a0 hw p1 p2 p3 b120 k120 b135 b143 (2 : Int32) (0 : Int32) G1 G3 (own_c0 p1) (own_c p1 8) (own_c p1 16) (own_c p1 24) (own_c p1 32) (own_c p1 40) (own_c p1 48) x712 t712 kt712 (own_c p1 16) (own_c p1 24) h0 n0 X712 hx hby hml hown hZ hrt hlk T712.heap (rfl : T712.heap = T712.heap) N712 (Nat.le_trans Z0 z718) (f711.keep K712 all0) f717 Ex712 Fv712 Fc712 Vt712 O2 P5 O4 rG3 (fun c hc => own_c7 p1 c (by simp only [List.mem_cons, List.not_mem_nil, or_false] at hc ⊢; rcases hc with rfl | rfl <;> simp)) (by decide) rfl (by decide) rfl
      · subst q_l1
        rcases (h_l2 ▸ own_m3 ((p2.toUInt32 >>> ((16 : Int32) &&& 31).toUInt32).toInt32) : l2 = 0 ∨ l2 = 1 ∨ l2 = 2) with q_l2 | q_l2 | q_l2
        · subst q_l2
          show own_Go p e below (T157.setTop (mkF m 195 #[.val (.long p1), .second, .val (.int p2), .val (.int p3), .val (.ref b120), .val (.int (2 : Int32)), .val (.int (1 : Int32)), .val (.int (0 : Int32)), .val (.ref b135), .val (.int (2 : Int32)), .val (.ref b143), .unset, .unset, .unset] [])) _
          refine own_go (fun _ k => XS.aload X157.here hx rfl (hb hby at_195) rfl rfl k) ?_
          show own_Go p e below (T157.setTop (mkF m 197 #[.val (.long p1), .second, .val (.int p2), .val (.int p3), .val (.ref b120), .val (.int (2 : Int32)), .val (.int (1 : Int32)), .val (.int (0 : Int32)), .val (.ref b135), .val (.int (2 : Int32)), .val (.ref b143), .unset, .unset, .unset] [(.ref b143)])) _
          refine own_go (fun _ k => XS.iload X157.here hx rfl (hb hby at_197) rfl k) ?_
          show own_Go p e below (T157.setTop (mkF m 199 #[.val (.long p1), .second, .val (.int p2), .val (.int p3), .val (.ref b120), .val (.int (2 : Int32)), .val (.int (1 : Int32)), .val (.int (0 : Int32)), .val (.ref b135), .val (.int (2 : Int32)), .val (.ref b143), .unset, .unset, .unset] [(.int (2 : Int32)), (.ref b143)])) _
          have z720 := (Nat.le_trans (Nat.le_trans (Nat.le_trans (Keep.of_wr W137).1 (Keep.of_wr W140).1) (Keep.of_wr W142).1) E143.1)
          have ne719 : b135 ≠ b144 := Nat.ne_of_lt (Nat.lt_of_lt_of_le (Nat.lt_of_lt_of_le V135.lt z720) (Nat.le_of_eq g144.symm))
          have z722 := (Nat.le_trans (Nat.le_trans (Keep.of_wr W137).1 (Keep.of_wr W140).1) (Keep.of_wr W142).1)
          have ne721 : b135 ≠ b143 := Nat.ne_of_lt (Nat.lt_of_lt_of_le (Nat.lt_of_lt_of_le V135.lt z722) (Nat.le_of_eq g143.symm))
          have f723 := ((((V142.ext E143).ext E144).keep K150 (ninS ne719 nin0)).keep K157 (ninS ne721 nin0))
          have f724 := (Fv150.keep K157 (ninS (Ne.symm ne152) nin0))
          have f725 := (Fc150.keep K157 (ninS (Ne.symm ne152) nin0))
          have ne726 : b143 ≠ t150 := Nat.ne_of_lt (Nat.lt_of_lt_of_le (Nat.lt_of_lt_of_le A143.lt E144.1) tg150)
          have f727 := (Vt150.keep K157 (ninS (Ne.symm ne726) nin0))
          have f728 := (f156.keep K157 (allS (Nat.le_trans Z0 (Nat.le_trans z155 (Nat.le_of_eq g143.symm))) all0))
          obtain ⟨cq729, kq729, q729a, q729b, q729c⟩ := isOf hZ (rfl : T157.heap = T157.heap) (f151.keep K157)
          obtain ⟨v729, _, ⟨T729, L729, k729, n729⟩, -, X729, ⟨Lc729, hQ729, l729, y729, z729⟩, st729⟩ := X157.virtualBack hx (y := (⟨"com/example/sequela/sequela/Fields", "get", "(I)Ljava/lang/String;"⟩ : MethodName)) (z := (⟨"com/example/sequela/sequela/Fields", "get", "(I)Ljava/lang/String;"⟩ : MethodName)) hown (mvT hZ (hw _ (List.mem_of_getElem? (i := 49) rfl))) (mvT hZ (hw _ (List.mem_of_getElem? (i := 50) rfl))) (notFace_of_selects (args := #[]) (mvT hZ (hw _ (List.mem_of_getElem? (i := 52) rfl)))) (mvT hZ (hw _ (List.mem_of_getElem? (i := 52) rfl))) (mvT hZ (hw _ (List.mem_of_getElem? (i := 51) rfl))) (by decide) (backOf (W := 0) (rm_get_2N l Z a0 hw [] b143 b135 k135 b144 t150 kt150 G1 G3 (2 : Int32) ((own_c0 p1)) ((own_c p1 8)) ((own_c p1 16)) ((own_c p1 24)) ((own_c p1 32)) ((own_c p1 40)) ((own_c p1 48)) (3 : Int32) T157.heap n0 f728 (f151.keep K157) Fe157 Ft157 f723 (Eq150.keep K157) f724 f725 f727 (own_c7 p1) O2 P5 O4 rG3) hZ (hw _ (List.mem_of_getElem? (i := 53) rfl)) (hw _ (List.mem_of_getElem? (i := 6) rfl)) (by decide) (by decide)) q729a q729c (g := (mkF m 199 #[.val (.long p1), .second, .val (.int p2), .val (.int p3), .val (.ref b120), .val (.int (2 : Int32)), .val (.int (1 : Int32)), .val (.int (0 : Int32)), .val (.ref b135), .val (.int (2 : Int32)), .val (.ref b143), .unset, .unset, .unset] [(.int (2 : Int32)), (.ref b143)])) rfl (by rw [hml]; rfl) (Steps.refl _) (argsL := [(.int (2 : Int32))]) (rest := []) (lenOf pd_15 rfl) rfl (by show 2 * 0 + _ ≤ _; exact Nat.le_of_eq rfl) (hb hby at_199) (fun _ _ => ⟨rfl, (rfl : T157.heap = T157.heap), (by decide : 5 + 0 ≤ _), (by decide : 23 + 0 ≤ _)⟩)
          dsimp only [Pt.U, Pt.locs, Pt.cells, Pt.slots] at X729 l729 y729 z729 st729 hQ729
          subst l729 y729 z729
          refine own_gos st729 ?_
          obtain ⟨rfl, Nq729, K729⟩ := hQ729
          have N729 := Fr.app N157 Nq729
          show own_Go p e below (T729.setTop (mkF m 202 #[.val (.long p1), .second, .val (.int p2), .val (.int p3), .val (.ref b120), .val (.int (2 : Int32)), .val (.int (1 : Int32)), .val (.int (0 : Int32)), .val (.ref b135), .val (.int (2 : Int32)), .val (.ref b143), .unset, .unset, .unset] [.null])) _
          have z731 := (Nat.le_trans (Nat.le_trans (Nat.le_trans (Nat.le_trans (Nat.le_trans z148 E135.1) (Keep.of_wr W137).1) (Keep.of_wr W140).1) (Keep.of_wr W142).1) E143.1)
          have ne730 : b120 ≠ b144 := Nat.ne_of_lt (Nat.lt_of_lt_of_le (Nat.lt_of_lt_of_le V120.lt z731) (Nat.le_of_eq g144.symm))
          have z733 := (Nat.le_trans (Nat.le_trans (Nat.le_trans (Nat.le_trans z148 E135.1) (Keep.of_wr W137).1) (Keep.of_wr W140).1) (Keep.of_wr W142).1)
          have ne732 : b120 ≠ b143 := Nat.ne_of_lt (Nat.lt_of_lt_of_le (Nat.lt_of_lt_of_le V120.lt z733) (Nat.le_of_eq g143.symm))
          have f734 := (((f149.keep K150 (ninS ne730 nin0)).keep K157 (ninS ne732 nin0)).keep K729 nin0)
          have z735 := (Nat.le_trans (Nat.le_trans (Nat.le_trans (Nat.le_trans z146 E144.1) K150.1) K157.1) K729.1)
          exact tail_2_0 l Z a0 hw p1 p2 p3 b120 k120 b135 b143 (2 : Int32) (1 : Int32) G1 G3 (own_c0 p1) (own_c p1 8) (own_c p1 16) (own_c p1 24) (own_c p1 32) (own_c p1 40) (own_c p1 48) h0 n0 X729 hx hby hml hown hZ hrt hlk T729.heap (rfl : T729.heap = T729.heap) N729 (Nat.le_trans Z0 z735) (f728.keep K729 all0) f734 O2 P5 O4 rG3
        · subst q_l2
          show own_Go p e below (T157.setTop (mkF m 195 #[.val (.long p1), .second, .val (.int p2), .val (.int p3), .val (.ref b120), .val (.int (2 : Int32)), .val (.int (1 : Int32)), .val (.int (1 : Int32)), .val (.ref b135), .val (.int (2 : Int32)), .val (.ref b143), .unset, .unset, .unset] [])) _
          refine own_go (fun _ k => XS.aload X157.here hx rfl (hb hby at_195) rfl rfl k) ?_
          show own_Go p e below (T157.setTop (mkF m 197 #[.val (.long p1), .second, .val (.int p2), .val (.int p3), .val (.ref b120), .val (.int (2 : Int32)), .val (.int (1 : Int32)), .val (.int (1 : Int32)), .val (.ref b135), .val (.int (2 : Int32)), .val (.ref b143), .unset, .unset, .unset] [(.ref b143)])) _
          refine own_go (fun _ k => XS.iload X157.here hx rfl (hb hby at_197) rfl k) ?_
          show own_Go p e below (T157.setTop (mkF m 199 #[.val (.long p1), .second, .val (.int p2), .val (.int p3), .val (.ref b120), .val (.int (2 : Int32)), .val (.int (1 : Int32)), .val (.int (1 : Int32)), .val (.ref b135), .val (.int (2 : Int32)), .val (.ref b143), .unset, .unset, .unset] [(.int (2 : Int32)), (.ref b143)])) _
          have z737 := (Nat.le_trans (Nat.le_trans (Nat.le_trans (Keep.of_wr W137).1 (Keep.of_wr W140).1) (Keep.of_wr W142).1) E143.1)
          have ne736 : b135 ≠ b144 := Nat.ne_of_lt (Nat.lt_of_lt_of_le (Nat.lt_of_lt_of_le V135.lt z737) (Nat.le_of_eq g144.symm))
          have z739 := (Nat.le_trans (Nat.le_trans (Keep.of_wr W137).1 (Keep.of_wr W140).1) (Keep.of_wr W142).1)
          have ne738 : b135 ≠ b143 := Nat.ne_of_lt (Nat.lt_of_lt_of_le (Nat.lt_of_lt_of_le V135.lt z739) (Nat.le_of_eq g143.symm))
          have f740 := ((((V142.ext E143).ext E144).keep K150 (ninS ne736 nin0)).keep K157 (ninS ne738 nin0))
          have f741 := (Fv150.keep K157 (ninS (Ne.symm ne152) nin0))
          have f742 := (Fc150.keep K157 (ninS (Ne.symm ne152) nin0))
          have ne743 : b143 ≠ t150 := Nat.ne_of_lt (Nat.lt_of_lt_of_le (Nat.lt_of_lt_of_le A143.lt E144.1) tg150)
          have f744 := (Vt150.keep K157 (ninS (Ne.symm ne743) nin0))
          have f745 := (f156.keep K157 (allS (Nat.le_trans Z0 (Nat.le_trans z155 (Nat.le_of_eq g143.symm))) all0))
          obtain ⟨cq746, kq746, q746a, q746b, q746c⟩ := isOf hZ (rfl : T157.heap = T157.heap) (f151.keep K157)
          obtain ⟨v746, _, ⟨T746, L746, k746, n746⟩, -, X746, ⟨Lc746, hQ746, l746, y746, z746⟩, st746⟩ := X157.virtualBack hx (y := (⟨"com/example/sequela/sequela/Fields", "get", "(I)Ljava/lang/String;"⟩ : MethodName)) (z := (⟨"com/example/sequela/sequela/Fields", "get", "(I)Ljava/lang/String;"⟩ : MethodName)) hown (mvT hZ (hw _ (List.mem_of_getElem? (i := 49) rfl))) (mvT hZ (hw _ (List.mem_of_getElem? (i := 50) rfl))) (notFace_of_selects (args := #[]) (mvT hZ (hw _ (List.mem_of_getElem? (i := 52) rfl)))) (mvT hZ (hw _ (List.mem_of_getElem? (i := 52) rfl))) (mvT hZ (hw _ (List.mem_of_getElem? (i := 51) rfl))) (by decide) (backOf (W := 0) (rm_get_2S l Z a0 hw [] b143 b135 k135 b144 t150 kt150 G1 G3 (2 : Int32) ((own_c0 p1)) ((own_c p1 8)) ((own_c p1 16)) ((own_c p1 24)) ((own_c p1 32)) ((own_c p1 40)) ((own_c p1 48)) (3 : Int32) (4 : Int32) (1 : Int32) ([(own_c p1 24)] : List Int32) T157.heap n0 f745 (f151.keep K157) Fe157 Ft157 f740 (Eq150.keep K157) f741 f742 f744 (own_c7 p1) O2 P5 O4 rG3 (by decide) (by unfold own_R; decide) rfl) hZ (hw _ (List.mem_of_getElem? (i := 53) rfl)) (hw _ (List.mem_of_getElem? (i := 6) rfl)) (by decide) (by decide)) q746a q746c (g := (mkF m 199 #[.val (.long p1), .second, .val (.int p2), .val (.int p3), .val (.ref b120), .val (.int (2 : Int32)), .val (.int (1 : Int32)), .val (.int (1 : Int32)), .val (.ref b135), .val (.int (2 : Int32)), .val (.ref b143), .unset, .unset, .unset] [(.int (2 : Int32)), (.ref b143)])) rfl (by rw [hml]; rfl) (Steps.refl _) (argsL := [(.int (2 : Int32))]) (rest := []) (lenOf pd_15 rfl) rfl (by show 2 * 0 + _ ≤ _; exact Nat.le_of_eq rfl) (hb hby at_199) (fun _ _ => ⟨rfl, (rfl : T157.heap = T157.heap), (by decide : 5 + 2 ≤ _), (by decide : 23 + 6 ≤ _)⟩)
          dsimp only [Pt.U, Pt.locs, Pt.cells, Pt.slots] at X746 l746 y746 z746 st746 hQ746
          subst l746 y746 z746
          refine own_gos st746 ?_
          obtain ⟨x746, t746, kt746, rfl, Nq746, K746, xg746, tg746, Ex746, Fv746, Fc746, Vt746⟩ := hQ746
          have N746 := Fr.app N157 Nq746
          show own_Go p e below (T746.setTop (mkF m 202 #[.val (.long p1), .second, .val (.int p2), .val (.int p3), .val (.ref b120), .val (.int (2 : Int32)), .val (.int (1 : Int32)), .val (.int (1 : Int32)), .val (.ref b135), .val (.int (2 : Int32)), .val (.ref b143), .unset, .unset, .unset] [(.ref x746)])) _
          have z748 := (Nat.le_trans (Nat.le_trans (Nat.le_trans (Nat.le_trans (Nat.le_trans z148 E135.1) (Keep.of_wr W137).1) (Keep.of_wr W140).1) (Keep.of_wr W142).1) E143.1)
          have ne747 : b120 ≠ b144 := Nat.ne_of_lt (Nat.lt_of_lt_of_le (Nat.lt_of_lt_of_le V120.lt z748) (Nat.le_of_eq g144.symm))
          have z750 := (Nat.le_trans (Nat.le_trans (Nat.le_trans (Nat.le_trans z148 E135.1) (Keep.of_wr W137).1) (Keep.of_wr W140).1) (Keep.of_wr W142).1)
          have ne749 : b120 ≠ b143 := Nat.ne_of_lt (Nat.lt_of_lt_of_le (Nat.lt_of_lt_of_le V120.lt z750) (Nat.le_of_eq g143.symm))
          have f751 := (((f149.keep K150 (ninS ne747 nin0)).keep K157 (ninS ne749 nin0)).keep K746 nin0)
          have z752 := (Nat.le_trans (Nat.le_trans (Nat.le_trans (Nat.le_trans z146 E144.1) K150.1) K157.1) K746.1)
          exact tail_2_1 l Z a0 hw p1 p2 p3 b120 k120 b135 b143 (2 : Int32) (1 : Int32) G1 G3 (own_c0 p1) (own_c p1 8) (own_c p1 16) (own_c p1 24) (own_c p1 32) (own_c p1 40) (own_c p1 48) x746 t746 kt746 (own_c p1 24) h0 n0 X746 hx hby hml hown hZ hrt hlk T746.heap (rfl : T746.heap = T746.heap) N746 (Nat.le_trans Z0 z752) (f745.keep K746 all0) f751 Ex746 Fv746 Fc746 Vt746 O2 P5 O4 rG3 (fun c hc => own_c7 p1 c (by simp only [List.mem_cons, List.not_mem_nil, or_false] at hc ⊢; rcases hc with rfl <;> simp)) (by decide) rfl
        · subst q_l2
          show own_Go p e below (T157.setTop (mkF m 195 #[.val (.long p1), .second, .val (.int p2), .val (.int p3), .val (.ref b120), .val (.int (2 : Int32)), .val (.int (1 : Int32)), .val (.int (2 : Int32)), .val (.ref b135), .val (.int (2 : Int32)), .val (.ref b143), .unset, .unset, .unset] [])) _
          refine own_go (fun _ k => XS.aload X157.here hx rfl (hb hby at_195) rfl rfl k) ?_
          show own_Go p e below (T157.setTop (mkF m 197 #[.val (.long p1), .second, .val (.int p2), .val (.int p3), .val (.ref b120), .val (.int (2 : Int32)), .val (.int (1 : Int32)), .val (.int (2 : Int32)), .val (.ref b135), .val (.int (2 : Int32)), .val (.ref b143), .unset, .unset, .unset] [(.ref b143)])) _
          refine own_go (fun _ k => XS.iload X157.here hx rfl (hb hby at_197) rfl k) ?_
          show own_Go p e below (T157.setTop (mkF m 199 #[.val (.long p1), .second, .val (.int p2), .val (.int p3), .val (.ref b120), .val (.int (2 : Int32)), .val (.int (1 : Int32)), .val (.int (2 : Int32)), .val (.ref b135), .val (.int (2 : Int32)), .val (.ref b143), .unset, .unset, .unset] [(.int (2 : Int32)), (.ref b143)])) _
          have z754 := (Nat.le_trans (Nat.le_trans (Nat.le_trans (Keep.of_wr W137).1 (Keep.of_wr W140).1) (Keep.of_wr W142).1) E143.1)
          have ne753 : b135 ≠ b144 := Nat.ne_of_lt (Nat.lt_of_lt_of_le (Nat.lt_of_lt_of_le V135.lt z754) (Nat.le_of_eq g144.symm))
          have z756 := (Nat.le_trans (Nat.le_trans (Keep.of_wr W137).1 (Keep.of_wr W140).1) (Keep.of_wr W142).1)
          have ne755 : b135 ≠ b143 := Nat.ne_of_lt (Nat.lt_of_lt_of_le (Nat.lt_of_lt_of_le V135.lt z756) (Nat.le_of_eq g143.symm))
          have f757 := ((((V142.ext E143).ext E144).keep K150 (ninS ne753 nin0)).keep K157 (ninS ne755 nin0))
          have f758 := (Fv150.keep K157 (ninS (Ne.symm ne152) nin0))
          have f759 := (Fc150.keep K157 (ninS (Ne.symm ne152) nin0))
          have ne760 : b143 ≠ t150 := Nat.ne_of_lt (Nat.lt_of_lt_of_le (Nat.lt_of_lt_of_le A143.lt E144.1) tg150)
          have f761 := (Vt150.keep K157 (ninS (Ne.symm ne760) nin0))
          have f762 := (f156.keep K157 (allS (Nat.le_trans Z0 (Nat.le_trans z155 (Nat.le_of_eq g143.symm))) all0))
          obtain ⟨cq763, kq763, q763a, q763b, q763c⟩ := isOf hZ (rfl : T157.heap = T157.heap) (f151.keep K157)
          obtain ⟨v763, _, ⟨T763, L763, k763, n763⟩, -, X763, ⟨Lc763, hQ763, l763, y763, z763⟩, st763⟩ := X157.virtualBack hx (y := (⟨"com/example/sequela/sequela/Fields", "get", "(I)Ljava/lang/String;"⟩ : MethodName)) (z := (⟨"com/example/sequela/sequela/Fields", "get", "(I)Ljava/lang/String;"⟩ : MethodName)) hown (mvT hZ (hw _ (List.mem_of_getElem? (i := 49) rfl))) (mvT hZ (hw _ (List.mem_of_getElem? (i := 50) rfl))) (notFace_of_selects (args := #[]) (mvT hZ (hw _ (List.mem_of_getElem? (i := 52) rfl)))) (mvT hZ (hw _ (List.mem_of_getElem? (i := 52) rfl))) (mvT hZ (hw _ (List.mem_of_getElem? (i := 51) rfl))) (by decide) (backOf (W := 0) (rm_get_2S l Z a0 hw [] b143 b135 k135 b144 t150 kt150 G1 G3 (2 : Int32) ((own_c0 p1)) ((own_c p1 8)) ((own_c p1 16)) ((own_c p1 24)) ((own_c p1 32)) ((own_c p1 40)) ((own_c p1 48)) (3 : Int32) (5 : Int32) (2 : Int32) ([(own_c p1 24), (own_c p1 32)] : List Int32) T157.heap n0 f762 (f151.keep K157) Fe157 Ft157 f757 (Eq150.keep K157) f758 f759 f761 (own_c7 p1) O2 P5 O4 rG3 (by decide) (by unfold own_R; decide) rfl) hZ (hw _ (List.mem_of_getElem? (i := 53) rfl)) (hw _ (List.mem_of_getElem? (i := 6) rfl)) (by decide) (by decide)) q763a q763c (g := (mkF m 199 #[.val (.long p1), .second, .val (.int p2), .val (.int p3), .val (.ref b120), .val (.int (2 : Int32)), .val (.int (1 : Int32)), .val (.int (2 : Int32)), .val (.ref b135), .val (.int (2 : Int32)), .val (.ref b143), .unset, .unset, .unset] [(.int (2 : Int32)), (.ref b143)])) rfl (by rw [hml]; rfl) (Steps.refl _) (argsL := [(.int (2 : Int32))]) (rest := []) (lenOf pd_15 rfl) rfl (by show 2 * 0 + _ ≤ _; exact Nat.le_of_eq rfl) (hb hby at_199) (fun _ _ => ⟨rfl, (rfl : T157.heap = T157.heap), (by decide : 5 + 2 ≤ _), (by decide : 23 + 6 ≤ _)⟩)
          dsimp only [Pt.U, Pt.locs, Pt.cells, Pt.slots] at X763 l763 y763 z763 st763 hQ763
          subst l763 y763 z763
          refine own_gos st763 ?_
          obtain ⟨x763, t763, kt763, rfl, Nq763, K763, xg763, tg763, Ex763, Fv763, Fc763, Vt763⟩ := hQ763
          have N763 := Fr.app N157 Nq763
          show own_Go p e below (T763.setTop (mkF m 202 #[.val (.long p1), .second, .val (.int p2), .val (.int p3), .val (.ref b120), .val (.int (2 : Int32)), .val (.int (1 : Int32)), .val (.int (2 : Int32)), .val (.ref b135), .val (.int (2 : Int32)), .val (.ref b143), .unset, .unset, .unset] [(.ref x763)])) _
          have z765 := (Nat.le_trans (Nat.le_trans (Nat.le_trans (Nat.le_trans (Nat.le_trans z148 E135.1) (Keep.of_wr W137).1) (Keep.of_wr W140).1) (Keep.of_wr W142).1) E143.1)
          have ne764 : b120 ≠ b144 := Nat.ne_of_lt (Nat.lt_of_lt_of_le (Nat.lt_of_lt_of_le V120.lt z765) (Nat.le_of_eq g144.symm))
          have z767 := (Nat.le_trans (Nat.le_trans (Nat.le_trans (Nat.le_trans z148 E135.1) (Keep.of_wr W137).1) (Keep.of_wr W140).1) (Keep.of_wr W142).1)
          have ne766 : b120 ≠ b143 := Nat.ne_of_lt (Nat.lt_of_lt_of_le (Nat.lt_of_lt_of_le V120.lt z767) (Nat.le_of_eq g143.symm))
          have f768 := (((f149.keep K150 (ninS ne764 nin0)).keep K157 (ninS ne766 nin0)).keep K763 nin0)
          have z769 := (Nat.le_trans (Nat.le_trans (Nat.le_trans (Nat.le_trans z146 E144.1) K150.1) K157.1) K763.1)
          exact tail_2_2 l Z a0 hw p1 p2 p3 b120 k120 b135 b143 (2 : Int32) (1 : Int32) G1 G3 (own_c0 p1) (own_c p1 8) (own_c p1 16) (own_c p1 24) (own_c p1 32) (own_c p1 40) (own_c p1 48) x763 t763 kt763 (own_c p1 24) (own_c p1 32) h0 n0 X763 hx hby hml hown hZ hrt hlk T763.heap (rfl : T763.heap = T763.heap) N763 (Nat.le_trans Z0 z769) (f762.keep K763 all0) f768 Ex763 Fv763 Fc763 Vt763 O2 P5 O4 rG3 (fun c hc => own_c7 p1 c (by simp only [List.mem_cons, List.not_mem_nil, or_false] at hc ⊢; rcases hc with rfl | rfl <;> simp)) (by decide) rfl (by decide) rfl
      · subst q_l1
        rcases (h_l2 ▸ own_m3 ((p2.toUInt32 >>> ((16 : Int32) &&& 31).toUInt32).toInt32) : l2 = 0 ∨ l2 = 1 ∨ l2 = 2) with q_l2 | q_l2 | q_l2
        · subst q_l2
          show own_Go p e below (T157.setTop (mkF m 195 #[.val (.long p1), .second, .val (.int p2), .val (.int p3), .val (.ref b120), .val (.int (2 : Int32)), .val (.int (2 : Int32)), .val (.int (0 : Int32)), .val (.ref b135), .val (.int (2 : Int32)), .val (.ref b143), .unset, .unset, .unset] [])) _
          refine own_go (fun _ k => XS.aload X157.here hx rfl (hb hby at_195) rfl rfl k) ?_
          show own_Go p e below (T157.setTop (mkF m 197 #[.val (.long p1), .second, .val (.int p2), .val (.int p3), .val (.ref b120), .val (.int (2 : Int32)), .val (.int (2 : Int32)), .val (.int (0 : Int32)), .val (.ref b135), .val (.int (2 : Int32)), .val (.ref b143), .unset, .unset, .unset] [(.ref b143)])) _
          refine own_go (fun _ k => XS.iload X157.here hx rfl (hb hby at_197) rfl k) ?_
          show own_Go p e below (T157.setTop (mkF m 199 #[.val (.long p1), .second, .val (.int p2), .val (.int p3), .val (.ref b120), .val (.int (2 : Int32)), .val (.int (2 : Int32)), .val (.int (0 : Int32)), .val (.ref b135), .val (.int (2 : Int32)), .val (.ref b143), .unset, .unset, .unset] [(.int (2 : Int32)), (.ref b143)])) _
          have z771 := (Nat.le_trans (Nat.le_trans (Nat.le_trans (Keep.of_wr W137).1 (Keep.of_wr W140).1) (Keep.of_wr W142).1) E143.1)
          have ne770 : b135 ≠ b144 := Nat.ne_of_lt (Nat.lt_of_lt_of_le (Nat.lt_of_lt_of_le V135.lt z771) (Nat.le_of_eq g144.symm))
          have z773 := (Nat.le_trans (Nat.le_trans (Keep.of_wr W137).1 (Keep.of_wr W140).1) (Keep.of_wr W142).1)
          have ne772 : b135 ≠ b143 := Nat.ne_of_lt (Nat.lt_of_lt_of_le (Nat.lt_of_lt_of_le V135.lt z773) (Nat.le_of_eq g143.symm))
          have f774 := ((((V142.ext E143).ext E144).keep K150 (ninS ne770 nin0)).keep K157 (ninS ne772 nin0))
          have f775 := (Fv150.keep K157 (ninS (Ne.symm ne152) nin0))
          have f776 := (Fc150.keep K157 (ninS (Ne.symm ne152) nin0))
          have ne777 : b143 ≠ t150 := Nat.ne_of_lt (Nat.lt_of_lt_of_le (Nat.lt_of_lt_of_le A143.lt E144.1) tg150)
          have f778 := (Vt150.keep K157 (ninS (Ne.symm ne777) nin0))
          have f779 := (f156.keep K157 (allS (Nat.le_trans Z0 (Nat.le_trans z155 (Nat.le_of_eq g143.symm))) all0))
          obtain ⟨cq780, kq780, q780a, q780b, q780c⟩ := isOf hZ (rfl : T157.heap = T157.heap) (f151.keep K157)
          obtain ⟨v780, _, ⟨T780, L780, k780, n780⟩, -, X780, ⟨Lc780, hQ780, l780, y780, z780⟩, st780⟩ := X157.virtualBack hx (y := (⟨"com/example/sequela/sequela/Fields", "get", "(I)Ljava/lang/String;"⟩ : MethodName)) (z := (⟨"com/example/sequela/sequela/Fields", "get", "(I)Ljava/lang/String;"⟩ : MethodName)) hown (mvT hZ (hw _ (List.mem_of_getElem? (i := 49) rfl))) (mvT hZ (hw _ (List.mem_of_getElem? (i := 50) rfl))) (notFace_of_selects (args := #[]) (mvT hZ (hw _ (List.mem_of_getElem? (i := 52) rfl)))) (mvT hZ (hw _ (List.mem_of_getElem? (i := 52) rfl))) (mvT hZ (hw _ (List.mem_of_getElem? (i := 51) rfl))) (by decide) (backOf (W := 0) (rm_get_2N l Z a0 hw [] b143 b135 k135 b144 t150 kt150 G1 G3 (2 : Int32) ((own_c0 p1)) ((own_c p1 8)) ((own_c p1 16)) ((own_c p1 24)) ((own_c p1 32)) ((own_c p1 40)) ((own_c p1 48)) (4 : Int32) T157.heap n0 f779 (f151.keep K157) Fe157 Ft157 f774 (Eq150.keep K157) f775 f776 f778 (own_c7 p1) O2 P5 O4 rG3) hZ (hw _ (List.mem_of_getElem? (i := 53) rfl)) (hw _ (List.mem_of_getElem? (i := 6) rfl)) (by decide) (by decide)) q780a q780c (g := (mkF m 199 #[.val (.long p1), .second, .val (.int p2), .val (.int p3), .val (.ref b120), .val (.int (2 : Int32)), .val (.int (2 : Int32)), .val (.int (0 : Int32)), .val (.ref b135), .val (.int (2 : Int32)), .val (.ref b143), .unset, .unset, .unset] [(.int (2 : Int32)), (.ref b143)])) rfl (by rw [hml]; rfl) (Steps.refl _) (argsL := [(.int (2 : Int32))]) (rest := []) (lenOf pd_15 rfl) rfl (by show 2 * 0 + _ ≤ _; exact Nat.le_of_eq rfl) (hb hby at_199) (fun _ _ => ⟨rfl, (rfl : T157.heap = T157.heap), (by decide : 5 + 0 ≤ _), (by decide : 23 + 0 ≤ _)⟩)
          dsimp only [Pt.U, Pt.locs, Pt.cells, Pt.slots] at X780 l780 y780 z780 st780 hQ780
          subst l780 y780 z780
          refine own_gos st780 ?_
          obtain ⟨rfl, Nq780, K780⟩ := hQ780
          have N780 := Fr.app N157 Nq780
          show own_Go p e below (T780.setTop (mkF m 202 #[.val (.long p1), .second, .val (.int p2), .val (.int p3), .val (.ref b120), .val (.int (2 : Int32)), .val (.int (2 : Int32)), .val (.int (0 : Int32)), .val (.ref b135), .val (.int (2 : Int32)), .val (.ref b143), .unset, .unset, .unset] [.null])) _
          have z782 := (Nat.le_trans (Nat.le_trans (Nat.le_trans (Nat.le_trans (Nat.le_trans z148 E135.1) (Keep.of_wr W137).1) (Keep.of_wr W140).1) (Keep.of_wr W142).1) E143.1)
          have ne781 : b120 ≠ b144 := Nat.ne_of_lt (Nat.lt_of_lt_of_le (Nat.lt_of_lt_of_le V120.lt z782) (Nat.le_of_eq g144.symm))
          have z784 := (Nat.le_trans (Nat.le_trans (Nat.le_trans (Nat.le_trans z148 E135.1) (Keep.of_wr W137).1) (Keep.of_wr W140).1) (Keep.of_wr W142).1)
          have ne783 : b120 ≠ b143 := Nat.ne_of_lt (Nat.lt_of_lt_of_le (Nat.lt_of_lt_of_le V120.lt z784) (Nat.le_of_eq g143.symm))
          have f785 := (((f149.keep K150 (ninS ne781 nin0)).keep K157 (ninS ne783 nin0)).keep K780 nin0)
          have z786 := (Nat.le_trans (Nat.le_trans (Nat.le_trans (Nat.le_trans z146 E144.1) K150.1) K157.1) K780.1)
          exact tail_2_0 l Z a0 hw p1 p2 p3 b120 k120 b135 b143 (2 : Int32) (2 : Int32) G1 G3 (own_c0 p1) (own_c p1 8) (own_c p1 16) (own_c p1 24) (own_c p1 32) (own_c p1 40) (own_c p1 48) h0 n0 X780 hx hby hml hown hZ hrt hlk T780.heap (rfl : T780.heap = T780.heap) N780 (Nat.le_trans Z0 z786) (f779.keep K780 all0) f785 O2 P5 O4 rG3
        · subst q_l2
          show own_Go p e below (T157.setTop (mkF m 195 #[.val (.long p1), .second, .val (.int p2), .val (.int p3), .val (.ref b120), .val (.int (2 : Int32)), .val (.int (2 : Int32)), .val (.int (1 : Int32)), .val (.ref b135), .val (.int (2 : Int32)), .val (.ref b143), .unset, .unset, .unset] [])) _
          refine own_go (fun _ k => XS.aload X157.here hx rfl (hb hby at_195) rfl rfl k) ?_
          show own_Go p e below (T157.setTop (mkF m 197 #[.val (.long p1), .second, .val (.int p2), .val (.int p3), .val (.ref b120), .val (.int (2 : Int32)), .val (.int (2 : Int32)), .val (.int (1 : Int32)), .val (.ref b135), .val (.int (2 : Int32)), .val (.ref b143), .unset, .unset, .unset] [(.ref b143)])) _
          refine own_go (fun _ k => XS.iload X157.here hx rfl (hb hby at_197) rfl k) ?_
          show own_Go p e below (T157.setTop (mkF m 199 #[.val (.long p1), .second, .val (.int p2), .val (.int p3), .val (.ref b120), .val (.int (2 : Int32)), .val (.int (2 : Int32)), .val (.int (1 : Int32)), .val (.ref b135), .val (.int (2 : Int32)), .val (.ref b143), .unset, .unset, .unset] [(.int (2 : Int32)), (.ref b143)])) _
          have z788 := (Nat.le_trans (Nat.le_trans (Nat.le_trans (Keep.of_wr W137).1 (Keep.of_wr W140).1) (Keep.of_wr W142).1) E143.1)
          have ne787 : b135 ≠ b144 := Nat.ne_of_lt (Nat.lt_of_lt_of_le (Nat.lt_of_lt_of_le V135.lt z788) (Nat.le_of_eq g144.symm))
          have z790 := (Nat.le_trans (Nat.le_trans (Keep.of_wr W137).1 (Keep.of_wr W140).1) (Keep.of_wr W142).1)
          have ne789 : b135 ≠ b143 := Nat.ne_of_lt (Nat.lt_of_lt_of_le (Nat.lt_of_lt_of_le V135.lt z790) (Nat.le_of_eq g143.symm))
          have f791 := ((((V142.ext E143).ext E144).keep K150 (ninS ne787 nin0)).keep K157 (ninS ne789 nin0))
          have f792 := (Fv150.keep K157 (ninS (Ne.symm ne152) nin0))
          have f793 := (Fc150.keep K157 (ninS (Ne.symm ne152) nin0))
          have ne794 : b143 ≠ t150 := Nat.ne_of_lt (Nat.lt_of_lt_of_le (Nat.lt_of_lt_of_le A143.lt E144.1) tg150)
          have f795 := (Vt150.keep K157 (ninS (Ne.symm ne794) nin0))
          have f796 := (f156.keep K157 (allS (Nat.le_trans Z0 (Nat.le_trans z155 (Nat.le_of_eq g143.symm))) all0))
          obtain ⟨cq797, kq797, q797a, q797b, q797c⟩ := isOf hZ (rfl : T157.heap = T157.heap) (f151.keep K157)
          obtain ⟨v797, _, ⟨T797, L797, k797, n797⟩, -, X797, ⟨Lc797, hQ797, l797, y797, z797⟩, st797⟩ := X157.virtualBack hx (y := (⟨"com/example/sequela/sequela/Fields", "get", "(I)Ljava/lang/String;"⟩ : MethodName)) (z := (⟨"com/example/sequela/sequela/Fields", "get", "(I)Ljava/lang/String;"⟩ : MethodName)) hown (mvT hZ (hw _ (List.mem_of_getElem? (i := 49) rfl))) (mvT hZ (hw _ (List.mem_of_getElem? (i := 50) rfl))) (notFace_of_selects (args := #[]) (mvT hZ (hw _ (List.mem_of_getElem? (i := 52) rfl)))) (mvT hZ (hw _ (List.mem_of_getElem? (i := 52) rfl))) (mvT hZ (hw _ (List.mem_of_getElem? (i := 51) rfl))) (by decide) (backOf (W := 0) (rm_get_2S l Z a0 hw [] b143 b135 k135 b144 t150 kt150 G1 G3 (2 : Int32) ((own_c0 p1)) ((own_c p1 8)) ((own_c p1 16)) ((own_c p1 24)) ((own_c p1 32)) ((own_c p1 40)) ((own_c p1 48)) (4 : Int32) (5 : Int32) (1 : Int32) ([(own_c p1 32)] : List Int32) T157.heap n0 f796 (f151.keep K157) Fe157 Ft157 f791 (Eq150.keep K157) f792 f793 f795 (own_c7 p1) O2 P5 O4 rG3 (by decide) (by unfold own_R; decide) rfl) hZ (hw _ (List.mem_of_getElem? (i := 53) rfl)) (hw _ (List.mem_of_getElem? (i := 6) rfl)) (by decide) (by decide)) q797a q797c (g := (mkF m 199 #[.val (.long p1), .second, .val (.int p2), .val (.int p3), .val (.ref b120), .val (.int (2 : Int32)), .val (.int (2 : Int32)), .val (.int (1 : Int32)), .val (.ref b135), .val (.int (2 : Int32)), .val (.ref b143), .unset, .unset, .unset] [(.int (2 : Int32)), (.ref b143)])) rfl (by rw [hml]; rfl) (Steps.refl _) (argsL := [(.int (2 : Int32))]) (rest := []) (lenOf pd_15 rfl) rfl (by show 2 * 0 + _ ≤ _; exact Nat.le_of_eq rfl) (hb hby at_199) (fun _ _ => ⟨rfl, (rfl : T157.heap = T157.heap), (by decide : 5 + 2 ≤ _), (by decide : 23 + 6 ≤ _)⟩)
          dsimp only [Pt.U, Pt.locs, Pt.cells, Pt.slots] at X797 l797 y797 z797 st797 hQ797
          subst l797 y797 z797
          refine own_gos st797 ?_
          obtain ⟨x797, t797, kt797, rfl, Nq797, K797, xg797, tg797, Ex797, Fv797, Fc797, Vt797⟩ := hQ797
          have N797 := Fr.app N157 Nq797
          show own_Go p e below (T797.setTop (mkF m 202 #[.val (.long p1), .second, .val (.int p2), .val (.int p3), .val (.ref b120), .val (.int (2 : Int32)), .val (.int (2 : Int32)), .val (.int (1 : Int32)), .val (.ref b135), .val (.int (2 : Int32)), .val (.ref b143), .unset, .unset, .unset] [(.ref x797)])) _
          have z799 := (Nat.le_trans (Nat.le_trans (Nat.le_trans (Nat.le_trans (Nat.le_trans z148 E135.1) (Keep.of_wr W137).1) (Keep.of_wr W140).1) (Keep.of_wr W142).1) E143.1)
          have ne798 : b120 ≠ b144 := Nat.ne_of_lt (Nat.lt_of_lt_of_le (Nat.lt_of_lt_of_le V120.lt z799) (Nat.le_of_eq g144.symm))
          have z801 := (Nat.le_trans (Nat.le_trans (Nat.le_trans (Nat.le_trans z148 E135.1) (Keep.of_wr W137).1) (Keep.of_wr W140).1) (Keep.of_wr W142).1)
          have ne800 : b120 ≠ b143 := Nat.ne_of_lt (Nat.lt_of_lt_of_le (Nat.lt_of_lt_of_le V120.lt z801) (Nat.le_of_eq g143.symm))
          have f802 := (((f149.keep K150 (ninS ne798 nin0)).keep K157 (ninS ne800 nin0)).keep K797 nin0)
          have z803 := (Nat.le_trans (Nat.le_trans (Nat.le_trans (Nat.le_trans z146 E144.1) K150.1) K157.1) K797.1)
          exact tail_2_1 l Z a0 hw p1 p2 p3 b120 k120 b135 b143 (2 : Int32) (2 : Int32) G1 G3 (own_c0 p1) (own_c p1 8) (own_c p1 16) (own_c p1 24) (own_c p1 32) (own_c p1 40) (own_c p1 48) x797 t797 kt797 (own_c p1 32) h0 n0 X797 hx hby hml hown hZ hrt hlk T797.heap (rfl : T797.heap = T797.heap) N797 (Nat.le_trans Z0 z803) (f796.keep K797 all0) f802 Ex797 Fv797 Fc797 Vt797 O2 P5 O4 rG3 (fun c hc => own_c7 p1 c (by simp only [List.mem_cons, List.not_mem_nil, or_false] at hc ⊢; rcases hc with rfl <;> simp)) (by decide) rfl
        · subst q_l2
          show own_Go p e below (T157.setTop (mkF m 195 #[.val (.long p1), .second, .val (.int p2), .val (.int p3), .val (.ref b120), .val (.int (2 : Int32)), .val (.int (2 : Int32)), .val (.int (2 : Int32)), .val (.ref b135), .val (.int (2 : Int32)), .val (.ref b143), .unset, .unset, .unset] [])) _
          refine own_go (fun _ k => XS.aload X157.here hx rfl (hb hby at_195) rfl rfl k) ?_
          show own_Go p e below (T157.setTop (mkF m 197 #[.val (.long p1), .second, .val (.int p2), .val (.int p3), .val (.ref b120), .val (.int (2 : Int32)), .val (.int (2 : Int32)), .val (.int (2 : Int32)), .val (.ref b135), .val (.int (2 : Int32)), .val (.ref b143), .unset, .unset, .unset] [(.ref b143)])) _
          refine own_go (fun _ k => XS.iload X157.here hx rfl (hb hby at_197) rfl k) ?_
          show own_Go p e below (T157.setTop (mkF m 199 #[.val (.long p1), .second, .val (.int p2), .val (.int p3), .val (.ref b120), .val (.int (2 : Int32)), .val (.int (2 : Int32)), .val (.int (2 : Int32)), .val (.ref b135), .val (.int (2 : Int32)), .val (.ref b143), .unset, .unset, .unset] [(.int (2 : Int32)), (.ref b143)])) _
          have z805 := (Nat.le_trans (Nat.le_trans (Nat.le_trans (Keep.of_wr W137).1 (Keep.of_wr W140).1) (Keep.of_wr W142).1) E143.1)
          have ne804 : b135 ≠ b144 := Nat.ne_of_lt (Nat.lt_of_lt_of_le (Nat.lt_of_lt_of_le V135.lt z805) (Nat.le_of_eq g144.symm))
          have z807 := (Nat.le_trans (Nat.le_trans (Keep.of_wr W137).1 (Keep.of_wr W140).1) (Keep.of_wr W142).1)
          have ne806 : b135 ≠ b143 := Nat.ne_of_lt (Nat.lt_of_lt_of_le (Nat.lt_of_lt_of_le V135.lt z807) (Nat.le_of_eq g143.symm))
          have f808 := ((((V142.ext E143).ext E144).keep K150 (ninS ne804 nin0)).keep K157 (ninS ne806 nin0))
          have f809 := (Fv150.keep K157 (ninS (Ne.symm ne152) nin0))
          have f810 := (Fc150.keep K157 (ninS (Ne.symm ne152) nin0))
          have ne811 : b143 ≠ t150 := Nat.ne_of_lt (Nat.lt_of_lt_of_le (Nat.lt_of_lt_of_le A143.lt E144.1) tg150)
          have f812 := (Vt150.keep K157 (ninS (Ne.symm ne811) nin0))
          have f813 := (f156.keep K157 (allS (Nat.le_trans Z0 (Nat.le_trans z155 (Nat.le_of_eq g143.symm))) all0))
          obtain ⟨cq814, kq814, q814a, q814b, q814c⟩ := isOf hZ (rfl : T157.heap = T157.heap) (f151.keep K157)
          obtain ⟨v814, _, ⟨T814, L814, k814, n814⟩, -, X814, ⟨Lc814, hQ814, l814, y814, z814⟩, st814⟩ := X157.virtualBack hx (y := (⟨"com/example/sequela/sequela/Fields", "get", "(I)Ljava/lang/String;"⟩ : MethodName)) (z := (⟨"com/example/sequela/sequela/Fields", "get", "(I)Ljava/lang/String;"⟩ : MethodName)) hown (mvT hZ (hw _ (List.mem_of_getElem? (i := 49) rfl))) (mvT hZ (hw _ (List.mem_of_getElem? (i := 50) rfl))) (notFace_of_selects (args := #[]) (mvT hZ (hw _ (List.mem_of_getElem? (i := 52) rfl)))) (mvT hZ (hw _ (List.mem_of_getElem? (i := 52) rfl))) (mvT hZ (hw _ (List.mem_of_getElem? (i := 51) rfl))) (by decide) (backOf (W := 0) (rm_get_2S l Z a0 hw [] b143 b135 k135 b144 t150 kt150 G1 G3 (2 : Int32) ((own_c0 p1)) ((own_c p1 8)) ((own_c p1 16)) ((own_c p1 24)) ((own_c p1 32)) ((own_c p1 40)) ((own_c p1 48)) (4 : Int32) (6 : Int32) (2 : Int32) ([(own_c p1 32), (own_c p1 40)] : List Int32) T157.heap n0 f813 (f151.keep K157) Fe157 Ft157 f808 (Eq150.keep K157) f809 f810 f812 (own_c7 p1) O2 P5 O4 rG3 (by decide) (by unfold own_R; decide) rfl) hZ (hw _ (List.mem_of_getElem? (i := 53) rfl)) (hw _ (List.mem_of_getElem? (i := 6) rfl)) (by decide) (by decide)) q814a q814c (g := (mkF m 199 #[.val (.long p1), .second, .val (.int p2), .val (.int p3), .val (.ref b120), .val (.int (2 : Int32)), .val (.int (2 : Int32)), .val (.int (2 : Int32)), .val (.ref b135), .val (.int (2 : Int32)), .val (.ref b143), .unset, .unset, .unset] [(.int (2 : Int32)), (.ref b143)])) rfl (by rw [hml]; rfl) (Steps.refl _) (argsL := [(.int (2 : Int32))]) (rest := []) (lenOf pd_15 rfl) rfl (by show 2 * 0 + _ ≤ _; exact Nat.le_of_eq rfl) (hb hby at_199) (fun _ _ => ⟨rfl, (rfl : T157.heap = T157.heap), (by decide : 5 + 2 ≤ _), (by decide : 23 + 6 ≤ _)⟩)
          dsimp only [Pt.U, Pt.locs, Pt.cells, Pt.slots] at X814 l814 y814 z814 st814 hQ814
          subst l814 y814 z814
          refine own_gos st814 ?_
          obtain ⟨x814, t814, kt814, rfl, Nq814, K814, xg814, tg814, Ex814, Fv814, Fc814, Vt814⟩ := hQ814
          have N814 := Fr.app N157 Nq814
          show own_Go p e below (T814.setTop (mkF m 202 #[.val (.long p1), .second, .val (.int p2), .val (.int p3), .val (.ref b120), .val (.int (2 : Int32)), .val (.int (2 : Int32)), .val (.int (2 : Int32)), .val (.ref b135), .val (.int (2 : Int32)), .val (.ref b143), .unset, .unset, .unset] [(.ref x814)])) _
          have z816 := (Nat.le_trans (Nat.le_trans (Nat.le_trans (Nat.le_trans (Nat.le_trans z148 E135.1) (Keep.of_wr W137).1) (Keep.of_wr W140).1) (Keep.of_wr W142).1) E143.1)
          have ne815 : b120 ≠ b144 := Nat.ne_of_lt (Nat.lt_of_lt_of_le (Nat.lt_of_lt_of_le V120.lt z816) (Nat.le_of_eq g144.symm))
          have z818 := (Nat.le_trans (Nat.le_trans (Nat.le_trans (Nat.le_trans z148 E135.1) (Keep.of_wr W137).1) (Keep.of_wr W140).1) (Keep.of_wr W142).1)
          have ne817 : b120 ≠ b143 := Nat.ne_of_lt (Nat.lt_of_lt_of_le (Nat.lt_of_lt_of_le V120.lt z818) (Nat.le_of_eq g143.symm))
          have f819 := (((f149.keep K150 (ninS ne815 nin0)).keep K157 (ninS ne817 nin0)).keep K814 nin0)
          have z820 := (Nat.le_trans (Nat.le_trans (Nat.le_trans (Nat.le_trans z146 E144.1) K150.1) K157.1) K814.1)
          exact tail_2_2 l Z a0 hw p1 p2 p3 b120 k120 b135 b143 (2 : Int32) (2 : Int32) G1 G3 (own_c0 p1) (own_c p1 8) (own_c p1 16) (own_c p1 24) (own_c p1 32) (own_c p1 40) (own_c p1 48) x814 t814 kt814 (own_c p1 32) (own_c p1 40) h0 n0 X814 hx hby hml hown hZ hrt hlk T814.heap (rfl : T814.heap = T814.heap) N814 (Nat.le_trans Z0 z820) (f813.keep K814 all0) f819 Ex814 Fv814 Fc814 Vt814 O2 P5 O4 rG3 (fun c hc => own_c7 p1 c (by simp only [List.mem_cons, List.not_mem_nil, or_false] at hc ⊢; rcases hc with rfl | rfl <;> simp)) (by decide) rfl (by decide) rfl

set_option maxRecDepth 65536 in
set_option maxHeartbeats 40000000 in
theorem comes_1 {Post : Tables → Env → Array Value → State → Outcome → State → Prop} (hpost : ∀ tb e args s v u, (limb_1_1.after args s (.returned v) u = true ∧ limb_1_2.after args s (.returned v) u = true ∧ True) → FrameEnd s (.returned v) u (Jvm.fieldLocs frame_1_writes args s ++ Jvm.arrayLocs frame_1_arrays args s ++ Jvm.staticLocs frame_1_statics s) 24 128 → Post tb e args s (.returned v) u) :
    ArmFor flags0 classFile x code maxLocals ret World_1 tables_1 room_1 Calls_1 rest_1 Pre_1 Post := by
  intro l hfl _ _ p e ha hc hk s m args below hf hA hF happ hP
  obtain ⟨hcalls, hrest, hpre⟩ := hP
  obtain ⟨-, -, -, hnamed, -, -, -, hat⟩ := (Spec.applies_iff hf).mp happ
  obtain ⟨hg, hn⟩ := and_e (Cond.before_iff.mp (show (Jvm.Cond.and given_1 narrow_1).before args s = true from hpre))
  obtain ⟨hcount, hg0⟩ := and_e hg
  obtain ⟨ha0, hg1⟩ := and_e hg0
  obtain ⟨ha1, hg2⟩ := and_e hg1
  obtain ⟨w0, w1, w2, rfl⟩ : ∃ w0 w1 w2 : Value, args = #[w0, w1, w2] := by
    have hs : args.size = 3 := by simpa [Cond.value, given_1] using hcount
    obtain ⟨L⟩ := args
    match L, hs with
    | [w0, w1, w2], _ => exact ⟨w0, w1, w2, rfl⟩
  have hw := fun d (hd : d ∈ tables_1) => atoms_spec (ws := Jvm.Cond.code x code maxLocals ret :: tables_1) hat d (List.mem_cons_of_mem _ hd)
  obtain ⟨hsets, hown0⟩ := atoms_of _ (rest_1_c_eq ▸ (show rest_1_c.before _ s = true from hrest))
  obtain ⟨i0, e0⟩ := isL_v ha0
  obtain rfl : w0 = (.long i0) := Option.some.inj e0
  obtain ⟨i1, e1⟩ := is_v ha1
  obtain rfl : w1 = (.int i1) := Option.some.inj e1
  obtain ⟨i2, e2⟩ := is_v hg2
  obtain rfl : w2 = (.int i2) := Option.some.inj e2
  obtain ⟨i_G1, e_G1⟩ := is_v (Cond.before_iff.mp (hsets _ (List.mem_of_getElem? (i := 1) rfl)))
  have S_G1 : Sta s s.heap "java/lang/String" "COMPACT_STRINGS" "Z" (.int i_G1) := Sta.start e_G1 (Or.inl (hsets _ (List.mem_of_getElem? (i := 0) rfl)))
  have c_G1 : ¬ (i_G1 = (0 : Int32)) := gotF (Cond.eq_ints e_G1 (Term.int_eval (0))) (not_v (Cond.before_iff.mp (hsets _ (List.mem_of_getElem? (i := 2) rfl))))
  obtain ⟨v_G3, e_G3, r_G3⟩ := isR_v (Cond.before_iff.mp (hsets _ (List.mem_of_getElem? (i := 8) rfl)))
  have S_G3 : Sta s s.heap "jdk/internal/util/Preconditions" "SIOOBE_FORMATTER" "Ljava/util/function/BiFunction;" v_G3 := Sta.start e_G3 (Or.inl (hsets _ (List.mem_of_getElem? (i := 7) rfl)))
  obtain ⟨n, o, h1, h2, h3, _, L, rfl, ⟨rfl, N⟩, hq⟩ := rm_law l s _ hw tables_1 i0 i1 i2 i_G1 v_G3 s.heap s.heap.size (Old.start s) S_G1 c_G1 S_G3 r_G3 p e ha hc hk s m _ below hf ((Spec.applies_iff_loose hf).mp happ).1 ⟨rfl, State.Warmed39.refl s, rfl⟩ trivial
  refine ⟨n, _, h1, h2, h3, hpost _ _ _ _ _ _ ⟨Cond.after_iff.mpr rfl, Cond.after_iff.mpr (eq_i res_at (Term.int_eval (1)) rfl), trivial⟩ ⟨hq.1, hq.2.1, (hq.2.2.sift fun y hy => Or.inr (N y hy)).mono (by decide) (by decide)⟩⟩
theorem main_1_1 : Claimed_1_1 := comes_1 fun _ _ _ _ _ _ h hF => ⟨h.1, hF⟩
theorem main_1_2 : Claimed_1_2 := comes_1 fun _ _ _ _ _ _ h hF => ⟨h.2.1, hF⟩
end Jvm.Pilot.@@N@@
namespace Jvm.Pilot.@@N@@
open Jvm Jvm.ClassFile Sem Op Lib Jvm.Free Jvm.Stand Jvm.Pilot.@@N@@.Jvm.D
/-! MADE BY PROGRAM (witnessworld.py) out of the Statement's table words and the real class files: 24 classes; the members and pool entries that the words name. The judged class is class 1, her method 1. -/
namespace start1
open Jvm.ClassFile
def u (s : String) : CpInfo := .utf8 (stringToUtf16 s)
/-- a pool by its gaps: so many unusable entries, then the entry; so many at the end -/
def gap : Nat → List CpInfo → List CpInfo
  | 0, r => r
  | n + 1, r => .unusable :: gap n r
def poolList (es : List (Nat × CpInfo)) (last : Nat) : List CpInfo := es.foldr (fun e r => gap e.1 (e.2 :: r)) (gap last [])
def pool (es : List (Nat × CpInfo)) (last : Nat) : Array CpInfo := ⟨poolList es last⟩
def fileOf (pool : Array CpInfo) (this : Nat) (attrs : Array Attribute := #[]) (ms : Array MethodInfo := #[]) (fl : Nat := 33) (sup : Nat := 0) (ifs : Array Nat := #[]) (fds : Array FieldInfo := #[]) : ClassFile where
  minorVersion := 0
  majorVersion := 65
  constantPool := pool
  accessFlags := fl
  thisClass := this
  superClass := sup
  interfaces := ifs
  fields := fds
  methods := ms
  attributes := attrs
def plain (name : String) (sup : Option ClassId) : Class where
  name := name
  kind := .ordinary
  loader := none
  accessFlags := 33
  super := sup
  interfaces := #[]
  cf := none
  fields := #[]
  methods := #[]
  instanceTypes := #[]
  staticTypes := #[]
  resolved := #[]
  callSites := []
  init := .initialized
  statics := none
  mirror := none

def pool0 : Array CpInfo := pool [(5, u "<init>"), (0, u "()V"), (1, .class_ 10), (1, u "java/lang/Object")] 113

def k0c0 : Code := { maxStack := 0, maxLocals := 1, code := object_method_1_code, exceptionTable := #[], attributes := #[] }
def k0m0 : Method := { name := "<init>", desc := "()V", sig := { parameters := [], returnType := none }, accessFlags := 1, code := some k0c0 }
/-- java/lang/Object -/
def k0 : Class := { plain "java/lang/Object" none with
  accessFlags := 33
  interfaces := #[]
  cf := some (fileOf pool0 8 #[] #[{ accessFlags := 1, nameIndex := 5, descriptorIndex := 6, attributes := #[] }] 33 0 #[] #[])
  fields := #[]
  methods := #[k0m0]
  instanceTypes := #[]
  staticTypes := #[]
  resolved := Array.replicate 124 none
  statics := none }

def pool1 : Array CpInfo := pool [(2, .class_ 4), (1, u "java/lang/Object"), (0, u "<init>"), (0, u "()V"), (0, .long 255), (1, .integer 2147483647), (0, .class_ 11), (0, u "com/example/sequela/sequela/Fields"), (0, .class_ 13), (0, u "java/lang/String"), (0, .methodref 12 15), (0, .nameAndType 5 16), (0, u "([C)V"), (0, .methodref 10 18), (0, .nameAndType 5 19), (0, u "(Ljava/lang/String;[I)V"), (0, .methodref 10 21), (0, .nameAndType 22 23), (0, u "get"), (0, u "(I)Ljava/lang/String;"), (0, .methodref 12 25), (0, .nameAndType 26 27), (0, u "length"), (0, u "()I"), (0, .methodref 12 29), (0, .nameAndType 30 31), (0, u "charAt"), (0, u "(I)C"), (0, .class_ 33), (0, u "com/example/sequela/sequela/FieldsGetPinLaw"), (2, u "law"), (0, u "(JII)Z")] 7

def k1m0 : Method := { name := "<init>", desc := "()V", sig := { parameters := [], returnType := none }, accessFlags := 1, code := none }
def k1c1 : Code := { maxStack := 6, maxLocals := 14, code := code, exceptionTable := #[], attributes := #[] }
def k1m1 : Method := { name := "law", desc := "(JII)Z", sig := { parameters := [.long, .int, .int], returnType := some .boolean }, accessFlags := 9, code := some k1c1 }
/-- com/example/sequela/sequela/FieldsGetPinLaw -/
def k1 : Class := { plain "com/example/sequela/sequela/FieldsGetPinLaw" (some 0) with
  accessFlags := 49
  interfaces := #[]
  cf := some (fileOf pool1 32 #[] #[{ accessFlags := 1, nameIndex := 5, descriptorIndex := 6, attributes := #[] }, { accessFlags := 9, nameIndex := 36, descriptorIndex := 37, attributes := #[] }] 49 2 #[] #[])
  fields := #[]
  methods := #[k1m0, k1m1]
  instanceTypes := #[]
  staticTypes := #[]
  resolved := Array.replicate 45 none
  statics := none }

def pool2 : Array CpInfo := pool [(1, .methodref 2 3), (0, .class_ 4), (0, .nameAndType 5 6), (0, u "java/lang/Object"), (0, u "<init>"), (0, u "()V"), (0, .class_ 8), (0, u "java/lang/Record")] 13

def k2c0 : Code := { maxStack := 1, maxLocals := 1, code := jdk_30_method_1_code, exceptionTable := #[], attributes := #[] }
def k2m0 : Method := { name := "<init>", desc := "()V", sig := { parameters := [], returnType := none }, accessFlags := 4, code := some k2c0 }
/-- java/lang/Record -/
def k2 : Class := { plain "java/lang/Record" (some 0) with
  accessFlags := 1057
  interfaces := #[]
  cf := some (fileOf pool2 7 #[] #[{ accessFlags := 4, nameIndex := 5, descriptorIndex := 6, attributes := #[] }] 1057 2 #[] #[])
  fields := #[]
  methods := #[k2m0]
  instanceTypes := #[]
  staticTypes := #[]
  resolved := Array.replicate 22 none
  statics := none }

def pool3 : Array CpInfo := pool [(1, .methodref 2 3), (0, .class_ 4), (0, .nameAndType 5 6), (0, u "java/lang/Record"), (0, u "<init>"), (0, u "()V"), (0, .fieldref 8 9), (0, .class_ 10), (0, .nameAndType 11 12), (0, u "com/example/sequela/sequela/Fields"), (0, u "text"), (0, u "Ljava/lang/String;"), (0, .fieldref 8 14), (0, .nameAndType 15 16), (0, u "ends"), (0, u "[I"), (17, u "(Ljava/lang/String;[I)V"), (0, .methodref 8 36), (0, .nameAndType 37 38), (0, u "start"), (0, u "(I)I"), (0, .methodref 40 41), (0, .class_ 42), (0, .nameAndType 43 44), (0, u "java/lang/String"), (0, u "substring"), (0, u "(II)Ljava/lang/String;"), (22, u "get"), (0, u "(I)Ljava/lang/String;")] 53

def k3c0 : Code := { maxStack := 2, maxLocals := 3, code := prog_15_method_1_code, exceptionTable := #[], attributes := #[] }
def k3m0 : Method := { name := "<init>", desc := "(Ljava/lang/String;[I)V", sig := { parameters := [(.object "java/lang/String"), (.array .int)], returnType := none }, accessFlags := 0, code := some k3c0 }
def k3c1 : Code := { maxStack := 4, maxLocals := 3, code := prog_15_method_4_code, exceptionTable := #[], attributes := #[] }
def k3m1 : Method := { name := "get", desc := "(I)Ljava/lang/String;", sig := { parameters := [.int], returnType := some (.object "java/lang/String") }, accessFlags := 0, code := some k3c1 }
def k3c2 : Code := { maxStack := 3, maxLocals := 2, code := prog_15_method_8_code, exceptionTable := #[], attributes := #[] }
def k3m2 : Method := { name := "start", desc := "(I)I", sig := { parameters := [.int], returnType := some .int }, accessFlags := 2, code := some k3c2 }
/-- com/example/sequela/sequela/Fields -/
def k3 : Class := { plain "com/example/sequela/sequela/Fields" (some 2) with
  accessFlags := 48
  interfaces := #[]
  cf := some (fileOf pool3 8 #[] #[{ accessFlags := 0, nameIndex := 5, descriptorIndex := 34, attributes := #[] }, { accessFlags := 0, nameIndex := 67, descriptorIndex := 68, attributes := #[] }, { accessFlags := 2, nameIndex := 37, descriptorIndex := 38, attributes := #[] }] 48 2 #[] #[{ accessFlags := 18, nameIndex := 11, descriptorIndex := 12, attributes := #[] }, { accessFlags := 18, nameIndex := 15, descriptorIndex := 16, attributes := #[] }])
  fields := #[{ name := "text", type := (.object "java/lang/String"), accessFlags := 18, slot := 0, constantValue := 0 }, { name := "ends", type := (.array .int), accessFlags := 18, slot := 1, constantValue := 0 }]
  methods := #[k3m0, k3m1, k3m2]
  instanceTypes := #[(.object "java/lang/String"), (.array .int)]
  staticTypes := #[]
  resolved := Array.replicate 122 none
  statics := none }

def pool4 : Array CpInfo := pool [(1, .class_ 2), (0, u "java/io/Serializable"), (0, .class_ 4), (0, u "java/lang/Object")] 2

/-- java/io/Serializable -/
def k4 : Class := { plain "java/io/Serializable" (some 0) with
  accessFlags := 1537
  interfaces := #[]
  cf := some (fileOf pool4 1 #[] #[] 1537 3 #[] #[])
  fields := #[]
  methods := #[]
  instanceTypes := #[]
  staticTypes := #[]
  resolved := Array.replicate 7 none
  statics := none }

def pool5 : Array CpInfo := pool [(1, .class_ 2), (0, u "java/lang/Comparable"), (0, .class_ 4), (0, u "java/lang/Object")] 7

/-- java/lang/Comparable -/
def k5 : Class := { plain "java/lang/Comparable" (some 0) with
  accessFlags := 1537
  interfaces := #[]
  cf := some (fileOf pool5 1 #[] #[] 1537 3 #[] #[])
  fields := #[]
  methods := #[]
  instanceTypes := #[]
  staticTypes := #[]
  resolved := Array.replicate 12 none
  statics := none }

def pool6 : Array CpInfo := pool [(2, .class_ 4), (1, u "java/lang/CharSequence"), (42, .class_ 48), (0, u "java/lang/CharSequence$1CodePointIterator"), (10, .class_ 60), (0, u "java/lang/CharSequence$1CharIterator"), (5, .class_ 67), (0, u "java/lang/Object")] 63

/-- java/lang/CharSequence -/
def k6 : Class := { plain "java/lang/CharSequence" (some 0) with
  accessFlags := 1537
  interfaces := #[]
  cf := some (fileOf pool6 2 #[.nestMembers #[47, 59]] #[] 1537 66 #[] #[])
  fields := #[]
  methods := #[]
  instanceTypes := #[]
  staticTypes := #[]
  resolved := Array.replicate 131 none
  statics := none }

def pool7 : Array CpInfo := pool [(1, .class_ 2), (0, u "java/lang/constant/Constable"), (0, .class_ 4), (0, u "java/lang/Object")] 6

/-- java/lang/constant/Constable -/
def k7 : Class := { plain "java/lang/constant/Constable" (some 0) with
  accessFlags := 1537
  interfaces := #[]
  cf := some (fileOf pool7 1 #[] #[] 1537 3 #[] #[])
  fields := #[]
  methods := #[]
  instanceTypes := #[]
  staticTypes := #[]
  resolved := Array.replicate 11 none
  statics := none }

def pool8 : Array CpInfo := pool [(1, .class_ 2), (0, u "java/lang/constant/ConstantDesc"), (0, .class_ 4), (0, u "java/lang/Object")] 32

/-- java/lang/constant/ConstantDesc -/
def k8 : Class := { plain "java/lang/constant/ConstantDesc" (some 0) with
  accessFlags := 1537
  interfaces := #[]
  cf := some (fileOf pool8 1 #[] #[] 1537 3 #[] #[])
  fields := #[]
  methods := #[]
  instanceTypes := #[]
  staticTypes := #[]
  resolved := Array.replicate 37 none
  statics := none }

def pool9 : Array CpInfo := pool [(1, .methodref 2 3), (0, .class_ 4), (0, .nameAndType 5 6), (0, u "java/lang/Object"), (0, u "<init>"), (0, u "()V"), (2, .fieldref 10 11), (0, .class_ 12), (0, .nameAndType 13 14), (0, u "java/lang/String"), (0, u "value"), (0, u "[B"), (0, .fieldref 10 16), (0, .nameAndType 17 18), (0, u "coder"), (0, u "B"), (2, u "hash"), (0, u "I"), (2, u "hashIsZero"), (0, u "Z"), (0, .methodref 10 28), (0, .nameAndType 5 29), (0, u "([CIILjava/lang/Void;)V"), (8, .fieldref 10 39), (0, .nameAndType 40 26), (0, u "COMPACT_STRINGS"), (1, .class_ 44), (1, u "java/lang/StringUTF16"), (0, u "compress"), (1, .methodref 42 48), (0, .nameAndType 49 50), (0, u "coderFromArrayLen"), (0, u "([BI)B"), (56, .class_ 109), (1, u "java/lang/StringLatin1"), (32, u "()Z"), (34, .methodref 42 178), (0, .nameAndType 45 179), (0, u "([CII)[B"), (31, u "([BB)V"), (122, u "()I"), (0, .methodref 10 336), (0, .nameAndType 17 337), (0, u "()B"), (25, u "([BI)C"), (27, u "(II)V"), (35, u "(I)C"), (64, .methodref 10 493), (0, .nameAndType 494 142), (0, u "isLatin1"), (0, .methodref 107 496), (0, .nameAndType 497 363), (0, u "charAt"), (3, u "checkIndex"), (3, .methodref 10 506), (0, .nameAndType 507 334), (0, u "length"), (5, u "checkFromToIndex"), (7, .methodref 10 522), (0, .nameAndType 523 524), (0, u "checkBoundsBeginEnd"), (0, u "(III)V"), (50, .class_ 576), (0, u "java/lang/CharSequence"), (22, u "CASE_INSENSITIVE_ORDER"), (0, u "Ljava/util/Comparator;"), (82, u "substring"), (0, u "(II)Ljava/lang/String;"), (0, .methodref 107 686), (0, .nameAndType 687 688), (0, u "newString"), (0, u "([BII)Ljava/lang/String;"), (321, u "([C)V"), (42, .fieldref 1054 1055), (0, .class_ 1056), (0, .nameAndType 1057 1058), (0, u "jdk/internal/util/Preconditions"), (0, u "SIOOBE_FORMATTER"), (0, u "Ljava/util/function/BiFunction;"), (0, .methodref 1054 1060), (0, .nameAndType 501 1061), (0, u "(IILjava/util/function/BiFunction;)I"), (0, .methodref 1054 1063), (0, .nameAndType 513 1064), (0, u "(IIILjava/util/function/BiFunction;)I"), (36, u "serialPersistentFields"), (0, u "[Ljava/io/ObjectStreamField;"), (0, .class_ 1104), (0, u "java/lang/String$CaseInsensitiveComparator"), (1, .class_ 1107), (0, u "java/io/Serializable"), (0, .class_ 1109), (0, u "java/lang/Comparable"), (0, .class_ 1111), (0, u "java/lang/constant/Constable"), (0, .class_ 1113), (0, u "java/lang/constant/ConstantDesc"), (2, u "serialVersionUID"), (0, u "J"), (3, u "REPL"), (0, u "C"), (2, u "LATIN1"), (1, u "UTF16")] 323

def k9m0 : Method := { name := "<init>", desc := "()V", sig := { parameters := [], returnType := none }, accessFlags := 1, code := none }
def k9c1 : Code := { maxStack := 5, maxLocals := 2, code := jdk_42_method_3_code, exceptionTable := #[], attributes := #[] }
def k9m1 : Method := { name := "<init>", desc := "([C)V", sig := { parameters := [(.array .char)], returnType := none }, accessFlags := 1, code := some k9c1 }
def k9c2 : Code := { maxStack := 2, maxLocals := 1, code := jdk_42_method_54_code, exceptionTable := #[], attributes := #[] }
def k9m2 : Method := { name := "length", desc := "()I", sig := { parameters := [], returnType := some .int }, accessFlags := 1, code := some k9c2 }
def k9c3 : Code := { maxStack := 2, maxLocals := 2, code := jdk_42_method_56_code, exceptionTable := #[], attributes := #[] }
def k9m3 : Method := { name := "charAt", desc := "(I)C", sig := { parameters := [.int], returnType := some .char }, accessFlags := 1, code := some k9c3 }
def k9c4 : Code := { maxStack := 3, maxLocals := 5, code := jdk_42_method_92_code, exceptionTable := #[], attributes := #[] }
def k9m4 : Method := { name := "substring", desc := "(II)Ljava/lang/String;", sig := { parameters := [.int, .int], returnType := some (.object "java/lang/String") }, accessFlags := 1, code := some k9c4 }
def k9c5 : Code := { maxStack := 4, maxLocals := 6, code := jdk_42_method_149_code, exceptionTable := #[], attributes := #[] }
def k9m5 : Method := { name := "<init>", desc := "([CIILjava/lang/Void;)V", sig := { parameters := [(.array .char), .int, .int, (.object "java/lang/Void")], returnType := none }, accessFlags := 2, code := some k9c5 }
def k9c6 : Code := { maxStack := 2, maxLocals := 3, code := jdk_42_method_151_code, exceptionTable := #[], attributes := #[] }
def k9m6 : Method := { name := "<init>", desc := "([BB)V", sig := { parameters := [(.array .byte), .byte], returnType := none }, accessFlags := 0, code := some k9c6 }
def k9c7 : Code := { maxStack := 1, maxLocals := 1, code := jdk_42_method_152_code, exceptionTable := #[], attributes := #[] }
def k9m7 : Method := { name := "coder", desc := "()B", sig := { parameters := [], returnType := some .byte }, accessFlags := 0, code := some k9c7 }
def k9c8 : Code := { maxStack := 1, maxLocals := 1, code := jdk_42_method_154_code, exceptionTable := #[], attributes := #[] }
def k9m8 : Method := { name := "isLatin1", desc := "()Z", sig := { parameters := [], returnType := some .boolean }, accessFlags := 0, code := some k9c8 }
def k9c9 : Code := { maxStack := 3, maxLocals := 2, code := jdk_42_method_155_code, exceptionTable := #[], attributes := #[] }
def k9m9 : Method := { name := "checkIndex", desc := "(II)V", sig := { parameters := [.int, .int], returnType := none }, accessFlags := 8, code := some k9c9 }
def k9c10 : Code := { maxStack := 4, maxLocals := 3, code := jdk_42_method_158_code, exceptionTable := #[], attributes := #[] }
def k9m10 : Method := { name := "checkBoundsBeginEnd", desc := "(III)V", sig := { parameters := [.int, .int, .int], returnType := none }, accessFlags := 8, code := some k9c10 }
/-- java/lang/String -/
def k9 : Class := { plain "java/lang/String" (some 0) with
  accessFlags := 49
  interfaces := #[4, 5, 6, 7, 8]
  cf := some (fileOf pool9 10 #[.nestMembers #[1103]] #[{ accessFlags := 1, nameIndex := 5, descriptorIndex := 6, attributes := #[] }, { accessFlags := 1, nameIndex := 5, descriptorIndex := 1010, attributes := #[] }, { accessFlags := 1, nameIndex := 507, descriptorIndex := 334, attributes := #[] }, { accessFlags := 1, nameIndex := 497, descriptorIndex := 427, attributes := #[] }, { accessFlags := 1, nameIndex := 683, descriptorIndex := 684, attributes := #[] }, { accessFlags := 2, nameIndex := 5, descriptorIndex := 29, attributes := #[] }, { accessFlags := 0, nameIndex := 5, descriptorIndex := 211, attributes := #[] }, { accessFlags := 0, nameIndex := 17, descriptorIndex := 337, attributes := #[] }, { accessFlags := 0, nameIndex := 494, descriptorIndex := 142, attributes := #[] }, { accessFlags := 8, nameIndex := 501, descriptorIndex := 391, attributes := #[] }, { accessFlags := 8, nameIndex := 523, descriptorIndex := 524, attributes := #[] }] 49 2 #[1106, 1108, 575, 1110, 1112] #[{ accessFlags := 18, nameIndex := 13, descriptorIndex := 14, attributes := #[] }, { accessFlags := 18, nameIndex := 17, descriptorIndex := 18, attributes := #[] }, { accessFlags := 2, nameIndex := 21, descriptorIndex := 22, attributes := #[] }, { accessFlags := 2, nameIndex := 25, descriptorIndex := 26, attributes := #[] }, { accessFlags := 26, nameIndex := 1116, descriptorIndex := 1117, attributes := #[] }, { accessFlags := 24, nameIndex := 40, descriptorIndex := 26, attributes := #[] }, { accessFlags := 26, nameIndex := 1101, descriptorIndex := 1102, attributes := #[] }, { accessFlags := 26, nameIndex := 1121, descriptorIndex := 1122, attributes := #[] }, { accessFlags := 25, nameIndex := 599, descriptorIndex := 600, attributes := #[] }, { accessFlags := 24, nameIndex := 1125, descriptorIndex := 18, attributes := #[] }, { accessFlags := 24, nameIndex := 1127, descriptorIndex := 18, attributes := #[] }])
  fields := #[{ name := "value", type := (.array .byte), accessFlags := 18, slot := 0, constantValue := 0 }, { name := "coder", type := .byte, accessFlags := 18, slot := 1, constantValue := 0 }, { name := "hash", type := .int, accessFlags := 2, slot := 2, constantValue := 0 }, { name := "hashIsZero", type := .boolean, accessFlags := 2, slot := 3, constantValue := 0 }, { name := "serialVersionUID", type := .long, accessFlags := 26, slot := 0, constantValue := 0 }, { name := "COMPACT_STRINGS", type := .boolean, accessFlags := 24, slot := 1, constantValue := 0 }, { name := "serialPersistentFields", type := (.array (.object "java/io/ObjectStreamField")), accessFlags := 26, slot := 2, constantValue := 0 }, { name := "REPL", type := .char, accessFlags := 26, slot := 3, constantValue := 0 }, { name := "CASE_INSENSITIVE_ORDER", type := (.object "java/util/Comparator"), accessFlags := 25, slot := 4, constantValue := 0 }, { name := "LATIN1", type := .byte, accessFlags := 24, slot := 5, constantValue := 0 }, { name := "UTF16", type := .byte, accessFlags := 24, slot := 6, constantValue := 0 }]
  methods := #[k9m0, k9m1, k9m2, k9m3, k9m4, k9m5, k9m6, k9m7, k9m8, k9m9, k9m10]
  instanceTypes := #[(.array .byte), .byte, .int, .boolean]
  staticTypes := #[.long, .boolean, (.array (.object "java/io/ObjectStreamField")), .char, (.object "java/util/Comparator"), .byte, .byte]
  resolved := Array.replicate 1451 none
  statics := some 0 }

def pool10 : Array CpInfo := pool [(6, .class_ 8), (1, u "java/lang/Object"), (0, u "<init>"), (0, u "()V"), (1, .class_ 14), (1, u "java/lang/StringUTF16"), (31, u "$assertionsDisabled"), (0, u "Z"), (13, u "HI_BYTE_SHIFT"), (0, u "I"), (2, u "LO_BYTE_SHIFT"), (49, .methodref 12 116), (0, .nameAndType 117 118), (0, u "compress"), (0, u "([CI[BII)I"), (3, u "([CII)[B"), (138, u "coderFromArrayLen"), (0, u "([BI)B"), (106, .class_ 371), (1, u "java/lang/StringUTF16$LinesSpliterator"), (58, u "MAX_LENGTH"), (196, .class_ 628), (0, u "java/lang/StringUTF16$CodePointsSpliterator"), (0, .class_ 630), (0, u "java/lang/StringUTF16$CharsSpliterator")] 4

def k10m0 : Method := { name := "<init>", desc := "()V", sig := { parameters := [], returnType := none }, accessFlags := 0, code := none }
def k10c1 : Code := { maxStack := 2, maxLocals := 2, code := jdk_52_method_15_code, exceptionTable := #[], attributes := #[] }
def k10m1 : Method := { name := "coderFromArrayLen", desc := "([BI)B", sig := { parameters := [(.array .byte), .int], returnType := some .byte }, accessFlags := 8, code := some k10c1 }
def k10c2 : Code := { maxStack := 5, maxLocals := 6, code := jdk_52_method_16_code, exceptionTable := #[], attributes := #[] }
def k10m2 : Method := { name := "compress", desc := "([CII)[B", sig := { parameters := [(.array .char), .int, .int], returnType := some (.array .byte) }, accessFlags := 9, code := some k10c2 }
def k10c3 : Code := { maxStack := 3, maxLocals := 7, code := jdk_52_method_21_code, exceptionTable := #[], attributes := #[] }
def k10m3 : Method := { name := "compress", desc := "([CI[BII)I", sig := { parameters := [(.array .char), .int, (.array .byte), .int, .int], returnType := some .int }, accessFlags := 9, code := some k10c3 }
/-- java/lang/StringUTF16 -/
def k10 : Class := { plain "java/lang/StringUTF16" (some 0) with
  accessFlags := 48
  interfaces := #[]
  cf := some (fileOf pool10 12 #[.nestMembers #[627, 629, 369]] #[{ accessFlags := 0, nameIndex := 9, descriptorIndex := 10, attributes := #[] }, { accessFlags := 8, nameIndex := 261, descriptorIndex := 262, attributes := #[] }, { accessFlags := 9, nameIndex := 117, descriptorIndex := 122, attributes := #[] }, { accessFlags := 9, nameIndex := 117, descriptorIndex := 118, attributes := #[] }] 48 6 #[] #[{ accessFlags := 26, nameIndex := 61, descriptorIndex := 62, attributes := #[] }, { accessFlags := 26, nameIndex := 65, descriptorIndex := 62, attributes := #[] }, { accessFlags := 24, nameIndex := 430, descriptorIndex := 62, attributes := #[] }, { accessFlags := 4120, nameIndex := 46, descriptorIndex := 47, attributes := #[] }])
  fields := #[{ name := "HI_BYTE_SHIFT", type := .int, accessFlags := 26, slot := 0, constantValue := 0 }, { name := "LO_BYTE_SHIFT", type := .int, accessFlags := 26, slot := 1, constantValue := 0 }, { name := "MAX_LENGTH", type := .int, accessFlags := 24, slot := 2, constantValue := 0 }, { name := "$assertionsDisabled", type := .boolean, accessFlags := 4120, slot := 3, constantValue := 0 }]
  methods := #[k10m0, k10m1, k10m2, k10m3]
  instanceTypes := #[]
  staticTypes := #[.int, .int, .int, .boolean]
  resolved := Array.replicate 635 none
  statics := none }

def pool11 : Array CpInfo := pool [(2, .class_ 4), (1, u "java/lang/Object"), (0, u "<init>"), (0, u "()V"), (17, .class_ 26), (1, u "jdk/internal/util/Preconditions"), (6, u "checkIndex"), (13, u "checkFromToIndex"), (7, .class_ 56), (0, u "jdk/internal/util/Preconditions$4"), (57, .class_ 115), (0, u "jdk/internal/util/Preconditions$1"), (7, u "SIOOBE_FORMATTER"), (0, u "Ljava/util/function/BiFunction;"), (0, .class_ 126), (0, u "jdk/internal/util/Preconditions$2"), (3, u "AIOOBE_FORMATTER"), (0, .class_ 132), (0, u "jdk/internal/util/Preconditions$3"), (3, u "IOOBE_FORMATTER"), (41, u "(IILjava/util/function/BiFunction;)I"), (4, u "(IIILjava/util/function/BiFunction;)I")] 10

def k11m0 : Method := { name := "<init>", desc := "()V", sig := { parameters := [], returnType := none }, accessFlags := 1, code := none }
def k11c1 : Code := { maxStack := 3, maxLocals := 3, code := jdk_41_method_11_code, exceptionTable := #[], attributes := #[] }
def k11m1 : Method := { name := "checkIndex", desc := "(IILjava/util/function/BiFunction;)I", sig := { parameters := [.int, .int, (.object "java/util/function/BiFunction")], returnType := some .int }, accessFlags := 9, code := some k11c1 }
def k11c2 : Code := { maxStack := 4, maxLocals := 4, code := jdk_41_method_12_code, exceptionTable := #[], attributes := #[] }
def k11m2 : Method := { name := "checkFromToIndex", desc := "(IIILjava/util/function/BiFunction;)I", sig := { parameters := [.int, .int, .int, (.object "java/util/function/BiFunction")], returnType := some .int }, accessFlags := 9, code := some k11c2 }
/-- jdk/internal/util/Preconditions -/
def k11 : Class := { plain "jdk/internal/util/Preconditions" (some 0) with
  accessFlags := 33
  interfaces := #[]
  cf := some (fileOf pool11 24 #[.nestMembers #[55, 131, 125, 114]] #[{ accessFlags := 1, nameIndex := 5, descriptorIndex := 6, attributes := #[] }, { accessFlags := 9, nameIndex := 33, descriptorIndex := 178, attributes := #[] }, { accessFlags := 9, nameIndex := 47, descriptorIndex := 183, attributes := #[] }] 33 2 #[] #[{ accessFlags := 25, nameIndex := 123, descriptorIndex := 124, attributes := #[] }, { accessFlags := 25, nameIndex := 130, descriptorIndex := 124, attributes := #[] }, { accessFlags := 25, nameIndex := 136, descriptorIndex := 124, attributes := #[] }])
  fields := #[{ name := "SIOOBE_FORMATTER", type := (.object "java/util/function/BiFunction"), accessFlags := 25, slot := 0, constantValue := 0 }, { name := "AIOOBE_FORMATTER", type := (.object "java/util/function/BiFunction"), accessFlags := 25, slot := 1, constantValue := 0 }, { name := "IOOBE_FORMATTER", type := (.object "java/util/function/BiFunction"), accessFlags := 25, slot := 2, constantValue := 0 }]
  methods := #[k11m0, k11m1, k11m2]
  instanceTypes := #[]
  staticTypes := #[(.object "java/util/function/BiFunction"), (.object "java/util/function/BiFunction"), (.object "java/util/function/BiFunction")]
  resolved := Array.replicate 194 none
  statics := some 1 }

def pool12 : Array CpInfo := pool [(1, .class_ 2), (0, u "java/lang/String"), (1, .class_ 6), (1, u "java/lang/Object"), (0, u "<init>"), (0, u "()V"), (0, .methodref 1 10), (0, .nameAndType 11 12), (0, u "checkIndex"), (0, u "(II)V"), (1, .class_ 16), (1, u "java/lang/StringLatin1"), (36, u "([BI)C"), (58, .methodref 1 113), (0, .nameAndType 7 114), (0, u "([BB)V"), (6, u "$assertionsDisabled"), (0, u "Z"), (8, .class_ 133), (1, u "java/util/Arrays"), (62, u "newString"), (0, u "([BII)Ljava/lang/String;"), (23, .class_ 223), (1, u "java/lang/StringLatin1$LinesSpliterator"), (8, .methodref 131 233), (0, .nameAndType 234 235), (0, u "copyOfRange"), (0, u "([BII)[B"), (16, u "charAt"), (137, .class_ 391), (0, u "java/lang/StringLatin1$CharsSpliterator")] 3

def k12m0 : Method := { name := "<init>", desc := "()V", sig := { parameters := [], returnType := none }, accessFlags := 0, code := none }
def k12c1 : Code := { maxStack := 2, maxLocals := 2, code := jdk_43_method_2_code, exceptionTable := #[], attributes := #[] }
def k12m1 : Method := { name := "charAt", desc := "([BI)C", sig := { parameters := [(.array .byte), .int], returnType := some .char }, accessFlags := 9, code := some k12c1 }
def k12c2 : Code := { maxStack := 6, maxLocals := 3, code := jdk_43_method_47_code, exceptionTable := #[], attributes := #[] }
def k12m2 : Method := { name := "newString", desc := "([BII)Ljava/lang/String;", sig := { parameters := [(.array .byte), .int, .int], returnType := some (.object "java/lang/String") }, accessFlags := 9, code := some k12c2 }
/-- java/lang/StringLatin1 -/
def k12 : Class := { plain "java/lang/StringLatin1" (some 0) with
  accessFlags := 48
  interfaces := #[]
  cf := some (fileOf pool12 14 #[.nestMembers #[390, 221]] #[{ accessFlags := 0, nameIndex := 7, descriptorIndex := 8, attributes := #[] }, { accessFlags := 9, nameIndex := 252, descriptorIndex := 53, attributes := #[] }, { accessFlags := 9, nameIndex := 196, descriptorIndex := 197, attributes := #[] }] 48 4 #[] #[{ accessFlags := 4120, nameIndex := 121, descriptorIndex := 122, attributes := #[] }])
  fields := #[{ name := "$assertionsDisabled", type := .boolean, accessFlags := 4120, slot := 0, constantValue := 0 }]
  methods := #[k12m0, k12m1, k12m2]
  instanceTypes := #[]
  staticTypes := #[.boolean]
  resolved := Array.replicate 395 none
  statics := none }

def pool13 : Array CpInfo := pool [(2, .class_ 4), (1, u "java/lang/Object"), (0, u "<init>"), (0, u "()V"), (7, .class_ 16), (1, u "java/util/Arrays"), (57, .class_ 76), (1, u "java/util/Arrays$NaturalOrder"), (36, .class_ 115), (1, u "java/util/Arrays$LegacyMergeSort"), (1, u "Z"), (21, u "copyOfRange"), (10, .methodref 151 152), (0, .class_ 153), (0, .nameAndType 154 155), (0, u "java/lang/System"), (0, u "arraycopy"), (0, u "(Ljava/lang/Object;ILjava/lang/Object;II)V"), (148, .methodref 305 306), (0, .class_ 307), (0, .nameAndType 308 309), (0, u "java/lang/Math"), (0, u "min"), (0, u "(II)I"), (29, .methodref 14 340), (0, .nameAndType 341 342), (0, u "copyOfRangeByte"), (0, u "([BII)[B"), (0, .methodref 14 344), (0, .nameAndType 345 346), (0, u "checkLength"), (0, u "(II)V"), (28, .class_ 376), (0, u "java/util/Arrays$ArrayList"), (68, u "$assertionsDisabled"), (269, u "MIN_ARRAY_SORT_GRAN"), (0, u "I"), (2, u "INSERTIONSORT_THRESHOLD"), (255, .class_ 976), (0, u "java/util/Arrays$ArrayItr")] 52

def k13m0 : Method := { name := "<init>", desc := "()V", sig := { parameters := [], returnType := none }, accessFlags := 2, code := none }
def k13c1 : Code := { maxStack := 4, maxLocals := 2, code := jdk_65_method_131_code, exceptionTable := #[], attributes := #[] }
def k13m1 : Method := { name := "checkLength", desc := "(II)V", sig := { parameters := [.int, .int], returnType := none }, accessFlags := 10, code := some k13c1 }
def k13c2 : Code := { maxStack := 3, maxLocals := 3, code := jdk_65_method_132_code, exceptionTable := #[], attributes := #[] }
def k13m2 : Method := { name := "copyOfRange", desc := "([BII)[B", sig := { parameters := [(.array .byte), .int, .int], returnType := some (.array .byte) }, accessFlags := 9, code := some k13c2 }
def k13c3 : Code := { maxStack := 6, maxLocals := 5, code := jdk_65_method_133_code, exceptionTable := #[], attributes := #[] }
def k13m3 : Method := { name := "copyOfRangeByte", desc := "([BII)[B", sig := { parameters := [(.array .byte), .int, .int], returnType := some (.array .byte) }, accessFlags := 10, code := some k13c3 }
/-- java/util/Arrays -/
def k13 : Class := { plain "java/util/Arrays" (some 0) with
  accessFlags := 49
  interfaces := #[]
  cf := some (fileOf pool13 14 #[.nestMembers #[975, 375, 113, 74]] #[{ accessFlags := 2, nameIndex := 5, descriptorIndex := 6, attributes := #[] }, { accessFlags := 10, nameIndex := 345, descriptorIndex := 346, attributes := #[] }, { accessFlags := 9, nameIndex := 139, descriptorIndex := 342, attributes := #[] }, { accessFlags := 10, nameIndex := 341, descriptorIndex := 342, attributes := #[] }] 49 2 #[] #[{ accessFlags := 26, nameIndex := 715, descriptorIndex := 716, attributes := #[] }, { accessFlags := 26, nameIndex := 719, descriptorIndex := 716, attributes := #[] }, { accessFlags := 4120, nameIndex := 445, descriptorIndex := 117, attributes := #[] }])
  fields := #[{ name := "MIN_ARRAY_SORT_GRAN", type := .int, accessFlags := 26, slot := 0, constantValue := 0 }, { name := "INSERTIONSORT_THRESHOLD", type := .int, accessFlags := 26, slot := 1, constantValue := 0 }, { name := "$assertionsDisabled", type := .boolean, accessFlags := 4120, slot := 2, constantValue := 0 }]
  methods := #[k13m0, k13m1, k13m2, k13m3]
  instanceTypes := #[]
  staticTypes := #[.int, .int, .boolean]
  resolved := Array.replicate 1029 none
  statics := none }

def pool14 : Array CpInfo := pool [(1, .class_ 2), (0, u "java/lang/Math"), (1, .class_ 6), (1, u "java/lang/Object"), (0, u "<init>"), (0, u "()V"), (89, .class_ 100), (1, u "java/lang/Math$RandomNumberGeneratorHolder"), (71, u "negativeZeroFloatBits"), (0, u "J"), (2, u "negativeZeroDoubleBits"), (24, u "min"), (43, u "$assertionsDisabled"), (0, u "Z"), (88, u "(II)I"), (2, u "twoToTheDoubleScaleDown"), (0, u "D"), (4, u "twoToTheDoubleScaleUp"), (9, u "E"), (3, u "PI"), (2, u "TAU"), (2, u "DEGREES_TO_RADIANS"), (0, u "RADIANS_TO_DEGREES")] 94

def k14m0 : Method := { name := "<init>", desc := "()V", sig := { parameters := [], returnType := none }, accessFlags := 2, code := none }
def k14c1 : Code := { maxStack := 2, maxLocals := 2, code := jdk_29_method_69_code, exceptionTable := #[], attributes := #[] }
def k14m1 : Method := { name := "min", desc := "(II)I", sig := { parameters := [.int, .int], returnType := some .int }, accessFlags := 9, code := some k14c1 }
/-- java/lang/Math -/
def k14 : Class := { plain "java/lang/Math" (some 0) with
  accessFlags := 49
  interfaces := #[]
  cf := some (fileOf pool14 1 #[.nestMembers #[98]] #[{ accessFlags := 2, nameIndex := 7, descriptorIndex := 8, attributes := #[] }, { accessFlags := 9, nameIndex := 201, descriptorIndex := 335, attributes := #[] }] 49 4 #[] #[{ accessFlags := 25, nameIndex := 354, descriptorIndex := 339, attributes := #[] }, { accessFlags := 25, nameIndex := 358, descriptorIndex := 339, attributes := #[] }, { accessFlags := 25, nameIndex := 361, descriptorIndex := 339, attributes := #[] }, { accessFlags := 26, nameIndex := 364, descriptorIndex := 339, attributes := #[] }, { accessFlags := 26, nameIndex := 365, descriptorIndex := 339, attributes := #[] }, { accessFlags := 26, nameIndex := 172, descriptorIndex := 173, attributes := #[] }, { accessFlags := 26, nameIndex := 176, descriptorIndex := 173, attributes := #[] }, { accessFlags := 8, nameIndex := 344, descriptorIndex := 339, attributes := #[] }, { accessFlags := 8, nameIndex := 338, descriptorIndex := 339, attributes := #[] }, { accessFlags := 4120, nameIndex := 245, descriptorIndex := 246, attributes := #[] }])
  fields := #[{ name := "E", type := .double, accessFlags := 25, slot := 0, constantValue := 0 }, { name := "PI", type := .double, accessFlags := 25, slot := 1, constantValue := 0 }, { name := "TAU", type := .double, accessFlags := 25, slot := 2, constantValue := 0 }, { name := "DEGREES_TO_RADIANS", type := .double, accessFlags := 26, slot := 3, constantValue := 0 }, { name := "RADIANS_TO_DEGREES", type := .double, accessFlags := 26, slot := 4, constantValue := 0 }, { name := "negativeZeroFloatBits", type := .long, accessFlags := 26, slot := 5, constantValue := 0 }, { name := "negativeZeroDoubleBits", type := .long, accessFlags := 26, slot := 6, constantValue := 0 }, { name := "twoToTheDoubleScaleUp", type := .double, accessFlags := 8, slot := 7, constantValue := 0 }, { name := "twoToTheDoubleScaleDown", type := .double, accessFlags := 8, slot := 8, constantValue := 0 }, { name := "$assertionsDisabled", type := .boolean, accessFlags := 4120, slot := 9, constantValue := 0 }]
  methods := #[k14m0, k14m1]
  instanceTypes := #[]
  staticTypes := #[.double, .double, .double, .double, .double, .long, .long, .double, .double, .boolean]
  resolved := Array.replicate 460 none
  statics := none }

def pool15 : Array CpInfo := pool [(2, .class_ 4), (1, u "java/lang/Object"), (0, u "<init>"), (0, u "()V"), (1, .class_ 10), (1, u "java/lang/System"), (0, u "allowSecurityManager"), (0, u "I"), (16, u "cons"), (0, u "Ljava/io/Console;"), (77, .class_ 110), (1, u "java/lang/System$CallersHolder"), (43, u "initialErrStream"), (0, u "Ljava/io/PrintStream;"), (19, u "security"), (0, u "Ljava/lang/SecurityManager;"), (31, .class_ 209), (0, u "java/lang/System$1"), (7, u "props"), (0, u "Ljava/util/Properties;"), (2, u "lineSeparator"), (0, u "Ljava/lang/String;"), (96, .class_ 321), (1, u "java/lang/System$LoggerFinder"), (5, .class_ 328), (0, u "java/lang/System$Logger"), (67, u "err"), (2, u "out"), (91, u "notSupportedJnuEncoding"), (15, u "in"), (17, u "initialIn"), (0, u "Ljava/io/InputStream;"), (35, u "bootLayer"), (0, u "Ljava/lang/ModuleLayer;"), (99, .class_ 664), (0, u "java/lang/System$2"), (9, u "NEVER"), (2, u "MAYBE"), (49, u "arraycopy"), (0, u "(Ljava/lang/Object;ILjava/lang/Object;II)V"), (72, .class_ 802), (0, u "java/lang/System$Logger$Level")] 31

def k15m0 : Method := { name := "<init>", desc := "()V", sig := { parameters := [], returnType := none }, accessFlags := 2, code := none }
def k15m1 : Method := { name := "arraycopy", desc := "(Ljava/lang/Object;ILjava/lang/Object;II)V", sig := { parameters := [(.object "java/lang/Object"), .int, (.object "java/lang/Object"), .int, .int], returnType := none }, accessFlags := 265, code := none }
/-- java/lang/System -/
def k15 : Class := { plain "java/lang/System" (some 0) with
  accessFlags := 49
  interfaces := #[]
  cf := some (fileOf pool15 8 #[.nestMembers #[319, 327, 801, 108, 663, 208]] #[{ accessFlags := 2, nameIndex := 5, descriptorIndex := 6, attributes := #[] }, { accessFlags := 265, nameIndex := 727, descriptorIndex := 728, attributes := #[] }] 49 2 #[] #[{ accessFlags := 25, nameIndex := 507, descriptorIndex := 526, attributes := #[] }, { accessFlags := 25, nameIndex := 399, descriptorIndex := 155, attributes := #[] }, { accessFlags := 25, nameIndex := 396, descriptorIndex := 155, attributes := #[] }, { accessFlags := 10, nameIndex := 525, descriptorIndex := 526, attributes := #[] }, { accessFlags := 26, nameIndex := 674, descriptorIndex := 12, attributes := #[] }, { accessFlags := 26, nameIndex := 677, descriptorIndex := 12, attributes := #[] }, { accessFlags := 10, nameIndex := 11, descriptorIndex := 12, attributes := #[] }, { accessFlags := 74, nameIndex := 175, descriptorIndex := 176, attributes := #[] }, { accessFlags := 10, nameIndex := 491, descriptorIndex := 222, attributes := #[] }, { accessFlags := 74, nameIndex := 29, descriptorIndex := 30, attributes := #[] }, { accessFlags := 74, nameIndex := 154, descriptorIndex := 155, attributes := #[] }, { accessFlags := 10, nameIndex := 217, descriptorIndex := 218, attributes := #[] }, { accessFlags := 10, nameIndex := 221, descriptorIndex := 222, attributes := #[] }, { accessFlags := 8, nameIndex := 562, descriptorIndex := 563, attributes := #[] }])
  fields := #[{ name := "in", type := (.object "java/io/InputStream"), accessFlags := 25, slot := 0, constantValue := 0 }, { name := "out", type := (.object "java/io/PrintStream"), accessFlags := 25, slot := 1, constantValue := 0 }, { name := "err", type := (.object "java/io/PrintStream"), accessFlags := 25, slot := 2, constantValue := 0 }, { name := "initialIn", type := (.object "java/io/InputStream"), accessFlags := 10, slot := 3, constantValue := 0 }, { name := "NEVER", type := .int, accessFlags := 26, slot := 4, constantValue := 0 }, { name := "MAYBE", type := .int, accessFlags := 26, slot := 5, constantValue := 0 }, { name := "allowSecurityManager", type := .int, accessFlags := 10, slot := 6, constantValue := 0 }, { name := "security", type := (.object "java/lang/SecurityManager"), accessFlags := 74, slot := 7, constantValue := 0 }, { name := "notSupportedJnuEncoding", type := (.object "java/lang/String"), accessFlags := 10, slot := 8, constantValue := 0 }, { name := "cons", type := (.object "java/io/Console"), accessFlags := 74, slot := 9, constantValue := 0 }, { name := "initialErrStream", type := (.object "java/io/PrintStream"), accessFlags := 74, slot := 10, constantValue := 0 }, { name := "props", type := (.object "java/util/Properties"), accessFlags := 10, slot := 11, constantValue := 0 }, { name := "lineSeparator", type := (.object "java/lang/String"), accessFlags := 10, slot := 12, constantValue := 0 }, { name := "bootLayer", type := (.object "java/lang/ModuleLayer"), accessFlags := 8, slot := 13, constantValue := 0 }]
  methods := #[k15m0, k15m1]
  instanceTypes := #[]
  staticTypes := #[(.object "java/io/InputStream"), (.object "java/io/PrintStream"), (.object "java/io/PrintStream"), (.object "java/io/InputStream"), .int, .int, .int, (.object "java/lang/SecurityManager"), (.object "java/lang/String"), (.object "java/io/Console"), (.object "java/io/PrintStream"), (.object "java/util/Properties"), (.object "java/lang/String"), (.object "java/lang/ModuleLayer")]
  resolved := Array.replicate 834 none
  statics := none }

def pool16 : Array CpInfo := pool [(9, u "<init>"), (6, .class_ 18), (1, u "java/lang/Object"), (0, u "()V"), (1, .class_ 23), (1, u "jdk/internal/util/ArraysSupport"), (0, u "LOG2_ARRAY_LONG_INDEX_SCALE"), (0, u "I"), (2, u "U"), (0, u "Ljdk/internal/misc/Unsafe;"), (8, u "BIG_ENDIAN"), (0, u "Z"), (8, u "LOG2_BYTE_BIT_SIZE"), (4, u "LOG2_ARRAY_INT_INDEX_SCALE"), (54, u "JLA"), (0, u "Ljdk/internal/access/JavaLangAccess;"), (11, u "LOG2_ARRAY_BOOLEAN_INDEX_SCALE"), (9, u "LOG2_ARRAY_BYTE_INDEX_SCALE"), (5, u "LOG2_ARRAY_CHAR_INDEX_SCALE"), (5, u "LOG2_ARRAY_SHORT_INDEX_SCALE"), (18, u "LOG2_ARRAY_FLOAT_INDEX_SCALE"), (24, u "LOG2_ARRAY_DOUBLE_INDEX_SCALE"), (89, u "T_BOOLEAN"), (2, u "T_CHAR"), (1, u "T_FLOAT"), (1, u "T_DOUBLE"), (1, u "T_BYTE"), (1, u "T_SHORT"), (1, u "T_INT"), (1, u "T_LONG"), (1, u "SOFT_MAX_ARRAY_LENGTH")] 83

def k16m0 : Method := { name := "<init>", desc := "()V", sig := { parameters := [], returnType := none }, accessFlags := 2, code := none }
/-- jdk/internal/util/ArraysSupport -/
def k16 : Class := { plain "jdk/internal/util/ArraysSupport" (some 0) with
  accessFlags := 33
  interfaces := #[]
  cf := some (fileOf pool16 21 #[] #[{ accessFlags := 2, nameIndex := 9, descriptorIndex := 19, attributes := #[] }] 33 16 #[] #[{ accessFlags := 24, nameIndex := 28, descriptorIndex := 29, attributes := #[] }, { accessFlags := 26, nameIndex := 38, descriptorIndex := 39, attributes := #[] }, { accessFlags := 25, nameIndex := 121, descriptorIndex := 25, attributes := #[] }, { accessFlags := 25, nameIndex := 131, descriptorIndex := 25, attributes := #[] }, { accessFlags := 25, nameIndex := 137, descriptorIndex := 25, attributes := #[] }, { accessFlags := 25, nameIndex := 143, descriptorIndex := 25, attributes := #[] }, { accessFlags := 25, nameIndex := 53, descriptorIndex := 25, attributes := #[] }, { accessFlags := 25, nameIndex := 24, descriptorIndex := 25, attributes := #[] }, { accessFlags := 25, nameIndex := 162, descriptorIndex := 25, attributes := #[] }, { accessFlags := 25, nameIndex := 187, descriptorIndex := 25, attributes := #[] }, { accessFlags := 26, nameIndex := 48, descriptorIndex := 25, attributes := #[] }, { accessFlags := 25, nameIndex := 277, descriptorIndex := 25, attributes := #[] }, { accessFlags := 25, nameIndex := 280, descriptorIndex := 25, attributes := #[] }, { accessFlags := 25, nameIndex := 282, descriptorIndex := 25, attributes := #[] }, { accessFlags := 25, nameIndex := 284, descriptorIndex := 25, attributes := #[] }, { accessFlags := 25, nameIndex := 286, descriptorIndex := 25, attributes := #[] }, { accessFlags := 25, nameIndex := 288, descriptorIndex := 25, attributes := #[] }, { accessFlags := 25, nameIndex := 290, descriptorIndex := 25, attributes := #[] }, { accessFlags := 25, nameIndex := 292, descriptorIndex := 25, attributes := #[] }, { accessFlags := 26, nameIndex := 108, descriptorIndex := 109, attributes := #[] }, { accessFlags := 25, nameIndex := 294, descriptorIndex := 25, attributes := #[] }])
  fields := #[{ name := "U", type := (.object "jdk/internal/misc/Unsafe"), accessFlags := 24, slot := 0, constantValue := 0 }, { name := "BIG_ENDIAN", type := .boolean, accessFlags := 26, slot := 1, constantValue := 0 }, { name := "LOG2_ARRAY_BOOLEAN_INDEX_SCALE", type := .int, accessFlags := 25, slot := 2, constantValue := 0 }, { name := "LOG2_ARRAY_BYTE_INDEX_SCALE", type := .int, accessFlags := 25, slot := 3, constantValue := 0 }, { name := "LOG2_ARRAY_CHAR_INDEX_SCALE", type := .int, accessFlags := 25, slot := 4, constantValue := 0 }, { name := "LOG2_ARRAY_SHORT_INDEX_SCALE", type := .int, accessFlags := 25, slot := 5, constantValue := 0 }, { name := "LOG2_ARRAY_INT_INDEX_SCALE", type := .int, accessFlags := 25, slot := 6, constantValue := 0 }, { name := "LOG2_ARRAY_LONG_INDEX_SCALE", type := .int, accessFlags := 25, slot := 7, constantValue := 0 }, { name := "LOG2_ARRAY_FLOAT_INDEX_SCALE", type := .int, accessFlags := 25, slot := 8, constantValue := 0 }, { name := "LOG2_ARRAY_DOUBLE_INDEX_SCALE", type := .int, accessFlags := 25, slot := 9, constantValue := 0 }, { name := "LOG2_BYTE_BIT_SIZE", type := .int, accessFlags := 26, slot := 10, constantValue := 0 }, { name := "T_BOOLEAN", type := .int, accessFlags := 25, slot := 11, constantValue := 0 }, { name := "T_CHAR", type := .int, accessFlags := 25, slot := 12, constantValue := 0 }, { name := "T_FLOAT", type := .int, accessFlags := 25, slot := 13, constantValue := 0 }, { name := "T_DOUBLE", type := .int, accessFlags := 25, slot := 14, constantValue := 0 }, { name := "T_BYTE", type := .int, accessFlags := 25, slot := 15, constantValue := 0 }, { name := "T_SHORT", type := .int, accessFlags := 25, slot := 16, constantValue := 0 }, { name := "T_INT", type := .int, accessFlags := 25, slot := 17, constantValue := 0 }, { name := "T_LONG", type := .int, accessFlags := 25, slot := 18, constantValue := 0 }, { name := "JLA", type := (.object "jdk/internal/access/JavaLangAccess"), accessFlags := 26, slot := 19, constantValue := 0 }, { name := "SOFT_MAX_ARRAY_LENGTH", type := .int, accessFlags := 25, slot := 20, constantValue := 0 }]
  methods := #[k16m0]
  instanceTypes := #[]
  staticTypes := #[(.object "jdk/internal/misc/Unsafe"), .boolean, .int, .int, .int, .int, .int, .int, .int, .int, .int, .int, .int, .int, .int, .int, .int, .int, .int, (.object "jdk/internal/access/JavaLangAccess"), .int]
  resolved := Array.replicate 378 none
  statics := none }

def pool17 : Array CpInfo := pool [(1, u "java/lang/Cloneable"), (0, .class_ 1), (0, u "java/lang/Object"), (0, .class_ 3)] 3

/-- java/lang/Cloneable -/
def k17 : Class := { plain "java/lang/Cloneable" (some 0) with
  accessFlags := 1537
  interfaces := #[]
  cf := some (fileOf pool17 2 #[] #[] 1537 4 #[] #[])
  fields := #[]
  methods := #[]
  instanceTypes := #[]
  staticTypes := #[]
  resolved := Array.replicate 8 none
  statics := none }

/-- the primitive byte -/
def k18 : Class := { plain "byte" none with kind := .primitive 'B', accessFlags := 0x411 }
/-- [B -/
def k19 : Class := { plain "[B" (some 0) with kind := .array 18 .byte, interfaces := #[17, 4], accessFlags := 1041 }

/-- the primitive char -/
def k20 : Class := { plain "char" none with kind := .primitive 'C', accessFlags := 0x411 }
/-- [C -/
def k21 : Class := { plain "[C" (some 0) with kind := .array 20 .char, interfaces := #[17, 4], accessFlags := 1041 }

/-- the primitive int -/
def k22 : Class := { plain "int" none with kind := .primitive 'I', accessFlags := 0x411 }
/-- [I -/
def k23 : Class := { plain "[I" (some 0) with kind := .array 22 .int, interfaces := #[17, 4], accessFlags := 1041 }

def heap : Heap := #[{ cls := 9, slots := #[.long 0, .int 1, .null, .int 0, .null, .int 0, .int 0], vm := .statics 9 },
  { cls := 11, slots := #[.null, .null, .null], vm := .statics 11 }]
def classes : Array Class := #[k0, k1, k2, k3, k4, k5, k6, k7, k8, k9, k10, k11, k12, k13, k14, k15, k16, k17, k18, k19, k20, k21, k22, k23]
def interned : List (Array UInt16 × Addr) := []
def slotsUsed : Nat := 10
def theMethod : MethodId := ⟨1, 1⟩
def args0 : Array Value := #[.long 5, .int 5, .int 5]
def aboutOver (below : List Frame) : State where
  vm := { classes := classes, interned := interned.toArray }
  heap := heap
  slotsUsed := slotsUsed
  threads := #[{ frames := .invoking theMethod args0 :: below }]
def below0 : List Frame := [.native { method := ⟨0, 0⟩, args := #[] }]
def about1 : State := aboutOver below0
def p0 : Program := .bare "" "" ""
def e0 : Env := launch0.env 0 0 0
theorem w_frames : about1.frames = Frame.invoking theMethod args0 :: below0 := rfl
set_option maxRecDepth 65536 in
theorem w_args : argsFit about1.vm theMethod args0 = true := by decide +kernel
set_option maxRecDepth 65536 in
theorem w_heap : heapFits about1 = true := by decide +kernel
set_option maxRecDepth 65536 in
theorem w_runnable : about1.curStatus? = some .runnable := by decide +kernel
set_option maxRecDepth 65536 in
theorem w_alone : about1.alone = true := by decide +kernel
set_option maxRecDepth 65536 in
theorem w_named : about1.methodNamed? x = some theMethod := by decide +kernel
set_option maxRecDepth 65536 in
theorem w_hears : about1.hears theMethod below0 = true := by decide +kernel
set_option maxRecDepth 65536 in
theorem w_ripe : about1.ripe theMethod args0 below0 = true := by decide +kernel
theorem w_running : about1.status = .running := rfl
set_option maxRecDepth 65536 in
theorem w_room : about1.hasRoom e0.platform room_1 = true :=
  launch0.hasRoom_least _ room_1 (by decide +kernel) (by decide +kernel) (by decide +kernel) (by decide +kernel) (by decide +kernel) (by decide +kernel)
theorem allAtoms_all (ts : List Jvm.Cond) (a : Array Jvm.Value) (st : Jvm.State) : (allAtoms ts).before a st = ts.all (fun c => c.before a st) := by
  induction ts with
  | nil => rfl
  | cons c t ih =>
    show (Jvm.Cond.and c (allAtoms t)).before a st = _
    rw [Jvm.Cond.before_and, ih, List.all_cons]
def words1 : List Jvm.Cond := Jvm.Cond.code x code maxLocals ret :: tables_1
/-- a 'code' word, met by the world's own term for the bytes: nothing is compared byte by byte -/
theorem code_word {y : MethodName} {bytes : ByteArray} {mx : Nat} {rt : Option FieldType} {a : Array Value} {s : State} {m : MethodId} {meth : Method} {c : Code} (h1 : s.methodNamed? y = some m) (h2 : s.vm.method? m = some meth) (h3 : meth.code = some c) (h4 : c.code = bytes)
    (h5 : (c.maxLocals == mx && c.exceptionTable.isEmpty && decide (c.maxStack ≤ mostOperands) && decide (meth.sig.returnType = rt) && !meth.locks && decide (parseMethodDescriptor y.desc = some meth.sig)) = true) : (Jvm.Cond.code y bytes mx rt).before a s = true := by
  simp only [Bool.and_eq_true, beq_iff_eq, Bool.not_eq_true', decide_eq_true_eq] at h5
  obtain ⟨⟨⟨⟨⟨g1, g2⟩, g3⟩, g4⟩, g5⟩, g6⟩ := h5
  simp [Cond.before, Cond.holds, Cond.value, h1, h2, h3, h4, g1, g2, g3, g4, g5, g6]
def isCode : Jvm.Cond → Bool
  | .code _ _ _ _ => true
  | _ => false
theorem all_split {L : List Jvm.Cond} {P : Jvm.Cond → Bool} (h1 : L.all (fun c => isCode c || P c) = true) (h2 : ∀ c ∈ L.filter isCode, P c = true) : L.all P = true := by
  refine List.all_eq_true.mpr fun c hc => ?_
  have h := List.all_eq_true.mp h1 c hc
  rcases Bool.eq_false_or_eq_true (isCode c) with hi | hi
  · exact h2 c (List.mem_filter.mpr ⟨hc, hi⟩)
  · simpa [hi] using h
set_option maxRecDepth 65536 in
theorem w_c0 : (Jvm.Cond.code x code maxLocals ret).before args0 about1 = true := code_word (m := ⟨1, 1⟩) (meth := k1m1) (c := k1c1) (by decide +kernel) rfl rfl rfl (by decide +kernel)
set_option maxRecDepth 65536 in
theorem w_c1 : (Jvm.Cond.code ({ cls := "java/lang/String", name := "<init>", desc := "([C)V" } : Jvm.MethodName) jdk_42_method_3_code (2 : Nat) (Option.none : Option Jvm.ClassFile.FieldType)).before args0 about1 = true := code_word (m := ⟨9, 1⟩) (meth := k9m1) (c := k9c1) (by decide +kernel) rfl rfl rfl (by decide +kernel)
set_option maxRecDepth 65536 in
theorem w_c2 : (Jvm.Cond.code ({ cls := "java/lang/String", name := "<init>", desc := "([CIILjava/lang/Void;)V" } : Jvm.MethodName) jdk_42_method_149_code (6 : Nat) (Option.none : Option Jvm.ClassFile.FieldType)).before args0 about1 = true := code_word (m := ⟨9, 5⟩) (meth := k9m5) (c := k9c5) (by decide +kernel) rfl rfl rfl (by decide +kernel)
set_option maxRecDepth 65536 in
theorem w_c3 : (Jvm.Cond.code ({ cls := "java/lang/Object", name := "<init>", desc := "()V" } : Jvm.MethodName) object_method_1_code (1 : Nat) (Option.none : Option Jvm.ClassFile.FieldType)).before args0 about1 = true := code_word (m := ⟨0, 0⟩) (meth := k0m0) (c := k0c0) (by decide +kernel) rfl rfl rfl (by decide +kernel)
set_option maxRecDepth 65536 in
theorem w_c4 : (Jvm.Cond.code ({ cls := "java/lang/StringUTF16", name := "compress", desc := "([CII)[B" } : Jvm.MethodName) jdk_52_method_16_code (6 : Nat) (Option.some (Jvm.ClassFile.FieldType.array Jvm.ClassFile.FieldType.byte))).before args0 about1 = true := code_word (m := ⟨10, 2⟩) (meth := k10m2) (c := k10c2) (by decide +kernel) rfl rfl rfl (by decide +kernel)
set_option maxRecDepth 65536 in
theorem w_c5 : (Jvm.Cond.code ({ cls := "java/lang/StringUTF16", name := "compress", desc := "([CI[BII)I" } : Jvm.MethodName) jdk_52_method_21_code (7 : Nat) (Option.some Jvm.ClassFile.FieldType.int)).before args0 about1 = true := code_word (m := ⟨10, 3⟩) (meth := k10m3) (c := k10c3) (by decide +kernel) rfl rfl rfl (by decide +kernel)
set_option maxRecDepth 65536 in
theorem w_c6 : (Jvm.Cond.code ({ cls := "java/lang/StringUTF16", name := "coderFromArrayLen", desc := "([BI)B" } : Jvm.MethodName) jdk_52_method_15_code (2 : Nat) (Option.some Jvm.ClassFile.FieldType.byte)).before args0 about1 = true := code_word (m := ⟨10, 1⟩) (meth := k10m1) (c := k10c1) (by decide +kernel) rfl rfl rfl (by decide +kernel)
set_option maxRecDepth 65536 in
theorem w_c7 : (Jvm.Cond.code ({ cls := "com/example/sequela/sequela/Fields", name := "<init>", desc := "(Ljava/lang/String;[I)V" } : Jvm.MethodName) prog_15_method_1_code (3 : Nat) (Option.none : Option Jvm.ClassFile.FieldType)).before args0 about1 = true := code_word (m := ⟨3, 0⟩) (meth := k3m0) (c := k3c0) (by decide +kernel) rfl rfl rfl (by decide +kernel)
set_option maxRecDepth 65536 in
theorem w_c8 : (Jvm.Cond.code ({ cls := "java/lang/Record", name := "<init>", desc := "()V" } : Jvm.MethodName) jdk_30_method_1_code (1 : Nat) (Option.none : Option Jvm.ClassFile.FieldType)).before args0 about1 = true := code_word (m := ⟨2, 0⟩) (meth := k2m0) (c := k2c0) (by decide +kernel) rfl rfl rfl (by decide +kernel)
set_option maxRecDepth 65536 in
theorem w_c9 : (Jvm.Cond.code ({ cls := "com/example/sequela/sequela/Fields", name := "get", desc := "(I)Ljava/lang/String;" } : Jvm.MethodName) prog_15_method_4_code (3 : Nat) (Option.some (Jvm.ClassFile.FieldType.object "java/lang/String"))).before args0 about1 = true := code_word (m := ⟨3, 1⟩) (meth := k3m1) (c := k3c1) (by decide +kernel) rfl rfl rfl (by decide +kernel)
set_option maxRecDepth 65536 in
theorem w_c10 : (Jvm.Cond.code ({ cls := "com/example/sequela/sequela/Fields", name := "start", desc := "(I)I" } : Jvm.MethodName) prog_15_method_8_code (2 : Nat) (Option.some Jvm.ClassFile.FieldType.int)).before args0 about1 = true := code_word (m := ⟨3, 2⟩) (meth := k3m2) (c := k3c2) (by decide +kernel) rfl rfl rfl (by decide +kernel)
set_option maxRecDepth 65536 in
theorem w_c11 : (Jvm.Cond.code ({ cls := "java/lang/String", name := "substring", desc := "(II)Ljava/lang/String;" } : Jvm.MethodName) jdk_42_method_92_code (5 : Nat) (Option.some (Jvm.ClassFile.FieldType.object "java/lang/String"))).before args0 about1 = true := code_word (m := ⟨9, 4⟩) (meth := k9m4) (c := k9c4) (by decide +kernel) rfl rfl rfl (by decide +kernel)
set_option maxRecDepth 65536 in
theorem w_c12 : (Jvm.Cond.code ({ cls := "java/lang/String", name := "length", desc := "()I" } : Jvm.MethodName) jdk_42_method_54_code (1 : Nat) (Option.some Jvm.ClassFile.FieldType.int)).before args0 about1 = true := code_word (m := ⟨9, 2⟩) (meth := k9m2) (c := k9c2) (by decide +kernel) rfl rfl rfl (by decide +kernel)
set_option maxRecDepth 65536 in
theorem w_c13 : (Jvm.Cond.code ({ cls := "java/lang/String", name := "coder", desc := "()B" } : Jvm.MethodName) jdk_42_method_152_code (1 : Nat) (Option.some Jvm.ClassFile.FieldType.byte)).before args0 about1 = true := code_word (m := ⟨9, 7⟩) (meth := k9m7) (c := k9c7) (by decide +kernel) rfl rfl rfl (by decide +kernel)
set_option maxRecDepth 65536 in
theorem w_c14 : (Jvm.Cond.code ({ cls := "java/lang/String", name := "checkBoundsBeginEnd", desc := "(III)V" } : Jvm.MethodName) jdk_42_method_158_code (3 : Nat) (Option.none : Option Jvm.ClassFile.FieldType)).before args0 about1 = true := code_word (m := ⟨9, 10⟩) (meth := k9m10) (c := k9c10) (by decide +kernel) rfl rfl rfl (by decide +kernel)
set_option maxRecDepth 65536 in
theorem w_c15 : (Jvm.Cond.code ({ cls := "jdk/internal/util/Preconditions", name := "checkFromToIndex", desc := "(IIILjava/util/function/BiFunction;)I" } : Jvm.MethodName) jdk_41_method_12_code (4 : Nat) (Option.some Jvm.ClassFile.FieldType.int)).before args0 about1 = true := code_word (m := ⟨11, 2⟩) (meth := k11m2) (c := k11c2) (by decide +kernel) rfl rfl rfl (by decide +kernel)
set_option maxRecDepth 65536 in
theorem w_c16 : (Jvm.Cond.code ({ cls := "java/lang/String", name := "isLatin1", desc := "()Z" } : Jvm.MethodName) jdk_42_method_154_code (1 : Nat) (Option.some Jvm.ClassFile.FieldType.boolean)).before args0 about1 = true := code_word (m := ⟨9, 8⟩) (meth := k9m8) (c := k9c8) (by decide +kernel) rfl rfl rfl (by decide +kernel)
set_option maxRecDepth 65536 in
theorem w_c17 : (Jvm.Cond.code ({ cls := "java/lang/StringLatin1", name := "newString", desc := "([BII)Ljava/lang/String;" } : Jvm.MethodName) jdk_43_method_47_code (3 : Nat) (Option.some (Jvm.ClassFile.FieldType.object "java/lang/String"))).before args0 about1 = true := code_word (m := ⟨12, 2⟩) (meth := k12m2) (c := k12c2) (by decide +kernel) rfl rfl rfl (by decide +kernel)
set_option maxRecDepth 65536 in
theorem w_c18 : (Jvm.Cond.code ({ cls := "java/util/Arrays", name := "copyOfRange", desc := "([BII)[B" } : Jvm.MethodName) jdk_65_method_132_code (3 : Nat) (Option.some (Jvm.ClassFile.FieldType.array Jvm.ClassFile.FieldType.byte))).before args0 about1 = true := code_word (m := ⟨13, 2⟩) (meth := k13m2) (c := k13c2) (by decide +kernel) rfl rfl rfl (by decide +kernel)
set_option maxRecDepth 65536 in
theorem w_c19 : (Jvm.Cond.code ({ cls := "java/util/Arrays", name := "copyOfRangeByte", desc := "([BII)[B" } : Jvm.MethodName) jdk_65_method_133_code (5 : Nat) (Option.some (Jvm.ClassFile.FieldType.array Jvm.ClassFile.FieldType.byte))).before args0 about1 = true := code_word (m := ⟨13, 3⟩) (meth := k13m3) (c := k13c3) (by decide +kernel) rfl rfl rfl (by decide +kernel)
set_option maxRecDepth 65536 in
theorem w_c20 : (Jvm.Cond.code ({ cls := "java/util/Arrays", name := "checkLength", desc := "(II)V" } : Jvm.MethodName) jdk_65_method_131_code (2 : Nat) (Option.none : Option Jvm.ClassFile.FieldType)).before args0 about1 = true := code_word (m := ⟨13, 1⟩) (meth := k13m1) (c := k13c1) (by decide +kernel) rfl rfl rfl (by decide +kernel)
set_option maxRecDepth 65536 in
theorem w_c21 : (Jvm.Cond.code ({ cls := "java/lang/Math", name := "min", desc := "(II)I" } : Jvm.MethodName) jdk_29_method_69_code (2 : Nat) (Option.some Jvm.ClassFile.FieldType.int)).before args0 about1 = true := code_word (m := ⟨14, 1⟩) (meth := k14m1) (c := k14c1) (by decide +kernel) rfl rfl rfl (by decide +kernel)
set_option maxRecDepth 65536 in
theorem w_c22 : (Jvm.Cond.code ({ cls := "java/lang/String", name := "<init>", desc := "([BB)V" } : Jvm.MethodName) jdk_42_method_151_code (3 : Nat) (Option.none : Option Jvm.ClassFile.FieldType)).before args0 about1 = true := code_word (m := ⟨9, 6⟩) (meth := k9m6) (c := k9c6) (by decide +kernel) rfl rfl rfl (by decide +kernel)
set_option maxRecDepth 65536 in
theorem w_c23 : (Jvm.Cond.code ({ cls := "java/lang/String", name := "charAt", desc := "(I)C" } : Jvm.MethodName) jdk_42_method_56_code (2 : Nat) (Option.some Jvm.ClassFile.FieldType.char)).before args0 about1 = true := code_word (m := ⟨9, 3⟩) (meth := k9m3) (c := k9c3) (by decide +kernel) rfl rfl rfl (by decide +kernel)
set_option maxRecDepth 65536 in
theorem w_c24 : (Jvm.Cond.code ({ cls := "java/lang/StringLatin1", name := "charAt", desc := "([BI)C" } : Jvm.MethodName) jdk_43_method_2_code (2 : Nat) (Option.some Jvm.ClassFile.FieldType.char)).before args0 about1 = true := code_word (m := ⟨12, 1⟩) (meth := k12m1) (c := k12c1) (by decide +kernel) rfl rfl rfl (by decide +kernel)
set_option maxRecDepth 65536 in
theorem w_c25 : (Jvm.Cond.code ({ cls := "java/lang/String", name := "checkIndex", desc := "(II)V" } : Jvm.MethodName) jdk_42_method_155_code (2 : Nat) (Option.none : Option Jvm.ClassFile.FieldType)).before args0 about1 = true := code_word (m := ⟨9, 9⟩) (meth := k9m9) (c := k9c9) (by decide +kernel) rfl rfl rfl (by decide +kernel)
set_option maxRecDepth 65536 in
theorem w_c26 : (Jvm.Cond.code ({ cls := "jdk/internal/util/Preconditions", name := "checkIndex", desc := "(IILjava/util/function/BiFunction;)I" } : Jvm.MethodName) jdk_41_method_11_code (3 : Nat) (Option.some Jvm.ClassFile.FieldType.int)).before args0 about1 = true := code_word (m := ⟨11, 1⟩) (meth := k11m1) (c := k11c1) (by decide +kernel) rfl rfl rfl (by decide +kernel)
def codes1 : List Jvm.Cond := [Jvm.Cond.code x code maxLocals ret, Jvm.Cond.code ({ cls := "java/lang/String", name := "<init>", desc := "([C)V" } : Jvm.MethodName) jdk_42_method_3_code (2 : Nat) (Option.none : Option Jvm.ClassFile.FieldType), Jvm.Cond.code ({ cls := "java/lang/String", name := "<init>", desc := "([CIILjava/lang/Void;)V" } : Jvm.MethodName) jdk_42_method_149_code (6 : Nat) (Option.none : Option Jvm.ClassFile.FieldType), Jvm.Cond.code ({ cls := "java/lang/Object", name := "<init>", desc := "()V" } : Jvm.MethodName) object_method_1_code (1 : Nat) (Option.none : Option Jvm.ClassFile.FieldType), Jvm.Cond.code ({ cls := "java/lang/StringUTF16", name := "compress", desc := "([CII)[B" } : Jvm.MethodName) jdk_52_method_16_code (6 : Nat) (Option.some (Jvm.ClassFile.FieldType.array Jvm.ClassFile.FieldType.byte)), Jvm.Cond.code ({ cls := "java/lang/StringUTF16", name := "compress", desc := "([CI[BII)I" } : Jvm.MethodName) jdk_52_method_21_code (7 : Nat) (Option.some Jvm.ClassFile.FieldType.int), Jvm.Cond.code ({ cls := "java/lang/StringUTF16", name := "coderFromArrayLen", desc := "([BI)B" } : Jvm.MethodName) jdk_52_method_15_code (2 : Nat) (Option.some Jvm.ClassFile.FieldType.byte), Jvm.Cond.code ({ cls := "com/example/sequela/sequela/Fields", name := "<init>", desc := "(Ljava/lang/String;[I)V" } : Jvm.MethodName) prog_15_method_1_code (3 : Nat) (Option.none : Option Jvm.ClassFile.FieldType), Jvm.Cond.code ({ cls := "java/lang/Record", name := "<init>", desc := "()V" } : Jvm.MethodName) jdk_30_method_1_code (1 : Nat) (Option.none : Option Jvm.ClassFile.FieldType), Jvm.Cond.code ({ cls := "com/example/sequela/sequela/Fields", name := "get", desc := "(I)Ljava/lang/String;" } : Jvm.MethodName) prog_15_method_4_code (3 : Nat) (Option.some (Jvm.ClassFile.FieldType.object "java/lang/String")), Jvm.Cond.code ({ cls := "com/example/sequela/sequela/Fields", name := "start", desc := "(I)I" } : Jvm.MethodName) prog_15_method_8_code (2 : Nat) (Option.some Jvm.ClassFile.FieldType.int), Jvm.Cond.code ({ cls := "java/lang/String", name := "substring", desc := "(II)Ljava/lang/String;" } : Jvm.MethodName) jdk_42_method_92_code (5 : Nat) (Option.some (Jvm.ClassFile.FieldType.object "java/lang/String")), Jvm.Cond.code ({ cls := "java/lang/String", name := "length", desc := "()I" } : Jvm.MethodName) jdk_42_method_54_code (1 : Nat) (Option.some Jvm.ClassFile.FieldType.int), Jvm.Cond.code ({ cls := "java/lang/String", name := "coder", desc := "()B" } : Jvm.MethodName) jdk_42_method_152_code (1 : Nat) (Option.some Jvm.ClassFile.FieldType.byte), Jvm.Cond.code ({ cls := "java/lang/String", name := "checkBoundsBeginEnd", desc := "(III)V" } : Jvm.MethodName) jdk_42_method_158_code (3 : Nat) (Option.none : Option Jvm.ClassFile.FieldType), Jvm.Cond.code ({ cls := "jdk/internal/util/Preconditions", name := "checkFromToIndex", desc := "(IIILjava/util/function/BiFunction;)I" } : Jvm.MethodName) jdk_41_method_12_code (4 : Nat) (Option.some Jvm.ClassFile.FieldType.int), Jvm.Cond.code ({ cls := "java/lang/String", name := "isLatin1", desc := "()Z" } : Jvm.MethodName) jdk_42_method_154_code (1 : Nat) (Option.some Jvm.ClassFile.FieldType.boolean), Jvm.Cond.code ({ cls := "java/lang/StringLatin1", name := "newString", desc := "([BII)Ljava/lang/String;" } : Jvm.MethodName) jdk_43_method_47_code (3 : Nat) (Option.some (Jvm.ClassFile.FieldType.object "java/lang/String")), Jvm.Cond.code ({ cls := "java/util/Arrays", name := "copyOfRange", desc := "([BII)[B" } : Jvm.MethodName) jdk_65_method_132_code (3 : Nat) (Option.some (Jvm.ClassFile.FieldType.array Jvm.ClassFile.FieldType.byte)), Jvm.Cond.code ({ cls := "java/util/Arrays", name := "copyOfRangeByte", desc := "([BII)[B" } : Jvm.MethodName) jdk_65_method_133_code (5 : Nat) (Option.some (Jvm.ClassFile.FieldType.array Jvm.ClassFile.FieldType.byte)), Jvm.Cond.code ({ cls := "java/util/Arrays", name := "checkLength", desc := "(II)V" } : Jvm.MethodName) jdk_65_method_131_code (2 : Nat) (Option.none : Option Jvm.ClassFile.FieldType), Jvm.Cond.code ({ cls := "java/lang/Math", name := "min", desc := "(II)I" } : Jvm.MethodName) jdk_29_method_69_code (2 : Nat) (Option.some Jvm.ClassFile.FieldType.int), Jvm.Cond.code ({ cls := "java/lang/String", name := "<init>", desc := "([BB)V" } : Jvm.MethodName) jdk_42_method_151_code (3 : Nat) (Option.none : Option Jvm.ClassFile.FieldType), Jvm.Cond.code ({ cls := "java/lang/String", name := "charAt", desc := "(I)C" } : Jvm.MethodName) jdk_42_method_56_code (2 : Nat) (Option.some Jvm.ClassFile.FieldType.char), Jvm.Cond.code ({ cls := "java/lang/StringLatin1", name := "charAt", desc := "([BI)C" } : Jvm.MethodName) jdk_43_method_2_code (2 : Nat) (Option.some Jvm.ClassFile.FieldType.char), Jvm.Cond.code ({ cls := "java/lang/String", name := "checkIndex", desc := "(II)V" } : Jvm.MethodName) jdk_42_method_155_code (2 : Nat) (Option.none : Option Jvm.ClassFile.FieldType), Jvm.Cond.code ({ cls := "jdk/internal/util/Preconditions", name := "checkIndex", desc := "(IILjava/util/function/BiFunction;)I" } : Jvm.MethodName) jdk_41_method_11_code (3 : Nat) (Option.some Jvm.ClassFile.FieldType.int)]
set_option maxRecDepth 65536 in
theorem codes_eq : words1.filter isCode = codes1 := rfl
theorem w_codes : ∀ c ∈ words1.filter isCode, c.before args0 about1 = true := by
  rw [codes_eq]
  intro c hc
  simp only [codes1, List.mem_cons, List.not_mem_nil, or_false] at hc
  rcases hc with rfl | rfl | rfl | rfl | rfl | rfl | rfl | rfl | rfl | rfl | rfl | rfl | rfl | rfl | rfl | rfl | rfl | rfl | rfl | rfl | rfl | rfl | rfl | rfl | rfl | rfl | rfl
  · exact w_c0
  · exact w_c1
  · exact w_c2
  · exact w_c3
  · exact w_c4
  · exact w_c5
  · exact w_c6
  · exact w_c7
  · exact w_c8
  · exact w_c9
  · exact w_c10
  · exact w_c11
  · exact w_c12
  · exact w_c13
  · exact w_c14
  · exact w_c15
  · exact w_c16
  · exact w_c17
  · exact w_c18
  · exact w_c19
  · exact w_c20
  · exact w_c21
  · exact w_c22
  · exact w_c23
  · exact w_c24
  · exact w_c25
  · exact w_c26
set_option maxRecDepth 65536 in
theorem w_t1 : (words1.take 24).all (fun c => isCode c || c.before args0 about1) = true := by decide +kernel
set_option maxRecDepth 65536 in
theorem w_t2 : ((words1.drop 24).take 24).all (fun c => isCode c || c.before args0 about1) = true := by decide +kernel
set_option maxRecDepth 65536 in
theorem w_t3 : (((words1.drop 24).drop 24).take 24).all (fun c => isCode c || c.before args0 about1) = true := by decide +kernel
set_option maxRecDepth 65536 in
theorem w_t4 : ((((words1.drop 24).drop 24).drop 24).take 24).all (fun c => isCode c || c.before args0 about1) = true := by decide +kernel
set_option maxRecDepth 65536 in
theorem w_t5 : (((((words1.drop 24).drop 24).drop 24).drop 24).take 24).all (fun c => isCode c || c.before args0 about1) = true := by decide +kernel
set_option maxRecDepth 65536 in
theorem w_t6 : (((((words1.drop 24).drop 24).drop 24).drop 24).drop 24).all (fun c => isCode c || c.before args0 about1) = true := by decide +kernel
theorem w_tables : (allAtoms (Jvm.Cond.code x code maxLocals ret :: tables_1)).before args0 about1 = true := by
  rw [allAtoms_all]
  show words1.all (fun c => c.before args0 about1) = true
  refine all_split ?_ w_codes
  rw [← List.take_append_drop 24 words1, List.all_append, w_t1, ← List.take_append_drop 24 (words1.drop 24), List.all_append, w_t2, ← List.take_append_drop 24 ((words1.drop 24).drop 24), List.all_append, w_t3, ← List.take_append_drop 24 (((words1.drop 24).drop 24).drop 24), List.all_append, w_t4, ← List.take_append_drop 24 ((((words1.drop 24).drop 24).drop 24).drop 24), List.all_append, w_t5, w_t6]
  rfl
set_option maxRecDepth 65536 in
theorem w_rest : rest_1_c.before args0 about1 = true := by decide +kernel
set_option maxRecDepth 65536 in
theorem w_case : (Jvm.Cond.and given_1 narrow_1).before args0 about1 = true := by decide +kernel
theorem w_applies : (headSpec (Jvm.Cond.code x code maxLocals ret :: tables_1) room_1).applies x e0.platform about1 = true :=
  (Spec.applies_iff w_frames).mpr ⟨w_running, w_runnable, w_alone, w_named, w_hears, w_ripe, w_room, w_tables⟩
theorem atStart : AtStart classFile x code maxLocals ret World_1 tables_1 room_1 Calls_1 rest_1 Pre_1 launch0 p0 e0 about1 theMethod args0 below0 :=
  ⟨lists_1, trivial, launch0.admits_env _ _ _, launch0.least_env, fairChoices_fair.cas, fairChoices_fair.clock, w_frames, w_args, w_heap, w_applies, trivial, w_rest, w_case⟩
end start1
theorem witness_1 : WitnessClaimed_1 := ⟨start1.p0, start1.e0, start1.about1, start1.theMethod, start1.args0, start1.below0, start1.atStart⟩
end Jvm.Pilot.@@N@@
