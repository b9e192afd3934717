import JvmDerived
import JvmDerived.Pilot.@@N@@Statement
import JvmDerived.Pilot.@@N@@Code
set_option linter.unusedVariables false
set_option linter.unusedSimpArgs false
/- laws to paste: Road.backV, Road.eqW, Road.codOf (cut by pick.py; bodies as the Statement names them) -/
namespace Jvm.Pilot.@@N@@
namespace StrChars
open Jvm Sem ClassFile Op Lib Jvm.Stand Jvm.Free.XT Jvm.Free.ALB Jvm.Free.JM Jvm.Free
open Jvm.Lib.Cold (StaticIs)
/-- a char array whose places are chars -/
def Ch (a : Addr) (A : Cell) (U : State) : Prop := Arr .char a A U ∧ Typed .char A
theorem Ch.mv {a : Addr} {A : Cell} {U U' : State} (h : Ch a A U) (hal : U.vm.Alike U'.vm) (hh : U'.heap = U.heap) : Ch a A U' := ⟨h.1.mv hal hh, h.2⟩
theorem Ch.keep {a : Addr} {A : Cell} {U U' : State} (h : Ch a A U) (hal : U.vm.Alike U'.vm) (hk : U'.heap[a]? = some A) : Ch a A U' := ⟨h.1.keep hal hk, h.2⟩
/-- what place i of a char[]'s cell holds -/
def cv (A : Cell) (i : Nat) : Int32 := match A.slots[i]? with | some (.int x) => x | _ => 0
theorem Ch.get {a : Addr} {A : Cell} {U : State} (h : Ch a A U) {i : Nat} (hi : i < A.slots.size) : A.slots[i]? = some (.int (cv A i)) := by
  have e := Array.getElem?_eq_getElem hi
  have f := h.2 i _ e
  unfold cv; rw [e]
  generalize A.slots[i] = v at f
  cases v <;> simp [fits] at f ⊢
/-- the byte that i2b leaves of a char -/
def lo8 (x : Int32) : Int32 := x.toInt8.toInt32
theorem fits_lo8 (y : Int32) : fits .byte (.int (lo8 y)) = true := by
  have h1 := y.toInt8.le_toInt
  have h2 := y.toInt8.toInt_lt
  simp only [lo8, fits, Bool.and_eq_true, decide_eq_true_eq, Int32.le_iff_toInt_le, Int8.toInt_toInt32, show (-128 : Int32).toInt = -128 from by decide, show (127 : Int32).toInt = 127 from by decide]
  omega
/-- A' is A but that each place j of lo .. hi - 1 holds f j -/
def Laid (A A' : Cell) (lo hi : Nat) (f : Nat → Value) : Prop := A'.cls = A.cls ∧ A'.vm = A.vm ∧ A'.slots.size = A.slots.size ∧ ∀ i, A'.slots[i]? = if lo ≤ i ∧ i < hi then some (f i) else A.slots[i]?
theorem Laid.zero (A : Cell) (lo : Nat) (f : Nat → Value) : Laid A A lo (lo + 0) f := ⟨rfl, rfl, rfl, fun i => by rw [if_neg (by omega)]⟩
theorem Laid.step {A Ak : Cell} {lo k : Nat} {f : Nat → Value} {v : Value} (h : Laid A Ak lo k f) (hlo : lo ≤ k) (hk : k < Ak.slots.size) (hv : v = f k) : Laid A (Ak.setSlot k v) lo (k + 1) f := by
  refine ⟨h.1, h.2.1, by simpa [Cell.setSlot] using h.2.2.1, fun i => ?_⟩
  by_cases e : k = i
  · subst e; rw [Cell.slots_setSlot_self v hk, if_pos (by omega), hv]
  · rw [Cell.slots_setSlot_ne v e, h.2.2.2 i]
    by_cases q : lo ≤ i ∧ i < k
    · rw [if_pos q, if_pos (by omega)]
    · rw [if_neg q, if_neg (by omega)]
def U16 : String := "java/lang/StringUTF16"
namespace Cmp5
def yN : MethodName := ⟨"java/lang/StringUTF16", "compress", "([CI[BII)I"⟩
abbrev yB : ByteArray := jdk_52_method_21_code
theorem d0 : decode yB 0 = .ok (.iconst 0, 1) := by decide +kernel
theorem d1 : decode yB 1 = .ok (.istore 5, 2) := by decide +kernel
theorem d3 : decode yB 3 = .ok (.iload 5, 2) := by decide +kernel
theorem d5 : decode yB 5 = .ok (.iload 4, 2) := by decide +kernel
theorem d7 : decode yB 7 = .ok (.if_icmp (.ge) 37, 3) := by decide +kernel
theorem d10 : decode yB 10 = .ok (.aload_n 0, 1) := by decide +kernel
theorem d11 : decode yB 11 = .ok (.iload_n 1, 1) := by decide +kernel
theorem d12 : decode yB 12 = .ok (.caload, 1) := by decide +kernel
theorem d13 : decode yB 13 = .ok (.istore 6, 2) := by decide +kernel
theorem d15 : decode yB 15 = .ok (.iload 6, 2) := by decide +kernel
theorem d17 : decode yB 17 = .ok (.sipush 255, 3) := by decide +kernel
theorem d20 : decode yB 20 = .ok (.if_icmp (.le) 6, 3) := by decide +kernel
theorem d26 : decode yB 26 = .ok (.aload_n 2, 1) := by decide +kernel
theorem d27 : decode yB 27 = .ok (.iload_n 3, 1) := by decide +kernel
theorem d28 : decode yB 28 = .ok (.iload 6, 2) := by decide +kernel
theorem d30 : decode yB 30 = .ok (.i2b, 1) := by decide +kernel
theorem d31 : decode yB 31 = .ok (.bastore, 1) := by decide +kernel
theorem d32 : decode yB 32 = .ok (.iinc 1 1, 3) := by decide +kernel
theorem d35 : decode yB 35 = .ok (.iinc 3 1, 3) := by decide +kernel
theorem d38 : decode yB 38 = .ok (.iinc 5 1, 3) := by decide +kernel
theorem d41 : decode yB 41 = .ok (.goto (-38), 3) := by decide +kernel
theorem d44 : decode yB 44 = .ok (.iload 4, 2) := by decide +kernel
theorem d46 : decode yB 46 = .ok (.ireturn, 1) := by decide +kernel
def site : List Cond := []
def tab : Cond := tabOf yN yB 7 (some .int) site
def P (b : Addr) (A : Cell) (d : Addr) (B : Cell) (o q len : Nat) (args : Array Value) (s : State) : Prop := args = #[.ref b, .int (Int32.ofNat o), .ref d, .int (Int32.ofNat q), .int (Int32.ofNat len)] ∧ Ch b A s ∧ Arr .byte d B s ∧ b ≠ d ∧ o + len ≤ A.slots.size ∧ q + len ≤ B.slots.size ∧ ∀ i, i < len → ¬ 255 < cv A (o + i)
def E (b : Addr) (A : Cell) (d : Addr) (B : Cell) (o q len : Nat) (r : Option Value) (s u : State) : Prop := r = some (.int (Int32.ofNat len)) ∧ ∃ B', Put d B' s u ∧ Laid B B' q (q + len) (fun j => Value.int (lo8 (cv A (o + (j - q)))))
/-- no char of the range above 255: len; the places written hold each char's low byte -/
theorem law (l : Launch) (b : Addr) (A : Cell) (d : Addr) (B : Cell) (o q len : Nat) : Law l yN 5 5 0 0 yB 7 (some .int) site (P b A d B o q len) (E b A d B o q len) (copyLocs d q len) 0 0 := by
  refine Law.of_walk (plainFor_of_name (by decide +kernel)) (by decide +kernel) (by decide +kernel) (by decide) (fun _ _ h => by rw [h.1]; rfl) (fun _ U U' hal hh h => ⟨h.1, h.2.1.mv hal hh, h.2.2.1.mv hal hh, h.2.2.2⟩) (fun r U U' V V' h1 hal h2 h => ⟨h.1, h.2.elim fun B' q => ⟨B', q.1.mv h1 h2, q.2⟩⟩) ?_
  intro p e s m args below meth c s₁ X0 hexec hbytes hml hret hlk hnm hown hh0 W hP
  obtain ⟨rfl, hA, hB, hne, l1, l2, hp⟩ := hP
  have c1 : Steps p.tables e below (s₁.setTop (entryFrame m #[.ref b, .int (Int32.ofNat o), .ref d, .int (Int32.ofNat q), .int (Int32.ofNat len)] 7)) (s₁.setTop (mkF m 0 #[.val (.ref b), .val (.int (Int32.ofNat o)), .val (.ref d), .val (.int (Int32.ofNat q)), .val (.int (Int32.ofNat len)), .unset, .unset] [])) := entry rfl
  have hA0 := hA.1.mv X0.warmed.alike hh0
  have hB0 := hB.mv X0.warmed.alike hh0
  have a31 := hA.1.2.2.2
  have c2 : Steps p.tables e below (s₁.setTop (entryFrame m #[.ref b, .int (Int32.ofNat o), .ref d, .int (Int32.ofNat q), .int (Int32.ofNat len)] 7)) (s₁.setTop (mkF m 3 #[.val (.ref b), .val (.int (Int32.ofNat o)), .val (.ref d), .val (.int (Int32.ofNat q)), .val (.int (Int32.ofNat len)), .val (.int 0), .unset] [])) := c1.trans (by
    refine iconstV X0.here hexec rfl 0 (hb hbytes d0) (by decide) ?_
    refine XS.istore X0.here hexec rfl (hb hbytes d1) rfl rfl ?_
    exact Steps.refl _)
  have loop : ∀ (r i : Nat), i + r = len → ∀ (z : Slot), (z = .unset ∨ ∃ w, z = .val w ∧ w.category = 1) → ∀ (Tl : State) (Bk : Cell), Stand p l e { frames := 0, locals := 0, cells := 0, slots := 0 } s m #[.ref b, .int (Int32.ofNat o), .ref d, .int (Int32.ofNat q), .int (Int32.ofNat len)] below meth c Tl ([] ++ copyLocs d q i) 0 0 → Put d Bk s₁ Tl → Laid B Bk q (q + i) (fun j => Value.int (lo8 (cv A (o + (j - q))))) →
      Steps p.tables e below (s₁.setTop (entryFrame m #[.ref b, .int (Int32.ofNat o), .ref d, .int (Int32.ofNat q), .int (Int32.ofNat len)] 7)) (Tl.setTop (mkF m 3 #[.val (.ref b), .val (.int (Int32.ofNat (o + i))), .val (.ref d), .val (.int (Int32.ofNat (q + i))), .val (.int (Int32.ofNat len)), .val (.int (Int32.ofNat i)), z] [])) → ∃ (T' : State) (B' : Cell) (z' : Slot), Stand p l e { frames := 0, locals := 0, cells := 0, slots := 0 } s m #[.ref b, .int (Int32.ofNat o), .ref d, .int (Int32.ofNat q), .int (Int32.ofNat len)] below meth c T' ([] ++ copyLocs d q len) 0 0 ∧ Put d B' s₁ T' ∧ Laid B B' q (q + len) (fun j => Value.int (lo8 (cv A (o + (j - q))))) ∧
      Steps p.tables e below (s₁.setTop (entryFrame m #[.ref b, .int (Int32.ofNat o), .ref d, .int (Int32.ofNat q), .int (Int32.ofNat len)] 7)) (T'.setTop (mkF m 3 #[.val (.ref b), .val (.int (Int32.ofNat (o + len))), .val (.ref d), .val (.int (Int32.ofNat (q + len))), .val (.int (Int32.ofNat len)), .val (.int (Int32.ofNat len)), z'] [])) := by
    intro r
    induction r with
    | zero =>
      intro i hi z hz Tl Bk Xl pl fl cl
      have hil : i = len := by omega
      rw [hil] at Xl fl cl
      exact ⟨Tl, Bk, z, Xl, pl, fl, cl⟩
    | succ r ih =>
      intro i hi z hz Tl Bk Xl pl fl cl
      have all := X0.warmed.alike.symm.trans Xl.warmed.alike
      have hAl := hA0.keep all (pl.other hne hA0.1)
      have hBk := hB0.like all pl.1 fl.1 fl.2.1 fl.2.2.1
      have hlt : q + i < Bk.slots.size := by rw [fl.2.2.1]; omega
      have c3 : Steps p.tables e below (s₁.setTop (entryFrame m #[.ref b, .int (Int32.ofNat o), .ref d, .int (Int32.ofNat q), .int (Int32.ofNat len)] 7)) (Tl.setTop (mkF m 12 #[.val (.ref b), .val (.int (Int32.ofNat (o + i))), .val (.ref d), .val (.int (Int32.ofNat (q + i))), .val (.int (Int32.ofNat len)), .val (.int (Int32.ofNat i)), z] [.int (Int32.ofNat (o + i)), .ref b])) := cl.trans (by
        refine XS.iload Xl.here hexec rfl (hb hbytes d3) rfl ?_
        refine XS.iload Xl.here hexec rfl (hb hbytes d5) rfl ?_
        refine XS.icmpNo Xl.here hexec rfl (hb hbytes d7) rfl (ii_ge_f (lt32 (by omega) (by omega))) ?_
        refine XS.aloadN Xl.here hexec rfl (hb hbytes d10) rfl rfl ?_
        refine XS.iloadN Xl.here hexec rfl (hb hbytes d11) rfl ?_
        exact Steps.refl _)
      have c4 : Steps p.tables e below (s₁.setTop (entryFrame m #[.ref b, .int (Int32.ofNat o), .ref d, .int (Int32.ofNat q), .int (Int32.ofNat len)] 7)) (Tl.setTop (mkF m 13 #[.val (.ref b), .val (.int (Int32.ofNat (o + i))), .val (.ref d), .val (.int (Int32.ofNat (q + i))), .val (.int (Int32.ofNat len)), .val (.int (Int32.ofNat i)), z] [.int (cv A (o + i))])) := c3.trans (by
        refine Xl.aget hexec hAl rfl (hA.get (i := o + i) (by omega)) rfl rfl (hb hbytes d12) ?_
        exact Steps.refl _)
      have c5 : Steps p.tables e below (s₁.setTop (entryFrame m #[.ref b, .int (Int32.ofNat o), .ref d, .int (Int32.ofNat q), .int (Int32.ofNat len)] 7)) (Tl.setTop (mkF m 15 #[.val (.ref b), .val (.int (Int32.ofNat (o + i))), .val (.ref d), .val (.int (Int32.ofNat (q + i))), .val (.int (Int32.ofNat len)), .val (.int (Int32.ofNat i)), .val (.int (cv A (o + i)))] [])) := c4.trans (by
        refine XS.istoreS Xl.here hexec rfl (hb hbytes d13) rfl rfl hz ?_
        exact Steps.refl _)
      have c6 : Steps p.tables e below (s₁.setTop (entryFrame m #[.ref b, .int (Int32.ofNat o), .ref d, .int (Int32.ofNat q), .int (Int32.ofNat len)] 7)) (Tl.setTop (mkF m 31 #[.val (.ref b), .val (.int (Int32.ofNat (o + i))), .val (.ref d), .val (.int (Int32.ofNat (q + i))), .val (.int (Int32.ofNat len)), .val (.int (Int32.ofNat i)), .val (.int (cv A (o + i)))] [.int (lo8 (cv A (o + i))), .int (Int32.ofNat (q + i)), .ref d])) := c5.trans (by
        refine XS.iload Xl.here hexec rfl (hb hbytes d15) rfl ?_
        refine sipushV Xl.here hexec rfl 255 (hb hbytes d17) (by decide) ?_
        refine XS.icmpYes Xl.here hexec rfl (pc0 := 20) rfl (hb hbytes d20) rfl (ii_le_t (hp i (by omega))) (by decide) rfl ?_
        refine XS.aloadN Xl.here hexec rfl (hb hbytes d26) rfl rfl ?_
        refine XS.iloadN Xl.here hexec rfl (hb hbytes d27) rfl ?_
        refine XS.iload Xl.here hexec rfl (hb hbytes d28) rfl ?_
        refine i2b Xl.here hexec rfl (hb hbytes d30) rfl ?_
        exact Steps.refl _)
      obtain ⟨T7, X7, p7, st7⟩ := Xl.aput hexec hBk rfl hlt rfl (fits_lo8 (cv A (o + i))) (g := (mkF m 31 #[.val (.ref b), .val (.int (Int32.ofNat (o + i))), .val (.ref d), .val (.int (Int32.ofNat (q + i))), .val (.int (Int32.ofNat len)), .val (.int (Int32.ofNat i)), .val (.int (cv A (o + i)))] [.int (lo8 (cv A (o + i))), .int (Int32.ofNat (q + i)), .ref d])) rfl (rest := []) rfl (hb hbytes d31)
      have c8 : Steps p.tables e below (s₁.setTop (entryFrame m #[.ref b, .int (Int32.ofNat o), .ref d, .int (Int32.ofNat q), .int (Int32.ofNat len)] 7)) (T7.setTop (mkF m 32 #[.val (.ref b), .val (.int (Int32.ofNat (o + i))), .val (.ref d), .val (.int (Int32.ofNat (q + i))), .val (.int (Int32.ofNat len)), .val (.int (Int32.ofNat i)), .val (.int (cv A (o + i)))] [])) := c6.trans (st7 _ (Steps.refl _))
      have c9 : Steps p.tables e below (s₁.setTop (entryFrame m #[.ref b, .int (Int32.ofNat o), .ref d, .int (Int32.ofNat q), .int (Int32.ofNat len)] 7)) (T7.setTop (mkF m 3 #[.val (.ref b), .val (.int (Int32.ofNat (o + i) + 1)), .val (.ref d), .val (.int (Int32.ofNat (q + i) + 1)), .val (.int (Int32.ofNat len)), .val (.int (Int32.ofNat i + 1)), .val (.int (cv A (o + i)))] [])) := c8.trans (by
        refine iincV X7.here hexec rfl 1 (hb hbytes d32) (by decide) rfl rfl ?_
        refine iincV X7.here hexec rfl 1 (hb hbytes d35) (by decide) rfl rfl ?_
        refine iincV X7.here hexec rfl 1 (hb hbytes d38) (by decide) rfl rfl ?_
        refine XS.goto X7.here hexec rfl (pc0 := 41) rfl (hb hbytes d41) (by decide) rfl ?_
        exact Steps.refl _)
      have c10 : Steps p.tables e below (s₁.setTop (entryFrame m #[.ref b, .int (Int32.ofNat o), .ref d, .int (Int32.ofNat q), .int (Int32.ofNat len)] 7)) (T7.setTop (mkF m 3 #[.val (.ref b), .val (.int (Int32.ofNat (o + (i + 1)))), .val (.ref d), .val (.int (Int32.ofNat (q + (i + 1)))), .val (.int (Int32.ofNat len)), .val (.int (Int32.ofNat (i + 1))), .val (.int (cv A (o + i)))] [])) := by
        have := c9
        rw [succ32, succ32, succ32] at this
        exact this
      exact ih (i + 1) (by omega) _ (Or.inr ⟨_, rfl, rfl⟩) T7 _ (by rw [copyLocs_step, ← List.append_assoc]; exact X7) (pl.trans p7) (fl.step (by omega) hlt (by simp)) c10
  obtain ⟨T9, B9, z9, X9, p9, f9, g9⟩ := loop len 0 (by omega) .unset (Or.inl rfl) s₁ B (by simpa [copyLocs] using X0) ⟨hB0.1, fun _ _ => rfl, rfl⟩ (Laid.zero _ _ _) c2
  have c11 : Steps p.tables e below (s₁.setTop (entryFrame m #[.ref b, .int (Int32.ofNat o), .ref d, .int (Int32.ofNat q), .int (Int32.ofNat len)] 7)) (T9.setTop (mkF m 46 #[.val (.ref b), .val (.int (Int32.ofNat (o + len))), .val (.ref d), .val (.int (Int32.ofNat (q + len))), .val (.int (Int32.ofNat len)), .val (.int (Int32.ofNat len)), z9] [.int (Int32.ofNat len)])) := g9.trans (by
    refine XS.iload X9.here hexec rfl (hb hbytes d3) rfl ?_
    refine XS.iload X9.here hexec rfl (hb hbytes d5) rfl ?_
    refine XS.icmpYes X9.here hexec rfl (pc0 := 7) rfl (hb hbytes d7) rfl (ii_ge_t (nlt32 (by omega) (Nat.le_refl _))) (by decide) rfl ?_
    refine XS.iload X9.here hexec rfl (hb hbytes d44) rfl ?_
    exact Steps.refl _)
  exact ⟨T9, some (.int (Int32.ofNat len)), _, _, _, X9, by simp, rfl, rfl, (fun h => by cases h), ⟨rfl, B9, p9.from hh0, f9⟩, fun fs hl => c11.trans (X9.ireturnOut hexec hret rfl (Or.inl rfl) (hb hbytes d46) hl)⟩
end Cmp5
namespace Cmp3
def yN : MethodName := ⟨"java/lang/StringUTF16", "compress", "([CII)[B"⟩
abbrev yB : ByteArray := jdk_52_method_16_code
theorem d0 : decode yB 0 = .ok (.iload_n 2, 1) := by decide +kernel
theorem d1 : decode yB 1 = .ok (.newarray .byte, 2) := by decide +kernel
theorem d3 : decode yB 3 = .ok (.astore_n 3, 1) := by decide +kernel
theorem d4 : decode yB 4 = .ok (.aload_n 0, 1) := by decide +kernel
theorem d5 : decode yB 5 = .ok (.iload_n 1, 1) := by decide +kernel
theorem d6 : decode yB 6 = .ok (.aload_n 3, 1) := by decide +kernel
theorem d7 : decode yB 7 = .ok (.iconst 0, 1) := by decide +kernel
theorem d8 : decode yB 8 = .ok (.iload_n 2, 1) := by decide +kernel
theorem d9 : decode yB 9 = .ok (.invokestatic 115, 3) := by decide +kernel
theorem d12 : decode yB 12 = .ok (.istore 4, 2) := by decide +kernel
theorem d14 : decode yB 14 = .ok (.iload 4, 2) := by decide +kernel
theorem d16 : decode yB 16 = .ok (.iload_n 2, 1) := by decide +kernel
theorem d17 : decode yB 17 = .ok (.if_icmp (.eq) 40, 3) := by decide +kernel
theorem d57 : decode yB 57 = .ok (.aload_n 3, 1) := by decide +kernel
theorem d58 : decode yB 58 = .ok (.areturn, 1) := by decide +kernel
def site : List Cond := [.arrayClass .byte, Cmp5.tab] ++ staticW U16 115 Cmp5.yN
def tab : Cond := tabOf yN yB 6 (some (.array .byte)) site
def P (b : Addr) (A : Cell) (o len : Nat) (args : Array Value) (s : State) : Prop := args = #[.ref b, .int (Int32.ofNat o), .int (Int32.ofNat len)] ∧ Ch b A s ∧ o + len ≤ A.slots.size ∧ len ≤ 536870912 ∧ ∀ i, i < len → ¬ 255 < cv A (o + i)
def E (b : Addr) (A : Cell) (o len : Nat) (r : Option Value) (s u : State) : Prop := NewArr .byte "[B" len (fun j => .int (lo8 (cv A (o + j)))) r s u ∧ u.heap.size = s.heap.size + 1
/-- no char of the range above 255: a new byte[] of their low bytes -/
theorem law (l : Launch) (b : Addr) (A : Cell) (o len : Nat) : Law l yN 3 3 1 18 yB 6 (some (.array .byte)) site (P b A o len) (E b A o len) [] 1 len := by
  refine Law.of_walk (plainFor_of_name (by decide +kernel)) (by decide +kernel) (by decide +kernel) (by decide) (fun _ _ h => by rw [h.1]; rfl) (fun _ U U' hal hh h => ⟨h.1, h.2.1.mv hal hh, h.2.2⟩) (fun r U U' V V' h1 hal h2 h => ⟨NewArr.mv r U U' V V' h1 hal h2 h.1, by rw [h1, h2]; exact h.2⟩) ?_
  intro p e s m args below meth c s₁ X0 hexec hbytes hml hret hlk hnm hown hh0 W hP
  obtain ⟨rfl, hA, l1, l2, hp⟩ := hP
  have a31 := hA.1.2.2.2
  have c1 : Steps p.tables e below (s₁.setTop (entryFrame m #[.ref b, .int (Int32.ofNat o), .int (Int32.ofNat len)] 6)) (s₁.setTop (mkF m 0 #[.val (.ref b), .val (.int (Int32.ofNat o)), .val (.int (Int32.ofNat len)), .unset, .unset, .unset] [])) := entry rfl
  have c2 : Steps p.tables e below (s₁.setTop (entryFrame m #[.ref b, .int (Int32.ofNat o), .int (Int32.ofNat len)] 6)) (s₁.setTop (mkF m 1 #[.val (.ref b), .val (.int (Int32.ofNat o)), .val (.int (Int32.ofNat len)), .unset, .unset, .unset] [.int (Int32.ofNat len)])) := c1.trans (by
    refine XS.iloadN X0.here hexec rfl (hb hbytes d0) rfl ?_
    exact Steps.refl _)
  obtain ⟨T3, B3, X3, ba3, bs3, bv3, bh3, bf3, st3⟩ := X0.anew hexec (atype := .byte) (wk W (.arrayClass .byte)) rfl (by show len * 1 ≤ _; omega) (by omega) (g := (mkF m 1 #[.val (.ref b), .val (.int (Int32.ofNat o)), .val (.int (Int32.ofNat len)), .unset, .unset, .unset] [.int (Int32.ofNat len)])) rfl (hb hbytes d1) (rest := []) rfl (Nat.le_refl _) (by show 0 + len ≤ len; omega)
  rw [hh0] at ba3 st3
  have kp3 : XT.Kept s T3 := (XT.Kept.of_eq hh0).push bh3
  have hA3 := hA.keep X3.warmed.alike (kp3 _ _ hA.1.1)
  have hne : b ≠ s.heap.size := hA.1.ne
  have c4 : Steps p.tables e below (s₁.setTop (entryFrame m #[.ref b, .int (Int32.ofNat o), .int (Int32.ofNat len)] 6)) (T3.setTop (mkF m 3 #[.val (.ref b), .val (.int (Int32.ofNat o)), .val (.int (Int32.ofNat len)), .unset, .unset, .unset] [.ref s.heap.size])) := c2.trans (st3 _ (Steps.refl _))
  have c5 : Steps p.tables e below (s₁.setTop (entryFrame m #[.ref b, .int (Int32.ofNat o), .int (Int32.ofNat len)] 6)) (T3.setTop (mkF m 9 #[.val (.ref b), .val (.int (Int32.ofNat o)), .val (.int (Int32.ofNat len)), .val (.ref s.heap.size), .unset, .unset] [.int (Int32.ofNat len), .int 0, .ref s.heap.size, .int (Int32.ofNat o), .ref b])) := c4.trans (by
    refine XS.astoreN X3.here hexec rfl (hb hbytes d3) rfl rfl rfl ?_
    refine XS.aloadN X3.here hexec rfl (hb hbytes d4) rfl rfl ?_
    refine XS.iloadN X3.here hexec rfl (hb hbytes d5) rfl ?_
    refine XS.aloadN X3.here hexec rfl (hb hbytes d6) rfl rfl ?_
    refine iconstV X3.here hexec rfl 0 (hb hbytes d7) (by decide) ?_
    refine XS.iloadN X3.here hexec rfl (hb hbytes d8) rfl ?_
    exact Steps.refl _)
  obtain ⟨v6, T6, X6, E6, g6⟩ := X3.callS hexec (Cmp5.law l b A s.heap.size B3 o 0 len) hown (wks W (staticW U16 115 Cmp5.yN)) (wk W Cmp5.tab) (W := 0) (Nat.le_of_ble_eq_true rfl) (Nat.le_of_ble_eq_true rfl) (Nat.le_refl _) (by show 0 + len + 0 ≤ len; omega) (g := (mkF m 9 #[.val (.ref b), .val (.int (Int32.ofNat o)), .val (.int (Int32.ofNat len)), .val (.ref s.heap.size), .unset, .unset] [.int (Int32.ofNat len), .int (Int32.ofNat 0), .ref s.heap.size, .int (Int32.ofNat o), .ref b])) rfl (by rw [hml]; rfl) c5 (argsL := [.ref b, .int (Int32.ofNat o), .ref s.heap.size, .int (Int32.ofNat 0), .int (Int32.ofNat len)]) (rest := []) rfl rfl (by show 2 * 0 + 0 ≤ _; decide) (hb hbytes d9) (⟨rfl, hA3, ba3, hne, l1, by rw [bs3]; simp, hp⟩)
  obtain ⟨rfl, B6, p6, f6⟩ := E6
  have c7 : Steps p.tables e below (s₁.setTop (entryFrame m #[.ref b, .int (Int32.ofNat o), .int (Int32.ofNat len)] 6)) (T6.setTop (mkF m 12 #[.val (.ref b), .val (.int (Int32.ofNat o)), .val (.int (Int32.ofNat len)), .val (.ref s.heap.size), .unset, .unset] [.int (Int32.ofNat len)])) := g6
  have c8 : Steps p.tables e below (s₁.setTop (entryFrame m #[.ref b, .int (Int32.ofNat o), .int (Int32.ofNat len)] 6)) (T6.setTop (mkF m 58 #[.val (.ref b), .val (.int (Int32.ofNat o)), .val (.int (Int32.ofNat len)), .val (.ref s.heap.size), .val (.int (Int32.ofNat len)), .unset] [.ref s.heap.size])) := c7.trans (by
    refine XS.istore X6.here hexec rfl (hb hbytes d12) rfl rfl ?_
    refine XS.iload X6.here hexec rfl (hb hbytes d14) rfl ?_
    refine XS.iloadN X6.here hexec rfl (hb hbytes d16) rfl ?_
    refine XS.icmpYes X6.here hexec rfl (pc0 := 17) rfl (hb hbytes d17) rfl (ii_eq_t rfl) (by decide) rfl ?_
    refine XS.aloadN X6.here hexec rfl (hb hbytes d57) rfl rfl ?_
    exact Steps.refl _)
  have X8 := X6.wide (L' := []) (cells' := 1) (slots' := len) (fun x hx hlt => by
    simp only [List.nil_append, copyLocs, List.mem_map, List.mem_range] at hx
    obtain ⟨i, -, rfl⟩ := hx
    exact absurd hlt (Nat.lt_irrefl _)) (Nat.le_refl _) (by omega)
  exact ⟨T6, some (.ref s.heap.size), _, _, _, X8, rfl, rfl, rfl, (fun h => by cases h), ⟨⟨rfl, B6, ba3.like (X3.warmed.alike.symm.trans X6.warmed.alike) p6.1 f6.1 f6.2.1 f6.2.2.1, f6.2.1.trans bv3, by rw [X6.warmed.alike.findClass, f6.1]; exact bf3, by rw [f6.2.2.1, bs3]; simp, fun j hj => by rw [f6.2.2.2 j, if_pos (by omega)]; rfl, kp3.put p6 (Nat.le_refl _)⟩, by rw [p6.2.2, bh3, hh0]; simp⟩, fun fs hl => c8.trans (X8.areturnOut hexec rfl hret rfl (hb hbytes d58) hl)⟩
end Cmp3
namespace CodL
def yN : MethodName := ⟨"java/lang/StringUTF16", "coderFromArrayLen", "([BI)B"⟩
abbrev yB : ByteArray := jdk_52_method_15_code
theorem d0 : decode yB 0 = .ok (.iload_n 1, 1) := by decide +kernel
theorem d1 : decode yB 1 = .ok (.aload_n 0, 1) := by decide +kernel
theorem d2 : decode yB 2 = .ok (.arraylength, 1) := by decide +kernel
theorem d3 : decode yB 3 = .ok (.isub, 1) := by decide +kernel
theorem d4 : decode yB 4 = .ok (.bipush 31, 2) := by decide +kernel
theorem d6 : decode yB 6 = .ok (.iushr, 1) := by decide +kernel
theorem d7 : decode yB 7 = .ok (.i2b, 1) := by decide +kernel
theorem d8 : decode yB 8 = .ok (.ireturn, 1) := by decide +kernel
def site : List Cond := []
def tab : Cond := tabOf yN yB 2 (some .byte) site
def P (d : Addr) (B : Cell) (args : Array Value) (s : State) : Prop := args = #[.ref d, .int (Int32.ofNat B.slots.size)] ∧ Arr .byte d B s
def E (r : Option Value) (s u : State) : Prop := XT.PureE (some (.int 0)) r s u
/-- an array as long as the number of chars: LATIN1 -/
theorem law (l : Launch) (d : Addr) (B : Cell) : Law l yN 2 2 0 0 yB 2 (some .byte) site (P d B) E [] 0 0 := by
  refine Law.of_walk (plainFor_of_name (by decide +kernel)) (by decide +kernel) (by decide +kernel) (by decide) (fun _ _ h => by rw [h.1]; rfl) (fun _ U U' hal hh h => ⟨h.1, h.2.mv hal hh⟩) (fun r U U' V V' h1 hal h2 h => XT.PureE.mv r U U' V V' h1 hal h2 h) ?_
  intro p e s m args below meth c s₁ X0 hexec hbytes hml hret hlk hnm hown hh0 W hP
  obtain ⟨rfl, hB⟩ := hP
  have hB0 := hB.mv X0.warmed.alike hh0
  have c1 : Steps p.tables e below (s₁.setTop (entryFrame m #[.ref d, .int (Int32.ofNat B.slots.size)] 2)) (s₁.setTop (mkF m 0 #[.val (.ref d), .val (.int (Int32.ofNat B.slots.size))] [])) := entry rfl
  have c2 : Steps p.tables e below (s₁.setTop (entryFrame m #[.ref d, .int (Int32.ofNat B.slots.size)] 2)) (s₁.setTop (mkF m 2 #[.val (.ref d), .val (.int (Int32.ofNat B.slots.size))] [.ref d, .int (Int32.ofNat B.slots.size)])) := c1.trans (by
    refine XS.iloadN X0.here hexec rfl (hb hbytes d0) rfl ?_
    refine XS.aloadN X0.here hexec rfl (hb hbytes d1) rfl rfl ?_
    exact Steps.refl _)
  have c3 : Steps p.tables e below (s₁.setTop (entryFrame m #[.ref d, .int (Int32.ofNat B.slots.size)] 2)) (s₁.setTop (mkF m 8 #[.val (.ref d), .val (.int (Int32.ofNat B.slots.size))] [.int (lo8 (ushr (Int32.ofNat B.slots.size - Int32.ofNat B.slots.size) 31))])) := c2.trans (by
    refine X0.alen hexec hB0 rfl rfl (hb hbytes d2) ?_
    refine XS.isub X0.here hexec rfl (hb hbytes d3) rfl ?_
    refine bipushV X0.here hexec rfl 31 (hb hbytes d4) (by decide) ?_
    refine iushr X0.here hexec rfl (hb hbytes d6) rfl ?_
    refine i2b X0.here hexec rfl (hb hbytes d7) rfl ?_
    exact Steps.refl _)
  have e0 : lo8 (ushr (Int32.ofNat B.slots.size - Int32.ofNat B.slots.size) 31) = 0 := by rw [Int32.sub_self]; decide
  rw [e0] at c3
  exact ⟨s₁, some (.int 0), _, _, _, X0, rfl, rfl, rfl, (fun h => by cases h), ⟨rfl, hh0⟩, fun fs hl => c3.trans (X0.ireturnOut hexec hret rfl (Or.inr (Or.inr (Or.inl rfl))) (hb hbytes d8) hl)⟩
end CodL
/-- the String at a is Latin-1 over a new byte[] (the heap's one new cell): the low bytes of the len chars of A from o on; every cell but a is kept -/
def Got (a : Addr) (D : Cell) (fV fC : Field) (A : Cell) (o len : Nat) (r : Option Value) (s u : State) : Prop := r = none ∧ ∃ D' V : Cell, Blank "java/lang/String" a D' u ∧ Same D D' [fV.slot, fC.slot] ∧ D'.slots[fV.slot]? = some (.ref s.heap.size) ∧ D'.slots[fC.slot]? = some (.int 0) ∧ Arr .byte s.heap.size V u ∧ V.vm = .none ∧ u.vm.findClass "[B" = some V.cls ∧ V.slots.size = len ∧ (∀ j, j < len → V.slots[j]? = some (.int (lo8 (cv A (o + j))))) ∧ (∀ (y : Addr) (c : Cell), y ≠ a → s.heap[y]? = some c → u.heap[y]? = some c) ∧ u.heap.size = s.heap.size + 1
theorem Got.mv {a : Addr} {D A : Cell} {fV fC : Field} {o len : Nat} : ∀ r (U U' V V' : State), U'.heap = U.heap → V.vm.Alike V'.vm → V'.heap = V.heap → Got a D fV fC A o len r U V → Got a D fV fC A o len r U' V' :=
  fun r U U' V V' h1 hal h2 ⟨e0, D', X, a1, a2, a3, a4, a5, a6, a7, a8, a9, a10, a11⟩ => ⟨e0, D', X, a1.mv hal h2, a2, by rw [h1]; exact a3, a4, by rw [h1]; exact a5.mv hal h2, a6, by rw [hal.findClass]; exact a7, a8, a9, by rw [h1, h2]; exact a10, by rw [h1, h2]; exact a11⟩
namespace New4
def yN : MethodName := ⟨"java/lang/String", "<init>", "([CIILjava/lang/Void;)V"⟩
abbrev yB : ByteArray := jdk_42_method_149_code
theorem d0 : decode yB 0 = .ok (.aload_n 0, 1) := by decide +kernel
theorem d1 : decode yB 1 = .ok (.invokespecial 1, 3) := by decide +kernel
theorem d4 : decode yB 4 = .ok (.iload_n 3, 1) := by decide +kernel
theorem d5 : decode yB 5 = .ok (.ifCond (.ne) 22, 3) := by decide +kernel
theorem d27 : decode yB 27 = .ok (.getstatic 38, 3) := by decide +kernel
theorem d30 : decode yB 30 = .ok (.ifCond (.eq) 28, 3) := by decide +kernel
theorem d33 : decode yB 33 = .ok (.aload_n 1, 1) := by decide +kernel
theorem d34 : decode yB 34 = .ok (.iload_n 2, 1) := by decide +kernel
theorem d35 : decode yB 35 = .ok (.iload_n 3, 1) := by decide +kernel
theorem d36 : decode yB 36 = .ok (.invokestatic 177, 3) := by decide +kernel
theorem d39 : decode yB 39 = .ok (.astore 5, 2) := by decide +kernel
theorem d41 : decode yB 41 = .ok (.aload_n 0, 1) := by decide +kernel
theorem d42 : decode yB 42 = .ok (.aload 5, 2) := by decide +kernel
theorem d44 : decode yB 44 = .ok (.iload_n 3, 1) := by decide +kernel
theorem d45 : decode yB 45 = .ok (.invokestatic 47, 3) := by decide +kernel
theorem d48 : decode yB 48 = .ok (.putfield 15, 3) := by decide +kernel
theorem d51 : decode yB 51 = .ok (.aload_n 0, 1) := by decide +kernel
theorem d52 : decode yB 52 = .ok (.aload 5, 2) := by decide +kernel
theorem d54 : decode yB 54 = .ok (.putfield 9, 3) := by decide +kernel
theorem d57 : decode yB 57 = .ok (.return_, 1) := by decide +kernel
def site : List Cond := [.fieldLink "java/lang/String" 38 "java/lang/String" "COMPACT_STRINGS" "Z", Cmp3.tab, CodL.tab, .laysFinal "java/lang/String" "java/lang/String" "value" "[B", .fieldLink "java/lang/String" 9 "java/lang/String" "value" "[B", .laysFinal "java/lang/String" "java/lang/String" "coder" "B", .fieldLink "java/lang/String" 15 "java/lang/String" "coder" "B"] ++ objW "java/lang/String" 1 ++ staticW "java/lang/String" 177 Cmp3.yN ++ staticW "java/lang/String" 47 CodL.yN
def tab : Cond := tabOf yN yB 6 none site
def P (a : Addr) (D : Cell) (fV fC : Field) (b : Addr) (A : Cell) (z : Int32) (o len : Nat) (args : Array Value) (s : State) : Prop := args = #[.ref a, .ref b, .int (Int32.ofNat o), .int (Int32.ofNat len), .null] ∧ Blank "java/lang/String" a D s ∧ Found "java/lang/String" "value" "[B" fV s ∧ Found "java/lang/String" "coder" "B" fC s ∧ Ch b A s ∧ StaticIs s "java/lang/String" "COMPACT_STRINGS" "Z" (.int z) ∧ ¬ z = 0 ∧ 0 < len ∧ o + len ≤ A.slots.size ∧ len ≤ 536870912 ∧ ∀ i, i < len → ¬ 255 < cv A (o + i)
def E (a : Addr) (D : Cell) (fV fC : Field) (A : Cell) (o len : Nat) (r : Option Value) (s u : State) : Prop := Got a D fV fC A o len r s u
/-- len > 0, no char of the range above 255: a Latin-1 String of their low bytes -/
theorem law (l : Launch) (a : Addr) (D : Cell) (fV fC : Field) (b : Addr) (A : Cell) (z : Int32) (o len : Nat) : Law l yN 5 4 2 35 yB 6 none site (P a D fV fC b A z o len) (E a D fV fC A o len) [⟨a, fC.slot⟩, ⟨a, fV.slot⟩] 1 len := by
  refine Law.of_walk (plainFor_of_name (by decide +kernel)) (by decide +kernel) (by decide +kernel) (by decide) (fun _ _ h => by rw [h.1]; rfl) (fun _ U U' hal hh h => ⟨h.1, h.2.1.mv hal hh, h.2.2.1.al hal, h.2.2.2.1.al hal, h.2.2.2.2.1.mv hal hh, h.2.2.2.2.2.1.there hal hh, h.2.2.2.2.2.2⟩) (fun r U U' V V' h1 hal h2 h => Got.mv r U U' V V' h1 hal h2 h) ?_
  intro p e s m args below meth c s₁ X0 hexec hbytes hml hret hlk hnm hown hh0 W hP
  obtain ⟨rfl, hB, f1, f2, hA, s1, hz, l0, l1, l2, hp⟩ := hP
  have a31 := hA.1.2.2.2
  have c1 : Steps p.tables e below (s₁.setTop (entryFrame m #[.ref a, .ref b, .int (Int32.ofNat o), .int (Int32.ofNat len), .null] 6)) (s₁.setTop (mkF m 0 #[.val (.ref a), .val (.ref b), .val (.int (Int32.ofNat o)), .val (.int (Int32.ofNat len)), .val .null, .unset] [])) := entry rfl
  have c2 : Steps p.tables e below (s₁.setTop (entryFrame m #[.ref a, .ref b, .int (Int32.ofNat o), .int (Int32.ofNat len), .null] 6)) (s₁.setTop (mkF m 1 #[.val (.ref a), .val (.ref b), .val (.int (Int32.ofNat o)), .val (.int (Int32.ofNat len)), .val .null, .unset] [.ref a])) := c1.trans (by
    refine XS.aloadN X0.here hexec rfl (hb hbytes d0) rfl rfl ?_
    exact Steps.refl _)
  obtain ⟨T3, X3, q3, st3⟩ := X0.oinit hexec hown (wks W (objW "java/lang/String" 1)) (g := (mkF m 1 #[.val (.ref a), .val (.ref b), .val (.int (Int32.ofNat o)), .val (.int (Int32.ofNat len)), .val .null, .unset] [.ref a])) rfl (by rw [hml]; rfl) (rest := []) rfl (hb hbytes d1) (W := 0) (by show 2 * 0 + 0 ≤ _; decide) (Nat.le_of_ble_eq_true rfl) (Nat.le_of_ble_eq_true rfl)
  have hh3 := q3.trans hh0
  have c4 : Steps p.tables e below (s₁.setTop (entryFrame m #[.ref a, .ref b, .int (Int32.ofNat o), .int (Int32.ofNat len), .null] 6)) (T3.setTop (mkF m 27 #[.val (.ref a), .val (.ref b), .val (.int (Int32.ofNat o)), .val (.int (Int32.ofNat len)), .val .null, .unset] [])) := (c2.trans (st3 _ (Steps.refl _))).trans (by
    refine XS.iloadN X3.here hexec rfl (hb hbytes d4) rfl ?_
    refine XS.ifYes X3.here hexec rfl (pc0 := 5) rfl (hb hbytes d5) rfl (i0_ne_t (nz32 (by omega) l0)) (by decide) rfl ?_
    exact Steps.refl _)
  obtain ⟨T5, X5, q5, st5⟩ := X3.sget hexec hown (wk W (.fieldLink "java/lang/String" 38 "java/lang/String" "COMPACT_STRINGS" "Z")) s1 (fun _ _ h => by rw [hh3]; exact h) (g := (mkF m 27 #[.val (.ref a), .val (.ref b), .val (.int (Int32.ofNat o)), .val (.int (Int32.ofNat len)), .val .null, .unset] [])) rfl (hb hbytes d27)
  have hh5 := q5.trans hh3
  have c6 : Steps p.tables e below (s₁.setTop (entryFrame m #[.ref a, .ref b, .int (Int32.ofNat o), .int (Int32.ofNat len), .null] 6)) (T5.setTop (mkF m 30 #[.val (.ref a), .val (.ref b), .val (.int (Int32.ofNat o)), .val (.int (Int32.ofNat len)), .val .null, .unset] [.int z])) := c4.trans (st5 _ (Steps.refl _))
  have c7 : Steps p.tables e below (s₁.setTop (entryFrame m #[.ref a, .ref b, .int (Int32.ofNat o), .int (Int32.ofNat len), .null] 6)) (T5.setTop (mkF m 36 #[.val (.ref a), .val (.ref b), .val (.int (Int32.ofNat o)), .val (.int (Int32.ofNat len)), .val .null, .unset] [.int (Int32.ofNat len), .int (Int32.ofNat o), .ref b])) := c6.trans (by
    refine XS.ifNo X5.here hexec rfl (hb hbytes d30) rfl (i0_eq_f hz) ?_
    refine XS.aloadN X5.here hexec rfl (hb hbytes d33) rfl rfl ?_
    refine XS.iloadN X5.here hexec rfl (hb hbytes d34) rfl ?_
    refine XS.iloadN X5.here hexec rfl (hb hbytes d35) rfl ?_
    exact Steps.refl _)
  obtain ⟨v8, T8, X8, E8, g8⟩ := X5.callS hexec (Cmp3.law l b A o len) hown (wks W (staticW "java/lang/String" 177 Cmp3.yN)) (wk W Cmp3.tab) (W := 0) (Nat.le_of_ble_eq_true rfl) (Nat.le_of_ble_eq_true rfl) (Nat.le_refl _) (by show 0 + len ≤ len; omega) (g := (mkF m 36 #[.val (.ref a), .val (.ref b), .val (.int (Int32.ofNat o)), .val (.int (Int32.ofNat len)), .val .null, .unset] [.int (Int32.ofNat len), .int (Int32.ofNat o), .ref b])) rfl (by rw [hml]; rfl) c7 (argsL := [.ref b, .int (Int32.ofNat o), .int (Int32.ofNat len)]) (rest := []) rfl rfl (by show 2 * 0 + 0 ≤ _; decide) (hb hbytes d36) (⟨rfl, hA.mv X5.warmed.alike hh5, l1, l2, hp⟩)
  obtain ⟨e8, z8⟩ := E8
  obtain ⟨rfl, N, n1, n2, n3, n4, n5, n6⟩ := NewArr.mv _ T5 s _ _ hh5.symm (Vm.Alike.refl _) rfl e8
  rw [hh5] at z8
  have hB1 := hB.keep X8.warmed.alike (n6 _ _ hB.1)
  have hne : s.heap.size ≠ a := (Nat.ne_of_lt (Array.getElem?_eq_some_iff.mp hB.1).1).symm
  have c9 : Steps p.tables e below (s₁.setTop (entryFrame m #[.ref a, .ref b, .int (Int32.ofNat o), .int (Int32.ofNat len), .null] 6)) (T8.setTop (mkF m 39 #[.val (.ref a), .val (.ref b), .val (.int (Int32.ofNat o)), .val (.int (Int32.ofNat len)), .val .null, .unset] [.ref s.heap.size])) := g8
  have c10 : Steps p.tables e below (s₁.setTop (entryFrame m #[.ref a, .ref b, .int (Int32.ofNat o), .int (Int32.ofNat len), .null] 6)) (T8.setTop (mkF m 45 #[.val (.ref a), .val (.ref b), .val (.int (Int32.ofNat o)), .val (.int (Int32.ofNat len)), .val .null, .val (.ref s.heap.size)] [.int (Int32.ofNat N.slots.size), .ref s.heap.size, .ref a])) := by
    have hc : Steps p.tables e below (s₁.setTop (entryFrame m #[.ref a, .ref b, .int (Int32.ofNat o), .int (Int32.ofNat len), .null] 6)) (T8.setTop (mkF m 45 #[.val (.ref a), .val (.ref b), .val (.int (Int32.ofNat o)), .val (.int (Int32.ofNat len)), .val .null, .val (.ref s.heap.size)] [.int (Int32.ofNat len), .ref s.heap.size, .ref a])) := c9.trans (by
      refine XS.astore X8.here hexec rfl (hb hbytes d39) rfl rfl rfl ?_
      refine XS.aloadN X8.here hexec rfl (hb hbytes d41) rfl rfl ?_
      refine XS.aload X8.here hexec rfl (hb hbytes d42) rfl rfl ?_
      refine XS.iloadN X8.here hexec rfl (hb hbytes d44) rfl ?_
      exact Steps.refl _)
    rw [n4]; exact hc
  obtain ⟨v11, T11, X11, E11, g11⟩ := X8.callS hexec (CodL.law l s.heap.size N) hown (wks W (staticW "java/lang/String" 47 CodL.yN)) (wk W CodL.tab) (W := 1) (Nat.le_of_ble_eq_true rfl) (Nat.le_of_ble_eq_true rfl) (Nat.le_refl _) (by show 0 + len + 0 ≤ len; omega) (g := (mkF m 45 #[.val (.ref a), .val (.ref b), .val (.int (Int32.ofNat o)), .val (.int (Int32.ofNat len)), .val .null, .val (.ref s.heap.size)] [.int (Int32.ofNat N.slots.size), .ref s.heap.size, .ref a])) rfl (by rw [hml]; rfl) c10 (argsL := [.ref s.heap.size, .int (Int32.ofNat N.slots.size)]) (rest := [.ref a]) rfl rfl (by show 2 * 0 + (1 + 0) ≤ _; decide) (hb hbytes d45) (⟨rfl, n1⟩)
  obtain ⟨rfl, q11⟩ := E11
  have hB11 := hB1.mv (X8.warmed.alike.symm.trans X11.warmed.alike) q11
  have c12 : Steps p.tables e below (s₁.setTop (entryFrame m #[.ref a, .ref b, .int (Int32.ofNat o), .int (Int32.ofNat len), .null] 6)) (T11.setTop (mkF m 48 #[.val (.ref a), .val (.ref b), .val (.int (Int32.ofNat o)), .val (.int (Int32.ofNat len)), .val .null, .val (.ref s.heap.size)] [.int 0, .ref a])) := g11
  obtain ⟨T13, X13, p13, bl13, sl13, st13⟩ := X11.finit hexec hown (wk W (.fieldLink "java/lang/String" 15 "java/lang/String" "coder" "B")) (Or.inr ⟨_, (wk W (.laysFinal "java/lang/String" "java/lang/String" "coder" "B"))⟩) (Or.inl ⟨rfl, hnm⟩) f2 (Or.inl rfl) hB11 (t := .byte) (by decide +kernel) rfl (g := (mkF m 48 #[.val (.ref a), .val (.ref b), .val (.int (Int32.ofNat o)), .val (.int (Int32.ofNat len)), .val .null, .val (.ref s.heap.size)] [.int 0, .ref a])) rfl (rest := []) rfl (hb hbytes d48)
  have c14 : Steps p.tables e below (s₁.setTop (entryFrame m #[.ref a, .ref b, .int (Int32.ofNat o), .int (Int32.ofNat len), .null] 6)) (T13.setTop (mkF m 54 #[.val (.ref a), .val (.ref b), .val (.int (Int32.ofNat o)), .val (.int (Int32.ofNat len)), .val .null, .val (.ref s.heap.size)] [.ref s.heap.size, .ref a])) := (c12.trans (st13 _ (Steps.refl _))).trans (by
    refine XS.aloadN X13.here hexec rfl (hb hbytes d51) rfl rfl ?_
    refine XS.aload X13.here hexec rfl (hb hbytes d52) rfl rfl ?_
    exact Steps.refl _)
  obtain ⟨T15, X15, p15, bl15, sl15, st15⟩ := X13.finit hexec hown (wk W (.fieldLink "java/lang/String" 9 "java/lang/String" "value" "[B")) (Or.inr ⟨_, (wk W (.laysFinal "java/lang/String" "java/lang/String" "value" "[B"))⟩) (Or.inl ⟨rfl, hnm⟩) f1 (Or.inl rfl) bl13 (t := (.array .byte)) (by decide +kernel) rfl (g := (mkF m 54 #[.val (.ref a), .val (.ref b), .val (.int (Int32.ofNat o)), .val (.int (Int32.ofNat len)), .val .null, .val (.ref s.heap.size)] [.ref s.heap.size, .ref a])) rfl (rest := []) rfl (hb hbytes d54)
  have c16 : Steps p.tables e below (s₁.setTop (entryFrame m #[.ref a, .ref b, .int (Int32.ofNat o), .int (Int32.ofNat len), .null] 6)) (T15.setTop (mkF m 57 #[.val (.ref a), .val (.ref b), .val (.int (Int32.ofNat o)), .val (.int (Int32.ofNat len)), .val .null, .val (.ref s.heap.size)] [])) := c14.trans (st15 _ (Steps.refl _))
  have ap := apart (Or.inr ⟨_, (wk W (.laysFinal "java/lang/String" "java/lang/String" "value" "[B"))⟩) (Or.inr ⟨_, (wk W (.laysFinal "java/lang/String" "java/lang/String" "coder" "B"))⟩) f1 f2 (t₁ := .array .byte) (t₂ := .byte) (by decide +kernel) (by decide +kernel) (by decide)
  have al := X8.warmed.alike.symm.trans X15.warmed.alike
  have n7 : T11.heap[s.heap.size]? = some N := by rw [q11]; exact n1.1
  exact ⟨T15, none, _, _, _, X15, by simp, rfl, by omega, (fun _ => rfl), ⟨rfl, _, N, bl15, ((Same.refl D _).set _ (by simp)).set _ (by simp), sl15, (Cell.slots_setSlot_ne _ ap).trans sl13, n1.keep al (p15.other hne (p13.other hne n7)), n2, by rw [al.findClass]; exact n3, n4, n5, fun y c h1 h2 => p15.other h1 (p13.other h1 (by rw [q11]; exact n6 y c h2)), by rw [p15.2.2, p13.2.2, q11]; exact z8⟩, fun fs hl => c16.trans (X15.returnOut hexec hret (hb hbytes d57) hl)⟩
end New4
namespace New1
def yN : MethodName := ⟨"java/lang/String", "<init>", "([C)V"⟩
abbrev yB : ByteArray := jdk_42_method_3_code
theorem d0 : decode yB 0 = .ok (.aload_n 0, 1) := by decide +kernel
theorem d1 : decode yB 1 = .ok (.aload_n 1, 1) := by decide +kernel
theorem d2 : decode yB 2 = .ok (.iconst 0, 1) := by decide +kernel
theorem d3 : decode yB 3 = .ok (.aload_n 1, 1) := by decide +kernel
theorem d4 : decode yB 4 = .ok (.arraylength, 1) := by decide +kernel
theorem d5 : decode yB 5 = .ok (.aconst_null, 1) := by decide +kernel
theorem d6 : decode yB 6 = .ok (.invokespecial 27, 3) := by decide +kernel
theorem d9 : decode yB 9 = .ok (.return_, 1) := by decide +kernel
def site : List Cond := [New4.tab] ++ initW "java/lang/String" 27 New4.yN
def tab : Cond := tabOf yN yB 2 none site
def P (a : Addr) (D : Cell) (fV fC : Field) (b : Addr) (A : Cell) (z : Int32) (args : Array Value) (s : State) : Prop := args = #[.ref a, .ref b] ∧ Blank "java/lang/String" a D s ∧ Found "java/lang/String" "value" "[B" fV s ∧ Found "java/lang/String" "coder" "B" fC s ∧ Ch b A s ∧ StaticIs s "java/lang/String" "COMPACT_STRINGS" "Z" (.int z) ∧ ¬ z = 0 ∧ 0 < A.slots.size ∧ A.slots.size ≤ 536870912 ∧ ∀ i, i < A.slots.size → ¬ 255 < cv A i
def E (a : Addr) (D : Cell) (fV fC : Field) (A : Cell) (r : Option Value) (s u : State) : Prop := Got a D fV fC A 0 A.slots.size r s u
/-- new String(chars), not empty, no char above 255: a Latin-1 String of their low bytes -/
theorem law (l : Launch) (a : Addr) (D : Cell) (fV fC : Field) (b : Addr) (A : Cell) (z : Int32) : Law l yN 2 1 3 52 yB 2 none site (P a D fV fC b A z) (E a D fV fC A) [⟨a, fC.slot⟩, ⟨a, fV.slot⟩] 1 A.slots.size := by
  refine Law.of_walk (plainFor_of_name (by decide +kernel)) (by decide +kernel) (by decide +kernel) (by decide) (fun _ _ h => by rw [h.1]; rfl) (fun _ U U' hal hh h => ⟨h.1, h.2.1.mv hal hh, h.2.2.1.al hal, h.2.2.2.1.al hal, h.2.2.2.2.1.mv hal hh, h.2.2.2.2.2.1.there hal hh, h.2.2.2.2.2.2⟩) (fun r U U' V V' h1 hal h2 h => Got.mv r U U' V V' h1 hal h2 h) ?_
  intro p e s m args below meth c s₁ X0 hexec hbytes hml hret hlk hnm hown hh0 W hP
  obtain ⟨rfl, hB, f1, f2, hA, s1, hz, l0, l2, hp⟩ := hP
  have c1 : Steps p.tables e below (s₁.setTop (entryFrame m #[.ref a, .ref b] 2)) (s₁.setTop (mkF m 0 #[.val (.ref a), .val (.ref b)] [])) := entry rfl
  have c2 : Steps p.tables e below (s₁.setTop (entryFrame m #[.ref a, .ref b] 2)) (s₁.setTop (mkF m 6 #[.val (.ref a), .val (.ref b)] [.null, .int (Int32.ofNat A.slots.size), .int 0, .ref b, .ref a])) := c1.trans (by
    refine XS.aloadN X0.here hexec rfl (hb hbytes d0) rfl rfl ?_
    refine XS.aloadN X0.here hexec rfl (hb hbytes d1) rfl rfl ?_
    refine iconstV X0.here hexec rfl 0 (hb hbytes d2) (by decide) ?_
    refine XS.aloadN X0.here hexec rfl (hb hbytes d3) rfl rfl ?_
    refine X0.alen hexec (hA.1.mv X0.warmed.alike hh0) rfl rfl (hb hbytes d4) ?_
    refine XS.aconstNull X0.here hexec rfl (hb hbytes d5) ?_
    exact Steps.refl _)
  obtain ⟨v3, T3, X3, E3, g3⟩ := X0.callN hexec (New4.law l a D fV fC b A z 0 A.slots.size) rfl hown (wks W (initW "java/lang/String" 27 New4.yN)) (W New4.tab (by simp only [site, List.mem_cons, List.mem_append, true_or, or_true])) (W := 0) (Nat.le_of_ble_eq_true rfl) (Nat.le_of_ble_eq_true rfl) (Nat.le_refl _) (by show 0 + A.slots.size ≤ A.slots.size; omega) (g := (mkF m 6 #[.val (.ref a), .val (.ref b)] [.null, .int (Int32.ofNat A.slots.size), .int (Int32.ofNat 0), .ref b, .ref a])) rfl (by rw [hml]; rfl) c2 (argsL := [.ref b, .int (Int32.ofNat 0), .int (Int32.ofNat A.slots.size), .null]) (rest := []) rfl rfl (by show 2 * 0 + 0 ≤ _; decide) (hb hbytes d6) (⟨rfl, hB.mv X0.warmed.alike hh0, f1.al X0.warmed.alike, f2.al X0.warmed.alike, hA.mv X0.warmed.alike hh0, s1.there X0.warmed.alike hh0, hz, l0, by omega, l2, fun i hi => by rw [Nat.zero_add]; exact hp i hi⟩)
  have e0 := Got.mv _ s₁ s _ _ hh0.symm (Vm.Alike.refl _) rfl E3
  obtain rfl := e0.1
  have c4 : Steps p.tables e below (s₁.setTop (entryFrame m #[.ref a, .ref b] 2)) (T3.setTop (mkF m 9 #[.val (.ref a), .val (.ref b)] [])) := g3
  exact ⟨T3, none, _, _, _, X3, by simp, rfl, by omega, (fun _ => rfl), e0, fun fs hl => c4.trans (X3.returnOut hexec hret (hb hbytes d9) hl)⟩
theorem pays {l : Launch} {R : Room} {p : Program} {e : Env} {below : List Frame} {s : State} {sargs : Array Value} {len W : Nat} (a : Addr) (D : Cell) (fV fC : Field) (b : Addr) (A : Cell) (z : Int32) (htab : tab.before sargs s = true) (hfr : 4 ≤ R.frames) (hlo : W + 65 ≤ R.locals) :
    Back l R p e below s sargs yN len W (fun A₁ a₁ => A₁.cells + 1 ≤ R.cells ∧ A₁.slots + A.slots.size ≤ R.slots ∧ P a D fV fC b A z a₁ A₁.U) (fun A₁ _ v₁ B₁ => E a D fV fC A v₁ A₁.U B₁.U ∧ B₁.locs = A₁.locs ++ [⟨a, fC.slot⟩, ⟨a, fV.slot⟩] ∧ B₁.cells = A₁.cells + 1 ∧ B₁.slots = A₁.slots + A.slots.size) :=
  (law l a D fV fC b A z).pays htab hfr (by omega)
end New1
/-- the byte, read back as charAt reads it, is the char -/
theorem lo8_mask {x : Int32} (h0 : ¬ x < 0) (h1 : ¬ 255 < x) : lo8 x &&& 255 = x := by
  have t : ∀ k : Fin 256, lo8 (Int32.ofNat k.val) &&& 255 = Int32.ofNat k.val := by decide +kernel
  rw [Int32.lt_iff_toInt_lt] at h0 h1
  have e0 : (0 : Int32).toInt = 0 := rfl
  have e1 : (255 : Int32).toInt = 255 := rfl
  obtain ⟨k, hk⟩ : ∃ k : Nat, x.toInt = k := ⟨x.toInt.toNat, by omega⟩
  have hx : x = Int32.ofNat k := Int32.toInt_inj.mp (by rw [hk, Int32.toInt_ofNat_small (by omega)])
  rw [hx]
  exact t ⟨k, by omega⟩
end StrChars
namespace StrChars.Road
open Jvm Sem ClassFile Op Lib Jvm.Stand Jvm.Free Jvm.Free.XT
open Jvm.Lib.Cold (StaticIs)
abbrev ST : String := "java/lang/String"
/-- every table word that New1's law asks, flat -/
abbrev words : List Jvm.Cond := [.code New1.yN New1.yB 2 none, .initialized ST, .methodLink ST 27 New4.yN, .instanceMethod New4.yN,
  .code New4.yN New4.yB 6 none, .fieldLink ST 38 ST "COMPACT_STRINGS" "Z", .laysFinal ST ST "value" "[B", .fieldLink ST 9 ST "value" "[B", .laysFinal ST ST "coder" "B", .fieldLink ST 15 ST "coder" "B",
  .methodLink ST 1 Lib.objectInit, .instanceMethod Lib.objectInit, .code Lib.objectInit ⟨#[0xb1]⟩ 1 none, .methodLink ST 177 Cmp3.yN, .static Cmp3.yN, .methodLink ST 47 CodL.yN, .static CodL.yN,
  .code Cmp3.yN Cmp3.yB 6 (some (.array .byte)), .initialized U16, .arrayClass .byte, .methodLink U16 115 Cmp5.yN, .static Cmp5.yN, .code Cmp5.yN Cmp5.yB 7 (some .int), .code CodL.yN CodL.yB 2 (some .byte)]
theorem tab_of {a : Array Value} {s : State} (h : ∀ w ∈ words, w.before a s = true) : New1.tab.before a s = true := by
  have h5 : Cmp5.tab.before a s = true := unparts (wk h (.code Cmp5.yN Cmp5.yB 7 (some .int))) (wks h (.initialized Cmp5.yN.cls :: Cmp5.site))
  have hc : CodL.tab.before a s = true := unparts (wk h (.code CodL.yN CodL.yB 2 (some .byte))) (wks h (.initialized CodL.yN.cls :: CodL.site))
  have q5 : ∀ w ∈ Cmp5.tab :: words, w.before a s = true := fun w hw => (List.mem_cons.mp hw).elim (fun e => e ▸ h5) (h w)
  have h3 : Cmp3.tab.before a s = true := unparts (wk q5 (.code Cmp3.yN Cmp3.yB 6 (some (.array .byte)))) (wks q5 (.initialized Cmp3.yN.cls :: Cmp3.site))
  have q3 : ∀ w ∈ Cmp3.tab :: CodL.tab :: words, w.before a s = true := fun w hw => (List.mem_cons.mp hw).elim (fun e => e ▸ h3) fun hw => (List.mem_cons.mp hw).elim (fun e => e ▸ hc) (h w)
  have h4 : New4.tab.before a s = true := unparts (wk q3 (.code New4.yN New4.yB 6 none)) (wks q3 (.initialized New4.yN.cls :: New4.site))
  have q4 : ∀ w ∈ New4.tab :: words, w.before a s = true := fun w hw => (List.mem_cons.mp hw).elim (fun e => e ▸ h4) (h w)
  exact unparts (wk q4 (.code New1.yN New1.yB 2 none)) (wks q4 (.initialized New1.yN.cls :: New1.site))
/-- the words ride from the start Z to the walk's own state -/
theorem moved {Z s : State} {a0 args : Array Value} (hZ : Z.Warmed39 s.vm) (hw : ∀ d ∈ words, d.before a0 Z = true) : ∀ d ∈ words, d.before args s = true := fun d hd => by
  have q := hw d hd
  have t : ∀ d ∈ words, d = .arrayClass .byte ∨ (d.onTables && d.keepsFace) = true := by decide +kernel
  rcases t d hd with rfl | t
  · exact RoadKit.mvA hZ q
  · exact RoadKit.mv hZ q t
/-- WHAT COMES BACK, over the tables of the start Z: h the heap at the call, h' behind it -/
def Q (Z : State) (x : Addr) (A : Cell) (h : Heap) (v : Option Value) (h' : Heap) (L : List Loc) : Prop := v = none ∧ (∀ y ∈ L, y.base = x) ∧ RoadKit.Keep h h' [x] ∧ h'.size = h.size + 1 ∧ RoadKit.Exa Z h' x ST ∧ RoadKit.Fld Z h' x ST "value" "[B" (.ref h.size) ∧ RoadKit.Fld Z h' x ST "coder" "B" (.int 0) ∧
  (∃ V : Cell, RoadKit.Arr Z h' h.size V .byte ∧ V.vm = .none ∧ Z.vm.findClass "[B" = some V.cls ∧ V.slots.size = A.slots.size ∧ ∀ j, j < A.slots.size → V.slots[j]? = some (.int (lo8 (cv A j)))) ∧
  ∀ (O n d : String) (w : Value), RoadKit.Fld Z h x O n d w → RoadKit.slotOf Z O n d ≠ RoadKit.slotOf Z ST "value" "[B" → RoadKit.slotOf Z O n d ≠ RoadKit.slotOf Z ST "coder" "B" → RoadKit.Fld Z h' x O n d w
/-- **new String(chars) AT A CALL, IN THE ROAD'S FORM**: for specialBack behind newO: x the fresh String, b the char[] with the cell A -/
theorem back {p : Program} {l : Launch} {e : Env} {R : Room} {s : State} {args : Array Value} {below : List Frame} {len W : Nat} {Z : State} {a0 : Array Value} {h : Heap} (hZ : Z.Warmed39 s.vm) (hw : ∀ d ∈ words, d.before a0 Z = true) {kI : Nat} (wi : (Jvm.Cond.instantiable ST kI).before a0 Z = true)
    {x b : Addr} {A : Cell} {z : Int32} {v0 c0 : Value} (E : RoadKit.Exa Z h x ST) (V : RoadKit.Fld Z h x ST "value" "[B" v0) (C : RoadKit.Fld Z h x ST "coder" "B" c0) (K : RoadKit.Arr Z h b A .char) (hty : Typed .char A) (S : RoadKit.Sta Z h ST "COMPACT_STRINGS" "Z" (.int z)) (hz : ¬ z = 0)
    (l0 : 0 < A.slots.size) (l2 : A.slots.size ≤ 536870912) (hp : ∀ i, i < A.slots.size → ¬ 255 < cv A i) (hfr : 4 ≤ R.frames) (hlo : W + 65 ≤ R.locals) :
    Back l R p e below s args New1.yN len W (fun P a => a = #[.ref x, .ref b] ∧ P.U.heap = h ∧ P.cells + 1 ≤ R.cells ∧ P.slots + A.slots.size ≤ R.slots)
      (fun P _ v B => ∃ L, Q Z x A h v B.U.heap L ∧ B.locs = P.locs ++ L ∧ B.cells = P.cells + 1 ∧ B.slots = P.slots + A.slots.size) := by
  intro m meth c P g ig mk a X hg hsize hdg hW hn hp'
  obtain ⟨rfl, rfl, r1, r2⟩ := hp'
  have al : Z.vm.Alike P.U.vm := hZ.alike.trans X.warmed.alike
  obtain ⟨D, cfV, kV, iV, fV, hD, gV, stV, knV, obV, asV, slV⟩ := id V
  obtain ⟨D', cfC, kC, iC, fC, hD', gC, stC, -, -, asC, slC⟩ := id C
  cases hD.symm.trans hD'
  obtain ⟨D2, kD, e1, e2, e3, e4, e5⟩ := id E
  cases hD.symm.trans e1
  obtain ⟨c2, k2, i1, i2, i3, -⟩ := Cond.instantiable_spec wi
  cases e2.symm.trans i1
  cases e3.symm.trans i2
  obtain ⟨kU, u1, u2⟩ := al.2.2 _ _ e3
  have hB : Blank ST x D P.U := ⟨hD, ⟨knV, fun q hq => by rw [hq] at obV; cases obV⟩, by rw [al.findClass]; exact e2, kU, u1, by rw [u2]; exact i3, by rw [u2]; exact e5 i3⟩
  have F1 : Found ST "value" "[B" fV P.U := ⟨SBG.found_only al ⟨cfV, kV, iV, gV⟩, stV⟩
  have F2 : Found ST "coder" "B" fC P.U := ⟨SBG.found_only al ⟨cfC, kC, iC, gC⟩, stC⟩
  have hA : Ch b A P.U := ⟨⟨K.1, State.isArrayOf_alike al K.2.1, K.2.2, by omega⟩, hty⟩
  have hS : StaticIs P.U ST "COMPACT_STRINGS" "Z" (.int z) := by
    obtain ⟨cfS, iS, kS, fS, st, cS, t1, t2, t3, t4, t5, t6, t7⟩ := S
    exact StaticIs.there (s := { Z with heap := P.U.heap }) ⟨cfS, iS, kS, fS, st, cS, t1, t2, t3, t4, t5, (fun q => by rw [q] at t6; cases t6), t7⟩ al rfl
  obtain ⟨v, B, X', ⟨⟨hv, E', V', q1, q2, q3, q4, q5, q6, q7, q8, q9, q10, q11⟩, hl, hc, hs⟩, st⟩ := New1.pays x D fV fC b A z (tab_of (moved hZ hw)) hfr hlo m meth c P g ig mk _ X hg hsize hdg hW hn ⟨r1, r2, rfl, hB, F1, F2, hA, hS, hz, l0, l2, hp⟩
  have al' : Z.vm.Alike B.U.vm := hZ.alike.trans X'.warmed.alike
  have hsz : E'.slots.size = D.slots.size := by
    obtain ⟨-, -, -, kB, w1, w2, w3⟩ := q1
    obtain ⟨kB', y1, y2⟩ := al'.2.2 _ _ e3
    rw [q2.2.1] at w1
    cases w1.symm.trans y1
    rw [w3, e5 i3, y2]
  refine ⟨v, B, X', ⟨_, ⟨hv, ?_, ⟨by omega, fun y cy hy hn' => q10 y cy (by simpa using hn') hy, fun y cy hy => ?_⟩, q11, ⟨E', _, q1.1, by rw [q2.2.1]; exact e2, by rw [q2.2.1]; exact e3, by rw [q2.1]; exact obV, fun _ => by rw [hsz]; exact e5 i3⟩,
    ⟨E', cfV, kV, iV, fV, q1.1, gV, stV, by rw [q2.1]; exact knV, by rw [q2.1]; exact obV, by rw [q2.2.1]; exact asV, q3⟩, ⟨E', cfC, kC, iC, fC, q1.1, gC, stC, by rw [q2.1]; exact knV, by rw [q2.1]; exact obV, by rw [q2.2.1]; exact asC, q4⟩,
    ⟨V', ⟨q5.1, State.isArrayOf_alike al'.symm q5.2.1, q5.2.2.1⟩, q6, by rw [← al'.findClass]; exact q7, q8, fun j hj => by have := q9 j hj; rwa [Nat.zero_add] at this⟩, fun O n d w F n1 n2 => ?_⟩, hl, hc, hs⟩, st⟩
  · intro y hy
    simp only [List.mem_cons, List.not_mem_nil, or_false] at hy
    rcases hy with rfl | rfl <;> rfl
  · by_cases q : y = x
    · subst q
      cases hD.symm.trans hy
      exact ⟨E', q1.1, q2.2.1, q2.1, hsz⟩
    · exact ⟨cy, q10 y cy q hy, rfl, rfl, rfl⟩
  · obtain ⟨D3, cf, k, i, f, g1, g2, g3, g4, g5, g6, g7⟩ := F
    cases hD.symm.trans g1
    simp only [RoadKit.slotOf, g2, gV, gC, Option.map_some, Option.getD_some] at n1 n2
    exact ⟨E', cf, k, i, f, q1.1, g2, g3, by rw [q2.1]; exact g4, by rw [q2.1]; exact g5, by rw [q2.2.1]; exact g6, by rw [q2.2.2 f.slot (by simp [n1, n2])]; exact g7⟩
end StrChars.Road
namespace StrChars.Road
open Jvm Sem ClassFile Op Lib Jvm.Stand Jvm.Free Jvm.Free.XT
/-- WHAT COMES BACK, the byte[] as a list of values -/
def QA (Z : State) (x : Addr) (zn : Int32) (cs : List Int32) (h : Heap) (v : Option Value) (h' : Heap) (L : List Loc) : Prop := v = none ∧ (∀ y ∈ L, y.base = x) ∧ RoadKit.Keep h h' [x] ∧ h'.size = h.size + 1 ∧ RoadKit.Exa Z h' x ST ∧ RoadKit.Fld Z h' x ST "value" "[B" (.ref h.size) ∧ RoadKit.Fld Z h' x ST "coder" "B" (.int 0) ∧
  (∃ kb, Z.vm.findClass "[B" = some kb ∧ RoadKit.Arv Z h' h.size kb .byte zn (cs.map fun c => .int (lo8 c)) (.int 0)) ∧
  ∀ (O n d : String) (w : Value), RoadKit.Fld Z h x O n d w → RoadKit.slotOf Z O n d ≠ RoadKit.slotOf Z ST "value" "[B" → RoadKit.slotOf Z O n d ≠ RoadKit.slotOf Z ST "coder" "B" → RoadKit.Fld Z h' x O n d w
/-- **new String(chars) AT A CALL, THE ARRAYS AS LISTS**: the char[] at b holds cs, not empty, no char above 255 -/
theorem backArv {p : Program} {l : Launch} {e : Env} {R : Room} {s : State} {args : Array Value} {below : List Frame} {len W : Nat} {Z : State} {a0 : Array Value} {h : Heap} (hZ : Z.Warmed39 s.vm) (hw : ∀ d ∈ words, d.before a0 Z = true) {kI : Nat} (wi : (Jvm.Cond.instantiable ST kI).before a0 Z = true)
    {x b : Addr} {k : ClassId} {zn z : Int32} {cs : List Int32} {dv v0 c0 : Value} (E : RoadKit.Exa Z h x ST) (V : RoadKit.Fld Z h x ST "value" "[B" v0) (C : RoadKit.Fld Z h x ST "coder" "B" c0) (K : RoadKit.Arv Z h b k .char zn (cs.map Value.int) dv) (S : RoadKit.Sta Z h ST "COMPACT_STRINGS" "Z" (.int z)) (hz : ¬ z = 0)
    (hlen : zn.toNatClampNeg = cs.length) (h0 : 0 < cs.length) (hbig : cs.length ≤ 536870912) (hall : ∀ c ∈ cs, ¬ 255 < c) (hfr : 4 ≤ R.frames) (hlo : W + 65 ≤ R.locals) :
    Back l R p e below s args New1.yN len W (fun P a => a = #[.ref x, .ref b] ∧ P.U.heap = h ∧ P.cells + 1 ≤ R.cells ∧ P.slots + cs.length ≤ R.slots)
      (fun P _ v B => ∃ L, QA Z x zn cs h v B.U.heap L ∧ B.locs = P.locs ++ L ∧ B.cells = P.cells + 1 ∧ B.slots = P.slots + cs.length) := by
  obtain ⟨A, K1, K2, K3, K4, K5, K6⟩ := K
  have e : A.slots.size = cs.length := K3.trans hlen
  have hat : ∀ (i : Nat) (hi : i < cs.length), A.slots[i]? = some (.int cs[i]) := fun i hi => by rw [K5 i (by omega)]; simp [List.getD_eq_getElem?_getD, hi]
  have hcv : ∀ (i : Nat) (hi : i < cs.length), cv A i = cs[i] := fun i hi => by unfold cv; rw [hat i hi]
  have hty : Typed .char A := fun i v hv => by
    have hi : i < A.slots.size := (Array.getElem?_eq_some_iff.mp hv).1
    have q := K5 i hi
    rw [hv] at q
    rw [Option.some.inj q]
    exact K6 i hi
  refine Back.mono (back hZ hw wi E V C K1 hty S hz (by omega) (by omega) (fun i hi => by rw [hcv i (by omega)]; exact hall _ (List.getElem_mem _)) hfr hlo) (fun P a hp => ⟨hp.1, hp.2.1, hp.2.2.1, by rw [e]; exact hp.2.2.2⟩) (fun P a v B hp hq => ?_)
  obtain ⟨L, ⟨q1, q2, q3, q4, q5, q6, q7, ⟨V', v1, v2, v3, v4, v5⟩, q9⟩, hl, hc, hs⟩ := hq
  refine ⟨L, ⟨q1, q2, q3, q4, q5, q6, q7, ⟨V'.cls, v3, V', v1, rfl, by rw [v4, e, hlen], K4, fun i hi => ?_, fun i hi => ?_⟩, q9⟩, hl, hc, by rw [hs, e]⟩
  · have hi' : i < cs.length := by omega
    rw [v5 i (by omega), hcv i hi']; simp [List.getD_eq_getElem?_getD, hi']
  · have hi' : i < cs.length := by omega
    simp only [List.getD_eq_getElem?_getD, List.getElem?_map, List.getElem?_eq_getElem hi', Option.map_some, Option.getD_some]
    exact fits_lo8 _
end StrChars.Road
namespace StrChars.Road
open Jvm Sem ClassFile Op Lib Jvm.Stand Jvm.Free Jvm.Free.XT
/-- WHAT COMES BACK, in the writer's own shape -/
def QV (Z : State) (x : Addr) (N : Int32) (bs : List Int32) (h : Heap) (n0 : Nat) (v : Option Value) (h' : Heap) (L : List Loc) : Prop := v = none ∧ RoadKit.Fr n0 L ∧ RoadKit.Keep h h' [x] ∧ RoadKit.Exa Z h' x ST ∧ RoadKit.Fld Z h' x ST "coder" "B" (.int 0) ∧
  ∃ (t : Addr) (kb : ClassId), n0 ≤ t ∧ h.size ≤ t ∧ ¬ t = x ∧ RoadKit.Fld Z h' x ST "value" "[B" (.ref t) ∧ RoadKit.Arv Z h' t kb .byte N (bs.map Value.int) (.int 0)
/-- **new String(chars) AT A CALL, FOR THE WRITER**: a char[] of n known ints, each 0 to 255 -/
theorem backV {p : Program} {l : Launch} {e : Env} {R : Room} {s : State} {args : Array Value} {below : List Frame} {len W : Nat} {Z : State} {a0 : Array Value} {h : Heap} (hZ : Z.Warmed39 s.vm) (hw : ∀ d ∈ words, d.before a0 Z = true) {kI : Nat} (wi : (Jvm.Cond.instantiable ST kI).before a0 Z = true)
    {x b : Addr} {kC : ClassId} {cs bs : List Int32} {d v0 c0 : Value} {z N : Int32} {n n0 : Nat} (hx0 : n0 ≤ x) (hh0 : n0 ≤ h.size) (E : RoadKit.Exa Z h x ST) (V : RoadKit.Fld Z h x ST "value" "[B" v0) (C : RoadKit.Fld Z h x ST "coder" "B" c0) (K : RoadKit.Arv Z h b kC .char N (cs.map Value.int) d) (S : RoadKit.Sta Z h ST "COMPACT_STRINGS" "Z" (.int z)) (hz : ¬ z = 0)
    (hn : cs.length = n) (hN : N = Int32.ofNat n) (l0 : 0 < n) (l2 : n ≤ 4000) (hp : ∀ c ∈ cs, ¬ c < 0 ∧ ¬ (255 : Int32) < c) (hb : bs = cs.map (fun c => c.toInt8.toInt32)) (hfr : 4 ≤ R.frames) (hlo : W + 65 ≤ R.locals) :
    Back l R p e below s args (⟨"java/lang/String", "<init>", "([C)V"⟩ : MethodName) len W (fun P a => a = #[.ref x, .ref b] ∧ P.U.heap = h ∧ P.cells + 1 ≤ R.cells ∧ P.slots + n ≤ R.slots)
      (fun P _ v B => ∃ L, QV Z x N bs h n0 v B.U.heap L ∧ B.locs = P.locs ++ L ∧ B.cells = P.cells + 1 ∧ B.slots = P.slots + n) := by
  subst hn hN hb
  refine Back.mono (backArv hZ hw wi E V C K S hz (n32 (by omega)) l0 (by omega) (fun c hc => (hp c hc).2) hfr hlo) (fun P a hp => hp) (fun P a v B hp hq => ?_)
  obtain ⟨L, ⟨q1, q2, q3, q4, q5, q6, q7, ⟨kb, v1, v2⟩, q9⟩, hl, hc, hs⟩ := hq
  exact ⟨L, ⟨q1, fun y hy => by rw [q2 y hy]; exact hx0, q3, q5, q7, h.size, kb, hh0, Nat.le_refl _, Nat.ne_of_gt E.lt, q6, by rw [List.map_map]; exact v2⟩, hl, hc, hs⟩
end StrChars.Road
namespace StrChars
open Jvm Sem ClassFile Op Lib Jvm.Stand Jvm.Free.XT Jvm.Free.ALB Jvm.Free.JM Jvm.Free
open Jvm.Lib.Cold (StaticIs)
def hi8 (x : Int32) : Int32 := lo8 (x >>> ((8 : Int32) &&& 31))
/-- what StringUTF16.getChar makes of two bytes -/
def pairCh (u v : Int32) : Int32 := (((u &&& 255) <<< ((0 : Int32) &&& 31)) ||| ((v &&& 255) <<< ((8 : Int32) &&& 31))).toUInt32.toUInt16.toUInt32.toInt32
theorem lo8_and (x : Int32) : (lo8 x &&& 255).toBitVec.toNat = x.toBitVec.toNat % 256 := by
  have h : (lo8 x).toBitVec = (x.toBitVec.signExtend 8).signExtend 32 := by rw [lo8, Int8.toBitVec_toInt32, Int32.toBitVec_toInt8]
  rw [Int32.toBitVec_and, BitVec.toNat_and, h]
  have e : ((x.toBitVec.signExtend 8).signExtend 32).toNat % 256 = x.toBitVec.toNat % 256 := by
    rw [BitVec.toNat_signExtend]
    have hlt := x.toBitVec.isLt
    simp only [BitVec.toNat_setWidth, BitVec.toNat_signExtend]
    split <;> split <;> omega
  rw [← e]
  exact Nat.and_two_pow_sub_one_eq_mod _ 8
theorem pair_says {c : Int32} (h0 : ¬ c < 0) (h1 : ¬ 65535 < c) : pairCh (lo8 c) (hi8 c) = c := by
  rw [Int32.lt_iff_toInt_lt] at h0 h1
  have e0 : (0 : Int32).toInt = 0 := rfl
  have e1 : (65535 : Int32).toInt = 65535 := rfl
  have hc : c.toInt = c.toBitVec.toNat := by
    have := c.toBitVec.isLt
    have e : c.toInt = c.toBitVec.toInt := rfl
    rw [e] at h0 h1
    rw [e]
    rw [BitVec.toInt_eq_toNat_cond] at h0 h1 ⊢
    split at h0 <;> split <;> omega
  have hn : c.toBitVec.toNat < 65536 := by omega
  have a1 := lo8_and c
  have a2 : (hi8 c &&& 255).toBitVec.toNat = c.toBitVec.toNat / 256 := by
    rw [hi8, lo8_and]
    have e : ((8 : Int32) &&& 31) = 8 := by decide
    rw [e, Int32.toBitVec_shiftRight]
    have e2 : ((8 : Int32).toBitVec.smod 32) = 8#32 := by decide
    rw [e2, BitVec.sshiftRight_eq', BitVec.toNat_sshiftRight_of_msb_false (by rw [BitVec.msb_eq_false_iff_two_mul_lt]; omega)]
    show c.toBitVec.toNat >>> 8 % 256 = _
    rw [Nat.shiftRight_eq_div_pow]
    omega
  unfold pairCh
  apply Int32.toBitVec_inj.mp
  apply BitVec.eq_of_toNat_eq
  have f0 : ((0 : Int32) &&& 31) = 0 := by decide
  have f8 : ((8 : Int32) &&& 31) = 8 := by decide
  rw [f0, f8]
  have g : (((lo8 c &&& 255) <<< (0 : Int32)) ||| ((hi8 c &&& 255) <<< (8 : Int32))).toBitVec.toNat = c.toBitVec.toNat := by
    rw [Int32.toBitVec_or, Int32.toBitVec_shiftLeft, Int32.toBitVec_shiftLeft]
    have s0 : ((0 : Int32).toBitVec.smod 32) = 0#32 := by decide
    have s8 : ((8 : Int32).toBitVec.smod 32) = 8#32 := by decide
    rw [s0, s8, BitVec.toNat_or]
    simp only [BitVec.shiftLeft_eq', BitVec.toNat_shiftLeft, a1, a2]
    show (c.toBitVec.toNat % 256) <<< 0 % 2 ^ 32 ||| (c.toBitVec.toNat / 256) <<< 8 % 2 ^ 32 = _
    rw [Nat.shiftLeft_zero, Nat.mod_eq_of_lt (show c.toBitVec.toNat % 256 < 2 ^ 32 by omega), Nat.mod_eq_of_lt (show (c.toBitVec.toNat / 256) <<< 8 < 2 ^ 32 by rw [Nat.shiftLeft_eq]; omega), Nat.or_comm, ← Nat.shiftLeft_add_eq_or_of_lt (by omega), Nat.shiftLeft_eq]
    omega
  show BitVec.toNat (((((lo8 c &&& 255) <<< (0 : Int32)) ||| ((hi8 c &&& 255) <<< (8 : Int32))).toBitVec.setWidth 16).setWidth 32) = _
  rw [BitVec.toNat_setWidth, BitVec.toNat_setWidth, g]
  omega
end StrChars
namespace StrChars
open Jvm Sem ClassFile Op Lib Jvm.Stand Jvm.Free.XT Jvm.Free.ALB Jvm.Free.JM Jvm.Free
open Jvm.Lib.Cold (StaticIs)
/-- the array's cell V codes the n chars f 0 .. f (n - 1) by the coder cd, as the JDK does: coder 1 just where some char is above 255 -/
def Cod (cd : Int32) (n : Nat) (f : Nat → Int32) (V : Cell) : Prop := (cd = 0 ∧ V.slots.size = n ∧ ∀ j, j < n → V.slots[j]? = some (.int (lo8 (f j))) ∧ ¬ 255 < f j) ∨ (cd = 1 ∧ V.slots.size = 2 * n ∧ (∀ j, j < n → V.slots[2 * j]? = some (.int (lo8 (f j))) ∧ V.slots[2 * j + 1]? = some (.int (hi8 (f j)))) ∧ ∃ j, j < n ∧ 255 < f j)
/-- **x is a String of the n chars f 0 .. f (n - 1)**, Latin-1 or UTF-16; its array at t has the cell V -/
def Txt (x t : Addr) (V : Cell) (cd : Int32) (n : Nat) (f : Nat → Int32) (U : State) : Prop := Exact "java/lang/String" x U ∧ Has x "java/lang/String" "value" "[B" (.ref t) U ∧ Has x "java/lang/String" "coder" "B" (.int cd) U ∧ XT.Arr .byte t V U ∧ Cod cd n f V ∧ ∀ j, j < n → ¬ f j < 0 ∧ ¬ 65535 < f j
theorem Txt.mv {x t : Addr} {V : Cell} {cd : Int32} {n : Nat} {f : Nat → Int32} {U U' : State} (h : Txt x t V cd n f U) (hal : U.vm.Alike U'.vm) (hh : U'.heap = U.heap) : Txt x t V cd n f U' := ⟨h.1.mv hal hh, h.2.1.mv hal hh, h.2.2.1.mv hal hh, h.2.2.2.1.mv hal hh, h.2.2.2.2⟩
end StrChars
namespace StrChars.Road
open Jvm Sem ClassFile Op Lib Jvm.Stand Jvm.Free Jvm.Free.XT
open Jvm.Lib.Cold (StaticIs)
theorem consq {a : Array Value} {s : State} {c : Jvm.Cond} {L : List Jvm.Cond} (h0 : c.before a s = true) (h : ∀ w ∈ L, w.before a s = true) : ∀ w ∈ c :: L, w.before a s = true := fun w hw => (List.mem_cons.mp hw).elim (fun e => e ▸ h0) (h w)
/-- the bytes of the chars cs, low before high -/
def wideBytes : List Int32 → List Value
  | [] => []
  | c :: cs => .int (lo8 c) :: .int (hi8 c) :: wideBytes cs
theorem wide_lo (d : Value) : ∀ (cs : List Int32) (j : Nat), j < cs.length → (wideBytes cs).getD (2 * j) d = .int (lo8 (cs.getD j 0))
  | [], j, h => absurd h (Nat.not_lt_zero j)
  | c :: cs, 0, _ => rfl
  | c :: cs, j + 1, h => by
    have q := wide_lo d cs j (by simpa using h)
    rw [show 2 * (j + 1) = 2 * j + 1 + 1 from by omega]
    simpa [wideBytes] using q
theorem wide_hi (d : Value) : ∀ (cs : List Int32) (j : Nat), j < cs.length → (wideBytes cs).getD (2 * j + 1) d = .int (hi8 (cs.getD j 0))
  | [], j, h => absurd h (Nat.not_lt_zero j)
  | c :: cs, 0, _ => rfl
  | c :: cs, j + 1, h => by
    have q := wide_hi d cs j (by simpa using h)
    rw [show 2 * (j + 1) + 1 = 2 * j + 1 + 1 + 1 from by omega]
    simpa [wideBytes] using q
theorem low_at (d : Value) (cs : List Int32) (j : Nat) (h : j < cs.length) : (cs.map fun c => Value.int (lo8 c)).getD j d = .int (lo8 (cs.getD j 0)) := by
  simp [List.getD_eq_getElem?_getD, h]
/-- an array of N2 bytes vs codes the chars cs by the coder cd -/
def CodA (cs : List Int32) (cd N2 : Int32) (vs : List Value) : Prop := (cd = 0 ∧ N2 = Int32.ofNat cs.length ∧ vs = (cs.map fun c => Value.int (lo8 c)) ∧ ∀ c ∈ cs, ¬ 255 < c) ∨ (cd = 1 ∧ N2 = Int32.ofNat (2 * cs.length) ∧ vs = wideBytes cs ∧ ∃ c ∈ cs, 255 < c)
theorem CodA.cod {cs : List Int32} {cd N2 : Int32} {vs : List Value} {V : Cell} (h : CodA cs cd N2 vs) (hn : 2 * cs.length < 2 ^ 31) (hs : V.slots.size = N2.toNatClampNeg) (hv : RoadKit.Has V vs (.int 0)) : Cod cd cs.length (fun j => cs.getD j 0) V := by
  rcases h with ⟨rfl, rfl, rfl, h⟩ | ⟨rfl, rfl, rfl, c, hc, hw⟩
  · rw [n32 (by omega)] at hs
    exact Or.inl ⟨rfl, hs, fun j hj => ⟨by rw [hv j (by omega), low_at _ _ _ hj], by
      have e : cs.getD j 0 = cs[j] := by simp [List.getD_eq_getElem?_getD, hj]
      show ¬ 255 < cs.getD j 0
      rw [e]; exact h _ (List.getElem_mem _)⟩⟩
  · rw [n32 (by omega)] at hs
    obtain ⟨j, hj, rfl⟩ := List.getElem_of_mem hc
    exact Or.inr ⟨rfl, hs, fun j hj => ⟨by rw [hv _ (by omega), wide_lo _ _ _ hj], by rw [hv _ (by omega), wide_hi _ _ _ hj]⟩, j, hj, by
      have e : cs.getD j 0 = cs[j] := by simp [List.getD_eq_getElem?_getD, hj]
      show 255 < cs.getD j 0
      rw [e]; exact hw⟩
/-- an object of exactly java/lang/String, its two fields found: as the laws ask it -/
theorem strObj {Z U : State} {a0 : Array Value} {kI : Nat} (wi : (Jvm.Cond.instantiable ST kI).before a0 Z = true) (al : Z.vm.Alike U.vm) {x : Addr} {v0 c0 : Value} (E : RoadKit.Exa Z U.heap x ST) (V : RoadKit.Fld Z U.heap x ST "value" "[B" v0) (C : RoadKit.Fld Z U.heap x ST "coder" "B" c0) :
    ∃ (D : Cell) (fV fC : Field), Blank ST x D U ∧ Found ST "value" "[B" fV U ∧ Found ST "coder" "B" fC U ∧ D.slots[fV.slot]? = some v0 ∧ D.slots[fC.slot]? = some c0 ∧ RoadKit.slotOf Z ST "value" "[B" = fV.slot ∧ RoadKit.slotOf Z ST "coder" "B" = fC.slot := by
  obtain ⟨D, cfV, kV, iV, fV, hD, gV, stV, knV, obV, asV, slV⟩ := V
  obtain ⟨D', cfC, kC, iC, fC, hD', gC, stC, -, -, asC, slC⟩ := C
  cases hD.symm.trans hD'
  obtain ⟨D2, kD, e1, e2, e3, e4, e5⟩ := E
  cases hD.symm.trans e1
  obtain ⟨c2, k2, i1, i2, i3, -⟩ := Cond.instantiable_spec wi
  cases e2.symm.trans i1
  cases e3.symm.trans i2
  obtain ⟨kU, u1, u2⟩ := al.2.2 _ _ e3
  exact ⟨D, fV, fC, ⟨hD, ⟨knV, fun q hq => by rw [hq] at obV; cases obV⟩, by rw [al.findClass]; exact e2, kU, u1, by rw [u2]; exact i3, by rw [u2]; exact e5 i3⟩, ⟨SBG.found_only al ⟨cfV, kV, iV, gV⟩, stV⟩, ⟨SBG.found_only al ⟨cfC, kC, iC, gC⟩, stC⟩, slV, slC, by simp [RoadKit.slotOf, gV], by simp [RoadKit.slotOf, gC]⟩
theorem sta_is {Z U : State} (al : Z.vm.Alike U.vm) {C n d : String} {v : Value} (S : RoadKit.Sta Z U.heap C n d v) : StaticIs U C n d v := by
  obtain ⟨cfS, iS, kS, fS, st, cS, t1, t2, t3, t4, t5, t6, t7⟩ := S
  exact StaticIs.there (s := { Z with heap := U.heap }) ⟨cfS, iS, kS, fS, st, cS, t1, t2, t3, t4, t5, (fun q => by rw [q] at t6; cases t6), t7⟩ al rfl
end StrChars.Road
namespace StrChars
open Jvm Sem ClassFile Op Lib Jvm.Stand Jvm.Free.XT Jvm.Free.ALB Jvm.Free.JM Jvm.Free
open Jvm.Lib.Cold (StaticIs)
/-- what place i of a byte[]'s cell holds -/
def yv (A : Cell) (i : Nat) : Int32 := match A.slots[i]? with | some (.int x) => x | _ => 0
theorem yv_get {a : Addr} {A : Cell} {U : State} (h : XT.Arr .byte a A U) (ht : Typed .byte A) {i : Nat} (hi : i < A.slots.size) : A.slots[i]? = some (.int (yv A i)) := by
  have e := Array.getElem?_eq_getElem hi
  have f := ht i _ e
  unfold yv; rw [e]
  generalize A.slots[i] = v at f
  cases v <;> simp [fits] at f ⊢
/-- the two arrays are equal, place for place -/
def EqC (A B : Cell) : Prop := A.slots.size = B.slots.size ∧ ∀ i, i < A.slots.size → yv A i = yv B i
/-- a boolean that says whether p -/
def Says01 (q : Prop) (r : Option Value) (s u : State) : Prop := ∃ v : Int32, r = some (.int v) ∧ u.heap = s.heap ∧ ((v = 1 ∧ q) ∨ (v = 0 ∧ ¬ q))
theorem Says01.mv {q : Prop} : ∀ r (U U' V V' : State), U'.heap = U.heap → V.vm.Alike V'.vm → V'.heap = V.heap → Says01 q r U V → Says01 q r U' V' :=
  fun r U U' V V' h1 _ h2 ⟨v, a, b, c⟩ => ⟨v, a, by rw [h1, h2]; exact b, c⟩
namespace LEq
def yN : MethodName := ⟨"java/lang/StringLatin1", "equals", "([B[B)Z"⟩
abbrev yB : ByteArray := jdk_43_method_13_code
theorem d0 : decode yB 0 = .ok (.aload_n 0, 1) := by decide +kernel
theorem d1 : decode yB 1 = .ok (.arraylength, 1) := by decide +kernel
theorem d2 : decode yB 2 = .ok (.aload_n 1, 1) := by decide +kernel
theorem d3 : decode yB 3 = .ok (.arraylength, 1) := by decide +kernel
theorem d4 : decode yB 4 = .ok (.if_icmp (.ne) 30, 3) := by decide +kernel
theorem d7 : decode yB 7 = .ok (.iconst 0, 1) := by decide +kernel
theorem d8 : decode yB 8 = .ok (.istore_n 2, 1) := by decide +kernel
theorem d9 : decode yB 9 = .ok (.iload_n 2, 1) := by decide +kernel
theorem d10 : decode yB 10 = .ok (.aload_n 0, 1) := by decide +kernel
theorem d11 : decode yB 11 = .ok (.arraylength, 1) := by decide +kernel
theorem d12 : decode yB 12 = .ok (.if_icmp (.ge) 20, 3) := by decide +kernel
theorem d15 : decode yB 15 = .ok (.aload_n 0, 1) := by decide +kernel
theorem d16 : decode yB 16 = .ok (.iload_n 2, 1) := by decide +kernel
theorem d17 : decode yB 17 = .ok (.baload, 1) := by decide +kernel
theorem d18 : decode yB 18 = .ok (.aload_n 1, 1) := by decide +kernel
theorem d19 : decode yB 19 = .ok (.iload_n 2, 1) := by decide +kernel
theorem d20 : decode yB 20 = .ok (.baload, 1) := by decide +kernel
theorem d21 : decode yB 21 = .ok (.if_icmp (.eq) 5, 3) := by decide +kernel
theorem d24 : decode yB 24 = .ok (.iconst 0, 1) := by decide +kernel
theorem d25 : decode yB 25 = .ok (.ireturn, 1) := by decide +kernel
theorem d26 : decode yB 26 = .ok (.iinc 2 1, 3) := by decide +kernel
theorem d29 : decode yB 29 = .ok (.goto (-20), 3) := by decide +kernel
theorem d32 : decode yB 32 = .ok (.iconst 1, 1) := by decide +kernel
theorem d33 : decode yB 33 = .ok (.ireturn, 1) := by decide +kernel
theorem d34 : decode yB 34 = .ok (.iconst 0, 1) := by decide +kernel
theorem d35 : decode yB 35 = .ok (.ireturn, 1) := by decide +kernel
def site : List Cond := []
def tab : Cond := tabOf yN yB 3 (some .boolean) site
def P (a : Addr) (A : Cell) (b : Addr) (B : Cell) (args : Array Value) (s : State) : Prop := args = #[.ref a, .ref b] ∧ XT.Arr .byte a A s ∧ Typed .byte A ∧ XT.Arr .byte b B s ∧ Typed .byte B
/-- whether two byte[] are equal, place for place -/
theorem law (l : Launch) (a : Addr) (A : Cell) (b : Addr) (B : Cell) : Law l yN 2 2 0 0 yB 3 (some .boolean) site (P a A b B) (Says01 (EqC A B)) [] 0 0 := by
  refine Law.of_walk (plainFor_of_name (by decide +kernel)) (by decide +kernel) (by decide +kernel) (by decide) (fun _ _ h => by rw [h.1]; rfl) (fun _ U U' hal hh h => ⟨h.1, h.2.1.mv hal hh, h.2.2.1, h.2.2.2.1.mv hal hh, h.2.2.2.2⟩) (fun r U U' V V' h1 hal h2 h => Says01.mv r U U' V V' h1 hal h2 h) ?_
  intro p e s m args below meth c s₁ X0 hexec hbytes hml hret hlk hnm hown hh0 W hP
  obtain ⟨rfl, hA, tA, hB, tB⟩ := hP
  have a31 := hA.2.2.2
  have b31 := hB.2.2.2
  have hA0 := hA.mv X0.warmed.alike hh0
  have hB0 := hB.mv X0.warmed.alike hh0
  have c1 : Steps p.tables e below (s₁.setTop (entryFrame m #[.ref a, .ref b] 3)) (s₁.setTop (mkF m 0 #[.val (.ref a), .val (.ref b), .unset] [])) := entry rfl
  have c2 : Steps p.tables e below (s₁.setTop (entryFrame m #[.ref a, .ref b] 3)) (s₁.setTop (mkF m 4 #[.val (.ref a), .val (.ref b), .unset] [.int (Int32.ofNat B.slots.size), .int (Int32.ofNat A.slots.size)])) := c1.trans (by
    refine XS.aloadN X0.here hexec rfl (hb hbytes d0) rfl rfl ?_
    refine X0.alen hexec hA0 rfl rfl (hb hbytes d1) ?_
    refine XS.aloadN X0.here hexec rfl (hb hbytes d2) rfl rfl ?_
    refine X0.alen hexec hB0 rfl rfl (hb hbytes d3) ?_
    exact Steps.refl _)
  by_cases hs : A.slots.size = B.slots.size
  · have c3 : Steps p.tables e below (s₁.setTop (entryFrame m #[.ref a, .ref b] 3)) (s₁.setTop (mkF m 9 #[.val (.ref a), .val (.ref b), .val (.int 0)] [])) := c2.trans (by
      refine XS.icmpNo X0.here hexec rfl (hb hbytes d4) rfl (ii_ne_f (by rw [hs])) ?_
      refine iconstV X0.here hexec rfl 0 (hb hbytes d7) (by decide) ?_
      refine XS.istoreN X0.here hexec rfl (hb hbytes d8) rfl rfl ?_
      exact Steps.refl _)
    have loop : ∀ (r i : Nat), i + r = A.slots.size → (∀ j, j < i → yv A j = yv B j) → Steps p.tables e below (s₁.setTop (entryFrame m #[.ref a, .ref b] 3)) (s₁.setTop (mkF m 9 #[.val (.ref a), .val (.ref b), .val (.int (Int32.ofNat i))] [])) → ∃ (pc : Nat) (Ls : Array Slot) (v : Int32), (pc = 25 ∨ pc = 33) ∧ ((v = 1 ∧ EqC A B) ∨ (v = 0 ∧ ¬ EqC A B)) ∧ Steps p.tables e below (s₁.setTop (entryFrame m #[.ref a, .ref b] 3)) (s₁.setTop (mkF m pc Ls [.int v])) := by
      intro r
      induction r with
      | zero =>
        intro i hi he cl
        exact ⟨33, _, 1, Or.inr rfl, Or.inl ⟨rfl, hs, fun j hj => he j (by omega)⟩, cl.trans (by
          refine XS.iloadN X0.here hexec rfl (hb hbytes d9) rfl ?_
          refine XS.aloadN X0.here hexec rfl (hb hbytes d10) rfl rfl ?_
          refine X0.alen hexec hA0 rfl rfl (hb hbytes d11) ?_
          refine XS.icmpYes X0.here hexec rfl (pc0 := 12) rfl (hb hbytes d12) rfl (ii_ge_t (nlt32 (by omega) (by omega))) (by decide) rfl ?_
          refine iconstV X0.here hexec rfl 1 (hb hbytes d32) (by decide) ?_
          exact Steps.refl _)⟩
      | succ r ih =>
        intro i hi he cl
        have c4 : Steps p.tables e below (s₁.setTop (entryFrame m #[.ref a, .ref b] 3)) (s₁.setTop (mkF m 21 #[.val (.ref a), .val (.ref b), .val (.int (Int32.ofNat i))] [.int (yv B i), .int (yv A i)])) := cl.trans (by
          refine XS.iloadN X0.here hexec rfl (hb hbytes d9) rfl ?_
          refine XS.aloadN X0.here hexec rfl (hb hbytes d10) rfl rfl ?_
          refine X0.alen hexec hA0 rfl rfl (hb hbytes d11) ?_
          refine XS.icmpNo X0.here hexec rfl (hb hbytes d12) rfl (ii_ge_f (lt32 (by omega) (by omega))) ?_
          refine XS.aloadN X0.here hexec rfl (hb hbytes d15) rfl rfl ?_
          refine XS.iloadN X0.here hexec rfl (hb hbytes d16) rfl ?_
          refine X0.aget hexec hA0 rfl (yv_get hA tA (i := i) (by omega)) rfl rfl (hb hbytes d17) ?_
          refine XS.aloadN X0.here hexec rfl (hb hbytes d18) rfl rfl ?_
          refine XS.iloadN X0.here hexec rfl (hb hbytes d19) rfl ?_
          refine X0.aget hexec hB0 rfl (yv_get hB tB (i := i) (by omega)) rfl rfl (hb hbytes d20) ?_
          exact Steps.refl _)
        by_cases hv : yv A i = yv B i
        · have c5 : Steps p.tables e below (s₁.setTop (entryFrame m #[.ref a, .ref b] 3)) (s₁.setTop (mkF m 9 #[.val (.ref a), .val (.ref b), .val (.int (Int32.ofNat i + 1))] [])) := c4.trans (by
            refine XS.icmpYes X0.here hexec rfl (pc0 := 21) rfl (hb hbytes d21) rfl (ii_eq_t hv) (by decide) rfl ?_
            refine iincV X0.here hexec rfl 1 (hb hbytes d26) (by decide) rfl rfl ?_
            refine XS.goto X0.here hexec rfl (pc0 := 29) rfl (hb hbytes d29) (by decide) rfl ?_
            exact Steps.refl _)
          rw [succ32] at c5
          exact ih (i + 1) (by omega) (fun j hj => by
            by_cases e : j = i
            · rw [e]; exact hv
            · exact he j (by omega)) c5
        · exact ⟨25, _, 0, Or.inl rfl, Or.inr ⟨rfl, fun q => hv (q.2 i (by omega))⟩, c4.trans (by
            refine XS.icmpNo X0.here hexec rfl (hb hbytes d21) rfl (ii_eq_f hv) ?_
            refine iconstV X0.here hexec rfl 0 (hb hbytes d24) (by decide) ?_
            exact Steps.refl _)⟩
    obtain ⟨pc, Ls, v, hpc, hv, cz⟩ := loop A.slots.size 0 (by omega) (fun j hj => absurd hj (Nat.not_lt_zero j)) c3
    have nv : narrow .boolean (.int v) = .int v := by rcases hv with ⟨rfl, -⟩ | ⟨rfl, -⟩ <;> rfl
    rcases hpc with rfl | rfl
    · exact ⟨s₁, some (.int v), _, _, _, X0, rfl, rfl, rfl, (fun h => by cases h), ⟨v, rfl, hh0, hv⟩, fun fs hl => cz.trans (X0.ireturnOut hexec hret nv (Or.inr (Or.inl rfl)) (hb hbytes d25) hl)⟩
    · exact ⟨s₁, some (.int v), _, _, _, X0, rfl, rfl, rfl, (fun h => by cases h), ⟨v, rfl, hh0, hv⟩, fun fs hl => cz.trans (X0.ireturnOut hexec hret nv (Or.inr (Or.inl rfl)) (hb hbytes d33) hl)⟩
  · have c3 : Steps p.tables e below (s₁.setTop (entryFrame m #[.ref a, .ref b] 3)) (s₁.setTop (mkF m 35 #[.val (.ref a), .val (.ref b), .unset] [.int 0])) := c2.trans (by
      refine XS.icmpYes X0.here hexec rfl (pc0 := 4) rfl (hb hbytes d4) rfl (ii_ne_t (ne32 a31 b31 hs)) (by decide) rfl ?_
      refine iconstV X0.here hexec rfl 0 (hb hbytes d34) (by decide) ?_
      exact Steps.refl _)
    exact ⟨s₁, some (.int 0), _, _, _, X0, rfl, rfl, rfl, (fun h => by cases h), ⟨0, rfl, hh0, Or.inr ⟨rfl, fun q => hs q.1⟩⟩, fun fs hl => c3.trans (X0.ireturnOut hexec hret rfl (Or.inr (Or.inl rfl)) (hb hbytes d35) hl)⟩
end LEq
theorem Cod.ty {cd : Int32} {n : Nat} {f : Nat → Int32} {V : Cell} (h : Cod cd n f V) : Typed .byte V := fun i v hv => by
  have hi : i < V.slots.size := (Array.getElem?_eq_some_iff.mp hv).1
  rcases h with ⟨-, k1, k2⟩ | ⟨-, k1, k2, -⟩
  · rw [(k2 i (by omega)).1] at hv; cases hv; exact fits_lo8 _
  · rcases Nat.mod_two_eq_zero_or_one i with e | e
    · obtain ⟨j, rfl⟩ : ∃ j, i = 2 * j := ⟨i / 2, by omega⟩
      rw [(k2 j (by omega)).1] at hv; cases hv; exact fits_lo8 _
    · obtain ⟨j, rfl⟩ : ∃ j, i = 2 * j + 1 := ⟨i / 2, by omega⟩
      rw [(k2 j (by omega)).2] at hv; cases hv; exact fits_lo8 _
/-- the same text -/
def SameT (n : Nat) (f : Nat → Int32) (k : Nat) (g : Nat → Int32) : Prop := n = k ∧ ∀ j, j < n → f j = g j
theorem lo8_inj {x y : Int32} (h0 : ¬ x < 0) (h1 : ¬ 255 < x) (k0 : ¬ y < 0) (k1 : ¬ 255 < y) (h : lo8 x = lo8 y) : x = y := by
  rw [← lo8_mask h0 h1, ← lo8_mask k0 k1, h]
/-- arrays coded by one coder are equal just where the texts are -/
theorem Cod.eqv {cd : Int32} {n k : Nat} {f g : Nat → Int32} {V V' : Cell} (h : Cod cd n f V) (h' : Cod cd k g V') (hf : ∀ j, j < n → ¬ f j < 0 ∧ ¬ 65535 < f j) (hg : ∀ j, j < k → ¬ g j < 0 ∧ ¬ 65535 < g j) : EqC V V' ↔ SameT n f k g := by
  have yvv : ∀ {W : Cell} {i : Nat} {x : Int32}, W.slots[i]? = some (.int x) → yv W i = x := fun q => by unfold yv; rw [q]
  rcases h with ⟨rfl, k1, k2⟩ | ⟨rfl, k1, k2, -⟩
  · rcases h' with ⟨-, m1, m2⟩ | ⟨e, -⟩
    · constructor
      · rintro ⟨e1, e2⟩
        refine ⟨by omega, fun j hj => ?_⟩
        have q := e2 j (by omega)
        rw [yvv (k2 j hj).1, yvv (m2 j (by omega)).1] at q
        exact lo8_inj (hf j hj).1 (k2 j hj).2 (hg j (by omega)).1 (m2 j (by omega)).2 q
      · rintro ⟨rfl, e2⟩
        refine ⟨by omega, fun j hj => ?_⟩
        rw [yvv (k2 j (by omega)).1, yvv (m2 j (by omega)).1, e2 j (by omega)]
    · exact absurd e (by decide)
  · rcases h' with ⟨e, -⟩ | ⟨-, m1, m2, -⟩
    · exact absurd e (by decide)
    · constructor
      · rintro ⟨e1, e2⟩
        refine ⟨by omega, fun j hj => ?_⟩
        have q1 := e2 (2 * j) (by omega)
        have q2 := e2 (2 * j + 1) (by omega)
        rw [yvv (k2 j hj).1, yvv (m2 j (by omega)).1] at q1
        rw [yvv (k2 j hj).2, yvv (m2 j (by omega)).2] at q2
        rw [← pair_says (hf j hj).1 (hf j hj).2, ← pair_says (hg j (by omega)).1 (hg j (by omega)).2, q1, q2]
      · rintro ⟨rfl, e2⟩
        refine ⟨by omega, fun i hi => ?_⟩
        rcases Nat.mod_two_eq_zero_or_one i with e | e
        · obtain ⟨j, rfl⟩ : ∃ j, i = 2 * j := ⟨i / 2, by omega⟩
          rw [yvv (k2 j (by omega)).1, yvv (m2 j (by omega)).1, e2 j (by omega)]
        · obtain ⟨j, rfl⟩ : ∃ j, i = 2 * j + 1 := ⟨i / 2, by omega⟩
          rw [yvv (k2 j (by omega)).2, yvv (m2 j (by omega)).2, e2 j (by omega)]
/-- two codings differ: so do the texts -/
theorem Cod.dif {cd cd' : Int32} {n k : Nat} {f g : Nat → Int32} {V V' : Cell} (h : Cod cd n f V) (h' : Cod cd' k g V') (hne : ¬ cd = cd') : ¬ SameT n f k g := by
  rintro ⟨rfl, e⟩
  rcases h with ⟨rfl, -, k2⟩ | ⟨rfl, -, -, j, hj, hw⟩
  · rcases h' with ⟨rfl, -⟩ | ⟨-, -, -, j, hj, hw⟩
    · exact hne rfl
    · exact (k2 j hj).2 (by rw [e j hj]; exact hw)
  · rcases h' with ⟨-, -, m2⟩ | ⟨rfl, -⟩
    · exact (m2 j hj).2 (by rw [← e j hj]; exact hw)
    · exact hne rfl
/-- an object of exactly C is an instance of C -/
theorem cinst {p : Program} {l : Launch} {e : Env} {R : Room} {s : State} {m : MethodId} {args : Array Value} {below : List Frame} {meth : Method} {c : Code} {T : State} {locs : List Loc} {cells slots : Nat} (X : Stand p l e R s m args below meth c T locs cells slots) (hexec : p.tables.exec = Jvm.exec) {own C : String} {index : Nat} (hown : s.vm.findClass own = some m.cls) (hlink : (Cond.classLink own index C).before args s = true) {a : Addr} (hE : Exact C a T)
    {g : JFrame} (hg : g.method = m) {rest : List Value} (hstack : g.stack = .ref a :: rest) (hdg : decode c.code g.pc = .ok (.instanceof index, 3)) :
    ∃ T', Stand p l e R s m args below meth c T' locs cells slots ∧ T'.heap = T.heap ∧ ∀ target, Steps p.tables e below (T'.setTop { g with pc := g.pc + 3, stack := .int 1 :: rest }) target → Steps p.tables e below (T.setTop g) target := by
  obtain ⟨cB, h1, D, h2, h3, h4⟩ := hE
  have h1' : s.vm.findClass C = some cB := by rw [← X.warmed.alike.findClass]; exact h1
  obtain ⟨vm', X', st⟩ := X.instanceofYes hexec hown hlink h2 h4 h1' (by rw [h3]; exact Jvm.Free.SB.assignable_self _ _) hg hstack hdg
  exact ⟨_, X', rfl, st⟩
theorem cself {p : Program} {l : Launch} {e : Env} {R : Room} {s : State} {m : MethodId} {args : Array Value} {below : List Frame} {meth : Method} {c : Code} {T : State} {locs : List Loc} {cells slots : Nat} (X : Stand p l e R s m args below meth c T locs cells slots) (hexec : p.tables.exec = Jvm.exec) {own C : String} {index : Nat} (hown : s.vm.findClass own = some m.cls) (hlink : (Cond.classLink own index C).before args s = true) {a : Addr} (hE : Exact C a T)
    {g : JFrame} (hg : g.method = m) {rest : List Value} (hstack : g.stack = .ref a :: rest) (hdg : decode c.code g.pc = .ok (.checkcast index, 3)) :
    ∃ T', Stand p l e R s m args below meth c T' locs cells slots ∧ T'.heap = T.heap ∧ ∀ target, Steps p.tables e below (T'.setTop { g with pc := g.pc + 3, stack := .ref a :: rest }) target → Steps p.tables e below (T.setTop g) target := by
  obtain ⟨cB, h1, D, h2, h3, h4⟩ := hE
  have h1' : s.vm.findClass C = some cB := by rw [← X.warmed.alike.findClass]; exact h1
  obtain ⟨vm', X', st⟩ := X.checkcastYes hexec hown hlink h2 h4 h1' (by rw [h3]; exact Jvm.Free.SB.assignable_self _ _) hg hstack hdg
  exact ⟨_, X', rfl, fun t h => st t (by rw [← hstack] at h; exact h)⟩
namespace SEq
def yN : MethodName := ⟨"java/lang/String", "equals", "(Ljava/lang/Object;)Z"⟩
abbrev yB : ByteArray := jdk_42_method_66_code
theorem d0 : decode yB 0 = .ok (.aload_n 0, 1) := by decide +kernel
theorem d1 : decode yB 1 = .ok (.aload_n 1, 1) := by decide +kernel
theorem d2 : decode yB 2 = .ok (.if_acmp (.ne) 5, 3) := by decide +kernel
theorem d5 : decode yB 5 = .ok (.iconst 1, 1) := by decide +kernel
theorem d6 : decode yB 6 = .ok (.ireturn, 1) := by decide +kernel
theorem d7 : decode yB 7 = .ok (.aload_n 1, 1) := by decide +kernel
theorem d8 : decode yB 8 = .ok (.instanceof 10, 3) := by decide +kernel
theorem d11 : decode yB 11 = .ok (.ifCond (.eq) 43, 3) := by decide +kernel
theorem d14 : decode yB 14 = .ok (.aload_n 1, 1) := by decide +kernel
theorem d15 : decode yB 15 = .ok (.checkcast 10, 3) := by decide +kernel
theorem d18 : decode yB 18 = .ok (.astore_n 2, 1) := by decide +kernel
theorem d19 : decode yB 19 = .ok (.getstatic 38, 3) := by decide +kernel
theorem d22 : decode yB 22 = .ok (.ifCond (.eq) 14, 3) := by decide +kernel
theorem d25 : decode yB 25 = .ok (.aload_n 0, 1) := by decide +kernel
theorem d26 : decode yB 26 = .ok (.getfield 15, 3) := by decide +kernel
theorem d29 : decode yB 29 = .ok (.aload_n 2, 1) := by decide +kernel
theorem d30 : decode yB 30 = .ok (.getfield 15, 3) := by decide +kernel
theorem d33 : decode yB 33 = .ok (.if_icmp (.ne) 21, 3) := by decide +kernel
theorem d36 : decode yB 36 = .ok (.aload_n 0, 1) := by decide +kernel
theorem d37 : decode yB 37 = .ok (.getfield 9, 3) := by decide +kernel
theorem d40 : decode yB 40 = .ok (.aload_n 2, 1) := by decide +kernel
theorem d41 : decode yB 41 = .ok (.getfield 9, 3) := by decide +kernel
theorem d44 : decode yB 44 = .ok (.invokestatic 541, 3) := by decide +kernel
theorem d47 : decode yB 47 = .ok (.ifCond (.eq) 7, 3) := by decide +kernel
theorem d50 : decode yB 50 = .ok (.iconst 1, 1) := by decide +kernel
theorem d51 : decode yB 51 = .ok (.goto 4, 3) := by decide +kernel
theorem d54 : decode yB 54 = .ok (.iconst 0, 1) := by decide +kernel
theorem d55 : decode yB 55 = .ok (.ireturn, 1) := by decide +kernel
def site : List Cond := [.classLink "java/lang/String" 10 "java/lang/String", .fieldLink "java/lang/String" 38 "java/lang/String" "COMPACT_STRINGS" "Z", .fieldLink "java/lang/String" 15 "java/lang/String" "coder" "B", .fieldLink "java/lang/String" 9 "java/lang/String" "value" "[B", LEq.tab] ++ staticW "java/lang/String" 541 LEq.yN
def tab : Cond := tabOf yN yB 3 (some .boolean) site
def P (x t : Addr) (V : Cell) (cd : Int32) (n : Nat) (f : Nat → Int32) (y t' : Addr) (V' : Cell) (cd' : Int32) (k : Nat) (g : Nat → Int32) (z : Int32) (args : Array Value) (s : State) : Prop := args = #[.ref x, .ref y] ∧ Txt x t V cd n f s ∧ Txt y t' V' cd' k g s ∧ StaticIs s "java/lang/String" "COMPACT_STRINGS" "Z" (.int z) ∧ ¬ z = 0
/-- equals(Object) of two Strings: whether the texts are the same -/
theorem law (l : Launch) (x t : Addr) (V : Cell) (cd : Int32) (n : Nat) (f : Nat → Int32) (y t' : Addr) (V' : Cell) (cd' : Int32) (k : Nat) (g : Nat → Int32) (z : Int32) : Law l yN 2 1 1 14 yB 3 (some .boolean) site (P x t V cd n f y t' V' cd' k g z) (Says01 (SameT n f k g)) [] 0 0 := by
  refine Law.of_walk (plainFor_of_name (by decide +kernel)) (by decide +kernel) (by decide +kernel) (by decide) (fun _ _ h => by rw [h.1]; rfl) (fun _ U U' hal hh h => ⟨h.1, h.2.1.mv hal hh, h.2.2.1.mv hal hh, h.2.2.2.1.there hal hh, h.2.2.2.2⟩) (fun r U U' V V' h1 hal h2 h => Says01.mv r U U' V V' h1 hal h2 h) ?_
  intro p e s m args below meth c s₁ X0 hexec hbytes hml hret hlk hnm hown hh0 W hP
  obtain ⟨rfl, hx, hy, s1, hz⟩ := hP
  have c1 : Steps p.tables e below (s₁.setTop (entryFrame m #[.ref x, .ref y] 3)) (s₁.setTop (mkF m 2 #[.val (.ref x), .val (.ref y), .unset] [.ref y, .ref x])) := Steps.trans (entry rfl) (by
    show Steps p.tables e below (s₁.setTop (mkF m 0 #[.val (.ref x), .val (.ref y), .unset] [])) _
    refine XS.aloadN X0.here hexec rfl (hb hbytes d0) rfl rfl ?_
    refine XS.aloadN X0.here hexec rfl (hb hbytes d1) rfl rfl ?_
    exact Steps.refl _)
  by_cases hxy : x = y
  · have c2 : Steps p.tables e below (s₁.setTop (entryFrame m #[.ref x, .ref y] 3)) (s₁.setTop (mkF m 6 #[.val (.ref x), .val (.ref y), .unset] [.int 1])) := c1.trans (by
      refine acmpNo X0.here hexec rfl (hb hbytes d2) rfl rfl rfl (by simp [acmp, hxy]) ?_
      refine iconstV X0.here hexec rfl 1 (hb hbytes d5) (by decide) ?_
      exact Steps.refl _)
    subst hxy
    have ec : cd = cd' := by
      obtain ⟨D, fd, a1, a2, a3⟩ := hx.2.2.1
      obtain ⟨D', fd', b1, b2, b3⟩ := hy.2.2.1
      cases a1.symm.trans b1
      obtain ⟨q1, q2, q3, q4⟩ := a2.1
      obtain ⟨r1, r2, r3, r4⟩ := b2.1
      cases q4.symm.trans r4
      cases a3.symm.trans b3; rfl
    have et : t = t' := by
      obtain ⟨D, fd, a1, a2, a3⟩ := hx.2.1
      obtain ⟨D', fd', b1, b2, b3⟩ := hy.2.1
      cases a1.symm.trans b1
      obtain ⟨q1, q2, q3, q4⟩ := a2.1
      obtain ⟨r1, r2, r3, r4⟩ := b2.1
      cases q4.symm.trans r4
      cases a3.symm.trans b3; rfl
    subst ec et
    have ev : V = V' := by cases hx.2.2.2.1.1.symm.trans hy.2.2.2.1.1; rfl
    subst ev
    have hs : SameT n f k g := (Cod.eqv hx.2.2.2.2.1 hy.2.2.2.2.1 hx.2.2.2.2.2 hy.2.2.2.2.2).mp ⟨rfl, fun _ _ => rfl⟩
    exact ⟨s₁, some (.int 1), _, _, _, X0, rfl, rfl, rfl, (fun h => by cases h), ⟨1, rfl, hh0, Or.inl ⟨rfl, hs⟩⟩, fun fs hl => c2.trans (X0.ireturnOut hexec hret rfl (Or.inr (Or.inl rfl)) (hb hbytes d6) hl)⟩
  · have c2 : Steps p.tables e below (s₁.setTop (entryFrame m #[.ref x, .ref y] 3)) (s₁.setTop (mkF m 8 #[.val (.ref x), .val (.ref y), .unset] [.ref y])) := c1.trans (by
      refine acmpYes X0.here hexec rfl (pc0 := 2) rfl (hb hbytes d2) rfl rfl rfl (by simp [acmp, hxy]) (by decide) rfl ?_
      refine XS.aloadN X0.here hexec rfl (hb hbytes d7) rfl rfl ?_
      exact Steps.refl _)
    obtain ⟨T3, X3, q3, st3⟩ := cinst X0 hexec hown (wk W (.classLink "java/lang/String" 10 "java/lang/String")) (hy.mv X0.warmed.alike hh0).1 (g := (mkF m 8 #[.val (.ref x), .val (.ref y), .unset] [.ref y])) rfl (rest := []) rfl (hb hbytes d8)
    have hh3 := q3.trans hh0
    have c4 : Steps p.tables e below (s₁.setTop (entryFrame m #[.ref x, .ref y] 3)) (T3.setTop (mkF m 15 #[.val (.ref x), .val (.ref y), .unset] [.ref y])) := (c2.trans (st3 _ (Steps.refl _))).trans (by
      refine XS.ifNo X3.here hexec rfl (hb hbytes d11) rfl (i0_eq_f (by decide)) ?_
      refine XS.aloadN X3.here hexec rfl (hb hbytes d14) rfl rfl ?_
      exact Steps.refl _)
    obtain ⟨T5, X5, q5, st5⟩ := cself X3 hexec hown (wk W (.classLink "java/lang/String" 10 "java/lang/String")) (hy.mv X3.warmed.alike hh3).1 (g := (mkF m 15 #[.val (.ref x), .val (.ref y), .unset] [.ref y])) rfl (rest := []) rfl (hb hbytes d15)
    have hh5 := q5.trans hh3
    have c6 : Steps p.tables e below (s₁.setTop (entryFrame m #[.ref x, .ref y] 3)) (T5.setTop (mkF m 19 #[.val (.ref x), .val (.ref y), .val (.ref y)] [])) := (c4.trans (st5 _ (Steps.refl _))).trans (by
      refine XS.astoreN X5.here hexec rfl (hb hbytes d18) rfl rfl rfl ?_
      exact Steps.refl _)
    obtain ⟨T7, X7, q7, st7⟩ := X5.sget hexec hown (wk W (.fieldLink "java/lang/String" 38 "java/lang/String" "COMPACT_STRINGS" "Z")) s1 (fun _ _ h => by rw [hh5]; exact h) (g := (mkF m 19 #[.val (.ref x), .val (.ref y), .val (.ref y)] [])) rfl (hb hbytes d19)
    have hh7 := q7.trans hh5
    have c8 : Steps p.tables e below (s₁.setTop (entryFrame m #[.ref x, .ref y] 3)) (T7.setTop (mkF m 26 #[.val (.ref x), .val (.ref y), .val (.ref y)] [.ref x])) := (c6.trans (st7 _ (Steps.refl _))).trans (by
      refine XS.ifNo X7.here hexec rfl (hb hbytes d22) rfl (i0_eq_f hz) ?_
      refine XS.aloadN X7.here hexec rfl (hb hbytes d25) rfl rfl ?_
      exact Steps.refl _)
    obtain ⟨T9, X9, q9, st9⟩ := X7.hget hexec hown (wk W (.fieldLink "java/lang/String" 15 "java/lang/String" "coder" "B")) (hx.mv X7.warmed.alike hh7).2.2.1 (g := (mkF m 26 #[.val (.ref x), .val (.ref y), .val (.ref y)] [.ref x])) rfl (rest := []) rfl (hb hbytes d26)
    have hh9 := q9.trans hh7
    have c10 : Steps p.tables e below (s₁.setTop (entryFrame m #[.ref x, .ref y] 3)) (T9.setTop (mkF m 30 #[.val (.ref x), .val (.ref y), .val (.ref y)] [.ref y, .int cd])) := (c8.trans (st9 _ (Steps.refl _))).trans (by
      refine XS.aloadN X9.here hexec rfl (hb hbytes d29) rfl rfl ?_
      exact Steps.refl _)
    obtain ⟨T11, X11, q11, st11⟩ := X9.hget hexec hown (wk W (.fieldLink "java/lang/String" 15 "java/lang/String" "coder" "B")) (hy.mv X9.warmed.alike hh9).2.2.1 (g := (mkF m 30 #[.val (.ref x), .val (.ref y), .val (.ref y)] [.ref y, .int cd])) rfl (rest := [.int cd]) rfl (hb hbytes d30)
    have hh11 := q11.trans hh9
    have c12 : Steps p.tables e below (s₁.setTop (entryFrame m #[.ref x, .ref y] 3)) (T11.setTop (mkF m 33 #[.val (.ref x), .val (.ref y), .val (.ref y)] [.int cd', .int cd])) := c10.trans (st11 _ (Steps.refl _))
    by_cases hcd : cd = cd'
    · subst hcd
      have c13 : Steps p.tables e below (s₁.setTop (entryFrame m #[.ref x, .ref y] 3)) (T11.setTop (mkF m 37 #[.val (.ref x), .val (.ref y), .val (.ref y)] [.ref x])) := c12.trans (by
        refine XS.icmpNo X11.here hexec rfl (hb hbytes d33) rfl (ii_ne_f rfl) ?_
        refine XS.aloadN X11.here hexec rfl (hb hbytes d36) rfl rfl ?_
        exact Steps.refl _)
      obtain ⟨T14, X14, q14, st14⟩ := X11.hget hexec hown (wk W (.fieldLink "java/lang/String" 9 "java/lang/String" "value" "[B")) (hx.mv X11.warmed.alike hh11).2.1 (g := (mkF m 37 #[.val (.ref x), .val (.ref y), .val (.ref y)] [.ref x])) rfl (rest := []) rfl (hb hbytes d37)
      have hh14 := q14.trans hh11
      have c15 : Steps p.tables e below (s₁.setTop (entryFrame m #[.ref x, .ref y] 3)) (T14.setTop (mkF m 41 #[.val (.ref x), .val (.ref y), .val (.ref y)] [.ref y, .ref t])) := (c13.trans (st14 _ (Steps.refl _))).trans (by
        refine XS.aloadN X14.here hexec rfl (hb hbytes d40) rfl rfl ?_
        exact Steps.refl _)
      obtain ⟨T16, X16, q16, st16⟩ := X14.hget hexec hown (wk W (.fieldLink "java/lang/String" 9 "java/lang/String" "value" "[B")) (hy.mv X14.warmed.alike hh14).2.1 (g := (mkF m 41 #[.val (.ref x), .val (.ref y), .val (.ref y)] [.ref y, .ref t])) rfl (rest := [.ref t]) rfl (hb hbytes d41)
      have hh16 := q16.trans hh14
      have c17 : Steps p.tables e below (s₁.setTop (entryFrame m #[.ref x, .ref y] 3)) (T16.setTop (mkF m 44 #[.val (.ref x), .val (.ref y), .val (.ref y)] [.ref t', .ref t])) := c15.trans (st16 _ (Steps.refl _))
      obtain ⟨v18, T18, X18, E18, g18⟩ := X16.callS hexec (LEq.law l t V t' V') hown (wks W (staticW "java/lang/String" 541 LEq.yN)) (wk W LEq.tab) (W := 0) (Nat.le_of_ble_eq_true rfl) (Nat.le_of_ble_eq_true rfl) (Nat.le_refl _) (Nat.le_refl _) (g := (mkF m 44 #[.val (.ref x), .val (.ref y), .val (.ref y)] [.ref t', .ref t])) rfl (by rw [hml]; rfl) c17 (argsL := [.ref t, .ref t']) (rest := []) rfl rfl (by show 2 * 0 + 0 ≤ _; decide) (hb hbytes d44) (⟨rfl, hx.2.2.2.1.mv X16.warmed.alike hh16, hx.2.2.2.2.1.ty, hy.2.2.2.1.mv X16.warmed.alike hh16, hy.2.2.2.2.1.ty⟩)
      obtain ⟨v, rfl, q18, hv⟩ := E18
      have iff := Cod.eqv hx.2.2.2.2.1 hy.2.2.2.2.1 hx.2.2.2.2.2 hy.2.2.2.2.2
      rcases hv with ⟨rfl, he⟩ | ⟨rfl, he⟩
      · have c19 : Steps p.tables e below (s₁.setTop (entryFrame m #[.ref x, .ref y] 3)) (T18.setTop (mkF m 55 #[.val (.ref x), .val (.ref y), .val (.ref y)] [.int 1])) := Steps.trans g18 (by
          refine XS.ifNo X18.here hexec rfl (hb hbytes d47) rfl (i0_eq_f (by decide)) ?_
          refine iconstV X18.here hexec rfl 1 (hb hbytes d50) (by decide) ?_
          refine XS.goto X18.here hexec rfl (pc0 := 51) rfl (hb hbytes d51) (by decide) rfl ?_
          exact Steps.refl _)
        exact ⟨T18, some (.int 1), _, _, _, X18, rfl, rfl, rfl, (fun h => by cases h), ⟨1, rfl, q18.trans hh16, Or.inl ⟨rfl, iff.mp he⟩⟩, fun fs hl => c19.trans (X18.ireturnOut hexec hret rfl (Or.inr (Or.inl rfl)) (hb hbytes d55) hl)⟩
      · have c19 : Steps p.tables e below (s₁.setTop (entryFrame m #[.ref x, .ref y] 3)) (T18.setTop (mkF m 55 #[.val (.ref x), .val (.ref y), .val (.ref y)] [.int 0])) := Steps.trans g18 (by
          refine XS.ifYes X18.here hexec rfl (pc0 := 47) rfl (hb hbytes d47) rfl (i0_eq_t rfl) (by decide) rfl ?_
          refine iconstV X18.here hexec rfl 0 (hb hbytes d54) (by decide) ?_
          exact Steps.refl _)
        exact ⟨T18, some (.int 0), _, _, _, X18, rfl, rfl, rfl, (fun h => by cases h), ⟨0, rfl, q18.trans hh16, Or.inr ⟨rfl, fun q => he (iff.mpr q)⟩⟩, fun fs hl => c19.trans (X18.ireturnOut hexec hret rfl (Or.inr (Or.inl rfl)) (hb hbytes d55) hl)⟩
    · have c13 : Steps p.tables e below (s₁.setTop (entryFrame m #[.ref x, .ref y] 3)) (T11.setTop (mkF m 55 #[.val (.ref x), .val (.ref y), .val (.ref y)] [.int 0])) := c12.trans (by
        refine XS.icmpYes X11.here hexec rfl (pc0 := 33) rfl (hb hbytes d33) rfl (ii_ne_t hcd) (by decide) rfl ?_
        refine iconstV X11.here hexec rfl 0 (hb hbytes d54) (by decide) ?_
        exact Steps.refl _)
      exact ⟨T11, some (.int 0), _, _, _, X11, rfl, rfl, rfl, (fun h => by cases h), ⟨0, rfl, hh11, Or.inr ⟨rfl, Cod.dif hx.2.2.2.2.1 hy.2.2.2.2.1 hcd⟩⟩, fun fs hl => c13.trans (X11.ireturnOut hexec hret rfl (Or.inr (Or.inl rfl)) (hb hbytes d55) hl)⟩
theorem pays {l : Launch} {R : Room} {p : Program} {e : Env} {below : List Frame} {s : State} {sargs : Array Value} {len W : Nat} (x t : Addr) (V : Cell) (cd : Int32) (n : Nat) (f : Nat → Int32) (y t' : Addr) (V' : Cell) (cd' : Int32) (k : Nat) (g : Nat → Int32) (z : Int32) (htab : tab.before sargs s = true) (hfr : 2 ≤ R.frames) (hlo : W + 28 ≤ R.locals) :
    Back l R p e below s sargs yN len W (fun A₁ a₁ => A₁.cells + 0 ≤ R.cells ∧ A₁.slots + 0 ≤ R.slots ∧ P x t V cd n f y t' V' cd' k g z a₁ A₁.U) (fun A₁ _ v₁ B₁ => Says01 (SameT n f k g) v₁ A₁.U B₁.U ∧ B₁.locs = A₁.locs ++ [] ∧ B₁.cells = A₁.cells + 0 ∧ B₁.slots = A₁.slots + 0) :=
  (law l x t V cd n f y t' V' cd' k g z).pays htab hfr (by omega)
end SEq
end StrChars
namespace StrChars.Road
open Jvm Sem ClassFile Op Lib Jvm.Stand Jvm.Free Jvm.Free.XT
open Jvm.Lib.Cold (StaticIs)
/-- the words of String.equals(Object) -/
abbrev wordsEq : List Jvm.Cond := [.code SEq.yN SEq.yB 3 (some .boolean), .initialized ST, .classLink ST 10 ST, .fieldLink ST 38 ST "COMPACT_STRINGS" "Z", .fieldLink ST 15 ST "coder" "B", .fieldLink ST 9 ST "value" "[B", .methodLink ST 541 LEq.yN, .static LEq.yN, .code LEq.yN LEq.yB 3 (some .boolean), .initialized "java/lang/StringLatin1"]
theorem tabEq_of {a : Array Value} {s : State} (h : ∀ w ∈ wordsEq, w.before a s = true) : SEq.tab.before a s = true := by
  have hl : LEq.tab.before a s = true := unparts (wk h (.code LEq.yN LEq.yB 3 (some .boolean))) (wks h (.initialized LEq.yN.cls :: LEq.site))
  have q := consq hl h
  exact unparts (wk q (.code SEq.yN SEq.yB 3 (some .boolean))) (wks q (.initialized SEq.yN.cls :: SEq.site))
theorem movedEq {Z s : State} {a0 args : Array Value} (hZ : Z.Warmed39 s.vm) (hw : ∀ d ∈ wordsEq, d.before a0 Z = true) : ∀ d ∈ wordsEq, d.before args s = true := fun d hd => by
  have t : ∀ d ∈ wordsEq, (d.onTables && d.keepsFace) = true := by decide +kernel
  exact RoadKit.mv hZ (hw d hd) (t d hd)
/-- the road's facts of a String, as the laws ask it -/
theorem txt_of {Z U : State} {a0 : Array Value} {kI : Nat} (wi : (Jvm.Cond.instantiable ST kI).before a0 Z = true) (al : Z.vm.Alike U.vm) {x t : Addr} {kb : ClassId} {cs : List Int32} {cd N2 : Int32} {vs : List Value} (E : RoadKit.Exa Z U.heap x ST) (V : RoadKit.Fld Z U.heap x ST "value" "[B" (.ref t)) (C : RoadKit.Fld Z U.heap x ST "coder" "B" (.int cd)) (K : RoadKit.Arv Z U.heap t kb .byte N2 vs (.int 0)) (hc : CodA cs cd N2 vs) (hb : ∀ c ∈ cs, ¬ c < 0 ∧ ¬ (65535 : Int32) < c) (l2 : cs.length ≤ 4000) :
    ∃ A, Txt x t A cd cs.length (fun j => cs.getD j 0) U := by
  obtain ⟨A, K1, K2, K3, K4, K5, K6⟩ := K
  have hcod := hc.cod (by omega) K3 K5
  obtain ⟨D, fV, fC, hB, F1, F2, g1, g2, -, -⟩ := strObj wi al E V C
  exact ⟨A, ⟨_, hB.2.2.1, D, hB.1, rfl, by cases q : D.vm <;> first | rfl | exact absurd q (hB.2.1.2 _)⟩, Has.of hB F1 g1, Has.of hB F2 g2, ⟨K1.1, State.isArrayOf_alike al K1.2.1, K1.2.2, by rcases hcod with ⟨-, q, -⟩ | ⟨-, q, -⟩ <;> omega⟩, hcod, fun j hj => by
    have e : cs.getD j 0 = cs[j] := by simp [List.getD_eq_getElem?_getD, hj]
    show ¬ cs.getD j 0 < 0 ∧ ¬ 65535 < cs.getD j 0
    rw [e]; exact hb _ (List.getElem_mem _)⟩
theorem same_list (cs ds : List Int32) : SameT cs.length (fun j => cs.getD j 0) ds.length (fun j => ds.getD j 0) ↔ cs = ds := by
  constructor
  · rintro ⟨e, q⟩
    refine List.ext_getElem e fun j h1 h2 => ?_
    have := q j h1
    simpa [List.getD_eq_getElem?_getD, h1, h2] using this
  · rintro rfl
    exact ⟨rfl, fun _ _ => rfl⟩
/-- **equals(Object) OF TWO SUCH STRINGS**: 1 just where the chars are the same -/
theorem eqW {p : Program} {l : Launch} {e : Env} {R : Room} {s : State} {args : Array Value} {below : List Frame} {len W : Nat} {Z : State} {a0 : Array Value} {h : Heap} (hZ : Z.Warmed39 s.vm) (hw : ∀ d ∈ wordsEq, d.before a0 Z = true) {kI : Nat} (wi : (Jvm.Cond.instantiable ST kI).before a0 Z = true)
    {x t : Addr} {kb : ClassId} {cs : List Int32} {cd N2 : Int32} {vs : List Value} (E : RoadKit.Exa Z h x ST) (V : RoadKit.Fld Z h x ST "value" "[B" (.ref t)) (C : RoadKit.Fld Z h x ST "coder" "B" (.int cd)) (K : RoadKit.Arv Z h t kb .byte N2 vs (.int 0)) (hc : CodA cs cd N2 vs) (hb : ∀ c ∈ cs, ¬ c < 0 ∧ ¬ (65535 : Int32) < c) (l2 : cs.length ≤ 4000)
    {y t' : Addr} {kb' : ClassId} {ds : List Int32} {cd' N2' : Int32} {vs' : List Value} (E' : RoadKit.Exa Z h y ST) (V' : RoadKit.Fld Z h y ST "value" "[B" (.ref t')) (C' : RoadKit.Fld Z h y ST "coder" "B" (.int cd')) (K' : RoadKit.Arv Z h t' kb' .byte N2' vs' (.int 0)) (hc' : CodA ds cd' N2' vs') (hb' : ∀ c ∈ ds, ¬ c < 0 ∧ ¬ (65535 : Int32) < c) (l2' : ds.length ≤ 4000)
    {z : Int32} (S : RoadKit.Sta Z h ST "COMPACT_STRINGS" "Z" (.int z)) (hz : ¬ z = 0) (hfr : 2 ≤ R.frames) (hlo : W + 28 ≤ R.locals) :
    Back l R p e below s args (⟨"java/lang/String", "equals", "(Ljava/lang/Object;)Z"⟩ : MethodName) len W (fun P a => a = #[.ref x, .ref y] ∧ P.U.heap = h ∧ P.cells + 0 ≤ R.cells ∧ P.slots + 0 ≤ R.slots)
      (fun P _ v B => ∃ L, (((v = some (.int 1) ∧ cs = ds) ∨ (v = some (.int 0) ∧ ¬ cs = ds)) ∧ L = [] ∧ B.U.heap = h) ∧ B.locs = P.locs ++ L ∧ B.cells = P.cells + 0 ∧ B.slots = P.slots + 0) := by
  intro m meth c P g ig mk a X hg hsize hdg hW hn hp'
  obtain ⟨rfl, rfl, r1, r2⟩ := hp'
  have al : Z.vm.Alike P.U.vm := hZ.alike.trans X.warmed.alike
  obtain ⟨A, hx⟩ := txt_of wi al E V C K hc hb l2
  obtain ⟨A', hy⟩ := txt_of wi al E' V' C' K' hc' hb' l2'
  obtain ⟨v, B, X', ⟨⟨w, hv, hh, hq⟩, hl, hk, hs⟩, st⟩ := SEq.pays x t A cd cs.length (fun j => cs.getD j 0) y t' A' cd' ds.length (fun j => ds.getD j 0) z (tabEq_of (movedEq hZ hw)) hfr hlo m meth c P g ig mk _ X hg hsize hdg hW hn ⟨r1, r2, rfl, hx, hy, sta_is al S, hz⟩
  refine ⟨v, B, X', ⟨[], ⟨?_, rfl, hh⟩, hl, hk, hs⟩, st⟩
  rcases hq with ⟨rfl, q⟩ | ⟨rfl, q⟩
  · exact Or.inl ⟨hv, (same_list cs ds).mp q⟩
  · exact Or.inr ⟨hv, fun e => q ((same_list cs ds).mpr e)⟩
end StrChars.Road
namespace StrChars.Road
open Jvm Sem ClassFile Op Lib Jvm.Stand Jvm.Free Jvm.Free.XT
open Jvm.Lib.Cold (StaticIs)
/-- what backV says of its String, as the contracts of this text ask it: cs's low bytes, coder 0 -/
theorem codOf {cs : List Int32} {n : Nat} (hn : cs.length = n) (hb : ∀ c ∈ cs, ¬ 255 < c) : CodA cs 0 (Int32.ofNat n) ((cs.map lo8).map Value.int) := Or.inl ⟨rfl, by rw [hn], by simp [List.map_map, Function.comp_def], hb⟩
end StrChars.Road
end Jvm.Pilot.@@N@@

namespace Jvm.Pilot.@@N@@
open Jvm Jvm.ClassFile Sem Op Lib Jvm.Free Jvm.Stand Jvm.LawKit Jvm.RoadKit Bundle Jvm.Pilot.@@N@@.Jvm.D
section OwnKit
variable {p : Program} {l : Launch} {e : Env} {R : Room} {s : State} {m : MethodId} {args : Array Value} {below : List Frame} {meth : Method} {c : Code} {T T' : State} {locs : List Loc} {cells slots : Nat} {Z : State} {a0 : Array Value} {h : Heap} {FE : Outcome → State → List Loc → Prop} {QQ : Option Value → Heap → Vm → List Loc → Prop} {CC SS : Nat} {pc : Nat} {Ls : Array Slot} {rest : List Value}
/-- the run from the frame g on comes back, with what QQ says -/
def Go (p : Program) (e : Env) (below : List Frame) (FE : Outcome → State → List Loc → Prop) (QQ : Option Value → Heap → Vm → List Loc → Prop) (T : State) (g : JFrame) : Prop :=
  ∃ s₂ o, Steps p.tables e below (T.setTop g) s₂ ∧ s₂.status = .running ∧ Ended s₂ below o ∧ ∃ v L, o = .returned v ∧ QQ v s₂.heap s₂.vm L ∧ FE o s₂ L
/-- a callee's contract -/
def Met (l : Launch) (Z : State) (y : MethodName) (bytes : ByteArray) (maxL : Nat) (ret : Option FieldType) (ws : List Jvm.Cond) (rm : Room) (as' : Array Value) (h0 : Heap) (QQ : Option Value → Heap → List Loc → Prop) : Prop :=
  MetFree l y (head1 (Jvm.Cond.code y bytes maxL ret :: ws) rm) (fun a U => a = as' ∧ Z.Warmed39 U.vm ∧ U.heap = h0) (fun _ _ _ _ _ => True) (fun _ U o U' => ∃ v L, o = .returned v ∧ QQ v U'.heap L ∧ FrameEnd U o U' L rm.cells rm.slots)
theorem met_of {y : MethodName} {bytes : ByteArray} {maxL : Nat} {ret : Option FieldType} {ws : List Jvm.Cond} {rm : Room} {as' : Array Value} {h0 : Heap} {Q0 : Option Value → Heap → List Loc → Prop} (hx : plainFor y = true) (hef : ∀ m, entryFrame m as' maxL = mkF m 0 Ls [])
    (body : ∀ (p : Program) (e : Env) (s : State) (m : MethodId) (below : List Frame) (meth : Method) (c : Code) (s₁ : State), p.tables.exec = Jvm.exec → c.code = bytes → c.maxLocals = maxL → s.vm.findClass y.cls = some m.cls → meth.name = y.name → meth.sig.returnType = ret → meth.locks = false → Z.Warmed39 s.vm →
      Stand p l e rm s m as' below meth c s₁ [] 0 0 → s₁.heap = h0 → Go p e below (fun o s₂ L => FrameEnd s o s₂ L rm.cells rm.slots) (fun v h _ L => Q0 v h L) s₁ (mkF m 0 Ls [])) : Met l Z y bytes maxL ret ws rm as' h0 Q0 := by
  refine MetFree.of_bodySF hx hisR ?_
  intro p e s m args below meth c s₁ Bd hml0 hP hK
  obtain ⟨rfl, hZ, hh⟩ := hP
  have e0 : s₁.heap = h0 := by rw [← hh, Bd.state]; rfl
  have k := body p e s m below meth c s₁ Bd.exec Bd.bytes hml0 (findClass_of_methodNamed Bd.named) (name_of_methodNamed Bd.named Bd.method).1 Bd.returns Bd.notSynchronized hZ (Stand.of_body Bd) e0
  rw [hef m]
  exact k
/-- a callee's contract, where it may intern: PV is asked of the tables at its start -/
def MetS (l : Launch) (Z : State) (y : MethodName) (bytes : ByteArray) (maxL : Nat) (ret : Option FieldType) (ws : List Jvm.Cond) (rm : Room) (as' : Array Value) (h0 : Heap) (PV : Vm → Prop) (QQ : Option Value → Heap → Vm → List Loc → Prop) : Prop :=
  MetFree l y (head1 (Jvm.Cond.code y bytes maxL ret :: ws) rm) (fun a U => a = as' ∧ Z.Warmed39 U.vm ∧ U.heap = h0 ∧ PV U.vm) (fun _ _ _ _ _ => True) (fun _ U o U' => ∃ v L, o = .returned v ∧ QQ v U'.heap U'.vm L ∧ ReturnedEndW U o U' L rm.cells rm.slots)
theorem metS_of {y : MethodName} {bytes : ByteArray} {maxL : Nat} {ret : Option FieldType} {ws : List Jvm.Cond} {rm : Room} {as' : Array Value} {h0 : Heap} {PV : Vm → Prop} {Q0 : Option Value → Heap → Vm → List Loc → Prop} (hx : plainFor y = true) (hef : ∀ m, entryFrame m as' maxL = mkF m 0 Ls [])
    (body : ∀ (p : Program) (e : Env) (s : State) (m : MethodId) (below : List Frame) (meth : Method) (c : Code) (s₁ : State), p.tables.exec = Jvm.exec → c.code = bytes → c.maxLocals = maxL → s.vm.findClass y.cls = some m.cls → meth.name = y.name → meth.sig.returnType = ret → meth.locks = false → Z.Warmed39 s.vm →
      Stand p l e rm (s.setVm s.vm) m as' below meth c s₁ [] 0 0 → s₁.heap = h0 → PV s.vm → s.heap = h0 → s.Since s.vm 0 → Go p e below (fun o s₂ L => ReturnedEndW s o s₂ L rm.cells rm.slots) Q0 s₁ (mkF m 0 Ls [])) : MetS l Z y bytes maxL ret ws rm as' h0 PV Q0 := by
  refine MetFree.of_bodySF hx hisR ?_
  intro p e s m args below meth c s₁ Bd hml0 hP hK
  obtain ⟨rfl, hZ, hh, hPV⟩ := hP
  have e0 : s₁.heap = h0 := by rw [← hh, Bd.state]; rfl
  have k := body p e s m below meth c s₁ Bd.exec Bd.bytes hml0 (findClass_of_methodNamed Bd.named) (name_of_methodNamed Bd.named Bd.method).1 Bd.returns Bd.notSynchronized hZ (Stand.of_body Bd) e0 hPV hh ((State.WarmedH.refl s).since 0)
  rw [hef m]
  exact k
theorem Go.st {g g' : JFrame} (st : ∀ t, Steps p.tables e below (T'.setTop g') t → Steps p.tables e below (T.setTop g) t) (k : Go p e below FE QQ T' g') : Go p e below FE QQ T g := by
  obtain ⟨s₂, o, h1, h2⟩ := k
  exact ⟨s₂, o, st _ h1, h2⟩
theorem Go.tr {g g' : JFrame} (st : Steps p.tables e below (T.setTop g) (T'.setTop g')) (k : Go p e below FE QQ T' g') : Go p e below FE QQ T g := by
  obtain ⟨s₂, o, h1, h2⟩ := k
  exact ⟨s₂, o, st.trans h1, h2⟩
-- the returns
theorem feN {v : Option Value} (hc : cells ≤ CC) (hs : slots ≤ SS) : ∀ fs : List Frame, s.WarmedH (T.setFrames fs).vm → s.sameButNew ({ T.setFrames fs with vm := s.vm } : State) locs cells slots → FrameEnd s (.returned v) (T.setFrames fs) locs CC SS := fun fs hW h => ⟨⟨v, rfl⟩, hW, h.mono hc hs⟩
theorem feS {v : Option Value} {vm0 : Vm} {k0 : Nat} (hS : s.Since vm0 k0) (hk : k0 ≤ T.heap.size) (hc : cells ≤ CC) (hs : slots ≤ SS) : ∀ fs : List Frame, (s.setVm vm0).WarmedH (T.setFrames fs).vm → (s.setVm vm0).sameButNew ({ T.setFrames fs with vm := (s.setVm vm0).vm } : State) locs cells slots → ReturnedEndW s (.returned v) (T.setFrames fs) locs CC SS := fun fs hW h => by
  obtain ⟨a, b, c'⟩ := hS.ended (U := T.setFrames fs) hW hk h
  exact ⟨⟨v, rfl⟩, a, b, c'.mono hc hs⟩
theorem gRetZ (X : Stand p l e R s m args below meth c T locs cells slots) (hx : p.tables.exec = Jvm.exec) (hlk : meth.locks = false) {z z' : Int32} {t : FieldType} (hret : meth.sig.returnType = some t) (ht : t = .boolean ∨ t = .byte ∨ t = .char ∨ t = .short) (hd : decode c.code pc = .ok (.ireturn, 1)) (hz : nar t z = z')
    (hFE : ∀ fs : List Frame, s.WarmedH (T.setFrames fs).vm → s.sameButNew ({ T.setFrames fs with vm := s.vm } : State) locs cells slots → FE (.returned (some (.int z'))) (T.setFrames fs) locs) (hQ : QQ (some (.int z')) T.heap T.vm locs) : Go p e below FE QQ T (mkF m pc Ls (.int z :: rest)) := by
  obtain ⟨fs, hr, hrun, hended, hW, hsame⟩ := X.leave (v := some (.int z')) (fun h => by rw [hret] at h; cases h) hlk
  exact ⟨_, _, retN X hx hret ht hd (by rw [hz]; exact hr), hrun, hended, _, _, rfl, hQ, hFE fs hW hsame⟩
theorem gRetI (X : Stand p l e R s m args below meth c T locs cells slots) (hx : p.tables.exec = Jvm.exec) (hlk : meth.locks = false) {z : Int32} (hret : meth.sig.returnType = some .int) (hd : decode c.code pc = .ok (.ireturn, 1))
    (hFE : ∀ fs : List Frame, s.WarmedH (T.setFrames fs).vm → s.sameButNew ({ T.setFrames fs with vm := s.vm } : State) locs cells slots → FE (.returned (some (.int z))) (T.setFrames fs) locs) (hQ : QQ (some (.int z)) T.heap T.vm locs) : Go p e below FE QQ T (mkF m pc Ls (.int z :: rest)) := by
  obtain ⟨fs, hr, hrun, hended, hW, hsame⟩ := X.leave (v := some (.int z)) (fun h => by rw [hret] at h; cases h) hlk
  exact ⟨_, _, retOut X hx hret rfl (Or.inl ⟨rfl, Or.inl rfl, z, rfl⟩) hd hr, hrun, hended, _, _, rfl, hQ, hFE fs hW hsame⟩
theorem gRetA (X : Stand p l e R s m args below meth c T locs cells slots) (hx : p.tables.exec = Jvm.exec) (hlk : meth.locks = false) {w : Value} {t : FieldType} (hret : meth.sig.returnType = some t) (ht : t.isReference = true) (hn : narrow t w = w) (hw : w.isRef = true) (hd : decode c.code pc = .ok (.areturn, 1))
    (hFE : ∀ fs : List Frame, s.WarmedH (T.setFrames fs).vm → s.sameButNew ({ T.setFrames fs with vm := s.vm } : State) locs cells slots → FE (.returned (some w)) (T.setFrames fs) locs) (hQ : QQ (some w) T.heap T.vm locs) : Go p e below FE QQ T (mkF m pc Ls (w :: rest)) := by
  obtain ⟨fs, hr, hrun, hended, hW, hsame⟩ := X.leave (v := some w) (fun h => by rw [hret] at h; cases h) hlk
  exact ⟨_, _, retOut X hx hret hn (Or.inr (Or.inr (Or.inr (Or.inr ⟨rfl, ht, hw⟩)))) hd hr, hrun, hended, _, _, rfl, hQ, hFE fs hW hsame⟩
theorem gRetV (X : Stand p l e R s m args below meth c T locs cells slots) (hx : p.tables.exec = Jvm.exec) (hlk : meth.locks = false) (hret : meth.sig.returnType = none) (hd : decode c.code pc = .ok (.return_, 1))
    (hFE : ∀ fs : List Frame, s.WarmedH (T.setFrames fs).vm → s.sameButNew ({ T.setFrames fs with vm := s.vm } : State) locs cells slots → FE (.returned none) (T.setFrames fs) locs) (hQ : QQ none T.heap T.vm locs) : Go p e below FE QQ T (mkF m pc Ls []) := by
  obtain ⟨fs, hr, hrun, hended, hW, hsame⟩ := X.leave (v := none) (fun _ => rfl) hlk
  exact ⟨_, _, X.returnOut hx hret hd hr, hrun, hended, _, _, rfl, hQ, hFE fs hW hsame⟩
-- the plain steps
theorem gAloadN (X : Stand p l e R s m args below meth c T locs cells slots) (hx : p.tables.exec = Jvm.exec) {k : Fin 4} {v : Value} (hd : decode c.code pc = .ok (.aload_n k, 1)) (hl : Ls[k.val]? = some (.val v)) (hv : v.isRef = true)
    (kk : Go p e below FE QQ T (mkF m (pc + 1) Ls (v :: rest))) : Go p e below FE QQ T (mkF m pc Ls rest) := Go.st (fun _ => XS.aloadN X.here hx rfl hd hl hv) kk
theorem gAload (X : Stand p l e R s m args below meth c T locs cells slots) (hx : p.tables.exec = Jvm.exec) {k : Nat} {v : Value} (hd : decode c.code pc = .ok (.aload k, 2)) (hl : Ls[k]? = some (.val v)) (hv : v.isRef = true)
    (kk : Go p e below FE QQ T (mkF m (pc + 2) Ls (v :: rest))) : Go p e below FE QQ T (mkF m pc Ls rest) := Go.st (fun _ => XS.aload X.here hx rfl hd hl hv) kk
theorem gIloadN (X : Stand p l e R s m args below meth c T locs cells slots) (hx : p.tables.exec = Jvm.exec) {k : Fin 4} {v : Int32} (hd : decode c.code pc = .ok (.iload_n k, 1)) (hl : Ls[k.val]? = some (.val (.int v)))
    (kk : Go p e below FE QQ T (mkF m (pc + 1) Ls (.int v :: rest))) : Go p e below FE QQ T (mkF m pc Ls rest) := Go.st (fun _ => XS.iloadN X.here hx rfl hd hl) kk
theorem gIload (X : Stand p l e R s m args below meth c T locs cells slots) (hx : p.tables.exec = Jvm.exec) {k : Nat} {v : Int32} (hd : decode c.code pc = .ok (.iload k, 2)) (hl : Ls[k]? = some (.val (.int v)))
    (kk : Go p e below FE QQ T (mkF m (pc + 2) Ls (.int v :: rest))) : Go p e below FE QQ T (mkF m pc Ls rest) := Go.st (fun _ => XS.iload X.here hx rfl hd hl) kk
theorem gIconst (X : Stand p l e R s m args below meth c T locs cells slots) (hx : p.tables.exec = Jvm.exec) {i : Int} (v : Int32) (hd : decode c.code pc = .ok (.iconst i, 1)) (hv : Int32.ofInt i = v)
    (kk : Go p e below FE QQ T (mkF m (pc + 1) Ls (.int v :: rest))) : Go p e below FE QQ T (mkF m pc Ls rest) := by subst hv; exact Go.st (fun _ => XS.iconst X.here hx rfl hd) kk
theorem gBipush (X : Stand p l e R s m args below meth c T locs cells slots) (hx : p.tables.exec = Jvm.exec) {i : Int} (v : Int32) (hd : decode c.code pc = .ok (.bipush i, 2)) (hv : (Int8.ofInt i).toInt32 = v)
    (kk : Go p e below FE QQ T (mkF m (pc + 2) Ls (.int v :: rest))) : Go p e below FE QQ T (mkF m pc Ls rest) := by subst hv; exact Go.st (fun _ => XS.bipush X.here hx rfl hd) kk
theorem gSipush (X : Stand p l e R s m args below meth c T locs cells slots) (hx : p.tables.exec = Jvm.exec) {i : Int} (v : Int32) (hd : decode c.code pc = .ok (.sipush i, 3)) (hv : (Int16.ofInt i).toInt32 = v)
    (kk : Go p e below FE QQ T (mkF m (pc + 3) Ls (.int v :: rest))) : Go p e below FE QQ T (mkF m pc Ls rest) := by subst hv; exact Go.st (fun _ => XS.sipush X.here hx rfl hd) kk
theorem gNull (X : Stand p l e R s m args below meth c T locs cells slots) (hx : p.tables.exec = Jvm.exec) (hd : decode c.code pc = .ok (.aconst_null, 1))
    (kk : Go p e below FE QQ T (mkF m (pc + 1) Ls (.null :: rest))) : Go p e below FE QQ T (mkF m pc Ls rest) := Go.st (fun _ => XS.aconstNull X.here hx rfl hd) kk
theorem gLdc (X : Stand p l e R s m args below meth c T locs cells slots) (hx : p.tables.exec = Jvm.exec) (hZ : Z.Warmed39 s.vm) {own : String} {index : Nat} (v : Int32) (hown : s.vm.findClass own = some m.cls) (w : (Cond.constant own index v).before a0 Z = true) (hd : decode c.code pc = .ok (.ldc index, 2))
    (kk : Go p e below FE QQ T (mkF m (pc + 2) Ls (.int v :: rest))) : Go p e below FE QQ T (mkF m pc Ls rest) := Go.st (X.ldcInt hx hown (mvT hZ w) rfl hd) kk
theorem gIadd (X : Stand p l e R s m args below meth c T locs cells slots) (hx : p.tables.exec = Jvm.exec) {x y : Int32} (hd : decode c.code pc = .ok (.iadd, 1))
    (kk : Go p e below FE QQ T (mkF m (pc + 1) Ls (.int (x + y) :: rest))) : Go p e below FE QQ T (mkF m pc Ls (.int y :: .int x :: rest)) := Go.st (fun _ => XS.iadd X.here hx rfl hd rfl) kk
theorem gIsub (X : Stand p l e R s m args below meth c T locs cells slots) (hx : p.tables.exec = Jvm.exec) {x y : Int32} (hd : decode c.code pc = .ok (.isub, 1))
    (kk : Go p e below FE QQ T (mkF m (pc + 1) Ls (.int (x - y) :: rest))) : Go p e below FE QQ T (mkF m pc Ls (.int y :: .int x :: rest)) := Go.st (fun _ => XS.isub X.here hx rfl hd rfl) kk
theorem gIand (X : Stand p l e R s m args below meth c T locs cells slots) (hx : p.tables.exec = Jvm.exec) {x y : Int32} (hd : decode c.code pc = .ok (.iand, 1))
    (kk : Go p e below FE QQ T (mkF m (pc + 1) Ls (.int (x &&& y) :: rest))) : Go p e below FE QQ T (mkF m pc Ls (.int y :: .int x :: rest)) := Go.st (fun _ => XS.iand X.here hx rfl hd rfl) kk
theorem gImul (X : Stand p l e R s m args below meth c T locs cells slots) (hx : p.tables.exec = Jvm.exec) {x y : Int32} (hd : decode c.code pc = .ok (.imul, 1))
    (kk : Go p e below FE QQ T (mkF m (pc + 1) Ls (.int (x * y) :: rest))) : Go p e below FE QQ T (mkF m pc Ls (.int y :: .int x :: rest)) := Go.st (fun _ => XS.imul X.here hx rfl hd rfl) kk
theorem gIxor (X : Stand p l e R s m args below meth c T locs cells slots) (hx : p.tables.exec = Jvm.exec) {x y : Int32} (hd : decode c.code pc = .ok (.ixor, 1))
    (kk : Go p e below FE QQ T (mkF m (pc + 1) Ls (.int (x ^^^ y) :: rest))) : Go p e below FE QQ T (mkF m pc Ls (.int y :: .int x :: rest)) := Go.st (fun _ => XT.ixor X.here hx rfl hd rfl) kk
theorem gIshl (X : Stand p l e R s m args below meth c T locs cells slots) (hx : p.tables.exec = Jvm.exec) {x y : Int32} (hd : decode c.code pc = .ok (.ishl, 1))
    (kk : Go p e below FE QQ T (mkF m (pc + 1) Ls (.int (x <<< (y &&& 31)) :: rest))) : Go p e below FE QQ T (mkF m pc Ls (.int y :: .int x :: rest)) := Go.st (fun _ => XT.ishl X.here hx rfl hd rfl) kk
theorem gIshr (X : Stand p l e R s m args below meth c T locs cells slots) (hx : p.tables.exec = Jvm.exec) {x y : Int32} (hd : decode c.code pc = .ok (.ishr, 1))
    (kk : Go p e below FE QQ T (mkF m (pc + 1) Ls (.int (x >>> (y &&& 31)) :: rest))) : Go p e below FE QQ T (mkF m pc Ls (.int y :: .int x :: rest)) := Go.st (fun _ => XT.ishr X.here hx rfl hd rfl) kk
theorem gIushr (X : Stand p l e R s m args below meth c T locs cells slots) (hx : p.tables.exec = Jvm.exec) {x y : Int32} (hd : decode c.code pc = .ok (.iushr, 1))
    (kk : Go p e below FE QQ T (mkF m (pc + 1) Ls (.int (XT.ushr x y) :: rest))) : Go p e below FE QQ T (mkF m pc Ls (.int y :: .int x :: rest)) := Go.st (fun _ => XT.iushr X.here hx rfl hd rfl) kk
theorem gIrem (X : Stand p l e R s m args below meth c T locs cells slots) (hx : p.tables.exec = Jvm.exec) {x y : Int32} (hd : decode c.code pc = .ok (.irem, 1)) (hy : y ≠ 0)
    (kk : Go p e below FE QQ T (mkF m (pc + 1) Ls (.int (x % y) :: rest))) : Go p e below FE QQ T (mkF m pc Ls (.int y :: .int x :: rest)) := Go.st (fun _ => iremM X hx rfl hd rfl hy) kk
theorem gI2b (X : Stand p l e R s m args below meth c T locs cells slots) (hx : p.tables.exec = Jvm.exec) {x : Int32} (hd : decode c.code pc = .ok (.i2b, 1))
    (kk : Go p e below FE QQ T (mkF m (pc + 1) Ls (.int x.toInt8.toInt32 :: rest))) : Go p e below FE QQ T (mkF m pc Ls (.int x :: rest)) := Go.st (fun _ => XT.i2b X.here hx rfl hd rfl) kk
theorem gI2c (X : Stand p l e R s m args below meth c T locs cells slots) (hx : p.tables.exec = Jvm.exec) {x : Int32} (hd : decode c.code pc = .ok (.i2c, 1))
    (kk : Go p e below FE QQ T (mkF m (pc + 1) Ls (.int x.toUInt32.toUInt16.toUInt32.toInt32 :: rest))) : Go p e below FE QQ T (mkF m pc Ls (.int x :: rest)) := Go.st (fun _ => XT.i2c X.here hx rfl hd rfl) kk
theorem gDup (X : Stand p l e R s m args below meth c T locs cells slots) (hx : p.tables.exec = Jvm.exec) {x : Value} (hd : decode c.code pc = .ok (.dup, 1)) (hc : x.category = 1)
    (kk : Go p e below FE QQ T (mkF m (pc + 1) Ls (x :: x :: rest))) : Go p e below FE QQ T (mkF m pc Ls (x :: rest)) := Go.st (fun _ => XS.dup X.here hx rfl hd rfl hc) kk
theorem gPop (X : Stand p l e R s m args below meth c T locs cells slots) (hx : p.tables.exec = Jvm.exec) {x : Value} (hd : decode c.code pc = .ok (.pop, 1)) (hc : x.category = 1)
    (kk : Go p e below FE QQ T (mkF m (pc + 1) Ls rest)) : Go p e below FE QQ T (mkF m pc Ls (x :: rest)) := Go.st (fun _ => XT.pop X.here hx rfl hd rfl hc) kk
theorem gIstoreN (X : Stand p l e R s m args below meth c T locs cells slots) (hx : p.tables.exec = Jvm.exec) {k : Fin 4} {x : Int32} (l' : Array Slot) (hd : decode c.code pc = .ok (.istore_n k, 1)) (hl : storeLocals Ls k.val (.int x) = some l')
    (kk : Go p e below FE QQ T (mkF m (pc + 1) l' rest)) : Go p e below FE QQ T (mkF m pc Ls (.int x :: rest)) := Go.st (fun _ => XS.istoreN X.here hx rfl hd rfl hl) kk
theorem gIstore (X : Stand p l e R s m args below meth c T locs cells slots) (hx : p.tables.exec = Jvm.exec) {k : Nat} {x : Int32} (l' : Array Slot) (hd : decode c.code pc = .ok (.istore k, 2)) (hl : storeLocals Ls k (.int x) = some l')
    (kk : Go p e below FE QQ T (mkF m (pc + 2) l' rest)) : Go p e below FE QQ T (mkF m pc Ls (.int x :: rest)) := Go.st (fun _ => XS.istore X.here hx rfl hd rfl hl) kk
theorem gAstoreN (X : Stand p l e R s m args below meth c T locs cells slots) (hx : p.tables.exec = Jvm.exec) {k : Fin 4} {x : Value} (l' : Array Slot) (hd : decode c.code pc = .ok (.astore_n k, 1)) (hv : x.isRef = true) (hl : storeLocals Ls k.val x = some l')
    (kk : Go p e below FE QQ T (mkF m (pc + 1) l' rest)) : Go p e below FE QQ T (mkF m pc Ls (x :: rest)) := Go.st (fun _ => XS.astoreN X.here hx rfl hd rfl hv hl) kk
theorem gAstore (X : Stand p l e R s m args below meth c T locs cells slots) (hx : p.tables.exec = Jvm.exec) {k : Nat} {x : Value} (l' : Array Slot) (hd : decode c.code pc = .ok (.astore k, 2)) (hv : x.isRef = true) (hl : storeLocals Ls k x = some l')
    (kk : Go p e below FE QQ T (mkF m (pc + 2) l' rest)) : Go p e below FE QQ T (mkF m pc Ls (x :: rest)) := Go.st (fun _ => XS.astore X.here hx rfl hd rfl hv hl) kk
theorem gIinc (X : Stand p l e R s m args below meth c T locs cells slots) (hx : p.tables.exec = Jvm.exec) {k : Nat} {cst : Int} {x : Int32} (v : Int32) (l' : Array Slot) (hd : decode c.code pc = .ok (.iinc k cst, 3)) (hv : Int32.ofInt cst = v) (hl : Ls[k]? = some (.val (.int x))) (hl' : storeLocals Ls k (.int (x + v)) = some l')
    (kk : Go p e below FE QQ T (mkF m (pc + 3) l' rest)) : Go p e below FE QQ T (mkF m pc Ls rest) := by subst hv; exact Go.st (fun _ => XS.iinc X.here hx rfl hd hl hl') kk
theorem gGoto (X : Stand p l e R s m args below meth c T locs cells slots) (hx : p.tables.exec = Jvm.exec) {o : Int} (pc' : Nat) (hd : decode c.code pc = .ok (.goto o, 3)) (ho : 0 ≤ (pc : Int) + o) (hp : ((pc : Int) + o).toNat = pc')
    (kk : Go p e below FE QQ T (mkF m pc' Ls rest)) : Go p e below FE QQ T (mkF m pc Ls rest) := Go.st (fun _ => XS.goto X.here hx rfl (pc0 := pc) rfl hd ho hp) kk
-- the branches: both roads
theorem gIcmp (X : Stand p l e R s m args below meth c T locs cells slots) (hx : p.tables.exec = Jvm.exec) {cd : ClassFile.Cond} {x y : Int32} {o : Int} (pc' : Nat) (hd : decode c.code pc = .ok (.if_icmp cd o, 3)) (ho : 0 ≤ (pc : Int) + o) (hp : ((pc : Int) + o).toNat = pc')
    (kt : if_icmp.holds cd x y = true → Go p e below FE QQ T (mkF m pc' Ls rest)) (kf : if_icmp.holds cd x y = false → Go p e below FE QQ T (mkF m (pc + 3) Ls rest)) : Go p e below FE QQ T (mkF m pc Ls (.int y :: .int x :: rest)) := by
  cases hq : if_icmp.holds cd x y
  · exact Go.st (fun _ => XS.icmpNo X.here hx rfl hd rfl hq) (kf hq)
  · exact Go.st (fun _ => XS.icmpYes X.here hx rfl (pc0 := pc) rfl hd rfl hq ho hp) (kt hq)
theorem gIf (X : Stand p l e R s m args below meth c T locs cells slots) (hx : p.tables.exec = Jvm.exec) {cd : ClassFile.Cond} {x : Int32} {o : Int} (pc' : Nat) (hd : decode c.code pc = .ok (.ifCond cd o, 3)) (ho : 0 ≤ (pc : Int) + o) (hp : ((pc : Int) + o).toNat = pc')
    (kt : if_icmp.holds cd x 0 = true → Go p e below FE QQ T (mkF m pc' Ls rest)) (kf : if_icmp.holds cd x 0 = false → Go p e below FE QQ T (mkF m (pc + 3) Ls rest)) : Go p e below FE QQ T (mkF m pc Ls (.int x :: rest)) := by
  cases hq : if_icmp.holds cd x 0
  · exact Go.st (fun _ => XS.ifNo X.here hx rfl hd rfl ((if0 _ _).trans hq)) (kf hq)
  · exact Go.st (fun _ => XS.ifYes X.here hx rfl (pc0 := pc) rfl hd rfl ((if0 _ _).trans hq) ho hp) (kt hq)
theorem o_eqT {x y : Int32} (h : if_icmp.holds .eq x y = true) : x = y := Decidable.byContradiction fun q => by rw [(feq q).1] at h; cases h
theorem o_eqF {x y : Int32} (h : if_icmp.holds .eq x y = false) : ¬ x = y := fun q => by rw [(teq q).1] at h; cases h
theorem o_neT {x y : Int32} (h : if_icmp.holds .ne x y = true) : ¬ x = y := fun q => by rw [(teq q).2] at h; cases h
theorem o_neF {x y : Int32} (h : if_icmp.holds .ne x y = false) : x = y := Decidable.byContradiction fun q => by rw [(feq q).2] at h; cases h
theorem o_ltT {x y : Int32} (h : if_icmp.holds .lt x y = true) : x < y := Decidable.byContradiction fun q => by rw [(flt q).1] at h; cases h
theorem o_ltF {x y : Int32} (h : if_icmp.holds .lt x y = false) : ¬ x < y := fun q => by rw [(tlt q).1] at h; cases h
theorem o_geT {x y : Int32} (h : if_icmp.holds .ge x y = true) : ¬ x < y := fun q => by rw [(tlt q).2.1] at h; cases h
theorem o_geF {x y : Int32} (h : if_icmp.holds .ge x y = false) : x < y := Decidable.byContradiction fun q => by rw [(flt q).2.1] at h; cases h
theorem o_gtT {x y : Int32} (h : if_icmp.holds .gt x y = true) : y < x := Decidable.byContradiction fun q => by rw [(flt q).2.2.1] at h; cases h
theorem o_gtF {x y : Int32} (h : if_icmp.holds .gt x y = false) : ¬ y < x := fun q => by rw [(tlt q).2.2.1] at h; cases h
theorem o_leT {x y : Int32} (h : if_icmp.holds .le x y = true) : ¬ y < x := fun q => by rw [(tlt q).2.2.2] at h; cases h
theorem o_leF {x y : Int32} (h : if_icmp.holds .le x y = false) : y < x := Decidable.byContradiction fun q => by rw [(flt q).2.2.2] at h; cases h
-- calls, by the callee's contract
theorem gStatic (X : Stand p l e R s m args below meth c T locs cells slots) (hx : p.tables.exec = Jvm.exec) (hZ : Z.Warmed39 s.vm) {own : String} {index : Nat} {y : MethodName} {bytes : ByteArray} {maxL : Nat} {ret : Option FieldType} {rm : Room} {Q' : Option Value → Heap → List Loc → Prop} {argsL rest : List Value} {W : Nat}
    (hown : s.vm.findClass own = some m.cls) (hy : y.cls ≠ "java/lang/invoke/MethodHandle" ∧ y.cls ≠ "java/lang/invoke/VarHandle") (w1 : (Cond.methodLink own index y).before a0 Z = true) (w2 : (Cond.static y).before a0 Z = true) (w3 : (Cond.initialized y.cls).before a0 Z = true) (w4 : (Cond.code y bytes maxL ret).before a0 Z = true)
    (hM : Met l Z y bytes maxL ret [] rm argsL.toArray h Q') (eT : T.heap = h) (hsize : Ls.size = c.maxLocals) (hlen : ∀ sig, parseMethodDescriptor y.desc = some sig → argsL.length = sig.parameters.length) {st : List Value} (hst : st = argsL.reverse ++ rest) (hW : (rest.map fun v => v.category).sum ≤ W)
    (hf : rm.frames + 1 ≤ R.frames) (hl : W + (maxL + 11) + rm.locals ≤ R.locals) (hc : cells + rm.cells ≤ R.cells) (hs : slots + rm.slots ≤ R.slots) (hd : decode c.code pc = .ok (.invokestatic index, 3))
    (kk : ∀ (v : Option Value) (T' : State) (L : List Loc), Stand p l e R s m args below meth c T' (locs ++ L) (cells + rm.cells) (slots + rm.slots) → Q' v T'.heap L → Go p e below FE QQ T' (mkF m (pc + 3) Ls (v.toList ++ rest))) : Go p e below FE QQ T (mkF m pc Ls st) := by
  subst hst
  obtain ⟨v, vm₁, ⟨T', L', k', n'⟩, -, X', ⟨Lc, hQ, l1, y1, z1⟩, st⟩ := Jvm.LawKit.callS X hx (y := y) hown (mvT hZ w1) (mvT hZ w2) (mvT hZ w3) (mvT hZ w4) hy (backOf (W := W) hM hZ w4 w3 hf hl) (g := mkF m pc Ls (argsL.reverse ++ rest)) rfl hsize (argsL := argsL) (rest := rest) hlen rfl (by show 2 * 0 + _ ≤ _; omega) hd (fun _ _ => ⟨rfl, eT, hc, hs⟩)
  dsimp only [Pt.U, Pt.locs, Pt.cells, Pt.slots] at X' l1 y1 z1 st hQ
  subst l1 y1 z1
  exact Go.st st (kk v T' Lc X' hQ)
theorem gInit (X : Stand p l e R s m args below meth c T locs cells slots) (hx : p.tables.exec = Jvm.exec) (hZ : Z.Warmed39 s.vm) {own : String} {index : Nat} {y : MethodName} {bytes : ByteArray} {maxL : Nat} {rm : Room} {Q' : Option Value → Heap → List Loc → Prop} {a : Addr} {argsL rest : List Value} {W : Nat}
    (hown : s.vm.findClass own = some m.cls) (hy1 : y.name = "<init>") (hy : y.cls ≠ "java/lang/invoke/MethodHandle" ∧ y.cls ≠ "java/lang/invoke/VarHandle") (w1 : (Cond.methodLink own index y).before a0 Z = true) (w2 : (Cond.instanceMethod y).before a0 Z = true) (w3 : (Cond.initialized y.cls).before a0 Z = true) (w4 : (Cond.code y bytes maxL none).before a0 Z = true)
    (hM : Met l Z y bytes maxL none [] rm (.ref a :: argsL).toArray h Q') (eT : T.heap = h) (hsize : Ls.size = c.maxLocals) (hlen : ∀ sig, parseMethodDescriptor y.desc = some sig → argsL.length = sig.parameters.length) {st : List Value} (hst : st = argsL.reverse ++ .ref a :: rest) (hW : (rest.map fun v => v.category).sum ≤ W)
    (hf : rm.frames + 1 ≤ R.frames) (hl : W + (maxL + 11) + rm.locals ≤ R.locals) (hc : cells + rm.cells ≤ R.cells) (hs : slots + rm.slots ≤ R.slots) (hd : decode c.code pc = .ok (.invokespecial index, 3))
    (kk : ∀ (v : Option Value) (T' : State) (L : List Loc), Stand p l e R s m args below meth c T' (locs ++ L) (cells + rm.cells) (slots + rm.slots) → Q' v T'.heap L → Go p e below FE QQ T' (mkF m (pc + 3) Ls (v.toList ++ rest))) : Go p e below FE QQ T (mkF m pc Ls st) := by
  subst hst
  obtain ⟨v, vm₁, ⟨T', L', k', n'⟩, -, X', ⟨Lc, hQ, l1, y1, z1⟩, st⟩ := X.specialBack hx (y := y) hy1 hown (mvT hZ w1) (mvT hZ w2) (mvT hZ w4) hy (backOf (W := W) hM hZ w4 w3 hf hl) (g := mkF m pc Ls (argsL.reverse ++ .ref a :: rest)) rfl hsize (Steps.refl _) (a := a) (argsL := argsL) (rest := rest) hlen rfl (by show 2 * 0 + _ ≤ _; omega) hd (fun _ _ => ⟨rfl, eT, hc, hs⟩)
  dsimp only [Pt.U, Pt.locs, Pt.cells, Pt.slots] at X' l1 y1 z1 st hQ
  subst l1 y1 z1
  exact Go.tr st (kk v T' Lc X' hQ)
theorem gVirtual (X : Stand p l e R s m args below meth c T locs cells slots) (hx : p.tables.exec = Jvm.exec) (hZ : Z.Warmed39 s.vm) {own : String} {index : Nat} {y : MethodName} {bytes : ByteArray} {maxL : Nat} {ret : Option FieldType} {rm : Room} {Q' : Option Value → Heap → List Loc → Prop} {a : Addr} {argsL rest : List Value} {W : Nat}
    (hown : s.vm.findClass own = some m.cls) (hy : y.cls ≠ "java/lang/invoke/MethodHandle" ∧ y.cls ≠ "java/lang/invoke/VarHandle") (w1 : (Cond.methodLink own index y).before a0 Z = true) (w2 : (Cond.declares y).before a0 Z = true) (w5 : (Cond.instanceMethod y).before a0 Z = true) (w6 : (Cond.selects y.cls y y).before a0 Z = true) (w3 : (Cond.initialized y.cls).before a0 Z = true) (w4 : (Cond.code y bytes maxL ret).before a0 Z = true)
    (E : Exa Z h a y.cls) (hM : Met l Z y bytes maxL ret [] rm (.ref a :: argsL).toArray h Q') (eT : T.heap = h) (hsize : Ls.size = c.maxLocals) (hlen : ∀ sig, parseMethodDescriptor y.desc = some sig → argsL.length = sig.parameters.length) {st : List Value} (hst : st = argsL.reverse ++ .ref a :: rest) (hW : (rest.map fun v => v.category).sum ≤ W)
    (hf : rm.frames + 1 ≤ R.frames) (hl : W + (maxL + 11) + rm.locals ≤ R.locals) (hc : cells + rm.cells ≤ R.cells) (hs : slots + rm.slots ≤ R.slots) (hd : decode c.code pc = .ok (.invokevirtual index, 3))
    (kk : ∀ (v : Option Value) (T' : State) (L : List Loc), Stand p l e R s m args below meth c T' (locs ++ L) (cells + rm.cells) (slots + rm.slots) → Q' v T'.heap L → Go p e below FE QQ T' (mkF m (pc + 3) Ls (v.toList ++ rest))) : Go p e below FE QQ T (mkF m pc Ls st) := by
  subst hst
  obtain ⟨cq, kq, qa, qb, qc⟩ := isOf hZ eT E
  obtain ⟨v, vm₁, ⟨T', L', k', n'⟩, -, X', ⟨Lc, hQ, l1, y1, z1⟩, st⟩ := X.virtualBack hx (y := y) (z := y) hown (mvT hZ w1) (mvT hZ w2) (notFace_of_selects (args := #[]) (mvT hZ w6)) (mvT hZ w6) (mvT hZ w5) hy (backOf (W := W) hM hZ w4 w3 hf hl) qa qc (g := mkF m pc Ls (argsL.reverse ++ .ref a :: rest)) rfl hsize (Steps.refl _) (argsL := argsL) (rest := rest) hlen rfl (by show 2 * 0 + _ ≤ _; omega) hd (fun _ _ => ⟨rfl, eT, hc, hs⟩)
  dsimp only [Pt.U, Pt.locs, Pt.cells, Pt.slots] at X' l1 y1 z1 st hQ
  subst l1 y1 z1
  exact Go.tr st (kk v T' Lc X' hQ)
theorem gPrivate (X : Stand p l e R s m args below meth c T locs cells slots) (hx : p.tables.exec = Jvm.exec) (hZ : Z.Warmed39 s.vm) {own : String} {index : Nat} {y : MethodName} {bytes : ByteArray} {maxL : Nat} {ret : Option FieldType} {rm : Room} {Q' : Option Value → Heap → List Loc → Prop} {a : Addr} {C : String} {argsL rest : List Value} {W : Nat}
    (hown : s.vm.findClass own = some m.cls) (hy : y.cls ≠ "java/lang/invoke/MethodHandle" ∧ y.cls ≠ "java/lang/invoke/VarHandle") (w1 : (Cond.methodLink own index y).before a0 Z = true) (w2 : (Cond.instanceMethod y).before a0 Z = true) {kq : Nat} (w6 : (Cond.instantiable y.cls kq).before a0 Z = true) (w5 : (Cond.privateMethod y).before a0 Z = true) (w3 : (Cond.initialized y.cls).before a0 Z = true) (w4 : (Cond.code y bytes maxL ret).before a0 Z = true)
    (E : Exa Z h a C) (hM : Met l Z y bytes maxL ret [] rm (.ref a :: argsL).toArray h Q') (eT : T.heap = h) (hsize : Ls.size = c.maxLocals) (hlen : ∀ sig, parseMethodDescriptor y.desc = some sig → argsL.length = sig.parameters.length) {st : List Value} (hst : st = argsL.reverse ++ .ref a :: rest) (hW : (rest.map fun v => v.category).sum ≤ W)
    (hf : rm.frames + 1 ≤ R.frames) (hl : W + (maxL + 11) + rm.locals ≤ R.locals) (hc : cells + rm.cells ≤ R.cells) (hs : slots + rm.slots ≤ R.slots) (hd : decode c.code pc = .ok (.invokevirtual index, 3))
    (kk : ∀ (v : Option Value) (T' : State) (L : List Loc), Stand p l e R s m args below meth c T' (locs ++ L) (cells + rm.cells) (slots + rm.slots) → Q' v T'.heap L → Go p e below FE QQ T' (mkF m (pc + 3) Ls (v.toList ++ rest))) : Go p e below FE QQ T (mkF m pc Ls st) := by
  subst hst
  obtain ⟨cq, q1, q2⟩ := E.cell
  obtain ⟨ci, ki, hi1, hi2, -, hi3, -⟩ := Cond.instantiable_spec (mvT (args := #[]) hZ w6)
  have hsel : (Cond.selects y.cls y y).before args s = true := selects_self_of_private hi1 hi2 (by simpa using (Bool.or_eq_false_iff.mp hi3).1) (Cond.privateMethod_at (mvP hZ w5 (args := #[]))) (mvT hZ w2) hy
  obtain ⟨v, vm₁, ⟨T', L', k', n'⟩, -, X', ⟨Lc, hQ, l1, y1, z1⟩, st⟩ := X.privateBack hx (y := y) hown (mvT hZ w1) (mvT hZ w2) hsel (Cond.privateMethod_at (mvP hZ w5 (args := #[]))) (mvT hZ w4) hy (backOf (W := W) hM hZ w4 w3 hf hl) (g := mkF m pc Ls (argsL.reverse ++ .ref a :: rest)) rfl hsize (Steps.refl _) (a := a) (by rw [eT]; exact q1) q2 (argsL := argsL) (rest := rest) hlen rfl (by show 2 * 0 + _ ≤ _; omega) hd (fun _ _ => ⟨rfl, eT, hc, hs⟩)
  dsimp only [Pt.U, Pt.locs, Pt.cells, Pt.slots] at X' l1 y1 z1 st hQ
  subst l1 y1 z1
  exact Go.tr st (kk v T' Lc X' hQ)
theorem gObjInit (X : Stand p l e R s m args below meth c T locs cells slots) (hx : p.tables.exec = Jvm.exec) (hZ : Z.Warmed39 s.vm) {own : String} {idx : Nat} (hown : s.vm.findClass own = some m.cls) (w1 : (Cond.methodLink own idx Lib.objectInit).before a0 Z = true) (w2 : (Cond.instanceMethod Lib.objectInit).before a0 Z = true)
    (w3 : (Cond.code Lib.objectInit object_method_1_code 1 none).before a0 Z = true) (eT : T.heap = h) (hsize : Ls.size = c.maxLocals) {a : Addr} (hd : decode c.code pc = .ok (.invokespecial idx, 3)) (hf : 1 ≤ R.frames) {W : Nat} (hW : (rest.map fun v => v.category).sum ≤ W) (hl : W + 12 ≤ R.locals)
    (kk : ∀ T', Stand p l e R s m args below meth c T' locs cells slots → T'.heap = h → Go p e below FE QQ T' (mkF m (pc + 3) Ls rest)) : Go p e below FE QQ T (mkF m pc Ls (.ref a :: rest)) := by
  obtain ⟨T', X', e', st⟩ := initO X hx hZ hown w1 w2 w3 eT (g := mkF m pc Ls (.ref a :: rest)) rfl hsize rfl hd hf (W := W) (by show 2 * 0 + _ ≤ _; omega) hl
  exact Go.st st (kk T' X' e')
-- fields, new objects, arrays
theorem gGetF (X : Stand p l e R s m args below meth c T locs cells slots) (hx : p.tables.exec = Jvm.exec) (hZ : Z.Warmed39 s.vm) {own O n d : String} {index : Nat} (hown : s.vm.findClass own = some m.cls) (w : (Cond.fieldLink own index O n d).before a0 Z = true) (eT : T.heap = h) {a : Addr} {v : Value} (F : Fld Z h a O n d v) (hd : decode c.code pc = .ok (.getfield index, 3))
    (kk : ∀ T', Stand p l e R s m args below meth c T' locs cells slots → T'.heap = h → Go p e below FE QQ T' (mkF m (pc + 3) Ls (v :: rest))) : Go p e below FE QQ T (mkF m pc Ls (.ref a :: rest)) := by
  obtain ⟨T', X', e', st⟩ := getF X hx hZ hown (host := "") (Or.inl w) Via.refl eT F (g := mkF m pc Ls (.ref a :: rest)) rfl rfl hd
  exact Go.st st (kk T' X' e')
theorem gPutF (X : Stand p l e R s m args below meth c T locs cells slots) (hx : p.tables.exec = Jvm.exec) (hZ : Z.Warmed39 s.vm) {own O n d C : String} {index kq : Nat} {ty : FieldType} (hown : s.vm.findClass own = some m.cls) (w : (Cond.fieldLink own index O n d).before a0 Z = true) (eT : T.heap = h) {a : Addr} {v old : Value} (F : Fld Z h a O n d old) (E : Exa Z h a C)
    (L : (Cond.lays C O n d).before a0 Z = true ∨ ((Cond.laysFinal C O n d).before a0 Z = true ∧ own = O ∧ meth.name = "<init>")) (wi : (Cond.instantiable C kq).before a0 Z = true) (hty : parseFieldDescriptor d = some ty) (hn : narrow ty v = v) (hf : fits ty v = true) (hd : decode c.code pc = .ok (.putfield index, 3))
    (kk : ∀ T' h', Stand p l e R s m args below meth c T' (locs ++ [⟨a, Jvm.RoadKit.slotOf Z O n d⟩]) cells slots → T'.heap = h' → Wr h h' a (Jvm.RoadKit.slotOf Z O n d) v → Go p e below FE QQ T' (mkF m (pc + 3) Ls rest)) : Go p e below FE QQ T (mkF m pc Ls (v :: .ref a :: rest)) := by
  obtain ⟨T', h', X', e', W', st⟩ := putF X hx hZ hown (host := "") (Or.inl w) Via.refl eT F E L wi hty hn hf (g := mkF m pc Ls (v :: .ref a :: rest)) rfl rfl hd
  exact Go.st st (kk T' h' X' e' W')
theorem gPutFN (X : Stand p l e R s m args below meth c T locs cells slots) (hx : p.tables.exec = Jvm.exec) (hZ : Z.Warmed39 s.vm) {own O n d C : String} {index kq : Nat} {ty : FieldType} (hown : s.vm.findClass own = some m.cls) (w : (Cond.fieldLink own index O n d).before a0 Z = true) (eT : T.heap = h) {a : Addr} {v old : Value} (v' : Value) (F : Fld Z h a O n d old) (E : Exa Z h a C)
    (L : (Cond.lays C O n d).before a0 Z = true ∨ ((Cond.laysFinal C O n d).before a0 Z = true ∧ own = O ∧ meth.name = "<init>")) (wi : (Cond.instantiable C kq).before a0 Z = true) (hty : parseFieldDescriptor d = some ty) (hn : narrow ty v = v') (hf : fits ty v' = true) (hd : decode c.code pc = .ok (.putfield index, 3))
    (kk : ∀ T' h', Stand p l e R s m args below meth c T' (locs ++ [⟨a, Jvm.RoadKit.slotOf Z O n d⟩]) cells slots → T'.heap = h' → Wr h h' a (Jvm.RoadKit.slotOf Z O n d) v' → Go p e below FE QQ T' (mkF m (pc + 3) Ls rest)) : Go p e below FE QQ T (mkF m pc Ls (v :: .ref a :: rest)) := by
  obtain ⟨T', h', X', e', W', st⟩ := putFN X hx hZ hown w Via.refl eT F E L wi hty hn hf (g := mkF m pc Ls (v :: .ref a :: rest)) rfl rfl hd
  exact Go.st st (kk T' h' X' e' W')
theorem gNew (X : Stand p l e R s m args below meth c T locs cells slots) (hx : p.tables.exec = Jvm.exec) (hZ : Z.Warmed39 s.vm) {own C : String} {index n : Nat} (hown : s.vm.findClass own = some m.cls) (w : (Cond.classLink own index C).before a0 Z = true) (wi : (Cond.instantiable C n).before a0 Z = true) (wz : (Cond.initialized C).before a0 Z = true) (eT : T.heap = h)
    (hd : decode c.code pc = .ok (.new index, 3)) (hc : cells + 1 ≤ R.cells) (hl : slots + n ≤ R.slots)
    (kk : ∀ T' h' b, Stand p l e R s m args below meth c T' locs (cells + 1) (slots + n) → T'.heap = h' → Ext h h' → b = h.size → Exa Z h' b C → (∀ {O nm d : String} {ty : FieldType}, Laid Z a0 C O nm d → parseFieldDescriptor d = some ty → Fld Z h' b O nm d (defaultValue ty)) → Go p e below FE QQ T' (mkF m (pc + 3) Ls (.ref b :: rest))) : Go p e below FE QQ T (mkF m pc Ls rest) := by
  obtain ⟨T', h', X', e', E', A', D', -, st⟩ := newO X hx hZ hown w wi wz eT (g := mkF m pc Ls rest) rfl hd hc hl
  exact Go.st st (kk T' h' _ X' e' E' rfl A' D')
theorem gNewArr (X : Stand p l e R s m args below meth c T locs cells slots) (hx : p.tables.exec = Jvm.exec) (hZ : Z.Warmed39 s.vm) {aty : ArrayType} (w : (Cond.arrayClass (newarray.typeOf aty)).before a0 Z = true) (eT : T.heap = h) (hd : decode c.code pc = .ok (.newarray aty, 2)) {n : Int32} (hn : ¬ n < 0) {cap : Nat} (hcap : n.toNatClampNeg ≤ cap) (hb : cap * 8 ≤ 536870912) (hc : cells + 1 ≤ R.cells) (hl : slots + cap ≤ R.slots)
    (kk : ∀ T' h' b cA, Stand p l e R s m args below meth c T' locs (cells + 1) (slots + cap) → T'.heap = h' → Ext h h' → b = h.size → Arr Z h' b (newA cA (newarray.typeOf aty) n) (newarray.typeOf aty) → Go p e below FE QQ T' (mkF m (pc + 2) Ls (.ref b :: rest))) : Go p e below FE QQ T (mkF m pc Ls (.int n :: rest)) := by
  obtain ⟨T', h', cA, X', e', E', A', st⟩ := newP X hx hZ w eT (g := mkF m pc Ls (.int n :: rest)) rfl hd rfl hn (cap := cap) hcap hb hc hl
  exact Go.st st (kk T' h' _ cA X' e' E' rfl A')
/-- an array of ints (or of bytes): n places, the j-th holds f j -/
def IA (Z : State) (h : Heap) (a : Addr) (ty : FieldType) (n : Nat) (f : Nat → Int32) : Prop := ∃ cl : Cell, Arr Z h a cl ty ∧ cl.slots.size = n ∧ ∀ j, j < n → cl.slots[j]? = some (.int (f j))
def upd (f : Nat → Int32) (k : Nat) (v : Int32) : Nat → Int32 := fun j => if j = k then v else f j
theorem IA.lt {a : Addr} {ty : FieldType} {n : Nat} {f : Nat → Int32} (F : IA Z h a ty n f) : a < h.size := by obtain ⟨cl, A, -⟩ := F; exact A.lt
theorem IA.ext {h' : Heap} {a : Addr} {ty : FieldType} {n : Nat} {f : Nat → Int32} (F : IA Z h a ty n f) (E : Ext h h') : IA Z h' a ty n f := by obtain ⟨cl, A, r⟩ := F; exact ⟨cl, A.ext E, r⟩
theorem IA.other {h' : Heap} {a b : Addr} {sl : Nat} {v : Value} {ty : FieldType} {n : Nat} {f : Nat → Int32} (F : IA Z h a ty n f) (W : Wr h h' b sl v) (q : a ≠ b) : IA Z h' a ty n f := by obtain ⟨cl, A, r⟩ := F; exact ⟨cl, A.other W q, r⟩
theorem IA.keep {h' : Heap} {a : Addr} {ws : List Addr} {ty : FieldType} {n : Nat} {f : Nat → Int32} (F : IA Z h a ty n f) (K : Keep h h' ws) (q : a ∉ ws) : IA Z h' a ty n f := by
  obtain ⟨cl, A, r⟩ := F
  exact ⟨cl, ⟨K.2.1 a cl A.1 q, A.2⟩, r⟩
theorem IA.set {h' : Heap} {a : Addr} {k : Nat} {v : Int32} {ty : FieldType} {n : Nat} {f : Nat → Int32} (F : IA Z h a ty n f) (W : Wr h h' a k (.int v)) : IA Z h' a ty n (upd f k v) := by
  obtain ⟨cl, A, hs, hf⟩ := F
  refine ⟨_, A.same W, by rw [sz_set]; exact hs, fun j hj => ?_⟩
  show (cl.slots.setIfInBounds k (.int v))[j]? = _
  rw [Array.getElem?_setIfInBounds]
  by_cases q : k = j
  · subst q
    rw [if_pos rfl, if_pos (by rw [hs]; exact hj)]
    simp [upd]
  · rw [if_neg q, hf j hj]
    show _ = some (Value.int (if j = k then v else f j))
    rw [if_neg fun z => q z.symm]
theorem IA.congr {a : Addr} {ty : FieldType} {n : Nat} {f g : Nat → Int32} (F : IA Z h a ty n f) (q : ∀ j, j < n → f j = g j) : IA Z h a ty n g := by
  obtain ⟨cl, A, hs, hf⟩ := F
  exact ⟨cl, A, hs, fun j hj => by rw [hf j hj, q j hj]⟩
theorem IA.new {a : Addr} {cA : ClassId} {ty : FieldType} {z : Int32} (hty : defaultValue ty = .int 0) (A : Arr Z h a (newA cA ty z) ty) : IA Z h a ty z.toNatClampNeg (fun _ => 0) := by
  refine ⟨_, A, sz_new _ _ _, fun j hj => ?_⟩
  simp [newA, hj, hty]
theorem gIaload (X : Stand p l e R s m args below meth c T locs cells slots) (hx : p.tables.exec = Jvm.exec) (hZ : Z.Warmed39 s.vm) (eT : T.heap = h) {a : Addr} {n : Nat} {f : Nat → Int32} (F : IA Z h a .int n f) {j : Int32} (hj : ¬ j < 0 ∧ j.toNatClampNeg < n) (hd : decode c.code pc = .ok (.iaload, 1))
    (kk : Go p e below FE QQ T (mkF m (pc + 1) Ls (.int (f j.toNatClampNeg) :: rest))) : Go p e below FE QQ T (mkF m pc Ls (.int j :: .ref a :: rest)) := by
  obtain ⟨cl, A, hs, hf⟩ := F
  exact Go.st (X.iaload hx (j := j) (v := .int (f j.toNatClampNeg)) (by rw [eT]; exact A.1) (State.isArrayOf_alike hZ.alike A.2.1) A.2.2 (fun q => q.elim hj.1 fun r => absurd hj.2 (Nat.not_lt.mpr (hs ▸ r))) (hf _ hj.2) (g := mkF m pc Ls (.int j :: .ref a :: rest)) rfl rfl hd) kk
theorem gBaload (X : Stand p l e R s m args below meth c T locs cells slots) (hx : p.tables.exec = Jvm.exec) (hZ : Z.Warmed39 s.vm) (eT : T.heap = h) {a : Addr} {n : Nat} {f : Nat → Int32} (F : IA Z h a .byte n f) {j : Int32} (hj : ¬ j < 0 ∧ j.toNatClampNeg < n) (hd : decode c.code pc = .ok (.baload, 1))
    (kk : Go p e below FE QQ T (mkF m (pc + 1) Ls (.int (f j.toNatClampNeg) :: rest))) : Go p e below FE QQ T (mkF m pc Ls (.int j :: .ref a :: rest)) := by
  obtain ⟨cl, A, hs, hf⟩ := F
  exact Go.st (X.baloadBytes hx (j := j) (v := .int (f j.toNatClampNeg)) (by rw [eT]; exact A.1) (State.isArrayOf_alike hZ.alike A.2.1) A.2.2 (fun q => q.elim hj.1 fun r => absurd hj.2 (Nat.not_lt.mpr (hs ▸ r))) (hf _ hj.2) (g := mkF m pc Ls (.int j :: .ref a :: rest)) rfl rfl hd) kk
theorem gIastore (X : Stand p l e R s m args below meth c T locs cells slots) (hx : p.tables.exec = Jvm.exec) (hZ : Z.Warmed39 s.vm) (eT : T.heap = h) {a : Addr} {n : Nat} {f : Nat → Int32} (F : IA Z h a .int n f) {j x : Int32} (k : Nat) (hk : j.toNatClampNeg = k) (hj : ¬ j < 0 ∧ k < n) (hd : decode c.code pc = .ok (.iastore, 1))
    (kk : ∀ T' h', Stand p l e R s m args below meth c T' (locs ++ [⟨a, k⟩]) cells slots → T'.heap = h' → Wr h h' a k (.int x) → IA Z h' a .int n (upd f k x) → Go p e below FE QQ T' (mkF m (pc + 1) Ls rest)) : Go p e below FE QQ T (mkF m pc Ls (.int x :: .int j :: .ref a :: rest)) := by
  subst hk
  obtain ⟨cl, A, hs, hf⟩ := id F
  obtain ⟨T', h', X', e', W', st⟩ := stI X hx hZ eT A (j := j) (x := x) (fun q => q.elim hj.1 fun r => absurd hj.2 (Nat.not_lt.mpr (hs ▸ r))) (g := mkF m pc Ls (.int x :: .int j :: .ref a :: rest)) rfl rfl hd
  exact Go.st st (kk T' h' X' e' W' (F.set W'))
theorem gBastore (X : Stand p l e R s m args below meth c T locs cells slots) (hx : p.tables.exec = Jvm.exec) (hZ : Z.Warmed39 s.vm) (eT : T.heap = h) {a : Addr} {n : Nat} {f : Nat → Int32} (F : IA Z h a .byte n f) {j x : Int32} (k : Nat) (hk : j.toNatClampNeg = k) (hj : ¬ j < 0 ∧ k < n) (hd : decode c.code pc = .ok (.bastore, 1))
    (kk : ∀ T' h', Stand p l e R s m args below meth c T' (locs ++ [⟨a, k⟩]) cells slots → T'.heap = h' → Wr h h' a k (.int (nar .byte x)) → IA Z h' a .byte n (upd f k (nar .byte x)) → Go p e below FE QQ T' (mkF m (pc + 1) Ls rest)) : Go p e below FE QQ T (mkF m pc Ls (.int x :: .int j :: .ref a :: rest)) := by
  subst hk
  obtain ⟨cl, A, hs, hf⟩ := id F
  obtain ⟨T', h', X', e', W', st⟩ := stB X hx hZ eT A (j := j) (x := x) (fun q => q.elim hj.1 fun r => absurd hj.2 (Nat.not_lt.mpr (hs ▸ r))) (g := mkF m pc Ls (.int x :: .int j :: .ref a :: rest)) rfl rfl hd
  exact Go.st st (kk T' h' X' e' W' (F.set W'))
theorem gLength (X : Stand p l e R s m args below meth c T locs cells slots) (hx : p.tables.exec = Jvm.exec) (hZ : Z.Warmed39 s.vm) (eT : T.heap = h) {a : Addr} {ty : FieldType} {n : Nat} {f : Nat → Int32} (F : IA Z h a ty n f) (hd : decode c.code pc = .ok (.arraylength, 1))
    (kk : Go p e below FE QQ T (mkF m (pc + 1) Ls (.int n.toInt32 :: rest))) : Go p e below FE QQ T (mkF m pc Ls (.ref a :: rest)) := by
  obtain ⟨cl, A, hs, hf⟩ := F
  subst hs
  exact Go.st (X.arraylength hx (by rw [eT]; exact A.1) (State.isArrayOf_alike hZ.alike A.2.1) (g := mkF m pc Ls (.ref a :: rest)) rfl rfl hd) kk
theorem own_nb (x : Int32) : nar .byte x.toInt8.toInt32 = x.toInt8.toInt32 := by simp [nar]
theorem own_nz {b : Int32} (h : b = 0 ∨ b = 1) : narrow .boolean (.int b) = .int b := by rcases h with rfl | rfl <;> rfl
theorem own_fz {b : Int32} (h : b = 0 ∨ b = 1) : fits .boolean (.int b) = true := by rcases h with rfl | rfl <;> rfl
end OwnKit
section OwnMore
variable {p : Program} {l : Launch} {e : Env} {R : Room} {s : State} {m : MethodId} {args : Array Value} {below : List Frame} {meth : Method} {c : Code} {T T' : State} {locs : List Loc} {cells slots : Nat} {Z : State} {a0 : Array Value} {h : Heap} {FE : Outcome → State → List Loc → Prop} {QQ : Option Value → Heap → Vm → List Loc → Prop} {CC SS : Nat} {pc : Nat} {Ls : Array Slot} {rest : List Value}
theorem gGetS (X : Stand p l e R s m args below meth c T locs cells slots) (hx : p.tables.exec = Jvm.exec) (hZ : Z.Warmed39 s.vm) {own O n d : String} {index : Nat} (hown : s.vm.findClass own = some m.cls) (w : (Cond.fieldLink own index O n d).before a0 Z = true) (eT : T.heap = h) {v : Value} (F : Sta Z h O n d v) (hd : decode c.code pc = .ok (.getstatic index, 3))
    (kk : ∀ T', Stand p l e R s m args below meth c T' locs cells slots → T'.heap = h → Go p e below FE QQ T' (mkF m (pc + 3) Ls (v :: rest))) : Go p e below FE QQ T (mkF m pc Ls rest) := by
  obtain ⟨T', X', e', st⟩ := getS2 X hx hZ hown (host := "") (Or.inl w) Via.refl eT F (g := mkF m pc Ls rest) rfl hd
  exact Go.st st (kk T' X' e')
theorem gNewArrA (X : Stand p l e R s m args below meth c T locs cells slots) (hx : p.tables.exec = Jvm.exec) (hZ : Z.Warmed39 s.vm) {own C : String} {ty : FieldType} {index : Nat} (hown : s.vm.findClass own = some m.cls) (hC : (FieldType.array ty).toString = C) (w1 : (Cond.classLink own index C).before a0 Z = true) (w2 : (Cond.arrayOver (.array ty)).before a0 Z = true)
    (eT : T.heap = h) (hd : decode c.code pc = .ok (.anewarray index, 3)) {n : Int32} (hn : ¬ n < 0) {cap : Nat} (hcap : n.toNatClampNeg ≤ cap) (hb : cap * 8 ≤ 536870912) (hc : cells + 1 ≤ R.cells) (hl : slots + cap ≤ R.slots) {ad : String} (had : "[" ++ C = ad)
    (kk : ∀ T' h' b, Stand p l e R s m args below meth c T' locs (cells + 1) (slots + cap) → T'.heap = h' → Ext h h' → b = h.size → Go p e below FE QQ T' (mkF m (pc + 3) Ls (.ref b :: rest))) : Go p e below FE QQ T (mkF m pc Ls (.int n :: rest)) := by
  obtain ⟨T', h', cA, X', e', E', -, -, -, st⟩ := newRA X hx hZ hown hC w1 w2 eT (g := mkF m pc Ls (.int n :: rest)) rfl hd rfl hn (cap := cap) hcap hb hc hl had
  exact Go.st st (kk T' h' _ X' e' E' rfl)
theorem gInstNull (X : Stand p l e R s m args below meth c T locs cells slots) (hx : p.tables.exec = Jvm.exec) {index : Nat} (hd : decode c.code pc = .ok (.instanceof index, 3))
    (kk : Go p e below FE QQ T (mkF m (pc + 3) Ls (.int 0 :: rest))) : Go p e below FE QQ T (mkF m pc Ls (.null :: rest)) := Go.st (X.instanceofNull hx (g := mkF m pc Ls (.null :: rest)) rfl rfl hd) kk
theorem gInstY (X : Stand p l e R s m args below meth c T locs cells slots) (hx : p.tables.exec = Jvm.exec) (hZ : Z.Warmed39 s.vm) {own K : String} {index : Nat} (hown : s.vm.findClass own = some m.cls) (w : (Cond.classLink own index K).before a0 Z = true) (eT : T.heap = h) {a : Addr} (F : Ins Z h a K true) (hd : decode c.code pc = .ok (.instanceof index, 3))
    (kk : ∀ T', Stand p l e R s m args below meth c T' locs cells slots → T'.heap = h → Go p e below FE QQ T' (mkF m (pc + 3) Ls (.int 1 :: rest))) : Go p e below FE QQ T (mkF m pc Ls (.ref a :: rest)) := by
  obtain ⟨T', X', e', st⟩ := instY X hx hZ hown w eT F (g := mkF m pc Ls (.ref a :: rest)) rfl rfl hd
  exact Go.st st (kk T' X' e')
theorem gInstNo (X : Stand p l e R s m args below meth c T locs cells slots) (hx : p.tables.exec = Jvm.exec) (hZ : Z.Warmed39 s.vm) {own K C : String} {index : Nat} (hown : s.vm.findClass own = some m.cls) (w : (Cond.classLink own index K).before a0 Z = true) (eT : T.heap = h) {a : Addr} (E : Exa Z h a C) (F : ∃ c t, Z.vm.findClass C = some c ∧ Z.vm.findClass K = some t ∧ Z.vm.assignable c t = false) (hd : decode c.code pc = .ok (.instanceof index, 3))
    (kk : ∀ T', Stand p l e R s m args below meth c T' locs cells slots → T'.heap = h → Go p e below FE QQ T' (mkF m (pc + 3) Ls (.int 0 :: rest))) : Go p e below FE QQ T (mkF m pc Ls (.ref a :: rest)) := by
  obtain ⟨T', X', e', st⟩ := instNo X hx hZ hown w eT E F (g := mkF m pc Ls (.ref a :: rest)) rfl rfl hd
  exact Go.st st (kk T' X' e')
theorem gCast (X : Stand p l e R s m args below meth c T locs cells slots) (hx : p.tables.exec = Jvm.exec) (hZ : Z.Warmed39 s.vm) {own K : String} {index : Nat} (hown : s.vm.findClass own = some m.cls) (w : (Cond.classLink own index K).before a0 Z = true) (eT : T.heap = h) {a : Addr} (F : Ins Z h a K true) (hd : decode c.code pc = .ok (.checkcast index, 3))
    (kk : ∀ T', Stand p l e R s m args below meth c T' locs cells slots → T'.heap = h → Go p e below FE QQ T' (mkF m (pc + 3) Ls (.ref a :: rest))) : Go p e below FE QQ T (mkF m pc Ls (.ref a :: rest)) := by
  obtain ⟨T', X', e', st⟩ := castY X hx hZ hown w eT F (g := mkF m pc Ls (.ref a :: rest)) rfl rfl hd
  exact Go.st st (kk T' X' e')
theorem gAcmpNe (X : Stand p l e R s m args below meth c T locs cells slots) (hx : p.tables.exec = Jvm.exec) {a b : Addr} {o : Int} (pc' : Nat) (hd : decode c.code pc = .ok (.if_acmp .ne o, 3)) (ho : 0 ≤ (pc : Int) + o) (hp : ((pc : Int) + o).toNat = pc')
    (ke : a = b → Go p e below FE QQ T (mkF m (pc + 3) Ls rest)) (kn : ¬ a = b → Go p e below FE QQ T (mkF m pc' Ls rest)) : Go p e below FE QQ T (mkF m pc Ls (.ref b :: .ref a :: rest)) := by
  by_cases q : a = b
  · exact Go.st (fun _ => Jvm.RoadKit.acmp X hx rfl (x := .ref a) (y := .ref b) rfl rfl (pc0 := pc) (pc' := pc + 3) (same := true) rfl hd rfl (decide_eq_true (congrArg Value.ref q)) ho (by simp [acV])) (ke q)
  · exact Go.st (fun _ => Jvm.RoadKit.acmp X hx rfl (x := .ref a) (y := .ref b) rfl rfl (pc0 := pc) (pc' := pc') (same := false) rfl hd rfl (decide_eq_false fun z => q (Value.ref.inj z)) ho (by simp [acV, hp])) (kn q)
theorem gBox (X : Stand p l e R s m args below meth c T locs cells slots) (hx : p.tables.exec = Jvm.exec) (hZ : Z.Warmed39 s.vm) (eT : T.heap = h) {a : Addr} {cl : Cell} {K d : String} {z : Int32} {val : Int32 → Value} (F : Bxs Z a cl K d z val) (E : Ext Z.heap h) {j : Int32} (hj : ¬ j < 0 ∧ j.toNatClampNeg < z.toNatClampNeg) (hd : decode c.code pc = .ok (.aaload, 1))
    (kk : ∀ b, Exa Z h b K → Go p e below FE QQ T (mkF m (pc + 1) Ls (.ref b :: rest))) : Go p e below FE QQ T (mkF m pc Ls (.int j :: .ref a :: rest)) := by
  obtain ⟨A, hs, hz, hf⟩ := F
  have hin : ¬ (j < 0 ∨ cl.slots.size ≤ j.toNatClampNeg) := fun q => q.elim hj.1 fun r => absurd hj.2 (Nat.not_lt.mpr (hs ▸ r))
  obtain ⟨b, hb, Eb, -⟩ := hf j hin
  exact Go.st (X.aaload hx (j := j) (v := .ref b) (by rw [eT]; exact (A.ext E).1) (State.isArrayOf_alike hZ.alike A.2.1) rfl A.2.2 hin hb (g := mkF m pc Ls (.int j :: .ref a :: rest)) rfl rfl hd) (kk b (Eb.ext E))
theorem own_keepAny {h' : Heap} {a : Addr} {ws : List Addr} {C n d : String} {v : Value} (F : Fld Z h a C n d v) (K : Keep h h' ws) : ∃ w, Fld Z h' a C n d w := by
  obtain ⟨cell, cf, k, i, f, h1, h2, h3, h4, h5, h6, h7⟩ := F
  obtain ⟨c', q1, q2, q3, q4⟩ := K.2.2 a cell h1
  have hi : f.slot < c'.slots.size := by rw [q4]; exact (Array.getElem?_eq_some_iff.mp h7).1
  exact ⟨c'.slots[f.slot], c', cf, k, i, f, q1, h2, h3, by rw [q3]; exact h4, by rw [q3]; exact h5, by rw [q2]; exact h6, Array.getElem?_eq_getElem hi⟩
theorem own_no {C S O K : String} {n : Nat} (w1 : (Cond.superclass C S).before a0 Z = true) (w2 : (Cond.superclass S O).before a0 Z = true) (w3 : (Cond.noSuperclass O).before a0 Z = true) (wk : (Cond.instantiable K n).before a0 Z = true) (n1 : C ≠ K) (n2 : S ≠ K) (n3 : O ≠ K) : ∃ c t, Z.vm.findClass C = some c ∧ Z.vm.findClass K = some t ∧ Z.vm.assignable c t = false := by
  obtain ⟨t, kt, t1, t2, t3, t4, -⟩ := Cond.instantiable_spec wk
  have t5 : kt.isInterface = false := by cases z : kt.isInterface <;> simp_all
  obtain ⟨o, ko, o1, o2, o3, -, -⟩ := Cond.noSuperclass_spec w3
  obtain ⟨c, c0⟩ := found_sup w1
  obtain ⟨b, b0⟩ := found_sup w2
  obtain ⟨q1, kc, -, c1, c2, -, c4, c5, -⟩ := Cond.superclass_spec c0 w1
  obtain ⟨q2, kb, -, b1, b2, -, b4, b5, -⟩ := Cond.superclass_spec b0 w2
  cases b0.symm.trans c1
  cases o1.symm.trans b1
  have e1 := ids_ne c0 t1 n1
  have e2 := ids_ne b0 t1 n2
  have e3 := ids_ne o1 t1 n3
  have so : ∀ fuel, Z.vm.isSubclassAux fuel o t = false := fun fuel => by
    cases fuel with
    | zero => rfl
    | succ f => simp [Vm.isSubclassAux, e3, o2, o3]
  have sb : ∀ fuel, Z.vm.isSubclassAux fuel b t = false := fun fuel => by
    cases fuel with
    | zero => rfl
    | succ f => simp [Vm.isSubclassAux, e2, b2, b4, so]
  have sc : ∀ fuel, Z.vm.isSubclassAux fuel c t = false := fun fuel => by
    cases fuel with
    | zero => rfl
    | succ f => simp [Vm.isSubclassAux, e1, c2, c4, sb]
  refine ⟨c, t, c0, t1, ?_⟩
  show Z.vm.assignableAux (255 + 1) c t = false
  simp [Vm.assignableAux, e1, c2, t2, c5, t3, t5, Vm.isSubclass, sc]
end OwnMore
section OwnS
variable {p : Program} {l : Launch} {e : Env} {R : Room} {s : State} {m : MethodId} {args : Array Value} {below : List Frame} {meth : Method} {c : Code} {T T' : State} {locs : List Loc} {cells slots : Nat} {Z : State} {a0 : Array Value} {h : Heap} {FE : Outcome → State → List Loc → Prop} {QQ : Option Value → Heap → Vm → List Loc → Prop} {pc : Nat} {Ls : Array Slot} {rest : List Value} {vm0 : Vm} {k0 : Nat}
theorem own_backS {y : MethodName} {bytes : ByteArray} {maxL : Nat} {ret : Option FieldType} {rm : Room} {len W : Nat} {as' : Array Value} {PV : Vm → Prop} {Q : Option Value → Heap → Vm → List Loc → Prop} (hM : MetS l Z y bytes maxL ret [] rm as' h PV Q)
    (hZ : Z.Warmed39 s.vm) (wc : (Cond.code y bytes maxL ret).before a0 Z = true) (wz : (Cond.initialized y.cls).before a0 Z = true) (hf : rm.frames + 1 ≤ R.frames) (hl : W + (maxL + 11) + rm.locals ≤ R.locals) :
    BackS l R p e below s args y len W (fun A a => (a = as' ∧ A.U.heap = h ∧ PV A.U.vm) ∧ A.cells + rm.cells ≤ R.cells ∧ A.slots + rm.slots ≤ R.slots)
      (fun A _ v B => ∃ L, Q v B.U.heap B.U.vm L ∧ B.locs = A.locs ++ L ∧ B.cells = A.cells + rm.cells ∧ B.slots = A.slots + rm.slots) := by
  refine BackS.of_freeW (bytes := bytes) (maxL := maxL) (ret := ret) (E := fun _ _ o t L k n => ∃ v, o = .returned v ∧ Q v t.heap t.vm L ∧ k = rm.cells ∧ n = rm.slots) hM hf hl ?_ ?_ ?_ ?_ ?_
  · intro m meth c A a Y hp
    have hU : Z.Warmed39 A.U.vm := wtrans hZ Y.warmed
    refine ⟨?_, mv hU wc, mv hU wz, hp.2.1, hp.2.2⟩
    show (Cond.and _ .tt).before a A.U = true
    rw [Cond.before_and, mv hU wc]; rfl
  · intro m meth c A a g mk Y hp
    exact ⟨hp.1.1, wtrans hZ Y.warmed, hp.1.2.1, hp.1.2.2⟩
  · intros; trivial
  · rintro a first o t ⟨v, L, h1, h2, h3⟩
    exact ⟨L, _, _, h3, v, h1, h2, rfl, rfl⟩
  · rintro m meth c A a g mk v t L k n Y hp - - ⟨v', e3, e4, e1, e2⟩
    cases e3; subst e1 e2
    exact ⟨L, e4, rfl, rfl, rfl⟩
theorem gStaticS (X : Stand p l e R (s.setVm vm0) m args below meth c T locs cells slots) (hx : p.tables.exec = Jvm.exec) (hZ : Z.Warmed39 (s.setVm vm0).vm) {own : String} {index : Nat} {y : MethodName} {bytes : ByteArray} {maxL : Nat} {ret : Option FieldType} {rm : Room} {PV : Vm → Prop} {Q' : Option Value → Heap → Vm → List Loc → Prop} {argsL rest : List Value} {W : Nat}
    (hown : (s.setVm vm0).vm.findClass own = some m.cls) (hy : y.cls ≠ "java/lang/invoke/MethodHandle" ∧ y.cls ≠ "java/lang/invoke/VarHandle") (w1 : (Cond.methodLink own index y).before a0 Z = true) (w2 : (Cond.static y).before a0 Z = true) (w3 : (Cond.initialized y.cls).before a0 Z = true) (w4 : (Cond.code y bytes maxL ret).before a0 Z = true)
    (hS : s.Since vm0 k0) (hk : k0 ≤ h.size) (hM : MetS l Z y bytes maxL ret [] rm argsL.toArray h PV Q') (hPV : ∀ vm₁, (s.setVm vm0).WarmedH vm₁ → PV vm₁) (eT : T.heap = h) (hsize : Ls.size = c.maxLocals) (hlen : ∀ sig, parseMethodDescriptor y.desc = some sig → argsL.length = sig.parameters.length) {st : List Value} (hst : st = argsL.reverse ++ rest) (hW : (rest.map fun v => v.category).sum ≤ W)
    (hf : rm.frames + 1 ≤ R.frames) (hl : W + (maxL + 11) + rm.locals ≤ R.locals) (hc : cells + rm.cells ≤ R.cells) (hs : slots + rm.slots ≤ R.slots) (hd : decode c.code pc = .ok (.invokestatic index, 3))
    (kk : ∀ (v : Option Value) (T' : State) (L : List Loc), Stand p l e R (s.setVm T'.vm) m args below meth c T' (locs ++ L) (cells + rm.cells) (slots + rm.slots) → s.Since T'.vm T'.heap.size → Z.Warmed39 (s.setVm T'.vm).vm → (s.setVm T'.vm).vm.findClass own = some m.cls → h.size ≤ T'.heap.size → Q' v T'.heap T'.vm L → Go p e below FE QQ T' (mkF m (pc + 3) Ls (v.toList ++ rest))) : Go p e below FE QQ T (mkF m pc Ls st) := by
  subst hst eT
  obtain ⟨v, vm₁, ⟨T', L', k', n'⟩, -, X', hS', hg', ⟨Lc, hQ, l1, y1, z1⟩, st⟩ := callSS X hx (y := y) hown (mvT hZ w1) (mvT hZ w2) (mvT hZ w3) (mvT hZ w4) hy (own_backS (W := W) hM hZ w4 w3 hf hl) (g := mkF m pc Ls (argsL.reverse ++ rest)) rfl hsize (argsL := argsL) (rest := rest) hlen rfl (by show 2 * 0 + _ ≤ _; omega) hd (fun vm₁ hv => ⟨⟨rfl, rfl, hPV vm₁ hv⟩, hc, hs⟩)
  dsimp only [Pt.U, Pt.locs, Pt.cells, Pt.slots] at X' l1 y1 z1 st hQ hS' hg'
  subst l1 y1 z1
  obtain ⟨X2, hS2, hZ2, hown2⟩ := rebS (own := own) (Z := Z) hS hk X' hS' hg' hZ hown
  exact Go.tr st (kk v T' Lc X2 hS2 hZ2 hown2 hg' hQ)
theorem gInitS (X : Stand p l e R (s.setVm vm0) m args below meth c T locs cells slots) (hx : p.tables.exec = Jvm.exec) (hZ : Z.Warmed39 (s.setVm vm0).vm) {own : String} {index : Nat} {y : MethodName} {bytes : ByteArray} {maxL : Nat} {rm : Room} {PV : Vm → Prop} {Q' : Option Value → Heap → Vm → List Loc → Prop} {a : Addr} {argsL rest : List Value} {W : Nat}
    (hown : (s.setVm vm0).vm.findClass own = some m.cls) (hy1 : y.name = "<init>") (hy : y.cls ≠ "java/lang/invoke/MethodHandle" ∧ y.cls ≠ "java/lang/invoke/VarHandle") (w1 : (Cond.methodLink own index y).before a0 Z = true) (w2 : (Cond.instanceMethod y).before a0 Z = true) (w3 : (Cond.initialized y.cls).before a0 Z = true) (w4 : (Cond.code y bytes maxL none).before a0 Z = true)
    (hS : s.Since vm0 k0) (hk : k0 ≤ h.size) (hM : MetS l Z y bytes maxL none [] rm (.ref a :: argsL).toArray h PV Q') (hPV : ∀ vm₁, (s.setVm vm0).WarmedH vm₁ → PV vm₁) (eT : T.heap = h) (hsize : Ls.size = c.maxLocals) (hlen : ∀ sig, parseMethodDescriptor y.desc = some sig → argsL.length = sig.parameters.length) {st : List Value} (hst : st = argsL.reverse ++ .ref a :: rest) (hW : (rest.map fun v => v.category).sum ≤ W)
    (hf : rm.frames + 1 ≤ R.frames) (hl : W + (maxL + 11) + rm.locals ≤ R.locals) (hc : cells + rm.cells ≤ R.cells) (hs : slots + rm.slots ≤ R.slots) (hd : decode c.code pc = .ok (.invokespecial index, 3))
    (kk : ∀ (v : Option Value) (T' : State) (L : List Loc), Stand p l e R (s.setVm T'.vm) m args below meth c T' (locs ++ L) (cells + rm.cells) (slots + rm.slots) → s.Since T'.vm T'.heap.size → Z.Warmed39 (s.setVm T'.vm).vm → (s.setVm T'.vm).vm.findClass own = some m.cls → h.size ≤ T'.heap.size → Q' v T'.heap T'.vm L → Go p e below FE QQ T' (mkF m (pc + 3) Ls (v.toList ++ rest))) : Go p e below FE QQ T (mkF m pc Ls st) := by
  subst hst eT
  obtain ⟨v, vm₁, ⟨T', L', k', n'⟩, -, X', hS', hg', ⟨Lc, hQ, l1, y1, z1⟩, st⟩ := X.specialBackS hx (y := y) hy1 hown (mvT hZ w1) (mvT hZ w2) (mvT hZ w4) hy (own_backS (W := W) hM hZ w4 w3 hf hl) (g := mkF m pc Ls (argsL.reverse ++ .ref a :: rest)) rfl hsize (Steps.refl _) (a := a) (argsL := argsL) (rest := rest) hlen rfl (by show 2 * 0 + _ ≤ _; omega) hd (fun vm₁ hv => ⟨⟨rfl, rfl, hPV vm₁ hv⟩, hc, hs⟩)
  dsimp only [Pt.U, Pt.locs, Pt.cells, Pt.slots] at X' l1 y1 z1 st hQ hS' hg'
  subst l1 y1 z1
  obtain ⟨X2, hS2, hZ2, hown2⟩ := rebS (own := own) (Z := Z) hS hk X' hS' hg' hZ hown
  exact Go.tr st (kk v T' Lc X2 hS2 hZ2 hown2 hg' hQ)
theorem gLdcS (X : Stand p l e R (s.setVm vm0) m args below meth c T locs cells slots) (hx : p.tables.exec = Jvm.exec) (hZ : Z.Warmed39 (s.setVm vm0).vm) {own text : String} {index : Nat} (hown : (s.setVm vm0).vm.findClass own = some m.cls) (w : (Cond.stringLink own index text).before a0 Z = true) (wS : ∀ a ∈ Bundle.stringAtoms, a.before a0 Z = true)
    (eT : T.heap = h) (hS : s.Since vm0 k0) (hk : k0 ≤ h.size) (hd : decode c.code pc = .ok (.ldc index, 2)) {n : Nat} (hn : 4 * text.toList.length ≤ n) (hbig : n ≤ 536870912) (hc : cells + 2 ≤ R.cells) (hl : slots + (n + 4) ≤ R.slots)
    (kk : ∀ (a : Addr) (T' : State) (h' : Heap) (k1 : Nat), Stand p l e R (s.setVm T'.vm) m args below meth c T' locs (cells + 2) (slots + (n + 4)) → T'.heap = h' → Ext h h' → s.Since T'.vm k1 → k1 ≤ h'.size → Z.Warmed39 (s.setVm T'.vm).vm → (s.setVm T'.vm).vm.findClass own = some m.cls → Go p e below FE QQ T' (mkF m (pc + 2) Ls (.ref a :: rest))) : Go p e below FE QQ T (mkF m pc Ls rest) := by
  obtain ⟨a, T', h', k1, X', e', E', hS', hk', hZ', hown', st⟩ := ldcS X hx hZ hown w wS eT hS hk (g := mkF m pc Ls rest) rfl hd hn hbig hc hl
  exact Go.st st (kk a T' h' k1 X' e' E' hS' hk' hZ' hown')
theorem gLdcE (X : Stand p l e R (s.setVm vm0) m args below meth c T locs cells slots) (hx : p.tables.exec = Jvm.exec) (hZ : Z.Warmed39 (s.setVm vm0).vm) {own : String} {index : Nat} (hown : (s.setVm vm0).vm.findClass own = some m.cls) (w : (Cond.stringLink own index "").before a0 Z = true) (wS : ∀ a ∈ Bundle.stringAtoms, a.before a0 Z = true)
    (eT : T.heap = h) (hS : s.Since vm0 k0) (hk : k0 ≤ h.size) (N : Fr s.heap.size locs) (hkeep : ∀ (b : Addr) (cl : Cell), Z.heap[b]? = some cl → s.heap[b]? = some cl) (I : IB Z vm0 []) (hh : Jvm.Lit.constHeld Z own index) (hcw : Jvm.Lit.compactW.before a0 Z = true) (hd : decode c.code pc = .ok (.ldc index, 2)) (hc : cells + 2 ≤ R.cells) (hl : slots + 4 ≤ R.slots)
    (kk : ∀ (a : Addr) (T' : State) (h' : Heap) (k1 : Nat) (b : Addr) (k : ClassId), Stand p l e R (s.setVm T'.vm) m args below meth c T' locs (cells + 2) (slots + 4) → T'.heap = h' → Ext h h' → s.Since T'.vm k1 → k1 ≤ h'.size → Z.Warmed39 (s.setVm T'.vm).vm → (s.setVm T'.vm).vm.findClass own = some m.cls →
      Exa Z h' a "java/lang/String" → Fld Z h' a "java/lang/String" "coder" "B" (.int 0) → Fld Z h' a "java/lang/String" "value" "[B" (.ref b) → Arv Z h' b k .byte (0 : Int32) [] (.int 0) → Jvm.RoadKit.Lit (s.setVm T'.vm) own index a → Go p e below FE QQ T' (mkF m (pc + 2) Ls (.ref a :: rest))) : Go p e below FE QQ T (mkF m pc Ls rest) := by
  obtain ⟨a, T', h', k1, b, k, X', e', E', hS', hk', hZ', hown', f1, f2, f3, f4, -, -, -, f5, st⟩ := ldcSVL X hx hZ hown w wS eT hS hk N hkeep I (by simp) hh hcw (vs := []) (z := (0 : Int32)) ⟨by decide, rfl⟩ (by decide) rfl (g := mkF m pc Ls rest) rfl hd (n := 0) (by decide) (by decide) hc hl
  exact Go.st st (kk a T' h' k1 b k X' e' E' hS' hk' hZ' hown' f1 f2 f3 f4 f5)
theorem gLdcA (X : Stand p l e R (s.setVm vm0) m args below meth c T locs cells slots) (hx : p.tables.exec = Jvm.exec) (hZ : Z.Warmed39 (s.setVm vm0).vm) {own text : String} {index : Nat} (hown : (s.setVm vm0).vm.findClass own = some m.cls) (w : (Cond.stringLink own index text).before a0 Z = true) {a : Addr} (L : Jvm.RoadKit.Lit (s.setVm vm0) own index a) (hd : decode c.code pc = .ok (.ldc index, 2))
    (kk : Go p e below FE QQ T (mkF m (pc + 2) Ls (.ref a :: rest))) : Go p e below FE QQ T (mkF m pc Ls rest) := Go.st (ldcAgain X hx hZ hown w L (g := mkF m pc Ls rest) rfl hd) kk
end OwnS
section OwnX
variable {p : Program} {l : Launch} {e : Env} {R : Room} {s : State} {m : MethodId} {args : Array Value} {below : List Frame} {meth : Method} {c : Code} {T T' : State} {locs : List Loc} {cells slots : Nat} {Z : State} {a0 : Array Value} {h : Heap} {FE : Outcome → State → List Loc → Prop} {QQ : Option Value → Heap → Vm → List Loc → Prop} {pc : Nat} {Ls : Array Slot} {rest : List Value}
theorem gNonNull (X : Stand p l e R s m args below meth c T locs cells slots) (hx : p.tables.exec = Jvm.exec) {a : Addr} {o : Int} (pc' : Nat) (hd : decode c.code pc = .ok (.ifnonnull o, 3)) (ho : 0 ≤ (pc : Int) + o) (hp : ((pc : Int) + o).toNat = pc')
    (kk : Go p e below FE QQ T (mkF m pc' Ls rest)) : Go p e below FE QQ T (mkF m pc Ls (.ref a :: rest)) := Go.st (fun _ => XT.ifnonnullYes X.here hx rfl (pc0 := pc) rfl hd rfl ho hp) kk
theorem gAcmpNull (X : Stand p l e R s m args below meth c T locs cells slots) (hx : p.tables.exec = Jvm.exec) {a : Addr} {o : Int} (pc' : Nat) (hd : decode c.code pc = .ok (.if_acmp .ne o, 3)) (ho : 0 ≤ (pc : Int) + o) (hp : ((pc : Int) + o).toNat = pc')
    (kk : Go p e below FE QQ T (mkF m pc' Ls rest)) : Go p e below FE QQ T (mkF m pc Ls (.null :: .ref a :: rest)) :=
  Go.st (fun _ => Jvm.RoadKit.acmp X hx rfl (x := .ref a) (y := .null) rfl rfl (pc0 := pc) (pc' := pc') (same := false) rfl hd rfl (decide_eq_false nofun) ho (by simp [acV, hp])) kk
theorem gCharSet (X : Stand p l e R s m args below meth c T locs cells slots) (hx : p.tables.exec = Jvm.exec) (hZ : Z.Warmed39 s.vm) (eT : T.heap = h) {a : Addr} {k : ClassId} {n : Int32} {vs : List Value} {dv : Value} (F : Arv Z h a k .char n vs dv) {j x : Int32} (i : Nat) (hi : j.toNatClampNeg = i) (hj : ¬ j < 0 ∧ j < n) (hl : i < vs.length) (hd : decode c.code pc = .ok (.castore, 1))
    (kk : ∀ T' h', Stand p l e R s m args below meth c T' (locs ++ [⟨a, j.toNatClampNeg⟩]) cells slots → T'.heap = h' → Wr h h' a j.toNatClampNeg (.int (nar .char x)) → Arv Z h' a k .char n (vs.set i (.int (nar .char x))) dv → Go p e below FE QQ T' (mkF m (pc + 1) Ls rest)) : Go p e below FE QQ T (mkF m pc Ls (.int x :: .int j :: .ref a :: rest)) := by
  obtain ⟨cl, A, q1, S, q3, H, G⟩ := F
  obtain ⟨T', h', X', e', W', st⟩ := stC X hx hZ eT A (j := j) (x := x) (inb_of S hj) (g := mkF m pc Ls (.int x :: .int j :: .ref a :: rest)) rfl rfl hd
  exact Go.st st (kk T' h' X' e' W' (Arv.set A q1 S q3 H G (fits_nar_char _) W' i hi hl))
theorem gLenV (X : Stand p l e R s m args below meth c T locs cells slots) (hx : p.tables.exec = Jvm.exec) (hZ : Z.Warmed39 s.vm) (eT : T.heap = h) {a : Addr} {k : ClassId} {ty : FieldType} {n : Int32} {vs : List Value} {dv : Value} (F : Arv Z h a k ty n vs dv) (hd : decode c.code pc = .ok (.arraylength, 1))
    (kk : Go p e below FE QQ T (mkF m (pc + 1) Ls (.int n :: rest))) : Go p e below FE QQ T (mkF m pc Ls (.ref a :: rest)) := by
  obtain ⟨cl, A, q1, S, q3, H, G⟩ := F
  refine Go.st (X.arraylength hx (by rw [eT]; exact A.1) (State.isArrayOf_alike hZ.alike A.2.1) (g := mkF m pc Ls (.ref a :: rest)) rfl rfl hd) ?_
  rw [len_of S q3]
  exact kk
theorem gNewStr (X : Stand p l e R s m args below meth c T locs cells slots) (hx : p.tables.exec = Jvm.exec) (hZ : Z.Warmed39 s.vm) {own : String} {index : Nat} {bytes : ByteArray} {maxL : Nat} {W : Nat} (hown : s.vm.findClass own = some m.cls) (w1 : (Cond.methodLink own index (⟨"java/lang/String", "<init>", "([C)V"⟩ : MethodName)).before a0 Z = true) (w2 : (Cond.instanceMethod (⟨"java/lang/String", "<init>", "([C)V"⟩ : MethodName)).before a0 Z = true) (w4 : (Cond.code (⟨"java/lang/String", "<init>", "([C)V"⟩ : MethodName) bytes maxL none).before a0 Z = true)
    (hws : ∀ d ∈ StrChars.Road.words, d.before a0 Z = true) {kI : Nat} (wi : (Jvm.Cond.instantiable "java/lang/String" kI).before a0 Z = true) {x b : Addr} {kC : ClassId} {cs : List Int32} {d v0 c0 : Value} {z N : Int32} {n n0 : Nat} (hx0 : n0 ≤ x) (hh0 : n0 ≤ h.size) (E : Exa Z h x "java/lang/String") (V : Fld Z h x "java/lang/String" "value" "[B" v0) (C : Fld Z h x "java/lang/String" "coder" "B" c0) (K : Arv Z h b kC .char N (cs.map Value.int) d) (S : Sta Z h "java/lang/String" "COMPACT_STRINGS" "Z" (.int z)) (hz : ¬ z = 0)
    (hn : cs.length = n) (hN : N = Int32.ofNat n) (l0 : 0 < n) (l2 : n ≤ 4000) (hp : ∀ c ∈ cs, ¬ c < 0 ∧ ¬ (255 : Int32) < c) (hfr : 4 ≤ R.frames) (hlo : W + 65 ≤ R.locals) (eT : T.heap = h) (hsize : Ls.size = c.maxLocals) (hlen : ∀ sig, parseMethodDescriptor "([C)V" = some sig → [Value.ref b].length = sig.parameters.length) (hW : (rest.map fun v => v.category).sum ≤ W) (hc : cells + 1 ≤ R.cells) (hs : slots + n ≤ R.slots) (hd : decode c.code pc = .ok (.invokespecial index, 3))
    (kk : ∀ (T' : State) (L : List Loc), Stand p l e R s m args below meth c T' (locs ++ L) (cells + 1) (slots + n) → StrChars.Road.QV Z x N (cs.map (fun c => c.toInt8.toInt32)) h n0 none T'.heap L → Go p e below FE QQ T' (mkF m (pc + 3) Ls rest)) : Go p e below FE QQ T (mkF m pc Ls (.ref b :: .ref x :: rest)) := by
  obtain ⟨v, vm₁, ⟨T', L', k', n'⟩, -, X', ⟨Lc, hQ, l1, y1, z1⟩, st⟩ := X.specialBack hx (y := (⟨"java/lang/String", "<init>", "([C)V"⟩ : MethodName)) rfl hown (mvT hZ w1) (mvT hZ w2) (mvT hZ w4) (by decide) (StrChars.Road.backV (W := W) hZ hws wi hx0 hh0 E V C K S hz hn hN l0 l2 hp rfl hfr hlo) (g := mkF m pc Ls (.ref b :: .ref x :: rest)) rfl hsize (Steps.refl _) (a := x) (argsL := [.ref b]) (rest := rest) hlen rfl (by show 2 * 0 + _ ≤ _; omega) hd (fun _ _ => ⟨rfl, eT, hc, hs⟩)
  dsimp only [Pt.U, Pt.locs, Pt.cells, Pt.slots] at X' l1 y1 z1 st hQ
  subst l1 y1 z1
  obtain rfl : v = none := hQ.1
  exact Go.tr st (kk T' Lc X' hQ)
/-- a String as the laws ask it: its text cs, its bytes at t -/
def SO (Z : State) (h : Heap) (x t : Addr) (kb : ClassId) (cs : List Int32) : Prop := Exa Z h x "java/lang/String" ∧ Fld Z h x "java/lang/String" "value" "[B" (.ref t) ∧ Fld Z h x "java/lang/String" "coder" "B" (.int 0) ∧ Arv Z h t kb .byte (Int32.ofNat cs.length) (cs.map fun c => Value.int (StrChars.lo8 c)) (.int 0)
def OKcs (cs : List Int32) : Prop := (∀ c ∈ cs, ¬ c < 0 ∧ ¬ (255 : Int32) < c) ∧ cs.length ≤ 2
theorem OKcs.up {cs : List Int32} (h : OKcs cs) : ∀ c ∈ cs, ¬ c < 0 ∧ ¬ (65535 : Int32) < c := fun c hc => ⟨(h.1 c hc).1, fun q => (h.1 c hc).2 (by
  rw [Int32.lt_iff_toInt_lt] at q ⊢
  rw [show (65535 : Int32).toInt = 65535 from rfl] at q
  rw [show (255 : Int32).toInt = 255 from rfl]
  omega)⟩
theorem OKcs.cod {cs : List Int32} (h : OKcs cs) : StrChars.Road.CodA cs 0 (Int32.ofNat cs.length) (cs.map fun c => Value.int (StrChars.lo8 c)) := Or.inl ⟨rfl, rfl, rfl, fun c hc => (h.1 c hc).2⟩
theorem gStrEq (X : Stand p l e R s m args below meth c T locs cells slots) (hx : p.tables.exec = Jvm.exec) (hZ : Z.Warmed39 s.vm) {own : String} {index : Nat} {W : Nat} (hown : s.vm.findClass own = some m.cls) (w1 : (Cond.methodLink own index (⟨"java/lang/String", "equals", "(Ljava/lang/Object;)Z"⟩ : MethodName)).before a0 Z = true) (w2 : (Cond.declares (⟨"java/lang/String", "equals", "(Ljava/lang/Object;)Z"⟩ : MethodName)).before a0 Z = true) (w5 : (Cond.instanceMethod (⟨"java/lang/String", "equals", "(Ljava/lang/Object;)Z"⟩ : MethodName)).before a0 Z = true) (w6 : (Cond.selects "java/lang/String" (⟨"java/lang/String", "equals", "(Ljava/lang/Object;)Z"⟩ : MethodName) (⟨"java/lang/String", "equals", "(Ljava/lang/Object;)Z"⟩ : MethodName)).before a0 Z = true)
    (heq : ∀ d ∈ StrChars.Road.wordsEq, d.before a0 Z = true) {kI : Nat} (wi : (Jvm.Cond.instantiable "java/lang/String" kI).before a0 Z = true) {x t y t' : Addr} {kb kb' : ClassId} {cs ds : List Int32} (A : SO Z h x t kb cs) (B : SO Z h y t' kb' ds) (hcs : OKcs cs) (hds : OKcs ds) {z : Int32} (S : Sta Z h "java/lang/String" "COMPACT_STRINGS" "Z" (.int z)) (hz : ¬ z = 0) (hfr : 2 ≤ R.frames) (hlo : W + 28 ≤ R.locals)
    (eT : T.heap = h) (hsize : Ls.size = c.maxLocals) (hlen : ∀ sig, parseMethodDescriptor "(Ljava/lang/Object;)Z" = some sig → [Value.ref y].length = sig.parameters.length) (hW : (rest.map fun v => v.category).sum ≤ W) (hc : cells ≤ R.cells) (hs : slots ≤ R.slots) (hd : decode c.code pc = .ok (.invokevirtual index, 3))
    (kk : ∀ T', Stand p l e R s m args below meth c T' locs cells slots → T'.heap = h → Go p e below FE QQ T' (mkF m (pc + 3) Ls (.int (if cs = ds then (1 : Int32) else (0 : Int32)) :: rest))) : Go p e below FE QQ T (mkF m pc Ls (.ref y :: .ref x :: rest)) := by
  obtain ⟨E, V, C, K⟩ := A
  obtain ⟨E', V', C', K'⟩ := B
  obtain ⟨cq, kq, qa, qb, qc⟩ := isOf hZ eT E
  obtain ⟨v, vm₁, ⟨T', L', k', n'⟩, -, X', ⟨Lc, ⟨hQ, hL, hh⟩, l1, y1, z1⟩, st⟩ := X.virtualBack hx (y := (⟨"java/lang/String", "equals", "(Ljava/lang/Object;)Z"⟩ : MethodName)) (z := (⟨"java/lang/String", "equals", "(Ljava/lang/Object;)Z"⟩ : MethodName)) hown (mvT hZ w1) (mvT hZ w2) (notFace_of_selects (args := #[]) (mvT hZ w6)) (mvT hZ w6) (mvT hZ w5) (by decide) (StrChars.Road.eqW (W := W) hZ heq wi E V C K hcs.cod hcs.up (by have := hcs.2; omega) E' V' C' K' hds.cod hds.up (by have := hds.2; omega) S hz hfr hlo) qa qc (g := mkF m pc Ls (.ref y :: .ref x :: rest)) rfl hsize (Steps.refl _) (argsL := [.ref y]) (rest := rest) hlen rfl (by show 2 * 0 + _ ≤ _; omega) hd (fun _ _ => ⟨rfl, eT, hc, hs⟩)
  dsimp only [Pt.U, Pt.locs, Pt.cells, Pt.slots] at X' l1 y1 z1 st hQ hh
  subst hL l1 y1 z1
  rw [List.append_nil] at X'
  rcases hQ with ⟨rfl, q⟩ | ⟨rfl, q⟩
  · have k2 := kk T' X' hh
    rw [if_pos q] at k2
    exact Go.tr st k2
  · have k2 := kk T' X' hh
    rw [if_neg q] at k2
    exact Go.tr st k2
theorem own_noO {C O K : String} {n : Nat} (w1 : (Cond.superclass C O).before a0 Z = true) (w3 : (Cond.noSuperclass O).before a0 Z = true) (wk : (Cond.instantiable K n).before a0 Z = true) (n1 : C ≠ K) (n3 : O ≠ K) : ∃ c t, Z.vm.findClass C = some c ∧ Z.vm.findClass K = some t ∧ Z.vm.assignable c t = false := by
  obtain ⟨t, kt, t1, t2, t3, t4, -⟩ := Cond.instantiable_spec wk
  have t5 : kt.isInterface = false := by cases z : kt.isInterface <;> simp_all
  obtain ⟨o, ko, o1, o2, o3, -, -⟩ := Cond.noSuperclass_spec w3
  obtain ⟨c, c0⟩ := found_sup w1
  obtain ⟨q1, kc, -, c1, c2, -, c4, c5, -⟩ := Cond.superclass_spec c0 w1
  cases o1.symm.trans c1
  have e1 := ids_ne c0 t1 n1
  have e3 := ids_ne o1 t1 n3
  have so : ∀ fuel, Z.vm.isSubclassAux fuel o t = false := fun fuel => by
    cases fuel with
    | zero => rfl
    | succ f => simp [Vm.isSubclassAux, e3, o2, o3]
  have sc : ∀ fuel, Z.vm.isSubclassAux fuel c t = false := fun fuel => by
    cases fuel with
    | zero => rfl
    | succ f => simp [Vm.isSubclassAux, e1, c2, c4, so]
  refine ⟨c, t, c0, t1, ?_⟩
  show Z.vm.assignableAux (255 + 1) c t = false
  simp [Vm.assignableAux, e1, c2, t2, c5, t3, t5, Vm.isSubclass, sc]
end OwnX
theorem tw {a0 : Array Value} {Z : State} (hw : ∀ d ∈ tables_1, d.before a0 Z = true) (k : Nat) {d : Jvm.Cond} (h : tables_1[k]? = some d) : d.before a0 Z = true := hw _ (List.mem_of_getElem? h)
theorem own_ibw {Z s : State} {vm0 vm1 : Vm} (I : IB Z vm0 []) (h : (s.setVm vm0).WarmedH vm1) : IB Z vm1 [] := by
  obtain ⟨more, h1, h2⟩ := I
  exact ⟨more, by rw [h.interned_eq]; exact h1, h2⟩
def LitOK (Z : State) (vm : Vm) (h : Heap) (la lb : Addr) (lk : ClassId) : Prop := Jvm.RoadKit.Lit (Z.setVm vm) "java/lang/String" 7 la ∧ Exa Z h la "java/lang/String" ∧ Fld Z h la "java/lang/String" "value" "[B" (.ref lb) ∧ Fld Z h la "java/lang/String" "coder" "B" (.int (0 : Int32)) ∧ Arv Z h lb lk .byte (0 : Int32) [] (.int 0)
def LS (Z : State) (vm : Vm) (h : Heap) : Prop := IB Z vm [] ∨ ∃ la lb lk, LitOK Z vm h la lb lk
theorem own_lit {Z s : State} {vm0 vm1 : Vm} {la : Addr} (L : Jvm.RoadKit.Lit (Z.setVm vm0) "java/lang/String" 7 la) (h : (s.setVm vm0).WarmedH vm1) : Jvm.RoadKit.Lit (Z.setVm vm1) "java/lang/String" 7 la := Jvm.RoadKit.Lit.stays (s := s) L h.wide
theorem LS.go {Z s : State} {vm0 vm1 : Vm} {h h' : Heap} (L : LS Z vm0 h) (hW : (s.setVm vm0).WarmedH vm1) (K : Keep h h' []) : LS Z vm1 h' := by
  rcases L with I | ⟨la, lb, lk, l1, l2, l3, l4, l5⟩
  · exact Or.inl (own_ibw I hW)
  · exact Or.inr ⟨la, lb, lk, own_lit l1 hW, l2.keep K, l3.keep K nin0, l4.keep K nin0, l5.keep K nin0⟩
theorem LS.vm {Z s : State} {vm0 vm1 : Vm} {h : Heap} (L : LS Z vm0 h) (hW : (s.setVm vm0).WarmedH vm1) : LS Z vm1 h := L.go hW (Keep.refl _ _)
theorem own_ch {x : Int32} (h : ¬ x < 0 ∧ ¬ (255 : Int32) < x) : ¬ (nar .char x.toUInt32.toUInt16.toUInt32.toInt32) < 0 ∧ ¬ (255 : Int32) < (nar .char x.toUInt32.toUInt16.toUInt32.toInt32) := by
  have h1 := c_i2c x
  have h2 := c_i2c x.toUInt32.toUInt16.toUInt32.toInt32
  simp only [Int32.lt_iff_toInt_lt, show (0 : Int32).toInt = 0 from rfl, show (255 : Int32).toInt = 255 from rfl] at *
  show ¬ (x.toUInt32.toUInt16.toUInt32.toInt32.toUInt32.toUInt16.toUInt32.toInt32).toInt < 0 ∧ ¬ 255 < (x.toUInt32.toUInt16.toUInt32.toInt32.toUInt32.toUInt16.toUInt32.toInt32).toInt
  omega
theorem own_m255 (x : Int32) : ¬ (x &&& (255 : Int32)) < 0 ∧ ¬ (255 : Int32) < (x &&& (255 : Int32)) := by
  have h := c_mask x 255 8 (by decide) (by decide)
  rw [Int32.lt_iff_toInt_lt, Int32.lt_iff_toInt_lt, h, show (0 : Int32).toInt = 0 from rfl, show (255 : Int32).toInt = 255 from rfl]
  omega
theorem d0_0 : decode jdk_29_method_69_code 0 = .ok (.iload_n 0, 1) := by decide +kernel
theorem d0_1 : decode jdk_29_method_69_code 1 = .ok (.iload_n 1, 1) := by decide +kernel
theorem d0_2 : decode jdk_29_method_69_code 2 = .ok (.if_icmp .gt 7, 3) := by decide +kernel
theorem d0_5 : decode jdk_29_method_69_code 5 = .ok (.iload_n 0, 1) := by decide +kernel
theorem d0_6 : decode jdk_29_method_69_code 6 = .ok (.goto 4, 3) := by decide +kernel
theorem d0_9 : decode jdk_29_method_69_code 9 = .ok (.iload_n 1, 1) := by decide +kernel
theorem d0_10 : decode jdk_29_method_69_code 10 = .ok (.ireturn, 1) := by decide +kernel
theorem own_pn0 : plainFor (⟨"java/lang/Math", "min", "(II)I"⟩ : MethodName) = true := Jvm.Free.JP.mathPlain rfl (by decide +kernel)
theorem own_ef0 (p0 : Int32) (p1 : Int32) (m : MethodId) : entryFrame m #[(.int p0), (.int p1)] 2 = mkF m 0 #[.val (.int p0), .val (.int p1)] [] := by first | (simp [entryFrame, mkF, argsToLocals, Value.category]; done) | rfl
def own_min (p0 : Int32) (p1 : Int32) : Int32 := if p1 < p0 then p1 else p0
theorem own_pd0 : parseMethodDescriptor "(II)I" = some ⟨[.int, .int], some .int⟩ := by decide +kernel
set_option maxRecDepth 65536 in
set_option maxHeartbeats 40000000 in
theorem own_rm0 (l : Launch) (Z : State) (a0 : Array Value) (hw : ∀ d ∈ tables_1, d.before a0 Z = true) (p0 : Int32) (p1 : Int32) (h0 : Heap) (n0 : Nat) (Z0 : n0 ≤ h0.size)  :
    Met l Z (⟨"java/lang/Math", "min", "(II)I"⟩ : MethodName) jdk_29_method_69_code 2 (some .int) [] ({ frames := 0, cells := 0, slots := 0, locals := 0 } : Room) #[(.int p0), (.int p1)] h0 (fun v h L => v = some (.int (own_min p0 p1)) ∧ Fr n0 L ∧ h = h0) := by
  refine met_of (Ls := #[.val (.int p0), .val (.int p1)]) own_pn0 (own_ef0 p0 p1) ?_
  intro p e s m below meth c s₁ hx hby hml hown hnm hret hlk hZ X0 e0
  have N0 := Fr.nil n0
  have hq : own_min p0 p1 = (if p1 < p0 then p1 else p0) := rfl
  refine gIloadN X0 hx (hb hby d0_0) rfl ?_
  refine gIloadN X0 hx (hb hby d0_1) rfl ?_
  refine gIcmp X0 hx 9 (hb hby d0_2) (by decide) (by decide) (fun hT => ?_) (fun hT => ?_)
  · have hc1 := o_gtT hT
    have q2 := hq.trans (if_pos hc1)
    show Go _ _ _ _ _ s₁ (mkF m 9 #[.val (.int p0), .val (.int p1)] [])
    refine gIloadN X0 hx (hb hby d0_9) rfl ?_
    exact gRetI X0 hx hlk hret (hb hby d0_10) (feN (by decide) (by decide)) ⟨congrArg (fun z => some (Value.int z)) q2.symm, N0, e0⟩
  · have hc1 := o_gtF hT
    have q3 := hq.trans (if_neg hc1)
    show Go _ _ _ _ _ s₁ (mkF m 5 #[.val (.int p0), .val (.int p1)] [])
    refine gIloadN X0 hx (hb hby d0_5) rfl ?_
    refine gGoto X0 hx 10 (hb hby d0_6) (by decide) (by decide) ?_
    exact gRetI X0 hx hlk hret (hb hby d0_10) (feN (by decide) (by decide)) ⟨congrArg (fun z => some (Value.int z)) q3.symm, N0, e0⟩
theorem d1_0 : decode jdk_29_method_65_code 0 = .ok (.iload_n 0, 1) := by decide +kernel
theorem d1_1 : decode jdk_29_method_65_code 1 = .ok (.iload_n 1, 1) := by decide +kernel
theorem d1_2 : decode jdk_29_method_65_code 2 = .ok (.if_icmp .lt 7, 3) := by decide +kernel
theorem d1_5 : decode jdk_29_method_65_code 5 = .ok (.iload_n 0, 1) := by decide +kernel
theorem d1_6 : decode jdk_29_method_65_code 6 = .ok (.goto 4, 3) := by decide +kernel
theorem d1_9 : decode jdk_29_method_65_code 9 = .ok (.iload_n 1, 1) := by decide +kernel
theorem d1_10 : decode jdk_29_method_65_code 10 = .ok (.ireturn, 1) := by decide +kernel
theorem own_pn1 : plainFor (⟨"java/lang/Math", "max", "(II)I"⟩ : MethodName) = true := Jvm.Free.JP.mathPlain rfl (by decide +kernel)
theorem own_ef1 (p0 : Int32) (p1 : Int32) (m : MethodId) : entryFrame m #[(.int p0), (.int p1)] 2 = mkF m 0 #[.val (.int p0), .val (.int p1)] [] := by first | (simp [entryFrame, mkF, argsToLocals, Value.category]; done) | rfl
def own_max (p0 : Int32) (p1 : Int32) : Int32 := if p0 < p1 then p1 else p0
set_option maxRecDepth 65536 in
set_option maxHeartbeats 40000000 in
theorem own_rm1 (l : Launch) (Z : State) (a0 : Array Value) (hw : ∀ d ∈ tables_1, d.before a0 Z = true) (p0 : Int32) (p1 : Int32) (h0 : Heap) (n0 : Nat) (Z0 : n0 ≤ h0.size)  :
    Met l Z (⟨"java/lang/Math", "max", "(II)I"⟩ : MethodName) jdk_29_method_65_code 2 (some .int) [] ({ frames := 0, cells := 0, slots := 0, locals := 0 } : Room) #[(.int p0), (.int p1)] h0 (fun v h L => v = some (.int (own_max p0 p1)) ∧ Fr n0 L ∧ h = h0) := by
  refine met_of (Ls := #[.val (.int p0), .val (.int p1)]) own_pn1 (own_ef1 p0 p1) ?_
  intro p e s m below meth c s₁ hx hby hml hown hnm hret hlk hZ X0 e0
  have N0 := Fr.nil n0
  have hq : own_max p0 p1 = (if p0 < p1 then p1 else p0) := rfl
  refine gIloadN X0 hx (hb hby d1_0) rfl ?_
  refine gIloadN X0 hx (hb hby d1_1) rfl ?_
  refine gIcmp X0 hx 9 (hb hby d1_2) (by decide) (by decide) (fun hT => ?_) (fun hT => ?_)
  · have hc1 := o_ltT hT
    have q2 := hq.trans (if_pos hc1)
    show Go _ _ _ _ _ s₁ (mkF m 9 #[.val (.int p0), .val (.int p1)] [])
    refine gIloadN X0 hx (hb hby d1_9) rfl ?_
    exact gRetI X0 hx hlk hret (hb hby d1_10) (feN (by decide) (by decide)) ⟨congrArg (fun z => some (Value.int z)) q2.symm, N0, e0⟩
  · have hc1 := o_ltF hT
    have q3 := hq.trans (if_neg hc1)
    show Go _ _ _ _ _ s₁ (mkF m 5 #[.val (.int p0), .val (.int p1)] [])
    refine gIloadN X0 hx (hb hby d1_5) rfl ?_
    refine gGoto X0 hx 10 (hb hby d1_6) (by decide) (by decide) ?_
    exact gRetI X0 hx hlk hret (hb hby d1_10) (feN (by decide) (by decide)) ⟨congrArg (fun z => some (Value.int z)) q3.symm, N0, e0⟩
theorem d2_0 : decode jdk_42_method_149_code 0 = .ok (.aload_n 0, 1) := by decide +kernel
theorem d2_1 : decode jdk_42_method_149_code 1 = .ok (.invokespecial 1, 3) := by decide +kernel
theorem d2_4 : decode jdk_42_method_149_code 4 = .ok (.iload_n 3, 1) := by decide +kernel
theorem d2_5 : decode jdk_42_method_149_code 5 = .ok (.ifCond .ne 22, 3) := by decide +kernel
theorem d2_8 : decode jdk_42_method_149_code 8 = .ok (.aload_n 0, 1) := by decide +kernel
theorem d2_9 : decode jdk_42_method_149_code 9 = .ok (.ldc 7, 2) := by decide +kernel
theorem d2_11 : decode jdk_42_method_149_code 11 = .ok (.getfield 9, 3) := by decide +kernel
theorem d2_14 : decode jdk_42_method_149_code 14 = .ok (.putfield 9, 3) := by decide +kernel
theorem d2_17 : decode jdk_42_method_149_code 17 = .ok (.aload_n 0, 1) := by decide +kernel
theorem d2_18 : decode jdk_42_method_149_code 18 = .ok (.ldc 7, 2) := by decide +kernel
theorem d2_20 : decode jdk_42_method_149_code 20 = .ok (.getfield 15, 3) := by decide +kernel
theorem d2_23 : decode jdk_42_method_149_code 23 = .ok (.putfield 15, 3) := by decide +kernel
theorem d2_26 : decode jdk_42_method_149_code 26 = .ok (.return_, 1) := by decide +kernel
theorem d2_27 : decode jdk_42_method_149_code 27 = .ok (.getstatic 38, 3) := by decide +kernel
theorem d2_30 : decode jdk_42_method_149_code 30 = .ok (.ifCond .eq 28, 3) := by decide +kernel
theorem d2_33 : decode jdk_42_method_149_code 33 = .ok (.aload_n 1, 1) := by decide +kernel
theorem d2_34 : decode jdk_42_method_149_code 34 = .ok (.iload_n 2, 1) := by decide +kernel
theorem d2_35 : decode jdk_42_method_149_code 35 = .ok (.iload_n 3, 1) := by decide +kernel
theorem d2_36 : decode jdk_42_method_149_code 36 = .ok (.invokestatic 177, 3) := by decide +kernel
theorem d2_39 : decode jdk_42_method_149_code 39 = .ok (.astore 5, 2) := by decide +kernel
theorem d2_41 : decode jdk_42_method_149_code 41 = .ok (.aload_n 0, 1) := by decide +kernel
theorem d2_42 : decode jdk_42_method_149_code 42 = .ok (.aload 5, 2) := by decide +kernel
theorem d2_44 : decode jdk_42_method_149_code 44 = .ok (.iload_n 3, 1) := by decide +kernel
theorem d2_45 : decode jdk_42_method_149_code 45 = .ok (.invokestatic 47, 3) := by decide +kernel
theorem d2_48 : decode jdk_42_method_149_code 48 = .ok (.putfield 15, 3) := by decide +kernel
theorem d2_51 : decode jdk_42_method_149_code 51 = .ok (.aload_n 0, 1) := by decide +kernel
theorem d2_52 : decode jdk_42_method_149_code 52 = .ok (.aload 5, 2) := by decide +kernel
theorem d2_54 : decode jdk_42_method_149_code 54 = .ok (.putfield 9, 3) := by decide +kernel
theorem d2_57 : decode jdk_42_method_149_code 57 = .ok (.return_, 1) := by decide +kernel
theorem d2_58 : decode jdk_42_method_149_code 58 = .ok (.aload_n 0, 1) := by decide +kernel
theorem d2_59 : decode jdk_42_method_149_code 59 = .ok (.iconst 1, 1) := by decide +kernel
theorem d2_60 : decode jdk_42_method_149_code 60 = .ok (.putfield 15, 3) := by decide +kernel
theorem d2_63 : decode jdk_42_method_149_code 63 = .ok (.aload_n 0, 1) := by decide +kernel
theorem d2_64 : decode jdk_42_method_149_code 64 = .ok (.aload_n 1, 1) := by decide +kernel
theorem d2_65 : decode jdk_42_method_149_code 65 = .ok (.iload_n 2, 1) := by decide +kernel
theorem d2_66 : decode jdk_42_method_149_code 66 = .ok (.iload_n 3, 1) := by decide +kernel
theorem d2_67 : decode jdk_42_method_149_code 67 = .ok (.invokestatic 180, 3) := by decide +kernel
theorem d2_70 : decode jdk_42_method_149_code 70 = .ok (.putfield 9, 3) := by decide +kernel
theorem d2_73 : decode jdk_42_method_149_code 73 = .ok (.return_, 1) := by decide +kernel
theorem own_pn2 : plainFor (⟨"java/lang/String", "<init>", "([CIILjava/lang/Void;)V"⟩ : MethodName) = true := plainFor_of_name (by first | (simp [plainName, overriddenIn]; done) | decide +kernel)
theorem own_ef2 (r0 : Addr) (r1 : Addr) (p2 : Int32) (p3 : Int32) (r4 : Addr) (m : MethodId) : entryFrame m #[(.ref r0), (.ref r1), (.int p2), (.int p3), (.ref r4)] 6 = mkF m 0 #[.val (.ref r0), .val (.ref r1), .val (.int p2), .val (.int p3), .val (.ref r4), .unset] [] := by first | (simp [entryFrame, mkF, argsToLocals, Value.category]; done) | rfl
theorem own_ef2N (r0 r1 : Addr) (p2 : Int32) (m : MethodId) : entryFrame m #[(.ref r0), (.ref r1), (.int p2), (.int (0 : Int32)), .null] 6 = mkF m 0 #[.val (.ref r0), .val (.ref r1), .val (.int p2), .val (.int (0 : Int32)), .val .null, .unset] [] := by first | (simp [entryFrame, mkF, argsToLocals, Value.category]; done) | rfl
theorem own_pd1 : parseMethodDescriptor "([CIILjava/lang/Void;)V" = some ⟨[(.array .char), .int, .int, (.object "java/lang/Void")], none⟩ := by decide +kernel
set_option maxRecDepth 65536 in
set_option maxHeartbeats 40000000 in
theorem own_rm2E1 (l : Launch) (Z : State) (a0 : Array Value) (hw : ∀ d ∈ tables_1, d.before a0 Z = true) (r0 : Addr) (r1 : Addr) (p2 : Int32) (h0 : Heap) (n0 : Nat) (Z0 : n0 ≤ h0.size) (wS : ∀ a ∈ Bundle.stringAtoms, a.before a0 Z = true) (hh : Jvm.Lit.constHeld Z "java/lang/String" 7) (hcw : Jvm.Lit.compactW.before a0 Z = true) (O0 : Old Z n0 h0) (E0 : Exa Z h0 r0 "java/lang/String") (Fv : Fld Z h0 r0 "java/lang/String" "value" "[B" .null) (Fc : Fld Z h0 r0 "java/lang/String" "coder" "B" (.int (0 : Int32))) (g0 : n0 ≤ r0)  :
    MetS l Z (⟨"java/lang/String", "<init>", "([CIILjava/lang/Void;)V"⟩ : MethodName) jdk_42_method_149_code 6 none [] ({ frames := 1, cells := 2, slots := 4, locals := 12 } : Room) #[(.ref r0), (.ref r1), (.int p2), (.int (0 : Int32)), .null] h0 (fun vm => IB Z vm []) (fun v h vm L => v = none ∧ Fr n0 L ∧ Keep h0 h [r0] ∧ Exa Z h r0 "java/lang/String" ∧ ∃ (la lb : Addr) (lk : ClassId), Fld Z h r0 "java/lang/String" "value" "[B" (.ref lb) ∧ Fld Z h r0 "java/lang/String" "coder" "B" (.int (0 : Int32)) ∧ LitOK Z vm h la lb lk) := by
  refine metS_of (Ls := #[.val (.ref r0), .val (.ref r1), .val (.int p2), .val (.int (0 : Int32)), .val .null, .unset]) own_pn2 (own_ef2N r0 r1 p2) ?_
  intro p e s m below meth c s₁ hx hby hml hown hnm hret hlk hZ X0 e0 hPV hsh hS
  have N0 := Fr.nil n0
  have hk : 0 ≤ h0.size := Nat.zero_le _
  refine gAloadN X0 hx (hb hby d2_0) rfl rfl ?_
  refine gObjInit X0 hx hZ hown (tw hw 19 rfl) (tw hw 20 rfl) (tw hw 21 rfl) e0 (by rw [hml]; rfl) (hb hby d2_1) (by decide) (W := 0) (Nat.le_of_eq rfl) (by decide) ?_
  intro T1 X1 e1
  show Go _ _ _ _ _ T1 (mkF m 4 #[.val (.ref r0), .val (.ref r1), .val (.int p2), .val (.int (0 : Int32)), .val .null, .unset] [])
  refine gIloadN X1 hx (hb hby d2_4) rfl ?_
  refine gIf X1 hx 27 (hb hby d2_5) (by decide) (by decide) (fun q => absurd (by decide) (o_neT q)) (fun _ => ?_)
  show Go _ _ _ _ _ T1 (mkF m 8 #[.val (.ref r0), .val (.ref r1), .val (.int p2), .val (.int (0 : Int32)), .val .null, .unset] [])
  refine gAloadN X1 hx (hb hby d2_8) rfl rfl ?_
  refine gLdcE X1 hx hZ hown (tw hw 22 rfl) wS e1 hS hk (Fr.nil _) (fun b cl q => by rw [hsh]; exact O0.2.2 b cl q) hPV hh hcw (hb hby d2_9) (by decide) (by decide) ?_
  intro la T2 h2 k1 lb lk X2 e2 E2 hS hk hZ hown LE LC LV LA LL
  have E0__2 := E0.ext E2
  have Fv__2 := Fv.ext E2
  have Fc__2 := Fc.ext E2
  have Z_2 := Nat.le_trans Z0 E2.1
  have O_2 := O0.ext E2
  have K_2 : Keep h0 h2 [r0] := (Keep.refl h0 [r0]).ext E2
  have ne_la_r0 : la ≠ r0 := Jvm.RoadKit.Fld.ne LV Fv__2 (by simp)
  have ne_lb_r0 : lb ≠ r0 := (Jvm.RoadKit.Exa.neArv E0__2 LA (tw hw 9 rfl)).symm
  show Go _ _ _ _ _ T2 (mkF m 11 #[.val (.ref r0), .val (.ref r1), .val (.int p2), .val (.int (0 : Int32)), .val .null, .unset] [(.ref la), (.ref r0)])
  refine gGetF X2 hx hZ hown (tw hw 28 rfl) e2 LV (hb hby d2_11) ?_
  intro T3 X3 e3
  show Go _ _ _ _ _ T3 (mkF m 14 #[.val (.ref r0), .val (.ref r1), .val (.int p2), .val (.int (0 : Int32)), .val .null, .unset] [(.ref lb), (.ref r0)])
  refine gPutF X3 hx hZ hown (tw hw 28 rfl) e3 Fv__2 E0__2 (Or.inr ⟨(tw hw 24 rfl), rfl, hnm⟩) (tw hw 9 rfl) (ty := (.array .byte)) (by decide) rfl rfl (hb hby d2_14) ?_
  intro T4 h4 X4 e4 W4
  have Fv__4 := Fv__2.same W4
  have E0__4 := E0__2.wr W4
  have Fc__4 := Fc__2.other W4 (Or.inr (slot_ne (Or.inr (tw hw 25 rfl)) (Or.inr (tw hw 24 rfl)) (by decide) (t := .byte) (t' := (.array .byte)) (by decide) (by decide)))
  have LE__4 := LE.wr W4
  have LV__4 := LV.other W4 (Or.inl ne_la_r0)
  have LC__4 := LC.other W4 (Or.inl ne_la_r0)
  have LA__4 := LA.other W4 ne_lb_r0
  have Z_4 := Nat.le_trans Z_2 (Nat.le_of_eq W4.size.symm)
  have O_4 := O_2.wr W4 g0
  have hk := Nat.le_trans hk (Nat.le_of_eq W4.size.symm)
  have K_4 : Keep h0 h4 [r0] := K_2.wr W4 (Or.inl (List.mem_of_getElem? (i := 0) rfl))
  have N_4 := Fr.snoc X4 N0 g0
  show Go _ _ _ _ _ T4 (mkF m 17 #[.val (.ref r0), .val (.ref r1), .val (.int p2), .val (.int (0 : Int32)), .val .null, .unset] [])
  refine gAloadN X4 hx (hb hby d2_17) rfl rfl ?_
  refine gLdcA X4 hx hZ hown (tw hw 22 rfl) LL (hb hby d2_18) ?_
  show Go _ _ _ _ _ T4 (mkF m 20 #[.val (.ref r0), .val (.ref r1), .val (.int p2), .val (.int (0 : Int32)), .val .null, .unset] [(.ref la), (.ref r0)])
  refine gGetF X4 hx hZ hown (tw hw 29 rfl) e4 LC__4 (hb hby d2_20) ?_
  intro T5 X5 e5
  show Go _ _ _ _ _ T5 (mkF m 23 #[.val (.ref r0), .val (.ref r1), .val (.int p2), .val (.int (0 : Int32)), .val .null, .unset] [(.int (0 : Int32)), (.ref r0)])
  refine gPutFN X5 hx hZ hown (tw hw 29 rfl) e5 (.int (0 : Int32)) Fc__4 E0__4 (Or.inr ⟨(tw hw 25 rfl), rfl, hnm⟩) (tw hw 9 rfl) (ty := .byte) (by decide) rfl rfl (hb hby d2_23) ?_
  intro T6 h6 X6 e6 W6
  have Fc__6 := Fc__4.same W6
  have E0__6 := E0__4.wr W6
  have Fv__6 := Fv__4.other W6 (Or.inr (slot_ne (Or.inr (tw hw 24 rfl)) (Or.inr (tw hw 25 rfl)) (by decide) (t := (.array .byte)) (t' := .byte) (by decide) (by decide)))
  have LE__6 := LE__4.wr W6
  have LV__6 := LV__4.other W6 (Or.inl ne_la_r0)
  have LC__6 := LC__4.other W6 (Or.inl ne_la_r0)
  have LA__6 := LA__4.other W6 ne_lb_r0
  have Z_6 := Nat.le_trans Z_4 (Nat.le_of_eq W6.size.symm)
  have O_6 := O_4.wr W6 g0
  have hk := Nat.le_trans hk (Nat.le_of_eq W6.size.symm)
  have K_6 : Keep h0 h6 [r0] := K_4.wr W6 (Or.inl (List.mem_of_getElem? (i := 0) rfl))
  have N_6 := Fr.snoc X6 N_4 g0
  show Go _ _ _ _ _ T6 (mkF m 26 #[.val (.ref r0), .val (.ref r1), .val (.int p2), .val (.int (0 : Int32)), .val .null, .unset] [])
  subst e6
  exact gRetV X6 hx hlk hret (hb hby d2_26) (feS hS hk (by decide) (by decide)) ⟨rfl, N_6, K_6, E0__6, la, lb, lk, Fv__6, Fc__6, own_lit (s := s) LL X6.warmed, LE__6, LV__6, LC__6, LA__6⟩
set_option maxRecDepth 65536 in
set_option maxHeartbeats 40000000 in
theorem own_rm2E2 (l : Launch) (Z : State) (a0 : Array Value) (hw : ∀ d ∈ tables_1, d.before a0 Z = true) (r0 : Addr) (r1 : Addr) (p2 : Int32) (h0 : Heap) (n0 : Nat) (Z0 : n0 ≤ h0.size) (wS : ∀ a ∈ Bundle.stringAtoms, a.before a0 Z = true) (hh : Jvm.Lit.constHeld Z "java/lang/String" 7) (hcw : Jvm.Lit.compactW.before a0 Z = true) (O0 : Old Z n0 h0) (E0 : Exa Z h0 r0 "java/lang/String") (Fv : Fld Z h0 r0 "java/lang/String" "value" "[B" .null) (Fc : Fld Z h0 r0 "java/lang/String" "coder" "B" (.int (0 : Int32))) (g0 : n0 ≤ r0) (la lb : Addr) (lk : ClassId) (LE : Exa Z h0 la "java/lang/String") (LV : Fld Z h0 la "java/lang/String" "value" "[B" (.ref lb)) (LC : Fld Z h0 la "java/lang/String" "coder" "B" (.int (0 : Int32))) (LA : Arv Z h0 lb lk .byte (0 : Int32) [] (.int 0))  :
    MetS l Z (⟨"java/lang/String", "<init>", "([CIILjava/lang/Void;)V"⟩ : MethodName) jdk_42_method_149_code 6 none [] ({ frames := 1, cells := 2, slots := 4, locals := 12 } : Room) #[(.ref r0), (.ref r1), (.int p2), (.int (0 : Int32)), .null] h0 (fun vm => Jvm.RoadKit.Lit (Z.setVm vm) "java/lang/String" 7 la) (fun v h vm L => v = none ∧ Fr n0 L ∧ Keep h0 h [r0] ∧ Exa Z h r0 "java/lang/String" ∧ ∃ (la lb : Addr) (lk : ClassId), Fld Z h r0 "java/lang/String" "value" "[B" (.ref lb) ∧ Fld Z h r0 "java/lang/String" "coder" "B" (.int (0 : Int32)) ∧ LitOK Z vm h la lb lk) := by
  refine metS_of (Ls := #[.val (.ref r0), .val (.ref r1), .val (.int p2), .val (.int (0 : Int32)), .val .null, .unset]) own_pn2 (own_ef2N r0 r1 p2) ?_
  intro p e s m below meth c s₁ hx hby hml hown hnm hret hlk hZ X0 e0 hPV hsh hS
  have N0 := Fr.nil n0
  have hk : 0 ≤ h0.size := Nat.zero_le _
  have ne_la_r0 : la ≠ r0 := Jvm.RoadKit.Fld.ne LV Fv (by simp)
  have ne_lb_r0 : lb ≠ r0 := (Jvm.RoadKit.Exa.neArv E0 LA (tw hw 9 rfl)).symm
  refine gAloadN X0 hx (hb hby d2_0) rfl rfl ?_
  refine gObjInit X0 hx hZ hown (tw hw 19 rfl) (tw hw 20 rfl) (tw hw 21 rfl) e0 (by rw [hml]; rfl) (hb hby d2_1) (by decide) (W := 0) (Nat.le_of_eq rfl) (by decide) ?_
  intro T1 X1 e1
  show Go _ _ _ _ _ T1 (mkF m 4 #[.val (.ref r0), .val (.ref r1), .val (.int p2), .val (.int (0 : Int32)), .val .null, .unset] [])
  refine gIloadN X1 hx (hb hby d2_4) rfl ?_
  refine gIf X1 hx 27 (hb hby d2_5) (by decide) (by decide) (fun q => absurd (by decide) (o_neT q)) (fun _ => ?_)
  show Go _ _ _ _ _ T1 (mkF m 8 #[.val (.ref r0), .val (.ref r1), .val (.int p2), .val (.int (0 : Int32)), .val .null, .unset] [])
  refine gAloadN X1 hx (hb hby d2_8) rfl rfl ?_
  refine gLdcA X1 hx hZ hown (tw hw 22 rfl) (show Jvm.RoadKit.Lit (s.setVm s.vm) "java/lang/String" 7 la from hPV) (hb hby d2_9) ?_
  show Go _ _ _ _ _ T1 (mkF m 11 #[.val (.ref r0), .val (.ref r1), .val (.int p2), .val (.int (0 : Int32)), .val .null, .unset] [(.ref la), (.ref r0)])
  refine gGetF X1 hx hZ hown (tw hw 28 rfl) e1 LV (hb hby d2_11) ?_
  intro T2 X2 e2
  show Go _ _ _ _ _ T2 (mkF m 14 #[.val (.ref r0), .val (.ref r1), .val (.int p2), .val (.int (0 : Int32)), .val .null, .unset] [(.ref lb), (.ref r0)])
  refine gPutF X2 hx hZ hown (tw hw 28 rfl) e2 Fv E0 (Or.inr ⟨(tw hw 24 rfl), rfl, hnm⟩) (tw hw 9 rfl) (ty := (.array .byte)) (by decide) rfl rfl (hb hby d2_14) ?_
  intro T3 h3 X3 e3 W3
  have Fv__3 := Fv.same W3
  have E0__3 := E0.wr W3
  have Fc__3 := Fc.other W3 (Or.inr (slot_ne (Or.inr (tw hw 25 rfl)) (Or.inr (tw hw 24 rfl)) (by decide) (t := .byte) (t' := (.array .byte)) (by decide) (by decide)))
  have LE__3 := LE.wr W3
  have LV__3 := LV.other W3 (Or.inl ne_la_r0)
  have LC__3 := LC.other W3 (Or.inl ne_la_r0)
  have LA__3 := LA.other W3 ne_lb_r0
  have Z_3 := Nat.le_trans Z0 (Nat.le_of_eq W3.size.symm)
  have O_3 := O0.wr W3 g0
  have hk := Nat.le_trans hk (Nat.le_of_eq W3.size.symm)
  have K_3 : Keep h0 h3 [r0] := (Keep.refl h0 [r0]).wr W3 (Or.inl (List.mem_of_getElem? (i := 0) rfl))
  have N_3 := Fr.snoc X3 N0 g0
  show Go _ _ _ _ _ T3 (mkF m 17 #[.val (.ref r0), .val (.ref r1), .val (.int p2), .val (.int (0 : Int32)), .val .null, .unset] [])
  refine gAloadN X3 hx (hb hby d2_17) rfl rfl ?_
  refine gLdcA X3 hx hZ hown (tw hw 22 rfl) (show Jvm.RoadKit.Lit (s.setVm s.vm) "java/lang/String" 7 la from hPV) (hb hby d2_18) ?_
  show Go _ _ _ _ _ T3 (mkF m 20 #[.val (.ref r0), .val (.ref r1), .val (.int p2), .val (.int (0 : Int32)), .val .null, .unset] [(.ref la), (.ref r0)])
  refine gGetF X3 hx hZ hown (tw hw 29 rfl) e3 LC__3 (hb hby d2_20) ?_
  intro T4 X4 e4
  show Go _ _ _ _ _ T4 (mkF m 23 #[.val (.ref r0), .val (.ref r1), .val (.int p2), .val (.int (0 : Int32)), .val .null, .unset] [(.int (0 : Int32)), (.ref r0)])
  refine gPutFN X4 hx hZ hown (tw hw 29 rfl) e4 (.int (0 : Int32)) Fc__3 E0__3 (Or.inr ⟨(tw hw 25 rfl), rfl, hnm⟩) (tw hw 9 rfl) (ty := .byte) (by decide) rfl rfl (hb hby d2_23) ?_
  intro T5 h5 X5 e5 W5
  have Fc__5 := Fc__3.same W5
  have E0__5 := E0__3.wr W5
  have Fv__5 := Fv__3.other W5 (Or.inr (slot_ne (Or.inr (tw hw 24 rfl)) (Or.inr (tw hw 25 rfl)) (by decide) (t := (.array .byte)) (t' := .byte) (by decide) (by decide)))
  have LE__5 := LE__3.wr W5
  have LV__5 := LV__3.other W5 (Or.inl ne_la_r0)
  have LC__5 := LC__3.other W5 (Or.inl ne_la_r0)
  have LA__5 := LA__3.other W5 ne_lb_r0
  have Z_5 := Nat.le_trans Z_3 (Nat.le_of_eq W5.size.symm)
  have O_5 := O_3.wr W5 g0
  have hk := Nat.le_trans hk (Nat.le_of_eq W5.size.symm)
  have K_5 : Keep h0 h5 [r0] := K_3.wr W5 (Or.inl (List.mem_of_getElem? (i := 0) rfl))
  have N_5 := Fr.snoc X5 N_3 g0
  show Go _ _ _ _ _ T5 (mkF m 26 #[.val (.ref r0), .val (.ref r1), .val (.int p2), .val (.int (0 : Int32)), .val .null, .unset] [])
  subst e5
  exact gRetV X5 hx hlk hret (hb hby d2_26) (feS hS hk (by decide) (by decide)) ⟨rfl, N_5, K_5, E0__5, la, lb, lk, Fv__5, Fc__5, own_lit (s := s) (show Jvm.RoadKit.Lit (s.setVm s.vm) "java/lang/String" 7 la from hPV) X5.warmed, LE__5, LV__5, LC__5, LA__5⟩
theorem d3_0 : decode jdk_42_method_3_code 0 = .ok (.aload_n 0, 1) := by decide +kernel
theorem d3_1 : decode jdk_42_method_3_code 1 = .ok (.aload_n 1, 1) := by decide +kernel
theorem d3_2 : decode jdk_42_method_3_code 2 = .ok (.iconst 0, 1) := by decide +kernel
theorem d3_3 : decode jdk_42_method_3_code 3 = .ok (.aload_n 1, 1) := by decide +kernel
theorem d3_4 : decode jdk_42_method_3_code 4 = .ok (.arraylength, 1) := by decide +kernel
theorem d3_5 : decode jdk_42_method_3_code 5 = .ok (.aconst_null, 1) := by decide +kernel
theorem d3_6 : decode jdk_42_method_3_code 6 = .ok (.invokespecial 27, 3) := by decide +kernel
theorem d3_9 : decode jdk_42_method_3_code 9 = .ok (.return_, 1) := by decide +kernel
theorem own_pn3 : plainFor (⟨"java/lang/String", "<init>", "([C)V"⟩ : MethodName) = true := plainFor_of_name (by first | (simp [plainName, overriddenIn]; done) | decide +kernel)
theorem own_ef3 (r0 : Addr) (r1 : Addr) (m : MethodId) : entryFrame m #[(.ref r0), (.ref r1)] 2 = mkF m 0 #[.val (.ref r0), .val (.ref r1)] [] := by first | (simp [entryFrame, mkF, argsToLocals, Value.category]; done) | rfl
theorem own_pd2 : parseMethodDescriptor "([C)V" = some ⟨[(.array .char)], none⟩ := by decide +kernel
set_option maxRecDepth 65536 in
set_option maxHeartbeats 40000000 in
theorem own_rm3E1 (l : Launch) (Z : State) (a0 : Array Value) (hw : ∀ d ∈ tables_1, d.before a0 Z = true) (r0 : Addr) (r1 : Addr) (h0 : Heap) (n0 : Nat) (Z0 : n0 ≤ h0.size) (wS : ∀ a ∈ Bundle.stringAtoms, a.before a0 Z = true) (hh : Jvm.Lit.constHeld Z "java/lang/String" 7) (hcw : Jvm.Lit.compactW.before a0 Z = true) (O0 : Old Z n0 h0) (E0 : Exa Z h0 r0 "java/lang/String") (Fv : Fld Z h0 r0 "java/lang/String" "value" "[B" .null) (Fc : Fld Z h0 r0 "java/lang/String" "coder" "B" (.int (0 : Int32))) (g0 : n0 ≤ r0) (kC : ClassId) (KC : Arv Z h0 r1 kC .char (0 : Int32) [] (.int (0 : Int32)))  :
    MetS l Z (⟨"java/lang/String", "<init>", "([C)V"⟩ : MethodName) jdk_42_method_3_code 2 none [] ({ frames := 2, cells := 2, slots := 4, locals := 30 } : Room) #[(.ref r0), (.ref r1)] h0 (fun vm => IB Z vm []) (fun v h vm L => v = none ∧ Fr n0 L ∧ Keep h0 h [r0] ∧ Exa Z h r0 "java/lang/String" ∧ ∃ (la lb : Addr) (lk : ClassId), Fld Z h r0 "java/lang/String" "value" "[B" (.ref lb) ∧ Fld Z h r0 "java/lang/String" "coder" "B" (.int (0 : Int32)) ∧ LitOK Z vm h la lb lk) := by
  refine metS_of (Ls := #[.val (.ref r0), .val (.ref r1)]) own_pn3 (own_ef3 r0 r1) ?_
  intro p e s m below meth c s₁ hx hby hml hown hnm hret hlk hZ X0 e0 hPV hsh hS
  have N0 := Fr.nil n0
  have hk : 0 ≤ h0.size := Nat.zero_le _
  have ne_r1_r0 : r1 ≠ r0 := (Jvm.RoadKit.Exa.neArv E0 KC (tw hw 9 rfl)).symm
  refine gAloadN X0 hx (hb hby d3_0) rfl rfl ?_
  refine gAloadN X0 hx (hb hby d3_1) rfl rfl ?_
  refine gIconst X0 hx (0 : Int32) (hb hby d3_2) rfl ?_
  refine gAloadN X0 hx (hb hby d3_3) rfl rfl ?_
  refine gLenV X0 hx hZ e0 KC (hb hby d3_4) ?_
  show Go _ _ _ _ _ s₁ (mkF m 5 #[.val (.ref r0), .val (.ref r1)] [(.int (0 : Int32)), (.int (0 : Int32)), (.ref r1), (.ref r0)])
  refine gNull X0 hx (hb hby d3_5) ?_
  refine gInitS X0 hx hZ (y := (⟨"java/lang/String", "<init>", "([CIILjava/lang/Void;)V"⟩ : MethodName)) (a := r0) hown rfl (by decide) (tw hw 15 rfl) (tw hw 16 rfl) (tw hw 10 rfl) (tw hw 18 rfl) hS hk (own_rm2E1 l Z a0 hw r0 r1 (0 : Int32) h0 n0 Z0 wS hh hcw O0 E0 Fv Fc g0 ) (fun vm₁ hv => own_ibw (s := s) hPV hv) e0 (by rw [hml]; rfl) (argsL := [(.ref r1), (.int (0 : Int32)), (.int (0 : Int32)), .null]) (rest := []) (W := 0) (lenOf own_pd1 rfl) rfl (Nat.le_of_eq rfl) (by decide) (by decide) (by decide) (by decide) (hb hby d3_6) ?_
  rintro _ T1 L1 X1 hS hZ hown hgr1 ⟨rfl, Nq1, Kq1, Eq1, la1, lb1, lk1, Vq1, Cq1, LO1⟩
  have N_1 := Fr.app N0 Nq1
  have hk := Nat.le_refl T1.heap.size
  have E0__1 := E0.keep Kq1
  have KC__1 := KC.keep Kq1 (ninS ne_r1_r0 nin0)
  have Z_1 := Nat.le_trans Z0 Kq1.1
  have O_1 := O0.keep Kq1 (allS g0 all0)
  have K_1 : Keep h0 T1.heap [r0] := (Keep.refl h0 [r0]).trans Kq1 (allS (Or.inl (List.mem_of_getElem? (i := 0) rfl)) all0)
  show Go _ _ _ _ _ T1 (mkF m 9 #[.val (.ref r0), .val (.ref r1)] [])
  exact gRetV X1 hx hlk hret (hb hby d3_9) (feS hS hk (by decide) (by decide)) ⟨rfl, N_1, K_1, Eq1, la1, lb1, lk1, Vq1, Cq1, LO1⟩
set_option maxRecDepth 65536 in
set_option maxHeartbeats 40000000 in
theorem own_rm3E2 (l : Launch) (Z : State) (a0 : Array Value) (hw : ∀ d ∈ tables_1, d.before a0 Z = true) (r0 : Addr) (r1 : Addr) (h0 : Heap) (n0 : Nat) (Z0 : n0 ≤ h0.size) (wS : ∀ a ∈ Bundle.stringAtoms, a.before a0 Z = true) (hh : Jvm.Lit.constHeld Z "java/lang/String" 7) (hcw : Jvm.Lit.compactW.before a0 Z = true) (O0 : Old Z n0 h0) (E0 : Exa Z h0 r0 "java/lang/String") (Fv : Fld Z h0 r0 "java/lang/String" "value" "[B" .null) (Fc : Fld Z h0 r0 "java/lang/String" "coder" "B" (.int (0 : Int32))) (g0 : n0 ≤ r0) (kC : ClassId) (KC : Arv Z h0 r1 kC .char (0 : Int32) [] (.int (0 : Int32))) (la lb : Addr) (lk : ClassId) (LE : Exa Z h0 la "java/lang/String") (LV : Fld Z h0 la "java/lang/String" "value" "[B" (.ref lb)) (LC : Fld Z h0 la "java/lang/String" "coder" "B" (.int (0 : Int32))) (LA : Arv Z h0 lb lk .byte (0 : Int32) [] (.int 0))  :
    MetS l Z (⟨"java/lang/String", "<init>", "([C)V"⟩ : MethodName) jdk_42_method_3_code 2 none [] ({ frames := 2, cells := 2, slots := 4, locals := 30 } : Room) #[(.ref r0), (.ref r1)] h0 (fun vm => Jvm.RoadKit.Lit (Z.setVm vm) "java/lang/String" 7 la) (fun v h vm L => v = none ∧ Fr n0 L ∧ Keep h0 h [r0] ∧ Exa Z h r0 "java/lang/String" ∧ ∃ (la lb : Addr) (lk : ClassId), Fld Z h r0 "java/lang/String" "value" "[B" (.ref lb) ∧ Fld Z h r0 "java/lang/String" "coder" "B" (.int (0 : Int32)) ∧ LitOK Z vm h la lb lk) := by
  refine metS_of (Ls := #[.val (.ref r0), .val (.ref r1)]) own_pn3 (own_ef3 r0 r1) ?_
  intro p e s m below meth c s₁ hx hby hml hown hnm hret hlk hZ X0 e0 hPV hsh hS
  have N0 := Fr.nil n0
  have hk : 0 ≤ h0.size := Nat.zero_le _
  have ne_r1_r0 : r1 ≠ r0 := (Jvm.RoadKit.Exa.neArv E0 KC (tw hw 9 rfl)).symm
  have ne_la_r0 : la ≠ r0 := Jvm.RoadKit.Fld.ne LV Fv (by simp)
  have ne_lb_r0 : lb ≠ r0 := (Jvm.RoadKit.Exa.neArv E0 LA (tw hw 9 rfl)).symm
  refine gAloadN X0 hx (hb hby d3_0) rfl rfl ?_
  refine gAloadN X0 hx (hb hby d3_1) rfl rfl ?_
  refine gIconst X0 hx (0 : Int32) (hb hby d3_2) rfl ?_
  refine gAloadN X0 hx (hb hby d3_3) rfl rfl ?_
  refine gLenV X0 hx hZ e0 KC (hb hby d3_4) ?_
  show Go _ _ _ _ _ s₁ (mkF m 5 #[.val (.ref r0), .val (.ref r1)] [(.int (0 : Int32)), (.int (0 : Int32)), (.ref r1), (.ref r0)])
  refine gNull X0 hx (hb hby d3_5) ?_
  refine gInitS X0 hx hZ (y := (⟨"java/lang/String", "<init>", "([CIILjava/lang/Void;)V"⟩ : MethodName)) (a := r0) hown rfl (by decide) (tw hw 15 rfl) (tw hw 16 rfl) (tw hw 10 rfl) (tw hw 18 rfl) hS hk (own_rm2E2 l Z a0 hw r0 r1 (0 : Int32) h0 n0 Z0 wS hh hcw O0 E0 Fv Fc g0  la lb lk LE LV LC LA) (fun vm₁ hv => own_lit (s := s) hPV hv) e0 (by rw [hml]; rfl) (argsL := [(.ref r1), (.int (0 : Int32)), (.int (0 : Int32)), .null]) (rest := []) (W := 0) (lenOf own_pd1 rfl) rfl (Nat.le_of_eq rfl) (by decide) (by decide) (by decide) (by decide) (hb hby d3_6) ?_
  rintro _ T1 L1 X1 hS hZ hown hgr1 ⟨rfl, Nq1, Kq1, Eq1, la1, lb1, lk1, Vq1, Cq1, LO1⟩
  have N_1 := Fr.app N0 Nq1
  have hk := Nat.le_refl T1.heap.size
  have E0__1 := E0.keep Kq1
  have KC__1 := KC.keep Kq1 (ninS ne_r1_r0 nin0)
  have Z_1 := Nat.le_trans Z0 Kq1.1
  have O_1 := O0.keep Kq1 (allS g0 all0)
  have K_1 : Keep h0 T1.heap [r0] := (Keep.refl h0 [r0]).trans Kq1 (allS (Or.inl (List.mem_of_getElem? (i := 0) rfl)) all0)
  show Go _ _ _ _ _ T1 (mkF m 9 #[.val (.ref r0), .val (.ref r1)] [])
  exact gRetV X1 hx hlk hret (hb hby d3_9) (feS hS hk (by decide) (by decide)) ⟨rfl, N_1, K_1, Eq1, la1, lb1, lk1, Vq1, Cq1, LO1⟩
theorem d4_0 : decode method_3_code 0 = .ok (.iload_n 0, 1) := by decide +kernel
theorem d4_1 : decode method_3_code 1 = .ok (.ifCond .ne 14, 3) := by decide +kernel
theorem d4_4 : decode method_3_code 4 = .ok (.new 14, 3) := by decide +kernel
theorem d4_7 : decode method_3_code 7 = .ok (.dup, 1) := by decide +kernel
theorem d4_8 : decode method_3_code 8 = .ok (.iconst 0, 1) := by decide +kernel
theorem d4_9 : decode method_3_code 9 = .ok (.newarray .char, 2) := by decide +kernel
theorem d4_11 : decode method_3_code 11 = .ok (.invokespecial 16, 3) := by decide +kernel
theorem d4_14 : decode method_3_code 14 = .ok (.areturn, 1) := by decide +kernel
theorem d4_15 : decode method_3_code 15 = .ok (.iload_n 0, 1) := by decide +kernel
theorem d4_16 : decode method_3_code 16 = .ok (.iconst 1, 1) := by decide +kernel
theorem d4_17 : decode method_3_code 17 = .ok (.if_icmp .ne 21, 3) := by decide +kernel
theorem d4_20 : decode method_3_code 20 = .ok (.iconst 1, 1) := by decide +kernel
theorem d4_21 : decode method_3_code 21 = .ok (.newarray .char, 2) := by decide +kernel
theorem d4_23 : decode method_3_code 23 = .ok (.astore_n 3, 1) := by decide +kernel
theorem d4_24 : decode method_3_code 24 = .ok (.aload_n 3, 1) := by decide +kernel
theorem d4_25 : decode method_3_code 25 = .ok (.iconst 0, 1) := by decide +kernel
theorem d4_26 : decode method_3_code 26 = .ok (.iload_n 1, 1) := by decide +kernel
theorem d4_27 : decode method_3_code 27 = .ok (.i2c, 1) := by decide +kernel
theorem d4_28 : decode method_3_code 28 = .ok (.castore, 1) := by decide +kernel
theorem d4_29 : decode method_3_code 29 = .ok (.new 14, 3) := by decide +kernel
theorem d4_32 : decode method_3_code 32 = .ok (.dup, 1) := by decide +kernel
theorem d4_33 : decode method_3_code 33 = .ok (.aload_n 3, 1) := by decide +kernel
theorem d4_34 : decode method_3_code 34 = .ok (.invokespecial 16, 3) := by decide +kernel
theorem d4_37 : decode method_3_code 37 = .ok (.areturn, 1) := by decide +kernel
theorem d4_38 : decode method_3_code 38 = .ok (.iconst 2, 1) := by decide +kernel
theorem d4_39 : decode method_3_code 39 = .ok (.newarray .char, 2) := by decide +kernel
theorem d4_41 : decode method_3_code 41 = .ok (.astore_n 3, 1) := by decide +kernel
theorem d4_42 : decode method_3_code 42 = .ok (.aload_n 3, 1) := by decide +kernel
theorem d4_43 : decode method_3_code 43 = .ok (.iconst 0, 1) := by decide +kernel
theorem d4_44 : decode method_3_code 44 = .ok (.iload_n 1, 1) := by decide +kernel
theorem d4_45 : decode method_3_code 45 = .ok (.i2c, 1) := by decide +kernel
theorem d4_46 : decode method_3_code 46 = .ok (.castore, 1) := by decide +kernel
theorem d4_47 : decode method_3_code 47 = .ok (.aload_n 3, 1) := by decide +kernel
theorem d4_48 : decode method_3_code 48 = .ok (.iconst 1, 1) := by decide +kernel
theorem d4_49 : decode method_3_code 49 = .ok (.iload_n 2, 1) := by decide +kernel
theorem d4_50 : decode method_3_code 50 = .ok (.i2c, 1) := by decide +kernel
theorem d4_51 : decode method_3_code 51 = .ok (.castore, 1) := by decide +kernel
theorem d4_52 : decode method_3_code 52 = .ok (.new 14, 3) := by decide +kernel
theorem d4_55 : decode method_3_code 55 = .ok (.dup, 1) := by decide +kernel
theorem d4_56 : decode method_3_code 56 = .ok (.aload_n 3, 1) := by decide +kernel
theorem d4_57 : decode method_3_code 57 = .ok (.invokespecial 16, 3) := by decide +kernel
theorem d4_60 : decode method_3_code 60 = .ok (.areturn, 1) := by decide +kernel
theorem own_pn4 : plainFor (⟨"com/example/wee_check/weecheck/source/SourceLocationEqualsPinLaw", "str", "(III)Ljava/lang/String;"⟩ : MethodName) = true := plainFor_of_name (by first | (simp [plainName, overriddenIn]; done) | decide +kernel)
theorem own_ef4 (p0 : Int32) (p1 : Int32) (p2 : Int32) (m : MethodId) : entryFrame m #[(.int p0), (.int p1), (.int p2)] 4 = mkF m 0 #[.val (.int p0), .val (.int p1), .val (.int p2), .unset] [] := by first | (simp [entryFrame, mkF, argsToLocals, Value.category]; done) | rfl
theorem own_pd3 : parseMethodDescriptor "(III)Ljava/lang/String;" = some ⟨[.int, .int, .int], some (.object "java/lang/String")⟩ := by decide +kernel
set_option maxRecDepth 65536 in
set_option maxHeartbeats 40000000 in
theorem own_rm4 (l : Launch) (Z : State) (a0 : Array Value) (hw : ∀ d ∈ tables_1, d.before a0 Z = true) (p0 : Int32) (p1 : Int32) (p2 : Int32) (h0 : Heap) (n0 : Nat) (Z0 : n0 ≤ h0.size) (wS : ∀ a ∈ Bundle.stringAtoms, a.before a0 Z = true) (hh : Jvm.Lit.constHeld Z "java/lang/String" 7) (hcw : Jvm.Lit.compactW.before a0 Z = true) (O0 : Old Z n0 h0) (z : Int32) (SC : Sta Z Z.heap "java/lang/String" "COMPACT_STRINGS" "Z" (.int z)) (hz : ¬ z = 0) (hp1 : ¬ p1 < 0 ∧ ¬ (255 : Int32) < p1) (hp2 : ¬ p2 < 0 ∧ ¬ (255 : Int32) < p2) :
    MetS l Z (⟨"com/example/wee_check/weecheck/source/SourceLocationEqualsPinLaw", "str", "(III)Ljava/lang/String;"⟩ : MethodName) method_3_code 4 (some (.object "java/lang/String")) [] ({ frames := 5, cells := 5, slots := 10, locals := 66 } : Room) #[(.int p0), (.int p1), (.int p2)] h0 (fun vm => LS Z vm h0) (fun v h vm L => ∃ (b t : Addr) (kb : ClassId) (cs : List Int32), v = some (.ref b) ∧ Fr n0 L ∧ Keep h0 h [] ∧ SO Z h b t kb cs ∧ OKcs cs ∧ LS Z vm h) := by
  refine metS_of (Ls := #[.val (.int p0), .val (.int p1), .val (.int p2), .unset]) own_pn4 (own_ef4 p0 p1 p2) ?_
  intro p e s m below meth c s₁ hx hby hml hown hnm hret hlk hZ X0 e0 hPV hsh hS
  have N0 := Fr.nil n0
  have hk : 0 ≤ h0.size := Nat.zero_le _
  have hcs1 : OKcs [nar .char p1.toUInt32.toUInt16.toUInt32.toInt32] := ⟨fun c hc => by rw [List.mem_singleton.mp hc]; exact own_ch hp1, Nat.le_of_ble_eq_true rfl⟩
  have hcs2 : OKcs [nar .char p1.toUInt32.toUInt16.toUInt32.toInt32, nar .char p2.toUInt32.toUInt16.toUInt32.toInt32] := ⟨fun c hc => by rcases List.mem_cons.mp hc with rfl | hc; exact own_ch hp1; rw [List.mem_singleton.mp hc]; exact own_ch hp2, Nat.le_of_ble_eq_true rfl⟩
  refine gIloadN X0 hx (hb hby d4_0) rfl ?_
  refine gIf X0 hx 15 (hb hby d4_1) (by decide) (by decide) (fun hT => ?_) (fun hT => ?_)
  · have hc1 := o_neT hT
    show Go _ _ _ _ _ s₁ (mkF m 15 #[.val (.int p0), .val (.int p1), .val (.int p2), .unset] [])
    refine gIloadN X0 hx (hb hby d4_15) rfl ?_
    refine gIconst X0 hx (1 : Int32) (hb hby d4_16) rfl ?_
    refine gIcmp X0 hx 38 (hb hby d4_17) (by decide) (by decide) (fun hT => ?_) (fun hT => ?_)
    · have hc2 := o_neT hT
      show Go _ _ _ _ _ s₁ (mkF m 38 #[.val (.int p0), .val (.int p1), .val (.int p2), .unset] [])
      refine gIconst X0 hx (2 : Int32) (hb hby d4_38) rfl ?_
      refine gNewArr X0 hx hZ (tw hw 11 rfl) e0 (hb hby d4_39) (by decide) (cap := 2) (by decide) (by decide) (by decide) (by decide) ?_
      intro T3 h3 b3 cA3 X3 e3 E3 g3 A3
      have g_b3 : n0 ≤ b3 := by rw [g3]; exact Z0
      have sz_b3 : h0.size ≤ b3 := by rw [g3]; exact (Keep.refl h0 []).1
      have Z_3 := Nat.le_trans Z0 E3.1
      have O_3 := O0.ext E3
      have hk := Nat.le_trans hk E3.1
      have K_3 : Keep h0 h3 [] := (Keep.refl h0 []).ext E3
      have V3 : Arv Z h3 b3 cA3 .char (2 : Int32) [(.int (0 : Int32)), (.int (0 : Int32))] (.int (0 : Int32)) := (Arv.new A3 (by decide)).pad (pad_rep [] (.int (0 : Int32)) 2)
      show Go _ _ _ _ _ T3 (mkF m 41 #[.val (.int p0), .val (.int p1), .val (.int p2), .unset] [(.ref b3)])
      refine gAstoreN X3 hx #[.val (.int p0), .val (.int p1), .val (.int p2), .val (.ref b3)] (hb hby d4_41) rfl rfl ?_
      refine gAloadN X3 hx (hb hby d4_42) rfl rfl ?_
      refine gIconst X3 hx (0 : Int32) (hb hby d4_43) rfl ?_
      refine gIloadN X3 hx (hb hby d4_44) rfl ?_
      refine gI2c X3 hx (hb hby d4_45) ?_
      refine gCharSet X3 hx hZ e3 V3 0 rfl ⟨by decide, by decide⟩ (Nat.le_of_ble_eq_true rfl) (hb hby d4_46) ?_
      intro T4 h4 X4 e4 W4 V_4
      have V3__4 : Arv Z h4 b3 cA3 .char (2 : Int32) [(.int (nar .char p1.toUInt32.toUInt16.toUInt32.toInt32)), (.int (0 : Int32))] (.int (0 : Int32)) := V_4
      have Z_4 := Nat.le_trans Z_3 (Nat.le_of_eq W4.size.symm)
      have O_4 := O_3.wr W4 g_b3
      have hk := Nat.le_trans hk (Nat.le_of_eq W4.size.symm)
      have K_4 : Keep h0 h4 [] := K_3.wr W4 (Or.inr sz_b3)
      have N_4 := Fr.snoc X4 N0 g_b3
      show Go _ _ _ _ _ T4 (mkF m 47 #[.val (.int p0), .val (.int p1), .val (.int p2), .val (.ref b3)] [])
      refine gAloadN X4 hx (hb hby d4_47) rfl rfl ?_
      refine gIconst X4 hx (1 : Int32) (hb hby d4_48) rfl ?_
      refine gIloadN X4 hx (hb hby d4_49) rfl ?_
      refine gI2c X4 hx (hb hby d4_50) ?_
      refine gCharSet X4 hx hZ e4 V3__4 1 rfl ⟨by decide, by decide⟩ (Nat.le_of_ble_eq_true rfl) (hb hby d4_51) ?_
      intro T5 h5 X5 e5 W5 V_5
      have V3__5 : Arv Z h5 b3 cA3 .char (2 : Int32) [(.int (nar .char p1.toUInt32.toUInt16.toUInt32.toInt32)), (.int (nar .char p2.toUInt32.toUInt16.toUInt32.toInt32))] (.int (0 : Int32)) := V_5
      have Z_5 := Nat.le_trans Z_4 (Nat.le_of_eq W5.size.symm)
      have O_5 := O_4.wr W5 g_b3
      have hk := Nat.le_trans hk (Nat.le_of_eq W5.size.symm)
      have K_5 : Keep h0 h5 [] := K_4.wr W5 (Or.inr sz_b3)
      have N_5 := Fr.snoc X5 N_4 g_b3
      show Go _ _ _ _ _ T5 (mkF m 52 #[.val (.int p0), .val (.int p1), .val (.int p2), .val (.ref b3)] [])
      refine gNew X5 hx hZ hown (tw hw 8 rfl) (tw hw 9 rfl) (tw hw 10 rfl) e5 (hb hby d4_52) (by decide) (by decide) ?_
      intro T6 h6 b6 X6 e6 E6 g6 A6 D6
      have lt_b3_b6 : b3 < b6 := by rw [g6]; exact V3__5.lt
      have g_b6 : n0 ≤ b6 := by rw [g6]; exact Z_5
      have sz_b6 : h0.size ≤ b6 := by rw [g6]; exact K_5.1
      have V3__6 := V3__5.ext E6
      have Z_6 := Nat.le_trans Z_5 E6.1
      have O_6 := O_5.ext E6
      have hk := Nat.le_trans hk E6.1
      have K_6 : Keep h0 h6 [] := K_5.ext E6
      have F_value_b6 : Fld Z h6 b6 "java/lang/String" "value" "[B" .null := D6 (Or.inr (tw hw 24 rfl)) (ty := (.array .byte)) (by decide)
      have F_coder_b6 : Fld Z h6 b6 "java/lang/String" "coder" "B" (.int (0 : Int32)) := D6 (Or.inr (tw hw 25 rfl)) (ty := .byte) (by decide)
      show Go _ _ _ _ _ T6 (mkF m 55 #[.val (.int p0), .val (.int p1), .val (.int p2), .val (.ref b3)] [(.ref b6)])
      refine gDup X6 hx (hb hby d4_55) rfl ?_
      refine gAloadN X6 hx (hb hby d4_56) rfl rfl ?_
      refine gNewStr X6 hx hZ (W := 1) hown (tw hw 12 rfl) (tw hw 13 rfl) (tw hw 14 rfl) (fun d hd => hw d ((by decide +kernel : ∀ d ∈ StrChars.Road.words, d ∈ tables_1) d hd)) (kI := 4) (tw hw 9 rfl) (cs := ([(nar .char p1.toUInt32.toUInt16.toUInt32.toInt32), (nar .char p2.toUInt32.toUInt16.toUInt32.toInt32)] : List Int32)) (n := 2) g_b6 Z_6 A6 F_value_b6 F_coder_b6 V3__6 (SC.ext O_6.2) hz rfl rfl (by decide) (by decide) hcs2.1 (by decide) (by decide) e6 (by rw [hml]; rfl) (lenOf own_pd2 rfl) (Nat.le_of_eq rfl) (by decide) (by decide) (hb hby d4_57) ?_
      rintro T7 L7 X7 ⟨-, Nq7, Kq7, Eq7, Cq7, t7, kb7, -, -, -, Vq7, Aq7⟩
      have N_7 := Fr.app N_5 Nq7
      have V3__7 := V3__6.keep Kq7 (ninS (Nat.ne_of_lt lt_b3_b6) nin0)
      have A6__7 := A6.keep Kq7
      have Z_7 := Nat.le_trans Z_6 Kq7.1
      have O_7 := O_6.keep Kq7 (allS g_b6 all0)
      have hk := Nat.le_trans hk Kq7.1
      have K_7 : Keep h0 T7.heap [] := K_6.trans Kq7 (allS (Or.inr sz_b6) all0)
      show Go _ _ _ _ _ T7 (mkF m 60 #[.val (.int p0), .val (.int p1), .val (.int p2), .val (.ref b3)] [(.ref b6)])
      exact gRetA X7 hx hlk hret rfl rfl rfl (hb hby d4_60) (feS hS hk (by decide) (by decide)) ⟨b6, t7, kb7, ([(nar .char p1.toUInt32.toUInt16.toUInt32.toInt32), (nar .char p2.toUInt32.toUInt16.toUInt32.toInt32)] : List Int32), rfl, N_7, K_7, ⟨Eq7, Vq7, Cq7, Aq7⟩, hcs2, LS.go (s := s) hPV X7.warmed K_7⟩
    · have hc2 := o_neF hT
      show Go _ _ _ _ _ s₁ (mkF m 20 #[.val (.int p0), .val (.int p1), .val (.int p2), .unset] [])
      refine gIconst X0 hx (1 : Int32) (hb hby d4_20) rfl ?_
      refine gNewArr X0 hx hZ (tw hw 11 rfl) e0 (hb hby d4_21) (by decide) (cap := 1) (by decide) (by decide) (by decide) (by decide) ?_
      intro T8 h8 b8 cA8 X8 e8 E8 g8 A8
      have g_b8 : n0 ≤ b8 := by rw [g8]; exact Z0
      have sz_b8 : h0.size ≤ b8 := by rw [g8]; exact (Keep.refl h0 []).1
      have Z_8 := Nat.le_trans Z0 E8.1
      have O_8 := O0.ext E8
      have hk := Nat.le_trans hk E8.1
      have K_8 : Keep h0 h8 [] := (Keep.refl h0 []).ext E8
      have V8 : Arv Z h8 b8 cA8 .char (1 : Int32) [(.int (0 : Int32))] (.int (0 : Int32)) := (Arv.new A8 (by decide)).pad (pad_rep [] (.int (0 : Int32)) 1)
      show Go _ _ _ _ _ T8 (mkF m 23 #[.val (.int p0), .val (.int p1), .val (.int p2), .unset] [(.ref b8)])
      refine gAstoreN X8 hx #[.val (.int p0), .val (.int p1), .val (.int p2), .val (.ref b8)] (hb hby d4_23) rfl rfl ?_
      refine gAloadN X8 hx (hb hby d4_24) rfl rfl ?_
      refine gIconst X8 hx (0 : Int32) (hb hby d4_25) rfl ?_
      refine gIloadN X8 hx (hb hby d4_26) rfl ?_
      refine gI2c X8 hx (hb hby d4_27) ?_
      refine gCharSet X8 hx hZ e8 V8 0 rfl ⟨by decide, by decide⟩ (Nat.le_of_ble_eq_true rfl) (hb hby d4_28) ?_
      intro T9 h9 X9 e9 W9 V_9
      have V8__9 : Arv Z h9 b8 cA8 .char (1 : Int32) [(.int (nar .char p1.toUInt32.toUInt16.toUInt32.toInt32))] (.int (0 : Int32)) := V_9
      have Z_9 := Nat.le_trans Z_8 (Nat.le_of_eq W9.size.symm)
      have O_9 := O_8.wr W9 g_b8
      have hk := Nat.le_trans hk (Nat.le_of_eq W9.size.symm)
      have K_9 : Keep h0 h9 [] := K_8.wr W9 (Or.inr sz_b8)
      have N_9 := Fr.snoc X9 N0 g_b8
      show Go _ _ _ _ _ T9 (mkF m 29 #[.val (.int p0), .val (.int p1), .val (.int p2), .val (.ref b8)] [])
      refine gNew X9 hx hZ hown (tw hw 8 rfl) (tw hw 9 rfl) (tw hw 10 rfl) e9 (hb hby d4_29) (by decide) (by decide) ?_
      intro T10 h10 b10 X10 e10 E10 g10 A10 D10
      have lt_b8_b10 : b8 < b10 := by rw [g10]; exact V8__9.lt
      have g_b10 : n0 ≤ b10 := by rw [g10]; exact Z_9
      have sz_b10 : h0.size ≤ b10 := by rw [g10]; exact K_9.1
      have V8__10 := V8__9.ext E10
      have Z_10 := Nat.le_trans Z_9 E10.1
      have O_10 := O_9.ext E10
      have hk := Nat.le_trans hk E10.1
      have K_10 : Keep h0 h10 [] := K_9.ext E10
      have F_value_b10 : Fld Z h10 b10 "java/lang/String" "value" "[B" .null := D10 (Or.inr (tw hw 24 rfl)) (ty := (.array .byte)) (by decide)
      have F_coder_b10 : Fld Z h10 b10 "java/lang/String" "coder" "B" (.int (0 : Int32)) := D10 (Or.inr (tw hw 25 rfl)) (ty := .byte) (by decide)
      show Go _ _ _ _ _ T10 (mkF m 32 #[.val (.int p0), .val (.int p1), .val (.int p2), .val (.ref b8)] [(.ref b10)])
      refine gDup X10 hx (hb hby d4_32) rfl ?_
      refine gAloadN X10 hx (hb hby d4_33) rfl rfl ?_
      refine gNewStr X10 hx hZ (W := 1) hown (tw hw 12 rfl) (tw hw 13 rfl) (tw hw 14 rfl) (fun d hd => hw d ((by decide +kernel : ∀ d ∈ StrChars.Road.words, d ∈ tables_1) d hd)) (kI := 4) (tw hw 9 rfl) (cs := ([(nar .char p1.toUInt32.toUInt16.toUInt32.toInt32)] : List Int32)) (n := 1) g_b10 Z_10 A10 F_value_b10 F_coder_b10 V8__10 (SC.ext O_10.2) hz rfl rfl (by decide) (by decide) hcs1.1 (by decide) (by decide) e10 (by rw [hml]; rfl) (lenOf own_pd2 rfl) (Nat.le_of_eq rfl) (by decide) (by decide) (hb hby d4_34) ?_
      rintro T11 L11 X11 ⟨-, Nq11, Kq11, Eq11, Cq11, t11, kb11, -, -, -, Vq11, Aq11⟩
      have N_11 := Fr.app N_9 Nq11
      have V8__11 := V8__10.keep Kq11 (ninS (Nat.ne_of_lt lt_b8_b10) nin0)
      have A10__11 := A10.keep Kq11
      have Z_11 := Nat.le_trans Z_10 Kq11.1
      have O_11 := O_10.keep Kq11 (allS g_b10 all0)
      have hk := Nat.le_trans hk Kq11.1
      have K_11 : Keep h0 T11.heap [] := K_10.trans Kq11 (allS (Or.inr sz_b10) all0)
      show Go _ _ _ _ _ T11 (mkF m 37 #[.val (.int p0), .val (.int p1), .val (.int p2), .val (.ref b8)] [(.ref b10)])
      exact gRetA X11 hx hlk hret rfl rfl rfl (hb hby d4_37) (feS hS hk (by decide) (by decide)) ⟨b10, t11, kb11, ([(nar .char p1.toUInt32.toUInt16.toUInt32.toInt32)] : List Int32), rfl, N_11, K_11, ⟨Eq11, Vq11, Cq11, Aq11⟩, hcs1, LS.go (s := s) hPV X11.warmed K_11⟩
  · have hc1 := o_neF hT
    show Go _ _ _ _ _ s₁ (mkF m 4 #[.val (.int p0), .val (.int p1), .val (.int p2), .unset] [])
    rcases hPV with hPV | ⟨la, lb, lk, hPV, LE, LV, LC, LA⟩
    · skip
      show Go _ _ _ _ _ s₁ (mkF m 4 #[.val (.int p0), .val (.int p1), .val (.int p2), .unset] [])
      refine gNew X0 hx hZ hown (tw hw 8 rfl) (tw hw 9 rfl) (tw hw 10 rfl) e0 (hb hby d4_4) (by decide) (by decide) ?_
      intro T12 h12 b12 X12 e12 E12 g12 A12 D12
      have g_b12 : n0 ≤ b12 := by rw [g12]; exact Z0
      have sz_b12 : h0.size ≤ b12 := by rw [g12]; exact (Keep.refl h0 []).1
      have Z_12 := Nat.le_trans Z0 E12.1
      have O_12 := O0.ext E12
      have hk := Nat.le_trans hk E12.1
      have K_12 : Keep h0 h12 [] := (Keep.refl h0 []).ext E12
      have F_value_b12 : Fld Z h12 b12 "java/lang/String" "value" "[B" .null := D12 (Or.inr (tw hw 24 rfl)) (ty := (.array .byte)) (by decide)
      have F_coder_b12 : Fld Z h12 b12 "java/lang/String" "coder" "B" (.int (0 : Int32)) := D12 (Or.inr (tw hw 25 rfl)) (ty := .byte) (by decide)
      show Go _ _ _ _ _ T12 (mkF m 7 #[.val (.int p0), .val (.int p1), .val (.int p2), .unset] [(.ref b12)])
      refine gDup X12 hx (hb hby d4_7) rfl ?_
      refine gIconst X12 hx (0 : Int32) (hb hby d4_8) rfl ?_
      refine gNewArr X12 hx hZ (tw hw 11 rfl) e12 (hb hby d4_9) (by decide) (cap := 0) (by decide) (by decide) (by decide) (by decide) ?_
      intro T13 h13 b13 cA13 X13 e13 E13 g13 A13
      have lt_b12_b13 : b12 < b13 := by rw [g13]; exact A12.lt
      have g_b13 : n0 ≤ b13 := by rw [g13]; exact Z_12
      have sz_b13 : h0.size ≤ b13 := by rw [g13]; exact K_12.1
      have A12__13 := A12.ext E13
      have F_value_b12__13 := F_value_b12.ext E13
      have F_coder_b12__13 := F_coder_b12.ext E13
      have Z_13 := Nat.le_trans Z_12 E13.1
      have O_13 := O_12.ext E13
      have hk := Nat.le_trans hk E13.1
      have K_13 : Keep h0 h13 [] := K_12.ext E13
      have V13 : Arv Z h13 b13 cA13 .char (0 : Int32) [] (.int (0 : Int32)) := (Arv.new A13 (by decide)).pad (pad_rep [] (.int (0 : Int32)) 0)
      show Go _ _ _ _ _ T13 (mkF m 11 #[.val (.int p0), .val (.int p1), .val (.int p2), .unset] [(.ref b13), (.ref b12), (.ref b12)])
      refine gInitS X13 hx hZ (y := (⟨"java/lang/String", "<init>", "([C)V"⟩ : MethodName)) (a := b12) hown rfl (by decide) (tw hw 12 rfl) (tw hw 13 rfl) (tw hw 10 rfl) (tw hw 14 rfl) hS hk (own_rm3E1 l Z a0 hw b12 b13 h13 n0 Z_13 wS hh hcw O_13 A12__13 F_value_b12__13 F_coder_b12__13 g_b12 cA13 V13) (fun vm₁ hv => own_ibw (s := s) hPV hv) e13 (by rw [hml]; rfl) (argsL := [(.ref b13)]) (rest := [(.ref b12)]) (W := 1) (lenOf own_pd2 rfl) rfl (Nat.le_of_eq rfl) (by decide) (by decide) (by decide) (by decide) (hb hby d4_11) ?_
      rintro _ T14 L14 X14 hS hZ hown hgr14 ⟨rfl, Nq14, Kq14, Eq14, la14, lb14, lk14, Vq14, Cq14, LO14⟩
      have N_14 := Fr.app N0 Nq14
      have hk := Nat.le_refl T14.heap.size
      have A12__14 := A12__13.keep Kq14
      have V13__14 := V13.keep Kq14 (ninS (Ne.symm (Nat.ne_of_lt lt_b12_b13)) nin0)
      have Z_14 := Nat.le_trans Z_13 Kq14.1
      have O_14 := O_13.keep Kq14 (allS g_b12 all0)
      have K_14 : Keep h0 T14.heap [] := K_13.trans Kq14 (allS (Or.inr sz_b12) all0)
      show Go _ _ _ _ _ T14 (mkF m 14 #[.val (.int p0), .val (.int p1), .val (.int p2), .unset] [(.ref b12)])
      exact gRetA X14 hx hlk hret rfl rfl rfl (hb hby d4_14) (feS hS hk (by decide) (by decide)) ⟨b12, lb14, lk14, [], rfl, N_14, K_14, ⟨Eq14, Vq14, Cq14, LO14.2.2.2.2⟩, ⟨fun c hc => absurd hc (List.not_mem_nil), by decide⟩, Or.inr ⟨la14, lb14, lk14, LO14⟩⟩
    · skip
      show Go _ _ _ _ _ s₁ (mkF m 4 #[.val (.int p0), .val (.int p1), .val (.int p2), .unset] [])
      refine gNew X0 hx hZ hown (tw hw 8 rfl) (tw hw 9 rfl) (tw hw 10 rfl) e0 (hb hby d4_4) (by decide) (by decide) ?_
      intro T15 h15 b15 X15 e15 E15 g15 A15 D15
      have lt_la_b15 : la < b15 := by rw [g15]; exact LE.lt
      have lt_lb_b15 : lb < b15 := by rw [g15]; exact LA.lt
      have g_b15 : n0 ≤ b15 := by rw [g15]; exact Z0
      have sz_b15 : h0.size ≤ b15 := by rw [g15]; exact (Keep.refl h0 []).1
      have LE__15 := LE.ext E15
      have LV__15 := LV.ext E15
      have LC__15 := LC.ext E15
      have LA__15 := LA.ext E15
      have Z_15 := Nat.le_trans Z0 E15.1
      have O_15 := O0.ext E15
      have hk := Nat.le_trans hk E15.1
      have K_15 : Keep h0 h15 [] := (Keep.refl h0 []).ext E15
      have F_value_b15 : Fld Z h15 b15 "java/lang/String" "value" "[B" .null := D15 (Or.inr (tw hw 24 rfl)) (ty := (.array .byte)) (by decide)
      have F_coder_b15 : Fld Z h15 b15 "java/lang/String" "coder" "B" (.int (0 : Int32)) := D15 (Or.inr (tw hw 25 rfl)) (ty := .byte) (by decide)
      show Go _ _ _ _ _ T15 (mkF m 7 #[.val (.int p0), .val (.int p1), .val (.int p2), .unset] [(.ref b15)])
      refine gDup X15 hx (hb hby d4_7) rfl ?_
      refine gIconst X15 hx (0 : Int32) (hb hby d4_8) rfl ?_
      refine gNewArr X15 hx hZ (tw hw 11 rfl) e15 (hb hby d4_9) (by decide) (cap := 0) (by decide) (by decide) (by decide) (by decide) ?_
      intro T16 h16 b16 cA16 X16 e16 E16 g16 A16
      have lt_la_b16 : la < b16 := by rw [g16]; exact LE__15.lt
      have lt_lb_b16 : lb < b16 := by rw [g16]; exact LA__15.lt
      have lt_b15_b16 : b15 < b16 := by rw [g16]; exact A15.lt
      have g_b16 : n0 ≤ b16 := by rw [g16]; exact Z_15
      have sz_b16 : h0.size ≤ b16 := by rw [g16]; exact K_15.1
      have LE__16 := LE__15.ext E16
      have LV__16 := LV__15.ext E16
      have LC__16 := LC__15.ext E16
      have LA__16 := LA__15.ext E16
      have A15__16 := A15.ext E16
      have F_value_b15__16 := F_value_b15.ext E16
      have F_coder_b15__16 := F_coder_b15.ext E16
      have Z_16 := Nat.le_trans Z_15 E16.1
      have O_16 := O_15.ext E16
      have hk := Nat.le_trans hk E16.1
      have K_16 : Keep h0 h16 [] := K_15.ext E16
      have V16 : Arv Z h16 b16 cA16 .char (0 : Int32) [] (.int (0 : Int32)) := (Arv.new A16 (by decide)).pad (pad_rep [] (.int (0 : Int32)) 0)
      show Go _ _ _ _ _ T16 (mkF m 11 #[.val (.int p0), .val (.int p1), .val (.int p2), .unset] [(.ref b16), (.ref b15), (.ref b15)])
      refine gInitS X16 hx hZ (y := (⟨"java/lang/String", "<init>", "([C)V"⟩ : MethodName)) (a := b15) hown rfl (by decide) (tw hw 12 rfl) (tw hw 13 rfl) (tw hw 10 rfl) (tw hw 14 rfl) hS hk (own_rm3E2 l Z a0 hw b15 b16 h16 n0 Z_16 wS hh hcw O_16 A15__16 F_value_b15__16 F_coder_b15__16 g_b15 cA16 V16 la lb lk LE__16 LV__16 LC__16 LA__16) (fun vm₁ hv => own_lit (s := s) hPV hv) e16 (by rw [hml]; rfl) (argsL := [(.ref b16)]) (rest := [(.ref b15)]) (W := 1) (lenOf own_pd2 rfl) rfl (Nat.le_of_eq rfl) (by decide) (by decide) (by decide) (by decide) (hb hby d4_11) ?_
      rintro _ T17 L17 X17 hS hZ hown hgr17 ⟨rfl, Nq17, Kq17, Eq17, la17, lb17, lk17, Vq17, Cq17, LO17⟩
      have N_17 := Fr.app N0 Nq17
      have hk := Nat.le_refl T17.heap.size
      have A15__17 := A15__16.keep Kq17
      have V16__17 := V16.keep Kq17 (ninS (Ne.symm (Nat.ne_of_lt lt_b15_b16)) nin0)
      have Z_17 := Nat.le_trans Z_16 Kq17.1
      have O_17 := O_16.keep Kq17 (allS g_b15 all0)
      have K_17 : Keep h0 T17.heap [] := K_16.trans Kq17 (allS (Or.inr sz_b15) all0)
      show Go _ _ _ _ _ T17 (mkF m 14 #[.val (.int p0), .val (.int p1), .val (.int p2), .unset] [(.ref b15)])
      exact gRetA X17 hx hlk hret rfl rfl rfl (hb hby d4_14) (feS hS hk (by decide) (by decide)) ⟨b15, lb17, lk17, [], rfl, N_17, K_17, ⟨Eq17, Vq17, Cq17, LO17.2.2.2.2⟩, ⟨fun c hc => absurd hc (List.not_mem_nil), by decide⟩, Or.inr ⟨la17, lb17, lk17, LO17⟩⟩
theorem d5_0 : decode method_2_code 0 = .ok (.iconst 1, 1) := by decide +kernel
theorem d5_1 : decode method_2_code 1 = .ok (.iload_n 0, 1) := by decide +kernel
theorem d5_2 : decode method_2_code 2 = .ok (.ldc 7, 2) := by decide +kernel
theorem d5_4 : decode method_2_code 4 = .ok (.iand, 1) := by decide +kernel
theorem d5_5 : decode method_2_code 5 = .ok (.invokestatic 8, 3) := by decide +kernel
theorem d5_8 : decode method_2_code 8 = .ok (.ireturn, 1) := by decide +kernel
theorem own_pn5 : plainFor (⟨"com/example/wee_check/weecheck/source/SourceLocationEqualsPinLaw", "pos", "(I)I"⟩ : MethodName) = true := plainFor_of_name (by first | (simp [plainName, overriddenIn]; done) | decide +kernel)
theorem own_ef5 (p0 : Int32) (m : MethodId) : entryFrame m #[(.int p0)] 1 = mkF m 0 #[.val (.int p0)] [] := by first | (simp [entryFrame, mkF, argsToLocals, Value.category]; done) | rfl
def own_pos (x : Int32) : Int32 := own_max (1 : Int32) (x &&& (2147483647 : Int32))
theorem own_pos1 (x : Int32) : ¬ own_pos x < (1 : Int32) := by
  unfold own_pos own_max
  split
  · rename_i h
    rw [Int32.lt_iff_toInt_lt] at h ⊢
    omega
  · decide
theorem own_pd4 : parseMethodDescriptor "(I)I" = some ⟨[.int], some .int⟩ := by decide +kernel
set_option maxRecDepth 65536 in
set_option maxHeartbeats 40000000 in
theorem own_rm5 (l : Launch) (Z : State) (a0 : Array Value) (hw : ∀ d ∈ tables_1, d.before a0 Z = true) (p0 : Int32) (h0 : Heap) (n0 : Nat) (Z0 : n0 ≤ h0.size)  :
    Met l Z (⟨"com/example/wee_check/weecheck/source/SourceLocationEqualsPinLaw", "pos", "(I)I"⟩ : MethodName) method_2_code 1 (some .int) [] ({ frames := 1, cells := 0, slots := 0, locals := 13 } : Room) #[(.int p0)] h0 (fun v h L => v = some (.int (own_pos p0)) ∧ Fr n0 L ∧ h = h0) := by
  refine met_of (Ls := #[.val (.int p0)]) own_pn5 (own_ef5 p0) ?_
  intro p e s m below meth c s₁ hx hby hml hown hnm hret hlk hZ X0 e0
  have N0 := Fr.nil n0
  refine gIconst X0 hx (1 : Int32) (hb hby d5_0) rfl ?_
  refine gIloadN X0 hx (hb hby d5_1) rfl ?_
  refine gLdc X0 hx hZ (2147483647 : Int32) hown (tw hw 33 rfl) (hb hby d5_2) ?_
  refine gIand X0 hx (hb hby d5_4) ?_
  refine gStatic X0 hx hZ (y := (⟨"java/lang/Math", "max", "(II)I"⟩ : MethodName)) hown (by decide) (tw hw 34 rfl) (tw hw 35 rfl) (tw hw 2 rfl) (tw hw 36 rfl) (own_rm1 l Z a0 hw (1 : Int32) (p0 &&& (2147483647 : Int32)) h0 n0 Z0) e0 (by rw [hml]; rfl) (argsL := [(.int (1 : Int32)), (.int (p0 &&& (2147483647 : Int32)))]) (rest := []) (W := 0) (lenOf own_pd0 rfl) rfl (Nat.le_of_eq rfl) (by decide) (by decide) (by decide) (by decide) (hb hby d5_5) ?_
  rintro _ T1 L1 X1 ⟨rfl, Nq1, e1⟩
  have N_1 := Fr.app N0 Nq1
  show Go _ _ _ _ _ T1 (mkF m 8 #[.val (.int p0)] [(.int (own_max (1 : Int32) (p0 &&& (2147483647 : Int32))))])
  exact gRetI X1 hx hlk hret (hb hby d5_8) (feN (by decide) (by decide)) ⟨rfl, N_1, e1⟩
theorem d6_0 : decode jdk_31_method_11_code 0 = .ok (.aload_n 0, 1) := by decide +kernel
theorem d6_1 : decode jdk_31_method_11_code 1 = .ok (.ifnonnull 12, 3) := by decide +kernel
theorem d6_4 : decode jdk_31_method_11_code 4 = .ok (.new 84, 3) := by decide +kernel
theorem d6_7 : decode jdk_31_method_11_code 7 = .ok (.dup, 1) := by decide +kernel
theorem d6_8 : decode jdk_31_method_11_code 8 = .ok (.aload_n 1, 1) := by decide +kernel
theorem d6_9 : decode jdk_31_method_11_code 9 = .ok (.invokespecial 87, 3) := by decide +kernel
theorem d6_12 : decode jdk_31_method_11_code 12 = .ok (.athrow, 1) := by decide +kernel
theorem d6_13 : decode jdk_31_method_11_code 13 = .ok (.aload_n 0, 1) := by decide +kernel
theorem d6_14 : decode jdk_31_method_11_code 14 = .ok (.areturn, 1) := by decide +kernel
theorem own_pn6 : plainFor (⟨"java/util/Objects", "requireNonNull", "(Ljava/lang/Object;Ljava/lang/String;)Ljava/lang/Object;"⟩ : MethodName) = true := plainFor_of_name (by first | (simp [plainName, overriddenIn]; done) | decide +kernel)
theorem own_ef6 (r0 : Addr) (r1 : Addr) (m : MethodId) : entryFrame m #[(.ref r0), (.ref r1)] 2 = mkF m 0 #[.val (.ref r0), .val (.ref r1)] [] := by first | (simp [entryFrame, mkF, argsToLocals, Value.category]; done) | rfl
theorem own_pd5 : parseMethodDescriptor "(Ljava/lang/Object;Ljava/lang/String;)Ljava/lang/Object;" = some ⟨[(.object "java/lang/Object"), (.object "java/lang/String")], some (.object "java/lang/Object")⟩ := by decide +kernel
set_option maxRecDepth 65536 in
set_option maxHeartbeats 40000000 in
theorem own_rm6 (l : Launch) (Z : State) (a0 : Array Value) (hw : ∀ d ∈ tables_1, d.before a0 Z = true) (r0 : Addr) (r1 : Addr) (h0 : Heap) (n0 : Nat) (Z0 : n0 ≤ h0.size)  :
    Met l Z (⟨"java/util/Objects", "requireNonNull", "(Ljava/lang/Object;Ljava/lang/String;)Ljava/lang/Object;"⟩ : MethodName) jdk_31_method_11_code 2 (some (.object "java/lang/Object")) [] ({ frames := 0, cells := 0, slots := 0, locals := 0 } : Room) #[(.ref r0), (.ref r1)] h0 (fun v h L => v = some (.ref r0) ∧ Fr n0 L ∧ h = h0) := by
  refine met_of (Ls := #[.val (.ref r0), .val (.ref r1)]) own_pn6 (own_ef6 r0 r1) ?_
  intro p e s m below meth c s₁ hx hby hml hown hnm hret hlk hZ X0 e0
  have N0 := Fr.nil n0
  refine gAloadN X0 hx (hb hby d6_0) rfl rfl ?_
  refine gNonNull X0 hx 13 (hb hby d6_1) (by decide) (by decide) ?_
  show Go _ _ _ _ _ s₁ (mkF m 13 #[.val (.ref r0), .val (.ref r1)] [])
  refine gAloadN X0 hx (hb hby d6_13) rfl rfl ?_
  exact gRetA X0 hx hlk hret rfl rfl rfl (hb hby d6_14) (feN (by decide) (by decide)) ⟨rfl, N0, e0⟩
theorem d7_0 : decode prog_98_method_1_code 0 = .ok (.aload_n 0, 1) := by decide +kernel
theorem d7_1 : decode prog_98_method_1_code 1 = .ok (.invokespecial 1, 3) := by decide +kernel
theorem d7_4 : decode prog_98_method_1_code 4 = .ok (.iload_n 2, 1) := by decide +kernel
theorem d7_5 : decode prog_98_method_1_code 5 = .ok (.iconst 1, 1) := by decide +kernel
theorem d7_6 : decode prog_98_method_1_code 6 = .ok (.if_icmp .ge 17, 3) := by decide +kernel
theorem d7_9 : decode prog_98_method_1_code 9 = .ok (.new 7, 3) := by decide +kernel
theorem d7_12 : decode prog_98_method_1_code 12 = .ok (.dup, 1) := by decide +kernel
theorem d7_13 : decode prog_98_method_1_code 13 = .ok (.iload_n 2, 1) := by decide +kernel
theorem d7_19 : decode prog_98_method_1_code 19 = .ok (.invokespecial 13, 3) := by decide +kernel
theorem d7_22 : decode prog_98_method_1_code 22 = .ok (.athrow, 1) := by decide +kernel
theorem d7_23 : decode prog_98_method_1_code 23 = .ok (.iload_n 3, 1) := by decide +kernel
theorem d7_24 : decode prog_98_method_1_code 24 = .ok (.iconst 1, 1) := by decide +kernel
theorem d7_25 : decode prog_98_method_1_code 25 = .ok (.if_icmp .ge 17, 3) := by decide +kernel
theorem d7_28 : decode prog_98_method_1_code 28 = .ok (.new 7, 3) := by decide +kernel
theorem d7_31 : decode prog_98_method_1_code 31 = .ok (.dup, 1) := by decide +kernel
theorem d7_32 : decode prog_98_method_1_code 32 = .ok (.iload_n 3, 1) := by decide +kernel
theorem d7_38 : decode prog_98_method_1_code 38 = .ok (.invokespecial 13, 3) := by decide +kernel
theorem d7_41 : decode prog_98_method_1_code 41 = .ok (.athrow, 1) := by decide +kernel
theorem d7_42 : decode prog_98_method_1_code 42 = .ok (.aload_n 0, 1) := by decide +kernel
theorem d7_43 : decode prog_98_method_1_code 43 = .ok (.aload_n 1, 1) := by decide +kernel
theorem d7_44 : decode prog_98_method_1_code 44 = .ok (.ldc 17, 2) := by decide +kernel
theorem d7_46 : decode prog_98_method_1_code 46 = .ok (.invokestatic 19, 3) := by decide +kernel
theorem d7_49 : decode prog_98_method_1_code 49 = .ok (.checkcast 25, 3) := by decide +kernel
theorem d7_52 : decode prog_98_method_1_code 52 = .ok (.putfield 27, 3) := by decide +kernel
theorem d7_55 : decode prog_98_method_1_code 55 = .ok (.aload_n 0, 1) := by decide +kernel
theorem d7_56 : decode prog_98_method_1_code 56 = .ok (.iload_n 2, 1) := by decide +kernel
theorem d7_57 : decode prog_98_method_1_code 57 = .ok (.putfield 32, 3) := by decide +kernel
theorem d7_60 : decode prog_98_method_1_code 60 = .ok (.aload_n 0, 1) := by decide +kernel
theorem d7_61 : decode prog_98_method_1_code 61 = .ok (.iload_n 3, 1) := by decide +kernel
theorem d7_62 : decode prog_98_method_1_code 62 = .ok (.putfield 36, 3) := by decide +kernel
theorem d7_65 : decode prog_98_method_1_code 65 = .ok (.return_, 1) := by decide +kernel
theorem own_pn7 : plainFor (⟨"com/example/wee_check/weecheck/source/SourceLocation", "<init>", "(Ljava/lang/String;II)V"⟩ : MethodName) = true := plainFor_of_name (by first | (simp [plainName, overriddenIn]; done) | decide +kernel)
theorem own_ef7 (r0 : Addr) (r1 : Addr) (p2 : Int32) (p3 : Int32) (m : MethodId) : entryFrame m #[(.ref r0), (.ref r1), (.int p2), (.int p3)] 4 = mkF m 0 #[.val (.ref r0), .val (.ref r1), .val (.int p2), .val (.int p3)] [] := by first | (simp [entryFrame, mkF, argsToLocals, Value.category]; done) | rfl
theorem own_pd6 : parseMethodDescriptor "(Ljava/lang/String;II)V" = some ⟨[(.object "java/lang/String"), .int, .int], none⟩ := by decide +kernel
set_option maxRecDepth 65536 in
set_option maxHeartbeats 40000000 in
theorem own_rm7 (l : Launch) (Z : State) (a0 : Array Value) (hw : ∀ d ∈ tables_1, d.before a0 Z = true) (r0 : Addr) (r1 : Addr) (p2 : Int32) (p3 : Int32) (h0 : Heap) (n0 : Nat) (Z0 : n0 ≤ h0.size) (wS : ∀ a ∈ Bundle.stringAtoms, a.before a0 Z = true) (E0 : Exa Z h0 r0 "com/example/wee_check/weecheck/source/SourceLocation") (g0 : n0 ≤ r0) (E1 : Exa Z h0 r1 "java/lang/String") (F0 : Fld Z h0 r0 "com/example/wee_check/weecheck/source/SourceLocation" "file" "Ljava/lang/String;" .null) (F1 : Fld Z h0 r0 "com/example/wee_check/weecheck/source/SourceLocation" "line" "I" (.int (0 : Int32))) (F2 : Fld Z h0 r0 "com/example/wee_check/weecheck/source/SourceLocation" "column" "I" (.int (0 : Int32))) (hl : ¬ p2 < (1 : Int32)) (hc : ¬ p3 < (1 : Int32)) :
    MetS l Z (⟨"com/example/wee_check/weecheck/source/SourceLocation", "<init>", "(Ljava/lang/String;II)V"⟩ : MethodName) prog_98_method_1_code 4 none [] ({ frames := 1, cells := 2, slots := 20, locals := 14 } : Room) #[(.ref r0), (.ref r1), (.int p2), (.int p3)] h0 (fun _ => True) (fun v h vm L => v = none ∧ Fr n0 L ∧ Keep h0 h [r0] ∧ Exa Z h r0 "com/example/wee_check/weecheck/source/SourceLocation" ∧ Fld Z h r0 "com/example/wee_check/weecheck/source/SourceLocation" "file" "Ljava/lang/String;" (.ref r1) ∧ Fld Z h r0 "com/example/wee_check/weecheck/source/SourceLocation" "line" "I" (.int p2) ∧ Fld Z h r0 "com/example/wee_check/weecheck/source/SourceLocation" "column" "I" (.int p3)) := by
  refine metS_of (Ls := #[.val (.ref r0), .val (.ref r1), .val (.int p2), .val (.int p3)]) own_pn7 (own_ef7 r0 r1 p2 p3) ?_
  intro p e s m below meth c s₁ hx hby hml hown hnm hret hlk hZ X0 e0 hPV hsh hS
  have N0 := Fr.nil n0
  have hk : 0 ≤ h0.size := Nat.zero_le _
  refine gAloadN X0 hx (hb hby d7_0) rfl rfl ?_
  refine gObjInit X0 hx hZ hown (tw hw 43 rfl) (tw hw 20 rfl) (tw hw 21 rfl) e0 (by rw [hml]; rfl) (hb hby d7_1) (by decide) (W := 0) (Nat.le_of_eq rfl) (by decide) ?_
  intro T1 X1 e1
  show Go _ _ _ _ _ T1 (mkF m 4 #[.val (.ref r0), .val (.ref r1), .val (.int p2), .val (.int p3)] [])
  refine gIloadN X1 hx (hb hby d7_4) rfl ?_
  refine gIconst X1 hx (1 : Int32) (hb hby d7_5) rfl ?_
  refine gIcmp X1 hx 23 (hb hby d7_6) (by decide) (by decide) (fun _ => ?_) (fun q => absurd (o_geF q) hl)
  show Go _ _ _ _ _ T1 (mkF m 23 #[.val (.ref r0), .val (.ref r1), .val (.int p2), .val (.int p3)] [])
  refine gIloadN X1 hx (hb hby d7_23) rfl ?_
  refine gIconst X1 hx (1 : Int32) (hb hby d7_24) rfl ?_
  refine gIcmp X1 hx 42 (hb hby d7_25) (by decide) (by decide) (fun _ => ?_) (fun q => absurd (o_geF q) hc)
  show Go _ _ _ _ _ T1 (mkF m 42 #[.val (.ref r0), .val (.ref r1), .val (.int p2), .val (.int p3)] [])
  refine gAloadN X1 hx (hb hby d7_42) rfl rfl ?_
  refine gAloadN X1 hx (hb hby d7_43) rfl rfl ?_
  refine gLdcS X1 hx hZ hown (tw hw 44 rfl) wS e1 hS hk (hb hby d7_44) (n := 16) (by decide) (by decide) (by decide) (by decide) ?_
  intro lf T2 h2 k1 X2 e2 E2 hS hk hZ hown
  have E0__2 := E0.ext E2
  have E1__2 := E1.ext E2
  have F0__2 := F0.ext E2
  have F1__2 := F1.ext E2
  have F2__2 := F2.ext E2
  have Z_2 := Nat.le_trans Z0 E2.1
  have K_2 : Keep h0 h2 [r0] := (Keep.refl h0 [r0]).ext E2
  show Go _ _ _ _ _ T2 (mkF m 46 #[.val (.ref r0), .val (.ref r1), .val (.int p2), .val (.int p3)] [(.ref lf), (.ref r1), (.ref r0)])
  refine gStatic X2 hx hZ (y := (⟨"java/util/Objects", "requireNonNull", "(Ljava/lang/Object;Ljava/lang/String;)Ljava/lang/Object;"⟩ : MethodName)) hown (by decide) (tw hw 45 rfl) (tw hw 46 rfl) (tw hw 47 rfl) (tw hw 48 rfl) (own_rm6 l Z a0 hw r1 lf h2 n0 Z_2) e2 (by rw [hml]; rfl) (argsL := [(.ref r1), (.ref lf)]) (rest := [(.ref r0)]) (W := 1) (lenOf own_pd5 rfl) rfl (Nat.le_of_eq rfl) (by decide) (by decide) (by decide) (by decide) (hb hby d7_46) ?_
  rintro _ T3 L3 X3 ⟨rfl, Nq3, e3⟩
  have N_3 := Fr.app N0 Nq3
  show Go _ _ _ _ _ T3 (mkF m 49 #[.val (.ref r0), .val (.ref r1), .val (.int p2), .val (.int p3)] [(.ref r1), (.ref r0)])
  refine gCast X3 hx hZ hown (tw hw 49 rfl) e3 (Ins.self E1__2) (hb hby d7_49) ?_
  intro T4 X4 e4
  show Go _ _ _ _ _ T4 (mkF m 52 #[.val (.ref r0), .val (.ref r1), .val (.int p2), .val (.int p3)] [(.ref r1), (.ref r0)])
  refine gPutF X4 hx hZ hown (tw hw 50 rfl) e4 F0__2 E0__2 (Or.inr ⟨(tw hw 51 rfl), rfl, hnm⟩) (tw hw 38 rfl) (ty := (.object "java/lang/String")) (by decide) rfl rfl (hb hby d7_52) ?_
  intro T5 h5 X5 e5 W5
  have F0__5 := F0__2.same W5
  have E0__5 := E0__2.wr W5
  have E1__5 := E1__2.wr W5
  have F1__5 := F1__2.other W5 (Or.inr (slot_ne (Or.inr (tw hw 53 rfl)) (Or.inr (tw hw 51 rfl)) (by decide) (t := .int) (t' := (.object "java/lang/String")) (by decide) (by decide)))
  have F2__5 := F2__2.other W5 (Or.inr (slot_ne (Or.inr (tw hw 55 rfl)) (Or.inr (tw hw 51 rfl)) (by decide) (t := .int) (t' := (.object "java/lang/String")) (by decide) (by decide)))
  have Z_5 := Nat.le_trans Z_2 (Nat.le_of_eq W5.size.symm)
  have hk := Nat.le_trans hk (Nat.le_of_eq W5.size.symm)
  have K_5 : Keep h0 h5 [r0] := K_2.wr W5 (Or.inl (List.mem_of_getElem? (i := 0) rfl))
  have N_5 := Fr.snoc X5 N_3 g0
  show Go _ _ _ _ _ T5 (mkF m 55 #[.val (.ref r0), .val (.ref r1), .val (.int p2), .val (.int p3)] [])
  refine gAloadN X5 hx (hb hby d7_55) rfl rfl ?_
  refine gIloadN X5 hx (hb hby d7_56) rfl ?_
  refine gPutF X5 hx hZ hown (tw hw 52 rfl) e5 F1__5 E0__5 (Or.inr ⟨(tw hw 53 rfl), rfl, hnm⟩) (tw hw 38 rfl) (ty := .int) (by decide) rfl rfl (hb hby d7_57) ?_
  intro T6 h6 X6 e6 W6
  have F1__6 := F1__5.same W6
  have E0__6 := E0__5.wr W6
  have E1__6 := E1__5.wr W6
  have F0__6 := F0__5.other W6 (Or.inr (slot_ne (Or.inr (tw hw 51 rfl)) (Or.inr (tw hw 53 rfl)) (by decide) (t := (.object "java/lang/String")) (t' := .int) (by decide) (by decide)))
  have F2__6 := F2__5.other W6 (Or.inr (slot_ne (Or.inr (tw hw 55 rfl)) (Or.inr (tw hw 53 rfl)) (by decide) (t := .int) (t' := .int) (by decide) (by decide)))
  have Z_6 := Nat.le_trans Z_5 (Nat.le_of_eq W6.size.symm)
  have hk := Nat.le_trans hk (Nat.le_of_eq W6.size.symm)
  have K_6 : Keep h0 h6 [r0] := K_5.wr W6 (Or.inl (List.mem_of_getElem? (i := 0) rfl))
  have N_6 := Fr.snoc X6 N_5 g0
  show Go _ _ _ _ _ T6 (mkF m 60 #[.val (.ref r0), .val (.ref r1), .val (.int p2), .val (.int p3)] [])
  refine gAloadN X6 hx (hb hby d7_60) rfl rfl ?_
  refine gIloadN X6 hx (hb hby d7_61) rfl ?_
  refine gPutF X6 hx hZ hown (tw hw 54 rfl) e6 F2__6 E0__6 (Or.inr ⟨(tw hw 55 rfl), rfl, hnm⟩) (tw hw 38 rfl) (ty := .int) (by decide) rfl rfl (hb hby d7_62) ?_
  intro T7 h7 X7 e7 W7
  have F2__7 := F2__6.same W7
  have E0__7 := E0__6.wr W7
  have E1__7 := E1__6.wr W7
  have F0__7 := F0__6.other W7 (Or.inr (slot_ne (Or.inr (tw hw 51 rfl)) (Or.inr (tw hw 55 rfl)) (by decide) (t := (.object "java/lang/String")) (t' := .int) (by decide) (by decide)))
  have F1__7 := F1__6.other W7 (Or.inr (slot_ne (Or.inr (tw hw 53 rfl)) (Or.inr (tw hw 55 rfl)) (by decide) (t := .int) (t' := .int) (by decide) (by decide)))
  have Z_7 := Nat.le_trans Z_6 (Nat.le_of_eq W7.size.symm)
  have hk := Nat.le_trans hk (Nat.le_of_eq W7.size.symm)
  have K_7 : Keep h0 h7 [r0] := K_6.wr W7 (Or.inl (List.mem_of_getElem? (i := 0) rfl))
  have N_7 := Fr.snoc X7 N_6 g0
  show Go _ _ _ _ _ T7 (mkF m 65 #[.val (.ref r0), .val (.ref r1), .val (.int p2), .val (.int p3)] [])
  subst e7
  exact gRetV X7 hx hlk hret (hb hby d7_65) (feS hS hk (by decide) (by decide)) ⟨rfl, N_7, K_7, E0__7, F0__7, F1__7, F2__7⟩
theorem d8_0 : decode prog_98_method_5_code 0 = .ok (.aload_n 0, 1) := by decide +kernel
theorem d8_1 : decode prog_98_method_5_code 1 = .ok (.aload_n 1, 1) := by decide +kernel
theorem d8_2 : decode prog_98_method_5_code 2 = .ok (.if_acmp .ne 5, 3) := by decide +kernel
theorem d8_5 : decode prog_98_method_5_code 5 = .ok (.iconst 1, 1) := by decide +kernel
theorem d8_6 : decode prog_98_method_5_code 6 = .ok (.ireturn, 1) := by decide +kernel
theorem d8_7 : decode prog_98_method_5_code 7 = .ok (.aload_n 1, 1) := by decide +kernel
theorem d8_8 : decode prog_98_method_5_code 8 = .ok (.instanceof 28, 3) := by decide +kernel
theorem d8_11 : decode prog_98_method_5_code 11 = .ok (.ifCond .eq 11, 3) := by decide +kernel
theorem d8_14 : decode prog_98_method_5_code 14 = .ok (.aload_n 1, 1) := by decide +kernel
theorem d8_15 : decode prog_98_method_5_code 15 = .ok (.checkcast 28, 3) := by decide +kernel
theorem d8_18 : decode prog_98_method_5_code 18 = .ok (.astore_n 2, 1) := by decide +kernel
theorem d8_19 : decode prog_98_method_5_code 19 = .ok (.goto 5, 3) := by decide +kernel
theorem d8_22 : decode prog_98_method_5_code 22 = .ok (.iconst 0, 1) := by decide +kernel
theorem d8_23 : decode prog_98_method_5_code 23 = .ok (.ireturn, 1) := by decide +kernel
theorem d8_24 : decode prog_98_method_5_code 24 = .ok (.aload_n 0, 1) := by decide +kernel
theorem d8_25 : decode prog_98_method_5_code 25 = .ok (.getfield 32, 3) := by decide +kernel
theorem d8_28 : decode prog_98_method_5_code 28 = .ok (.aload_n 2, 1) := by decide +kernel
theorem d8_29 : decode prog_98_method_5_code 29 = .ok (.getfield 32, 3) := by decide +kernel
theorem d8_32 : decode prog_98_method_5_code 32 = .ok (.if_icmp .ne 32, 3) := by decide +kernel
theorem d8_35 : decode prog_98_method_5_code 35 = .ok (.aload_n 0, 1) := by decide +kernel
theorem d8_36 : decode prog_98_method_5_code 36 = .ok (.getfield 36, 3) := by decide +kernel
theorem d8_39 : decode prog_98_method_5_code 39 = .ok (.aload_n 2, 1) := by decide +kernel
theorem d8_40 : decode prog_98_method_5_code 40 = .ok (.getfield 36, 3) := by decide +kernel
theorem d8_43 : decode prog_98_method_5_code 43 = .ok (.if_icmp .ne 21, 3) := by decide +kernel
theorem d8_46 : decode prog_98_method_5_code 46 = .ok (.aload_n 0, 1) := by decide +kernel
theorem d8_47 : decode prog_98_method_5_code 47 = .ok (.getfield 27, 3) := by decide +kernel
theorem d8_50 : decode prog_98_method_5_code 50 = .ok (.aload_n 2, 1) := by decide +kernel
theorem d8_51 : decode prog_98_method_5_code 51 = .ok (.getfield 27, 3) := by decide +kernel
theorem d8_54 : decode prog_98_method_5_code 54 = .ok (.invokevirtual 39, 3) := by decide +kernel
theorem d8_57 : decode prog_98_method_5_code 57 = .ok (.ifCond .eq 7, 3) := by decide +kernel
theorem d8_60 : decode prog_98_method_5_code 60 = .ok (.iconst 1, 1) := by decide +kernel
theorem d8_61 : decode prog_98_method_5_code 61 = .ok (.goto 4, 3) := by decide +kernel
theorem d8_64 : decode prog_98_method_5_code 64 = .ok (.iconst 0, 1) := by decide +kernel
theorem d8_65 : decode prog_98_method_5_code 65 = .ok (.ireturn, 1) := by decide +kernel
theorem own_pn8 : plainFor (⟨"com/example/wee_check/weecheck/source/SourceLocation", "equals", "(Ljava/lang/Object;)Z"⟩ : MethodName) = true := plainFor_of_name (by first | (simp [plainName, overriddenIn]; done) | decide +kernel)
theorem own_ef8 (r0 : Addr) (r1 : Addr) (m : MethodId) : entryFrame m #[(.ref r0), (.ref r1)] 3 = mkF m 0 #[.val (.ref r0), .val (.ref r1), .unset] [] := by first | (simp [entryFrame, mkF, argsToLocals, Value.category]; done) | rfl
theorem own_pd7 : parseMethodDescriptor "(Ljava/lang/Object;)Z" = some ⟨[(.object "java/lang/Object")], some .boolean⟩ := by decide +kernel
def own_sl (l1 l2 c1 c2 : Int32) (cs ds : List Int32) : Int32 := if l1 = l2 then (if c1 = c2 then (if cs = ds then (1 : Int32) else (0 : Int32)) else (0 : Int32)) else (0 : Int32)
theorem own_if0 {q : Prop} [Decidable q] (h : (if q then (1 : Int32) else (0 : Int32)) = (0 : Int32)) : ¬ q := fun z => by rw [if_pos z] at h; exact absurd h (by decide)
theorem own_if1 {q : Prop} [Decidable q] (h : ¬ (if q then (1 : Int32) else (0 : Int32)) = (0 : Int32)) : q := Decidable.byContradiction fun z => h (if_neg z)
theorem own_slT {l1 l2 c1 c2 : Int32} {cs ds : List Int32} (h1 : l1 = l2) (h2 : c1 = c2) (h3 : cs = ds) : own_sl l1 l2 c1 c2 cs ds = (1 : Int32) := (if_pos h1).trans ((if_pos h2).trans (if_pos h3))
theorem own_slL {l1 l2 c1 c2 : Int32} {cs ds : List Int32} (h1 : ¬ l1 = l2) : own_sl l1 l2 c1 c2 cs ds = (0 : Int32) := if_neg h1
theorem own_slC {l1 l2 c1 c2 : Int32} {cs ds : List Int32} (h1 : l1 = l2) (h2 : ¬ c1 = c2) : own_sl l1 l2 c1 c2 cs ds = (0 : Int32) := (if_pos h1).trans (if_neg h2)
theorem own_slS {l1 l2 c1 c2 : Int32} {cs ds : List Int32} (h1 : l1 = l2) (h2 : c1 = c2) (h3 : ¬ cs = ds) : own_sl l1 l2 c1 c2 cs ds = (0 : Int32) := (if_pos h1).trans ((if_pos h2).trans (if_neg h3))
set_option maxRecDepth 65536 in
set_option maxHeartbeats 40000000 in
theorem own_rm8A (l : Launch) (Z : State) (a0 : Array Value) (hw : ∀ d ∈ tables_1, d.before a0 Z = true) (r0 : Addr) (h0 : Heap) (n0 : Nat) (Z0 : n0 ≤ h0.size)  :
    Met l Z (⟨"com/example/wee_check/weecheck/source/SourceLocation", "equals", "(Ljava/lang/Object;)Z"⟩ : MethodName) prog_98_method_5_code 3 (some .boolean) [] ({ frames := 0, cells := 0, slots := 0, locals := 0 } : Room) #[(.ref r0), (.ref r0)] h0 (fun v h L => v = some (.int (1 : Int32)) ∧ Fr n0 L ∧ h = h0) := by
  refine met_of (Ls := #[.val (.ref r0), .val (.ref r0), .unset]) own_pn8 (own_ef8 r0 r0) ?_
  intro p e s m below meth c s₁ hx hby hml hown hnm hret hlk hZ X0 e0
  have N0 := Fr.nil n0
  refine gAloadN X0 hx (hb hby d8_0) rfl rfl ?_
  refine gAloadN X0 hx (hb hby d8_1) rfl rfl ?_
  refine gAcmpNe X0 hx 7 (hb hby d8_2) (by decide) (by decide) (fun _ => ?_) (fun q => absurd rfl q)
  show Go _ _ _ _ _ s₁ (mkF m 5 #[.val (.ref r0), .val (.ref r0), .unset] [])
  refine gIconst X0 hx (1 : Int32) (hb hby d8_5) rfl ?_
  exact gRetZ X0 hx hlk hret (by simp) (hb hby d8_6) (z' := (1 : Int32)) rfl (feN (by decide) (by decide)) ⟨rfl, N0, e0⟩
theorem own_ef8N (r0 : Addr) (m : MethodId) : entryFrame m #[(.ref r0), .null] 3 = mkF m 0 #[.val (.ref r0), .val .null, .unset] [] := by first | (simp [entryFrame, mkF, argsToLocals, Value.category]; done) | rfl
set_option maxRecDepth 65536 in
set_option maxHeartbeats 40000000 in
theorem own_rm8N (l : Launch) (Z : State) (a0 : Array Value) (hw : ∀ d ∈ tables_1, d.before a0 Z = true) (r0 : Addr) (h0 : Heap) (n0 : Nat) (Z0 : n0 ≤ h0.size)  :
    Met l Z (⟨"com/example/wee_check/weecheck/source/SourceLocation", "equals", "(Ljava/lang/Object;)Z"⟩ : MethodName) prog_98_method_5_code 3 (some .boolean) [] ({ frames := 0, cells := 0, slots := 0, locals := 0 } : Room) #[(.ref r0), .null] h0 (fun v h L => v = some (.int (0 : Int32)) ∧ Fr n0 L ∧ h = h0) := by
  refine met_of (Ls := #[.val (.ref r0), .val .null, .unset]) own_pn8 (own_ef8N r0) ?_
  intro p e s m below meth c s₁ hx hby hml hown hnm hret hlk hZ X0 e0
  have N0 := Fr.nil n0
  refine gAloadN X0 hx (hb hby d8_0) rfl rfl ?_
  refine gAloadN X0 hx (hb hby d8_1) rfl rfl ?_
  refine gAcmpNull X0 hx 7 (hb hby d8_2) (by decide) (by decide) ?_
  show Go _ _ _ _ _ s₁ (mkF m 7 #[.val (.ref r0), .val .null, .unset] [])
  refine gAloadN X0 hx (hb hby d8_7) rfl rfl ?_
  refine gInstNull X0 hx (hb hby d8_8) ?_
  show Go _ _ _ _ _ s₁ (mkF m 11 #[.val (.ref r0), .val .null, .unset] [(.int (0 : Int32))])
  refine gIf X0 hx 22 (hb hby d8_11) (by decide) (by decide) (fun _ => ?_) (fun q => absurd (by decide) (o_eqF q))
  show Go _ _ _ _ _ s₁ (mkF m 22 #[.val (.ref r0), .val .null, .unset] [])
  refine gIconst X0 hx (0 : Int32) (hb hby d8_22) rfl ?_
  exact gRetZ X0 hx hlk hret (by simp) (hb hby d8_23) (z' := (0 : Int32)) rfl (feN (by decide) (by decide)) ⟨rfl, N0, e0⟩
set_option maxRecDepth 65536 in
set_option maxHeartbeats 40000000 in
theorem own_rm8S (l : Launch) (Z : State) (a0 : Array Value) (hw : ∀ d ∈ tables_1, d.before a0 Z = true) (r0 : Addr) (r1 : Addr) (h0 : Heap) (n0 : Nat) (Z0 : n0 ≤ h0.size) (hne : r0 ≠ r1) (E1 : Exa Z h0 r1 "java/lang/String") :
    Met l Z (⟨"com/example/wee_check/weecheck/source/SourceLocation", "equals", "(Ljava/lang/Object;)Z"⟩ : MethodName) prog_98_method_5_code 3 (some .boolean) [] ({ frames := 0, cells := 0, slots := 0, locals := 0 } : Room) #[(.ref r0), (.ref r1)] h0 (fun v h L => v = some (.int (0 : Int32)) ∧ Fr n0 L ∧ h = h0) := by
  refine met_of (Ls := #[.val (.ref r0), .val (.ref r1), .unset]) own_pn8 (own_ef8 r0 r1) ?_
  intro p e s m below meth c s₁ hx hby hml hown hnm hret hlk hZ X0 e0
  have N0 := Fr.nil n0
  refine gAloadN X0 hx (hb hby d8_0) rfl rfl ?_
  refine gAloadN X0 hx (hb hby d8_1) rfl rfl ?_
  refine gAcmpNe X0 hx 7 (hb hby d8_2) (by decide) (by decide) (fun q => absurd q hne) (fun _ => ?_)
  show Go _ _ _ _ _ s₁ (mkF m 7 #[.val (.ref r0), .val (.ref r1), .unset] [])
  refine gAloadN X0 hx (hb hby d8_7) rfl rfl ?_
  refine gInstNo X0 hx hZ hown (tw hw 61 rfl) e0 E1 (own_noO (tw hw 62 rfl) (tw hw 63 rfl) (tw hw 38 rfl) (by decide) (by decide)) (hb hby d8_8) ?_
  intro T2 X2 e2
  show Go _ _ _ _ _ T2 (mkF m 11 #[.val (.ref r0), .val (.ref r1), .unset] [(.int (0 : Int32))])
  refine gIf X2 hx 22 (hb hby d8_11) (by decide) (by decide) (fun _ => ?_) (fun q => absurd (by decide) (o_eqF q))
  show Go _ _ _ _ _ T2 (mkF m 22 #[.val (.ref r0), .val (.ref r1), .unset] [])
  refine gIconst X2 hx (0 : Int32) (hb hby d8_22) rfl ?_
  exact gRetZ X2 hx hlk hret (by simp) (hb hby d8_23) (z' := (0 : Int32)) rfl (feN (by decide) (by decide)) ⟨rfl, N0, e2⟩
set_option maxRecDepth 65536 in
set_option maxHeartbeats 40000000 in
theorem own_rm8L (l : Launch) (Z : State) (a0 : Array Value) (hw : ∀ d ∈ tables_1, d.before a0 Z = true) (r0 : Addr) (r1 : Addr) (h0 : Heap) (n0 : Nat) (Z0 : n0 ≤ h0.size) (x y t t2 : Addr) (kb kb2 : ClassId) (cs ds : List Int32) (l1 l2 c1 c2 : Int32) (O0 : Old Z n0 h0) (z : Int32) (SC : Sta Z Z.heap "java/lang/String" "COMPACT_STRINGS" "Z" (.int z)) (hz : ¬ z = 0) (hne : r0 ≠ r1) (E1 : Exa Z h0 r1 "com/example/wee_check/weecheck/source/SourceLocation") (F0 : Fld Z h0 r0 "com/example/wee_check/weecheck/source/SourceLocation" "file" "Ljava/lang/String;" (.ref x)) (G0 : Fld Z h0 r0 "com/example/wee_check/weecheck/source/SourceLocation" "line" "I" (.int l1)) (H0 : Fld Z h0 r0 "com/example/wee_check/weecheck/source/SourceLocation" "column" "I" (.int c1)) (F1 : Fld Z h0 r1 "com/example/wee_check/weecheck/source/SourceLocation" "file" "Ljava/lang/String;" (.ref y)) (G1 : Fld Z h0 r1 "com/example/wee_check/weecheck/source/SourceLocation" "line" "I" (.int l2)) (H1 : Fld Z h0 r1 "com/example/wee_check/weecheck/source/SourceLocation" "column" "I" (.int c2)) (A : SO Z h0 x t kb cs) (B : SO Z h0 y t2 kb2 ds) (okc : OKcs cs) (okd : OKcs ds) :
    Met l Z (⟨"com/example/wee_check/weecheck/source/SourceLocation", "equals", "(Ljava/lang/Object;)Z"⟩ : MethodName) prog_98_method_5_code 3 (some .boolean) [] ({ frames := 2, cells := 0, slots := 0, locals := 28 } : Room) #[(.ref r0), (.ref r1)] h0 (fun v h L => v = some (.int (own_sl l1 l2 c1 c2 cs ds)) ∧ Fr n0 L ∧ h = h0) := by
  refine met_of (Ls := #[.val (.ref r0), .val (.ref r1), .unset]) own_pn8 (own_ef8 r0 r1) ?_
  intro p e s m below meth c s₁ hx hby hml hown hnm hret hlk hZ X0 e0
  have N0 := Fr.nil n0
  refine gAloadN X0 hx (hb hby d8_0) rfl rfl ?_
  refine gAloadN X0 hx (hb hby d8_1) rfl rfl ?_
  refine gAcmpNe X0 hx 7 (hb hby d8_2) (by decide) (by decide) (fun q => absurd q hne) (fun _ => ?_)
  show Go _ _ _ _ _ s₁ (mkF m 7 #[.val (.ref r0), .val (.ref r1), .unset] [])
  refine gAloadN X0 hx (hb hby d8_7) rfl rfl ?_
  refine gInstY X0 hx hZ hown (tw hw 61 rfl) e0 (Ins.self E1) (hb hby d8_8) ?_
  intro T2 X2 e2
  show Go _ _ _ _ _ T2 (mkF m 11 #[.val (.ref r0), .val (.ref r1), .unset] [(.int (1 : Int32))])
  refine gIf X2 hx 22 (hb hby d8_11) (by decide) (by decide) (fun q => absurd (o_eqT q) (by decide)) (fun _ => ?_)
  show Go _ _ _ _ _ T2 (mkF m 14 #[.val (.ref r0), .val (.ref r1), .unset] [])
  refine gAloadN X2 hx (hb hby d8_14) rfl rfl ?_
  refine gCast X2 hx hZ hown (tw hw 61 rfl) e2 (Ins.self E1) (hb hby d8_15) ?_
  intro T3 X3 e3
  show Go _ _ _ _ _ T3 (mkF m 18 #[.val (.ref r0), .val (.ref r1), .unset] [(.ref r1)])
  refine gAstoreN X3 hx #[.val (.ref r0), .val (.ref r1), .val (.ref r1)] (hb hby d8_18) rfl rfl ?_
  refine gGoto X3 hx 24 (hb hby d8_19) (by decide) (by decide) ?_
  refine gAloadN X3 hx (hb hby d8_24) rfl rfl ?_
  refine gGetF X3 hx hZ hown (tw hw 52 rfl) e3 G0 (hb hby d8_25) ?_
  intro T4 X4 e4
  show Go _ _ _ _ _ T4 (mkF m 28 #[.val (.ref r0), .val (.ref r1), .val (.ref r1)] [(.int l1)])
  refine gAloadN X4 hx (hb hby d8_28) rfl rfl ?_
  refine gGetF X4 hx hZ hown (tw hw 52 rfl) e4 G1 (hb hby d8_29) ?_
  intro T5 X5 e5
  show Go _ _ _ _ _ T5 (mkF m 32 #[.val (.ref r0), .val (.ref r1), .val (.ref r1)] [(.int l2), (.int l1)])
  refine gIcmp X5 hx 64 (hb hby d8_32) (by decide) (by decide) (fun hT => ?_) (fun hT => ?_)
  · have hc6 := o_neT hT
    show Go _ _ _ _ _ T5 (mkF m 64 #[.val (.ref r0), .val (.ref r1), .val (.ref r1)] [])
    refine gIconst X5 hx (0 : Int32) (hb hby d8_64) rfl ?_
    exact gRetZ X5 hx hlk hret (by simp) (hb hby d8_65) (z' := (0 : Int32)) rfl (feN (by decide) (by decide)) ⟨congrArg (fun z => some (Value.int z)) (show own_sl l1 l2 c1 c2 cs ds = (0 : Int32) from (own_slL hc6)).symm, N0, e5⟩
  · have hc6 := o_neF hT
    show Go _ _ _ _ _ T5 (mkF m 35 #[.val (.ref r0), .val (.ref r1), .val (.ref r1)] [])
    refine gAloadN X5 hx (hb hby d8_35) rfl rfl ?_
    refine gGetF X5 hx hZ hown (tw hw 54 rfl) e5 H0 (hb hby d8_36) ?_
    intro T7 X7 e7
    show Go _ _ _ _ _ T7 (mkF m 39 #[.val (.ref r0), .val (.ref r1), .val (.ref r1)] [(.int c1)])
    refine gAloadN X7 hx (hb hby d8_39) rfl rfl ?_
    refine gGetF X7 hx hZ hown (tw hw 54 rfl) e7 H1 (hb hby d8_40) ?_
    intro T8 X8 e8
    show Go _ _ _ _ _ T8 (mkF m 43 #[.val (.ref r0), .val (.ref r1), .val (.ref r1)] [(.int c2), (.int c1)])
    refine gIcmp X8 hx 64 (hb hby d8_43) (by decide) (by decide) (fun hT => ?_) (fun hT => ?_)
    · have hc9 := o_neT hT
      show Go _ _ _ _ _ T8 (mkF m 64 #[.val (.ref r0), .val (.ref r1), .val (.ref r1)] [])
      refine gIconst X8 hx (0 : Int32) (hb hby d8_64) rfl ?_
      exact gRetZ X8 hx hlk hret (by simp) (hb hby d8_65) (z' := (0 : Int32)) rfl (feN (by decide) (by decide)) ⟨congrArg (fun z => some (Value.int z)) (show own_sl l1 l2 c1 c2 cs ds = (0 : Int32) from (own_slC hc6 hc9)).symm, N0, e8⟩
    · have hc9 := o_neF hT
      show Go _ _ _ _ _ T8 (mkF m 46 #[.val (.ref r0), .val (.ref r1), .val (.ref r1)] [])
      refine gAloadN X8 hx (hb hby d8_46) rfl rfl ?_
      refine gGetF X8 hx hZ hown (tw hw 50 rfl) e8 F0 (hb hby d8_47) ?_
      intro T10 X10 e10
      show Go _ _ _ _ _ T10 (mkF m 50 #[.val (.ref r0), .val (.ref r1), .val (.ref r1)] [(.ref x)])
      refine gAloadN X10 hx (hb hby d8_50) rfl rfl ?_
      refine gGetF X10 hx hZ hown (tw hw 50 rfl) e10 F1 (hb hby d8_51) ?_
      intro T11 X11 e11
      show Go _ _ _ _ _ T11 (mkF m 54 #[.val (.ref r0), .val (.ref r1), .val (.ref r1)] [(.ref y), (.ref x)])
      refine gStrEq X11 hx hZ (W := 0) hown (tw hw 86 rfl) (tw hw 77 rfl) (tw hw 78 rfl) (tw hw 79 rfl) (fun d hd => hw d ((by decide +kernel : ∀ d ∈ StrChars.Road.wordsEq, d ∈ tables_1) d hd)) (kI := 4) (tw hw 9 rfl) A B okc okd (SC.ext O0.2) hz (by decide) (by decide) e11 (by rw [hml]; rfl) (lenOf own_pd7 rfl) (Nat.le_of_eq rfl) (by decide) (by decide) (hb hby d8_54) ?_
      intro T12 X12 e12
      show Go _ _ _ _ _ T12 (mkF m 57 #[.val (.ref r0), .val (.ref r1), .val (.ref r1)] [(.int (if cs = ds then (1 : Int32) else (0 : Int32)))])
      refine gIf X12 hx 64 (hb hby d8_57) (by decide) (by decide) (fun hT => ?_) (fun hT => ?_)
      · have hc13 := o_eqT hT
        show Go _ _ _ _ _ T12 (mkF m 64 #[.val (.ref r0), .val (.ref r1), .val (.ref r1)] [])
        refine gIconst X12 hx (0 : Int32) (hb hby d8_64) rfl ?_
        exact gRetZ X12 hx hlk hret (by simp) (hb hby d8_65) (z' := (0 : Int32)) rfl (feN (by decide) (by decide)) ⟨congrArg (fun z => some (Value.int z)) (show own_sl l1 l2 c1 c2 cs ds = (0 : Int32) from (own_slS hc6 hc9 (own_if0 hc13))).symm, N0, e12⟩
      · have hc13 := o_eqF hT
        show Go _ _ _ _ _ T12 (mkF m 60 #[.val (.ref r0), .val (.ref r1), .val (.ref r1)] [])
        refine gIconst X12 hx (1 : Int32) (hb hby d8_60) rfl ?_
        refine gGoto X12 hx 65 (hb hby d8_61) (by decide) (by decide) ?_
        exact gRetZ X12 hx hlk hret (by simp) (hb hby d8_65) (z' := (1 : Int32)) rfl (feN (by decide) (by decide)) ⟨congrArg (fun z => some (Value.int z)) (show own_sl l1 l2 c1 c2 cs ds = (1 : Int32) from (own_slT hc6 hc9 (own_if1 hc13))).symm, N0, e12⟩
theorem own_pn9 : plainFor x = true := plainFor_of_name (by first | (simp [plainName, overriddenIn]; done) | decide +kernel)
theorem own_ef9 (p0 : Int32) (p1 : Int32) (p2 : Int32) (p3 : Int32) (p4 : Int32) (p5 : Int32) (m : MethodId) : entryFrame m #[(.int p0), (.int p1), (.int p2), (.int p3), (.int p4), (.int p5)] maxLocals = mkF m 0 #[.val (.int p0), .val (.int p1), .val (.int p2), .val (.int p3), .val (.int p4), .val (.int p5), .unset, .unset, .unset, .unset, .unset, .unset, .unset, .unset, .unset, .unset, .unset] [] := by first | (simp [entryFrame, mkF, argsToLocals, Value.category, maxLocals]; done) | rfl
theorem own_pd8 : parseMethodDescriptor "(IIIIII)Z" = some ⟨[.int, .int, .int, .int, .int, .int], some .boolean⟩ := by decide +kernel
set_option maxRecDepth 65536 in
set_option maxHeartbeats 40000000 in
theorem own_rm9 (l : Launch) (Z : State) (a0 : Array Value) (hw : ∀ d ∈ tables_1, d.before a0 Z = true) (p0 : Int32) (p1 : Int32) (p2 : Int32) (p3 : Int32) (p4 : Int32) (p5 : Int32) (h0 : Heap) (n0 : Nat) (Z0 : n0 ≤ h0.size) (wS : ∀ a ∈ Bundle.stringAtoms, a.before a0 Z = true) (hh : Jvm.Lit.constHeld Z "java/lang/String" 7) (hcw : Jvm.Lit.compactW.before a0 Z = true) (O0 : Old Z n0 h0) (z : Int32) (SC : Sta Z Z.heap "java/lang/String" "COMPACT_STRINGS" "Z" (.int z)) (hz : ¬ z = 0)  :
    MetS l Z x code maxLocals ret tables_1 room_1 #[(.int p0), (.int p1), (.int p2), (.int p3), (.int p4), (.int p5)] h0 (fun vm => LS Z vm h0) (fun v h _ L => v = some (.int 1) ∧ Fr n0 L) := by
  refine metS_of (Ls := #[.val (.int p0), .val (.int p1), .val (.int p2), .val (.int p3), .val (.int p4), .val (.int p5), .unset, .unset, .unset, .unset, .unset, .unset, .unset, .unset, .unset, .unset, .unset]) own_pn9 (own_ef9 p0 p1 p2 p3 p4 p5) ?_
  intro p e s m below meth c s₁ hx hby hml hown hnm hret hlk hZ X0 e0 hPV hsh hS
  have N0 := Fr.nil n0
  have hk : 0 ≤ h0.size := Nat.zero_le _
  refine gIconst X0 hx (2 : Int32) (hb hby at_0) rfl ?_
  refine gIloadN X0 hx (hb hby at_1) rfl ?_
  refine gIconst X0 hx (3 : Int32) (hb hby at_2) rfl ?_
  refine gIand X0 hx (hb hby at_3) ?_
  refine gStatic X0 hx hZ (y := (⟨"java/lang/Math", "min", "(II)I"⟩ : MethodName)) hown (by decide) (tw hw 0 rfl) (tw hw 1 rfl) (tw hw 2 rfl) (tw hw 3 rfl) (own_rm0 l Z a0 hw (2 : Int32) (p0 &&& (3 : Int32)) h0 n0 Z0) e0 (by rw [hml]; rfl) (argsL := [(.int (2 : Int32)), (.int (p0 &&& (3 : Int32)))]) (rest := []) (W := 0) (lenOf own_pd0 rfl) rfl (Nat.le_of_eq rfl) (by decide) (by decide) (by decide) (by decide) (hb hby at_4) ?_
  rintro _ T1 L1 X1 ⟨rfl, Nq1, e1⟩
  have N_1 := Fr.app N0 Nq1
  show Go _ _ _ _ _ T1 (mkF m 7 #[.val (.int p0), .val (.int p1), .val (.int p2), .val (.int p3), .val (.int p4), .val (.int p5), .unset, .unset, .unset, .unset, .unset, .unset, .unset, .unset, .unset, .unset, .unset] [(.int (own_min (2 : Int32) (p0 &&& (3 : Int32))))])
  refine gIstore X1 hx #[.val (.int p0), .val (.int p1), .val (.int p2), .val (.int p3), .val (.int p4), .val (.int p5), .val (.int (own_min (2 : Int32) (p0 &&& (3 : Int32)))), .unset, .unset, .unset, .unset, .unset, .unset, .unset, .unset, .unset, .unset] (hb hby at_7) rfl ?_
  refine gIload X1 hx (hb hby at_9) rfl ?_
  refine gIloadN X1 hx (hb hby at_11) rfl ?_
  refine gIconst X1 hx (2 : Int32) (hb hby at_12) rfl ?_
  refine gIushr X1 hx (hb hby at_13) ?_
  refine gSipush X1 hx (255 : Int32) (hb hby at_14) rfl ?_
  refine gIand X1 hx (hb hby at_17) ?_
  refine gIloadN X1 hx (hb hby at_18) rfl ?_
  refine gBipush X1 hx (10 : Int32) (hb hby at_19) rfl ?_
  refine gIushr X1 hx (hb hby at_21) ?_
  refine gSipush X1 hx (255 : Int32) (hb hby at_22) rfl ?_
  refine gIand X1 hx (hb hby at_25) ?_
  refine gStaticS X1 hx hZ (y := (⟨"com/example/wee_check/weecheck/source/SourceLocationEqualsPinLaw", "str", "(III)Ljava/lang/String;"⟩ : MethodName)) hown (by decide) (tw hw 4 rfl) (tw hw 5 rfl) (tw hw 6 rfl) (tw hw 7 rfl) hS hk (own_rm4 l Z a0 hw (own_min (2 : Int32) (p0 &&& (3 : Int32))) ((XT.ushr p0 (2 : Int32)) &&& (255 : Int32)) ((XT.ushr p0 (10 : Int32)) &&& (255 : Int32)) h0 n0 Z0 wS hh hcw O0 z SC hz (own_m255 _) (own_m255 _)) (fun vm₁ hv => LS.vm (s := s) hPV hv) e1 (by rw [hml]; rfl) (argsL := [(.int (own_min (2 : Int32) (p0 &&& (3 : Int32)))), (.int ((XT.ushr p0 (2 : Int32)) &&& (255 : Int32))), (.int ((XT.ushr p0 (10 : Int32)) &&& (255 : Int32)))]) (rest := []) (W := 0) (lenOf own_pd3 rfl) rfl (Nat.le_of_eq rfl) (by decide) (by decide) (by decide) (by decide) (hb hby at_26) ?_
  rintro _ T2 L2 X2 hS hZ hown hgr2 ⟨b2, t2, kb2, cs2, rfl, Nq2, Kq2, ⟨Eq2, Vq2, Cq2, Aq2⟩, ok2, LS2⟩
  have N_2 := Fr.app N_1 Nq2
  have hk := Nat.le_refl T2.heap.size
  have Z_2 := Nat.le_trans Z0 Kq2.1
  have O_2 := O0.keep Kq2 all0
  show Go _ _ _ _ _ T2 (mkF m 29 #[.val (.int p0), .val (.int p1), .val (.int p2), .val (.int p3), .val (.int p4), .val (.int p5), .val (.int (own_min (2 : Int32) (p0 &&& (3 : Int32)))), .unset, .unset, .unset, .unset, .unset, .unset, .unset, .unset, .unset, .unset] [(.ref b2)])
  refine gAstore X2 hx #[.val (.int p0), .val (.int p1), .val (.int p2), .val (.int p3), .val (.int p4), .val (.int p5), .val (.int (own_min (2 : Int32) (p0 &&& (3 : Int32)))), .val (.ref b2), .unset, .unset, .unset, .unset, .unset, .unset, .unset, .unset, .unset] (hb hby at_29) rfl rfl ?_
  refine gIload X2 hx (hb hby at_31) rfl ?_
  refine gIconst X2 hx (4 : Int32) (hb hby at_33) rfl ?_
  refine gIushr X2 hx (hb hby at_34) ?_
  refine gIconst X2 hx (1 : Int32) (hb hby at_35) rfl ?_
  refine gIand X2 hx (hb hby at_36) ?_
  refine gIf X2 hx 63 (hb hby at_37) (by decide) (by decide) (fun hT => ?_) (fun hT => ?_)
  · have hc3 := o_eqT hT
    show Go _ _ _ _ _ T2 (mkF m 63 #[.val (.int p0), .val (.int p1), .val (.int p2), .val (.int p3), .val (.int p4), .val (.int p5), .val (.int (own_min (2 : Int32) (p0 &&& (3 : Int32)))), .val (.ref b2), .unset, .unset, .unset, .unset, .unset, .unset, .unset, .unset, .unset] [])
    refine gIconst X2 hx (2 : Int32) (hb hby at_63) rfl ?_
    refine gIload X2 hx (hb hby at_64) rfl ?_
    refine gIconst X2 hx (5 : Int32) (hb hby at_66) rfl ?_
    refine gIushr X2 hx (hb hby at_67) ?_
    refine gIconst X2 hx (3 : Int32) (hb hby at_68) rfl ?_
    refine gIand X2 hx (hb hby at_69) ?_
    refine gStatic X2 hx hZ (y := (⟨"java/lang/Math", "min", "(II)I"⟩ : MethodName)) hown (by decide) (tw hw 0 rfl) (tw hw 1 rfl) (tw hw 2 rfl) (tw hw 3 rfl) (own_rm0 l Z a0 hw (2 : Int32) ((XT.ushr p5 (5 : Int32)) &&& (3 : Int32)) T2.heap n0 Z_2) rfl (by rw [hml]; rfl) (argsL := [(.int (2 : Int32)), (.int ((XT.ushr p5 (5 : Int32)) &&& (3 : Int32)))]) (rest := []) (W := 0) (lenOf own_pd0 rfl) rfl (Nat.le_of_eq rfl) (by decide) (by decide) (by decide) (by decide) (hb hby at_70) ?_
    rintro _ T4 L4 X4 ⟨rfl, Nq4, e4⟩
    have N_4 := Fr.app N_2 Nq4
    show Go _ _ _ _ _ T4 (mkF m 73 #[.val (.int p0), .val (.int p1), .val (.int p2), .val (.int p3), .val (.int p4), .val (.int p5), .val (.int (own_min (2 : Int32) (p0 &&& (3 : Int32)))), .val (.ref b2), .unset, .unset, .unset, .unset, .unset, .unset, .unset, .unset, .unset] [(.int (own_min (2 : Int32) ((XT.ushr p5 (5 : Int32)) &&& (3 : Int32))))])
    refine gIload X4 hx (hb hby at_73) rfl ?_
    refine gBipush X4 hx (7 : Int32) (hb hby at_75) rfl ?_
    refine gIushr X4 hx (hb hby at_77) ?_
    refine gSipush X4 hx (255 : Int32) (hb hby at_78) rfl ?_
    refine gIand X4 hx (hb hby at_81) ?_
    refine gIload X4 hx (hb hby at_82) rfl ?_
    refine gBipush X4 hx (15 : Int32) (hb hby at_84) rfl ?_
    refine gIushr X4 hx (hb hby at_86) ?_
    refine gSipush X4 hx (255 : Int32) (hb hby at_87) rfl ?_
    refine gIand X4 hx (hb hby at_90) ?_
    refine gStaticS X4 hx hZ (y := (⟨"com/example/wee_check/weecheck/source/SourceLocationEqualsPinLaw", "str", "(III)Ljava/lang/String;"⟩ : MethodName)) hown (by decide) (tw hw 4 rfl) (tw hw 5 rfl) (tw hw 6 rfl) (tw hw 7 rfl) hS hk (own_rm4 l Z a0 hw (own_min (2 : Int32) ((XT.ushr p5 (5 : Int32)) &&& (3 : Int32))) ((XT.ushr p5 (7 : Int32)) &&& (255 : Int32)) ((XT.ushr p5 (15 : Int32)) &&& (255 : Int32)) T2.heap n0 Z_2 wS hh hcw O_2 z SC hz (own_m255 _) (own_m255 _)) (fun vm₁ hv => LS.vm (s := s) LS2 hv) e4 (by rw [hml]; rfl) (argsL := [(.int (own_min (2 : Int32) ((XT.ushr p5 (5 : Int32)) &&& (3 : Int32)))), (.int ((XT.ushr p5 (7 : Int32)) &&& (255 : Int32))), (.int ((XT.ushr p5 (15 : Int32)) &&& (255 : Int32)))]) (rest := []) (W := 0) (lenOf own_pd3 rfl) rfl (Nat.le_of_eq rfl) (by decide) (by decide) (by decide) (by decide) (hb hby at_91) ?_
    rintro _ T5 L5 X5 hS hZ hown hgr5 ⟨b5, t5, kb5, cs5, rfl, Nq5, Kq5, ⟨Eq5, Vq5, Cq5, Aq5⟩, ok5, LS5⟩
    have N_5 := Fr.app N_4 Nq5
    have hk := Nat.le_refl T5.heap.size
    have Eq2__5 := Eq2.keep Kq5
    have Vq2__5 := Vq2.keep Kq5 nin0
    have Cq2__5 := Cq2.keep Kq5 nin0
    have Aq2__5 := Aq2.keep Kq5 nin0
    have Z_5 := Nat.le_trans Z_2 Kq5.1
    have O_5 := O_2.keep Kq5 all0
    show Go _ _ _ _ _ T5 (mkF m 94 #[.val (.int p0), .val (.int p1), .val (.int p2), .val (.int p3), .val (.int p4), .val (.int p5), .val (.int (own_min (2 : Int32) (p0 &&& (3 : Int32)))), .val (.ref b2), .unset, .unset, .unset, .unset, .unset, .unset, .unset, .unset, .unset] [(.ref b5)])
    refine gAstore X5 hx #[.val (.int p0), .val (.int p1), .val (.int p2), .val (.int p3), .val (.int p4), .val (.int p5), .val (.int (own_min (2 : Int32) (p0 &&& (3 : Int32)))), .val (.ref b2), .val (.ref b5), .unset, .unset, .unset, .unset, .unset, .unset, .unset, .unset] (hb hby at_94) rfl rfl ?_
    refine gIloadN X5 hx (hb hby at_96) rfl ?_
    refine gStatic X5 hx hZ (y := (⟨"com/example/wee_check/weecheck/source/SourceLocationEqualsPinLaw", "pos", "(I)I"⟩ : MethodName)) hown (by decide) (tw hw 30 rfl) (tw hw 31 rfl) (tw hw 6 rfl) (tw hw 32 rfl) (own_rm5 l Z a0 hw p1 T5.heap n0 Z_5) rfl (by rw [hml]; rfl) (argsL := [(.int p1)]) (rest := []) (W := 0) (lenOf own_pd4 rfl) rfl (Nat.le_of_eq rfl) (by decide) (by decide) (by decide) (by decide) (hb hby at_97) ?_
    rintro _ T6 L6 X6 ⟨rfl, Nq6, e6⟩
    have N_6 := Fr.app N_5 Nq6
    show Go _ _ _ _ _ T6 (mkF m 100 #[.val (.int p0), .val (.int p1), .val (.int p2), .val (.int p3), .val (.int p4), .val (.int p5), .val (.int (own_min (2 : Int32) (p0 &&& (3 : Int32)))), .val (.ref b2), .val (.ref b5), .unset, .unset, .unset, .unset, .unset, .unset, .unset, .unset] [(.int (own_pos p1))])
    refine gIstore X6 hx #[.val (.int p0), .val (.int p1), .val (.int p2), .val (.int p3), .val (.int p4), .val (.int p5), .val (.int (own_min (2 : Int32) (p0 &&& (3 : Int32)))), .val (.ref b2), .val (.ref b5), .val (.int (own_pos p1)), .unset, .unset, .unset, .unset, .unset, .unset, .unset] (hb hby at_100) rfl ?_
    refine gIloadN X6 hx (hb hby at_102) rfl ?_
    refine gStatic X6 hx hZ (y := (⟨"com/example/wee_check/weecheck/source/SourceLocationEqualsPinLaw", "pos", "(I)I"⟩ : MethodName)) hown (by decide) (tw hw 30 rfl) (tw hw 31 rfl) (tw hw 6 rfl) (tw hw 32 rfl) (own_rm5 l Z a0 hw p2 T5.heap n0 Z_5) e6 (by rw [hml]; rfl) (argsL := [(.int p2)]) (rest := []) (W := 0) (lenOf own_pd4 rfl) rfl (Nat.le_of_eq rfl) (by decide) (by decide) (by decide) (by decide) (hb hby at_103) ?_
    rintro _ T7 L7 X7 ⟨rfl, Nq7, e7⟩
    have N_7 := Fr.app N_6 Nq7
    show Go _ _ _ _ _ T7 (mkF m 106 #[.val (.int p0), .val (.int p1), .val (.int p2), .val (.int p3), .val (.int p4), .val (.int p5), .val (.int (own_min (2 : Int32) (p0 &&& (3 : Int32)))), .val (.ref b2), .val (.ref b5), .val (.int (own_pos p1)), .unset, .unset, .unset, .unset, .unset, .unset, .unset] [(.int (own_pos p2))])
    refine gIstore X7 hx #[.val (.int p0), .val (.int p1), .val (.int p2), .val (.int p3), .val (.int p4), .val (.int p5), .val (.int (own_min (2 : Int32) (p0 &&& (3 : Int32)))), .val (.ref b2), .val (.ref b5), .val (.int (own_pos p1)), .val (.int (own_pos p2)), .unset, .unset, .unset, .unset, .unset, .unset] (hb hby at_106) rfl ?_
    have B149 : ∀ (T : State) (locs : List Loc) (l2 c2 : Int32), Stand p l e room_1 (s.setVm T5.vm) m #[(.int p0), (.int p1), (.int p2), (.int p3), (.int p4), (.int p5)] below meth c T locs 10 20 → T.heap = T5.heap → Fr n0 locs → ¬ l2 < (1 : Int32) → ¬ c2 < (1 : Int32) → Go p e below (fun o s₂ L => ReturnedEndW s o s₂ L room_1.cells room_1.slots) (fun v h _ L => v = some (.int 1) ∧ Fr n0 L) T (mkF m 149 #[.val (.int p0), .val (.int p1), .val (.int p2), .val (.int p3), .val (.int p4), .val (.int p5), .val (.int (own_min (2 : Int32) (p0 &&& (3 : Int32)))), .val (.ref b2), .val (.ref b5), .val (.int (own_pos p1)), .val (.int (own_pos p2)), .val (.int l2), .val (.int c2), .unset, .unset, .unset, .unset] []) := by
      intro T locs l2 c2 X eT N hl2 hc2
      show Go _ _ _ _ _ T (mkF m 149 #[.val (.int p0), .val (.int p1), .val (.int p2), .val (.int p3), .val (.int p4), .val (.int p5), .val (.int (own_min (2 : Int32) (p0 &&& (3 : Int32)))), .val (.ref b2), .val (.ref b5), .val (.int (own_pos p1)), .val (.int (own_pos p2)), .val (.int l2), .val (.int c2), .unset, .unset, .unset, .unset] [])
      refine gNew X hx hZ hown (tw hw 37 rfl) (tw hw 38 rfl) (tw hw 39 rfl) eT (hb hby at_149) (by decide) (by decide) ?_
      intro T8 h8 b8 X8 e8 E8 g8 A8 D8
      have lt_b2_b8 : b2 < b8 := by rw [g8]; exact Eq2__5.lt
      have lt_t2_b8 : t2 < b8 := by rw [g8]; exact Aq2__5.lt
      have lt_b5_b8 : b5 < b8 := by rw [g8]; exact Eq5.lt
      have lt_t5_b8 : t5 < b8 := by rw [g8]; exact Aq5.lt
      have g_b8 : n0 ≤ b8 := by rw [g8]; exact Z_5
      have Eq2__8 := Eq2__5.ext E8
      have Vq2__8 := Vq2__5.ext E8
      have Cq2__8 := Cq2__5.ext E8
      have Aq2__8 := Aq2__5.ext E8
      have Eq5__8 := Eq5.ext E8
      have Vq5__8 := Vq5.ext E8
      have Cq5__8 := Cq5.ext E8
      have Aq5__8 := Aq5.ext E8
      have Z_8 := Nat.le_trans Z_5 E8.1
      have O_8 := O_5.ext E8
      have hk := Nat.le_trans hk E8.1
      have F_file_b8 : Fld Z h8 b8 "com/example/wee_check/weecheck/source/SourceLocation" "file" "Ljava/lang/String;" .null := D8 (Or.inr (tw hw 51 rfl)) (ty := (.object "java/lang/String")) (by decide)
      have F_line_b8 : Fld Z h8 b8 "com/example/wee_check/weecheck/source/SourceLocation" "line" "I" (.int (0 : Int32)) := D8 (Or.inr (tw hw 53 rfl)) (ty := .int) (by decide)
      have F_column_b8 : Fld Z h8 b8 "com/example/wee_check/weecheck/source/SourceLocation" "column" "I" (.int (0 : Int32)) := D8 (Or.inr (tw hw 55 rfl)) (ty := .int) (by decide)
      show Go _ _ _ _ _ T8 (mkF m 152 #[.val (.int p0), .val (.int p1), .val (.int p2), .val (.int p3), .val (.int p4), .val (.int p5), .val (.int (own_min (2 : Int32) (p0 &&& (3 : Int32)))), .val (.ref b2), .val (.ref b5), .val (.int (own_pos p1)), .val (.int (own_pos p2)), .val (.int l2), .val (.int c2), .unset, .unset, .unset, .unset] [(.ref b8)])
      refine gDup X8 hx (hb hby at_152) rfl ?_
      refine gAload X8 hx (hb hby at_153) rfl rfl ?_
      refine gIload X8 hx (hb hby at_155) rfl ?_
      refine gIload X8 hx (hb hby at_157) rfl ?_
      refine gInitS X8 hx hZ (y := (⟨"com/example/wee_check/weecheck/source/SourceLocation", "<init>", "(Ljava/lang/String;II)V"⟩ : MethodName)) (a := b8) hown rfl (by decide) (tw hw 40 rfl) (tw hw 41 rfl) (tw hw 39 rfl) (tw hw 42 rfl) hS hk (own_rm7 l Z a0 hw b8 b2 (own_pos p1) (own_pos p2) h8 n0 Z_8 wS A8 g_b8 Eq2__8 F_file_b8 F_line_b8 F_column_b8 (own_pos1 _) (own_pos1 _)) (fun _ _ => trivial) e8 (by rw [hml]; rfl) (argsL := [(.ref b2), (.int (own_pos p1)), (.int (own_pos p2))]) (rest := [(.ref b8)]) (W := 1) (lenOf own_pd6 rfl) rfl (Nat.le_of_eq rfl) (by decide) (by decide) (by decide) (by decide) (hb hby at_159) ?_
      rintro _ T9 L9 X9 hS hZ hown hgr9 ⟨rfl, Nq9, Kq9, Eq9, F0q9, F1q9, F2q9⟩
      have N_9 := Fr.app N Nq9
      have hk := Nat.le_refl T9.heap.size
      have Eq2__9 := Eq2__8.keep Kq9
      have Vq2__9 := Vq2__8.keep Kq9 (ninS (Nat.ne_of_lt lt_b2_b8) nin0)
      have Cq2__9 := Cq2__8.keep Kq9 (ninS (Nat.ne_of_lt lt_b2_b8) nin0)
      have Aq2__9 := Aq2__8.keep Kq9 (ninS (Nat.ne_of_lt lt_t2_b8) nin0)
      have Eq5__9 := Eq5__8.keep Kq9
      have Vq5__9 := Vq5__8.keep Kq9 (ninS (Nat.ne_of_lt lt_b5_b8) nin0)
      have Cq5__9 := Cq5__8.keep Kq9 (ninS (Nat.ne_of_lt lt_b5_b8) nin0)
      have Aq5__9 := Aq5__8.keep Kq9 (ninS (Nat.ne_of_lt lt_t5_b8) nin0)
      have Z_9 := Nat.le_trans Z_8 Kq9.1
      have O_9 := O_8.keep Kq9 (allS g_b8 all0)
      show Go _ _ _ _ _ T9 (mkF m 162 #[.val (.int p0), .val (.int p1), .val (.int p2), .val (.int p3), .val (.int p4), .val (.int p5), .val (.int (own_min (2 : Int32) (p0 &&& (3 : Int32)))), .val (.ref b2), .val (.ref b5), .val (.int (own_pos p1)), .val (.int (own_pos p2)), .val (.int l2), .val (.int c2), .unset, .unset, .unset, .unset] [(.ref b8)])
      refine gAstore X9 hx #[.val (.int p0), .val (.int p1), .val (.int p2), .val (.int p3), .val (.int p4), .val (.int p5), .val (.int (own_min (2 : Int32) (p0 &&& (3 : Int32)))), .val (.ref b2), .val (.ref b5), .val (.int (own_pos p1)), .val (.int (own_pos p2)), .val (.int l2), .val (.int c2), .val (.ref b8), .unset, .unset, .unset] (hb hby at_162) rfl rfl ?_
      refine gIload X9 hx (hb hby at_164) rfl ?_
      refine gIconst X9 hx (3 : Int32) (hb hby at_166) rfl ?_
      refine gIand X9 hx (hb hby at_167) ?_
      refine gIstore X9 hx #[.val (.int p0), .val (.int p1), .val (.int p2), .val (.int p3), .val (.int p4), .val (.int p5), .val (.int (own_min (2 : Int32) (p0 &&& (3 : Int32)))), .val (.ref b2), .val (.ref b5), .val (.int (own_pos p1)), .val (.int (own_pos p2)), .val (.int l2), .val (.int c2), .val (.ref b8), .val (.int (p5 &&& (3 : Int32))), .unset, .unset] (hb hby at_168) rfl ?_
      refine gIload X9 hx (hb hby at_170) rfl ?_
      refine gIconst X9 hx (1 : Int32) (hb hby at_172) rfl ?_
      refine gIcmp X9 hx 184 (hb hby at_173) (by decide) (by decide) (fun hT => ?_) (fun hT => ?_)
      · have hc10 := o_neT hT
        show Go _ _ _ _ _ T9 (mkF m 184 #[.val (.int p0), .val (.int p1), .val (.int p2), .val (.int p3), .val (.int p4), .val (.int p5), .val (.int (own_min (2 : Int32) (p0 &&& (3 : Int32)))), .val (.ref b2), .val (.ref b5), .val (.int (own_pos p1)), .val (.int (own_pos p2)), .val (.int l2), .val (.int c2), .val (.ref b8), .val (.int (p5 &&& (3 : Int32))), .unset, .unset] [])
        refine gIload X9 hx (hb hby at_184) rfl ?_
        refine gIconst X9 hx (2 : Int32) (hb hby at_186) rfl ?_
        refine gIcmp X9 hx 205 (hb hby at_187) (by decide) (by decide) (fun hT => ?_) (fun hT => ?_)
        · have hc11 := o_neT hT
          show Go _ _ _ _ _ T9 (mkF m 205 #[.val (.int p0), .val (.int p1), .val (.int p2), .val (.int p3), .val (.int p4), .val (.int p5), .val (.int (own_min (2 : Int32) (p0 &&& (3 : Int32)))), .val (.ref b2), .val (.ref b5), .val (.int (own_pos p1)), .val (.int (own_pos p2)), .val (.int l2), .val (.int c2), .val (.ref b8), .val (.int (p5 &&& (3 : Int32))), .unset, .unset] [])
          refine gIload X9 hx (hb hby at_205) rfl ?_
          refine gIconst X9 hx (3 : Int32) (hb hby at_207) rfl ?_
          refine gIcmp X9 hx 227 (hb hby at_208) (by decide) (by decide) (fun hT => ?_) (fun hT => ?_)
          · have hc12 := o_neT hT
            show Go _ _ _ _ _ T9 (mkF m 227 #[.val (.int p0), .val (.int p1), .val (.int p2), .val (.int p3), .val (.int p4), .val (.int p5), .val (.int (own_min (2 : Int32) (p0 &&& (3 : Int32)))), .val (.ref b2), .val (.ref b5), .val (.int (own_pos p1)), .val (.int (own_pos p2)), .val (.int l2), .val (.int c2), .val (.ref b8), .val (.int (p5 &&& (3 : Int32))), .unset, .unset] [])
            refine gNew X9 hx hZ hown (tw hw 37 rfl) (tw hw 38 rfl) (tw hw 39 rfl) rfl (hb hby at_227) (by decide) (by decide) ?_
            intro T13 h13 b13 X13 e13 E13 g13 A13 D13
            have lt_b2_b13 : b2 < b13 := by rw [g13]; exact Eq2__9.lt
            have lt_t2_b13 : t2 < b13 := by rw [g13]; exact Aq2__9.lt
            have lt_b5_b13 : b5 < b13 := by rw [g13]; exact Eq5__9.lt
            have lt_t5_b13 : t5 < b13 := by rw [g13]; exact Aq5__9.lt
            have lt_b8_b13 : b8 < b13 := by rw [g13]; exact Eq9.lt
            have g_b13 : n0 ≤ b13 := by rw [g13]; exact Z_9
            have Eq2__13 := Eq2__9.ext E13
            have Vq2__13 := Vq2__9.ext E13
            have Cq2__13 := Cq2__9.ext E13
            have Aq2__13 := Aq2__9.ext E13
            have Eq5__13 := Eq5__9.ext E13
            have Vq5__13 := Vq5__9.ext E13
            have Cq5__13 := Cq5__9.ext E13
            have Aq5__13 := Aq5__9.ext E13
            have Eq9__13 := Eq9.ext E13
            have F0q9__13 := F0q9.ext E13
            have F1q9__13 := F1q9.ext E13
            have F2q9__13 := F2q9.ext E13
            have Z_13 := Nat.le_trans Z_9 E13.1
            have O_13 := O_9.ext E13
            have hk := Nat.le_trans hk E13.1
            have F_file_b13 : Fld Z h13 b13 "com/example/wee_check/weecheck/source/SourceLocation" "file" "Ljava/lang/String;" .null := D13 (Or.inr (tw hw 51 rfl)) (ty := (.object "java/lang/String")) (by decide)
            have F_line_b13 : Fld Z h13 b13 "com/example/wee_check/weecheck/source/SourceLocation" "line" "I" (.int (0 : Int32)) := D13 (Or.inr (tw hw 53 rfl)) (ty := .int) (by decide)
            have F_column_b13 : Fld Z h13 b13 "com/example/wee_check/weecheck/source/SourceLocation" "column" "I" (.int (0 : Int32)) := D13 (Or.inr (tw hw 55 rfl)) (ty := .int) (by decide)
            show Go _ _ _ _ _ T13 (mkF m 230 #[.val (.int p0), .val (.int p1), .val (.int p2), .val (.int p3), .val (.int p4), .val (.int p5), .val (.int (own_min (2 : Int32) (p0 &&& (3 : Int32)))), .val (.ref b2), .val (.ref b5), .val (.int (own_pos p1)), .val (.int (own_pos p2)), .val (.int l2), .val (.int c2), .val (.ref b8), .val (.int (p5 &&& (3 : Int32))), .unset, .unset] [(.ref b13)])
            refine gDup X13 hx (hb hby at_230) rfl ?_
            refine gAload X13 hx (hb hby at_231) rfl rfl ?_
            refine gIload X13 hx (hb hby at_233) rfl ?_
            refine gIload X13 hx (hb hby at_235) rfl ?_
            refine gInitS X13 hx hZ (y := (⟨"com/example/wee_check/weecheck/source/SourceLocation", "<init>", "(Ljava/lang/String;II)V"⟩ : MethodName)) (a := b13) hown rfl (by decide) (tw hw 40 rfl) (tw hw 41 rfl) (tw hw 39 rfl) (tw hw 42 rfl) hS hk (own_rm7 l Z a0 hw b13 b5 l2 c2 h13 n0 Z_13 wS A13 g_b13 Eq5__13 F_file_b13 F_line_b13 F_column_b13 hl2 hc2) (fun _ _ => trivial) e13 (by rw [hml]; rfl) (argsL := [(.ref b5), (.int l2), (.int c2)]) (rest := [(.ref b13)]) (W := 1) (lenOf own_pd6 rfl) rfl (Nat.le_of_eq rfl) (by decide) (by decide) (by decide) (by decide) (hb hby at_237) ?_
            rintro _ T14 L14 X14 hS hZ hown hgr14 ⟨rfl, Nq14, Kq14, Eq14, F0q14, F1q14, F2q14⟩
            have N_14 := Fr.app N_9 Nq14
            have hk := Nat.le_refl T14.heap.size
            have Eq2__14 := Eq2__13.keep Kq14
            have Vq2__14 := Vq2__13.keep Kq14 (ninS (Nat.ne_of_lt lt_b2_b13) nin0)
            have Cq2__14 := Cq2__13.keep Kq14 (ninS (Nat.ne_of_lt lt_b2_b13) nin0)
            have Aq2__14 := Aq2__13.keep Kq14 (ninS (Nat.ne_of_lt lt_t2_b13) nin0)
            have Eq5__14 := Eq5__13.keep Kq14
            have Vq5__14 := Vq5__13.keep Kq14 (ninS (Nat.ne_of_lt lt_b5_b13) nin0)
            have Cq5__14 := Cq5__13.keep Kq14 (ninS (Nat.ne_of_lt lt_b5_b13) nin0)
            have Aq5__14 := Aq5__13.keep Kq14 (ninS (Nat.ne_of_lt lt_t5_b13) nin0)
            have Eq9__14 := Eq9__13.keep Kq14
            have F0q9__14 := F0q9__13.keep Kq14 (ninS (Nat.ne_of_lt lt_b8_b13) nin0)
            have F1q9__14 := F1q9__13.keep Kq14 (ninS (Nat.ne_of_lt lt_b8_b13) nin0)
            have F2q9__14 := F2q9__13.keep Kq14 (ninS (Nat.ne_of_lt lt_b8_b13) nin0)
            have Z_14 := Nat.le_trans Z_13 Kq14.1
            have O_14 := O_13.keep Kq14 (allS g_b13 all0)
            show Go _ _ _ _ _ T14 (mkF m 240 #[.val (.int p0), .val (.int p1), .val (.int p2), .val (.int p3), .val (.int p4), .val (.int p5), .val (.int (own_min (2 : Int32) (p0 &&& (3 : Int32)))), .val (.ref b2), .val (.ref b5), .val (.int (own_pos p1)), .val (.int (own_pos p2)), .val (.int l2), .val (.int c2), .val (.ref b8), .val (.int (p5 &&& (3 : Int32))), .unset, .unset] [(.ref b13)])
            refine gAstore X14 hx #[.val (.int p0), .val (.int p1), .val (.int p2), .val (.int p3), .val (.int p4), .val (.int p5), .val (.int (own_min (2 : Int32) (p0 &&& (3 : Int32)))), .val (.ref b2), .val (.ref b5), .val (.int (own_pos p1)), .val (.int (own_pos p2)), .val (.int l2), .val (.int c2), .val (.ref b8), .val (.int (p5 &&& (3 : Int32))), .val (.ref b13), .unset] (hb hby at_240) rfl rfl ?_
            refine gIload X14 hx (hb hby at_242) rfl ?_
            refine gIload X14 hx (hb hby at_244) rfl ?_
            refine gIcmp X14 hx 270 (hb hby at_246) (by decide) (by decide) (fun hT => ?_) (fun hT => ?_)
            · have hc15 := o_neT hT
              show Go _ _ _ _ _ T14 (mkF m 270 #[.val (.int p0), .val (.int p1), .val (.int p2), .val (.int p3), .val (.int p4), .val (.int p5), .val (.int (own_min (2 : Int32) (p0 &&& (3 : Int32)))), .val (.ref b2), .val (.ref b5), .val (.int (own_pos p1)), .val (.int (own_pos p2)), .val (.int l2), .val (.int c2), .val (.ref b8), .val (.int (p5 &&& (3 : Int32))), .val (.ref b13), .unset] [])
              refine gIconst X14 hx (0 : Int32) (hb hby at_270) rfl ?_
              refine gIstore X14 hx #[.val (.int p0), .val (.int p1), .val (.int p2), .val (.int p3), .val (.int p4), .val (.int p5), .val (.int (own_min (2 : Int32) (p0 &&& (3 : Int32)))), .val (.ref b2), .val (.ref b5), .val (.int (own_pos p1)), .val (.int (own_pos p2)), .val (.int l2), .val (.int c2), .val (.ref b8), .val (.int (p5 &&& (3 : Int32))), .val (.ref b13), .val (.int (0 : Int32))] (hb hby at_271) rfl ?_
              refine gAload X14 hx (hb hby at_273) rfl rfl ?_
              refine gAload X14 hx (hb hby at_275) rfl rfl ?_
              refine gVirtual X14 hx hZ (y := (⟨"com/example/wee_check/weecheck/source/SourceLocation", "equals", "(Ljava/lang/Object;)Z"⟩ : MethodName)) (a := b8) hown (by decide) (tw hw 56 rfl) (tw hw 57 rfl) (tw hw 58 rfl) (tw hw 59 rfl) (tw hw 39 rfl) (tw hw 60 rfl) Eq9__14 (own_rm8L l Z a0 hw b8 b13 T14.heap n0 Z_14 _ _ _ _ _ _ _ _ _ _ _ _ O_14 z SC hz (Nat.ne_of_lt lt_b8_b13) Eq14 F0q9__14 F1q9__14 F2q9__14 F0q14 F1q14 F2q14 ⟨Eq2__14, Vq2__14, Cq2__14, Aq2__14⟩ ⟨Eq5__14, Vq5__14, Cq5__14, Aq5__14⟩ ok2 ok5) rfl (by rw [hml]; rfl) (argsL := [(.ref b13)]) (rest := []) (W := 0) (lenOf own_pd7 rfl) rfl (Nat.le_of_eq rfl) (by decide) (by decide) (by decide) (by decide) (hb hby at_277) ?_
              rintro _ T16 L16 X16 ⟨rfl, Nq16, e16⟩
              have N_16 := Fr.app N_14 Nq16
              show Go _ _ _ _ _ T16 (mkF m 280 #[.val (.int p0), .val (.int p1), .val (.int p2), .val (.int p3), .val (.int p4), .val (.int p5), .val (.int (own_min (2 : Int32) (p0 &&& (3 : Int32)))), .val (.ref b2), .val (.ref b5), .val (.int (own_pos p1)), .val (.int (own_pos p2)), .val (.int l2), .val (.int c2), .val (.ref b8), .val (.int (p5 &&& (3 : Int32))), .val (.ref b13), .val (.int (0 : Int32))] [(.int (own_sl (own_pos p1) l2 (own_pos p2) c2 cs2 cs5))])
              refine gIload X16 hx (hb hby at_280) rfl ?_
              refine gIcmp X16 hx 301 (hb hby at_282) (by decide) (by decide) (fun q => absurd (own_slL hc15) (o_neT q)) (fun _ => ?_)
              show Go _ _ _ _ _ T16 (mkF m 285 #[.val (.int p0), .val (.int p1), .val (.int p2), .val (.int p3), .val (.int p4), .val (.int p5), .val (.int (own_min (2 : Int32) (p0 &&& (3 : Int32)))), .val (.ref b2), .val (.ref b5), .val (.int (own_pos p1)), .val (.int (own_pos p2)), .val (.int l2), .val (.int c2), .val (.ref b8), .val (.int (p5 &&& (3 : Int32))), .val (.ref b13), .val (.int (0 : Int32))] [])
              refine gAload X16 hx (hb hby at_285) rfl rfl ?_
              refine gAload X16 hx (hb hby at_287) rfl rfl ?_
              refine gVirtual X16 hx hZ (y := (⟨"com/example/wee_check/weecheck/source/SourceLocation", "equals", "(Ljava/lang/Object;)Z"⟩ : MethodName)) (a := b13) hown (by decide) (tw hw 56 rfl) (tw hw 57 rfl) (tw hw 58 rfl) (tw hw 59 rfl) (tw hw 39 rfl) (tw hw 60 rfl) Eq14 (own_rm8L l Z a0 hw b13 b8 T14.heap n0 Z_14 _ _ _ _ _ _ _ _ _ _ _ _ O_14 z SC hz (Ne.symm (Nat.ne_of_lt lt_b8_b13)) Eq9__14 F0q14 F1q14 F2q14 F0q9__14 F1q9__14 F2q9__14 ⟨Eq5__14, Vq5__14, Cq5__14, Aq5__14⟩ ⟨Eq2__14, Vq2__14, Cq2__14, Aq2__14⟩ ok5 ok2) e16 (by rw [hml]; rfl) (argsL := [(.ref b8)]) (rest := []) (W := 0) (lenOf own_pd7 rfl) rfl (Nat.le_of_eq rfl) (by decide) (by decide) (by decide) (by decide) (hb hby at_289) ?_
              rintro _ T17 L17 X17 ⟨rfl, Nq17, e17⟩
              have N_17 := Fr.app N_16 Nq17
              show Go _ _ _ _ _ T17 (mkF m 292 #[.val (.int p0), .val (.int p1), .val (.int p2), .val (.int p3), .val (.int p4), .val (.int p5), .val (.int (own_min (2 : Int32) (p0 &&& (3 : Int32)))), .val (.ref b2), .val (.ref b5), .val (.int (own_pos p1)), .val (.int (own_pos p2)), .val (.int l2), .val (.int c2), .val (.ref b8), .val (.int (p5 &&& (3 : Int32))), .val (.ref b13), .val (.int (0 : Int32))] [(.int (own_sl l2 (own_pos p1) c2 (own_pos p2) cs5 cs2))])
              refine gIload X17 hx (hb hby at_292) rfl ?_
              refine gIcmp X17 hx 301 (hb hby at_294) (by decide) (by decide) (fun q => absurd (own_slL (fun q => hc15 q.symm)) (o_neT q)) (fun _ => ?_)
              show Go _ _ _ _ _ T17 (mkF m 297 #[.val (.int p0), .val (.int p1), .val (.int p2), .val (.int p3), .val (.int p4), .val (.int p5), .val (.int (own_min (2 : Int32) (p0 &&& (3 : Int32)))), .val (.ref b2), .val (.ref b5), .val (.int (own_pos p1)), .val (.int (own_pos p2)), .val (.int l2), .val (.int c2), .val (.ref b8), .val (.int (p5 &&& (3 : Int32))), .val (.ref b13), .val (.int (0 : Int32))] [])
              refine gIconst X17 hx (1 : Int32) (hb hby at_297) rfl ?_
              refine gGoto X17 hx 302 (hb hby at_298) (by decide) (by decide) ?_
              exact gRetZ X17 hx hlk hret (by simp) (hb hby at_302) (z' := (1 : Int32)) rfl (feS hS (by rw [e17]; exact hk) (by decide) (by decide)) ⟨rfl, N_17⟩
            · have hc15 := o_neF hT
              show Go _ _ _ _ _ T14 (mkF m 249 #[.val (.int p0), .val (.int p1), .val (.int p2), .val (.int p3), .val (.int p4), .val (.int p5), .val (.int (own_min (2 : Int32) (p0 &&& (3 : Int32)))), .val (.ref b2), .val (.ref b5), .val (.int (own_pos p1)), .val (.int (own_pos p2)), .val (.int l2), .val (.int c2), .val (.ref b8), .val (.int (p5 &&& (3 : Int32))), .val (.ref b13), .unset] [])
              refine gIload X14 hx (hb hby at_249) rfl ?_
              refine gIload X14 hx (hb hby at_251) rfl ?_
              refine gIcmp X14 hx 270 (hb hby at_253) (by decide) (by decide) (fun hT => ?_) (fun hT => ?_)
              · have hc18 := o_neT hT
                show Go _ _ _ _ _ T14 (mkF m 270 #[.val (.int p0), .val (.int p1), .val (.int p2), .val (.int p3), .val (.int p4), .val (.int p5), .val (.int (own_min (2 : Int32) (p0 &&& (3 : Int32)))), .val (.ref b2), .val (.ref b5), .val (.int (own_pos p1)), .val (.int (own_pos p2)), .val (.int l2), .val (.int c2), .val (.ref b8), .val (.int (p5 &&& (3 : Int32))), .val (.ref b13), .unset] [])
                refine gIconst X14 hx (0 : Int32) (hb hby at_270) rfl ?_
                refine gIstore X14 hx #[.val (.int p0), .val (.int p1), .val (.int p2), .val (.int p3), .val (.int p4), .val (.int p5), .val (.int (own_min (2 : Int32) (p0 &&& (3 : Int32)))), .val (.ref b2), .val (.ref b5), .val (.int (own_pos p1)), .val (.int (own_pos p2)), .val (.int l2), .val (.int c2), .val (.ref b8), .val (.int (p5 &&& (3 : Int32))), .val (.ref b13), .val (.int (0 : Int32))] (hb hby at_271) rfl ?_
                refine gAload X14 hx (hb hby at_273) rfl rfl ?_
                refine gAload X14 hx (hb hby at_275) rfl rfl ?_
                refine gVirtual X14 hx hZ (y := (⟨"com/example/wee_check/weecheck/source/SourceLocation", "equals", "(Ljava/lang/Object;)Z"⟩ : MethodName)) (a := b8) hown (by decide) (tw hw 56 rfl) (tw hw 57 rfl) (tw hw 58 rfl) (tw hw 59 rfl) (tw hw 39 rfl) (tw hw 60 rfl) Eq9__14 (own_rm8L l Z a0 hw b8 b13 T14.heap n0 Z_14 _ _ _ _ _ _ _ _ _ _ _ _ O_14 z SC hz (Nat.ne_of_lt lt_b8_b13) Eq14 F0q9__14 F1q9__14 F2q9__14 F0q14 F1q14 F2q14 ⟨Eq2__14, Vq2__14, Cq2__14, Aq2__14⟩ ⟨Eq5__14, Vq5__14, Cq5__14, Aq5__14⟩ ok2 ok5) rfl (by rw [hml]; rfl) (argsL := [(.ref b13)]) (rest := []) (W := 0) (lenOf own_pd7 rfl) rfl (Nat.le_of_eq rfl) (by decide) (by decide) (by decide) (by decide) (hb hby at_277) ?_
                rintro _ T19 L19 X19 ⟨rfl, Nq19, e19⟩
                have N_19 := Fr.app N_14 Nq19
                show Go _ _ _ _ _ T19 (mkF m 280 #[.val (.int p0), .val (.int p1), .val (.int p2), .val (.int p3), .val (.int p4), .val (.int p5), .val (.int (own_min (2 : Int32) (p0 &&& (3 : Int32)))), .val (.ref b2), .val (.ref b5), .val (.int (own_pos p1)), .val (.int (own_pos p2)), .val (.int l2), .val (.int c2), .val (.ref b8), .val (.int (p5 &&& (3 : Int32))), .val (.ref b13), .val (.int (0 : Int32))] [(.int (own_sl (own_pos p1) l2 (own_pos p2) c2 cs2 cs5))])
                refine gIload X19 hx (hb hby at_280) rfl ?_
                refine gIcmp X19 hx 301 (hb hby at_282) (by decide) (by decide) (fun q => absurd (own_slC hc15 hc18) (o_neT q)) (fun _ => ?_)
                show Go _ _ _ _ _ T19 (mkF m 285 #[.val (.int p0), .val (.int p1), .val (.int p2), .val (.int p3), .val (.int p4), .val (.int p5), .val (.int (own_min (2 : Int32) (p0 &&& (3 : Int32)))), .val (.ref b2), .val (.ref b5), .val (.int (own_pos p1)), .val (.int (own_pos p2)), .val (.int l2), .val (.int c2), .val (.ref b8), .val (.int (p5 &&& (3 : Int32))), .val (.ref b13), .val (.int (0 : Int32))] [])
                refine gAload X19 hx (hb hby at_285) rfl rfl ?_
                refine gAload X19 hx (hb hby at_287) rfl rfl ?_
                refine gVirtual X19 hx hZ (y := (⟨"com/example/wee_check/weecheck/source/SourceLocation", "equals", "(Ljava/lang/Object;)Z"⟩ : MethodName)) (a := b13) hown (by decide) (tw hw 56 rfl) (tw hw 57 rfl) (tw hw 58 rfl) (tw hw 59 rfl) (tw hw 39 rfl) (tw hw 60 rfl) Eq14 (own_rm8L l Z a0 hw b13 b8 T14.heap n0 Z_14 _ _ _ _ _ _ _ _ _ _ _ _ O_14 z SC hz (Ne.symm (Nat.ne_of_lt lt_b8_b13)) Eq9__14 F0q14 F1q14 F2q14 F0q9__14 F1q9__14 F2q9__14 ⟨Eq5__14, Vq5__14, Cq5__14, Aq5__14⟩ ⟨Eq2__14, Vq2__14, Cq2__14, Aq2__14⟩ ok5 ok2) e19 (by rw [hml]; rfl) (argsL := [(.ref b8)]) (rest := []) (W := 0) (lenOf own_pd7 rfl) rfl (Nat.le_of_eq rfl) (by decide) (by decide) (by decide) (by decide) (hb hby at_289) ?_
                rintro _ T20 L20 X20 ⟨rfl, Nq20, e20⟩
                have N_20 := Fr.app N_19 Nq20
                show Go _ _ _ _ _ T20 (mkF m 292 #[.val (.int p0), .val (.int p1), .val (.int p2), .val (.int p3), .val (.int p4), .val (.int p5), .val (.int (own_min (2 : Int32) (p0 &&& (3 : Int32)))), .val (.ref b2), .val (.ref b5), .val (.int (own_pos p1)), .val (.int (own_pos p2)), .val (.int l2), .val (.int c2), .val (.ref b8), .val (.int (p5 &&& (3 : Int32))), .val (.ref b13), .val (.int (0 : Int32))] [(.int (own_sl l2 (own_pos p1) c2 (own_pos p2) cs5 cs2))])
                refine gIload X20 hx (hb hby at_292) rfl ?_
                refine gIcmp X20 hx 301 (hb hby at_294) (by decide) (by decide) (fun q => absurd (own_slC hc15.symm (fun q => hc18 q.symm)) (o_neT q)) (fun _ => ?_)
                show Go _ _ _ _ _ T20 (mkF m 297 #[.val (.int p0), .val (.int p1), .val (.int p2), .val (.int p3), .val (.int p4), .val (.int p5), .val (.int (own_min (2 : Int32) (p0 &&& (3 : Int32)))), .val (.ref b2), .val (.ref b5), .val (.int (own_pos p1)), .val (.int (own_pos p2)), .val (.int l2), .val (.int c2), .val (.ref b8), .val (.int (p5 &&& (3 : Int32))), .val (.ref b13), .val (.int (0 : Int32))] [])
                refine gIconst X20 hx (1 : Int32) (hb hby at_297) rfl ?_
                refine gGoto X20 hx 302 (hb hby at_298) (by decide) (by decide) ?_
                exact gRetZ X20 hx hlk hret (by simp) (hb hby at_302) (z' := (1 : Int32)) rfl (feS hS (by rw [e20]; exact hk) (by decide) (by decide)) ⟨rfl, N_20⟩
              · have hc18 := o_neF hT
                show Go _ _ _ _ _ T14 (mkF m 256 #[.val (.int p0), .val (.int p1), .val (.int p2), .val (.int p3), .val (.int p4), .val (.int p5), .val (.int (own_min (2 : Int32) (p0 &&& (3 : Int32)))), .val (.ref b2), .val (.ref b5), .val (.int (own_pos p1)), .val (.int (own_pos p2)), .val (.int l2), .val (.int c2), .val (.ref b8), .val (.int (p5 &&& (3 : Int32))), .val (.ref b13), .unset] [])
                refine gAload X14 hx (hb hby at_256) rfl rfl ?_
                refine gAload X14 hx (hb hby at_258) rfl rfl ?_
                refine gStrEq X14 hx hZ (W := 0) hown (tw hw 76 rfl) (tw hw 77 rfl) (tw hw 78 rfl) (tw hw 79 rfl) (fun d hd => hw d ((by decide +kernel : ∀ d ∈ StrChars.Road.wordsEq, d ∈ tables_1) d hd)) (kI := 4) (tw hw 9 rfl) ⟨Eq2__14, Vq2__14, Cq2__14, Aq2__14⟩ ⟨Eq5__14, Vq5__14, Cq5__14, Aq5__14⟩ ok2 ok5 (SC.ext O_14.2) hz (by decide) (by decide) rfl (by rw [hml]; rfl) (lenOf own_pd7 rfl) (Nat.le_of_eq rfl) (by decide) (by decide) (hb hby at_260) ?_
                intro T21 X21 e21
                show Go _ _ _ _ _ T21 (mkF m 263 #[.val (.int p0), .val (.int p1), .val (.int p2), .val (.int p3), .val (.int p4), .val (.int p5), .val (.int (own_min (2 : Int32) (p0 &&& (3 : Int32)))), .val (.ref b2), .val (.ref b5), .val (.int (own_pos p1)), .val (.int (own_pos p2)), .val (.int l2), .val (.int c2), .val (.ref b8), .val (.int (p5 &&& (3 : Int32))), .val (.ref b13), .unset] [(.int (if cs2 = cs5 then (1 : Int32) else (0 : Int32)))])
                refine gIf X21 hx 270 (hb hby at_263) (by decide) (by decide) (fun hT => ?_) (fun hT => ?_)
                · have hc22 := o_eqT hT
                  show Go _ _ _ _ _ T21 (mkF m 270 #[.val (.int p0), .val (.int p1), .val (.int p2), .val (.int p3), .val (.int p4), .val (.int p5), .val (.int (own_min (2 : Int32) (p0 &&& (3 : Int32)))), .val (.ref b2), .val (.ref b5), .val (.int (own_pos p1)), .val (.int (own_pos p2)), .val (.int l2), .val (.int c2), .val (.ref b8), .val (.int (p5 &&& (3 : Int32))), .val (.ref b13), .unset] [])
                  refine gIconst X21 hx (0 : Int32) (hb hby at_270) rfl ?_
                  refine gIstore X21 hx #[.val (.int p0), .val (.int p1), .val (.int p2), .val (.int p3), .val (.int p4), .val (.int p5), .val (.int (own_min (2 : Int32) (p0 &&& (3 : Int32)))), .val (.ref b2), .val (.ref b5), .val (.int (own_pos p1)), .val (.int (own_pos p2)), .val (.int l2), .val (.int c2), .val (.ref b8), .val (.int (p5 &&& (3 : Int32))), .val (.ref b13), .val (.int (0 : Int32))] (hb hby at_271) rfl ?_
                  refine gAload X21 hx (hb hby at_273) rfl rfl ?_
                  refine gAload X21 hx (hb hby at_275) rfl rfl ?_
                  refine gVirtual X21 hx hZ (y := (⟨"com/example/wee_check/weecheck/source/SourceLocation", "equals", "(Ljava/lang/Object;)Z"⟩ : MethodName)) (a := b8) hown (by decide) (tw hw 56 rfl) (tw hw 57 rfl) (tw hw 58 rfl) (tw hw 59 rfl) (tw hw 39 rfl) (tw hw 60 rfl) Eq9__14 (own_rm8L l Z a0 hw b8 b13 T14.heap n0 Z_14 _ _ _ _ _ _ _ _ _ _ _ _ O_14 z SC hz (Nat.ne_of_lt lt_b8_b13) Eq14 F0q9__14 F1q9__14 F2q9__14 F0q14 F1q14 F2q14 ⟨Eq2__14, Vq2__14, Cq2__14, Aq2__14⟩ ⟨Eq5__14, Vq5__14, Cq5__14, Aq5__14⟩ ok2 ok5) e21 (by rw [hml]; rfl) (argsL := [(.ref b13)]) (rest := []) (W := 0) (lenOf own_pd7 rfl) rfl (Nat.le_of_eq rfl) (by decide) (by decide) (by decide) (by decide) (hb hby at_277) ?_
                  rintro _ T23 L23 X23 ⟨rfl, Nq23, e23⟩
                  have N_23 := Fr.app N_14 Nq23
                  show Go _ _ _ _ _ T23 (mkF m 280 #[.val (.int p0), .val (.int p1), .val (.int p2), .val (.int p3), .val (.int p4), .val (.int p5), .val (.int (own_min (2 : Int32) (p0 &&& (3 : Int32)))), .val (.ref b2), .val (.ref b5), .val (.int (own_pos p1)), .val (.int (own_pos p2)), .val (.int l2), .val (.int c2), .val (.ref b8), .val (.int (p5 &&& (3 : Int32))), .val (.ref b13), .val (.int (0 : Int32))] [(.int (own_sl (own_pos p1) l2 (own_pos p2) c2 cs2 cs5))])
                  refine gIload X23 hx (hb hby at_280) rfl ?_
                  refine gIcmp X23 hx 301 (hb hby at_282) (by decide) (by decide) (fun q => absurd (own_slS hc15 hc18 (own_if0 hc22)) (o_neT q)) (fun _ => ?_)
                  show Go _ _ _ _ _ T23 (mkF m 285 #[.val (.int p0), .val (.int p1), .val (.int p2), .val (.int p3), .val (.int p4), .val (.int p5), .val (.int (own_min (2 : Int32) (p0 &&& (3 : Int32)))), .val (.ref b2), .val (.ref b5), .val (.int (own_pos p1)), .val (.int (own_pos p2)), .val (.int l2), .val (.int c2), .val (.ref b8), .val (.int (p5 &&& (3 : Int32))), .val (.ref b13), .val (.int (0 : Int32))] [])
                  refine gAload X23 hx (hb hby at_285) rfl rfl ?_
                  refine gAload X23 hx (hb hby at_287) rfl rfl ?_
                  refine gVirtual X23 hx hZ (y := (⟨"com/example/wee_check/weecheck/source/SourceLocation", "equals", "(Ljava/lang/Object;)Z"⟩ : MethodName)) (a := b13) hown (by decide) (tw hw 56 rfl) (tw hw 57 rfl) (tw hw 58 rfl) (tw hw 59 rfl) (tw hw 39 rfl) (tw hw 60 rfl) Eq14 (own_rm8L l Z a0 hw b13 b8 T14.heap n0 Z_14 _ _ _ _ _ _ _ _ _ _ _ _ O_14 z SC hz (Ne.symm (Nat.ne_of_lt lt_b8_b13)) Eq9__14 F0q14 F1q14 F2q14 F0q9__14 F1q9__14 F2q9__14 ⟨Eq5__14, Vq5__14, Cq5__14, Aq5__14⟩ ⟨Eq2__14, Vq2__14, Cq2__14, Aq2__14⟩ ok5 ok2) e23 (by rw [hml]; rfl) (argsL := [(.ref b8)]) (rest := []) (W := 0) (lenOf own_pd7 rfl) rfl (Nat.le_of_eq rfl) (by decide) (by decide) (by decide) (by decide) (hb hby at_289) ?_
                  rintro _ T24 L24 X24 ⟨rfl, Nq24, e24⟩
                  have N_24 := Fr.app N_23 Nq24
                  show Go _ _ _ _ _ T24 (mkF m 292 #[.val (.int p0), .val (.int p1), .val (.int p2), .val (.int p3), .val (.int p4), .val (.int p5), .val (.int (own_min (2 : Int32) (p0 &&& (3 : Int32)))), .val (.ref b2), .val (.ref b5), .val (.int (own_pos p1)), .val (.int (own_pos p2)), .val (.int l2), .val (.int c2), .val (.ref b8), .val (.int (p5 &&& (3 : Int32))), .val (.ref b13), .val (.int (0 : Int32))] [(.int (own_sl l2 (own_pos p1) c2 (own_pos p2) cs5 cs2))])
                  refine gIload X24 hx (hb hby at_292) rfl ?_
                  refine gIcmp X24 hx 301 (hb hby at_294) (by decide) (by decide) (fun q => absurd (own_slS hc15.symm hc18.symm (fun q => own_if0 hc22 q.symm)) (o_neT q)) (fun _ => ?_)
                  show Go _ _ _ _ _ T24 (mkF m 297 #[.val (.int p0), .val (.int p1), .val (.int p2), .val (.int p3), .val (.int p4), .val (.int p5), .val (.int (own_min (2 : Int32) (p0 &&& (3 : Int32)))), .val (.ref b2), .val (.ref b5), .val (.int (own_pos p1)), .val (.int (own_pos p2)), .val (.int l2), .val (.int c2), .val (.ref b8), .val (.int (p5 &&& (3 : Int32))), .val (.ref b13), .val (.int (0 : Int32))] [])
                  refine gIconst X24 hx (1 : Int32) (hb hby at_297) rfl ?_
                  refine gGoto X24 hx 302 (hb hby at_298) (by decide) (by decide) ?_
                  exact gRetZ X24 hx hlk hret (by simp) (hb hby at_302) (z' := (1 : Int32)) rfl (feS hS (by rw [e24]; exact hk) (by decide) (by decide)) ⟨rfl, N_24⟩
                · have hc22 := o_eqF hT
                  show Go _ _ _ _ _ T21 (mkF m 266 #[.val (.int p0), .val (.int p1), .val (.int p2), .val (.int p3), .val (.int p4), .val (.int p5), .val (.int (own_min (2 : Int32) (p0 &&& (3 : Int32)))), .val (.ref b2), .val (.ref b5), .val (.int (own_pos p1)), .val (.int (own_pos p2)), .val (.int l2), .val (.int c2), .val (.ref b8), .val (.int (p5 &&& (3 : Int32))), .val (.ref b13), .unset] [])
                  refine gIconst X21 hx (1 : Int32) (hb hby at_266) rfl ?_
                  refine gGoto X21 hx 271 (hb hby at_267) (by decide) (by decide) ?_
                  refine gIstore X21 hx #[.val (.int p0), .val (.int p1), .val (.int p2), .val (.int p3), .val (.int p4), .val (.int p5), .val (.int (own_min (2 : Int32) (p0 &&& (3 : Int32)))), .val (.ref b2), .val (.ref b5), .val (.int (own_pos p1)), .val (.int (own_pos p2)), .val (.int l2), .val (.int c2), .val (.ref b8), .val (.int (p5 &&& (3 : Int32))), .val (.ref b13), .val (.int (1 : Int32))] (hb hby at_271) rfl ?_
                  refine gAload X21 hx (hb hby at_273) rfl rfl ?_
                  refine gAload X21 hx (hb hby at_275) rfl rfl ?_
                  refine gVirtual X21 hx hZ (y := (⟨"com/example/wee_check/weecheck/source/SourceLocation", "equals", "(Ljava/lang/Object;)Z"⟩ : MethodName)) (a := b8) hown (by decide) (tw hw 56 rfl) (tw hw 57 rfl) (tw hw 58 rfl) (tw hw 59 rfl) (tw hw 39 rfl) (tw hw 60 rfl) Eq9__14 (own_rm8L l Z a0 hw b8 b13 T14.heap n0 Z_14 _ _ _ _ _ _ _ _ _ _ _ _ O_14 z SC hz (Nat.ne_of_lt lt_b8_b13) Eq14 F0q9__14 F1q9__14 F2q9__14 F0q14 F1q14 F2q14 ⟨Eq2__14, Vq2__14, Cq2__14, Aq2__14⟩ ⟨Eq5__14, Vq5__14, Cq5__14, Aq5__14⟩ ok2 ok5) e21 (by rw [hml]; rfl) (argsL := [(.ref b13)]) (rest := []) (W := 0) (lenOf own_pd7 rfl) rfl (Nat.le_of_eq rfl) (by decide) (by decide) (by decide) (by decide) (hb hby at_277) ?_
                  rintro _ T25 L25 X25 ⟨rfl, Nq25, e25⟩
                  have N_25 := Fr.app N_14 Nq25
                  show Go _ _ _ _ _ T25 (mkF m 280 #[.val (.int p0), .val (.int p1), .val (.int p2), .val (.int p3), .val (.int p4), .val (.int p5), .val (.int (own_min (2 : Int32) (p0 &&& (3 : Int32)))), .val (.ref b2), .val (.ref b5), .val (.int (own_pos p1)), .val (.int (own_pos p2)), .val (.int l2), .val (.int c2), .val (.ref b8), .val (.int (p5 &&& (3 : Int32))), .val (.ref b13), .val (.int (1 : Int32))] [(.int (own_sl (own_pos p1) l2 (own_pos p2) c2 cs2 cs5))])
                  refine gIload X25 hx (hb hby at_280) rfl ?_
                  refine gIcmp X25 hx 301 (hb hby at_282) (by decide) (by decide) (fun q => absurd (own_slT hc15 hc18 (own_if1 hc22)) (o_neT q)) (fun _ => ?_)
                  show Go _ _ _ _ _ T25 (mkF m 285 #[.val (.int p0), .val (.int p1), .val (.int p2), .val (.int p3), .val (.int p4), .val (.int p5), .val (.int (own_min (2 : Int32) (p0 &&& (3 : Int32)))), .val (.ref b2), .val (.ref b5), .val (.int (own_pos p1)), .val (.int (own_pos p2)), .val (.int l2), .val (.int c2), .val (.ref b8), .val (.int (p5 &&& (3 : Int32))), .val (.ref b13), .val (.int (1 : Int32))] [])
                  refine gAload X25 hx (hb hby at_285) rfl rfl ?_
                  refine gAload X25 hx (hb hby at_287) rfl rfl ?_
                  refine gVirtual X25 hx hZ (y := (⟨"com/example/wee_check/weecheck/source/SourceLocation", "equals", "(Ljava/lang/Object;)Z"⟩ : MethodName)) (a := b13) hown (by decide) (tw hw 56 rfl) (tw hw 57 rfl) (tw hw 58 rfl) (tw hw 59 rfl) (tw hw 39 rfl) (tw hw 60 rfl) Eq14 (own_rm8L l Z a0 hw b13 b8 T14.heap n0 Z_14 _ _ _ _ _ _ _ _ _ _ _ _ O_14 z SC hz (Ne.symm (Nat.ne_of_lt lt_b8_b13)) Eq9__14 F0q14 F1q14 F2q14 F0q9__14 F1q9__14 F2q9__14 ⟨Eq5__14, Vq5__14, Cq5__14, Aq5__14⟩ ⟨Eq2__14, Vq2__14, Cq2__14, Aq2__14⟩ ok5 ok2) e25 (by rw [hml]; rfl) (argsL := [(.ref b8)]) (rest := []) (W := 0) (lenOf own_pd7 rfl) rfl (Nat.le_of_eq rfl) (by decide) (by decide) (by decide) (by decide) (hb hby at_289) ?_
                  rintro _ T26 L26 X26 ⟨rfl, Nq26, e26⟩
                  have N_26 := Fr.app N_25 Nq26
                  show Go _ _ _ _ _ T26 (mkF m 292 #[.val (.int p0), .val (.int p1), .val (.int p2), .val (.int p3), .val (.int p4), .val (.int p5), .val (.int (own_min (2 : Int32) (p0 &&& (3 : Int32)))), .val (.ref b2), .val (.ref b5), .val (.int (own_pos p1)), .val (.int (own_pos p2)), .val (.int l2), .val (.int c2), .val (.ref b8), .val (.int (p5 &&& (3 : Int32))), .val (.ref b13), .val (.int (1 : Int32))] [(.int (own_sl l2 (own_pos p1) c2 (own_pos p2) cs5 cs2))])
                  refine gIload X26 hx (hb hby at_292) rfl ?_
                  refine gIcmp X26 hx 301 (hb hby at_294) (by decide) (by decide) (fun q => absurd (own_slT hc15.symm hc18.symm (own_if1 hc22).symm) (o_neT q)) (fun _ => ?_)
                  show Go _ _ _ _ _ T26 (mkF m 297 #[.val (.int p0), .val (.int p1), .val (.int p2), .val (.int p3), .val (.int p4), .val (.int p5), .val (.int (own_min (2 : Int32) (p0 &&& (3 : Int32)))), .val (.ref b2), .val (.ref b5), .val (.int (own_pos p1)), .val (.int (own_pos p2)), .val (.int l2), .val (.int c2), .val (.ref b8), .val (.int (p5 &&& (3 : Int32))), .val (.ref b13), .val (.int (1 : Int32))] [])
                  refine gIconst X26 hx (1 : Int32) (hb hby at_297) rfl ?_
                  refine gGoto X26 hx 302 (hb hby at_298) (by decide) (by decide) ?_
                  exact gRetZ X26 hx hlk hret (by simp) (hb hby at_302) (z' := (1 : Int32)) rfl (feS hS (by rw [e26]; exact hk) (by decide) (by decide)) ⟨rfl, N_26⟩
          · have hc12 := o_neF hT
            show Go _ _ _ _ _ T9 (mkF m 211 #[.val (.int p0), .val (.int p1), .val (.int p2), .val (.int p3), .val (.int p4), .val (.int p5), .val (.int (own_min (2 : Int32) (p0 &&& (3 : Int32)))), .val (.ref b2), .val (.ref b5), .val (.int (own_pos p1)), .val (.int (own_pos p2)), .val (.int l2), .val (.int c2), .val (.ref b8), .val (.int (p5 &&& (3 : Int32))), .unset, .unset] [])
            refine gAload X9 hx (hb hby at_211) rfl rfl ?_
            refine gAload X9 hx (hb hby at_213) rfl rfl ?_
            refine gVirtual X9 hx hZ (y := (⟨"com/example/wee_check/weecheck/source/SourceLocation", "equals", "(Ljava/lang/Object;)Z"⟩ : MethodName)) (a := b8) hown (by decide) (tw hw 56 rfl) (tw hw 57 rfl) (tw hw 58 rfl) (tw hw 59 rfl) (tw hw 39 rfl) (tw hw 60 rfl) Eq9 (own_rm8S l Z a0 hw b8 b2 T9.heap n0 Z_9 (Ne.symm (Nat.ne_of_lt lt_b2_b8)) Eq2__9) rfl (by rw [hml]; rfl) (argsL := [(.ref b2)]) (rest := []) (W := 0) (lenOf own_pd7 rfl) rfl (Nat.le_of_eq rfl) (by decide) (by decide) (by decide) (by decide) (hb hby at_215) ?_
            rintro _ T27 L27 X27 ⟨rfl, Nq27, e27⟩
            have N_27 := Fr.app N_9 Nq27
            show Go _ _ _ _ _ T27 (mkF m 218 #[.val (.int p0), .val (.int p1), .val (.int p2), .val (.int p3), .val (.int p4), .val (.int p5), .val (.int (own_min (2 : Int32) (p0 &&& (3 : Int32)))), .val (.ref b2), .val (.ref b5), .val (.int (own_pos p1)), .val (.int (own_pos p2)), .val (.int l2), .val (.int c2), .val (.ref b8), .val (.int (p5 &&& (3 : Int32))), .unset, .unset] [(.int (0 : Int32))])
            refine gIf X27 hx 225 (hb hby at_218) (by decide) (by decide) (fun q => absurd (by decide) (o_neT q)) (fun _ => ?_)
            show Go _ _ _ _ _ T27 (mkF m 221 #[.val (.int p0), .val (.int p1), .val (.int p2), .val (.int p3), .val (.int p4), .val (.int p5), .val (.int (own_min (2 : Int32) (p0 &&& (3 : Int32)))), .val (.ref b2), .val (.ref b5), .val (.int (own_pos p1)), .val (.int (own_pos p2)), .val (.int l2), .val (.int c2), .val (.ref b8), .val (.int (p5 &&& (3 : Int32))), .unset, .unset] [])
            refine gIconst X27 hx (1 : Int32) (hb hby at_221) rfl ?_
            refine gGoto X27 hx 226 (hb hby at_222) (by decide) (by decide) ?_
            exact gRetZ X27 hx hlk hret (by simp) (hb hby at_226) (z' := (1 : Int32)) rfl (feS hS (by rw [e27]; exact hk) (by decide) (by decide)) ⟨rfl, N_27⟩
        · have hc11 := o_neF hT
          show Go _ _ _ _ _ T9 (mkF m 190 #[.val (.int p0), .val (.int p1), .val (.int p2), .val (.int p3), .val (.int p4), .val (.int p5), .val (.int (own_min (2 : Int32) (p0 &&& (3 : Int32)))), .val (.ref b2), .val (.ref b5), .val (.int (own_pos p1)), .val (.int (own_pos p2)), .val (.int l2), .val (.int c2), .val (.ref b8), .val (.int (p5 &&& (3 : Int32))), .unset, .unset] [])
          refine gAload X9 hx (hb hby at_190) rfl rfl ?_
          refine gNull X9 hx (hb hby at_192) ?_
          refine gVirtual X9 hx hZ (y := (⟨"com/example/wee_check/weecheck/source/SourceLocation", "equals", "(Ljava/lang/Object;)Z"⟩ : MethodName)) (a := b8) hown (by decide) (tw hw 56 rfl) (tw hw 57 rfl) (tw hw 58 rfl) (tw hw 59 rfl) (tw hw 39 rfl) (tw hw 60 rfl) Eq9 (own_rm8N l Z a0 hw b8 T9.heap n0 Z_9) rfl (by rw [hml]; rfl) (argsL := [.null]) (rest := []) (W := 0) (lenOf own_pd7 rfl) rfl (Nat.le_of_eq rfl) (by decide) (by decide) (by decide) (by decide) (hb hby at_193) ?_
          rintro _ T28 L28 X28 ⟨rfl, Nq28, e28⟩
          have N_28 := Fr.app N_9 Nq28
          show Go _ _ _ _ _ T28 (mkF m 196 #[.val (.int p0), .val (.int p1), .val (.int p2), .val (.int p3), .val (.int p4), .val (.int p5), .val (.int (own_min (2 : Int32) (p0 &&& (3 : Int32)))), .val (.ref b2), .val (.ref b5), .val (.int (own_pos p1)), .val (.int (own_pos p2)), .val (.int l2), .val (.int c2), .val (.ref b8), .val (.int (p5 &&& (3 : Int32))), .unset, .unset] [(.int (0 : Int32))])
          refine gIf X28 hx 203 (hb hby at_196) (by decide) (by decide) (fun q => absurd (by decide) (o_neT q)) (fun _ => ?_)
          show Go _ _ _ _ _ T28 (mkF m 199 #[.val (.int p0), .val (.int p1), .val (.int p2), .val (.int p3), .val (.int p4), .val (.int p5), .val (.int (own_min (2 : Int32) (p0 &&& (3 : Int32)))), .val (.ref b2), .val (.ref b5), .val (.int (own_pos p1)), .val (.int (own_pos p2)), .val (.int l2), .val (.int c2), .val (.ref b8), .val (.int (p5 &&& (3 : Int32))), .unset, .unset] [])
          refine gIconst X28 hx (1 : Int32) (hb hby at_199) rfl ?_
          refine gGoto X28 hx 204 (hb hby at_200) (by decide) (by decide) ?_
          exact gRetZ X28 hx hlk hret (by simp) (hb hby at_204) (z' := (1 : Int32)) rfl (feS hS (by rw [e28]; exact hk) (by decide) (by decide)) ⟨rfl, N_28⟩
      · have hc10 := o_neF hT
        show Go _ _ _ _ _ T9 (mkF m 176 #[.val (.int p0), .val (.int p1), .val (.int p2), .val (.int p3), .val (.int p4), .val (.int p5), .val (.int (own_min (2 : Int32) (p0 &&& (3 : Int32)))), .val (.ref b2), .val (.ref b5), .val (.int (own_pos p1)), .val (.int (own_pos p2)), .val (.int l2), .val (.int c2), .val (.ref b8), .val (.int (p5 &&& (3 : Int32))), .unset, .unset] [])
        refine gAload X9 hx (hb hby at_176) rfl rfl ?_
        refine gAload X9 hx (hb hby at_178) rfl rfl ?_
        refine gVirtual X9 hx hZ (y := (⟨"com/example/wee_check/weecheck/source/SourceLocation", "equals", "(Ljava/lang/Object;)Z"⟩ : MethodName)) (a := b8) hown (by decide) (tw hw 56 rfl) (tw hw 57 rfl) (tw hw 58 rfl) (tw hw 59 rfl) (tw hw 39 rfl) (tw hw 60 rfl) Eq9 (own_rm8A l Z a0 hw b8 T9.heap n0 Z_9) rfl (by rw [hml]; rfl) (argsL := [(.ref b8)]) (rest := []) (W := 0) (lenOf own_pd7 rfl) rfl (Nat.le_of_eq rfl) (by decide) (by decide) (by decide) (by decide) (hb hby at_180) ?_
        rintro _ T29 L29 X29 ⟨rfl, Nq29, e29⟩
        have N_29 := Fr.app N_9 Nq29
        show Go _ _ _ _ _ T29 (mkF m 183 #[.val (.int p0), .val (.int p1), .val (.int p2), .val (.int p3), .val (.int p4), .val (.int p5), .val (.int (own_min (2 : Int32) (p0 &&& (3 : Int32)))), .val (.ref b2), .val (.ref b5), .val (.int (own_pos p1)), .val (.int (own_pos p2)), .val (.int l2), .val (.int c2), .val (.ref b8), .val (.int (p5 &&& (3 : Int32))), .unset, .unset] [(.int (1 : Int32))])
        exact gRetZ X29 hx hlk hret (by simp) (hb hby at_183) (z' := (1 : Int32)) rfl (feS hS (by rw [e29]; exact hk) (by decide) (by decide)) ⟨rfl, N_29⟩
    refine gIload X7 hx (hb hby at_108) rfl ?_
    refine gIconst X7 hx (2 : Int32) (hb hby at_110) rfl ?_
    refine gIushr X7 hx (hb hby at_111) ?_
    refine gIconst X7 hx (1 : Int32) (hb hby at_112) rfl ?_
    refine gIand X7 hx (hb hby at_113) ?_
    refine gIf X7 hx 122 (hb hby at_114) (by decide) (by decide) (fun hT => ?_) (fun hT => ?_)
    · have hc30 := o_eqT hT
      show Go _ _ _ _ _ T7 (mkF m 122 #[.val (.int p0), .val (.int p1), .val (.int p2), .val (.int p3), .val (.int p4), .val (.int p5), .val (.int (own_min (2 : Int32) (p0 &&& (3 : Int32)))), .val (.ref b2), .val (.ref b5), .val (.int (own_pos p1)), .val (.int (own_pos p2)), .unset, .unset, .unset, .unset, .unset, .unset] [])
      refine gIloadN X7 hx (hb hby at_122) rfl ?_
      refine gStatic X7 hx hZ (y := (⟨"com/example/wee_check/weecheck/source/SourceLocationEqualsPinLaw", "pos", "(I)I"⟩ : MethodName)) hown (by decide) (tw hw 30 rfl) (tw hw 31 rfl) (tw hw 6 rfl) (tw hw 32 rfl) (own_rm5 l Z a0 hw p3 T5.heap n0 Z_5) e7 (by rw [hml]; rfl) (argsL := [(.int p3)]) (rest := []) (W := 0) (lenOf own_pd4 rfl) rfl (Nat.le_of_eq rfl) (by decide) (by decide) (by decide) (by decide) (hb hby at_123) ?_
      rintro _ T31 L31 X31 ⟨rfl, Nq31, e31⟩
      have N_31 := Fr.app N_7 Nq31
      show Go _ _ _ _ _ T31 (mkF m 126 #[.val (.int p0), .val (.int p1), .val (.int p2), .val (.int p3), .val (.int p4), .val (.int p5), .val (.int (own_min (2 : Int32) (p0 &&& (3 : Int32)))), .val (.ref b2), .val (.ref b5), .val (.int (own_pos p1)), .val (.int (own_pos p2)), .unset, .unset, .unset, .unset, .unset, .unset] [(.int (own_pos p3))])
      refine gIstore X31 hx #[.val (.int p0), .val (.int p1), .val (.int p2), .val (.int p3), .val (.int p4), .val (.int p5), .val (.int (own_min (2 : Int32) (p0 &&& (3 : Int32)))), .val (.ref b2), .val (.ref b5), .val (.int (own_pos p1)), .val (.int (own_pos p2)), .val (.int (own_pos p3)), .unset, .unset, .unset, .unset, .unset] (hb hby at_126) rfl ?_
      refine gIload X31 hx (hb hby at_128) rfl ?_
      refine gIconst X31 hx (3 : Int32) (hb hby at_130) rfl ?_
      refine gIushr X31 hx (hb hby at_131) ?_
      refine gIconst X31 hx (1 : Int32) (hb hby at_132) rfl ?_
      refine gIand X31 hx (hb hby at_133) ?_
      refine gIf X31 hx 142 (hb hby at_134) (by decide) (by decide) (fun hT => ?_) (fun hT => ?_)
      · have hc32 := o_eqT hT
        show Go _ _ _ _ _ T31 (mkF m 142 #[.val (.int p0), .val (.int p1), .val (.int p2), .val (.int p3), .val (.int p4), .val (.int p5), .val (.int (own_min (2 : Int32) (p0 &&& (3 : Int32)))), .val (.ref b2), .val (.ref b5), .val (.int (own_pos p1)), .val (.int (own_pos p2)), .val (.int (own_pos p3)), .unset, .unset, .unset, .unset, .unset] [])
        refine gIload X31 hx (hb hby at_142) rfl ?_
        refine gStatic X31 hx hZ (y := (⟨"com/example/wee_check/weecheck/source/SourceLocationEqualsPinLaw", "pos", "(I)I"⟩ : MethodName)) hown (by decide) (tw hw 30 rfl) (tw hw 31 rfl) (tw hw 6 rfl) (tw hw 32 rfl) (own_rm5 l Z a0 hw p4 T5.heap n0 Z_5) e31 (by rw [hml]; rfl) (argsL := [(.int p4)]) (rest := []) (W := 0) (lenOf own_pd4 rfl) rfl (Nat.le_of_eq rfl) (by decide) (by decide) (by decide) (by decide) (hb hby at_144) ?_
        rintro _ T33 L33 X33 ⟨rfl, Nq33, e33⟩
        have N_33 := Fr.app N_31 Nq33
        show Go _ _ _ _ _ T33 (mkF m 147 #[.val (.int p0), .val (.int p1), .val (.int p2), .val (.int p3), .val (.int p4), .val (.int p5), .val (.int (own_min (2 : Int32) (p0 &&& (3 : Int32)))), .val (.ref b2), .val (.ref b5), .val (.int (own_pos p1)), .val (.int (own_pos p2)), .val (.int (own_pos p3)), .unset, .unset, .unset, .unset, .unset] [(.int (own_pos p4))])
        refine gIstore X33 hx #[.val (.int p0), .val (.int p1), .val (.int p2), .val (.int p3), .val (.int p4), .val (.int p5), .val (.int (own_min (2 : Int32) (p0 &&& (3 : Int32)))), .val (.ref b2), .val (.ref b5), .val (.int (own_pos p1)), .val (.int (own_pos p2)), .val (.int (own_pos p3)), .val (.int (own_pos p4)), .unset, .unset, .unset, .unset] (hb hby at_147) rfl ?_
        exact B149 T33 _ (own_pos p3) (own_pos p4) X33 e33 N_33 (own_pos1 _) (own_pos1 _)
      · have hc32 := o_eqF hT
        show Go _ _ _ _ _ T31 (mkF m 137 #[.val (.int p0), .val (.int p1), .val (.int p2), .val (.int p3), .val (.int p4), .val (.int p5), .val (.int (own_min (2 : Int32) (p0 &&& (3 : Int32)))), .val (.ref b2), .val (.ref b5), .val (.int (own_pos p1)), .val (.int (own_pos p2)), .val (.int (own_pos p3)), .unset, .unset, .unset, .unset, .unset] [])
        refine gIload X31 hx (hb hby at_137) rfl ?_
        refine gGoto X31 hx 147 (hb hby at_139) (by decide) (by decide) ?_
        refine gIstore X31 hx #[.val (.int p0), .val (.int p1), .val (.int p2), .val (.int p3), .val (.int p4), .val (.int p5), .val (.int (own_min (2 : Int32) (p0 &&& (3 : Int32)))), .val (.ref b2), .val (.ref b5), .val (.int (own_pos p1)), .val (.int (own_pos p2)), .val (.int (own_pos p3)), .val (.int (own_pos p2)), .unset, .unset, .unset, .unset] (hb hby at_147) rfl ?_
        exact B149 T31 _ (own_pos p3) (own_pos p2) X31 e31 N_31 (own_pos1 _) (own_pos1 _)
    · have hc30 := o_eqF hT
      show Go _ _ _ _ _ T7 (mkF m 117 #[.val (.int p0), .val (.int p1), .val (.int p2), .val (.int p3), .val (.int p4), .val (.int p5), .val (.int (own_min (2 : Int32) (p0 &&& (3 : Int32)))), .val (.ref b2), .val (.ref b5), .val (.int (own_pos p1)), .val (.int (own_pos p2)), .unset, .unset, .unset, .unset, .unset, .unset] [])
      refine gIload X7 hx (hb hby at_117) rfl ?_
      refine gGoto X7 hx 126 (hb hby at_119) (by decide) (by decide) ?_
      refine gIstore X7 hx #[.val (.int p0), .val (.int p1), .val (.int p2), .val (.int p3), .val (.int p4), .val (.int p5), .val (.int (own_min (2 : Int32) (p0 &&& (3 : Int32)))), .val (.ref b2), .val (.ref b5), .val (.int (own_pos p1)), .val (.int (own_pos p2)), .val (.int (own_pos p1)), .unset, .unset, .unset, .unset, .unset] (hb hby at_126) rfl ?_
      refine gIload X7 hx (hb hby at_128) rfl ?_
      refine gIconst X7 hx (3 : Int32) (hb hby at_130) rfl ?_
      refine gIushr X7 hx (hb hby at_131) ?_
      refine gIconst X7 hx (1 : Int32) (hb hby at_132) rfl ?_
      refine gIand X7 hx (hb hby at_133) ?_
      refine gIf X7 hx 142 (hb hby at_134) (by decide) (by decide) (fun hT => ?_) (fun hT => ?_)
      · have hc34 := o_eqT hT
        show Go _ _ _ _ _ T7 (mkF m 142 #[.val (.int p0), .val (.int p1), .val (.int p2), .val (.int p3), .val (.int p4), .val (.int p5), .val (.int (own_min (2 : Int32) (p0 &&& (3 : Int32)))), .val (.ref b2), .val (.ref b5), .val (.int (own_pos p1)), .val (.int (own_pos p2)), .val (.int (own_pos p1)), .unset, .unset, .unset, .unset, .unset] [])
        refine gIload X7 hx (hb hby at_142) rfl ?_
        refine gStatic X7 hx hZ (y := (⟨"com/example/wee_check/weecheck/source/SourceLocationEqualsPinLaw", "pos", "(I)I"⟩ : MethodName)) hown (by decide) (tw hw 30 rfl) (tw hw 31 rfl) (tw hw 6 rfl) (tw hw 32 rfl) (own_rm5 l Z a0 hw p4 T5.heap n0 Z_5) e7 (by rw [hml]; rfl) (argsL := [(.int p4)]) (rest := []) (W := 0) (lenOf own_pd4 rfl) rfl (Nat.le_of_eq rfl) (by decide) (by decide) (by decide) (by decide) (hb hby at_144) ?_
        rintro _ T35 L35 X35 ⟨rfl, Nq35, e35⟩
        have N_35 := Fr.app N_7 Nq35
        show Go _ _ _ _ _ T35 (mkF m 147 #[.val (.int p0), .val (.int p1), .val (.int p2), .val (.int p3), .val (.int p4), .val (.int p5), .val (.int (own_min (2 : Int32) (p0 &&& (3 : Int32)))), .val (.ref b2), .val (.ref b5), .val (.int (own_pos p1)), .val (.int (own_pos p2)), .val (.int (own_pos p1)), .unset, .unset, .unset, .unset, .unset] [(.int (own_pos p4))])
        refine gIstore X35 hx #[.val (.int p0), .val (.int p1), .val (.int p2), .val (.int p3), .val (.int p4), .val (.int p5), .val (.int (own_min (2 : Int32) (p0 &&& (3 : Int32)))), .val (.ref b2), .val (.ref b5), .val (.int (own_pos p1)), .val (.int (own_pos p2)), .val (.int (own_pos p1)), .val (.int (own_pos p4)), .unset, .unset, .unset, .unset] (hb hby at_147) rfl ?_
        exact B149 T35 _ (own_pos p1) (own_pos p4) X35 e35 N_35 (own_pos1 _) (own_pos1 _)
      · have hc34 := o_eqF hT
        show Go _ _ _ _ _ T7 (mkF m 137 #[.val (.int p0), .val (.int p1), .val (.int p2), .val (.int p3), .val (.int p4), .val (.int p5), .val (.int (own_min (2 : Int32) (p0 &&& (3 : Int32)))), .val (.ref b2), .val (.ref b5), .val (.int (own_pos p1)), .val (.int (own_pos p2)), .val (.int (own_pos p1)), .unset, .unset, .unset, .unset, .unset] [])
        refine gIload X7 hx (hb hby at_137) rfl ?_
        refine gGoto X7 hx 147 (hb hby at_139) (by decide) (by decide) ?_
        refine gIstore X7 hx #[.val (.int p0), .val (.int p1), .val (.int p2), .val (.int p3), .val (.int p4), .val (.int p5), .val (.int (own_min (2 : Int32) (p0 &&& (3 : Int32)))), .val (.ref b2), .val (.ref b5), .val (.int (own_pos p1)), .val (.int (own_pos p2)), .val (.int (own_pos p1)), .val (.int (own_pos p2)), .unset, .unset, .unset, .unset] (hb hby at_147) rfl ?_
        exact B149 T7 _ (own_pos p1) (own_pos p2) X7 e7 N_7 (own_pos1 _) (own_pos1 _)
  · have hc3 := o_eqF hT
    show Go _ _ _ _ _ T2 (mkF m 40 #[.val (.int p0), .val (.int p1), .val (.int p2), .val (.int p3), .val (.int p4), .val (.int p5), .val (.int (own_min (2 : Int32) (p0 &&& (3 : Int32)))), .val (.ref b2), .unset, .unset, .unset, .unset, .unset, .unset, .unset, .unset, .unset] [])
    refine gIload X2 hx (hb hby at_40) rfl ?_
    refine gIloadN X2 hx (hb hby at_42) rfl ?_
    refine gIconst X2 hx (2 : Int32) (hb hby at_43) rfl ?_
    refine gIushr X2 hx (hb hby at_44) ?_
    refine gSipush X2 hx (255 : Int32) (hb hby at_45) rfl ?_
    refine gIand X2 hx (hb hby at_48) ?_
    refine gIloadN X2 hx (hb hby at_49) rfl ?_
    refine gBipush X2 hx (10 : Int32) (hb hby at_50) rfl ?_
    refine gIushr X2 hx (hb hby at_52) ?_
    refine gSipush X2 hx (255 : Int32) (hb hby at_53) rfl ?_
    refine gIand X2 hx (hb hby at_56) ?_
    refine gStaticS X2 hx hZ (y := (⟨"com/example/wee_check/weecheck/source/SourceLocationEqualsPinLaw", "str", "(III)Ljava/lang/String;"⟩ : MethodName)) hown (by decide) (tw hw 4 rfl) (tw hw 5 rfl) (tw hw 6 rfl) (tw hw 7 rfl) hS hk (own_rm4 l Z a0 hw (own_min (2 : Int32) (p0 &&& (3 : Int32))) ((XT.ushr p0 (2 : Int32)) &&& (255 : Int32)) ((XT.ushr p0 (10 : Int32)) &&& (255 : Int32)) T2.heap n0 Z_2 wS hh hcw O_2 z SC hz (own_m255 _) (own_m255 _)) (fun vm₁ hv => LS.vm (s := s) LS2 hv) rfl (by rw [hml]; rfl) (argsL := [(.int (own_min (2 : Int32) (p0 &&& (3 : Int32)))), (.int ((XT.ushr p0 (2 : Int32)) &&& (255 : Int32))), (.int ((XT.ushr p0 (10 : Int32)) &&& (255 : Int32)))]) (rest := []) (W := 0) (lenOf own_pd3 rfl) rfl (Nat.le_of_eq rfl) (by decide) (by decide) (by decide) (by decide) (hb hby at_57) ?_
    rintro _ T36 L36 X36 hS hZ hown hgr36 ⟨b36, t36, kb36, cs36, rfl, Nq36, Kq36, ⟨Eq36, Vq36, Cq36, Aq36⟩, ok36, LS36⟩
    have N_36 := Fr.app N_2 Nq36
    have hk := Nat.le_refl T36.heap.size
    have Eq2__36 := Eq2.keep Kq36
    have Vq2__36 := Vq2.keep Kq36 nin0
    have Cq2__36 := Cq2.keep Kq36 nin0
    have Aq2__36 := Aq2.keep Kq36 nin0
    have Z_36 := Nat.le_trans Z_2 Kq36.1
    have O_36 := O_2.keep Kq36 all0
    show Go _ _ _ _ _ T36 (mkF m 60 #[.val (.int p0), .val (.int p1), .val (.int p2), .val (.int p3), .val (.int p4), .val (.int p5), .val (.int (own_min (2 : Int32) (p0 &&& (3 : Int32)))), .val (.ref b2), .unset, .unset, .unset, .unset, .unset, .unset, .unset, .unset, .unset] [(.ref b36)])
    refine gGoto X36 hx 94 (hb hby at_60) (by decide) (by decide) ?_
    refine gAstore X36 hx #[.val (.int p0), .val (.int p1), .val (.int p2), .val (.int p3), .val (.int p4), .val (.int p5), .val (.int (own_min (2 : Int32) (p0 &&& (3 : Int32)))), .val (.ref b2), .val (.ref b36), .unset, .unset, .unset, .unset, .unset, .unset, .unset, .unset] (hb hby at_94) rfl rfl ?_
    refine gIloadN X36 hx (hb hby at_96) rfl ?_
    refine gStatic X36 hx hZ (y := (⟨"com/example/wee_check/weecheck/source/SourceLocationEqualsPinLaw", "pos", "(I)I"⟩ : MethodName)) hown (by decide) (tw hw 30 rfl) (tw hw 31 rfl) (tw hw 6 rfl) (tw hw 32 rfl) (own_rm5 l Z a0 hw p1 T36.heap n0 Z_36) rfl (by rw [hml]; rfl) (argsL := [(.int p1)]) (rest := []) (W := 0) (lenOf own_pd4 rfl) rfl (Nat.le_of_eq rfl) (by decide) (by decide) (by decide) (by decide) (hb hby at_97) ?_
    rintro _ T37 L37 X37 ⟨rfl, Nq37, e37⟩
    have N_37 := Fr.app N_36 Nq37
    show Go _ _ _ _ _ T37 (mkF m 100 #[.val (.int p0), .val (.int p1), .val (.int p2), .val (.int p3), .val (.int p4), .val (.int p5), .val (.int (own_min (2 : Int32) (p0 &&& (3 : Int32)))), .val (.ref b2), .val (.ref b36), .unset, .unset, .unset, .unset, .unset, .unset, .unset, .unset] [(.int (own_pos p1))])
    refine gIstore X37 hx #[.val (.int p0), .val (.int p1), .val (.int p2), .val (.int p3), .val (.int p4), .val (.int p5), .val (.int (own_min (2 : Int32) (p0 &&& (3 : Int32)))), .val (.ref b2), .val (.ref b36), .val (.int (own_pos p1)), .unset, .unset, .unset, .unset, .unset, .unset, .unset] (hb hby at_100) rfl ?_
    refine gIloadN X37 hx (hb hby at_102) rfl ?_
    refine gStatic X37 hx hZ (y := (⟨"com/example/wee_check/weecheck/source/SourceLocationEqualsPinLaw", "pos", "(I)I"⟩ : MethodName)) hown (by decide) (tw hw 30 rfl) (tw hw 31 rfl) (tw hw 6 rfl) (tw hw 32 rfl) (own_rm5 l Z a0 hw p2 T36.heap n0 Z_36) e37 (by rw [hml]; rfl) (argsL := [(.int p2)]) (rest := []) (W := 0) (lenOf own_pd4 rfl) rfl (Nat.le_of_eq rfl) (by decide) (by decide) (by decide) (by decide) (hb hby at_103) ?_
    rintro _ T38 L38 X38 ⟨rfl, Nq38, e38⟩
    have N_38 := Fr.app N_37 Nq38
    show Go _ _ _ _ _ T38 (mkF m 106 #[.val (.int p0), .val (.int p1), .val (.int p2), .val (.int p3), .val (.int p4), .val (.int p5), .val (.int (own_min (2 : Int32) (p0 &&& (3 : Int32)))), .val (.ref b2), .val (.ref b36), .val (.int (own_pos p1)), .unset, .unset, .unset, .unset, .unset, .unset, .unset] [(.int (own_pos p2))])
    refine gIstore X38 hx #[.val (.int p0), .val (.int p1), .val (.int p2), .val (.int p3), .val (.int p4), .val (.int p5), .val (.int (own_min (2 : Int32) (p0 &&& (3 : Int32)))), .val (.ref b2), .val (.ref b36), .val (.int (own_pos p1)), .val (.int (own_pos p2)), .unset, .unset, .unset, .unset, .unset, .unset] (hb hby at_106) rfl ?_
    have B149 : ∀ (T : State) (locs : List Loc) (l2 c2 : Int32), Stand p l e room_1 (s.setVm T36.vm) m #[(.int p0), (.int p1), (.int p2), (.int p3), (.int p4), (.int p5)] below meth c T locs 10 20 → T.heap = T36.heap → Fr n0 locs → ¬ l2 < (1 : Int32) → ¬ c2 < (1 : Int32) → Go p e below (fun o s₂ L => ReturnedEndW s o s₂ L room_1.cells room_1.slots) (fun v h _ L => v = some (.int 1) ∧ Fr n0 L) T (mkF m 149 #[.val (.int p0), .val (.int p1), .val (.int p2), .val (.int p3), .val (.int p4), .val (.int p5), .val (.int (own_min (2 : Int32) (p0 &&& (3 : Int32)))), .val (.ref b2), .val (.ref b36), .val (.int (own_pos p1)), .val (.int (own_pos p2)), .val (.int l2), .val (.int c2), .unset, .unset, .unset, .unset] []) := by
      intro T locs l2 c2 X eT N hl2 hc2
      show Go _ _ _ _ _ T (mkF m 149 #[.val (.int p0), .val (.int p1), .val (.int p2), .val (.int p3), .val (.int p4), .val (.int p5), .val (.int (own_min (2 : Int32) (p0 &&& (3 : Int32)))), .val (.ref b2), .val (.ref b36), .val (.int (own_pos p1)), .val (.int (own_pos p2)), .val (.int l2), .val (.int c2), .unset, .unset, .unset, .unset] [])
      refine gNew X hx hZ hown (tw hw 37 rfl) (tw hw 38 rfl) (tw hw 39 rfl) eT (hb hby at_149) (by decide) (by decide) ?_
      intro T39 h39 b39 X39 e39 E39 g39 A39 D39
      have lt_b2_b39 : b2 < b39 := by rw [g39]; exact Eq2__36.lt
      have lt_t2_b39 : t2 < b39 := by rw [g39]; exact Aq2__36.lt
      have lt_b36_b39 : b36 < b39 := by rw [g39]; exact Eq36.lt
      have lt_t36_b39 : t36 < b39 := by rw [g39]; exact Aq36.lt
      have g_b39 : n0 ≤ b39 := by rw [g39]; exact Z_36
      have Eq2__39 := Eq2__36.ext E39
      have Vq2__39 := Vq2__36.ext E39
      have Cq2__39 := Cq2__36.ext E39
      have Aq2__39 := Aq2__36.ext E39
      have Eq36__39 := Eq36.ext E39
      have Vq36__39 := Vq36.ext E39
      have Cq36__39 := Cq36.ext E39
      have Aq36__39 := Aq36.ext E39
      have Z_39 := Nat.le_trans Z_36 E39.1
      have O_39 := O_36.ext E39
      have hk := Nat.le_trans hk E39.1
      have F_file_b39 : Fld Z h39 b39 "com/example/wee_check/weecheck/source/SourceLocation" "file" "Ljava/lang/String;" .null := D39 (Or.inr (tw hw 51 rfl)) (ty := (.object "java/lang/String")) (by decide)
      have F_line_b39 : Fld Z h39 b39 "com/example/wee_check/weecheck/source/SourceLocation" "line" "I" (.int (0 : Int32)) := D39 (Or.inr (tw hw 53 rfl)) (ty := .int) (by decide)
      have F_column_b39 : Fld Z h39 b39 "com/example/wee_check/weecheck/source/SourceLocation" "column" "I" (.int (0 : Int32)) := D39 (Or.inr (tw hw 55 rfl)) (ty := .int) (by decide)
      show Go _ _ _ _ _ T39 (mkF m 152 #[.val (.int p0), .val (.int p1), .val (.int p2), .val (.int p3), .val (.int p4), .val (.int p5), .val (.int (own_min (2 : Int32) (p0 &&& (3 : Int32)))), .val (.ref b2), .val (.ref b36), .val (.int (own_pos p1)), .val (.int (own_pos p2)), .val (.int l2), .val (.int c2), .unset, .unset, .unset, .unset] [(.ref b39)])
      refine gDup X39 hx (hb hby at_152) rfl ?_
      refine gAload X39 hx (hb hby at_153) rfl rfl ?_
      refine gIload X39 hx (hb hby at_155) rfl ?_
      refine gIload X39 hx (hb hby at_157) rfl ?_
      refine gInitS X39 hx hZ (y := (⟨"com/example/wee_check/weecheck/source/SourceLocation", "<init>", "(Ljava/lang/String;II)V"⟩ : MethodName)) (a := b39) hown rfl (by decide) (tw hw 40 rfl) (tw hw 41 rfl) (tw hw 39 rfl) (tw hw 42 rfl) hS hk (own_rm7 l Z a0 hw b39 b2 (own_pos p1) (own_pos p2) h39 n0 Z_39 wS A39 g_b39 Eq2__39 F_file_b39 F_line_b39 F_column_b39 (own_pos1 _) (own_pos1 _)) (fun _ _ => trivial) e39 (by rw [hml]; rfl) (argsL := [(.ref b2), (.int (own_pos p1)), (.int (own_pos p2))]) (rest := [(.ref b39)]) (W := 1) (lenOf own_pd6 rfl) rfl (Nat.le_of_eq rfl) (by decide) (by decide) (by decide) (by decide) (hb hby at_159) ?_
      rintro _ T40 L40 X40 hS hZ hown hgr40 ⟨rfl, Nq40, Kq40, Eq40, F0q40, F1q40, F2q40⟩
      have N_40 := Fr.app N Nq40
      have hk := Nat.le_refl T40.heap.size
      have Eq2__40 := Eq2__39.keep Kq40
      have Vq2__40 := Vq2__39.keep Kq40 (ninS (Nat.ne_of_lt lt_b2_b39) nin0)
      have Cq2__40 := Cq2__39.keep Kq40 (ninS (Nat.ne_of_lt lt_b2_b39) nin0)
      have Aq2__40 := Aq2__39.keep Kq40 (ninS (Nat.ne_of_lt lt_t2_b39) nin0)
      have Eq36__40 := Eq36__39.keep Kq40
      have Vq36__40 := Vq36__39.keep Kq40 (ninS (Nat.ne_of_lt lt_b36_b39) nin0)
      have Cq36__40 := Cq36__39.keep Kq40 (ninS (Nat.ne_of_lt lt_b36_b39) nin0)
      have Aq36__40 := Aq36__39.keep Kq40 (ninS (Nat.ne_of_lt lt_t36_b39) nin0)
      have Z_40 := Nat.le_trans Z_39 Kq40.1
      have O_40 := O_39.keep Kq40 (allS g_b39 all0)
      show Go _ _ _ _ _ T40 (mkF m 162 #[.val (.int p0), .val (.int p1), .val (.int p2), .val (.int p3), .val (.int p4), .val (.int p5), .val (.int (own_min (2 : Int32) (p0 &&& (3 : Int32)))), .val (.ref b2), .val (.ref b36), .val (.int (own_pos p1)), .val (.int (own_pos p2)), .val (.int l2), .val (.int c2), .unset, .unset, .unset, .unset] [(.ref b39)])
      refine gAstore X40 hx #[.val (.int p0), .val (.int p1), .val (.int p2), .val (.int p3), .val (.int p4), .val (.int p5), .val (.int (own_min (2 : Int32) (p0 &&& (3 : Int32)))), .val (.ref b2), .val (.ref b36), .val (.int (own_pos p1)), .val (.int (own_pos p2)), .val (.int l2), .val (.int c2), .val (.ref b39), .unset, .unset, .unset] (hb hby at_162) rfl rfl ?_
      refine gIload X40 hx (hb hby at_164) rfl ?_
      refine gIconst X40 hx (3 : Int32) (hb hby at_166) rfl ?_
      refine gIand X40 hx (hb hby at_167) ?_
      refine gIstore X40 hx #[.val (.int p0), .val (.int p1), .val (.int p2), .val (.int p3), .val (.int p4), .val (.int p5), .val (.int (own_min (2 : Int32) (p0 &&& (3 : Int32)))), .val (.ref b2), .val (.ref b36), .val (.int (own_pos p1)), .val (.int (own_pos p2)), .val (.int l2), .val (.int c2), .val (.ref b39), .val (.int (p5 &&& (3 : Int32))), .unset, .unset] (hb hby at_168) rfl ?_
      refine gIload X40 hx (hb hby at_170) rfl ?_
      refine gIconst X40 hx (1 : Int32) (hb hby at_172) rfl ?_
      refine gIcmp X40 hx 184 (hb hby at_173) (by decide) (by decide) (fun hT => ?_) (fun hT => ?_)
      · have hc41 := o_neT hT
        show Go _ _ _ _ _ T40 (mkF m 184 #[.val (.int p0), .val (.int p1), .val (.int p2), .val (.int p3), .val (.int p4), .val (.int p5), .val (.int (own_min (2 : Int32) (p0 &&& (3 : Int32)))), .val (.ref b2), .val (.ref b36), .val (.int (own_pos p1)), .val (.int (own_pos p2)), .val (.int l2), .val (.int c2), .val (.ref b39), .val (.int (p5 &&& (3 : Int32))), .unset, .unset] [])
        refine gIload X40 hx (hb hby at_184) rfl ?_
        refine gIconst X40 hx (2 : Int32) (hb hby at_186) rfl ?_
        refine gIcmp X40 hx 205 (hb hby at_187) (by decide) (by decide) (fun hT => ?_) (fun hT => ?_)
        · have hc42 := o_neT hT
          show Go _ _ _ _ _ T40 (mkF m 205 #[.val (.int p0), .val (.int p1), .val (.int p2), .val (.int p3), .val (.int p4), .val (.int p5), .val (.int (own_min (2 : Int32) (p0 &&& (3 : Int32)))), .val (.ref b2), .val (.ref b36), .val (.int (own_pos p1)), .val (.int (own_pos p2)), .val (.int l2), .val (.int c2), .val (.ref b39), .val (.int (p5 &&& (3 : Int32))), .unset, .unset] [])
          refine gIload X40 hx (hb hby at_205) rfl ?_
          refine gIconst X40 hx (3 : Int32) (hb hby at_207) rfl ?_
          refine gIcmp X40 hx 227 (hb hby at_208) (by decide) (by decide) (fun hT => ?_) (fun hT => ?_)
          · have hc43 := o_neT hT
            show Go _ _ _ _ _ T40 (mkF m 227 #[.val (.int p0), .val (.int p1), .val (.int p2), .val (.int p3), .val (.int p4), .val (.int p5), .val (.int (own_min (2 : Int32) (p0 &&& (3 : Int32)))), .val (.ref b2), .val (.ref b36), .val (.int (own_pos p1)), .val (.int (own_pos p2)), .val (.int l2), .val (.int c2), .val (.ref b39), .val (.int (p5 &&& (3 : Int32))), .unset, .unset] [])
            refine gNew X40 hx hZ hown (tw hw 37 rfl) (tw hw 38 rfl) (tw hw 39 rfl) rfl (hb hby at_227) (by decide) (by decide) ?_
            intro T44 h44 b44 X44 e44 E44 g44 A44 D44
            have lt_b2_b44 : b2 < b44 := by rw [g44]; exact Eq2__40.lt
            have lt_t2_b44 : t2 < b44 := by rw [g44]; exact Aq2__40.lt
            have lt_b36_b44 : b36 < b44 := by rw [g44]; exact Eq36__40.lt
            have lt_t36_b44 : t36 < b44 := by rw [g44]; exact Aq36__40.lt
            have lt_b39_b44 : b39 < b44 := by rw [g44]; exact Eq40.lt
            have g_b44 : n0 ≤ b44 := by rw [g44]; exact Z_40
            have Eq2__44 := Eq2__40.ext E44
            have Vq2__44 := Vq2__40.ext E44
            have Cq2__44 := Cq2__40.ext E44
            have Aq2__44 := Aq2__40.ext E44
            have Eq36__44 := Eq36__40.ext E44
            have Vq36__44 := Vq36__40.ext E44
            have Cq36__44 := Cq36__40.ext E44
            have Aq36__44 := Aq36__40.ext E44
            have Eq40__44 := Eq40.ext E44
            have F0q40__44 := F0q40.ext E44
            have F1q40__44 := F1q40.ext E44
            have F2q40__44 := F2q40.ext E44
            have Z_44 := Nat.le_trans Z_40 E44.1
            have O_44 := O_40.ext E44
            have hk := Nat.le_trans hk E44.1
            have F_file_b44 : Fld Z h44 b44 "com/example/wee_check/weecheck/source/SourceLocation" "file" "Ljava/lang/String;" .null := D44 (Or.inr (tw hw 51 rfl)) (ty := (.object "java/lang/String")) (by decide)
            have F_line_b44 : Fld Z h44 b44 "com/example/wee_check/weecheck/source/SourceLocation" "line" "I" (.int (0 : Int32)) := D44 (Or.inr (tw hw 53 rfl)) (ty := .int) (by decide)
            have F_column_b44 : Fld Z h44 b44 "com/example/wee_check/weecheck/source/SourceLocation" "column" "I" (.int (0 : Int32)) := D44 (Or.inr (tw hw 55 rfl)) (ty := .int) (by decide)
            show Go _ _ _ _ _ T44 (mkF m 230 #[.val (.int p0), .val (.int p1), .val (.int p2), .val (.int p3), .val (.int p4), .val (.int p5), .val (.int (own_min (2 : Int32) (p0 &&& (3 : Int32)))), .val (.ref b2), .val (.ref b36), .val (.int (own_pos p1)), .val (.int (own_pos p2)), .val (.int l2), .val (.int c2), .val (.ref b39), .val (.int (p5 &&& (3 : Int32))), .unset, .unset] [(.ref b44)])
            refine gDup X44 hx (hb hby at_230) rfl ?_
            refine gAload X44 hx (hb hby at_231) rfl rfl ?_
            refine gIload X44 hx (hb hby at_233) rfl ?_
            refine gIload X44 hx (hb hby at_235) rfl ?_
            refine gInitS X44 hx hZ (y := (⟨"com/example/wee_check/weecheck/source/SourceLocation", "<init>", "(Ljava/lang/String;II)V"⟩ : MethodName)) (a := b44) hown rfl (by decide) (tw hw 40 rfl) (tw hw 41 rfl) (tw hw 39 rfl) (tw hw 42 rfl) hS hk (own_rm7 l Z a0 hw b44 b36 l2 c2 h44 n0 Z_44 wS A44 g_b44 Eq36__44 F_file_b44 F_line_b44 F_column_b44 hl2 hc2) (fun _ _ => trivial) e44 (by rw [hml]; rfl) (argsL := [(.ref b36), (.int l2), (.int c2)]) (rest := [(.ref b44)]) (W := 1) (lenOf own_pd6 rfl) rfl (Nat.le_of_eq rfl) (by decide) (by decide) (by decide) (by decide) (hb hby at_237) ?_
            rintro _ T45 L45 X45 hS hZ hown hgr45 ⟨rfl, Nq45, Kq45, Eq45, F0q45, F1q45, F2q45⟩
            have N_45 := Fr.app N_40 Nq45
            have hk := Nat.le_refl T45.heap.size
            have Eq2__45 := Eq2__44.keep Kq45
            have Vq2__45 := Vq2__44.keep Kq45 (ninS (Nat.ne_of_lt lt_b2_b44) nin0)
            have Cq2__45 := Cq2__44.keep Kq45 (ninS (Nat.ne_of_lt lt_b2_b44) nin0)
            have Aq2__45 := Aq2__44.keep Kq45 (ninS (Nat.ne_of_lt lt_t2_b44) nin0)
            have Eq36__45 := Eq36__44.keep Kq45
            have Vq36__45 := Vq36__44.keep Kq45 (ninS (Nat.ne_of_lt lt_b36_b44) nin0)
            have Cq36__45 := Cq36__44.keep Kq45 (ninS (Nat.ne_of_lt lt_b36_b44) nin0)
            have Aq36__45 := Aq36__44.keep Kq45 (ninS (Nat.ne_of_lt lt_t36_b44) nin0)
            have Eq40__45 := Eq40__44.keep Kq45
            have F0q40__45 := F0q40__44.keep Kq45 (ninS (Nat.ne_of_lt lt_b39_b44) nin0)
            have F1q40__45 := F1q40__44.keep Kq45 (ninS (Nat.ne_of_lt lt_b39_b44) nin0)
            have F2q40__45 := F2q40__44.keep Kq45 (ninS (Nat.ne_of_lt lt_b39_b44) nin0)
            have Z_45 := Nat.le_trans Z_44 Kq45.1
            have O_45 := O_44.keep Kq45 (allS g_b44 all0)
            show Go _ _ _ _ _ T45 (mkF m 240 #[.val (.int p0), .val (.int p1), .val (.int p2), .val (.int p3), .val (.int p4), .val (.int p5), .val (.int (own_min (2 : Int32) (p0 &&& (3 : Int32)))), .val (.ref b2), .val (.ref b36), .val (.int (own_pos p1)), .val (.int (own_pos p2)), .val (.int l2), .val (.int c2), .val (.ref b39), .val (.int (p5 &&& (3 : Int32))), .unset, .unset] [(.ref b44)])
            refine gAstore X45 hx #[.val (.int p0), .val (.int p1), .val (.int p2), .val (.int p3), .val (.int p4), .val (.int p5), .val (.int (own_min (2 : Int32) (p0 &&& (3 : Int32)))), .val (.ref b2), .val (.ref b36), .val (.int (own_pos p1)), .val (.int (own_pos p2)), .val (.int l2), .val (.int c2), .val (.ref b39), .val (.int (p5 &&& (3 : Int32))), .val (.ref b44), .unset] (hb hby at_240) rfl rfl ?_
            refine gIload X45 hx (hb hby at_242) rfl ?_
            refine gIload X45 hx (hb hby at_244) rfl ?_
            refine gIcmp X45 hx 270 (hb hby at_246) (by decide) (by decide) (fun hT => ?_) (fun hT => ?_)
            · have hc46 := o_neT hT
              show Go _ _ _ _ _ T45 (mkF m 270 #[.val (.int p0), .val (.int p1), .val (.int p2), .val (.int p3), .val (.int p4), .val (.int p5), .val (.int (own_min (2 : Int32) (p0 &&& (3 : Int32)))), .val (.ref b2), .val (.ref b36), .val (.int (own_pos p1)), .val (.int (own_pos p2)), .val (.int l2), .val (.int c2), .val (.ref b39), .val (.int (p5 &&& (3 : Int32))), .val (.ref b44), .unset] [])
              refine gIconst X45 hx (0 : Int32) (hb hby at_270) rfl ?_
              refine gIstore X45 hx #[.val (.int p0), .val (.int p1), .val (.int p2), .val (.int p3), .val (.int p4), .val (.int p5), .val (.int (own_min (2 : Int32) (p0 &&& (3 : Int32)))), .val (.ref b2), .val (.ref b36), .val (.int (own_pos p1)), .val (.int (own_pos p2)), .val (.int l2), .val (.int c2), .val (.ref b39), .val (.int (p5 &&& (3 : Int32))), .val (.ref b44), .val (.int (0 : Int32))] (hb hby at_271) rfl ?_
              refine gAload X45 hx (hb hby at_273) rfl rfl ?_
              refine gAload X45 hx (hb hby at_275) rfl rfl ?_
              refine gVirtual X45 hx hZ (y := (⟨"com/example/wee_check/weecheck/source/SourceLocation", "equals", "(Ljava/lang/Object;)Z"⟩ : MethodName)) (a := b39) hown (by decide) (tw hw 56 rfl) (tw hw 57 rfl) (tw hw 58 rfl) (tw hw 59 rfl) (tw hw 39 rfl) (tw hw 60 rfl) Eq40__45 (own_rm8L l Z a0 hw b39 b44 T45.heap n0 Z_45 _ _ _ _ _ _ _ _ _ _ _ _ O_45 z SC hz (Nat.ne_of_lt lt_b39_b44) Eq45 F0q40__45 F1q40__45 F2q40__45 F0q45 F1q45 F2q45 ⟨Eq2__45, Vq2__45, Cq2__45, Aq2__45⟩ ⟨Eq36__45, Vq36__45, Cq36__45, Aq36__45⟩ ok2 ok36) rfl (by rw [hml]; rfl) (argsL := [(.ref b44)]) (rest := []) (W := 0) (lenOf own_pd7 rfl) rfl (Nat.le_of_eq rfl) (by decide) (by decide) (by decide) (by decide) (hb hby at_277) ?_
              rintro _ T47 L47 X47 ⟨rfl, Nq47, e47⟩
              have N_47 := Fr.app N_45 Nq47
              show Go _ _ _ _ _ T47 (mkF m 280 #[.val (.int p0), .val (.int p1), .val (.int p2), .val (.int p3), .val (.int p4), .val (.int p5), .val (.int (own_min (2 : Int32) (p0 &&& (3 : Int32)))), .val (.ref b2), .val (.ref b36), .val (.int (own_pos p1)), .val (.int (own_pos p2)), .val (.int l2), .val (.int c2), .val (.ref b39), .val (.int (p5 &&& (3 : Int32))), .val (.ref b44), .val (.int (0 : Int32))] [(.int (own_sl (own_pos p1) l2 (own_pos p2) c2 cs2 cs36))])
              refine gIload X47 hx (hb hby at_280) rfl ?_
              refine gIcmp X47 hx 301 (hb hby at_282) (by decide) (by decide) (fun q => absurd (own_slL hc46) (o_neT q)) (fun _ => ?_)
              show Go _ _ _ _ _ T47 (mkF m 285 #[.val (.int p0), .val (.int p1), .val (.int p2), .val (.int p3), .val (.int p4), .val (.int p5), .val (.int (own_min (2 : Int32) (p0 &&& (3 : Int32)))), .val (.ref b2), .val (.ref b36), .val (.int (own_pos p1)), .val (.int (own_pos p2)), .val (.int l2), .val (.int c2), .val (.ref b39), .val (.int (p5 &&& (3 : Int32))), .val (.ref b44), .val (.int (0 : Int32))] [])
              refine gAload X47 hx (hb hby at_285) rfl rfl ?_
              refine gAload X47 hx (hb hby at_287) rfl rfl ?_
              refine gVirtual X47 hx hZ (y := (⟨"com/example/wee_check/weecheck/source/SourceLocation", "equals", "(Ljava/lang/Object;)Z"⟩ : MethodName)) (a := b44) hown (by decide) (tw hw 56 rfl) (tw hw 57 rfl) (tw hw 58 rfl) (tw hw 59 rfl) (tw hw 39 rfl) (tw hw 60 rfl) Eq45 (own_rm8L l Z a0 hw b44 b39 T45.heap n0 Z_45 _ _ _ _ _ _ _ _ _ _ _ _ O_45 z SC hz (Ne.symm (Nat.ne_of_lt lt_b39_b44)) Eq40__45 F0q45 F1q45 F2q45 F0q40__45 F1q40__45 F2q40__45 ⟨Eq36__45, Vq36__45, Cq36__45, Aq36__45⟩ ⟨Eq2__45, Vq2__45, Cq2__45, Aq2__45⟩ ok36 ok2) e47 (by rw [hml]; rfl) (argsL := [(.ref b39)]) (rest := []) (W := 0) (lenOf own_pd7 rfl) rfl (Nat.le_of_eq rfl) (by decide) (by decide) (by decide) (by decide) (hb hby at_289) ?_
              rintro _ T48 L48 X48 ⟨rfl, Nq48, e48⟩
              have N_48 := Fr.app N_47 Nq48
              show Go _ _ _ _ _ T48 (mkF m 292 #[.val (.int p0), .val (.int p1), .val (.int p2), .val (.int p3), .val (.int p4), .val (.int p5), .val (.int (own_min (2 : Int32) (p0 &&& (3 : Int32)))), .val (.ref b2), .val (.ref b36), .val (.int (own_pos p1)), .val (.int (own_pos p2)), .val (.int l2), .val (.int c2), .val (.ref b39), .val (.int (p5 &&& (3 : Int32))), .val (.ref b44), .val (.int (0 : Int32))] [(.int (own_sl l2 (own_pos p1) c2 (own_pos p2) cs36 cs2))])
              refine gIload X48 hx (hb hby at_292) rfl ?_
              refine gIcmp X48 hx 301 (hb hby at_294) (by decide) (by decide) (fun q => absurd (own_slL (fun q => hc46 q.symm)) (o_neT q)) (fun _ => ?_)
              show Go _ _ _ _ _ T48 (mkF m 297 #[.val (.int p0), .val (.int p1), .val (.int p2), .val (.int p3), .val (.int p4), .val (.int p5), .val (.int (own_min (2 : Int32) (p0 &&& (3 : Int32)))), .val (.ref b2), .val (.ref b36), .val (.int (own_pos p1)), .val (.int (own_pos p2)), .val (.int l2), .val (.int c2), .val (.ref b39), .val (.int (p5 &&& (3 : Int32))), .val (.ref b44), .val (.int (0 : Int32))] [])
              refine gIconst X48 hx (1 : Int32) (hb hby at_297) rfl ?_
              refine gGoto X48 hx 302 (hb hby at_298) (by decide) (by decide) ?_
              exact gRetZ X48 hx hlk hret (by simp) (hb hby at_302) (z' := (1 : Int32)) rfl (feS hS (by rw [e48]; exact hk) (by decide) (by decide)) ⟨rfl, N_48⟩
            · have hc46 := o_neF hT
              show Go _ _ _ _ _ T45 (mkF m 249 #[.val (.int p0), .val (.int p1), .val (.int p2), .val (.int p3), .val (.int p4), .val (.int p5), .val (.int (own_min (2 : Int32) (p0 &&& (3 : Int32)))), .val (.ref b2), .val (.ref b36), .val (.int (own_pos p1)), .val (.int (own_pos p2)), .val (.int l2), .val (.int c2), .val (.ref b39), .val (.int (p5 &&& (3 : Int32))), .val (.ref b44), .unset] [])
              refine gIload X45 hx (hb hby at_249) rfl ?_
              refine gIload X45 hx (hb hby at_251) rfl ?_
              refine gIcmp X45 hx 270 (hb hby at_253) (by decide) (by decide) (fun hT => ?_) (fun hT => ?_)
              · have hc49 := o_neT hT
                show Go _ _ _ _ _ T45 (mkF m 270 #[.val (.int p0), .val (.int p1), .val (.int p2), .val (.int p3), .val (.int p4), .val (.int p5), .val (.int (own_min (2 : Int32) (p0 &&& (3 : Int32)))), .val (.ref b2), .val (.ref b36), .val (.int (own_pos p1)), .val (.int (own_pos p2)), .val (.int l2), .val (.int c2), .val (.ref b39), .val (.int (p5 &&& (3 : Int32))), .val (.ref b44), .unset] [])
                refine gIconst X45 hx (0 : Int32) (hb hby at_270) rfl ?_
                refine gIstore X45 hx #[.val (.int p0), .val (.int p1), .val (.int p2), .val (.int p3), .val (.int p4), .val (.int p5), .val (.int (own_min (2 : Int32) (p0 &&& (3 : Int32)))), .val (.ref b2), .val (.ref b36), .val (.int (own_pos p1)), .val (.int (own_pos p2)), .val (.int l2), .val (.int c2), .val (.ref b39), .val (.int (p5 &&& (3 : Int32))), .val (.ref b44), .val (.int (0 : Int32))] (hb hby at_271) rfl ?_
                refine gAload X45 hx (hb hby at_273) rfl rfl ?_
                refine gAload X45 hx (hb hby at_275) rfl rfl ?_
                refine gVirtual X45 hx hZ (y := (⟨"com/example/wee_check/weecheck/source/SourceLocation", "equals", "(Ljava/lang/Object;)Z"⟩ : MethodName)) (a := b39) hown (by decide) (tw hw 56 rfl) (tw hw 57 rfl) (tw hw 58 rfl) (tw hw 59 rfl) (tw hw 39 rfl) (tw hw 60 rfl) Eq40__45 (own_rm8L l Z a0 hw b39 b44 T45.heap n0 Z_45 _ _ _ _ _ _ _ _ _ _ _ _ O_45 z SC hz (Nat.ne_of_lt lt_b39_b44) Eq45 F0q40__45 F1q40__45 F2q40__45 F0q45 F1q45 F2q45 ⟨Eq2__45, Vq2__45, Cq2__45, Aq2__45⟩ ⟨Eq36__45, Vq36__45, Cq36__45, Aq36__45⟩ ok2 ok36) rfl (by rw [hml]; rfl) (argsL := [(.ref b44)]) (rest := []) (W := 0) (lenOf own_pd7 rfl) rfl (Nat.le_of_eq rfl) (by decide) (by decide) (by decide) (by decide) (hb hby at_277) ?_
                rintro _ T50 L50 X50 ⟨rfl, Nq50, e50⟩
                have N_50 := Fr.app N_45 Nq50
                show Go _ _ _ _ _ T50 (mkF m 280 #[.val (.int p0), .val (.int p1), .val (.int p2), .val (.int p3), .val (.int p4), .val (.int p5), .val (.int (own_min (2 : Int32) (p0 &&& (3 : Int32)))), .val (.ref b2), .val (.ref b36), .val (.int (own_pos p1)), .val (.int (own_pos p2)), .val (.int l2), .val (.int c2), .val (.ref b39), .val (.int (p5 &&& (3 : Int32))), .val (.ref b44), .val (.int (0 : Int32))] [(.int (own_sl (own_pos p1) l2 (own_pos p2) c2 cs2 cs36))])
                refine gIload X50 hx (hb hby at_280) rfl ?_
                refine gIcmp X50 hx 301 (hb hby at_282) (by decide) (by decide) (fun q => absurd (own_slC hc46 hc49) (o_neT q)) (fun _ => ?_)
                show Go _ _ _ _ _ T50 (mkF m 285 #[.val (.int p0), .val (.int p1), .val (.int p2), .val (.int p3), .val (.int p4), .val (.int p5), .val (.int (own_min (2 : Int32) (p0 &&& (3 : Int32)))), .val (.ref b2), .val (.ref b36), .val (.int (own_pos p1)), .val (.int (own_pos p2)), .val (.int l2), .val (.int c2), .val (.ref b39), .val (.int (p5 &&& (3 : Int32))), .val (.ref b44), .val (.int (0 : Int32))] [])
                refine gAload X50 hx (hb hby at_285) rfl rfl ?_
                refine gAload X50 hx (hb hby at_287) rfl rfl ?_
                refine gVirtual X50 hx hZ (y := (⟨"com/example/wee_check/weecheck/source/SourceLocation", "equals", "(Ljava/lang/Object;)Z"⟩ : MethodName)) (a := b44) hown (by decide) (tw hw 56 rfl) (tw hw 57 rfl) (tw hw 58 rfl) (tw hw 59 rfl) (tw hw 39 rfl) (tw hw 60 rfl) Eq45 (own_rm8L l Z a0 hw b44 b39 T45.heap n0 Z_45 _ _ _ _ _ _ _ _ _ _ _ _ O_45 z SC hz (Ne.symm (Nat.ne_of_lt lt_b39_b44)) Eq40__45 F0q45 F1q45 F2q45 F0q40__45 F1q40__45 F2q40__45 ⟨Eq36__45, Vq36__45, Cq36__45, Aq36__45⟩ ⟨Eq2__45, Vq2__45, Cq2__45, Aq2__45⟩ ok36 ok2) e50 (by rw [hml]; rfl) (argsL := [(.ref b39)]) (rest := []) (W := 0) (lenOf own_pd7 rfl) rfl (Nat.le_of_eq rfl) (by decide) (by decide) (by decide) (by decide) (hb hby at_289) ?_
                rintro _ T51 L51 X51 ⟨rfl, Nq51, e51⟩
                have N_51 := Fr.app N_50 Nq51
                show Go _ _ _ _ _ T51 (mkF m 292 #[.val (.int p0), .val (.int p1), .val (.int p2), .val (.int p3), .val (.int p4), .val (.int p5), .val (.int (own_min (2 : Int32) (p0 &&& (3 : Int32)))), .val (.ref b2), .val (.ref b36), .val (.int (own_pos p1)), .val (.int (own_pos p2)), .val (.int l2), .val (.int c2), .val (.ref b39), .val (.int (p5 &&& (3 : Int32))), .val (.ref b44), .val (.int (0 : Int32))] [(.int (own_sl l2 (own_pos p1) c2 (own_pos p2) cs36 cs2))])
                refine gIload X51 hx (hb hby at_292) rfl ?_
                refine gIcmp X51 hx 301 (hb hby at_294) (by decide) (by decide) (fun q => absurd (own_slC hc46.symm (fun q => hc49 q.symm)) (o_neT q)) (fun _ => ?_)
                show Go _ _ _ _ _ T51 (mkF m 297 #[.val (.int p0), .val (.int p1), .val (.int p2), .val (.int p3), .val (.int p4), .val (.int p5), .val (.int (own_min (2 : Int32) (p0 &&& (3 : Int32)))), .val (.ref b2), .val (.ref b36), .val (.int (own_pos p1)), .val (.int (own_pos p2)), .val (.int l2), .val (.int c2), .val (.ref b39), .val (.int (p5 &&& (3 : Int32))), .val (.ref b44), .val (.int (0 : Int32))] [])
                refine gIconst X51 hx (1 : Int32) (hb hby at_297) rfl ?_
                refine gGoto X51 hx 302 (hb hby at_298) (by decide) (by decide) ?_
                exact gRetZ X51 hx hlk hret (by simp) (hb hby at_302) (z' := (1 : Int32)) rfl (feS hS (by rw [e51]; exact hk) (by decide) (by decide)) ⟨rfl, N_51⟩
              · have hc49 := o_neF hT
                show Go _ _ _ _ _ T45 (mkF m 256 #[.val (.int p0), .val (.int p1), .val (.int p2), .val (.int p3), .val (.int p4), .val (.int p5), .val (.int (own_min (2 : Int32) (p0 &&& (3 : Int32)))), .val (.ref b2), .val (.ref b36), .val (.int (own_pos p1)), .val (.int (own_pos p2)), .val (.int l2), .val (.int c2), .val (.ref b39), .val (.int (p5 &&& (3 : Int32))), .val (.ref b44), .unset] [])
                refine gAload X45 hx (hb hby at_256) rfl rfl ?_
                refine gAload X45 hx (hb hby at_258) rfl rfl ?_
                refine gStrEq X45 hx hZ (W := 0) hown (tw hw 76 rfl) (tw hw 77 rfl) (tw hw 78 rfl) (tw hw 79 rfl) (fun d hd => hw d ((by decide +kernel : ∀ d ∈ StrChars.Road.wordsEq, d ∈ tables_1) d hd)) (kI := 4) (tw hw 9 rfl) ⟨Eq2__45, Vq2__45, Cq2__45, Aq2__45⟩ ⟨Eq36__45, Vq36__45, Cq36__45, Aq36__45⟩ ok2 ok36 (SC.ext O_45.2) hz (by decide) (by decide) rfl (by rw [hml]; rfl) (lenOf own_pd7 rfl) (Nat.le_of_eq rfl) (by decide) (by decide) (hb hby at_260) ?_
                intro T52 X52 e52
                show Go _ _ _ _ _ T52 (mkF m 263 #[.val (.int p0), .val (.int p1), .val (.int p2), .val (.int p3), .val (.int p4), .val (.int p5), .val (.int (own_min (2 : Int32) (p0 &&& (3 : Int32)))), .val (.ref b2), .val (.ref b36), .val (.int (own_pos p1)), .val (.int (own_pos p2)), .val (.int l2), .val (.int c2), .val (.ref b39), .val (.int (p5 &&& (3 : Int32))), .val (.ref b44), .unset] [(.int (if cs2 = cs36 then (1 : Int32) else (0 : Int32)))])
                refine gIf X52 hx 270 (hb hby at_263) (by decide) (by decide) (fun hT => ?_) (fun hT => ?_)
                · have hc53 := o_eqT hT
                  show Go _ _ _ _ _ T52 (mkF m 270 #[.val (.int p0), .val (.int p1), .val (.int p2), .val (.int p3), .val (.int p4), .val (.int p5), .val (.int (own_min (2 : Int32) (p0 &&& (3 : Int32)))), .val (.ref b2), .val (.ref b36), .val (.int (own_pos p1)), .val (.int (own_pos p2)), .val (.int l2), .val (.int c2), .val (.ref b39), .val (.int (p5 &&& (3 : Int32))), .val (.ref b44), .unset] [])
                  refine gIconst X52 hx (0 : Int32) (hb hby at_270) rfl ?_
                  refine gIstore X52 hx #[.val (.int p0), .val (.int p1), .val (.int p2), .val (.int p3), .val (.int p4), .val (.int p5), .val (.int (own_min (2 : Int32) (p0 &&& (3 : Int32)))), .val (.ref b2), .val (.ref b36), .val (.int (own_pos p1)), .val (.int (own_pos p2)), .val (.int l2), .val (.int c2), .val (.ref b39), .val (.int (p5 &&& (3 : Int32))), .val (.ref b44), .val (.int (0 : Int32))] (hb hby at_271) rfl ?_
                  refine gAload X52 hx (hb hby at_273) rfl rfl ?_
                  refine gAload X52 hx (hb hby at_275) rfl rfl ?_
                  refine gVirtual X52 hx hZ (y := (⟨"com/example/wee_check/weecheck/source/SourceLocation", "equals", "(Ljava/lang/Object;)Z"⟩ : MethodName)) (a := b39) hown (by decide) (tw hw 56 rfl) (tw hw 57 rfl) (tw hw 58 rfl) (tw hw 59 rfl) (tw hw 39 rfl) (tw hw 60 rfl) Eq40__45 (own_rm8L l Z a0 hw b39 b44 T45.heap n0 Z_45 _ _ _ _ _ _ _ _ _ _ _ _ O_45 z SC hz (Nat.ne_of_lt lt_b39_b44) Eq45 F0q40__45 F1q40__45 F2q40__45 F0q45 F1q45 F2q45 ⟨Eq2__45, Vq2__45, Cq2__45, Aq2__45⟩ ⟨Eq36__45, Vq36__45, Cq36__45, Aq36__45⟩ ok2 ok36) e52 (by rw [hml]; rfl) (argsL := [(.ref b44)]) (rest := []) (W := 0) (lenOf own_pd7 rfl) rfl (Nat.le_of_eq rfl) (by decide) (by decide) (by decide) (by decide) (hb hby at_277) ?_
                  rintro _ T54 L54 X54 ⟨rfl, Nq54, e54⟩
                  have N_54 := Fr.app N_45 Nq54
                  show Go _ _ _ _ _ T54 (mkF m 280 #[.val (.int p0), .val (.int p1), .val (.int p2), .val (.int p3), .val (.int p4), .val (.int p5), .val (.int (own_min (2 : Int32) (p0 &&& (3 : Int32)))), .val (.ref b2), .val (.ref b36), .val (.int (own_pos p1)), .val (.int (own_pos p2)), .val (.int l2), .val (.int c2), .val (.ref b39), .val (.int (p5 &&& (3 : Int32))), .val (.ref b44), .val (.int (0 : Int32))] [(.int (own_sl (own_pos p1) l2 (own_pos p2) c2 cs2 cs36))])
                  refine gIload X54 hx (hb hby at_280) rfl ?_
                  refine gIcmp X54 hx 301 (hb hby at_282) (by decide) (by decide) (fun q => absurd (own_slS hc46 hc49 (own_if0 hc53)) (o_neT q)) (fun _ => ?_)
                  show Go _ _ _ _ _ T54 (mkF m 285 #[.val (.int p0), .val (.int p1), .val (.int p2), .val (.int p3), .val (.int p4), .val (.int p5), .val (.int (own_min (2 : Int32) (p0 &&& (3 : Int32)))), .val (.ref b2), .val (.ref b36), .val (.int (own_pos p1)), .val (.int (own_pos p2)), .val (.int l2), .val (.int c2), .val (.ref b39), .val (.int (p5 &&& (3 : Int32))), .val (.ref b44), .val (.int (0 : Int32))] [])
                  refine gAload X54 hx (hb hby at_285) rfl rfl ?_
                  refine gAload X54 hx (hb hby at_287) rfl rfl ?_
                  refine gVirtual X54 hx hZ (y := (⟨"com/example/wee_check/weecheck/source/SourceLocation", "equals", "(Ljava/lang/Object;)Z"⟩ : MethodName)) (a := b44) hown (by decide) (tw hw 56 rfl) (tw hw 57 rfl) (tw hw 58 rfl) (tw hw 59 rfl) (tw hw 39 rfl) (tw hw 60 rfl) Eq45 (own_rm8L l Z a0 hw b44 b39 T45.heap n0 Z_45 _ _ _ _ _ _ _ _ _ _ _ _ O_45 z SC hz (Ne.symm (Nat.ne_of_lt lt_b39_b44)) Eq40__45 F0q45 F1q45 F2q45 F0q40__45 F1q40__45 F2q40__45 ⟨Eq36__45, Vq36__45, Cq36__45, Aq36__45⟩ ⟨Eq2__45, Vq2__45, Cq2__45, Aq2__45⟩ ok36 ok2) e54 (by rw [hml]; rfl) (argsL := [(.ref b39)]) (rest := []) (W := 0) (lenOf own_pd7 rfl) rfl (Nat.le_of_eq rfl) (by decide) (by decide) (by decide) (by decide) (hb hby at_289) ?_
                  rintro _ T55 L55 X55 ⟨rfl, Nq55, e55⟩
                  have N_55 := Fr.app N_54 Nq55
                  show Go _ _ _ _ _ T55 (mkF m 292 #[.val (.int p0), .val (.int p1), .val (.int p2), .val (.int p3), .val (.int p4), .val (.int p5), .val (.int (own_min (2 : Int32) (p0 &&& (3 : Int32)))), .val (.ref b2), .val (.ref b36), .val (.int (own_pos p1)), .val (.int (own_pos p2)), .val (.int l2), .val (.int c2), .val (.ref b39), .val (.int (p5 &&& (3 : Int32))), .val (.ref b44), .val (.int (0 : Int32))] [(.int (own_sl l2 (own_pos p1) c2 (own_pos p2) cs36 cs2))])
                  refine gIload X55 hx (hb hby at_292) rfl ?_
                  refine gIcmp X55 hx 301 (hb hby at_294) (by decide) (by decide) (fun q => absurd (own_slS hc46.symm hc49.symm (fun q => own_if0 hc53 q.symm)) (o_neT q)) (fun _ => ?_)
                  show Go _ _ _ _ _ T55 (mkF m 297 #[.val (.int p0), .val (.int p1), .val (.int p2), .val (.int p3), .val (.int p4), .val (.int p5), .val (.int (own_min (2 : Int32) (p0 &&& (3 : Int32)))), .val (.ref b2), .val (.ref b36), .val (.int (own_pos p1)), .val (.int (own_pos p2)), .val (.int l2), .val (.int c2), .val (.ref b39), .val (.int (p5 &&& (3 : Int32))), .val (.ref b44), .val (.int (0 : Int32))] [])
                  refine gIconst X55 hx (1 : Int32) (hb hby at_297) rfl ?_
                  refine gGoto X55 hx 302 (hb hby at_298) (by decide) (by decide) ?_
                  exact gRetZ X55 hx hlk hret (by simp) (hb hby at_302) (z' := (1 : Int32)) rfl (feS hS (by rw [e55]; exact hk) (by decide) (by decide)) ⟨rfl, N_55⟩
                · have hc53 := o_eqF hT
                  show Go _ _ _ _ _ T52 (mkF m 266 #[.val (.int p0), .val (.int p1), .val (.int p2), .val (.int p3), .val (.int p4), .val (.int p5), .val (.int (own_min (2 : Int32) (p0 &&& (3 : Int32)))), .val (.ref b2), .val (.ref b36), .val (.int (own_pos p1)), .val (.int (own_pos p2)), .val (.int l2), .val (.int c2), .val (.ref b39), .val (.int (p5 &&& (3 : Int32))), .val (.ref b44), .unset] [])
                  refine gIconst X52 hx (1 : Int32) (hb hby at_266) rfl ?_
                  refine gGoto X52 hx 271 (hb hby at_267) (by decide) (by decide) ?_
                  refine gIstore X52 hx #[.val (.int p0), .val (.int p1), .val (.int p2), .val (.int p3), .val (.int p4), .val (.int p5), .val (.int (own_min (2 : Int32) (p0 &&& (3 : Int32)))), .val (.ref b2), .val (.ref b36), .val (.int (own_pos p1)), .val (.int (own_pos p2)), .val (.int l2), .val (.int c2), .val (.ref b39), .val (.int (p5 &&& (3 : Int32))), .val (.ref b44), .val (.int (1 : Int32))] (hb hby at_271) rfl ?_
                  refine gAload X52 hx (hb hby at_273) rfl rfl ?_
                  refine gAload X52 hx (hb hby at_275) rfl rfl ?_
                  refine gVirtual X52 hx hZ (y := (⟨"com/example/wee_check/weecheck/source/SourceLocation", "equals", "(Ljava/lang/Object;)Z"⟩ : MethodName)) (a := b39) hown (by decide) (tw hw 56 rfl) (tw hw 57 rfl) (tw hw 58 rfl) (tw hw 59 rfl) (tw hw 39 rfl) (tw hw 60 rfl) Eq40__45 (own_rm8L l Z a0 hw b39 b44 T45.heap n0 Z_45 _ _ _ _ _ _ _ _ _ _ _ _ O_45 z SC hz (Nat.ne_of_lt lt_b39_b44) Eq45 F0q40__45 F1q40__45 F2q40__45 F0q45 F1q45 F2q45 ⟨Eq2__45, Vq2__45, Cq2__45, Aq2__45⟩ ⟨Eq36__45, Vq36__45, Cq36__45, Aq36__45⟩ ok2 ok36) e52 (by rw [hml]; rfl) (argsL := [(.ref b44)]) (rest := []) (W := 0) (lenOf own_pd7 rfl) rfl (Nat.le_of_eq rfl) (by decide) (by decide) (by decide) (by decide) (hb hby at_277) ?_
                  rintro _ T56 L56 X56 ⟨rfl, Nq56, e56⟩
                  have N_56 := Fr.app N_45 Nq56
                  show Go _ _ _ _ _ T56 (mkF m 280 #[.val (.int p0), .val (.int p1), .val (.int p2), .val (.int p3), .val (.int p4), .val (.int p5), .val (.int (own_min (2 : Int32) (p0 &&& (3 : Int32)))), .val (.ref b2), .val (.ref b36), .val (.int (own_pos p1)), .val (.int (own_pos p2)), .val (.int l2), .val (.int c2), .val (.ref b39), .val (.int (p5 &&& (3 : Int32))), .val (.ref b44), .val (.int (1 : Int32))] [(.int (own_sl (own_pos p1) l2 (own_pos p2) c2 cs2 cs36))])
                  refine gIload X56 hx (hb hby at_280) rfl ?_
                  refine gIcmp X56 hx 301 (hb hby at_282) (by decide) (by decide) (fun q => absurd (own_slT hc46 hc49 (own_if1 hc53)) (o_neT q)) (fun _ => ?_)
                  show Go _ _ _ _ _ T56 (mkF m 285 #[.val (.int p0), .val (.int p1), .val (.int p2), .val (.int p3), .val (.int p4), .val (.int p5), .val (.int (own_min (2 : Int32) (p0 &&& (3 : Int32)))), .val (.ref b2), .val (.ref b36), .val (.int (own_pos p1)), .val (.int (own_pos p2)), .val (.int l2), .val (.int c2), .val (.ref b39), .val (.int (p5 &&& (3 : Int32))), .val (.ref b44), .val (.int (1 : Int32))] [])
                  refine gAload X56 hx (hb hby at_285) rfl rfl ?_
                  refine gAload X56 hx (hb hby at_287) rfl rfl ?_
                  refine gVirtual X56 hx hZ (y := (⟨"com/example/wee_check/weecheck/source/SourceLocation", "equals", "(Ljava/lang/Object;)Z"⟩ : MethodName)) (a := b44) hown (by decide) (tw hw 56 rfl) (tw hw 57 rfl) (tw hw 58 rfl) (tw hw 59 rfl) (tw hw 39 rfl) (tw hw 60 rfl) Eq45 (own_rm8L l Z a0 hw b44 b39 T45.heap n0 Z_45 _ _ _ _ _ _ _ _ _ _ _ _ O_45 z SC hz (Ne.symm (Nat.ne_of_lt lt_b39_b44)) Eq40__45 F0q45 F1q45 F2q45 F0q40__45 F1q40__45 F2q40__45 ⟨Eq36__45, Vq36__45, Cq36__45, Aq36__45⟩ ⟨Eq2__45, Vq2__45, Cq2__45, Aq2__45⟩ ok36 ok2) e56 (by rw [hml]; rfl) (argsL := [(.ref b39)]) (rest := []) (W := 0) (lenOf own_pd7 rfl) rfl (Nat.le_of_eq rfl) (by decide) (by decide) (by decide) (by decide) (hb hby at_289) ?_
                  rintro _ T57 L57 X57 ⟨rfl, Nq57, e57⟩
                  have N_57 := Fr.app N_56 Nq57
                  show Go _ _ _ _ _ T57 (mkF m 292 #[.val (.int p0), .val (.int p1), .val (.int p2), .val (.int p3), .val (.int p4), .val (.int p5), .val (.int (own_min (2 : Int32) (p0 &&& (3 : Int32)))), .val (.ref b2), .val (.ref b36), .val (.int (own_pos p1)), .val (.int (own_pos p2)), .val (.int l2), .val (.int c2), .val (.ref b39), .val (.int (p5 &&& (3 : Int32))), .val (.ref b44), .val (.int (1 : Int32))] [(.int (own_sl l2 (own_pos p1) c2 (own_pos p2) cs36 cs2))])
                  refine gIload X57 hx (hb hby at_292) rfl ?_
                  refine gIcmp X57 hx 301 (hb hby at_294) (by decide) (by decide) (fun q => absurd (own_slT hc46.symm hc49.symm (own_if1 hc53).symm) (o_neT q)) (fun _ => ?_)
                  show Go _ _ _ _ _ T57 (mkF m 297 #[.val (.int p0), .val (.int p1), .val (.int p2), .val (.int p3), .val (.int p4), .val (.int p5), .val (.int (own_min (2 : Int32) (p0 &&& (3 : Int32)))), .val (.ref b2), .val (.ref b36), .val (.int (own_pos p1)), .val (.int (own_pos p2)), .val (.int l2), .val (.int c2), .val (.ref b39), .val (.int (p5 &&& (3 : Int32))), .val (.ref b44), .val (.int (1 : Int32))] [])
                  refine gIconst X57 hx (1 : Int32) (hb hby at_297) rfl ?_
                  refine gGoto X57 hx 302 (hb hby at_298) (by decide) (by decide) ?_
                  exact gRetZ X57 hx hlk hret (by simp) (hb hby at_302) (z' := (1 : Int32)) rfl (feS hS (by rw [e57]; exact hk) (by decide) (by decide)) ⟨rfl, N_57⟩
          · have hc43 := o_neF hT
            show Go _ _ _ _ _ T40 (mkF m 211 #[.val (.int p0), .val (.int p1), .val (.int p2), .val (.int p3), .val (.int p4), .val (.int p5), .val (.int (own_min (2 : Int32) (p0 &&& (3 : Int32)))), .val (.ref b2), .val (.ref b36), .val (.int (own_pos p1)), .val (.int (own_pos p2)), .val (.int l2), .val (.int c2), .val (.ref b39), .val (.int (p5 &&& (3 : Int32))), .unset, .unset] [])
            refine gAload X40 hx (hb hby at_211) rfl rfl ?_
            refine gAload X40 hx (hb hby at_213) rfl rfl ?_
            refine gVirtual X40 hx hZ (y := (⟨"com/example/wee_check/weecheck/source/SourceLocation", "equals", "(Ljava/lang/Object;)Z"⟩ : MethodName)) (a := b39) hown (by decide) (tw hw 56 rfl) (tw hw 57 rfl) (tw hw 58 rfl) (tw hw 59 rfl) (tw hw 39 rfl) (tw hw 60 rfl) Eq40 (own_rm8S l Z a0 hw b39 b2 T40.heap n0 Z_40 (Ne.symm (Nat.ne_of_lt lt_b2_b39)) Eq2__40) rfl (by rw [hml]; rfl) (argsL := [(.ref b2)]) (rest := []) (W := 0) (lenOf own_pd7 rfl) rfl (Nat.le_of_eq rfl) (by decide) (by decide) (by decide) (by decide) (hb hby at_215) ?_
            rintro _ T58 L58 X58 ⟨rfl, Nq58, e58⟩
            have N_58 := Fr.app N_40 Nq58
            show Go _ _ _ _ _ T58 (mkF m 218 #[.val (.int p0), .val (.int p1), .val (.int p2), .val (.int p3), .val (.int p4), .val (.int p5), .val (.int (own_min (2 : Int32) (p0 &&& (3 : Int32)))), .val (.ref b2), .val (.ref b36), .val (.int (own_pos p1)), .val (.int (own_pos p2)), .val (.int l2), .val (.int c2), .val (.ref b39), .val (.int (p5 &&& (3 : Int32))), .unset, .unset] [(.int (0 : Int32))])
            refine gIf X58 hx 225 (hb hby at_218) (by decide) (by decide) (fun q => absurd (by decide) (o_neT q)) (fun _ => ?_)
            show Go _ _ _ _ _ T58 (mkF m 221 #[.val (.int p0), .val (.int p1), .val (.int p2), .val (.int p3), .val (.int p4), .val (.int p5), .val (.int (own_min (2 : Int32) (p0 &&& (3 : Int32)))), .val (.ref b2), .val (.ref b36), .val (.int (own_pos p1)), .val (.int (own_pos p2)), .val (.int l2), .val (.int c2), .val (.ref b39), .val (.int (p5 &&& (3 : Int32))), .unset, .unset] [])
            refine gIconst X58 hx (1 : Int32) (hb hby at_221) rfl ?_
            refine gGoto X58 hx 226 (hb hby at_222) (by decide) (by decide) ?_
            exact gRetZ X58 hx hlk hret (by simp) (hb hby at_226) (z' := (1 : Int32)) rfl (feS hS (by rw [e58]; exact hk) (by decide) (by decide)) ⟨rfl, N_58⟩
        · have hc42 := o_neF hT
          show Go _ _ _ _ _ T40 (mkF m 190 #[.val (.int p0), .val (.int p1), .val (.int p2), .val (.int p3), .val (.int p4), .val (.int p5), .val (.int (own_min (2 : Int32) (p0 &&& (3 : Int32)))), .val (.ref b2), .val (.ref b36), .val (.int (own_pos p1)), .val (.int (own_pos p2)), .val (.int l2), .val (.int c2), .val (.ref b39), .val (.int (p5 &&& (3 : Int32))), .unset, .unset] [])
          refine gAload X40 hx (hb hby at_190) rfl rfl ?_
          refine gNull X40 hx (hb hby at_192) ?_
          refine gVirtual X40 hx hZ (y := (⟨"com/example/wee_check/weecheck/source/SourceLocation", "equals", "(Ljava/lang/Object;)Z"⟩ : MethodName)) (a := b39) hown (by decide) (tw hw 56 rfl) (tw hw 57 rfl) (tw hw 58 rfl) (tw hw 59 rfl) (tw hw 39 rfl) (tw hw 60 rfl) Eq40 (own_rm8N l Z a0 hw b39 T40.heap n0 Z_40) rfl (by rw [hml]; rfl) (argsL := [.null]) (rest := []) (W := 0) (lenOf own_pd7 rfl) rfl (Nat.le_of_eq rfl) (by decide) (by decide) (by decide) (by decide) (hb hby at_193) ?_
          rintro _ T59 L59 X59 ⟨rfl, Nq59, e59⟩
          have N_59 := Fr.app N_40 Nq59
          show Go _ _ _ _ _ T59 (mkF m 196 #[.val (.int p0), .val (.int p1), .val (.int p2), .val (.int p3), .val (.int p4), .val (.int p5), .val (.int (own_min (2 : Int32) (p0 &&& (3 : Int32)))), .val (.ref b2), .val (.ref b36), .val (.int (own_pos p1)), .val (.int (own_pos p2)), .val (.int l2), .val (.int c2), .val (.ref b39), .val (.int (p5 &&& (3 : Int32))), .unset, .unset] [(.int (0 : Int32))])
          refine gIf X59 hx 203 (hb hby at_196) (by decide) (by decide) (fun q => absurd (by decide) (o_neT q)) (fun _ => ?_)
          show Go _ _ _ _ _ T59 (mkF m 199 #[.val (.int p0), .val (.int p1), .val (.int p2), .val (.int p3), .val (.int p4), .val (.int p5), .val (.int (own_min (2 : Int32) (p0 &&& (3 : Int32)))), .val (.ref b2), .val (.ref b36), .val (.int (own_pos p1)), .val (.int (own_pos p2)), .val (.int l2), .val (.int c2), .val (.ref b39), .val (.int (p5 &&& (3 : Int32))), .unset, .unset] [])
          refine gIconst X59 hx (1 : Int32) (hb hby at_199) rfl ?_
          refine gGoto X59 hx 204 (hb hby at_200) (by decide) (by decide) ?_
          exact gRetZ X59 hx hlk hret (by simp) (hb hby at_204) (z' := (1 : Int32)) rfl (feS hS (by rw [e59]; exact hk) (by decide) (by decide)) ⟨rfl, N_59⟩
      · have hc41 := o_neF hT
        show Go _ _ _ _ _ T40 (mkF m 176 #[.val (.int p0), .val (.int p1), .val (.int p2), .val (.int p3), .val (.int p4), .val (.int p5), .val (.int (own_min (2 : Int32) (p0 &&& (3 : Int32)))), .val (.ref b2), .val (.ref b36), .val (.int (own_pos p1)), .val (.int (own_pos p2)), .val (.int l2), .val (.int c2), .val (.ref b39), .val (.int (p5 &&& (3 : Int32))), .unset, .unset] [])
        refine gAload X40 hx (hb hby at_176) rfl rfl ?_
        refine gAload X40 hx (hb hby at_178) rfl rfl ?_
        refine gVirtual X40 hx hZ (y := (⟨"com/example/wee_check/weecheck/source/SourceLocation", "equals", "(Ljava/lang/Object;)Z"⟩ : MethodName)) (a := b39) hown (by decide) (tw hw 56 rfl) (tw hw 57 rfl) (tw hw 58 rfl) (tw hw 59 rfl) (tw hw 39 rfl) (tw hw 60 rfl) Eq40 (own_rm8A l Z a0 hw b39 T40.heap n0 Z_40) rfl (by rw [hml]; rfl) (argsL := [(.ref b39)]) (rest := []) (W := 0) (lenOf own_pd7 rfl) rfl (Nat.le_of_eq rfl) (by decide) (by decide) (by decide) (by decide) (hb hby at_180) ?_
        rintro _ T60 L60 X60 ⟨rfl, Nq60, e60⟩
        have N_60 := Fr.app N_40 Nq60
        show Go _ _ _ _ _ T60 (mkF m 183 #[.val (.int p0), .val (.int p1), .val (.int p2), .val (.int p3), .val (.int p4), .val (.int p5), .val (.int (own_min (2 : Int32) (p0 &&& (3 : Int32)))), .val (.ref b2), .val (.ref b36), .val (.int (own_pos p1)), .val (.int (own_pos p2)), .val (.int l2), .val (.int c2), .val (.ref b39), .val (.int (p5 &&& (3 : Int32))), .unset, .unset] [(.int (1 : Int32))])
        exact gRetZ X60 hx hlk hret (by simp) (hb hby at_183) (z' := (1 : Int32)) rfl (feS hS (by rw [e60]; exact hk) (by decide) (by decide)) ⟨rfl, N_60⟩
    refine gIload X38 hx (hb hby at_108) rfl ?_
    refine gIconst X38 hx (2 : Int32) (hb hby at_110) rfl ?_
    refine gIushr X38 hx (hb hby at_111) ?_
    refine gIconst X38 hx (1 : Int32) (hb hby at_112) rfl ?_
    refine gIand X38 hx (hb hby at_113) ?_
    refine gIf X38 hx 122 (hb hby at_114) (by decide) (by decide) (fun hT => ?_) (fun hT => ?_)
    · have hc61 := o_eqT hT
      show Go _ _ _ _ _ T38 (mkF m 122 #[.val (.int p0), .val (.int p1), .val (.int p2), .val (.int p3), .val (.int p4), .val (.int p5), .val (.int (own_min (2 : Int32) (p0 &&& (3 : Int32)))), .val (.ref b2), .val (.ref b36), .val (.int (own_pos p1)), .val (.int (own_pos p2)), .unset, .unset, .unset, .unset, .unset, .unset] [])
      refine gIloadN X38 hx (hb hby at_122) rfl ?_
      refine gStatic X38 hx hZ (y := (⟨"com/example/wee_check/weecheck/source/SourceLocationEqualsPinLaw", "pos", "(I)I"⟩ : MethodName)) hown (by decide) (tw hw 30 rfl) (tw hw 31 rfl) (tw hw 6 rfl) (tw hw 32 rfl) (own_rm5 l Z a0 hw p3 T36.heap n0 Z_36) e38 (by rw [hml]; rfl) (argsL := [(.int p3)]) (rest := []) (W := 0) (lenOf own_pd4 rfl) rfl (Nat.le_of_eq rfl) (by decide) (by decide) (by decide) (by decide) (hb hby at_123) ?_
      rintro _ T62 L62 X62 ⟨rfl, Nq62, e62⟩
      have N_62 := Fr.app N_38 Nq62
      show Go _ _ _ _ _ T62 (mkF m 126 #[.val (.int p0), .val (.int p1), .val (.int p2), .val (.int p3), .val (.int p4), .val (.int p5), .val (.int (own_min (2 : Int32) (p0 &&& (3 : Int32)))), .val (.ref b2), .val (.ref b36), .val (.int (own_pos p1)), .val (.int (own_pos p2)), .unset, .unset, .unset, .unset, .unset, .unset] [(.int (own_pos p3))])
      refine gIstore X62 hx #[.val (.int p0), .val (.int p1), .val (.int p2), .val (.int p3), .val (.int p4), .val (.int p5), .val (.int (own_min (2 : Int32) (p0 &&& (3 : Int32)))), .val (.ref b2), .val (.ref b36), .val (.int (own_pos p1)), .val (.int (own_pos p2)), .val (.int (own_pos p3)), .unset, .unset, .unset, .unset, .unset] (hb hby at_126) rfl ?_
      refine gIload X62 hx (hb hby at_128) rfl ?_
      refine gIconst X62 hx (3 : Int32) (hb hby at_130) rfl ?_
      refine gIushr X62 hx (hb hby at_131) ?_
      refine gIconst X62 hx (1 : Int32) (hb hby at_132) rfl ?_
      refine gIand X62 hx (hb hby at_133) ?_
      refine gIf X62 hx 142 (hb hby at_134) (by decide) (by decide) (fun hT => ?_) (fun hT => ?_)
      · have hc63 := o_eqT hT
        show Go _ _ _ _ _ T62 (mkF m 142 #[.val (.int p0), .val (.int p1), .val (.int p2), .val (.int p3), .val (.int p4), .val (.int p5), .val (.int (own_min (2 : Int32) (p0 &&& (3 : Int32)))), .val (.ref b2), .val (.ref b36), .val (.int (own_pos p1)), .val (.int (own_pos p2)), .val (.int (own_pos p3)), .unset, .unset, .unset, .unset, .unset] [])
        refine gIload X62 hx (hb hby at_142) rfl ?_
        refine gStatic X62 hx hZ (y := (⟨"com/example/wee_check/weecheck/source/SourceLocationEqualsPinLaw", "pos", "(I)I"⟩ : MethodName)) hown (by decide) (tw hw 30 rfl) (tw hw 31 rfl) (tw hw 6 rfl) (tw hw 32 rfl) (own_rm5 l Z a0 hw p4 T36.heap n0 Z_36) e62 (by rw [hml]; rfl) (argsL := [(.int p4)]) (rest := []) (W := 0) (lenOf own_pd4 rfl) rfl (Nat.le_of_eq rfl) (by decide) (by decide) (by decide) (by decide) (hb hby at_144) ?_
        rintro _ T64 L64 X64 ⟨rfl, Nq64, e64⟩
        have N_64 := Fr.app N_62 Nq64
        show Go _ _ _ _ _ T64 (mkF m 147 #[.val (.int p0), .val (.int p1), .val (.int p2), .val (.int p3), .val (.int p4), .val (.int p5), .val (.int (own_min (2 : Int32) (p0 &&& (3 : Int32)))), .val (.ref b2), .val (.ref b36), .val (.int (own_pos p1)), .val (.int (own_pos p2)), .val (.int (own_pos p3)), .unset, .unset, .unset, .unset, .unset] [(.int (own_pos p4))])
        refine gIstore X64 hx #[.val (.int p0), .val (.int p1), .val (.int p2), .val (.int p3), .val (.int p4), .val (.int p5), .val (.int (own_min (2 : Int32) (p0 &&& (3 : Int32)))), .val (.ref b2), .val (.ref b36), .val (.int (own_pos p1)), .val (.int (own_pos p2)), .val (.int (own_pos p3)), .val (.int (own_pos p4)), .unset, .unset, .unset, .unset] (hb hby at_147) rfl ?_
        exact B149 T64 _ (own_pos p3) (own_pos p4) X64 e64 N_64 (own_pos1 _) (own_pos1 _)
      · have hc63 := o_eqF hT
        show Go _ _ _ _ _ T62 (mkF m 137 #[.val (.int p0), .val (.int p1), .val (.int p2), .val (.int p3), .val (.int p4), .val (.int p5), .val (.int (own_min (2 : Int32) (p0 &&& (3 : Int32)))), .val (.ref b2), .val (.ref b36), .val (.int (own_pos p1)), .val (.int (own_pos p2)), .val (.int (own_pos p3)), .unset, .unset, .unset, .unset, .unset] [])
        refine gIload X62 hx (hb hby at_137) rfl ?_
        refine gGoto X62 hx 147 (hb hby at_139) (by decide) (by decide) ?_
        refine gIstore X62 hx #[.val (.int p0), .val (.int p1), .val (.int p2), .val (.int p3), .val (.int p4), .val (.int p5), .val (.int (own_min (2 : Int32) (p0 &&& (3 : Int32)))), .val (.ref b2), .val (.ref b36), .val (.int (own_pos p1)), .val (.int (own_pos p2)), .val (.int (own_pos p3)), .val (.int (own_pos p2)), .unset, .unset, .unset, .unset] (hb hby at_147) rfl ?_
        exact B149 T62 _ (own_pos p3) (own_pos p2) X62 e62 N_62 (own_pos1 _) (own_pos1 _)
    · have hc61 := o_eqF hT
      show Go _ _ _ _ _ T38 (mkF m 117 #[.val (.int p0), .val (.int p1), .val (.int p2), .val (.int p3), .val (.int p4), .val (.int p5), .val (.int (own_min (2 : Int32) (p0 &&& (3 : Int32)))), .val (.ref b2), .val (.ref b36), .val (.int (own_pos p1)), .val (.int (own_pos p2)), .unset, .unset, .unset, .unset, .unset, .unset] [])
      refine gIload X38 hx (hb hby at_117) rfl ?_
      refine gGoto X38 hx 126 (hb hby at_119) (by decide) (by decide) ?_
      refine gIstore X38 hx #[.val (.int p0), .val (.int p1), .val (.int p2), .val (.int p3), .val (.int p4), .val (.int p5), .val (.int (own_min (2 : Int32) (p0 &&& (3 : Int32)))), .val (.ref b2), .val (.ref b36), .val (.int (own_pos p1)), .val (.int (own_pos p2)), .val (.int (own_pos p1)), .unset, .unset, .unset, .unset, .unset] (hb hby at_126) rfl ?_
      refine gIload X38 hx (hb hby at_128) rfl ?_
      refine gIconst X38 hx (3 : Int32) (hb hby at_130) rfl ?_
      refine gIushr X38 hx (hb hby at_131) ?_
      refine gIconst X38 hx (1 : Int32) (hb hby at_132) rfl ?_
      refine gIand X38 hx (hb hby at_133) ?_
      refine gIf X38 hx 142 (hb hby at_134) (by decide) (by decide) (fun hT => ?_) (fun hT => ?_)
      · have hc65 := o_eqT hT
        show Go _ _ _ _ _ T38 (mkF m 142 #[.val (.int p0), .val (.int p1), .val (.int p2), .val (.int p3), .val (.int p4), .val (.int p5), .val (.int (own_min (2 : Int32) (p0 &&& (3 : Int32)))), .val (.ref b2), .val (.ref b36), .val (.int (own_pos p1)), .val (.int (own_pos p2)), .val (.int (own_pos p1)), .unset, .unset, .unset, .unset, .unset] [])
        refine gIload X38 hx (hb hby at_142) rfl ?_
        refine gStatic X38 hx hZ (y := (⟨"com/example/wee_check/weecheck/source/SourceLocationEqualsPinLaw", "pos", "(I)I"⟩ : MethodName)) hown (by decide) (tw hw 30 rfl) (tw hw 31 rfl) (tw hw 6 rfl) (tw hw 32 rfl) (own_rm5 l Z a0 hw p4 T36.heap n0 Z_36) e38 (by rw [hml]; rfl) (argsL := [(.int p4)]) (rest := []) (W := 0) (lenOf own_pd4 rfl) rfl (Nat.le_of_eq rfl) (by decide) (by decide) (by decide) (by decide) (hb hby at_144) ?_
        rintro _ T66 L66 X66 ⟨rfl, Nq66, e66⟩
        have N_66 := Fr.app N_38 Nq66
        show Go _ _ _ _ _ T66 (mkF m 147 #[.val (.int p0), .val (.int p1), .val (.int p2), .val (.int p3), .val (.int p4), .val (.int p5), .val (.int (own_min (2 : Int32) (p0 &&& (3 : Int32)))), .val (.ref b2), .val (.ref b36), .val (.int (own_pos p1)), .val (.int (own_pos p2)), .val (.int (own_pos p1)), .unset, .unset, .unset, .unset, .unset] [(.int (own_pos p4))])
        refine gIstore X66 hx #[.val (.int p0), .val (.int p1), .val (.int p2), .val (.int p3), .val (.int p4), .val (.int p5), .val (.int (own_min (2 : Int32) (p0 &&& (3 : Int32)))), .val (.ref b2), .val (.ref b36), .val (.int (own_pos p1)), .val (.int (own_pos p2)), .val (.int (own_pos p1)), .val (.int (own_pos p4)), .unset, .unset, .unset, .unset] (hb hby at_147) rfl ?_
        exact B149 T66 _ (own_pos p1) (own_pos p4) X66 e66 N_66 (own_pos1 _) (own_pos1 _)
      · have hc65 := o_eqF hT
        show Go _ _ _ _ _ T38 (mkF m 137 #[.val (.int p0), .val (.int p1), .val (.int p2), .val (.int p3), .val (.int p4), .val (.int p5), .val (.int (own_min (2 : Int32) (p0 &&& (3 : Int32)))), .val (.ref b2), .val (.ref b36), .val (.int (own_pos p1)), .val (.int (own_pos p2)), .val (.int (own_pos p1)), .unset, .unset, .unset, .unset, .unset] [])
        refine gIload X38 hx (hb hby at_137) rfl ?_
        refine gGoto X38 hx 147 (hb hby at_139) (by decide) (by decide) ?_
        refine gIstore X38 hx #[.val (.int p0), .val (.int p1), .val (.int p2), .val (.int p3), .val (.int p4), .val (.int p5), .val (.int (own_min (2 : Int32) (p0 &&& (3 : Int32)))), .val (.ref b2), .val (.ref b36), .val (.int (own_pos p1)), .val (.int (own_pos p2)), .val (.int (own_pos p1)), .val (.int (own_pos p2)), .unset, .unset, .unset, .unset] (hb hby at_147) rfl ?_
        exact B149 T38 _ (own_pos p1) (own_pos p2) X38 e38 N_38 (own_pos1 _) (own_pos1 _)
set_option maxRecDepth 65536 in
set_option maxHeartbeats 40000000 in
theorem comes_1 {Post : Tables → Env → Array Value → State → Outcome → State → Prop} (hpost : ∀ tb e args s v u, (limb_1_1.after args s (.returned v) u = true ∧ limb_1_2.after args s (.returned v) u = true ∧ True) → ReturnedEndW s (.returned v) u (Jvm.fieldLocs frame_1_writes args s ++ Jvm.arrayLocs frame_1_arrays args s ++ Jvm.staticLocs frame_1_statics s) 32 2176 → Post tb e args s (.returned v) u) :
    ArmFor flags0 classFile x code maxLocals ret World_1 tables_1 room_1 Calls_1 rest_1 Pre_1 Post := by
  intro l hfl _ _ p e ha hc hk s m args below hf hA hF happ hP
  obtain ⟨hcalls, hrest, hpre⟩ := hP
  obtain ⟨-, -, -, hnamed, -, -, -, hat⟩ := (Spec.applies_iff hf).mp happ
  obtain ⟨hg, hn⟩ := and_e (Cond.before_iff.mp (show (Jvm.Cond.and given_1 narrow_1).before args s = true from hpre))
  obtain ⟨h1, hr0⟩ := and_e hg
  obtain ⟨hv0, hr1⟩ := and_e hr0
  obtain ⟨hv1, hr2⟩ := and_e hr1
  obtain ⟨hv2, hr3⟩ := and_e hr2
  obtain ⟨hv3, hr4⟩ := and_e hr3
  obtain ⟨hv4, hr5⟩ := and_e hr4
  have hv5 := hr5
  obtain ⟨w0, w1, w2, w3, w4, w5, rfl⟩ : ∃ w0 w1 w2 w3 w4 w5 : Value, args = #[w0, w1, w2, w3, w4, w5] := by
    have hs : args.size = 6 := by simpa [Cond.value, given_1] using h1
    obtain ⟨L⟩ := args
    match L, hs with
    | [w0, w1, w2, w3, w4, w5], _ => exact ⟨w0, w1, w2, w3, w4, w5, rfl⟩
  have hw := fun d (hd : d ∈ tables_1) => atoms_spec (ws := Jvm.Cond.code x code maxLocals ret :: tables_1) hat d (List.mem_cons_of_mem _ hd)
  obtain ⟨i0, ei0⟩ := is_v hv0
  obtain rfl : w0 = (.int i0) := Option.some.inj ei0
  obtain ⟨i1, ei1⟩ := is_v hv1
  obtain rfl : w1 = (.int i1) := Option.some.inj ei1
  obtain ⟨i2, ei2⟩ := is_v hv2
  obtain rfl : w2 = (.int i2) := Option.some.inj ei2
  obtain ⟨i3, ei3⟩ := is_v hv3
  obtain rfl : w3 = (.int i3) := Option.some.inj ei3
  obtain ⟨i4, ei4⟩ := is_v hv4
  obtain rfl : w4 = (.int i4) := Option.some.inj ei4
  obtain ⟨i5, ei5⟩ := is_v hv5
  obtain rfl : w5 = (.int i5) := Option.some.inj ei5
  obtain ⟨hsets, hown0⟩ := atoms_of _ (rest_1_c_eq ▸ (show rest_1_c.before _ s = true from hrest))
  have wS : ∀ a ∈ Bundle.stringAtoms, a.before _ s = true := fun a ha => hw a ((by decide +kernel : ∀ a ∈ Bundle.stringAtoms, a ∈ tables_1) a ha)
  have hh : Jvm.Lit.constHeld s "java/lang/String" 7 := hcalls.1 _ (List.mem_of_getElem? (i := 1) rfl)
  have s2 := hsets _ (List.mem_of_getElem? (i := 2) rfl)
  obtain ⟨z, ez⟩ := is_v (Cond.before_iff.mp (hsets _ (List.mem_of_getElem? (i := 1) rfl)))
  have SC : Sta s s.heap "java/lang/String" "COMPACT_STRINGS" "Z" (.int z) := Sta.start ez (Or.inl (hsets _ (List.mem_of_getElem? (i := 0) rfl)))
  have hz : ¬ z = 0 := fun q => by
    have k := not_v (Cond.before_iff.mp s2)
    rw [Cond.eq_ints ez (Term.int_eval (0)), q] at k
    simp at k
  obtain ⟨n, o, h1, h2, h3, _, L, rfl, ⟨rfl, N⟩, hq⟩ := own_rm9 l s _ hw i0 i1 i2 i3 i4 i5 s.heap s.heap.size (Nat.le_refl _) wS hh s2 (Old.start s) z SC hz p e ha hc hk s m _ below hf ((Spec.applies_iff_loose hf).mp happ).1 ⟨rfl, State.Warmed39.refl s, rfl, Or.inl IB.start⟩ trivial
  refine ⟨n, _, h1, h2, h3, hpost _ _ _ _ _ _ ⟨Cond.after_iff.mpr rfl, Cond.after_iff.mpr (eq_i res_at (Term.int_eval (1)) rfl), trivial⟩ ⟨hq.1, hq.2.1, hq.2.2.1, (hq.2.2.2.sift fun y hy => Or.inr (N y hy)).mono (by decide) (by decide)⟩⟩
theorem main_1_1 : Claimed_1_1 := comes_1 fun _ _ _ _ _ _ h hF => ⟨h.1, hF⟩
theorem main_1_2 : Claimed_1_2 := comes_1 fun _ _ _ _ _ _ h hF => ⟨h.2.1, hF⟩
end Jvm.Pilot.@@N@@
namespace Jvm.Pilot.@@N@@
open Jvm Jvm.ClassFile Sem Op Lib Jvm.Free Jvm.Stand Jvm.Pilot.@@N@@.Jvm.D
/-! MADE BY PROGRAM (witnessworld.py) out of the Statement's table words and the real class files: 22 classes; the members and pool entries that the words name. The judged class is class 1, her method 3. -/
namespace start1
open Jvm.ClassFile
def u (s : String) : CpInfo := .utf8 (stringToUtf16 s)
/-- a pool by its gaps: so many unusable entries, then the entry; so many at the end -/
def gap : Nat → List CpInfo → List CpInfo
  | 0, r => r
  | n + 1, r => .unusable :: gap n r
def poolList (es : List (Nat × CpInfo)) (last : Nat) : List CpInfo := es.foldr (fun e r => gap e.1 (e.2 :: r)) (gap last [])
def pool (es : List (Nat × CpInfo)) (last : Nat) : Array CpInfo := ⟨poolList es last⟩
def fileOf (pool : Array CpInfo) (this : Nat) (attrs : Array Attribute := #[]) (ms : Array MethodInfo := #[]) (fl : Nat := 33) (sup : Nat := 0) (ifs : Array Nat := #[]) (fds : Array FieldInfo := #[]) : ClassFile where
  minorVersion := 0
  majorVersion := 65
  constantPool := pool
  accessFlags := fl
  thisClass := this
  superClass := sup
  interfaces := ifs
  fields := fds
  methods := ms
  attributes := attrs
def plain (name : String) (sup : Option ClassId) : Class where
  name := name
  kind := .ordinary
  loader := none
  accessFlags := 33
  super := sup
  interfaces := #[]
  cf := none
  fields := #[]
  methods := #[]
  instanceTypes := #[]
  staticTypes := #[]
  resolved := #[]
  callSites := []
  init := .initialized
  statics := none
  mirror := none

def pool0 : Array CpInfo := pool [(5, u "<init>"), (0, u "()V"), (1, .class_ 10), (1, u "java/lang/Object")] 113

def k0c0 : Code := { maxStack := 0, maxLocals := 1, code := object_method_1_code, exceptionTable := #[], attributes := #[] }
def k0m0 : Method := { name := "<init>", desc := "()V", sig := { parameters := [], returnType := none }, accessFlags := 1, code := some k0c0 }
/-- java/lang/Object -/
def k0 : Class := { plain "java/lang/Object" none with
  accessFlags := 33
  interfaces := #[]
  cf := some (fileOf pool0 8 #[] #[{ accessFlags := 1, nameIndex := 5, descriptorIndex := 6, attributes := #[] }] 33 0 #[] #[])
  fields := #[]
  methods := #[k0m0]
  instanceTypes := #[]
  staticTypes := #[]
  resolved := Array.replicate 124 none
  statics := none }

def pool1 : Array CpInfo := pool [(2, .class_ 4), (1, u "java/lang/Object"), (0, u "<init>"), (0, u "()V"), (0, .integer 2147483647), (0, .methodref 9 10), (0, .class_ 11), (0, .nameAndType 12 13), (0, u "java/lang/Math"), (0, u "max"), (0, u "(II)I"), (0, .class_ 15), (0, u "java/lang/String"), (0, .methodref 14 17), (0, .nameAndType 5 18), (0, u "([C)V"), (0, .methodref 9 20), (0, .nameAndType 21 13), (0, u "min"), (0, .methodref 23 24), (0, .class_ 25), (0, .nameAndType 26 27), (0, u "com/example/wee_check/weecheck/source/SourceLocationEqualsPinLaw"), (0, u "str"), (0, u "(III)Ljava/lang/String;"), (0, .methodref 23 29), (0, .nameAndType 30 31), (0, u "pos"), (0, u "(I)I"), (0, .class_ 33), (0, u "com/example/wee_check/weecheck/source/SourceLocation"), (0, .methodref 32 35), (0, .nameAndType 5 36), (0, u "(Ljava/lang/String;II)V"), (0, .methodref 32 38), (0, .nameAndType 39 40), (0, u "equals"), (0, u "(Ljava/lang/Object;)Z"), (0, .methodref 14 38), (3, u "law"), (0, u "(IIIIII)Z")] 2

def k1m0 : Method := { name := "<init>", desc := "()V", sig := { parameters := [], returnType := none }, accessFlags := 1, code := none }
def k1c1 : Code := { maxStack := 3, maxLocals := 1, code := method_2_code, exceptionTable := #[], attributes := #[] }
def k1m1 : Method := { name := "pos", desc := "(I)I", sig := { parameters := [.int], returnType := some .int }, accessFlags := 10, code := some k1c1 }
def k1c2 : Code := { maxStack := 3, maxLocals := 4, code := method_3_code, exceptionTable := #[], attributes := #[] }
def k1m2 : Method := { name := "str", desc := "(III)Ljava/lang/String;", sig := { parameters := [.int, .int, .int], returnType := some (.object "java/lang/String") }, accessFlags := 10, code := some k1c2 }
def k1c3 : Code := { maxStack := 5, maxLocals := 17, code := code, exceptionTable := #[], attributes := #[] }
def k1m3 : Method := { name := "law", desc := "(IIIIII)Z", sig := { parameters := [.int, .int, .int, .int, .int, .int], returnType := some .boolean }, accessFlags := 9, code := some k1c3 }
/-- com/example/wee_check/weecheck/source/SourceLocationEqualsPinLaw -/
def k1 : Class := { plain "com/example/wee_check/weecheck/source/SourceLocationEqualsPinLaw" (some 0) with
  accessFlags := 49
  interfaces := #[]
  cf := some (fileOf pool1 23 #[] #[{ accessFlags := 1, nameIndex := 5, descriptorIndex := 6, attributes := #[] }, { accessFlags := 10, nameIndex := 30, descriptorIndex := 31, attributes := #[] }, { accessFlags := 10, nameIndex := 26, descriptorIndex := 27, attributes := #[] }, { accessFlags := 9, nameIndex := 45, descriptorIndex := 46, attributes := #[] }] 49 2 #[] #[])
  fields := #[]
  methods := #[k1m0, k1m1, k1m2, k1m3]
  instanceTypes := #[]
  staticTypes := #[]
  resolved := Array.replicate 49 none
  statics := none }

def pool2 : Array CpInfo := pool [(1, .class_ 2), (0, u "java/lang/Math"), (1, .class_ 6), (1, u "java/lang/Object"), (0, u "<init>"), (0, u "()V"), (89, .class_ 100), (1, u "java/lang/Math$RandomNumberGeneratorHolder"), (71, u "negativeZeroFloatBits"), (0, u "J"), (2, u "negativeZeroDoubleBits"), (21, u "max"), (2, u "min"), (43, u "$assertionsDisabled"), (0, u "Z"), (88, u "(II)I"), (2, u "twoToTheDoubleScaleDown"), (0, u "D"), (4, u "twoToTheDoubleScaleUp"), (9, u "E"), (3, u "PI"), (2, u "TAU"), (2, u "DEGREES_TO_RADIANS"), (0, u "RADIANS_TO_DEGREES")] 94

def k2m0 : Method := { name := "<init>", desc := "()V", sig := { parameters := [], returnType := none }, accessFlags := 2, code := none }
def k2c1 : Code := { maxStack := 2, maxLocals := 2, code := jdk_29_method_65_code, exceptionTable := #[], attributes := #[] }
def k2m1 : Method := { name := "max", desc := "(II)I", sig := { parameters := [.int, .int], returnType := some .int }, accessFlags := 9, code := some k2c1 }
def k2c2 : Code := { maxStack := 2, maxLocals := 2, code := jdk_29_method_69_code, exceptionTable := #[], attributes := #[] }
def k2m2 : Method := { name := "min", desc := "(II)I", sig := { parameters := [.int, .int], returnType := some .int }, accessFlags := 9, code := some k2c2 }
/-- java/lang/Math -/
def k2 : Class := { plain "java/lang/Math" (some 0) with
  accessFlags := 49
  interfaces := #[]
  cf := some (fileOf pool2 1 #[.nestMembers #[98]] #[{ accessFlags := 2, nameIndex := 7, descriptorIndex := 8, attributes := #[] }, { accessFlags := 9, nameIndex := 198, descriptorIndex := 335, attributes := #[] }, { accessFlags := 9, nameIndex := 201, descriptorIndex := 335, attributes := #[] }] 49 4 #[] #[{ accessFlags := 25, nameIndex := 354, descriptorIndex := 339, attributes := #[] }, { accessFlags := 25, nameIndex := 358, descriptorIndex := 339, attributes := #[] }, { accessFlags := 25, nameIndex := 361, descriptorIndex := 339, attributes := #[] }, { accessFlags := 26, nameIndex := 364, descriptorIndex := 339, attributes := #[] }, { accessFlags := 26, nameIndex := 365, descriptorIndex := 339, attributes := #[] }, { accessFlags := 26, nameIndex := 172, descriptorIndex := 173, attributes := #[] }, { accessFlags := 26, nameIndex := 176, descriptorIndex := 173, attributes := #[] }, { accessFlags := 8, nameIndex := 344, descriptorIndex := 339, attributes := #[] }, { accessFlags := 8, nameIndex := 338, descriptorIndex := 339, attributes := #[] }, { accessFlags := 4120, nameIndex := 245, descriptorIndex := 246, attributes := #[] }])
  fields := #[{ name := "E", type := .double, accessFlags := 25, slot := 0, constantValue := 0 }, { name := "PI", type := .double, accessFlags := 25, slot := 1, constantValue := 0 }, { name := "TAU", type := .double, accessFlags := 25, slot := 2, constantValue := 0 }, { name := "DEGREES_TO_RADIANS", type := .double, accessFlags := 26, slot := 3, constantValue := 0 }, { name := "RADIANS_TO_DEGREES", type := .double, accessFlags := 26, slot := 4, constantValue := 0 }, { name := "negativeZeroFloatBits", type := .long, accessFlags := 26, slot := 5, constantValue := 0 }, { name := "negativeZeroDoubleBits", type := .long, accessFlags := 26, slot := 6, constantValue := 0 }, { name := "twoToTheDoubleScaleUp", type := .double, accessFlags := 8, slot := 7, constantValue := 0 }, { name := "twoToTheDoubleScaleDown", type := .double, accessFlags := 8, slot := 8, constantValue := 0 }, { name := "$assertionsDisabled", type := .boolean, accessFlags := 4120, slot := 9, constantValue := 0 }]
  methods := #[k2m0, k2m1, k2m2]
  instanceTypes := #[]
  staticTypes := #[.double, .double, .double, .double, .double, .long, .long, .double, .double, .boolean]
  resolved := Array.replicate 460 none
  statics := none }

def pool3 : Array CpInfo := pool [(1, .class_ 2), (0, u "java/io/Serializable"), (0, .class_ 4), (0, u "java/lang/Object")] 2

/-- java/io/Serializable -/
def k3 : Class := { plain "java/io/Serializable" (some 0) with
  accessFlags := 1537
  interfaces := #[]
  cf := some (fileOf pool3 1 #[] #[] 1537 3 #[] #[])
  fields := #[]
  methods := #[]
  instanceTypes := #[]
  staticTypes := #[]
  resolved := Array.replicate 7 none
  statics := none }

def pool4 : Array CpInfo := pool [(1, .class_ 2), (0, u "java/lang/Comparable"), (0, .class_ 4), (0, u "java/lang/Object")] 7

/-- java/lang/Comparable -/
def k4 : Class := { plain "java/lang/Comparable" (some 0) with
  accessFlags := 1537
  interfaces := #[]
  cf := some (fileOf pool4 1 #[] #[] 1537 3 #[] #[])
  fields := #[]
  methods := #[]
  instanceTypes := #[]
  staticTypes := #[]
  resolved := Array.replicate 12 none
  statics := none }

def pool5 : Array CpInfo := pool [(2, .class_ 4), (1, u "java/lang/CharSequence"), (42, .class_ 48), (0, u "java/lang/CharSequence$1CodePointIterator"), (10, .class_ 60), (0, u "java/lang/CharSequence$1CharIterator"), (5, .class_ 67), (0, u "java/lang/Object")] 63

/-- java/lang/CharSequence -/
def k5 : Class := { plain "java/lang/CharSequence" (some 0) with
  accessFlags := 1537
  interfaces := #[]
  cf := some (fileOf pool5 2 #[.nestMembers #[47, 59]] #[] 1537 66 #[] #[])
  fields := #[]
  methods := #[]
  instanceTypes := #[]
  staticTypes := #[]
  resolved := Array.replicate 131 none
  statics := none }

def pool6 : Array CpInfo := pool [(1, .class_ 2), (0, u "java/lang/constant/Constable"), (0, .class_ 4), (0, u "java/lang/Object")] 6

/-- java/lang/constant/Constable -/
def k6 : Class := { plain "java/lang/constant/Constable" (some 0) with
  accessFlags := 1537
  interfaces := #[]
  cf := some (fileOf pool6 1 #[] #[] 1537 3 #[] #[])
  fields := #[]
  methods := #[]
  instanceTypes := #[]
  staticTypes := #[]
  resolved := Array.replicate 11 none
  statics := none }

def pool7 : Array CpInfo := pool [(1, .class_ 2), (0, u "java/lang/constant/ConstantDesc"), (0, .class_ 4), (0, u "java/lang/Object")] 32

/-- java/lang/constant/ConstantDesc -/
def k7 : Class := { plain "java/lang/constant/ConstantDesc" (some 0) with
  accessFlags := 1537
  interfaces := #[]
  cf := some (fileOf pool7 1 #[] #[] 1537 3 #[] #[])
  fields := #[]
  methods := #[]
  instanceTypes := #[]
  staticTypes := #[]
  resolved := Array.replicate 37 none
  statics := none }

def pool8 : Array CpInfo := pool [(1, .methodref 2 3), (0, .class_ 4), (0, .nameAndType 5 6), (0, u "java/lang/Object"), (0, u "<init>"), (0, u "()V"), (0, .string 8), (0, u ""), (0, .fieldref 10 11), (0, .class_ 12), (0, .nameAndType 13 14), (0, u "java/lang/String"), (0, u "value"), (0, u "[B"), (0, .fieldref 10 16), (0, .nameAndType 17 18), (0, u "coder"), (0, u "B"), (2, u "hash"), (0, u "I"), (2, u "hashIsZero"), (0, u "Z"), (0, .methodref 10 28), (0, .nameAndType 5 29), (0, u "([CIILjava/lang/Void;)V"), (8, .fieldref 10 39), (0, .nameAndType 40 26), (0, u "COMPACT_STRINGS"), (1, .class_ 44), (1, u "java/lang/StringUTF16"), (0, u "compress"), (1, .methodref 42 48), (0, .nameAndType 49 50), (0, u "coderFromArrayLen"), (0, u "([BI)B"), (56, .class_ 109), (1, u "java/lang/StringLatin1"), (67, .methodref 42 178), (0, .nameAndType 45 179), (0, u "([CII)[B"), (361, .methodref 107 542), (0, .nameAndType 543 544), (0, u "equals"), (0, u "([B[B)Z"), (28, u "(Ljava/lang/Object;)Z"), (1, .class_ 576), (0, u "java/lang/CharSequence"), (22, u "CASE_INSENSITIVE_ORDER"), (0, u "Ljava/util/Comparator;"), (409, u "([C)V"), (90, u "serialPersistentFields"), (0, u "[Ljava/io/ObjectStreamField;"), (0, .class_ 1104), (0, u "java/lang/String$CaseInsensitiveComparator"), (1, .class_ 1107), (0, u "java/io/Serializable"), (0, .class_ 1109), (0, u "java/lang/Comparable"), (0, .class_ 1111), (0, u "java/lang/constant/Constable"), (0, .class_ 1113), (0, u "java/lang/constant/ConstantDesc"), (2, u "serialVersionUID"), (0, u "J"), (3, u "REPL"), (0, u "C"), (2, u "LATIN1"), (1, u "UTF16")] 323

def k8m0 : Method := { name := "<init>", desc := "()V", sig := { parameters := [], returnType := none }, accessFlags := 1, code := none }
def k8c1 : Code := { maxStack := 5, maxLocals := 2, code := jdk_42_method_3_code, exceptionTable := #[], attributes := #[] }
def k8m1 : Method := { name := "<init>", desc := "([C)V", sig := { parameters := [(.array .char)], returnType := none }, accessFlags := 1, code := some k8c1 }
def k8c2 : Code := { maxStack := 2, maxLocals := 3, code := jdk_42_method_66_code, exceptionTable := #[], attributes := #[] }
def k8m2 : Method := { name := "equals", desc := "(Ljava/lang/Object;)Z", sig := { parameters := [(.object "java/lang/Object")], returnType := some .boolean }, accessFlags := 1, code := some k8c2 }
def k8c3 : Code := { maxStack := 4, maxLocals := 6, code := jdk_42_method_149_code, exceptionTable := #[], attributes := #[] }
def k8m3 : Method := { name := "<init>", desc := "([CIILjava/lang/Void;)V", sig := { parameters := [(.array .char), .int, .int, (.object "java/lang/Void")], returnType := none }, accessFlags := 2, code := some k8c3 }
/-- java/lang/String -/
def k8 : Class := { plain "java/lang/String" (some 0) with
  accessFlags := 49
  interfaces := #[3, 4, 5, 6, 7]
  cf := some (fileOf pool8 10 #[.nestMembers #[1103]] #[{ accessFlags := 1, nameIndex := 5, descriptorIndex := 6, attributes := #[] }, { accessFlags := 1, nameIndex := 5, descriptorIndex := 1010, attributes := #[] }, { accessFlags := 1, nameIndex := 543, descriptorIndex := 573, attributes := #[] }, { accessFlags := 2, nameIndex := 5, descriptorIndex := 29, attributes := #[] }] 49 2 #[1106, 1108, 575, 1110, 1112] #[{ accessFlags := 18, nameIndex := 13, descriptorIndex := 14, attributes := #[] }, { accessFlags := 18, nameIndex := 17, descriptorIndex := 18, attributes := #[] }, { accessFlags := 2, nameIndex := 21, descriptorIndex := 22, attributes := #[] }, { accessFlags := 2, nameIndex := 25, descriptorIndex := 26, attributes := #[] }, { accessFlags := 26, nameIndex := 1116, descriptorIndex := 1117, attributes := #[] }, { accessFlags := 24, nameIndex := 40, descriptorIndex := 26, attributes := #[] }, { accessFlags := 26, nameIndex := 1101, descriptorIndex := 1102, attributes := #[] }, { accessFlags := 26, nameIndex := 1121, descriptorIndex := 1122, attributes := #[] }, { accessFlags := 25, nameIndex := 599, descriptorIndex := 600, attributes := #[] }, { accessFlags := 24, nameIndex := 1125, descriptorIndex := 18, attributes := #[] }, { accessFlags := 24, nameIndex := 1127, descriptorIndex := 18, attributes := #[] }])
  fields := #[{ name := "value", type := (.array .byte), accessFlags := 18, slot := 0, constantValue := 0 }, { name := "coder", type := .byte, accessFlags := 18, slot := 1, constantValue := 0 }, { name := "hash", type := .int, accessFlags := 2, slot := 2, constantValue := 0 }, { name := "hashIsZero", type := .boolean, accessFlags := 2, slot := 3, constantValue := 0 }, { name := "serialVersionUID", type := .long, accessFlags := 26, slot := 0, constantValue := 0 }, { name := "COMPACT_STRINGS", type := .boolean, accessFlags := 24, slot := 1, constantValue := 0 }, { name := "serialPersistentFields", type := (.array (.object "java/io/ObjectStreamField")), accessFlags := 26, slot := 2, constantValue := 0 }, { name := "REPL", type := .char, accessFlags := 26, slot := 3, constantValue := 0 }, { name := "CASE_INSENSITIVE_ORDER", type := (.object "java/util/Comparator"), accessFlags := 25, slot := 4, constantValue := 0 }, { name := "LATIN1", type := .byte, accessFlags := 24, slot := 5, constantValue := 0 }, { name := "UTF16", type := .byte, accessFlags := 24, slot := 6, constantValue := 0 }]
  methods := #[k8m0, k8m1, k8m2, k8m3]
  instanceTypes := #[(.array .byte), .byte, .int, .boolean]
  staticTypes := #[.long, .boolean, (.array (.object "java/io/ObjectStreamField")), .char, (.object "java/util/Comparator"), .byte, .byte]
  resolved := Array.replicate 1451 none
  statics := some 0 }

def pool9 : Array CpInfo := pool [(1, .methodref 2 3), (0, .class_ 4), (0, .nameAndType 5 6), (0, u "java/lang/Object"), (0, u "<init>"), (0, u "()V"), (10, .string 18), (0, u "file"), (0, .methodref 20 21), (0, .class_ 22), (0, .nameAndType 23 24), (0, u "java/util/Objects"), (0, u "requireNonNull"), (0, u "(Ljava/lang/Object;Ljava/lang/String;)Ljava/lang/Object;"), (0, .class_ 26), (0, u "java/lang/String"), (0, .fieldref 28 29), (0, .class_ 30), (0, .nameAndType 18 31), (0, u "com/example/wee_check/weecheck/source/SourceLocation"), (0, u "Ljava/lang/String;"), (0, .fieldref 28 33), (0, .nameAndType 34 35), (0, u "line"), (0, u "I"), (0, .fieldref 28 37), (0, .nameAndType 38 35), (0, u "column"), (0, .methodref 25 40), (0, .nameAndType 41 42), (0, u "equals"), (0, u "(Ljava/lang/Object;)Z"), (13, .class_ 57), (0, u "java/io/Serializable"), (0, u "serialVersionUID"), (0, u "J"), (3, u "(Ljava/lang/String;II)V")] 28

def k9c0 : Code := { maxStack := 3, maxLocals := 4, code := prog_98_method_1_code, exceptionTable := #[], attributes := #[] }
def k9m0 : Method := { name := "<init>", desc := "(Ljava/lang/String;II)V", sig := { parameters := [(.object "java/lang/String"), .int, .int], returnType := none }, accessFlags := 1, code := some k9c0 }
def k9c1 : Code := { maxStack := 2, maxLocals := 3, code := prog_98_method_5_code, exceptionTable := #[], attributes := #[] }
def k9m1 : Method := { name := "equals", desc := "(Ljava/lang/Object;)Z", sig := { parameters := [(.object "java/lang/Object")], returnType := some .boolean }, accessFlags := 1, code := some k9c1 }
/-- com/example/wee_check/weecheck/source/SourceLocation -/
def k9 : Class := { plain "com/example/wee_check/weecheck/source/SourceLocation" (some 0) with
  accessFlags := 49
  interfaces := #[3]
  cf := some (fileOf pool9 28 #[] #[{ accessFlags := 1, nameIndex := 5, descriptorIndex := 63, attributes := #[] }, { accessFlags := 1, nameIndex := 41, descriptorIndex := 42, attributes := #[] }] 49 2 #[56] #[{ accessFlags := 26, nameIndex := 58, descriptorIndex := 59, attributes := #[] }, { accessFlags := 18, nameIndex := 18, descriptorIndex := 31, attributes := #[] }, { accessFlags := 18, nameIndex := 34, descriptorIndex := 35, attributes := #[] }, { accessFlags := 18, nameIndex := 38, descriptorIndex := 35, attributes := #[] }])
  fields := #[{ name := "serialVersionUID", type := .long, accessFlags := 26, slot := 0, constantValue := 0 }, { name := "file", type := (.object "java/lang/String"), accessFlags := 18, slot := 0, constantValue := 0 }, { name := "line", type := .int, accessFlags := 18, slot := 1, constantValue := 0 }, { name := "column", type := .int, accessFlags := 18, slot := 2, constantValue := 0 }]
  methods := #[k9m0, k9m1]
  instanceTypes := #[(.object "java/lang/String"), .int, .int]
  staticTypes := #[.long]
  resolved := Array.replicate 92 none
  statics := none }

def pool10 : Array CpInfo := pool [(2, .class_ 4), (1, u "java/lang/Object"), (0, u "<init>"), (0, u "()V"), (35, .class_ 44), (1, u "java/util/Objects"), (0, u "requireNonNull"), (48, u "(Ljava/lang/Object;Ljava/lang/String;)Ljava/lang/Object;")] 89

def k10m0 : Method := { name := "<init>", desc := "()V", sig := { parameters := [], returnType := none }, accessFlags := 2, code := none }
def k10c1 : Code := { maxStack := 3, maxLocals := 2, code := jdk_31_method_11_code, exceptionTable := #[], attributes := #[] }
def k10m1 : Method := { name := "requireNonNull", desc := "(Ljava/lang/Object;Ljava/lang/String;)Ljava/lang/Object;", sig := { parameters := [(.object "java/lang/Object"), (.object "java/lang/String")], returnType := some (.object "java/lang/Object") }, accessFlags := 9, code := some k10c1 }
/-- java/util/Objects -/
def k10 : Class := { plain "java/util/Objects" (some 0) with
  accessFlags := 49
  interfaces := #[]
  cf := some (fileOf pool10 42 #[] #[{ accessFlags := 2, nameIndex := 5, descriptorIndex := 6, attributes := #[] }, { accessFlags := 9, nameIndex := 45, descriptorIndex := 94, attributes := #[] }] 49 2 #[] #[])
  fields := #[]
  methods := #[k10m0, k10m1]
  instanceTypes := #[]
  staticTypes := #[]
  resolved := Array.replicate 184 none
  statics := none }

def pool11 : Array CpInfo := pool [(6, .class_ 8), (1, u "java/lang/Object"), (0, u "<init>"), (0, u "()V"), (1, .class_ 14), (1, u "java/lang/StringUTF16"), (31, u "$assertionsDisabled"), (0, u "Z"), (13, u "HI_BYTE_SHIFT"), (0, u "I"), (2, u "LO_BYTE_SHIFT"), (49, .methodref 12 116), (0, .nameAndType 117 118), (0, u "compress"), (0, u "([CI[BII)I"), (3, u "([CII)[B"), (138, u "coderFromArrayLen"), (0, u "([BI)B"), (106, .class_ 371), (1, u "java/lang/StringUTF16$LinesSpliterator"), (58, u "MAX_LENGTH"), (196, .class_ 628), (0, u "java/lang/StringUTF16$CodePointsSpliterator"), (0, .class_ 630), (0, u "java/lang/StringUTF16$CharsSpliterator")] 4

def k11m0 : Method := { name := "<init>", desc := "()V", sig := { parameters := [], returnType := none }, accessFlags := 0, code := none }
def k11c1 : Code := { maxStack := 2, maxLocals := 2, code := jdk_52_method_15_code, exceptionTable := #[], attributes := #[] }
def k11m1 : Method := { name := "coderFromArrayLen", desc := "([BI)B", sig := { parameters := [(.array .byte), .int], returnType := some .byte }, accessFlags := 8, code := some k11c1 }
def k11c2 : Code := { maxStack := 5, maxLocals := 6, code := jdk_52_method_16_code, exceptionTable := #[], attributes := #[] }
def k11m2 : Method := { name := "compress", desc := "([CII)[B", sig := { parameters := [(.array .char), .int, .int], returnType := some (.array .byte) }, accessFlags := 9, code := some k11c2 }
def k11c3 : Code := { maxStack := 3, maxLocals := 7, code := jdk_52_method_21_code, exceptionTable := #[], attributes := #[] }
def k11m3 : Method := { name := "compress", desc := "([CI[BII)I", sig := { parameters := [(.array .char), .int, (.array .byte), .int, .int], returnType := some .int }, accessFlags := 9, code := some k11c3 }
/-- java/lang/StringUTF16 -/
def k11 : Class := { plain "java/lang/StringUTF16" (some 0) with
  accessFlags := 48
  interfaces := #[]
  cf := some (fileOf pool11 12 #[.nestMembers #[627, 629, 369]] #[{ accessFlags := 0, nameIndex := 9, descriptorIndex := 10, attributes := #[] }, { accessFlags := 8, nameIndex := 261, descriptorIndex := 262, attributes := #[] }, { accessFlags := 9, nameIndex := 117, descriptorIndex := 122, attributes := #[] }, { accessFlags := 9, nameIndex := 117, descriptorIndex := 118, attributes := #[] }] 48 6 #[] #[{ accessFlags := 26, nameIndex := 61, descriptorIndex := 62, attributes := #[] }, { accessFlags := 26, nameIndex := 65, descriptorIndex := 62, attributes := #[] }, { accessFlags := 24, nameIndex := 430, descriptorIndex := 62, attributes := #[] }, { accessFlags := 4120, nameIndex := 46, descriptorIndex := 47, attributes := #[] }])
  fields := #[{ name := "HI_BYTE_SHIFT", type := .int, accessFlags := 26, slot := 0, constantValue := 0 }, { name := "LO_BYTE_SHIFT", type := .int, accessFlags := 26, slot := 1, constantValue := 0 }, { name := "MAX_LENGTH", type := .int, accessFlags := 24, slot := 2, constantValue := 0 }, { name := "$assertionsDisabled", type := .boolean, accessFlags := 4120, slot := 3, constantValue := 0 }]
  methods := #[k11m0, k11m1, k11m2, k11m3]
  instanceTypes := #[]
  staticTypes := #[.int, .int, .int, .boolean]
  resolved := Array.replicate 635 none
  statics := none }

def pool12 : Array CpInfo := pool [(4, .class_ 6), (1, u "java/lang/Object"), (0, u "<init>"), (0, u "()V"), (5, .class_ 16), (1, u "java/lang/StringLatin1"), (104, u "$assertionsDisabled"), (0, u "Z"), (98, .class_ 223), (1, u "java/lang/StringLatin1$LinesSpliterator"), (57, u "equals"), (0, u "([B[B)Z"), (107, .class_ 391), (0, u "java/lang/StringLatin1$CharsSpliterator")] 3

def k12m0 : Method := { name := "<init>", desc := "()V", sig := { parameters := [], returnType := none }, accessFlags := 0, code := none }
def k12c1 : Code := { maxStack := 3, maxLocals := 3, code := jdk_43_method_13_code, exceptionTable := #[], attributes := #[] }
def k12m1 : Method := { name := "equals", desc := "([B[B)Z", sig := { parameters := [(.array .byte), (.array .byte)], returnType := some .boolean }, accessFlags := 9, code := some k12c1 }
/-- java/lang/StringLatin1 -/
def k12 : Class := { plain "java/lang/StringLatin1" (some 0) with
  accessFlags := 48
  interfaces := #[]
  cf := some (fileOf pool12 14 #[.nestMembers #[390, 221]] #[{ accessFlags := 0, nameIndex := 7, descriptorIndex := 8, attributes := #[] }, { accessFlags := 9, nameIndex := 281, descriptorIndex := 282, attributes := #[] }] 48 4 #[] #[{ accessFlags := 4120, nameIndex := 121, descriptorIndex := 122, attributes := #[] }])
  fields := #[{ name := "$assertionsDisabled", type := .boolean, accessFlags := 4120, slot := 0, constantValue := 0 }]
  methods := #[k12m0, k12m1]
  instanceTypes := #[]
  staticTypes := #[.boolean]
  resolved := Array.replicate 395 none
  statics := none }

def pool13 : Array CpInfo := pool [(2, .class_ 4), (1, u "java/lang/Object"), (0, u "<init>"), (0, u "()V"), (17, .class_ 26), (1, u "jdk/internal/util/Preconditions"), (28, .class_ 56), (0, u "jdk/internal/util/Preconditions$4"), (57, .class_ 115), (0, u "jdk/internal/util/Preconditions$1"), (7, u "SIOOBE_FORMATTER"), (0, u "Ljava/util/function/BiFunction;"), (0, .class_ 126), (0, u "jdk/internal/util/Preconditions$2"), (3, u "AIOOBE_FORMATTER"), (0, .class_ 132), (0, u "jdk/internal/util/Preconditions$3"), (3, u "IOOBE_FORMATTER")] 57

def k13m0 : Method := { name := "<init>", desc := "()V", sig := { parameters := [], returnType := none }, accessFlags := 1, code := none }
/-- jdk/internal/util/Preconditions -/
def k13 : Class := { plain "jdk/internal/util/Preconditions" (some 0) with
  accessFlags := 33
  interfaces := #[]
  cf := some (fileOf pool13 24 #[.nestMembers #[55, 131, 125, 114]] #[{ accessFlags := 1, nameIndex := 5, descriptorIndex := 6, attributes := #[] }] 33 2 #[] #[{ accessFlags := 25, nameIndex := 123, descriptorIndex := 124, attributes := #[] }, { accessFlags := 25, nameIndex := 130, descriptorIndex := 124, attributes := #[] }, { accessFlags := 25, nameIndex := 136, descriptorIndex := 124, attributes := #[] }])
  fields := #[{ name := "SIOOBE_FORMATTER", type := (.object "java/util/function/BiFunction"), accessFlags := 25, slot := 0, constantValue := 0 }, { name := "AIOOBE_FORMATTER", type := (.object "java/util/function/BiFunction"), accessFlags := 25, slot := 1, constantValue := 0 }, { name := "IOOBE_FORMATTER", type := (.object "java/util/function/BiFunction"), accessFlags := 25, slot := 2, constantValue := 0 }]
  methods := #[k13m0]
  instanceTypes := #[]
  staticTypes := #[(.object "java/util/function/BiFunction"), (.object "java/util/function/BiFunction"), (.object "java/util/function/BiFunction")]
  resolved := Array.replicate 194 none
  statics := some 1 }

def pool14 : Array CpInfo := pool [(9, u "<init>"), (6, .class_ 18), (1, u "java/lang/Object"), (0, u "()V"), (1, .class_ 23), (1, u "jdk/internal/util/ArraysSupport"), (0, u "LOG2_ARRAY_LONG_INDEX_SCALE"), (0, u "I"), (2, u "U"), (0, u "Ljdk/internal/misc/Unsafe;"), (8, u "BIG_ENDIAN"), (0, u "Z"), (8, u "LOG2_BYTE_BIT_SIZE"), (4, u "LOG2_ARRAY_INT_INDEX_SCALE"), (54, u "JLA"), (0, u "Ljdk/internal/access/JavaLangAccess;"), (11, u "LOG2_ARRAY_BOOLEAN_INDEX_SCALE"), (9, u "LOG2_ARRAY_BYTE_INDEX_SCALE"), (5, u "LOG2_ARRAY_CHAR_INDEX_SCALE"), (5, u "LOG2_ARRAY_SHORT_INDEX_SCALE"), (18, u "LOG2_ARRAY_FLOAT_INDEX_SCALE"), (24, u "LOG2_ARRAY_DOUBLE_INDEX_SCALE"), (89, u "T_BOOLEAN"), (2, u "T_CHAR"), (1, u "T_FLOAT"), (1, u "T_DOUBLE"), (1, u "T_BYTE"), (1, u "T_SHORT"), (1, u "T_INT"), (1, u "T_LONG"), (1, u "SOFT_MAX_ARRAY_LENGTH")] 83

def k14m0 : Method := { name := "<init>", desc := "()V", sig := { parameters := [], returnType := none }, accessFlags := 2, code := none }
/-- jdk/internal/util/ArraysSupport -/
def k14 : Class := { plain "jdk/internal/util/ArraysSupport" (some 0) with
  accessFlags := 33
  interfaces := #[]
  cf := some (fileOf pool14 21 #[] #[{ accessFlags := 2, nameIndex := 9, descriptorIndex := 19, attributes := #[] }] 33 16 #[] #[{ accessFlags := 24, nameIndex := 28, descriptorIndex := 29, attributes := #[] }, { accessFlags := 26, nameIndex := 38, descriptorIndex := 39, attributes := #[] }, { accessFlags := 25, nameIndex := 121, descriptorIndex := 25, attributes := #[] }, { accessFlags := 25, nameIndex := 131, descriptorIndex := 25, attributes := #[] }, { accessFlags := 25, nameIndex := 137, descriptorIndex := 25, attributes := #[] }, { accessFlags := 25, nameIndex := 143, descriptorIndex := 25, attributes := #[] }, { accessFlags := 25, nameIndex := 53, descriptorIndex := 25, attributes := #[] }, { accessFlags := 25, nameIndex := 24, descriptorIndex := 25, attributes := #[] }, { accessFlags := 25, nameIndex := 162, descriptorIndex := 25, attributes := #[] }, { accessFlags := 25, nameIndex := 187, descriptorIndex := 25, attributes := #[] }, { accessFlags := 26, nameIndex := 48, descriptorIndex := 25, attributes := #[] }, { accessFlags := 25, nameIndex := 277, descriptorIndex := 25, attributes := #[] }, { accessFlags := 25, nameIndex := 280, descriptorIndex := 25, attributes := #[] }, { accessFlags := 25, nameIndex := 282, descriptorIndex := 25, attributes := #[] }, { accessFlags := 25, nameIndex := 284, descriptorIndex := 25, attributes := #[] }, { accessFlags := 25, nameIndex := 286, descriptorIndex := 25, attributes := #[] }, { accessFlags := 25, nameIndex := 288, descriptorIndex := 25, attributes := #[] }, { accessFlags := 25, nameIndex := 290, descriptorIndex := 25, attributes := #[] }, { accessFlags := 25, nameIndex := 292, descriptorIndex := 25, attributes := #[] }, { accessFlags := 26, nameIndex := 108, descriptorIndex := 109, attributes := #[] }, { accessFlags := 25, nameIndex := 294, descriptorIndex := 25, attributes := #[] }])
  fields := #[{ name := "U", type := (.object "jdk/internal/misc/Unsafe"), accessFlags := 24, slot := 0, constantValue := 0 }, { name := "BIG_ENDIAN", type := .boolean, accessFlags := 26, slot := 1, constantValue := 0 }, { name := "LOG2_ARRAY_BOOLEAN_INDEX_SCALE", type := .int, accessFlags := 25, slot := 2, constantValue := 0 }, { name := "LOG2_ARRAY_BYTE_INDEX_SCALE", type := .int, accessFlags := 25, slot := 3, constantValue := 0 }, { name := "LOG2_ARRAY_CHAR_INDEX_SCALE", type := .int, accessFlags := 25, slot := 4, constantValue := 0 }, { name := "LOG2_ARRAY_SHORT_INDEX_SCALE", type := .int, accessFlags := 25, slot := 5, constantValue := 0 }, { name := "LOG2_ARRAY_INT_INDEX_SCALE", type := .int, accessFlags := 25, slot := 6, constantValue := 0 }, { name := "LOG2_ARRAY_LONG_INDEX_SCALE", type := .int, accessFlags := 25, slot := 7, constantValue := 0 }, { name := "LOG2_ARRAY_FLOAT_INDEX_SCALE", type := .int, accessFlags := 25, slot := 8, constantValue := 0 }, { name := "LOG2_ARRAY_DOUBLE_INDEX_SCALE", type := .int, accessFlags := 25, slot := 9, constantValue := 0 }, { name := "LOG2_BYTE_BIT_SIZE", type := .int, accessFlags := 26, slot := 10, constantValue := 0 }, { name := "T_BOOLEAN", type := .int, accessFlags := 25, slot := 11, constantValue := 0 }, { name := "T_CHAR", type := .int, accessFlags := 25, slot := 12, constantValue := 0 }, { name := "T_FLOAT", type := .int, accessFlags := 25, slot := 13, constantValue := 0 }, { name := "T_DOUBLE", type := .int, accessFlags := 25, slot := 14, constantValue := 0 }, { name := "T_BYTE", type := .int, accessFlags := 25, slot := 15, constantValue := 0 }, { name := "T_SHORT", type := .int, accessFlags := 25, slot := 16, constantValue := 0 }, { name := "T_INT", type := .int, accessFlags := 25, slot := 17, constantValue := 0 }, { name := "T_LONG", type := .int, accessFlags := 25, slot := 18, constantValue := 0 }, { name := "JLA", type := (.object "jdk/internal/access/JavaLangAccess"), accessFlags := 26, slot := 19, constantValue := 0 }, { name := "SOFT_MAX_ARRAY_LENGTH", type := .int, accessFlags := 25, slot := 20, constantValue := 0 }]
  methods := #[k14m0]
  instanceTypes := #[]
  staticTypes := #[(.object "jdk/internal/misc/Unsafe"), .boolean, .int, .int, .int, .int, .int, .int, .int, .int, .int, .int, .int, .int, .int, .int, .int, .int, .int, (.object "jdk/internal/access/JavaLangAccess"), .int]
  resolved := Array.replicate 378 none
  statics := none }

def pool15 : Array CpInfo := pool [(1, u "java/lang/Cloneable"), (0, .class_ 1), (0, u "java/lang/Object"), (0, .class_ 3)] 3

/-- java/lang/Cloneable -/
def k15 : Class := { plain "java/lang/Cloneable" (some 0) with
  accessFlags := 1537
  interfaces := #[]
  cf := some (fileOf pool15 2 #[] #[] 1537 4 #[] #[])
  fields := #[]
  methods := #[]
  instanceTypes := #[]
  staticTypes := #[]
  resolved := Array.replicate 8 none
  statics := none }

/-- the primitive byte -/
def k16 : Class := { plain "byte" none with kind := .primitive 'B', accessFlags := 0x411 }
/-- [B -/
def k17 : Class := { plain "[B" (some 0) with kind := .array 16 .byte, interfaces := #[15, 3], accessFlags := 1041 }

/-- the primitive char -/
def k18 : Class := { plain "char" none with kind := .primitive 'C', accessFlags := 0x411 }
/-- [C -/
def k19 : Class := { plain "[C" (some 0) with kind := .array 18 .char, interfaces := #[15, 3], accessFlags := 1041 }

/-- the primitive int -/
def k20 : Class := { plain "int" none with kind := .primitive 'I', accessFlags := 0x411 }
/-- [I -/
def k21 : Class := { plain "[I" (some 0) with kind := .array 20 .int, interfaces := #[15, 3], accessFlags := 1041 }

def heap : Heap := #[{ cls := 8, slots := #[.long 0, .int 1, .null, .int 0, .null, .int 0, .int 0], vm := .statics 8 },
  { cls := 13, slots := #[.null, .null, .null], vm := .statics 13 }]
def classes : Array Class := #[k0, k1, k2, k3, k4, k5, k6, k7, k8, k9, k10, k11, k12, k13, k14, k15, k16, k17, k18, k19, k20, k21]
def interned : List (Array UInt16 × Addr) := []
def slotsUsed : Nat := 10
def theMethod : MethodId := ⟨1, 3⟩
def args0 : Array Value := #[.int 5, .int 1, .int 2, .int 3, .int 4, .int 6]
def aboutOver (below : List Frame) : State where
  vm := { classes := classes, interned := interned.toArray }
  heap := heap
  slotsUsed := slotsUsed
  threads := #[{ frames := .invoking theMethod args0 :: below }]
def below0 : List Frame := [.native { method := ⟨0, 0⟩, args := #[] }]
def about1 : State := aboutOver below0
def p0 : Program := .bare "" "" ""
def e0 : Env := launch0.env 0 0 0
theorem w_frames : about1.frames = Frame.invoking theMethod args0 :: below0 := rfl
set_option maxRecDepth 65536 in
theorem w_args : argsFit about1.vm theMethod args0 = true := by decide +kernel
set_option maxRecDepth 65536 in
theorem w_heap : heapFits about1 = true := by decide +kernel
set_option maxRecDepth 65536 in
theorem w_runnable : about1.curStatus? = some .runnable := by decide +kernel
set_option maxRecDepth 65536 in
theorem w_alone : about1.alone = true := by decide +kernel
set_option maxRecDepth 65536 in
theorem w_named : about1.methodNamed? x = some theMethod := by decide +kernel
set_option maxRecDepth 65536 in
theorem w_hears : about1.hears theMethod below0 = true := by decide +kernel
set_option maxRecDepth 65536 in
theorem w_ripe : about1.ripe theMethod args0 below0 = true := by decide +kernel
theorem w_running : about1.status = .running := rfl
set_option maxRecDepth 65536 in
theorem w_room : about1.hasRoom e0.platform room_1 = true :=
  launch0.hasRoom_least _ room_1 (by decide +kernel) (by decide +kernel) (by decide +kernel) (by decide +kernel) (by decide +kernel) (by decide +kernel)
theorem allAtoms_all (ts : List Jvm.Cond) (a : Array Jvm.Value) (st : Jvm.State) : (allAtoms ts).before a st = ts.all (fun c => c.before a st) := by
  induction ts with
  | nil => rfl
  | cons c t ih =>
    show (Jvm.Cond.and c (allAtoms t)).before a st = _
    rw [Jvm.Cond.before_and, ih, List.all_cons]
def words1 : List Jvm.Cond := Jvm.Cond.code x code maxLocals ret :: tables_1
/-- a 'code' word, met by the world's own term for the bytes: nothing is compared byte by byte -/
theorem code_word {y : MethodName} {bytes : ByteArray} {mx : Nat} {rt : Option FieldType} {a : Array Value} {s : State} {m : MethodId} {meth : Method} {c : Code} (h1 : s.methodNamed? y = some m) (h2 : s.vm.method? m = some meth) (h3 : meth.code = some c) (h4 : c.code = bytes)
    (h5 : (c.maxLocals == mx && c.exceptionTable.isEmpty && decide (c.maxStack ≤ mostOperands) && decide (meth.sig.returnType = rt) && !meth.locks && decide (parseMethodDescriptor y.desc = some meth.sig)) = true) : (Jvm.Cond.code y bytes mx rt).before a s = true := by
  simp only [Bool.and_eq_true, beq_iff_eq, Bool.not_eq_true', decide_eq_true_eq] at h5
  obtain ⟨⟨⟨⟨⟨g1, g2⟩, g3⟩, g4⟩, g5⟩, g6⟩ := h5
  simp [Cond.before, Cond.holds, Cond.value, h1, h2, h3, h4, g1, g2, g3, g4, g5, g6]
def isCode : Jvm.Cond → Bool
  | .code _ _ _ _ => true
  | _ => false
theorem all_split {L : List Jvm.Cond} {P : Jvm.Cond → Bool} (h1 : L.all (fun c => isCode c || P c) = true) (h2 : ∀ c ∈ L.filter isCode, P c = true) : L.all P = true := by
  refine List.all_eq_true.mpr fun c hc => ?_
  have h := List.all_eq_true.mp h1 c hc
  rcases Bool.eq_false_or_eq_true (isCode c) with hi | hi
  · exact h2 c (List.mem_filter.mpr ⟨hc, hi⟩)
  · simpa [hi] using h
set_option maxRecDepth 65536 in
theorem w_c0 : (Jvm.Cond.code x code maxLocals ret).before args0 about1 = true := code_word (m := ⟨1, 3⟩) (meth := k1m3) (c := k1c3) (by decide +kernel) rfl rfl rfl (by decide +kernel)
set_option maxRecDepth 65536 in
theorem w_c1 : (Jvm.Cond.code ({ cls := "java/lang/Math", name := "min", desc := "(II)I" } : Jvm.MethodName) jdk_29_method_69_code (2 : Nat) (Option.some Jvm.ClassFile.FieldType.int)).before args0 about1 = true := code_word (m := ⟨2, 2⟩) (meth := k2m2) (c := k2c2) (by decide +kernel) rfl rfl rfl (by decide +kernel)
set_option maxRecDepth 65536 in
theorem w_c2 : (Jvm.Cond.code ({ cls := "com/example/wee_check/weecheck/source/SourceLocationEqualsPinLaw", name := "str", desc := "(III)Ljava/lang/String;" } : Jvm.MethodName) method_3_code (4 : Nat) (Option.some (Jvm.ClassFile.FieldType.object "java/lang/String"))).before args0 about1 = true := code_word (m := ⟨1, 2⟩) (meth := k1m2) (c := k1c2) (by decide +kernel) rfl rfl rfl (by decide +kernel)
set_option maxRecDepth 65536 in
theorem w_c3 : (Jvm.Cond.code ({ cls := "java/lang/String", name := "<init>", desc := "([C)V" } : Jvm.MethodName) jdk_42_method_3_code (2 : Nat) (Option.none : Option Jvm.ClassFile.FieldType)).before args0 about1 = true := code_word (m := ⟨8, 1⟩) (meth := k8m1) (c := k8c1) (by decide +kernel) rfl rfl rfl (by decide +kernel)
set_option maxRecDepth 65536 in
theorem w_c4 : (Jvm.Cond.code ({ cls := "java/lang/String", name := "<init>", desc := "([CIILjava/lang/Void;)V" } : Jvm.MethodName) jdk_42_method_149_code (6 : Nat) (Option.none : Option Jvm.ClassFile.FieldType)).before args0 about1 = true := code_word (m := ⟨8, 3⟩) (meth := k8m3) (c := k8c3) (by decide +kernel) rfl rfl rfl (by decide +kernel)
set_option maxRecDepth 65536 in
theorem w_c5 : (Jvm.Cond.code ({ cls := "java/lang/Object", name := "<init>", desc := "()V" } : Jvm.MethodName) object_method_1_code (1 : Nat) (Option.none : Option Jvm.ClassFile.FieldType)).before args0 about1 = true := code_word (m := ⟨0, 0⟩) (meth := k0m0) (c := k0c0) (by decide +kernel) rfl rfl rfl (by decide +kernel)
set_option maxRecDepth 65536 in
theorem w_c6 : (Jvm.Cond.code ({ cls := "com/example/wee_check/weecheck/source/SourceLocationEqualsPinLaw", name := "pos", desc := "(I)I" } : Jvm.MethodName) method_2_code (1 : Nat) (Option.some Jvm.ClassFile.FieldType.int)).before args0 about1 = true := code_word (m := ⟨1, 1⟩) (meth := k1m1) (c := k1c1) (by decide +kernel) rfl rfl rfl (by decide +kernel)
set_option maxRecDepth 65536 in
theorem w_c7 : (Jvm.Cond.code ({ cls := "java/lang/Math", name := "max", desc := "(II)I" } : Jvm.MethodName) jdk_29_method_65_code (2 : Nat) (Option.some Jvm.ClassFile.FieldType.int)).before args0 about1 = true := code_word (m := ⟨2, 1⟩) (meth := k2m1) (c := k2c1) (by decide +kernel) rfl rfl rfl (by decide +kernel)
set_option maxRecDepth 65536 in
theorem w_c8 : (Jvm.Cond.code ({ cls := "com/example/wee_check/weecheck/source/SourceLocation", name := "<init>", desc := "(Ljava/lang/String;II)V" } : Jvm.MethodName) prog_98_method_1_code (4 : Nat) (Option.none : Option Jvm.ClassFile.FieldType)).before args0 about1 = true := code_word (m := ⟨9, 0⟩) (meth := k9m0) (c := k9c0) (by decide +kernel) rfl rfl rfl (by decide +kernel)
set_option maxRecDepth 65536 in
theorem w_c9 : (Jvm.Cond.code ({ cls := "java/util/Objects", name := "requireNonNull", desc := "(Ljava/lang/Object;Ljava/lang/String;)Ljava/lang/Object;" } : Jvm.MethodName) jdk_31_method_11_code (2 : Nat) (Option.some (Jvm.ClassFile.FieldType.object "java/lang/Object"))).before args0 about1 = true := code_word (m := ⟨10, 1⟩) (meth := k10m1) (c := k10c1) (by decide +kernel) rfl rfl rfl (by decide +kernel)
set_option maxRecDepth 65536 in
theorem w_c10 : (Jvm.Cond.code ({ cls := "com/example/wee_check/weecheck/source/SourceLocation", name := "equals", desc := "(Ljava/lang/Object;)Z" } : Jvm.MethodName) prog_98_method_5_code (3 : Nat) (Option.some Jvm.ClassFile.FieldType.boolean)).before args0 about1 = true := code_word (m := ⟨9, 1⟩) (meth := k9m1) (c := k9c1) (by decide +kernel) rfl rfl rfl (by decide +kernel)
set_option maxRecDepth 65536 in
theorem w_c11 : (Jvm.Cond.code ({ cls := "java/lang/StringUTF16", name := "compress", desc := "([CII)[B" } : Jvm.MethodName) jdk_52_method_16_code (6 : Nat) (Option.some (Jvm.ClassFile.FieldType.array Jvm.ClassFile.FieldType.byte))).before args0 about1 = true := code_word (m := ⟨11, 2⟩) (meth := k11m2) (c := k11c2) (by decide +kernel) rfl rfl rfl (by decide +kernel)
set_option maxRecDepth 65536 in
theorem w_c12 : (Jvm.Cond.code ({ cls := "java/lang/StringUTF16", name := "compress", desc := "([CI[BII)I" } : Jvm.MethodName) jdk_52_method_21_code (7 : Nat) (Option.some Jvm.ClassFile.FieldType.int)).before args0 about1 = true := code_word (m := ⟨11, 3⟩) (meth := k11m3) (c := k11c3) (by decide +kernel) rfl rfl rfl (by decide +kernel)
set_option maxRecDepth 65536 in
theorem w_c13 : (Jvm.Cond.code ({ cls := "java/lang/StringUTF16", name := "coderFromArrayLen", desc := "([BI)B" } : Jvm.MethodName) jdk_52_method_15_code (2 : Nat) (Option.some Jvm.ClassFile.FieldType.byte)).before args0 about1 = true := code_word (m := ⟨11, 1⟩) (meth := k11m1) (c := k11c1) (by decide +kernel) rfl rfl rfl (by decide +kernel)
set_option maxRecDepth 65536 in
theorem w_c14 : (Jvm.Cond.code ({ cls := "java/lang/String", name := "equals", desc := "(Ljava/lang/Object;)Z" } : Jvm.MethodName) jdk_42_method_66_code (3 : Nat) (Option.some Jvm.ClassFile.FieldType.boolean)).before args0 about1 = true := code_word (m := ⟨8, 2⟩) (meth := k8m2) (c := k8c2) (by decide +kernel) rfl rfl rfl (by decide +kernel)
set_option maxRecDepth 65536 in
theorem w_c15 : (Jvm.Cond.code ({ cls := "java/lang/StringLatin1", name := "equals", desc := "([B[B)Z" } : Jvm.MethodName) jdk_43_method_13_code (3 : Nat) (Option.some Jvm.ClassFile.FieldType.boolean)).before args0 about1 = true := code_word (m := ⟨12, 1⟩) (meth := k12m1) (c := k12c1) (by decide +kernel) rfl rfl rfl (by decide +kernel)
def codes1 : List Jvm.Cond := [Jvm.Cond.code x code maxLocals ret, Jvm.Cond.code ({ cls := "java/lang/Math", name := "min", desc := "(II)I" } : Jvm.MethodName) jdk_29_method_69_code (2 : Nat) (Option.some Jvm.ClassFile.FieldType.int), Jvm.Cond.code ({ cls := "com/example/wee_check/weecheck/source/SourceLocationEqualsPinLaw", name := "str", desc := "(III)Ljava/lang/String;" } : Jvm.MethodName) method_3_code (4 : Nat) (Option.some (Jvm.ClassFile.FieldType.object "java/lang/String")), Jvm.Cond.code ({ cls := "java/lang/String", name := "<init>", desc := "([C)V" } : Jvm.MethodName) jdk_42_method_3_code (2 : Nat) (Option.none : Option Jvm.ClassFile.FieldType), Jvm.Cond.code ({ cls := "java/lang/String", name := "<init>", desc := "([CIILjava/lang/Void;)V" } : Jvm.MethodName) jdk_42_method_149_code (6 : Nat) (Option.none : Option Jvm.ClassFile.FieldType), Jvm.Cond.code ({ cls := "java/lang/Object", name := "<init>", desc := "()V" } : Jvm.MethodName) object_method_1_code (1 : Nat) (Option.none : Option Jvm.ClassFile.FieldType), Jvm.Cond.code ({ cls := "com/example/wee_check/weecheck/source/SourceLocationEqualsPinLaw", name := "pos", desc := "(I)I" } : Jvm.MethodName) method_2_code (1 : Nat) (Option.some Jvm.ClassFile.FieldType.int), Jvm.Cond.code ({ cls := "java/lang/Math", name := "max", desc := "(II)I" } : Jvm.MethodName) jdk_29_method_65_code (2 : Nat) (Option.some Jvm.ClassFile.FieldType.int), Jvm.Cond.code ({ cls := "com/example/wee_check/weecheck/source/SourceLocation", name := "<init>", desc := "(Ljava/lang/String;II)V" } : Jvm.MethodName) prog_98_method_1_code (4 : Nat) (Option.none : Option Jvm.ClassFile.FieldType), Jvm.Cond.code ({ cls := "java/util/Objects", name := "requireNonNull", desc := "(Ljava/lang/Object;Ljava/lang/String;)Ljava/lang/Object;" } : Jvm.MethodName) jdk_31_method_11_code (2 : Nat) (Option.some (Jvm.ClassFile.FieldType.object "java/lang/Object")), Jvm.Cond.code ({ cls := "com/example/wee_check/weecheck/source/SourceLocation", name := "equals", desc := "(Ljava/lang/Object;)Z" } : Jvm.MethodName) prog_98_method_5_code (3 : Nat) (Option.some Jvm.ClassFile.FieldType.boolean), Jvm.Cond.code ({ cls := "java/lang/StringUTF16", name := "compress", desc := "([CII)[B" } : Jvm.MethodName) jdk_52_method_16_code (6 : Nat) (Option.some (Jvm.ClassFile.FieldType.array Jvm.ClassFile.FieldType.byte)), Jvm.Cond.code ({ cls := "java/lang/StringUTF16", name := "compress", desc := "([CI[BII)I" } : Jvm.MethodName) jdk_52_method_21_code (7 : Nat) (Option.some Jvm.ClassFile.FieldType.int), Jvm.Cond.code ({ cls := "java/lang/StringUTF16", name := "coderFromArrayLen", desc := "([BI)B" } : Jvm.MethodName) jdk_52_method_15_code (2 : Nat) (Option.some Jvm.ClassFile.FieldType.byte), Jvm.Cond.code ({ cls := "java/lang/String", name := "equals", desc := "(Ljava/lang/Object;)Z" } : Jvm.MethodName) jdk_42_method_66_code (3 : Nat) (Option.some Jvm.ClassFile.FieldType.boolean), Jvm.Cond.code ({ cls := "java/lang/StringLatin1", name := "equals", desc := "([B[B)Z" } : Jvm.MethodName) jdk_43_method_13_code (3 : Nat) (Option.some Jvm.ClassFile.FieldType.boolean)]
set_option maxRecDepth 65536 in
theorem codes_eq : words1.filter isCode = codes1 := rfl
theorem w_codes : ∀ c ∈ words1.filter isCode, c.before args0 about1 = true := by
  rw [codes_eq]
  intro c hc
  simp only [codes1, List.mem_cons, List.not_mem_nil, or_false] at hc
  rcases hc with rfl | rfl | rfl | rfl | rfl | rfl | rfl | rfl | rfl | rfl | rfl | rfl | rfl | rfl | rfl | rfl
  · exact w_c0
  · exact w_c1
  · exact w_c2
  · exact w_c3
  · exact w_c4
  · exact w_c5
  · exact w_c6
  · exact w_c7
  · exact w_c8
  · exact w_c9
  · exact w_c10
  · exact w_c11
  · exact w_c12
  · exact w_c13
  · exact w_c14
  · exact w_c15
set_option maxRecDepth 65536 in
theorem w_t1 : (words1.take 24).all (fun c => isCode c || c.before args0 about1) = true := by decide +kernel
set_option maxRecDepth 65536 in
theorem w_t2 : ((words1.drop 24).take 24).all (fun c => isCode c || c.before args0 about1) = true := by decide +kernel
set_option maxRecDepth 65536 in
theorem w_t3 : (((words1.drop 24).drop 24).take 24).all (fun c => isCode c || c.before args0 about1) = true := by decide +kernel
set_option maxRecDepth 65536 in
theorem w_t4 : (((words1.drop 24).drop 24).drop 24).all (fun c => isCode c || c.before args0 about1) = true := by decide +kernel
theorem w_tables : (allAtoms (Jvm.Cond.code x code maxLocals ret :: tables_1)).before args0 about1 = true := by
  rw [allAtoms_all]
  show words1.all (fun c => c.before args0 about1) = true
  refine all_split ?_ w_codes
  rw [← List.take_append_drop 24 words1, List.all_append, w_t1, ← List.take_append_drop 24 (words1.drop 24), List.all_append, w_t2, ← List.take_append_drop 24 ((words1.drop 24).drop 24), List.all_append, w_t3, w_t4]
  rfl
set_option maxRecDepth 65536 in
theorem w_rest : rest_1_c.before args0 about1 = true := by decide +kernel
set_option maxRecDepth 65536 in
theorem w_case : (Jvm.Cond.and given_1 narrow_1).before args0 about1 = true := by decide +kernel
set_option maxRecDepth 65536 in
theorem w_consts : constsHeld consts_1 about1 := Jvm.Lit.constsHeldB_iff.mp (by decide +kernel)
theorem w_applies : (headSpec (Jvm.Cond.code x code maxLocals ret :: tables_1) room_1).applies x e0.platform about1 = true :=
  (Spec.applies_iff w_frames).mpr ⟨w_running, w_runnable, w_alone, w_named, w_hears, w_ripe, w_room, w_tables⟩
theorem atStart : AtStart classFile x code maxLocals ret World_1 tables_1 room_1 Calls_1 rest_1 Pre_1 launch0 p0 e0 about1 theMethod args0 below0 :=
  ⟨lists_1, trivial, launch0.admits_env _ _ _, launch0.least_env, fairChoices_fair.cas, fairChoices_fair.clock, w_frames, w_args, w_heap, w_applies, ⟨w_consts, trivial⟩, w_rest, w_case⟩
end start1
theorem witness_1 : WitnessClaimed_1 := ⟨start1.p0, start1.e0, start1.about1, start1.theMethod, start1.args0, start1.below0, start1.atStart⟩
end Jvm.Pilot.@@N@@
