import JvmDerived
import JvmDerived.Pilot.@@N@@Statement
import JvmDerived.Pilot.@@N@@Code
set_option linter.unusedVariables false
set_option linter.unusedSimpArgs false
/- laws to paste: Road.backV, Road.eqW, Road.codOf (cut by pick.py; bodies as the Statement names them) -/
namespace Jvm.Pilot.@@N@@
namespace StrChars
open Jvm Sem ClassFile Op Lib Jvm.Stand Jvm.Free.XT Jvm.Free.ALB Jvm.Free.JM Jvm.Free
open Jvm.Lib.Cold (StaticIs)
/-- a char array whose places are chars -/
def Ch (a : Addr) (A : Cell) (U : State) : Prop := Arr .char a A U ∧ Typed .char A
theorem Ch.mv {a : Addr} {A : Cell} {U U' : State} (h : Ch a A U) (hal : U.vm.Alike U'.vm) (hh : U'.heap = U.heap) : Ch a A U' := ⟨h.1.mv hal hh, h.2⟩
theorem Ch.keep {a : Addr} {A : Cell} {U U' : State} (h : Ch a A U) (hal : U.vm.Alike U'.vm) (hk : U'.heap[a]? = some A) : Ch a A U' := ⟨h.1.keep hal hk, h.2⟩
/-- what place i of a char[]'s cell holds -/
def cv (A : Cell) (i : Nat) : Int32 := match A.slots[i]? with | some (.int x) => x | _ => 0
theorem Ch.get {a : Addr} {A : Cell} {U : State} (h : Ch a A U) {i : Nat} (hi : i < A.slots.size) : A.slots[i]? = some (.int (cv A i)) := by
  have e := Array.getElem?_eq_getElem hi
  have f := h.2 i _ e
  unfold cv; rw [e]
  generalize A.slots[i] = v at f
  cases v <;> simp [fits] at f ⊢
/-- the byte that i2b leaves of a char -/
def lo8 (x : Int32) : Int32 := x.toInt8.toInt32
theorem fits_lo8 (y : Int32) : fits .byte (.int (lo8 y)) = true := by
  have h1 := y.toInt8.le_toInt
  have h2 := y.toInt8.toInt_lt
  simp only [lo8, fits, Bool.and_eq_true, decide_eq_true_eq, Int32.le_iff_toInt_le, Int8.toInt_toInt32, show (-128 : Int32).toInt = -128 from by decide, show (127 : Int32).toInt = 127 from by decide]
  omega
/-- A' is A but that each place j of lo .. hi - 1 holds f j -/
def Laid (A A' : Cell) (lo hi : Nat) (f : Nat → Value) : Prop := A'.cls = A.cls ∧ A'.vm = A.vm ∧ A'.slots.size = A.slots.size ∧ ∀ i, A'.slots[i]? = if lo ≤ i ∧ i < hi then some (f i) else A.slots[i]?
theorem Laid.zero (A : Cell) (lo : Nat) (f : Nat → Value) : Laid A A lo (lo + 0) f := ⟨rfl, rfl, rfl, fun i => by rw [if_neg (by omega)]⟩
theorem Laid.step {A Ak : Cell} {lo k : Nat} {f : Nat → Value} {v : Value} (h : Laid A Ak lo k f) (hlo : lo ≤ k) (hk : k < Ak.slots.size) (hv : v = f k) : Laid A (Ak.setSlot k v) lo (k + 1) f := by
  refine ⟨h.1, h.2.1, by simpa [Cell.setSlot] using h.2.2.1, fun i => ?_⟩
  by_cases e : k = i
  · subst e; rw [Cell.slots_setSlot_self v hk, if_pos (by omega), hv]
  · rw [Cell.slots_setSlot_ne v e, h.2.2.2 i]
    by_cases q : lo ≤ i ∧ i < k
    · rw [if_pos q, if_pos (by omega)]
    · rw [if_neg q, if_neg (by omega)]
def U16 : String := "java/lang/StringUTF16"
namespace Cmp5
def yN : MethodName := ⟨"java/lang/StringUTF16", "compress", "([CI[BII)I"⟩
abbrev yB : ByteArray := jdk_52_method_21_code
theorem d0 : decode yB 0 = .ok (.iconst 0, 1) := by decide +kernel
theorem d1 : decode yB 1 = .ok (.istore 5, 2) := by decide +kernel
theorem d3 : decode yB 3 = .ok (.iload 5, 2) := by decide +kernel
theorem d5 : decode yB 5 = .ok (.iload 4, 2) := by decide +kernel
theorem d7 : decode yB 7 = .ok (.if_icmp (.ge) 37, 3) := by decide +kernel
theorem d10 : decode yB 10 = .ok (.aload_n 0, 1) := by decide +kernel
theorem d11 : decode yB 11 = .ok (.iload_n 1, 1) := by decide +kernel
theorem d12 : decode yB 12 = .ok (.caload, 1) := by decide +kernel
theorem d13 : decode yB 13 = .ok (.istore 6, 2) := by decide +kernel
theorem d15 : decode yB 15 = .ok (.iload 6, 2) := by decide +kernel
theorem d17 : decode yB 17 = .ok (.sipush 255, 3) := by decide +kernel
theorem d20 : decode yB 20 = .ok (.if_icmp (.le) 6, 3) := by decide +kernel
theorem d26 : decode yB 26 = .ok (.aload_n 2, 1) := by decide +kernel
theorem d27 : decode yB 27 = .ok (.iload_n 3, 1) := by decide +kernel
theorem d28 : decode yB 28 = .ok (.iload 6, 2) := by decide +kernel
theorem d30 : decode yB 30 = .ok (.i2b, 1) := by decide +kernel
theorem d31 : decode yB 31 = .ok (.bastore, 1) := by decide +kernel
theorem d32 : decode yB 32 = .ok (.iinc 1 1, 3) := by decide +kernel
theorem d35 : decode yB 35 = .ok (.iinc 3 1, 3) := by decide +kernel
theorem d38 : decode yB 38 = .ok (.iinc 5 1, 3) := by decide +kernel
theorem d41 : decode yB 41 = .ok (.goto (-38), 3) := by decide +kernel
theorem d44 : decode yB 44 = .ok (.iload 4, 2) := by decide +kernel
theorem d46 : decode yB 46 = .ok (.ireturn, 1) := by decide +kernel
def site : List Cond := []
def tab : Cond := tabOf yN yB 7 (some .int) site
def P (b : Addr) (A : Cell) (d : Addr) (B : Cell) (o q len : Nat) (args : Array Value) (s : State) : Prop := args = #[.ref b, .int (Int32.ofNat o), .ref d, .int (Int32.ofNat q), .int (Int32.ofNat len)] ∧ Ch b A s ∧ Arr .byte d B s ∧ b ≠ d ∧ o + len ≤ A.slots.size ∧ q + len ≤ B.slots.size ∧ ∀ i, i < len → ¬ 255 < cv A (o + i)
def E (b : Addr) (A : Cell) (d : Addr) (B : Cell) (o q len : Nat) (r : Option Value) (s u : State) : Prop := r = some (.int (Int32.ofNat len)) ∧ ∃ B', Put d B' s u ∧ Laid B B' q (q + len) (fun j => Value.int (lo8 (cv A (o + (j - q)))))
/-- no char of the range above 255: len; the places written hold each char's low byte -/
theorem law (l : Launch) (b : Addr) (A : Cell) (d : Addr) (B : Cell) (o q len : Nat) : Law l yN 5 5 0 0 yB 7 (some .int) site (P b A d B o q len) (E b A d B o q len) (copyLocs d q len) 0 0 := by
  refine Law.of_walk (plainFor_of_name (by decide +kernel)) (by decide +kernel) (by decide +kernel) (by decide) (fun _ _ h => by rw [h.1]; rfl) (fun _ U U' hal hh h => ⟨h.1, h.2.1.mv hal hh, h.2.2.1.mv hal hh, h.2.2.2⟩) (fun r U U' V V' h1 hal h2 h => ⟨h.1, h.2.elim fun B' q => ⟨B', q.1.mv h1 h2, q.2⟩⟩) ?_
  intro p e s m args below meth c s₁ X0 hexec hbytes hml hret hlk hnm hown hh0 W hP
  obtain ⟨rfl, hA, hB, hne, l1, l2, hp⟩ := hP
  have c1 : Steps p.tables e below (s₁.setTop (entryFrame m #[.ref b, .int (Int32.ofNat o), .ref d, .int (Int32.ofNat q), .int (Int32.ofNat len)] 7)) (s₁.setTop (mkF m 0 #[.val (.ref b), .val (.int (Int32.ofNat o)), .val (.ref d), .val (.int (Int32.ofNat q)), .val (.int (Int32.ofNat len)), .unset, .unset] [])) := entry rfl
  have hA0 := hA.1.mv X0.warmed.alike hh0
  have hB0 := hB.mv X0.warmed.alike hh0
  have a31 := hA.1.2.2.2
  have c2 : Steps p.tables e below (s₁.setTop (entryFrame m #[.ref b, .int (Int32.ofNat o), .ref d, .int (Int32.ofNat q), .int (Int32.ofNat len)] 7)) (s₁.setTop (mkF m 3 #[.val (.ref b), .val (.int (Int32.ofNat o)), .val (.ref d), .val (.int (Int32.ofNat q)), .val (.int (Int32.ofNat len)), .val (.int 0), .unset] [])) := c1.trans (by
    refine iconstV X0.here hexec rfl 0 (hb hbytes d0) (by decide) ?_
    refine XS.istore X0.here hexec rfl (hb hbytes d1) rfl rfl ?_
    exact Steps.refl _)
  have loop : ∀ (r i : Nat), i + r = len → ∀ (z : Slot), (z = .unset ∨ ∃ w, z = .val w ∧ w.category = 1) → ∀ (Tl : State) (Bk : Cell), Stand p l e { frames := 0, locals := 0, cells := 0, slots := 0 } s m #[.ref b, .int (Int32.ofNat o), .ref d, .int (Int32.ofNat q), .int (Int32.ofNat len)] below meth c Tl ([] ++ copyLocs d q i) 0 0 → Put d Bk s₁ Tl → Laid B Bk q (q + i) (fun j => Value.int (lo8 (cv A (o + (j - q))))) →
      Steps p.tables e below (s₁.setTop (entryFrame m #[.ref b, .int (Int32.ofNat o), .ref d, .int (Int32.ofNat q), .int (Int32.ofNat len)] 7)) (Tl.setTop (mkF m 3 #[.val (.ref b), .val (.int (Int32.ofNat (o + i))), .val (.ref d), .val (.int (Int32.ofNat (q + i))), .val (.int (Int32.ofNat len)), .val (.int (Int32.ofNat i)), z] [])) → ∃ (T' : State) (B' : Cell) (z' : Slot), Stand p l e { frames := 0, locals := 0, cells := 0, slots := 0 } s m #[.ref b, .int (Int32.ofNat o), .ref d, .int (Int32.ofNat q), .int (Int32.ofNat len)] below meth c T' ([] ++ copyLocs d q len) 0 0 ∧ Put d B' s₁ T' ∧ Laid B B' q (q + len) (fun j => Value.int (lo8 (cv A (o + (j - q))))) ∧
      Steps p.tables e below (s₁.setTop (entryFrame m #[.ref b, .int (Int32.ofNat o), .ref d, .int (Int32.ofNat q), .int (Int32.ofNat len)] 7)) (T'.setTop (mkF m 3 #[.val (.ref b), .val (.int (Int32.ofNat (o + len))), .val (.ref d), .val (.int (Int32.ofNat (q + len))), .val (.int (Int32.ofNat len)), .val (.int (Int32.ofNat len)), z'] [])) := by
    intro r
    induction r with
    | zero =>
      intro i hi z hz Tl Bk Xl pl fl cl
      have hil : i = len := by omega
      rw [hil] at Xl fl cl
      exact ⟨Tl, Bk, z, Xl, pl, fl, cl⟩
    | succ r ih =>
      intro i hi z hz Tl Bk Xl pl fl cl
      have all := X0.warmed.alike.symm.trans Xl.warmed.alike
      have hAl := hA0.keep all (pl.other hne hA0.1)
      have hBk := hB0.like all pl.1 fl.1 fl.2.1 fl.2.2.1
      have hlt : q + i < Bk.slots.size := by rw [fl.2.2.1]; omega
      have c3 : Steps p.tables e below (s₁.setTop (entryFrame m #[.ref b, .int (Int32.ofNat o), .ref d, .int (Int32.ofNat q), .int (Int32.ofNat len)] 7)) (Tl.setTop (mkF m 12 #[.val (.ref b), .val (.int (Int32.ofNat (o + i))), .val (.ref d), .val (.int (Int32.ofNat (q + i))), .val (.int (Int32.ofNat len)), .val (.int (Int32.ofNat i)), z] [.int (Int32.ofNat (o + i)), .ref b])) := cl.trans (by
        refine XS.iload Xl.here hexec rfl (hb hbytes d3) rfl ?_
        refine XS.iload Xl.here hexec rfl (hb hbytes d5) rfl ?_
        refine XS.icmpNo Xl.here hexec rfl (hb hbytes d7) rfl (ii_ge_f (lt32 (by omega) (by omega))) ?_
        refine XS.aloadN Xl.here hexec rfl (hb hbytes d10) rfl rfl ?_
        refine XS.iloadN Xl.here hexec rfl (hb hbytes d11) rfl ?_
        exact Steps.refl _)
      have c4 : Steps p.tables e below (s₁.setTop (entryFrame m #[.ref b, .int (Int32.ofNat o), .ref d, .int (Int32.ofNat q), .int (Int32.ofNat len)] 7)) (Tl.setTop (mkF m 13 #[.val (.ref b), .val (.int (Int32.ofNat (o + i))), .val (.ref d), .val (.int (Int32.ofNat (q + i))), .val (.int (Int32.ofNat len)), .val (.int (Int32.ofNat i)), z] [.int (cv A (o + i))])) := c3.trans (by
        refine Xl.aget hexec hAl rfl (hA.get (i := o + i) (by omega)) rfl rfl (hb hbytes d12) ?_
        exact Steps.refl _)
      have c5 : Steps p.tables e below (s₁.setTop (entryFrame m #[.ref b, .int (Int32.ofNat o), .ref d, .int (Int32.ofNat q), .int (Int32.ofNat len)] 7)) (Tl.setTop (mkF m 15 #[.val (.ref b), .val (.int (Int32.ofNat (o + i))), .val (.ref d), .val (.int (Int32.ofNat (q + i))), .val (.int (Int32.ofNat len)), .val (.int (Int32.ofNat i)), .val (.int (cv A (o + i)))] [])) := c4.trans (by
        refine XS.istoreS Xl.here hexec rfl (hb hbytes d13) rfl rfl hz ?_
        exact Steps.refl _)
      have c6 : Steps p.tables e below (s₁.setTop (entryFrame m #[.ref b, .int (Int32.ofNat o), .ref d, .int (Int32.ofNat q), .int (Int32.ofNat len)] 7)) (Tl.setTop (mkF m 31 #[.val (.ref b), .val (.int (Int32.ofNat (o + i))), .val (.ref d), .val (.int (Int32.ofNat (q + i))), .val (.int (Int32.ofNat len)), .val (.int (Int32.ofNat i)), .val (.int (cv A (o + i)))] [.int (lo8 (cv A (o + i))), .int (Int32.ofNat (q + i)), .ref d])) := c5.trans (by
        refine XS.iload Xl.here hexec rfl (hb hbytes d15) rfl ?_
        refine sipushV Xl.here hexec rfl 255 (hb hbytes d17) (by decide) ?_
        refine XS.icmpYes Xl.here hexec rfl (pc0 := 20) rfl (hb hbytes d20) rfl (ii_le_t (hp i (by omega))) (by decide) rfl ?_
        refine XS.aloadN Xl.here hexec rfl (hb hbytes d26) rfl rfl ?_
        refine XS.iloadN Xl.here hexec rfl (hb hbytes d27) rfl ?_
        refine XS.iload Xl.here hexec rfl (hb hbytes d28) rfl ?_
        refine i2b Xl.here hexec rfl (hb hbytes d30) rfl ?_
        exact Steps.refl _)
      obtain ⟨T7, X7, p7, st7⟩ := Xl.aput hexec hBk rfl hlt rfl (fits_lo8 (cv A (o + i))) (g := (mkF m 31 #[.val (.ref b), .val (.int (Int32.ofNat (o + i))), .val (.ref d), .val (.int (Int32.ofNat (q + i))), .val (.int (Int32.ofNat len)), .val (.int (Int32.ofNat i)), .val (.int (cv A (o + i)))] [.int (lo8 (cv A (o + i))), .int (Int32.ofNat (q + i)), .ref d])) rfl (rest := []) rfl (hb hbytes d31)
      have c8 : Steps p.tables e below (s₁.setTop (entryFrame m #[.ref b, .int (Int32.ofNat o), .ref d, .int (Int32.ofNat q), .int (Int32.ofNat len)] 7)) (T7.setTop (mkF m 32 #[.val (.ref b), .val (.int (Int32.ofNat (o + i))), .val (.ref d), .val (.int (Int32.ofNat (q + i))), .val (.int (Int32.ofNat len)), .val (.int (Int32.ofNat i)), .val (.int (cv A (o + i)))] [])) := c6.trans (st7 _ (Steps.refl _))
      have c9 : Steps p.tables e below (s₁.setTop (entryFrame m #[.ref b, .int (Int32.ofNat o), .ref d, .int (Int32.ofNat q), .int (Int32.ofNat len)] 7)) (T7.setTop (mkF m 3 #[.val (.ref b), .val (.int (Int32.ofNat (o + i) + 1)), .val (.ref d), .val (.int (Int32.ofNat (q + i) + 1)), .val (.int (Int32.ofNat len)), .val (.int (Int32.ofNat i + 1)), .val (.int (cv A (o + i)))] [])) := c8.trans (by
        refine iincV X7.here hexec rfl 1 (hb hbytes d32) (by decide) rfl rfl ?_
        refine iincV X7.here hexec rfl 1 (hb hbytes d35) (by decide) rfl rfl ?_
        refine iincV X7.here hexec rfl 1 (hb hbytes d38) (by decide) rfl rfl ?_
        refine XS.goto X7.here hexec rfl (pc0 := 41) rfl (hb hbytes d41) (by decide) rfl ?_
        exact Steps.refl _)
      have c10 : Steps p.tables e below (s₁.setTop (entryFrame m #[.ref b, .int (Int32.ofNat o), .ref d, .int (Int32.ofNat q), .int (Int32.ofNat len)] 7)) (T7.setTop (mkF m 3 #[.val (.ref b), .val (.int (Int32.ofNat (o + (i + 1)))), .val (.ref d), .val (.int (Int32.ofNat (q + (i + 1)))), .val (.int (Int32.ofNat len)), .val (.int (Int32.ofNat (i + 1))), .val (.int (cv A (o + i)))] [])) := by
        have := c9
        rw [succ32, succ32, succ32] at this
        exact this
      exact ih (i + 1) (by omega) _ (Or.inr ⟨_, rfl, rfl⟩) T7 _ (by rw [copyLocs_step, ← List.append_assoc]; exact X7) (pl.trans p7) (fl.step (by omega) hlt (by simp)) c10
  obtain ⟨T9, B9, z9, X9, p9, f9, g9⟩ := loop len 0 (by omega) .unset (Or.inl rfl) s₁ B (by simpa [copyLocs] using X0) ⟨hB0.1, fun _ _ => rfl, rfl⟩ (Laid.zero _ _ _) c2
  have c11 : Steps p.tables e below (s₁.setTop (entryFrame m #[.ref b, .int (Int32.ofNat o), .ref d, .int (Int32.ofNat q), .int (Int32.ofNat len)] 7)) (T9.setTop (mkF m 46 #[.val (.ref b), .val (.int (Int32.ofNat (o + len))), .val (.ref d), .val (.int (Int32.ofNat (q + len))), .val (.int (Int32.ofNat len)), .val (.int (Int32.ofNat len)), z9] [.int (Int32.ofNat len)])) := g9.trans (by
    refine XS.iload X9.here hexec rfl (hb hbytes d3) rfl ?_
    refine XS.iload X9.here hexec rfl (hb hbytes d5) rfl ?_
    refine XS.icmpYes X9.here hexec rfl (pc0 := 7) rfl (hb hbytes d7) rfl (ii_ge_t (nlt32 (by omega) (Nat.le_refl _))) (by decide) rfl ?_
    refine XS.iload X9.here hexec rfl (hb hbytes d44) rfl ?_
    exact Steps.refl _)
  exact ⟨T9, some (.int (Int32.ofNat len)), _, _, _, X9, by simp, rfl, rfl, (fun h => by cases h), ⟨rfl, B9, p9.from hh0, f9⟩, fun fs hl => c11.trans (X9.ireturnOut hexec hret rfl (Or.inl rfl) (hb hbytes d46) hl)⟩
end Cmp5
namespace Cmp3
def yN : MethodName := ⟨"java/lang/StringUTF16", "compress", "([CII)[B"⟩
abbrev yB : ByteArray := jdk_52_method_16_code
theorem d0 : decode yB 0 = .ok (.iload_n 2, 1) := by decide +kernel
theorem d1 : decode yB 1 = .ok (.newarray .byte, 2) := by decide +kernel
theorem d3 : decode yB 3 = .ok (.astore_n 3, 1) := by decide +kernel
theorem d4 : decode yB 4 = .ok (.aload_n 0, 1) := by decide +kernel
theorem d5 : decode yB 5 = .ok (.iload_n 1, 1) := by decide +kernel
theorem d6 : decode yB 6 = .ok (.aload_n 3, 1) := by decide +kernel
theorem d7 : decode yB 7 = .ok (.iconst 0, 1) := by decide +kernel
theorem d8 : decode yB 8 = .ok (.iload_n 2, 1) := by decide +kernel
theorem d9 : decode yB 9 = .ok (.invokestatic 115, 3) := by decide +kernel
theorem d12 : decode yB 12 = .ok (.istore 4, 2) := by decide +kernel
theorem d14 : decode yB 14 = .ok (.iload 4, 2) := by decide +kernel
theorem d16 : decode yB 16 = .ok (.iload_n 2, 1) := by decide +kernel
theorem d17 : decode yB 17 = .ok (.if_icmp (.eq) 40, 3) := by decide +kernel
theorem d57 : decode yB 57 = .ok (.aload_n 3, 1) := by decide +kernel
theorem d58 : decode yB 58 = .ok (.areturn, 1) := by decide +kernel
def site : List Cond := [.arrayClass .byte, Cmp5.tab] ++ staticW U16 115 Cmp5.yN
def tab : Cond := tabOf yN yB 6 (some (.array .byte)) site
def P (b : Addr) (A : Cell) (o len : Nat) (args : Array Value) (s : State) : Prop := args = #[.ref b, .int (Int32.ofNat o), .int (Int32.ofNat len)] ∧ Ch b A s ∧ o + len ≤ A.slots.size ∧ len ≤ 536870912 ∧ ∀ i, i < len → ¬ 255 < cv A (o + i)
def E (b : Addr) (A : Cell) (o len : Nat) (r : Option Value) (s u : State) : Prop := NewArr .byte "[B" len (fun j => .int (lo8 (cv A (o + j)))) r s u ∧ u.heap.size = s.heap.size + 1
/-- no char of the range above 255: a new byte[] of their low bytes -/
theorem law (l : Launch) (b : Addr) (A : Cell) (o len : Nat) : Law l yN 3 3 1 18 yB 6 (some (.array .byte)) site (P b A o len) (E b A o len) [] 1 len := by
  refine Law.of_walk (plainFor_of_name (by decide +kernel)) (by decide +kernel) (by decide +kernel) (by decide) (fun _ _ h => by rw [h.1]; rfl) (fun _ U U' hal hh h => ⟨h.1, h.2.1.mv hal hh, h.2.2⟩) (fun r U U' V V' h1 hal h2 h => ⟨NewArr.mv r U U' V V' h1 hal h2 h.1, by rw [h1, h2]; exact h.2⟩) ?_
  intro p e s m args below meth c s₁ X0 hexec hbytes hml hret hlk hnm hown hh0 W hP
  obtain ⟨rfl, hA, l1, l2, hp⟩ := hP
  have a31 := hA.1.2.2.2
  have c1 : Steps p.tables e below (s₁.setTop (entryFrame m #[.ref b, .int (Int32.ofNat o), .int (Int32.ofNat len)] 6)) (s₁.setTop (mkF m 0 #[.val (.ref b), .val (.int (Int32.ofNat o)), .val (.int (Int32.ofNat len)), .unset, .unset, .unset] [])) := entry rfl
  have c2 : Steps p.tables e below (s₁.setTop (entryFrame m #[.ref b, .int (Int32.ofNat o), .int (Int32.ofNat len)] 6)) (s₁.setTop (mkF m 1 #[.val (.ref b), .val (.int (Int32.ofNat o)), .val (.int (Int32.ofNat len)), .unset, .unset, .unset] [.int (Int32.ofNat len)])) := c1.trans (by
    refine XS.iloadN X0.here hexec rfl (hb hbytes d0) rfl ?_
    exact Steps.refl _)
  obtain ⟨T3, B3, X3, ba3, bs3, bv3, bh3, bf3, st3⟩ := X0.anew hexec (atype := .byte) (wk W (.arrayClass .byte)) rfl (by show len * 1 ≤ _; omega) (by omega) (g := (mkF m 1 #[.val (.ref b), .val (.int (Int32.ofNat o)), .val (.int (Int32.ofNat len)), .unset, .unset, .unset] [.int (Int32.ofNat len)])) rfl (hb hbytes d1) (rest := []) rfl (Nat.le_refl _) (by show 0 + len ≤ len; omega)
  rw [hh0] at ba3 st3
  have kp3 : XT.Kept s T3 := (XT.Kept.of_eq hh0).push bh3
  have hA3 := hA.keep X3.warmed.alike (kp3 _ _ hA.1.1)
  have hne : b ≠ s.heap.size := hA.1.ne
  have c4 : Steps p.tables e below (s₁.setTop (entryFrame m #[.ref b, .int (Int32.ofNat o), .int (Int32.ofNat len)] 6)) (T3.setTop (mkF m 3 #[.val (.ref b), .val (.int (Int32.ofNat o)), .val (.int (Int32.ofNat len)), .unset, .unset, .unset] [.ref s.heap.size])) := c2.trans (st3 _ (Steps.refl _))
  have c5 : Steps p.tables e below (s₁.setTop (entryFrame m #[.ref b, .int (Int32.ofNat o), .int (Int32.ofNat len)] 6)) (T3.setTop (mkF m 9 #[.val (.ref b), .val (.int (Int32.ofNat o)), .val (.int (Int32.ofNat len)), .val (.ref s.heap.size), .unset, .unset] [.int (Int32.ofNat len), .int 0, .ref s.heap.size, .int (Int32.ofNat o), .ref b])) := c4.trans (by
    refine XS.astoreN X3.here hexec rfl (hb hbytes d3) rfl rfl rfl ?_
    refine XS.aloadN X3.here hexec rfl (hb hbytes d4) rfl rfl ?_
    refine XS.iloadN X3.here hexec rfl (hb hbytes d5) rfl ?_
    refine XS.aloadN X3.here hexec rfl (hb hbytes d6) rfl rfl ?_
    refine iconstV X3.here hexec rfl 0 (hb hbytes d7) (by decide) ?_
    refine XS.iloadN X3.here hexec rfl (hb hbytes d8) rfl ?_
    exact Steps.refl _)
  obtain ⟨v6, T6, X6, E6, g6⟩ := X3.callS hexec (Cmp5.law l b A s.heap.size B3 o 0 len) hown (wks W (staticW U16 115 Cmp5.yN)) (wk W Cmp5.tab) (W := 0) (Nat.le_of_ble_eq_true rfl) (Nat.le_of_ble_eq_true rfl) (Nat.le_refl _) (by show 0 + len + 0 ≤ len; omega) (g := (mkF m 9 #[.val (.ref b), .val (.int (Int32.ofNat o)), .val (.int (Int32.ofNat len)), .val (.ref s.heap.size), .unset, .unset] [.int (Int32.ofNat len), .int (Int32.ofNat 0), .ref s.heap.size, .int (Int32.ofNat o), .ref b])) rfl (by rw [hml]; rfl) c5 (argsL := [.ref b, .int (Int32.ofNat o), .ref s.heap.size, .int (Int32.ofNat 0), .int (Int32.ofNat len)]) (rest := []) rfl rfl (by show 2 * 0 + 0 ≤ _; decide) (hb hbytes d9) (⟨rfl, hA3, ba3, hne, l1, by rw [bs3]; simp, hp⟩)
  obtain ⟨rfl, B6, p6, f6⟩ := E6
  have c7 : Steps p.tables e below (s₁.setTop (entryFrame m #[.ref b, .int (Int32.ofNat o), .int (Int32.ofNat len)] 6)) (T6.setTop (mkF m 12 #[.val (.ref b), .val (.int (Int32.ofNat o)), .val (.int (Int32.ofNat len)), .val (.ref s.heap.size), .unset, .unset] [.int (Int32.ofNat len)])) := g6
  have c8 : Steps p.tables e below (s₁.setTop (entryFrame m #[.ref b, .int (Int32.ofNat o), .int (Int32.ofNat len)] 6)) (T6.setTop (mkF m 58 #[.val (.ref b), .val (.int (Int32.ofNat o)), .val (.int (Int32.ofNat len)), .val (.ref s.heap.size), .val (.int (Int32.ofNat len)), .unset] [.ref s.heap.size])) := c7.trans (by
    refine XS.istore X6.here hexec rfl (hb hbytes d12) rfl rfl ?_
    refine XS.iload X6.here hexec rfl (hb hbytes d14) rfl ?_
    refine XS.iloadN X6.here hexec rfl (hb hbytes d16) rfl ?_
    refine XS.icmpYes X6.here hexec rfl (pc0 := 17) rfl (hb hbytes d17) rfl (ii_eq_t rfl) (by decide) rfl ?_
    refine XS.aloadN X6.here hexec rfl (hb hbytes d57) rfl rfl ?_
    exact Steps.refl _)
  have X8 := X6.wide (L' := []) (cells' := 1) (slots' := len) (fun x hx hlt => by
    simp only [List.nil_append, copyLocs, List.mem_map, List.mem_range] at hx
    obtain ⟨i, -, rfl⟩ := hx
    exact absurd hlt (Nat.lt_irrefl _)) (Nat.le_refl _) (by omega)
  exact ⟨T6, some (.ref s.heap.size), _, _, _, X8, rfl, rfl, rfl, (fun h => by cases h), ⟨⟨rfl, B6, ba3.like (X3.warmed.alike.symm.trans X6.warmed.alike) p6.1 f6.1 f6.2.1 f6.2.2.1, f6.2.1.trans bv3, by rw [X6.warmed.alike.findClass, f6.1]; exact bf3, by rw [f6.2.2.1, bs3]; simp, fun j hj => by rw [f6.2.2.2 j, if_pos (by omega)]; rfl, kp3.put p6 (Nat.le_refl _)⟩, by rw [p6.2.2, bh3, hh0]; simp⟩, fun fs hl => c8.trans (X8.areturnOut hexec rfl hret rfl (hb hbytes d58) hl)⟩
end Cmp3
namespace CodL
def yN : MethodName := ⟨"java/lang/StringUTF16", "coderFromArrayLen", "([BI)B"⟩
abbrev yB : ByteArray := jdk_52_method_15_code
theorem d0 : decode yB 0 = .ok (.iload_n 1, 1) := by decide +kernel
theorem d1 : decode yB 1 = .ok (.aload_n 0, 1) := by decide +kernel
theorem d2 : decode yB 2 = .ok (.arraylength, 1) := by decide +kernel
theorem d3 : decode yB 3 = .ok (.isub, 1) := by decide +kernel
theorem d4 : decode yB 4 = .ok (.bipush 31, 2) := by decide +kernel
theorem d6 : decode yB 6 = .ok (.iushr, 1) := by decide +kernel
theorem d7 : decode yB 7 = .ok (.i2b, 1) := by decide +kernel
theorem d8 : decode yB 8 = .ok (.ireturn, 1) := by decide +kernel
def site : List Cond := []
def tab : Cond := tabOf yN yB 2 (some .byte) site
def P (d : Addr) (B : Cell) (args : Array Value) (s : State) : Prop := args = #[.ref d, .int (Int32.ofNat B.slots.size)] ∧ Arr .byte d B s
def E (r : Option Value) (s u : State) : Prop := XT.PureE (some (.int 0)) r s u
/-- an array as long as the number of chars: LATIN1 -/
theorem law (l : Launch) (d : Addr) (B : Cell) : Law l yN 2 2 0 0 yB 2 (some .byte) site (P d B) E [] 0 0 := by
  refine Law.of_walk (plainFor_of_name (by decide +kernel)) (by decide +kernel) (by decide +kernel) (by decide) (fun _ _ h => by rw [h.1]; rfl) (fun _ U U' hal hh h => ⟨h.1, h.2.mv hal hh⟩) (fun r U U' V V' h1 hal h2 h => XT.PureE.mv r U U' V V' h1 hal h2 h) ?_
  intro p e s m args below meth c s₁ X0 hexec hbytes hml hret hlk hnm hown hh0 W hP
  obtain ⟨rfl, hB⟩ := hP
  have hB0 := hB.mv X0.warmed.alike hh0
  have c1 : Steps p.tables e below (s₁.setTop (entryFrame m #[.ref d, .int (Int32.ofNat B.slots.size)] 2)) (s₁.setTop (mkF m 0 #[.val (.ref d), .val (.int (Int32.ofNat B.slots.size))] [])) := entry rfl
  have c2 : Steps p.tables e below (s₁.setTop (entryFrame m #[.ref d, .int (Int32.ofNat B.slots.size)] 2)) (s₁.setTop (mkF m 2 #[.val (.ref d), .val (.int (Int32.ofNat B.slots.size))] [.ref d, .int (Int32.ofNat B.slots.size)])) := c1.trans (by
    refine XS.iloadN X0.here hexec rfl (hb hbytes d0) rfl ?_
    refine XS.aloadN X0.here hexec rfl (hb hbytes d1) rfl rfl ?_
    exact Steps.refl _)
  have c3 : Steps p.tables e below (s₁.setTop (entryFrame m #[.ref d, .int (Int32.ofNat B.slots.size)] 2)) (s₁.setTop (mkF m 8 #[.val (.ref d), .val (.int (Int32.ofNat B.slots.size))] [.int (lo8 (ushr (Int32.ofNat B.slots.size - Int32.ofNat B.slots.size) 31))])) := c2.trans (by
    refine X0.alen hexec hB0 rfl rfl (hb hbytes d2) ?_
    refine XS.isub X0.here hexec rfl (hb hbytes d3) rfl ?_
    refine bipushV X0.here hexec rfl 31 (hb hbytes d4) (by decide) ?_
    refine iushr X0.here hexec rfl (hb hbytes d6) rfl ?_
    refine i2b X0.here hexec rfl (hb hbytes d7) rfl ?_
    exact Steps.refl _)
  have e0 : lo8 (ushr (Int32.ofNat B.slots.size - Int32.ofNat B.slots.size) 31) = 0 := by rw [Int32.sub_self]; decide
  rw [e0] at c3
  exact ⟨s₁, some (.int 0), _, _, _, X0, rfl, rfl, rfl, (fun h => by cases h), ⟨rfl, hh0⟩, fun fs hl => c3.trans (X0.ireturnOut hexec hret rfl (Or.inr (Or.inr (Or.inl rfl))) (hb hbytes d8) hl)⟩
end CodL
/-- the String at a is Latin-1 over a new byte[] (the heap's one new cell): the low bytes of the len chars of A from o on; every cell but a is kept -/
def Got (a : Addr) (D : Cell) (fV fC : Field) (A : Cell) (o len : Nat) (r : Option Value) (s u : State) : Prop := r = none ∧ ∃ D' V : Cell, Blank "java/lang/String" a D' u ∧ Same D D' [fV.slot, fC.slot] ∧ D'.slots[fV.slot]? = some (.ref s.heap.size) ∧ D'.slots[fC.slot]? = some (.int 0) ∧ Arr .byte s.heap.size V u ∧ V.vm = .none ∧ u.vm.findClass "[B" = some V.cls ∧ V.slots.size = len ∧ (∀ j, j < len → V.slots[j]? = some (.int (lo8 (cv A (o + j))))) ∧ (∀ (y : Addr) (c : Cell), y ≠ a → s.heap[y]? = some c → u.heap[y]? = some c) ∧ u.heap.size = s.heap.size + 1
theorem Got.mv {a : Addr} {D A : Cell} {fV fC : Field} {o len : Nat} : ∀ r (U U' V V' : State), U'.heap = U.heap → V.vm.Alike V'.vm → V'.heap = V.heap → Got a D fV fC A o len r U V → Got a D fV fC A o len r U' V' :=
  fun r U U' V V' h1 hal h2 ⟨e0, D', X, a1, a2, a3, a4, a5, a6, a7, a8, a9, a10, a11⟩ => ⟨e0, D', X, a1.mv hal h2, a2, by rw [h1]; exact a3, a4, by rw [h1]; exact a5.mv hal h2, a6, by rw [hal.findClass]; exact a7, a8, a9, by rw [h1, h2]; exact a10, by rw [h1, h2]; exact a11⟩
namespace New4
def yN : MethodName := ⟨"java/lang/String", "<init>", "([CIILjava/lang/Void;)V"⟩
abbrev yB : ByteArray := jdk_42_method_149_code
theorem d0 : decode yB 0 = .ok (.aload_n 0, 1) := by decide +kernel
theorem d1 : decode yB 1 = .ok (.invokespecial 1, 3) := by decide +kernel
theorem d4 : decode yB 4 = .ok (.iload_n 3, 1) := by decide +kernel
theorem d5 : decode yB 5 = .ok (.ifCond (.ne) 22, 3) := by decide +kernel
theorem d27 : decode yB 27 = .ok (.getstatic 38, 3) := by decide +kernel
theorem d30 : decode yB 30 = .ok (.ifCond (.eq) 28, 3) := by decide +kernel
theorem d33 : decode yB 33 = .ok (.aload_n 1, 1) := by decide +kernel
theorem d34 : decode yB 34 = .ok (.iload_n 2, 1) := by decide +kernel
theorem d35 : decode yB 35 = .ok (.iload_n 3, 1) := by decide +kernel
theorem d36 : decode yB 36 = .ok (.invokestatic 177, 3) := by decide +kernel
theorem d39 : decode yB 39 = .ok (.astore 5, 2) := by decide +kernel
theorem d41 : decode yB 41 = .ok (.aload_n 0, 1) := by decide +kernel
theorem d42 : decode yB 42 = .ok (.aload 5, 2) := by decide +kernel
theorem d44 : decode yB 44 = .ok (.iload_n 3, 1) := by decide +kernel
theorem d45 : decode yB 45 = .ok (.invokestatic 47, 3) := by decide +kernel
theorem d48 : decode yB 48 = .ok (.putfield 15, 3) := by decide +kernel
theorem d51 : decode yB 51 = .ok (.aload_n 0, 1) := by decide +kernel
theorem d52 : decode yB 52 = .ok (.aload 5, 2) := by decide +kernel
theorem d54 : decode yB 54 = .ok (.putfield 9, 3) := by decide +kernel
theorem d57 : decode yB 57 = .ok (.return_, 1) := by decide +kernel
def site : List Cond := [.fieldLink "java/lang/String" 38 "java/lang/String" "COMPACT_STRINGS" "Z", Cmp3.tab, CodL.tab, .laysFinal "java/lang/String" "java/lang/String" "value" "[B", .fieldLink "java/lang/String" 9 "java/lang/String" "value" "[B", .laysFinal "java/lang/String" "java/lang/String" "coder" "B", .fieldLink "java/lang/String" 15 "java/lang/String" "coder" "B"] ++ objW "java/lang/String" 1 ++ staticW "java/lang/String" 177 Cmp3.yN ++ staticW "java/lang/String" 47 CodL.yN
def tab : Cond := tabOf yN yB 6 none site
def P (a : Addr) (D : Cell) (fV fC : Field) (b : Addr) (A : Cell) (z : Int32) (o len : Nat) (args : Array Value) (s : State) : Prop := args = #[.ref a, .ref b, .int (Int32.ofNat o), .int (Int32.ofNat len), .null] ∧ Blank "java/lang/String" a D s ∧ Found "java/lang/String" "value" "[B" fV s ∧ Found "java/lang/String" "coder" "B" fC s ∧ Ch b A s ∧ StaticIs s "java/lang/String" "COMPACT_STRINGS" "Z" (.int z) ∧ ¬ z = 0 ∧ 0 < len ∧ o + len ≤ A.slots.size ∧ len ≤ 536870912 ∧ ∀ i, i < len → ¬ 255 < cv A (o + i)
def E (a : Addr) (D : Cell) (fV fC : Field) (A : Cell) (o len : Nat) (r : Option Value) (s u : State) : Prop := Got a D fV fC A o len r s u
/-- len > 0, no char of the range above 255: a Latin-1 String of their low bytes -/
theorem law (l : Launch) (a : Addr) (D : Cell) (fV fC : Field) (b : Addr) (A : Cell) (z : Int32) (o len : Nat) : Law l yN 5 4 2 35 yB 6 none site (P a D fV fC b A z o len) (E a D fV fC A o len) [⟨a, fC.slot⟩, ⟨a, fV.slot⟩] 1 len := by
  refine Law.of_walk (plainFor_of_name (by decide +kernel)) (by decide +kernel) (by decide +kernel) (by decide) (fun _ _ h => by rw [h.1]; rfl) (fun _ U U' hal hh h => ⟨h.1, h.2.1.mv hal hh, h.2.2.1.al hal, h.2.2.2.1.al hal, h.2.2.2.2.1.mv hal hh, h.2.2.2.2.2.1.there hal hh, h.2.2.2.2.2.2⟩) (fun r U U' V V' h1 hal h2 h => Got.mv r U U' V V' h1 hal h2 h) ?_
  intro p e s m args below meth c s₁ X0 hexec hbytes hml hret hlk hnm hown hh0 W hP
  obtain ⟨rfl, hB, f1, f2, hA, s1, hz, l0, l1, l2, hp⟩ := hP
  have a31 := hA.1.2.2.2
  have c1 : Steps p.tables e below (s₁.setTop (entryFrame m #[.ref a, .ref b, .int (Int32.ofNat o), .int (Int32.ofNat len), .null] 6)) (s₁.setTop (mkF m 0 #[.val (.ref a), .val (.ref b), .val (.int (Int32.ofNat o)), .val (.int (Int32.ofNat len)), .val .null, .unset] [])) := entry rfl
  have c2 : Steps p.tables e below (s₁.setTop (entryFrame m #[.ref a, .ref b, .int (Int32.ofNat o), .int (Int32.ofNat len), .null] 6)) (s₁.setTop (mkF m 1 #[.val (.ref a), .val (.ref b), .val (.int (Int32.ofNat o)), .val (.int (Int32.ofNat len)), .val .null, .unset] [.ref a])) := c1.trans (by
    refine XS.aloadN X0.here hexec rfl (hb hbytes d0) rfl rfl ?_
    exact Steps.refl _)
  obtain ⟨T3, X3, q3, st3⟩ := X0.oinit hexec hown (wks W (objW "java/lang/String" 1)) (g := (mkF m 1 #[.val (.ref a), .val (.ref b), .val (.int (Int32.ofNat o)), .val (.int (Int32.ofNat len)), .val .null, .unset] [.ref a])) rfl (by rw [hml]; rfl) (rest := []) rfl (hb hbytes d1) (W := 0) (by show 2 * 0 + 0 ≤ _; decide) (Nat.le_of_ble_eq_true rfl) (Nat.le_of_ble_eq_true rfl)
  have hh3 := q3.trans hh0
  have c4 : Steps p.tables e below (s₁.setTop (entryFrame m #[.ref a, .ref b, .int (Int32.ofNat o), .int (Int32.ofNat len), .null] 6)) (T3.setTop (mkF m 27 #[.val (.ref a), .val (.ref b), .val (.int (Int32.ofNat o)), .val (.int (Int32.ofNat len)), .val .null, .unset] [])) := (c2.trans (st3 _ (Steps.refl _))).trans (by
    refine XS.iloadN X3.here hexec rfl (hb hbytes d4) rfl ?_
    refine XS.ifYes X3.here hexec rfl (pc0 := 5) rfl (hb hbytes d5) rfl (i0_ne_t (nz32 (by omega) l0)) (by decide) rfl ?_
    exact Steps.refl _)
  obtain ⟨T5, X5, q5, st5⟩ := X3.sget hexec hown (wk W (.fieldLink "java/lang/String" 38 "java/lang/String" "COMPACT_STRINGS" "Z")) s1 (fun _ _ h => by rw [hh3]; exact h) (g := (mkF m 27 #[.val (.ref a), .val (.ref b), .val (.int (Int32.ofNat o)), .val (.int (Int32.ofNat len)), .val .null, .unset] [])) rfl (hb hbytes d27)
  have hh5 := q5.trans hh3
  have c6 : Steps p.tables e below (s₁.setTop (entryFrame m #[.ref a, .ref b, .int (Int32.ofNat o), .int (Int32.ofNat len), .null] 6)) (T5.setTop (mkF m 30 #[.val (.ref a), .val (.ref b), .val (.int (Int32.ofNat o)), .val (.int (Int32.ofNat len)), .val .null, .unset] [.int z])) := c4.trans (st5 _ (Steps.refl _))
  have c7 : Steps p.tables e below (s₁.setTop (entryFrame m #[.ref a, .ref b, .int (Int32.ofNat o), .int (Int32.ofNat len), .null] 6)) (T5.setTop (mkF m 36 #[.val (.ref a), .val (.ref b), .val (.int (Int32.ofNat o)), .val (.int (Int32.ofNat len)), .val .null, .unset] [.int (Int32.ofNat len), .int (Int32.ofNat o), .ref b])) := c6.trans (by
    refine XS.ifNo X5.here hexec rfl (hb hbytes d30) rfl (i0_eq_f hz) ?_
    refine XS.aloadN X5.here hexec rfl (hb hbytes d33) rfl rfl ?_
    refine XS.iloadN X5.here hexec rfl (hb hbytes d34) rfl ?_
    refine XS.iloadN X5.here hexec rfl (hb hbytes d35) rfl ?_
    exact Steps.refl _)
  obtain ⟨v8, T8, X8, E8, g8⟩ := X5.callS hexec (Cmp3.law l b A o len) hown (wks W (staticW "java/lang/String" 177 Cmp3.yN)) (wk W Cmp3.tab) (W := 0) (Nat.le_of_ble_eq_true rfl) (Nat.le_of_ble_eq_true rfl) (Nat.le_refl _) (by show 0 + len ≤ len; omega) (g := (mkF m 36 #[.val (.ref a), .val (.ref b), .val (.int (Int32.ofNat o)), .val (.int (Int32.ofNat len)), .val .null, .unset] [.int (Int32.ofNat len), .int (Int32.ofNat o), .ref b])) rfl (by rw [hml]; rfl) c7 (argsL := [.ref b, .int (Int32.ofNat o), .int (Int32.ofNat len)]) (rest := []) rfl rfl (by show 2 * 0 + 0 ≤ _; decide) (hb hbytes d36) (⟨rfl, hA.mv X5.warmed.alike hh5, l1, l2, hp⟩)
  obtain ⟨e8, z8⟩ := E8
  obtain ⟨rfl, N, n1, n2, n3, n4, n5, n6⟩ := NewArr.mv _ T5 s _ _ hh5.symm (Vm.Alike.refl _) rfl e8
  rw [hh5] at z8
  have hB1 := hB.keep X8.warmed.alike (n6 _ _ hB.1)
  have hne : s.heap.size ≠ a := (Nat.ne_of_lt (Array.getElem?_eq_some_iff.mp hB.1).1).symm
  have c9 : Steps p.tables e below (s₁.setTop (entryFrame m #[.ref a, .ref b, .int (Int32.ofNat o), .int (Int32.ofNat len), .null] 6)) (T8.setTop (mkF m 39 #[.val (.ref a), .val (.ref b), .val (.int (Int32.ofNat o)), .val (.int (Int32.ofNat len)), .val .null, .unset] [.ref s.heap.size])) := g8
  have c10 : Steps p.tables e below (s₁.setTop (entryFrame m #[.ref a, .ref b, .int (Int32.ofNat o), .int (Int32.ofNat len), .null] 6)) (T8.setTop (mkF m 45 #[.val (.ref a), .val (.ref b), .val (.int (Int32.ofNat o)), .val (.int (Int32.ofNat len)), .val .null, .val (.ref s.heap.size)] [.int (Int32.ofNat N.slots.size), .ref s.heap.size, .ref a])) := by
    have hc : Steps p.tables e below (s₁.setTop (entryFrame m #[.ref a, .ref b, .int (Int32.ofNat o), .int (Int32.ofNat len), .null] 6)) (T8.setTop (mkF m 45 #[.val (.ref a), .val (.ref b), .val (.int (Int32.ofNat o)), .val (.int (Int32.ofNat len)), .val .null, .val (.ref s.heap.size)] [.int (Int32.ofNat len), .ref s.heap.size, .ref a])) := c9.trans (by
      refine XS.astore X8.here hexec rfl (hb hbytes d39) rfl rfl rfl ?_
      refine XS.aloadN X8.here hexec rfl (hb hbytes d41) rfl rfl ?_
      refine XS.aload X8.here hexec rfl (hb hbytes d42) rfl rfl ?_
      refine XS.iloadN X8.here hexec rfl (hb hbytes d44) rfl ?_
      exact Steps.refl _)
    rw [n4]; exact hc
  obtain ⟨v11, T11, X11, E11, g11⟩ := X8.callS hexec (CodL.law l s.heap.size N) hown (wks W (staticW "java/lang/String" 47 CodL.yN)) (wk W CodL.tab) (W := 1) (Nat.le_of_ble_eq_true rfl) (Nat.le_of_ble_eq_true rfl) (Nat.le_refl _) (by show 0 + len + 0 ≤ len; omega) (g := (mkF m 45 #[.val (.ref a), .val (.ref b), .val (.int (Int32.ofNat o)), .val (.int (Int32.ofNat len)), .val .null, .val (.ref s.heap.size)] [.int (Int32.ofNat N.slots.size), .ref s.heap.size, .ref a])) rfl (by rw [hml]; rfl) c10 (argsL := [.ref s.heap.size, .int (Int32.ofNat N.slots.size)]) (rest := [.ref a]) rfl rfl (by show 2 * 0 + (1 + 0) ≤ _; decide) (hb hbytes d45) (⟨rfl, n1⟩)
  obtain ⟨rfl, q11⟩ := E11
  have hB11 := hB1.mv (X8.warmed.alike.symm.trans X11.warmed.alike) q11
  have c12 : Steps p.tables e below (s₁.setTop (entryFrame m #[.ref a, .ref b, .int (Int32.ofNat o), .int (Int32.ofNat len), .null] 6)) (T11.setTop (mkF m 48 #[.val (.ref a), .val (.ref b), .val (.int (Int32.ofNat o)), .val (.int (Int32.ofNat len)), .val .null, .val (.ref s.heap.size)] [.int 0, .ref a])) := g11
  obtain ⟨T13, X13, p13, bl13, sl13, st13⟩ := X11.finit hexec hown (wk W (.fieldLink "java/lang/String" 15 "java/lang/String" "coder" "B")) (Or.inr ⟨_, (wk W (.laysFinal "java/lang/String" "java/lang/String" "coder" "B"))⟩) (Or.inl ⟨rfl, hnm⟩) f2 (Or.inl rfl) hB11 (t := .byte) (by decide +kernel) rfl (g := (mkF m 48 #[.val (.ref a), .val (.ref b), .val (.int (Int32.ofNat o)), .val (.int (Int32.ofNat len)), .val .null, .val (.ref s.heap.size)] [.int 0, .ref a])) rfl (rest := []) rfl (hb hbytes d48)
  have c14 : Steps p.tables e below (s₁.setTop (entryFrame m #[.ref a, .ref b, .int (Int32.ofNat o), .int (Int32.ofNat len), .null] 6)) (T13.setTop (mkF m 54 #[.val (.ref a), .val (.ref b), .val (.int (Int32.ofNat o)), .val (.int (Int32.ofNat len)), .val .null, .val (.ref s.heap.size)] [.ref s.heap.size, .ref a])) := (c12.trans (st13 _ (Steps.refl _))).trans (by
    refine XS.aloadN X13.here hexec rfl (hb hbytes d51) rfl rfl ?_
    refine XS.aload X13.here hexec rfl (hb hbytes d52) rfl rfl ?_
    exact Steps.refl _)
  obtain ⟨T15, X15, p15, bl15, sl15, st15⟩ := X13.finit hexec hown (wk W (.fieldLink "java/lang/String" 9 "java/lang/String" "value" "[B")) (Or.inr ⟨_, (wk W (.laysFinal "java/lang/String" "java/lang/String" "value" "[B"))⟩) (Or.inl ⟨rfl, hnm⟩) f1 (Or.inl rfl) bl13 (t := (.array .byte)) (by decide +kernel) rfl (g := (mkF m 54 #[.val (.ref a), .val (.ref b), .val (.int (Int32.ofNat o)), .val (.int (Int32.ofNat len)), .val .null, .val (.ref s.heap.size)] [.ref s.heap.size, .ref a])) rfl (rest := []) rfl (hb hbytes d54)
  have c16 : Steps p.tables e below (s₁.setTop (entryFrame m #[.ref a, .ref b, .int (Int32.ofNat o), .int (Int32.ofNat len), .null] 6)) (T15.setTop (mkF m 57 #[.val (.ref a), .val (.ref b), .val (.int (Int32.ofNat o)), .val (.int (Int32.ofNat len)), .val .null, .val (.ref s.heap.size)] [])) := c14.trans (st15 _ (Steps.refl _))
  have ap := apart (Or.inr ⟨_, (wk W (.laysFinal "java/lang/String" "java/lang/String" "value" "[B"))⟩) (Or.inr ⟨_, (wk W (.laysFinal "java/lang/String" "java/lang/String" "coder" "B"))⟩) f1 f2 (t₁ := .array .byte) (t₂ := .byte) (by decide +kernel) (by decide +kernel) (by decide)
  have al := X8.warmed.alike.symm.trans X15.warmed.alike
  have n7 : T11.heap[s.heap.size]? = some N := by rw [q11]; exact n1.1
  exact ⟨T15, none, _, _, _, X15, by simp, rfl, by omega, (fun _ => rfl), ⟨rfl, _, N, bl15, ((Same.refl D _).set _ (by simp)).set _ (by simp), sl15, (Cell.slots_setSlot_ne _ ap).trans sl13, n1.keep al (p15.other hne (p13.other hne n7)), n2, by rw [al.findClass]; exact n3, n4, n5, fun y c h1 h2 => p15.other h1 (p13.other h1 (by rw [q11]; exact n6 y c h2)), by rw [p15.2.2, p13.2.2, q11]; exact z8⟩, fun fs hl => c16.trans (X15.returnOut hexec hret (hb hbytes d57) hl)⟩
end New4
namespace New1
def yN : MethodName := ⟨"java/lang/String", "<init>", "([C)V"⟩
abbrev yB : ByteArray := jdk_42_method_3_code
theorem d0 : decode yB 0 = .ok (.aload_n 0, 1) := by decide +kernel
theorem d1 : decode yB 1 = .ok (.aload_n 1, 1) := by decide +kernel
theorem d2 : decode yB 2 = .ok (.iconst 0, 1) := by decide +kernel
theorem d3 : decode yB 3 = .ok (.aload_n 1, 1) := by decide +kernel
theorem d4 : decode yB 4 = .ok (.arraylength, 1) := by decide +kernel
theorem d5 : decode yB 5 = .ok (.aconst_null, 1) := by decide +kernel
theorem d6 : decode yB 6 = .ok (.invokespecial 27, 3) := by decide +kernel
theorem d9 : decode yB 9 = .ok (.return_, 1) := by decide +kernel
def site : List Cond := [New4.tab] ++ initW "java/lang/String" 27 New4.yN
def tab : Cond := tabOf yN yB 2 none site
def P (a : Addr) (D : Cell) (fV fC : Field) (b : Addr) (A : Cell) (z : Int32) (args : Array Value) (s : State) : Prop := args = #[.ref a, .ref b] ∧ Blank "java/lang/String" a D s ∧ Found "java/lang/String" "value" "[B" fV s ∧ Found "java/lang/String" "coder" "B" fC s ∧ Ch b A s ∧ StaticIs s "java/lang/String" "COMPACT_STRINGS" "Z" (.int z) ∧ ¬ z = 0 ∧ 0 < A.slots.size ∧ A.slots.size ≤ 536870912 ∧ ∀ i, i < A.slots.size → ¬ 255 < cv A i
def E (a : Addr) (D : Cell) (fV fC : Field) (A : Cell) (r : Option Value) (s u : State) : Prop := Got a D fV fC A 0 A.slots.size r s u
/-- new String(chars), not empty, no char above 255: a Latin-1 String of their low bytes -/
theorem law (l : Launch) (a : Addr) (D : Cell) (fV fC : Field) (b : Addr) (A : Cell) (z : Int32) : Law l yN 2 1 3 52 yB 2 none site (P a D fV fC b A z) (E a D fV fC A) [⟨a, fC.slot⟩, ⟨a, fV.slot⟩] 1 A.slots.size := by
  refine Law.of_walk (plainFor_of_name (by decide +kernel)) (by decide +kernel) (by decide +kernel) (by decide) (fun _ _ h => by rw [h.1]; rfl) (fun _ U U' hal hh h => ⟨h.1, h.2.1.mv hal hh, h.2.2.1.al hal, h.2.2.2.1.al hal, h.2.2.2.2.1.mv hal hh, h.2.2.2.2.2.1.there hal hh, h.2.2.2.2.2.2⟩) (fun r U U' V V' h1 hal h2 h => Got.mv r U U' V V' h1 hal h2 h) ?_
  intro p e s m args below meth c s₁ X0 hexec hbytes hml hret hlk hnm hown hh0 W hP
  obtain ⟨rfl, hB, f1, f2, hA, s1, hz, l0, l2, hp⟩ := hP
  have c1 : Steps p.tables e below (s₁.setTop (entryFrame m #[.ref a, .ref b] 2)) (s₁.setTop (mkF m 0 #[.val (.ref a), .val (.ref b)] [])) := entry rfl
  have c2 : Steps p.tables e below (s₁.setTop (entryFrame m #[.ref a, .ref b] 2)) (s₁.setTop (mkF m 6 #[.val (.ref a), .val (.ref b)] [.null, .int (Int32.ofNat A.slots.size), .int 0, .ref b, .ref a])) := c1.trans (by
    refine XS.aloadN X0.here hexec rfl (hb hbytes d0) rfl rfl ?_
    refine XS.aloadN X0.here hexec rfl (hb hbytes d1) rfl rfl ?_
    refine iconstV X0.here hexec rfl 0 (hb hbytes d2) (by decide) ?_
    refine XS.aloadN X0.here hexec rfl (hb hbytes d3) rfl rfl ?_
    refine X0.alen hexec (hA.1.mv X0.warmed.alike hh0) rfl rfl (hb hbytes d4) ?_
    refine XS.aconstNull X0.here hexec rfl (hb hbytes d5) ?_
    exact Steps.refl _)
  obtain ⟨v3, T3, X3, E3, g3⟩ := X0.callN hexec (New4.law l a D fV fC b A z 0 A.slots.size) rfl hown (wks W (initW "java/lang/String" 27 New4.yN)) (W New4.tab (by simp only [site, List.mem_cons, List.mem_append, true_or, or_true])) (W := 0) (Nat.le_of_ble_eq_true rfl) (Nat.le_of_ble_eq_true rfl) (Nat.le_refl _) (by show 0 + A.slots.size ≤ A.slots.size; omega) (g := (mkF m 6 #[.val (.ref a), .val (.ref b)] [.null, .int (Int32.ofNat A.slots.size), .int (Int32.ofNat 0), .ref b, .ref a])) rfl (by rw [hml]; rfl) c2 (argsL := [.ref b, .int (Int32.ofNat 0), .int (Int32.ofNat A.slots.size), .null]) (rest := []) rfl rfl (by show 2 * 0 + 0 ≤ _; decide) (hb hbytes d6) (⟨rfl, hB.mv X0.warmed.alike hh0, f1.al X0.warmed.alike, f2.al X0.warmed.alike, hA.mv X0.warmed.alike hh0, s1.there X0.warmed.alike hh0, hz, l0, by omega, l2, fun i hi => by rw [Nat.zero_add]; exact hp i hi⟩)
  have e0 := Got.mv _ s₁ s _ _ hh0.symm (Vm.Alike.refl _) rfl E3
  obtain rfl := e0.1
  have c4 : Steps p.tables e below (s₁.setTop (entryFrame m #[.ref a, .ref b] 2)) (T3.setTop (mkF m 9 #[.val (.ref a), .val (.ref b)] [])) := g3
  exact ⟨T3, none, _, _, _, X3, by simp, rfl, by omega, (fun _ => rfl), e0, fun fs hl => c4.trans (X3.returnOut hexec hret (hb hbytes d9) hl)⟩
theorem pays {l : Launch} {R : Room} {p : Program} {e : Env} {below : List Frame} {s : State} {sargs : Array Value} {len W : Nat} (a : Addr) (D : Cell) (fV fC : Field) (b : Addr) (A : Cell) (z : Int32) (htab : tab.before sargs s = true) (hfr : 4 ≤ R.frames) (hlo : W + 65 ≤ R.locals) :
    Back l R p e below s sargs yN len W (fun A₁ a₁ => A₁.cells + 1 ≤ R.cells ∧ A₁.slots + A.slots.size ≤ R.slots ∧ P a D fV fC b A z a₁ A₁.U) (fun A₁ _ v₁ B₁ => E a D fV fC A v₁ A₁.U B₁.U ∧ B₁.locs = A₁.locs ++ [⟨a, fC.slot⟩, ⟨a, fV.slot⟩] ∧ B₁.cells = A₁.cells + 1 ∧ B₁.slots = A₁.slots + A.slots.size) :=
  (law l a D fV fC b A z).pays htab hfr (by omega)
end New1
/-- the byte, read back as charAt reads it, is the char -/
theorem lo8_mask {x : Int32} (h0 : ¬ x < 0) (h1 : ¬ 255 < x) : lo8 x &&& 255 = x := by
  have t : ∀ k : Fin 256, lo8 (Int32.ofNat k.val) &&& 255 = Int32.ofNat k.val := by decide +kernel
  rw [Int32.lt_iff_toInt_lt] at h0 h1
  have e0 : (0 : Int32).toInt = 0 := rfl
  have e1 : (255 : Int32).toInt = 255 := rfl
  obtain ⟨k, hk⟩ : ∃ k : Nat, x.toInt = k := ⟨x.toInt.toNat, by omega⟩
  have hx : x = Int32.ofNat k := Int32.toInt_inj.mp (by rw [hk, Int32.toInt_ofNat_small (by omega)])
  rw [hx]
  exact t ⟨k, by omega⟩
end StrChars
namespace StrChars.Road
open Jvm Sem ClassFile Op Lib Jvm.Stand Jvm.Free Jvm.Free.XT
open Jvm.Lib.Cold (StaticIs)
abbrev ST : String := "java/lang/String"
/-- every table word that New1's law asks, flat -/
abbrev words : List Jvm.Cond := [.code New1.yN New1.yB 2 none, .initialized ST, .methodLink ST 27 New4.yN, .instanceMethod New4.yN,
  .code New4.yN New4.yB 6 none, .fieldLink ST 38 ST "COMPACT_STRINGS" "Z", .laysFinal ST ST "value" "[B", .fieldLink ST 9 ST "value" "[B", .laysFinal ST ST "coder" "B", .fieldLink ST 15 ST "coder" "B",
  .methodLink ST 1 Lib.objectInit, .instanceMethod Lib.objectInit, .code Lib.objectInit ⟨#[0xb1]⟩ 1 none, .methodLink ST 177 Cmp3.yN, .static Cmp3.yN, .methodLink ST 47 CodL.yN, .static CodL.yN,
  .code Cmp3.yN Cmp3.yB 6 (some (.array .byte)), .initialized U16, .arrayClass .byte, .methodLink U16 115 Cmp5.yN, .static Cmp5.yN, .code Cmp5.yN Cmp5.yB 7 (some .int), .code CodL.yN CodL.yB 2 (some .byte)]
theorem tab_of {a : Array Value} {s : State} (h : ∀ w ∈ words, w.before a s = true) : New1.tab.before a s = true := by
  have h5 : Cmp5.tab.before a s = true := unparts (wk h (.code Cmp5.yN Cmp5.yB 7 (some .int))) (wks h (.initialized Cmp5.yN.cls :: Cmp5.site))
  have hc : CodL.tab.before a s = true := unparts (wk h (.code CodL.yN CodL.yB 2 (some .byte))) (wks h (.initialized CodL.yN.cls :: CodL.site))
  have q5 : ∀ w ∈ Cmp5.tab :: words, w.before a s = true := fun w hw => (List.mem_cons.mp hw).elim (fun e => e ▸ h5) (h w)
  have h3 : Cmp3.tab.before a s = true := unparts (wk q5 (.code Cmp3.yN Cmp3.yB 6 (some (.array .byte)))) (wks q5 (.initialized Cmp3.yN.cls :: Cmp3.site))
  have q3 : ∀ w ∈ Cmp3.tab :: CodL.tab :: words, w.before a s = true := fun w hw => (List.mem_cons.mp hw).elim (fun e => e ▸ h3) fun hw => (List.mem_cons.mp hw).elim (fun e => e ▸ hc) (h w)
  have h4 : New4.tab.before a s = true := unparts (wk q3 (.code New4.yN New4.yB 6 none)) (wks q3 (.initialized New4.yN.cls :: New4.site))
  have q4 : ∀ w ∈ New4.tab :: words, w.before a s = true := fun w hw => (List.mem_cons.mp hw).elim (fun e => e ▸ h4) (h w)
  exact unparts (wk q4 (.code New1.yN New1.yB 2 none)) (wks q4 (.initialized New1.yN.cls :: New1.site))
/-- the words ride from the start Z to the walk's own state -/
theorem moved {Z s : State} {a0 args : Array Value} (hZ : Z.Warmed39 s.vm) (hw : ∀ d ∈ words, d.before a0 Z = true) : ∀ d ∈ words, d.before args s = true := fun d hd => by
  have q := hw d hd
  have t : ∀ d ∈ words, d = .arrayClass .byte ∨ (d.onTables && d.keepsFace) = true := by decide +kernel
  rcases t d hd with rfl | t
  · exact RoadKit.mvA hZ q
  · exact RoadKit.mv hZ q t
/-- WHAT COMES BACK, over the tables of the start Z: h the heap at the call, h' behind it -/
def Q (Z : State) (x : Addr) (A : Cell) (h : Heap) (v : Option Value) (h' : Heap) (L : List Loc) : Prop := v = none ∧ (∀ y ∈ L, y.base = x) ∧ RoadKit.Keep h h' [x] ∧ h'.size = h.size + 1 ∧ RoadKit.Exa Z h' x ST ∧ RoadKit.Fld Z h' x ST "value" "[B" (.ref h.size) ∧ RoadKit.Fld Z h' x ST "coder" "B" (.int 0) ∧
  (∃ V : Cell, RoadKit.Arr Z h' h.size V .byte ∧ V.vm = .none ∧ Z.vm.findClass "[B" = some V.cls ∧ V.slots.size = A.slots.size ∧ ∀ j, j < A.slots.size → V.slots[j]? = some (.int (lo8 (cv A j)))) ∧
  ∀ (O n d : String) (w : Value), RoadKit.Fld Z h x O n d w → RoadKit.slotOf Z O n d ≠ RoadKit.slotOf Z ST "value" "[B" → RoadKit.slotOf Z O n d ≠ RoadKit.slotOf Z ST "coder" "B" → RoadKit.Fld Z h' x O n d w
/-- **new String(chars) AT A CALL, IN THE ROAD'S FORM**: for specialBack behind newO: x the fresh String, b the char[] with the cell A -/
theorem back {p : Program} {l : Launch} {e : Env} {R : Room} {s : State} {args : Array Value} {below : List Frame} {len W : Nat} {Z : State} {a0 : Array Value} {h : Heap} (hZ : Z.Warmed39 s.vm) (hw : ∀ d ∈ words, d.before a0 Z = true) {kI : Nat} (wi : (Jvm.Cond.instantiable ST kI).before a0 Z = true)
    {x b : Addr} {A : Cell} {z : Int32} {v0 c0 : Value} (E : RoadKit.Exa Z h x ST) (V : RoadKit.Fld Z h x ST "value" "[B" v0) (C : RoadKit.Fld Z h x ST "coder" "B" c0) (K : RoadKit.Arr Z h b A .char) (hty : Typed .char A) (S : RoadKit.Sta Z h ST "COMPACT_STRINGS" "Z" (.int z)) (hz : ¬ z = 0)
    (l0 : 0 < A.slots.size) (l2 : A.slots.size ≤ 536870912) (hp : ∀ i, i < A.slots.size → ¬ 255 < cv A i) (hfr : 4 ≤ R.frames) (hlo : W + 65 ≤ R.locals) :
    Back l R p e below s args New1.yN len W (fun P a => a = #[.ref x, .ref b] ∧ P.U.heap = h ∧ P.cells + 1 ≤ R.cells ∧ P.slots + A.slots.size ≤ R.slots)
      (fun P _ v B => ∃ L, Q Z x A h v B.U.heap L ∧ B.locs = P.locs ++ L ∧ B.cells = P.cells + 1 ∧ B.slots = P.slots + A.slots.size) := by
  intro m meth c P g ig mk a X hg hsize hdg hW hn hp'
  obtain ⟨rfl, rfl, r1, r2⟩ := hp'
  have al : Z.vm.Alike P.U.vm := hZ.alike.trans X.warmed.alike
  obtain ⟨D, cfV, kV, iV, fV, hD, gV, stV, knV, obV, asV, slV⟩ := id V
  obtain ⟨D', cfC, kC, iC, fC, hD', gC, stC, -, -, asC, slC⟩ := id C
  cases hD.symm.trans hD'
  obtain ⟨D2, kD, e1, e2, e3, e4, e5⟩ := id E
  cases hD.symm.trans e1
  obtain ⟨c2, k2, i1, i2, i3, -⟩ := Cond.instantiable_spec wi
  cases e2.symm.trans i1
  cases e3.symm.trans i2
  obtain ⟨kU, u1, u2⟩ := al.2.2 _ _ e3
  have hB : Blank ST x D P.U := ⟨hD, ⟨knV, fun q hq => by rw [hq] at obV; cases obV⟩, by rw [al.findClass]; exact e2, kU, u1, by rw [u2]; exact i3, by rw [u2]; exact e5 i3⟩
  have F1 : Found ST "value" "[B" fV P.U := ⟨SBG.found_only al ⟨cfV, kV, iV, gV⟩, stV⟩
  have F2 : Found ST "coder" "B" fC P.U := ⟨SBG.found_only al ⟨cfC, kC, iC, gC⟩, stC⟩
  have hA : Ch b A P.U := ⟨⟨K.1, State.isArrayOf_alike al K.2.1, K.2.2, by omega⟩, hty⟩
  have hS : StaticIs P.U ST "COMPACT_STRINGS" "Z" (.int z) := by
    obtain ⟨cfS, iS, kS, fS, st, cS, t1, t2, t3, t4, t5, t6, t7⟩ := S
    exact StaticIs.there (s := { Z with heap := P.U.heap }) ⟨cfS, iS, kS, fS, st, cS, t1, t2, t3, t4, t5, (fun q => by rw [q] at t6; cases t6), t7⟩ al rfl
  obtain ⟨v, B, X', ⟨⟨hv, E', V', q1, q2, q3, q4, q5, q6, q7, q8, q9, q10, q11⟩, hl, hc, hs⟩, st⟩ := New1.pays x D fV fC b A z (tab_of (moved hZ hw)) hfr hlo m meth c P g ig mk _ X hg hsize hdg hW hn ⟨r1, r2, rfl, hB, F1, F2, hA, hS, hz, l0, l2, hp⟩
  have al' : Z.vm.Alike B.U.vm := hZ.alike.trans X'.warmed.alike
  have hsz : E'.slots.size = D.slots.size := by
    obtain ⟨-, -, -, kB, w1, w2, w3⟩ := q1
    obtain ⟨kB', y1, y2⟩ := al'.2.2 _ _ e3
    rw [q2.2.1] at w1
    cases w1.symm.trans y1
    rw [w3, e5 i3, y2]
  refine ⟨v, B, X', ⟨_, ⟨hv, ?_, ⟨by omega, fun y cy hy hn' => q10 y cy (by simpa using hn') hy, fun y cy hy => ?_⟩, q11, ⟨E', _, q1.1, by rw [q2.2.1]; exact e2, by rw [q2.2.1]; exact e3, by rw [q2.1]; exact obV, fun _ => by rw [hsz]; exact e5 i3⟩,
    ⟨E', cfV, kV, iV, fV, q1.1, gV, stV, by rw [q2.1]; exact knV, by rw [q2.1]; exact obV, by rw [q2.2.1]; exact asV, q3⟩, ⟨E', cfC, kC, iC, fC, q1.1, gC, stC, by rw [q2.1]; exact knV, by rw [q2.1]; exact obV, by rw [q2.2.1]; exact asC, q4⟩,
    ⟨V', ⟨q5.1, State.isArrayOf_alike al'.symm q5.2.1, q5.2.2.1⟩, q6, by rw [← al'.findClass]; exact q7, q8, fun j hj => by have := q9 j hj; rwa [Nat.zero_add] at this⟩, fun O n d w F n1 n2 => ?_⟩, hl, hc, hs⟩, st⟩
  · intro y hy
    simp only [List.mem_cons, List.not_mem_nil, or_false] at hy
    rcases hy with rfl | rfl <;> rfl
  · by_cases q : y = x
    · subst q
      cases hD.symm.trans hy
      exact ⟨E', q1.1, q2.2.1, q2.1, hsz⟩
    · exact ⟨cy, q10 y cy q hy, rfl, rfl, rfl⟩
  · obtain ⟨D3, cf, k, i, f, g1, g2, g3, g4, g5, g6, g7⟩ := F
    cases hD.symm.trans g1
    simp only [RoadKit.slotOf, g2, gV, gC, Option.map_some, Option.getD_some] at n1 n2
    exact ⟨E', cf, k, i, f, q1.1, g2, g3, by rw [q2.1]; exact g4, by rw [q2.1]; exact g5, by rw [q2.2.1]; exact g6, by rw [q2.2.2 f.slot (by simp [n1, n2])]; exact g7⟩
end StrChars.Road
namespace StrChars.Road
open Jvm Sem ClassFile Op Lib Jvm.Stand Jvm.Free Jvm.Free.XT
/-- WHAT COMES BACK, the byte[] as a list of values -/
def QA (Z : State) (x : Addr) (zn : Int32) (cs : List Int32) (h : Heap) (v : Option Value) (h' : Heap) (L : List Loc) : Prop := v = none ∧ (∀ y ∈ L, y.base = x) ∧ RoadKit.Keep h h' [x] ∧ h'.size = h.size + 1 ∧ RoadKit.Exa Z h' x ST ∧ RoadKit.Fld Z h' x ST "value" "[B" (.ref h.size) ∧ RoadKit.Fld Z h' x ST "coder" "B" (.int 0) ∧
  (∃ kb, Z.vm.findClass "[B" = some kb ∧ RoadKit.Arv Z h' h.size kb .byte zn (cs.map fun c => .int (lo8 c)) (.int 0)) ∧
  ∀ (O n d : String) (w : Value), RoadKit.Fld Z h x O n d w → RoadKit.slotOf Z O n d ≠ RoadKit.slotOf Z ST "value" "[B" → RoadKit.slotOf Z O n d ≠ RoadKit.slotOf Z ST "coder" "B" → RoadKit.Fld Z h' x O n d w
/-- **new String(chars) AT A CALL, THE ARRAYS AS LISTS**: the char[] at b holds cs, not empty, no char above 255 -/
theorem backArv {p : Program} {l : Launch} {e : Env} {R : Room} {s : State} {args : Array Value} {below : List Frame} {len W : Nat} {Z : State} {a0 : Array Value} {h : Heap} (hZ : Z.Warmed39 s.vm) (hw : ∀ d ∈ words, d.before a0 Z = true) {kI : Nat} (wi : (Jvm.Cond.instantiable ST kI).before a0 Z = true)
    {x b : Addr} {k : ClassId} {zn z : Int32} {cs : List Int32} {dv v0 c0 : Value} (E : RoadKit.Exa Z h x ST) (V : RoadKit.Fld Z h x ST "value" "[B" v0) (C : RoadKit.Fld Z h x ST "coder" "B" c0) (K : RoadKit.Arv Z h b k .char zn (cs.map Value.int) dv) (S : RoadKit.Sta Z h ST "COMPACT_STRINGS" "Z" (.int z)) (hz : ¬ z = 0)
    (hlen : zn.toNatClampNeg = cs.length) (h0 : 0 < cs.length) (hbig : cs.length ≤ 536870912) (hall : ∀ c ∈ cs, ¬ 255 < c) (hfr : 4 ≤ R.frames) (hlo : W + 65 ≤ R.locals) :
    Back l R p e below s args New1.yN len W (fun P a => a = #[.ref x, .ref b] ∧ P.U.heap = h ∧ P.cells + 1 ≤ R.cells ∧ P.slots + cs.length ≤ R.slots)
      (fun P _ v B => ∃ L, QA Z x zn cs h v B.U.heap L ∧ B.locs = P.locs ++ L ∧ B.cells = P.cells + 1 ∧ B.slots = P.slots + cs.length) := by
  obtain ⟨A, K1, K2, K3, K4, K5, K6⟩ := K
  have e : A.slots.size = cs.length := K3.trans hlen
  have hat : ∀ (i : Nat) (hi : i < cs.length), A.slots[i]? = some (.int cs[i]) := fun i hi => by rw [K5 i (by omega)]; simp [List.getD_eq_getElem?_getD, hi]
  have hcv : ∀ (i : Nat) (hi : i < cs.length), cv A i = cs[i] := fun i hi => by unfold cv; rw [hat i hi]
  have hty : Typed .char A := fun i v hv => by
    have hi : i < A.slots.size := (Array.getElem?_eq_some_iff.mp hv).1
    have q := K5 i hi
    rw [hv] at q
    rw [Option.some.inj q]
    exact K6 i hi
  refine Back.mono (back hZ hw wi E V C K1 hty S hz (by omega) (by omega) (fun i hi => by rw [hcv i (by omega)]; exact hall _ (List.getElem_mem _)) hfr hlo) (fun P a hp => ⟨hp.1, hp.2.1, hp.2.2.1, by rw [e]; exact hp.2.2.2⟩) (fun P a v B hp hq => ?_)
  obtain ⟨L, ⟨q1, q2, q3, q4, q5, q6, q7, ⟨V', v1, v2, v3, v4, v5⟩, q9⟩, hl, hc, hs⟩ := hq
  refine ⟨L, ⟨q1, q2, q3, q4, q5, q6, q7, ⟨V'.cls, v3, V', v1, rfl, by rw [v4, e, hlen], K4, fun i hi => ?_, fun i hi => ?_⟩, q9⟩, hl, hc, by rw [hs, e]⟩
  · have hi' : i < cs.length := by omega
    rw [v5 i (by omega), hcv i hi']; simp [List.getD_eq_getElem?_getD, hi']
  · have hi' : i < cs.length := by omega
    simp only [List.getD_eq_getElem?_getD, List.getElem?_map, List.getElem?_eq_getElem hi', Option.map_some, Option.getD_some]
    exact fits_lo8 _
end StrChars.Road
namespace StrChars.Road
open Jvm Sem ClassFile Op Lib Jvm.Stand Jvm.Free Jvm.Free.XT
/-- WHAT COMES BACK, in the writer's own shape -/
def QV (Z : State) (x : Addr) (N : Int32) (bs : List Int32) (h : Heap) (n0 : Nat) (v : Option Value) (h' : Heap) (L : List Loc) : Prop := v = none ∧ RoadKit.Fr n0 L ∧ RoadKit.Keep h h' [x] ∧ RoadKit.Exa Z h' x ST ∧ RoadKit.Fld Z h' x ST "coder" "B" (.int 0) ∧
  ∃ (t : Addr) (kb : ClassId), n0 ≤ t ∧ h.size ≤ t ∧ ¬ t = x ∧ RoadKit.Fld Z h' x ST "value" "[B" (.ref t) ∧ RoadKit.Arv Z h' t kb .byte N (bs.map Value.int) (.int 0)
/-- **new String(chars) AT A CALL, FOR THE WRITER**: a char[] of n known ints, each 0 to 255 -/
theorem backV {p : Program} {l : Launch} {e : Env} {R : Room} {s : State} {args : Array Value} {below : List Frame} {len W : Nat} {Z : State} {a0 : Array Value} {h : Heap} (hZ : Z.Warmed39 s.vm) (hw : ∀ d ∈ words, d.before a0 Z = true) {kI : Nat} (wi : (Jvm.Cond.instantiable ST kI).before a0 Z = true)
    {x b : Addr} {kC : ClassId} {cs bs : List Int32} {d v0 c0 : Value} {z N : Int32} {n n0 : Nat} (hx0 : n0 ≤ x) (hh0 : n0 ≤ h.size) (E : RoadKit.Exa Z h x ST) (V : RoadKit.Fld Z h x ST "value" "[B" v0) (C : RoadKit.Fld Z h x ST "coder" "B" c0) (K : RoadKit.Arv Z h b kC .char N (cs.map Value.int) d) (S : RoadKit.Sta Z h ST "COMPACT_STRINGS" "Z" (.int z)) (hz : ¬ z = 0)
    (hn : cs.length = n) (hN : N = Int32.ofNat n) (l0 : 0 < n) (l2 : n ≤ 4000) (hp : ∀ c ∈ cs, ¬ c < 0 ∧ ¬ (255 : Int32) < c) (hb : bs = cs.map (fun c => c.toInt8.toInt32)) (hfr : 4 ≤ R.frames) (hlo : W + 65 ≤ R.locals) :
    Back l R p e below s args (⟨"java/lang/String", "<init>", "([C)V"⟩ : MethodName) len W (fun P a => a = #[.ref x, .ref b] ∧ P.U.heap = h ∧ P.cells + 1 ≤ R.cells ∧ P.slots + n ≤ R.slots)
      (fun P _ v B => ∃ L, QV Z x N bs h n0 v B.U.heap L ∧ B.locs = P.locs ++ L ∧ B.cells = P.cells + 1 ∧ B.slots = P.slots + n) := by
  subst hn hN hb
  refine Back.mono (backArv hZ hw wi E V C K S hz (n32 (by omega)) l0 (by omega) (fun c hc => (hp c hc).2) hfr hlo) (fun P a hp => hp) (fun P a v B hp hq => ?_)
  obtain ⟨L, ⟨q1, q2, q3, q4, q5, q6, q7, ⟨kb, v1, v2⟩, q9⟩, hl, hc, hs⟩ := hq
  exact ⟨L, ⟨q1, fun y hy => by rw [q2 y hy]; exact hx0, q3, q5, q7, h.size, kb, hh0, Nat.le_refl _, Nat.ne_of_gt E.lt, q6, by rw [List.map_map]; exact v2⟩, hl, hc, hs⟩
end StrChars.Road
namespace StrChars
open Jvm Sem ClassFile Op Lib Jvm.Stand Jvm.Free.XT Jvm.Free.ALB Jvm.Free.JM Jvm.Free
open Jvm.Lib.Cold (StaticIs)
def hi8 (x : Int32) : Int32 := lo8 (x >>> ((8 : Int32) &&& 31))
/-- what StringUTF16.getChar makes of two bytes -/
def pairCh (u v : Int32) : Int32 := (((u &&& 255) <<< ((0 : Int32) &&& 31)) ||| ((v &&& 255) <<< ((8 : Int32) &&& 31))).toUInt32.toUInt16.toUInt32.toInt32
theorem lo8_and (x : Int32) : (lo8 x &&& 255).toBitVec.toNat = x.toBitVec.toNat % 256 := by
  have h : (lo8 x).toBitVec = (x.toBitVec.signExtend 8).signExtend 32 := by rw [lo8, Int8.toBitVec_toInt32, Int32.toBitVec_toInt8]
  rw [Int32.toBitVec_and, BitVec.toNat_and, h]
  have e : ((x.toBitVec.signExtend 8).signExtend 32).toNat % 256 = x.toBitVec.toNat % 256 := by
    rw [BitVec.toNat_signExtend]
    have hlt := x.toBitVec.isLt
    simp only [BitVec.toNat_setWidth, BitVec.toNat_signExtend]
    split <;> split <;> omega
  rw [← e]
  exact Nat.and_two_pow_sub_one_eq_mod _ 8
theorem pair_says {c : Int32} (h0 : ¬ c < 0) (h1 : ¬ 65535 < c) : pairCh (lo8 c) (hi8 c) = c := by
  rw [Int32.lt_iff_toInt_lt] at h0 h1
  have e0 : (0 : Int32).toInt = 0 := rfl
  have e1 : (65535 : Int32).toInt = 65535 := rfl
  have hc : c.toInt = c.toBitVec.toNat := by
    have := c.toBitVec.isLt
    have e : c.toInt = c.toBitVec.toInt := rfl
    rw [e] at h0 h1
    rw [e]
    rw [BitVec.toInt_eq_toNat_cond] at h0 h1 ⊢
    split at h0 <;> split <;> omega
  have hn : c.toBitVec.toNat < 65536 := by omega
  have a1 := lo8_and c
  have a2 : (hi8 c &&& 255).toBitVec.toNat = c.toBitVec.toNat / 256 := by
    rw [hi8, lo8_and]
    have e : ((8 : Int32) &&& 31) = 8 := by decide
    rw [e, Int32.toBitVec_shiftRight]
    have e2 : ((8 : Int32).toBitVec.smod 32) = 8#32 := by decide
    rw [e2, BitVec.sshiftRight_eq', BitVec.toNat_sshiftRight_of_msb_false (by rw [BitVec.msb_eq_false_iff_two_mul_lt]; omega)]
    show c.toBitVec.toNat >>> 8 % 256 = _
    rw [Nat.shiftRight_eq_div_pow]
    omega
  unfold pairCh
  apply Int32.toBitVec_inj.mp
  apply BitVec.eq_of_toNat_eq
  have f0 : ((0 : Int32) &&& 31) = 0 := by decide
  have f8 : ((8 : Int32) &&& 31) = 8 := by decide
  rw [f0, f8]
  have g : (((lo8 c &&& 255) <<< (0 : Int32)) ||| ((hi8 c &&& 255) <<< (8 : Int32))).toBitVec.toNat = c.toBitVec.toNat := by
    rw [Int32.toBitVec_or, Int32.toBitVec_shiftLeft, Int32.toBitVec_shiftLeft]
    have s0 : ((0 : Int32).toBitVec.smod 32) = 0#32 := by decide
    have s8 : ((8 : Int32).toBitVec.smod 32) = 8#32 := by decide
    rw [s0, s8, BitVec.toNat_or]
    simp only [BitVec.shiftLeft_eq', BitVec.toNat_shiftLeft, a1, a2]
    show (c.toBitVec.toNat % 256) <<< 0 % 2 ^ 32 ||| (c.toBitVec.toNat / 256) <<< 8 % 2 ^ 32 = _
    rw [Nat.shiftLeft_zero, Nat.mod_eq_of_lt (show c.toBitVec.toNat % 256 < 2 ^ 32 by omega), Nat.mod_eq_of_lt (show (c.toBitVec.toNat / 256) <<< 8 < 2 ^ 32 by rw [Nat.shiftLeft_eq]; omega), Nat.or_comm, ← Nat.shiftLeft_add_eq_or_of_lt (by omega), Nat.shiftLeft_eq]
    omega
  show BitVec.toNat (((((lo8 c &&& 255) <<< (0 : Int32)) ||| ((hi8 c &&& 255) <<< (8 : Int32))).toBitVec.setWidth 16).setWidth 32) = _
  rw [BitVec.toNat_setWidth, BitVec.toNat_setWidth, g]
  omega
end StrChars
namespace StrChars
open Jvm Sem ClassFile Op Lib Jvm.Stand Jvm.Free.XT Jvm.Free.ALB Jvm.Free.JM Jvm.Free
open Jvm.Lib.Cold (StaticIs)
/-- the array's cell V codes the n chars f 0 .. f (n - 1) by the coder cd, as the JDK does: coder 1 just where some char is above 255 -/
def Cod (cd : Int32) (n : Nat) (f : Nat → Int32) (V : Cell) : Prop := (cd = 0 ∧ V.slots.size = n ∧ ∀ j, j < n → V.slots[j]? = some (.int (lo8 (f j))) ∧ ¬ 255 < f j) ∨ (cd = 1 ∧ V.slots.size = 2 * n ∧ (∀ j, j < n → V.slots[2 * j]? = some (.int (lo8 (f j))) ∧ V.slots[2 * j + 1]? = some (.int (hi8 (f j)))) ∧ ∃ j, j < n ∧ 255 < f j)
/-- **x is a String of the n chars f 0 .. f (n - 1)**, Latin-1 or UTF-16; its array at t has the cell V -/
def Txt (x t : Addr) (V : Cell) (cd : Int32) (n : Nat) (f : Nat → Int32) (U : State) : Prop := Exact "java/lang/String" x U ∧ Has x "java/lang/String" "value" "[B" (.ref t) U ∧ Has x "java/lang/String" "coder" "B" (.int cd) U ∧ XT.Arr .byte t V U ∧ Cod cd n f V ∧ ∀ j, j < n → ¬ f j < 0 ∧ ¬ 65535 < f j
theorem Txt.mv {x t : Addr} {V : Cell} {cd : Int32} {n : Nat} {f : Nat → Int32} {U U' : State} (h : Txt x t V cd n f U) (hal : U.vm.Alike U'.vm) (hh : U'.heap = U.heap) : Txt x t V cd n f U' := ⟨h.1.mv hal hh, h.2.1.mv hal hh, h.2.2.1.mv hal hh, h.2.2.2.1.mv hal hh, h.2.2.2.2⟩
end StrChars
namespace StrChars.Road
open Jvm Sem ClassFile Op Lib Jvm.Stand Jvm.Free Jvm.Free.XT
open Jvm.Lib.Cold (StaticIs)
theorem consq {a : Array Value} {s : State} {c : Jvm.Cond} {L : List Jvm.Cond} (h0 : c.before a s = true) (h : ∀ w ∈ L, w.before a s = true) : ∀ w ∈ c :: L, w.before a s = true := fun w hw => (List.mem_cons.mp hw).elim (fun e => e ▸ h0) (h w)
/-- the bytes of the chars cs, low before high -/
def wideBytes : List Int32 → List Value
  | [] => []
  | c :: cs => .int (lo8 c) :: .int (hi8 c) :: wideBytes cs
theorem wide_lo (d : Value) : ∀ (cs : List Int32) (j : Nat), j < cs.length → (wideBytes cs).getD (2 * j) d = .int (lo8 (cs.getD j 0))
  | [], j, h => absurd h (Nat.not_lt_zero j)
  | c :: cs, 0, _ => rfl
  | c :: cs, j + 1, h => by
    have q := wide_lo d cs j (by simpa using h)
    rw [show 2 * (j + 1) = 2 * j + 1 + 1 from by omega]
    simpa [wideBytes] using q
theorem wide_hi (d : Value) : ∀ (cs : List Int32) (j : Nat), j < cs.length → (wideBytes cs).getD (2 * j + 1) d = .int (hi8 (cs.getD j 0))
  | [], j, h => absurd h (Nat.not_lt_zero j)
  | c :: cs, 0, _ => rfl
  | c :: cs, j + 1, h => by
    have q := wide_hi d cs j (by simpa using h)
    rw [show 2 * (j + 1) + 1 = 2 * j + 1 + 1 + 1 from by omega]
    simpa [wideBytes] using q
theorem low_at (d : Value) (cs : List Int32) (j : Nat) (h : j < cs.length) : (cs.map fun c => Value.int (lo8 c)).getD j d = .int (lo8 (cs.getD j 0)) := by
  simp [List.getD_eq_getElem?_getD, h]
/-- an array of N2 bytes vs codes the chars cs by the coder cd -/
def CodA (cs : List Int32) (cd N2 : Int32) (vs : List Value) : Prop := (cd = 0 ∧ N2 = Int32.ofNat cs.length ∧ vs = (cs.map fun c => Value.int (lo8 c)) ∧ ∀ c ∈ cs, ¬ 255 < c) ∨ (cd = 1 ∧ N2 = Int32.ofNat (2 * cs.length) ∧ vs = wideBytes cs ∧ ∃ c ∈ cs, 255 < c)
theorem CodA.cod {cs : List Int32} {cd N2 : Int32} {vs : List Value} {V : Cell} (h : CodA cs cd N2 vs) (hn : 2 * cs.length < 2 ^ 31) (hs : V.slots.size = N2.toNatClampNeg) (hv : RoadKit.Has V vs (.int 0)) : Cod cd cs.length (fun j => cs.getD j 0) V := by
  rcases h with ⟨rfl, rfl, rfl, h⟩ | ⟨rfl, rfl, rfl, c, hc, hw⟩
  · rw [n32 (by omega)] at hs
    exact Or.inl ⟨rfl, hs, fun j hj => ⟨by rw [hv j (by omega), low_at _ _ _ hj], by
      have e : cs.getD j 0 = cs[j] := by simp [List.getD_eq_getElem?_getD, hj]
      show ¬ 255 < cs.getD j 0
      rw [e]; exact h _ (List.getElem_mem _)⟩⟩
  · rw [n32 (by omega)] at hs
    obtain ⟨j, hj, rfl⟩ := List.getElem_of_mem hc
    exact Or.inr ⟨rfl, hs, fun j hj => ⟨by rw [hv _ (by omega), wide_lo _ _ _ hj], by rw [hv _ (by omega), wide_hi _ _ _ hj]⟩, j, hj, by
      have e : cs.getD j 0 = cs[j] := by simp [List.getD_eq_getElem?_getD, hj]
      show 255 < cs.getD j 0
      rw [e]; exact hw⟩
/-- an object of exactly java/lang/String, its two fields found: as the laws ask it -/
theorem strObj {Z U : State} {a0 : Array Value} {kI : Nat} (wi : (Jvm.Cond.instantiable ST kI).before a0 Z = true) (al : Z.vm.Alike U.vm) {x : Addr} {v0 c0 : Value} (E : RoadKit.Exa Z U.heap x ST) (V : RoadKit.Fld Z U.heap x ST "value" "[B" v0) (C : RoadKit.Fld Z U.heap x ST "coder" "B" c0) :
    ∃ (D : Cell) (fV fC : Field), Blank ST x D U ∧ Found ST "value" "[B" fV U ∧ Found ST "coder" "B" fC U ∧ D.slots[fV.slot]? = some v0 ∧ D.slots[fC.slot]? = some c0 ∧ RoadKit.slotOf Z ST "value" "[B" = fV.slot ∧ RoadKit.slotOf Z ST "coder" "B" = fC.slot := by
  obtain ⟨D, cfV, kV, iV, fV, hD, gV, stV, knV, obV, asV, slV⟩ := V
  obtain ⟨D', cfC, kC, iC, fC, hD', gC, stC, -, -, asC, slC⟩ := C
  cases hD.symm.trans hD'
  obtain ⟨D2, kD, e1, e2, e3, e4, e5⟩ := E
  cases hD.symm.trans e1
  obtain ⟨c2, k2, i1, i2, i3, -⟩ := Cond.instantiable_spec wi
  cases e2.symm.trans i1
  cases e3.symm.trans i2
  obtain ⟨kU, u1, u2⟩ := al.2.2 _ _ e3
  exact ⟨D, fV, fC, ⟨hD, ⟨knV, fun q hq => by rw [hq] at obV; cases obV⟩, by rw [al.findClass]; exact e2, kU, u1, by rw [u2]; exact i3, by rw [u2]; exact e5 i3⟩, ⟨SBG.found_only al ⟨cfV, kV, iV, gV⟩, stV⟩, ⟨SBG.found_only al ⟨cfC, kC, iC, gC⟩, stC⟩, slV, slC, by simp [RoadKit.slotOf, gV], by simp [RoadKit.slotOf, gC]⟩
theorem sta_is {Z U : State} (al : Z.vm.Alike U.vm) {C n d : String} {v : Value} (S : RoadKit.Sta Z U.heap C n d v) : StaticIs U C n d v := by
  obtain ⟨cfS, iS, kS, fS, st, cS, t1, t2, t3, t4, t5, t6, t7⟩ := S
  exact StaticIs.there (s := { Z with heap := U.heap }) ⟨cfS, iS, kS, fS, st, cS, t1, t2, t3, t4, t5, (fun q => by rw [q] at t6; cases t6), t7⟩ al rfl
end StrChars.Road
namespace StrChars
open Jvm Sem ClassFile Op Lib Jvm.Stand Jvm.Free.XT Jvm.Free.ALB Jvm.Free.JM Jvm.Free
open Jvm.Lib.Cold (StaticIs)
/-- what place i of a byte[]'s cell holds -/
def yv (A : Cell) (i : Nat) : Int32 := match A.slots[i]? with | some (.int x) => x | _ => 0
theorem yv_get {a : Addr} {A : Cell} {U : State} (h : XT.Arr .byte a A U) (ht : Typed .byte A) {i : Nat} (hi : i < A.slots.size) : A.slots[i]? = some (.int (yv A i)) := by
  have e := Array.getElem?_eq_getElem hi
  have f := ht i _ e
  unfold yv; rw [e]
  generalize A.slots[i] = v at f
  cases v <;> simp [fits] at f ⊢
/-- the two arrays are equal, place for place -/
def EqC (A B : Cell) : Prop := A.slots.size = B.slots.size ∧ ∀ i, i < A.slots.size → yv A i = yv B i
/-- a boolean that says whether p -/
def Says01 (q : Prop) (r : Option Value) (s u : State) : Prop := ∃ v : Int32, r = some (.int v) ∧ u.heap = s.heap ∧ ((v = 1 ∧ q) ∨ (v = 0 ∧ ¬ q))
theorem Says01.mv {q : Prop} : ∀ r (U U' V V' : State), U'.heap = U.heap → V.vm.Alike V'.vm → V'.heap = V.heap → Says01 q r U V → Says01 q r U' V' :=
  fun r U U' V V' h1 _ h2 ⟨v, a, b, c⟩ => ⟨v, a, by rw [h1, h2]; exact b, c⟩
namespace LEq
def yN : MethodName := ⟨"java/lang/StringLatin1", "equals", "([B[B)Z"⟩
abbrev yB : ByteArray := jdk_43_method_13_code
theorem d0 : decode yB 0 = .ok (.aload_n 0, 1) := by decide +kernel
theorem d1 : decode yB 1 = .ok (.arraylength, 1) := by decide +kernel
theorem d2 : decode yB 2 = .ok (.aload_n 1, 1) := by decide +kernel
theorem d3 : decode yB 3 = .ok (.arraylength, 1) := by decide +kernel
theorem d4 : decode yB 4 = .ok (.if_icmp (.ne) 30, 3) := by decide +kernel
theorem d7 : decode yB 7 = .ok (.iconst 0, 1) := by decide +kernel
theorem d8 : decode yB 8 = .ok (.istore_n 2, 1) := by decide +kernel
theorem d9 : decode yB 9 = .ok (.iload_n 2, 1) := by decide +kernel
theorem d10 : decode yB 10 = .ok (.aload_n 0, 1) := by decide +kernel
theorem d11 : decode yB 11 = .ok (.arraylength, 1) := by decide +kernel
theorem d12 : decode yB 12 = .ok (.if_icmp (.ge) 20, 3) := by decide +kernel
theorem d15 : decode yB 15 = .ok (.aload_n 0, 1) := by decide +kernel
theorem d16 : decode yB 16 = .ok (.iload_n 2, 1) := by decide +kernel
theorem d17 : decode yB 17 = .ok (.baload, 1) := by decide +kernel
theorem d18 : decode yB 18 = .ok (.aload_n 1, 1) := by decide +kernel
theorem d19 : decode yB 19 = .ok (.iload_n 2, 1) := by decide +kernel
theorem d20 : decode yB 20 = .ok (.baload, 1) := by decide +kernel
theorem d21 : decode yB 21 = .ok (.if_icmp (.eq) 5, 3) := by decide +kernel
theorem d24 : decode yB 24 = .ok (.iconst 0, 1) := by decide +kernel
theorem d25 : decode yB 25 = .ok (.ireturn, 1) := by decide +kernel
theorem d26 : decode yB 26 = .ok (.iinc 2 1, 3) := by decide +kernel
theorem d29 : decode yB 29 = .ok (.goto (-20), 3) := by decide +kernel
theorem d32 : decode yB 32 = .ok (.iconst 1, 1) := by decide +kernel
theorem d33 : decode yB 33 = .ok (.ireturn, 1) := by decide +kernel
theorem d34 : decode yB 34 = .ok (.iconst 0, 1) := by decide +kernel
theorem d35 : decode yB 35 = .ok (.ireturn, 1) := by decide +kernel
def site : List Cond := []
def tab : Cond := tabOf yN yB 3 (some .boolean) site
def P (a : Addr) (A : Cell) (b : Addr) (B : Cell) (args : Array Value) (s : State) : Prop := args = #[.ref a, .ref b] ∧ XT.Arr .byte a A s ∧ Typed .byte A ∧ XT.Arr .byte b B s ∧ Typed .byte B
/-- whether two byte[] are equal, place for place -/
theorem law (l : Launch) (a : Addr) (A : Cell) (b : Addr) (B : Cell) : Law l yN 2 2 0 0 yB 3 (some .boolean) site (P a A b B) (Says01 (EqC A B)) [] 0 0 := by
  refine Law.of_walk (plainFor_of_name (by decide +kernel)) (by decide +kernel) (by decide +kernel) (by decide) (fun _ _ h => by rw [h.1]; rfl) (fun _ U U' hal hh h => ⟨h.1, h.2.1.mv hal hh, h.2.2.1, h.2.2.2.1.mv hal hh, h.2.2.2.2⟩) (fun r U U' V V' h1 hal h2 h => Says01.mv r U U' V V' h1 hal h2 h) ?_
  intro p e s m args below meth c s₁ X0 hexec hbytes hml hret hlk hnm hown hh0 W hP
  obtain ⟨rfl, hA, tA, hB, tB⟩ := hP
  have a31 := hA.2.2.2
  have b31 := hB.2.2.2
  have hA0 := hA.mv X0.warmed.alike hh0
  have hB0 := hB.mv X0.warmed.alike hh0
  have c1 : Steps p.tables e below (s₁.setTop (entryFrame m #[.ref a, .ref b] 3)) (s₁.setTop (mkF m 0 #[.val (.ref a), .val (.ref b), .unset] [])) := entry rfl
  have c2 : Steps p.tables e below (s₁.setTop (entryFrame m #[.ref a, .ref b] 3)) (s₁.setTop (mkF m 4 #[.val (.ref a), .val (.ref b), .unset] [.int (Int32.ofNat B.slots.size), .int (Int32.ofNat A.slots.size)])) := c1.trans (by
    refine XS.aloadN X0.here hexec rfl (hb hbytes d0) rfl rfl ?_
    refine X0.alen hexec hA0 rfl rfl (hb hbytes d1) ?_
    refine XS.aloadN X0.here hexec rfl (hb hbytes d2) rfl rfl ?_
    refine X0.alen hexec hB0 rfl rfl (hb hbytes d3) ?_
    exact Steps.refl _)
  by_cases hs : A.slots.size = B.slots.size
  · have c3 : Steps p.tables e below (s₁.setTop (entryFrame m #[.ref a, .ref b] 3)) (s₁.setTop (mkF m 9 #[.val (.ref a), .val (.ref b), .val (.int 0)] [])) := c2.trans (by
      refine XS.icmpNo X0.here hexec rfl (hb hbytes d4) rfl (ii_ne_f (by rw [hs])) ?_
      refine iconstV X0.here hexec rfl 0 (hb hbytes d7) (by decide) ?_
      refine XS.istoreN X0.here hexec rfl (hb hbytes d8) rfl rfl ?_
      exact Steps.refl _)
    have loop : ∀ (r i : Nat), i + r = A.slots.size → (∀ j, j < i → yv A j = yv B j) → Steps p.tables e below (s₁.setTop (entryFrame m #[.ref a, .ref b] 3)) (s₁.setTop (mkF m 9 #[.val (.ref a), .val (.ref b), .val (.int (Int32.ofNat i))] [])) → ∃ (pc : Nat) (Ls : Array Slot) (v : Int32), (pc = 25 ∨ pc = 33) ∧ ((v = 1 ∧ EqC A B) ∨ (v = 0 ∧ ¬ EqC A B)) ∧ Steps p.tables e below (s₁.setTop (entryFrame m #[.ref a, .ref b] 3)) (s₁.setTop (mkF m pc Ls [.int v])) := by
      intro r
      induction r with
      | zero =>
        intro i hi he cl
        exact ⟨33, _, 1, Or.inr rfl, Or.inl ⟨rfl, hs, fun j hj => he j (by omega)⟩, cl.trans (by
          refine XS.iloadN X0.here hexec rfl (hb hbytes d9) rfl ?_
          refine XS.aloadN X0.here hexec rfl (hb hbytes d10) rfl rfl ?_
          refine X0.alen hexec hA0 rfl rfl (hb hbytes d11) ?_
          refine XS.icmpYes X0.here hexec rfl (pc0 := 12) rfl (hb hbytes d12) rfl (ii_ge_t (nlt32 (by omega) (by omega))) (by decide) rfl ?_
          refine iconstV X0.here hexec rfl 1 (hb hbytes d32) (by decide) ?_
          exact Steps.refl _)⟩
      | succ r ih =>
        intro i hi he cl
        have c4 : Steps p.tables e below (s₁.setTop (entryFrame m #[.ref a, .ref b] 3)) (s₁.setTop (mkF m 21 #[.val (.ref a), .val (.ref b), .val (.int (Int32.ofNat i))] [.int (yv B i), .int (yv A i)])) := cl.trans (by
          refine XS.iloadN X0.here hexec rfl (hb hbytes d9) rfl ?_
          refine XS.aloadN X0.here hexec rfl (hb hbytes d10) rfl rfl ?_
          refine X0.alen hexec hA0 rfl rfl (hb hbytes d11) ?_
          refine XS.icmpNo X0.here hexec rfl (hb hbytes d12) rfl (ii_ge_f (lt32 (by omega) (by omega))) ?_
          refine XS.aloadN X0.here hexec rfl (hb hbytes d15) rfl rfl ?_
          refine XS.iloadN X0.here hexec rfl (hb hbytes d16) rfl ?_
          refine X0.aget hexec hA0 rfl (yv_get hA tA (i := i) (by omega)) rfl rfl (hb hbytes d17) ?_
          refine XS.aloadN X0.here hexec rfl (hb hbytes d18) rfl rfl ?_
          refine XS.iloadN X0.here hexec rfl (hb hbytes d19) rfl ?_
          refine X0.aget hexec hB0 rfl (yv_get hB tB (i := i) (by omega)) rfl rfl (hb hbytes d20) ?_
          exact Steps.refl _)
        by_cases hv : yv A i = yv B i
        · have c5 : Steps p.tables e below (s₁.setTop (entryFrame m #[.ref a, .ref b] 3)) (s₁.setTop (mkF m 9 #[.val (.ref a), .val (.ref b), .val (.int (Int32.ofNat i + 1))] [])) := c4.trans (by
            refine XS.icmpYes X0.here hexec rfl (pc0 := 21) rfl (hb hbytes d21) rfl (ii_eq_t hv) (by decide) rfl ?_
            refine iincV X0.here hexec rfl 1 (hb hbytes d26) (by decide) rfl rfl ?_
            refine XS.goto X0.here hexec rfl (pc0 := 29) rfl (hb hbytes d29) (by decide) rfl ?_
            exact Steps.refl _)
          rw [succ32] at c5
          exact ih (i + 1) (by omega) (fun j hj => by
            by_cases e : j = i
            · rw [e]; exact hv
            · exact he j (by omega)) c5
        · exact ⟨25, _, 0, Or.inl rfl, Or.inr ⟨rfl, fun q => hv (q.2 i (by omega))⟩, c4.trans (by
            refine XS.icmpNo X0.here hexec rfl (hb hbytes d21) rfl (ii_eq_f hv) ?_
            refine iconstV X0.here hexec rfl 0 (hb hbytes d24) (by decide) ?_
            exact Steps.refl _)⟩
    obtain ⟨pc, Ls, v, hpc, hv, cz⟩ := loop A.slots.size 0 (by omega) (fun j hj => absurd hj (Nat.not_lt_zero j)) c3
    have nv : narrow .boolean (.int v) = .int v := by rcases hv with ⟨rfl, -⟩ | ⟨rfl, -⟩ <;> rfl
    rcases hpc with rfl | rfl
    · exact ⟨s₁, some (.int v), _, _, _, X0, rfl, rfl, rfl, (fun h => by cases h), ⟨v, rfl, hh0, hv⟩, fun fs hl => cz.trans (X0.ireturnOut hexec hret nv (Or.inr (Or.inl rfl)) (hb hbytes d25) hl)⟩
    · exact ⟨s₁, some (.int v), _, _, _, X0, rfl, rfl, rfl, (fun h => by cases h), ⟨v, rfl, hh0, hv⟩, fun fs hl => cz.trans (X0.ireturnOut hexec hret nv (Or.inr (Or.inl rfl)) (hb hbytes d33) hl)⟩
  · have c3 : Steps p.tables e below (s₁.setTop (entryFrame m #[.ref a, .ref b] 3)) (s₁.setTop (mkF m 35 #[.val (.ref a), .val (.ref b), .unset] [.int 0])) := c2.trans (by
      refine XS.icmpYes X0.here hexec rfl (pc0 := 4) rfl (hb hbytes d4) rfl (ii_ne_t (ne32 a31 b31 hs)) (by decide) rfl ?_
      refine iconstV X0.here hexec rfl 0 (hb hbytes d34) (by decide) ?_
      exact Steps.refl _)
    exact ⟨s₁, some (.int 0), _, _, _, X0, rfl, rfl, rfl, (fun h => by cases h), ⟨0, rfl, hh0, Or.inr ⟨rfl, fun q => hs q.1⟩⟩, fun fs hl => c3.trans (X0.ireturnOut hexec hret rfl (Or.inr (Or.inl rfl)) (hb hbytes d35) hl)⟩
end LEq
theorem Cod.ty {cd : Int32} {n : Nat} {f : Nat → Int32} {V : Cell} (h : Cod cd n f V) : Typed .byte V := fun i v hv => by
  have hi : i < V.slots.size := (Array.getElem?_eq_some_iff.mp hv).1
  rcases h with ⟨-, k1, k2⟩ | ⟨-, k1, k2, -⟩
  · rw [(k2 i (by omega)).1] at hv; cases hv; exact fits_lo8 _
  · rcases Nat.mod_two_eq_zero_or_one i with e | e
    · obtain ⟨j, rfl⟩ : ∃ j, i = 2 * j := ⟨i / 2, by omega⟩
      rw [(k2 j (by omega)).1] at hv; cases hv; exact fits_lo8 _
    · obtain ⟨j, rfl⟩ : ∃ j, i = 2 * j + 1 := ⟨i / 2, by omega⟩
      rw [(k2 j (by omega)).2] at hv; cases hv; exact fits_lo8 _
/-- the same text -/
def SameT (n : Nat) (f : Nat → Int32) (k : Nat) (g : Nat → Int32) : Prop := n = k ∧ ∀ j, j < n → f j = g j
theorem lo8_inj {x y : Int32} (h0 : ¬ x < 0) (h1 : ¬ 255 < x) (k0 : ¬ y < 0) (k1 : ¬ 255 < y) (h : lo8 x = lo8 y) : x = y := by
  rw [← lo8_mask h0 h1, ← lo8_mask k0 k1, h]
/-- arrays coded by one coder are equal just where the texts are -/
theorem Cod.eqv {cd : Int32} {n k : Nat} {f g : Nat → Int32} {V V' : Cell} (h : Cod cd n f V) (h' : Cod cd k g V') (hf : ∀ j, j < n → ¬ f j < 0 ∧ ¬ 65535 < f j) (hg : ∀ j, j < k → ¬ g j < 0 ∧ ¬ 65535 < g j) : EqC V V' ↔ SameT n f k g := by
  have yvv : ∀ {W : Cell} {i : Nat} {x : Int32}, W.slots[i]? = some (.int x) → yv W i = x := fun q => by unfold yv; rw [q]
  rcases h with ⟨rfl, k1, k2⟩ | ⟨rfl, k1, k2, -⟩
  · rcases h' with ⟨-, m1, m2⟩ | ⟨e, -⟩
    · constructor
      · rintro ⟨e1, e2⟩
        refine ⟨by omega, fun j hj => ?_⟩
        have q := e2 j (by omega)
        rw [yvv (k2 j hj).1, yvv (m2 j (by omega)).1] at q
        exact lo8_inj (hf j hj).1 (k2 j hj).2 (hg j (by omega)).1 (m2 j (by omega)).2 q
      · rintro ⟨rfl, e2⟩
        refine ⟨by omega, fun j hj => ?_⟩
        rw [yvv (k2 j (by omega)).1, yvv (m2 j (by omega)).1, e2 j (by omega)]
    · exact absurd e (by decide)
  · rcases h' with ⟨e, -⟩ | ⟨-, m1, m2, -⟩
    · exact absurd e (by decide)
    · constructor
      · rintro ⟨e1, e2⟩
        refine ⟨by omega, fun j hj => ?_⟩
        have q1 := e2 (2 * j) (by omega)
        have q2 := e2 (2 * j + 1) (by omega)
        rw [yvv (k2 j hj).1, yvv (m2 j (by omega)).1] at q1
        rw [yvv (k2 j hj).2, yvv (m2 j (by omega)).2] at q2
        rw [← pair_says (hf j hj).1 (hf j hj).2, ← pair_says (hg j (by omega)).1 (hg j (by omega)).2, q1, q2]
      · rintro ⟨rfl, e2⟩
        refine ⟨by omega, fun i hi => ?_⟩
        rcases Nat.mod_two_eq_zero_or_one i with e | e
        · obtain ⟨j, rfl⟩ : ∃ j, i = 2 * j := ⟨i / 2, by omega⟩
          rw [yvv (k2 j (by omega)).1, yvv (m2 j (by omega)).1, e2 j (by omega)]
        · obtain ⟨j, rfl⟩ : ∃ j, i = 2 * j + 1 := ⟨i / 2, by omega⟩
          rw [yvv (k2 j (by omega)).2, yvv (m2 j (by omega)).2, e2 j (by omega)]
/-- two codings differ: so do the texts -/
theorem Cod.dif {cd cd' : Int32} {n k : Nat} {f g : Nat → Int32} {V V' : Cell} (h : Cod cd n f V) (h' : Cod cd' k g V') (hne : ¬ cd = cd') : ¬ SameT n f k g := by
  rintro ⟨rfl, e⟩
  rcases h with ⟨rfl, -, k2⟩ | ⟨rfl, -, -, j, hj, hw⟩
  · rcases h' with ⟨rfl, -⟩ | ⟨-, -, -, j, hj, hw⟩
    · exact hne rfl
    · exact (k2 j hj).2 (by rw [e j hj]; exact hw)
  · rcases h' with ⟨-, -, m2⟩ | ⟨rfl, -⟩
    · exact (m2 j hj).2 (by rw [← e j hj]; exact hw)
    · exact hne rfl
/-- an object of exactly C is an instance of C -/
theorem cinst {p : Program} {l : Launch} {e : Env} {R : Room} {s : State} {m : MethodId} {args : Array Value} {below : List Frame} {meth : Method} {c : Code} {T : State} {locs : List Loc} {cells slots : Nat} (X : Stand p l e R s m args below meth c T locs cells slots) (hexec : p.tables.exec = Jvm.exec) {own C : String} {index : Nat} (hown : s.vm.findClass own = some m.cls) (hlink : (Cond.classLink own index C).before args s = true) {a : Addr} (hE : Exact C a T)
    {g : JFrame} (hg : g.method = m) {rest : List Value} (hstack : g.stack = .ref a :: rest) (hdg : decode c.code g.pc = .ok (.instanceof index, 3)) :
    ∃ T', Stand p l e R s m args below meth c T' locs cells slots ∧ T'.heap = T.heap ∧ ∀ target, Steps p.tables e below (T'.setTop { g with pc := g.pc + 3, stack := .int 1 :: rest }) target → Steps p.tables e below (T.setTop g) target := by
  obtain ⟨cB, h1, D, h2, h3, h4⟩ := hE
  have h1' : s.vm.findClass C = some cB := by rw [← X.warmed.alike.findClass]; exact h1
  obtain ⟨vm', X', st⟩ := X.instanceofYes hexec hown hlink h2 h4 h1' (by rw [h3]; exact Jvm.Free.SB.assignable_self _ _) hg hstack hdg
  exact ⟨_, X', rfl, st⟩
theorem cself {p : Program} {l : Launch} {e : Env} {R : Room} {s : State} {m : MethodId} {args : Array Value} {below : List Frame} {meth : Method} {c : Code} {T : State} {locs : List Loc} {cells slots : Nat} (X : Stand p l e R s m args below meth c T locs cells slots) (hexec : p.tables.exec = Jvm.exec) {own C : String} {index : Nat} (hown : s.vm.findClass own = some m.cls) (hlink : (Cond.classLink own index C).before args s = true) {a : Addr} (hE : Exact C a T)
    {g : JFrame} (hg : g.method = m) {rest : List Value} (hstack : g.stack = .ref a :: rest) (hdg : decode c.code g.pc = .ok (.checkcast index, 3)) :
    ∃ T', Stand p l e R s m args below meth c T' locs cells slots ∧ T'.heap = T.heap ∧ ∀ target, Steps p.tables e below (T'.setTop { g with pc := g.pc + 3, stack := .ref a :: rest }) target → Steps p.tables e below (T.setTop g) target := by
  obtain ⟨cB, h1, D, h2, h3, h4⟩ := hE
  have h1' : s.vm.findClass C = some cB := by rw [← X.warmed.alike.findClass]; exact h1
  obtain ⟨vm', X', st⟩ := X.checkcastYes hexec hown hlink h2 h4 h1' (by rw [h3]; exact Jvm.Free.SB.assignable_self _ _) hg hstack hdg
  exact ⟨_, X', rfl, fun t h => st t (by rw [← hstack] at h; exact h)⟩
namespace SEq
def yN : MethodName := ⟨"java/lang/String", "equals", "(Ljava/lang/Object;)Z"⟩
abbrev yB : ByteArray := jdk_42_method_66_code
theorem d0 : decode yB 0 = .ok (.aload_n 0, 1) := by decide +kernel
theorem d1 : decode yB 1 = .ok (.aload_n 1, 1) := by decide +kernel
theorem d2 : decode yB 2 = .ok (.if_acmp (.ne) 5, 3) := by decide +kernel
theorem d5 : decode yB 5 = .ok (.iconst 1, 1) := by decide +kernel
theorem d6 : decode yB 6 = .ok (.ireturn, 1) := by decide +kernel
theorem d7 : decode yB 7 = .ok (.aload_n 1, 1) := by decide +kernel
theorem d8 : decode yB 8 = .ok (.instanceof 10, 3) := by decide +kernel
theorem d11 : decode yB 11 = .ok (.ifCond (.eq) 43, 3) := by decide +kernel
theorem d14 : decode yB 14 = .ok (.aload_n 1, 1) := by decide +kernel
theorem d15 : decode yB 15 = .ok (.checkcast 10, 3) := by decide +kernel
theorem d18 : decode yB 18 = .ok (.astore_n 2, 1) := by decide +kernel
theorem d19 : decode yB 19 = .ok (.getstatic 38, 3) := by decide +kernel
theorem d22 : decode yB 22 = .ok (.ifCond (.eq) 14, 3) := by decide +kernel
theorem d25 : decode yB 25 = .ok (.aload_n 0, 1) := by decide +kernel
theorem d26 : decode yB 26 = .ok (.getfield 15, 3) := by decide +kernel
theorem d29 : decode yB 29 = .ok (.aload_n 2, 1) := by decide +kernel
theorem d30 : decode yB 30 = .ok (.getfield 15, 3) := by decide +kernel
theorem d33 : decode yB 33 = .ok (.if_icmp (.ne) 21, 3) := by decide +kernel
theorem d36 : decode yB 36 = .ok (.aload_n 0, 1) := by decide +kernel
theorem d37 : decode yB 37 = .ok (.getfield 9, 3) := by decide +kernel
theorem d40 : decode yB 40 = .ok (.aload_n 2, 1) := by decide +kernel
theorem d41 : decode yB 41 = .ok (.getfield 9, 3) := by decide +kernel
theorem d44 : decode yB 44 = .ok (.invokestatic 541, 3) := by decide +kernel
theorem d47 : decode yB 47 = .ok (.ifCond (.eq) 7, 3) := by decide +kernel
theorem d50 : decode yB 50 = .ok (.iconst 1, 1) := by decide +kernel
theorem d51 : decode yB 51 = .ok (.goto 4, 3) := by decide +kernel
theorem d54 : decode yB 54 = .ok (.iconst 0, 1) := by decide +kernel
theorem d55 : decode yB 55 = .ok (.ireturn, 1) := by decide +kernel
def site : List Cond := [.classLink "java/lang/String" 10 "java/lang/String", .fieldLink "java/lang/String" 38 "java/lang/String" "COMPACT_STRINGS" "Z", .fieldLink "java/lang/String" 15 "java/lang/String" "coder" "B", .fieldLink "java/lang/String" 9 "java/lang/String" "value" "[B", LEq.tab] ++ staticW "java/lang/String" 541 LEq.yN
def tab : Cond := tabOf yN yB 3 (some .boolean) site
def P (x t : Addr) (V : Cell) (cd : Int32) (n : Nat) (f : Nat → Int32) (y t' : Addr) (V' : Cell) (cd' : Int32) (k : Nat) (g : Nat → Int32) (z : Int32) (args : Array Value) (s : State) : Prop := args = #[.ref x, .ref y] ∧ Txt x t V cd n f s ∧ Txt y t' V' cd' k g s ∧ StaticIs s "java/lang/String" "COMPACT_STRINGS" "Z" (.int z) ∧ ¬ z = 0
/-- equals(Object) of two Strings: whether the texts are the same -/
theorem law (l : Launch) (x t : Addr) (V : Cell) (cd : Int32) (n : Nat) (f : Nat → Int32) (y t' : Addr) (V' : Cell) (cd' : Int32) (k : Nat) (g : Nat → Int32) (z : Int32) : Law l yN 2 1 1 14 yB 3 (some .boolean) site (P x t V cd n f y t' V' cd' k g z) (Says01 (SameT n f k g)) [] 0 0 := by
  refine Law.of_walk (plainFor_of_name (by decide +kernel)) (by decide +kernel) (by decide +kernel) (by decide) (fun _ _ h => by rw [h.1]; rfl) (fun _ U U' hal hh h => ⟨h.1, h.2.1.mv hal hh, h.2.2.1.mv hal hh, h.2.2.2.1.there hal hh, h.2.2.2.2⟩) (fun r U U' V V' h1 hal h2 h => Says01.mv r U U' V V' h1 hal h2 h) ?_
  intro p e s m args below meth c s₁ X0 hexec hbytes hml hret hlk hnm hown hh0 W hP
  obtain ⟨rfl, hx, hy, s1, hz⟩ := hP
  have c1 : Steps p.tables e below (s₁.setTop (entryFrame m #[.ref x, .ref y] 3)) (s₁.setTop (mkF m 2 #[.val (.ref x), .val (.ref y), .unset] [.ref y, .ref x])) := Steps.trans (entry rfl) (by
    show Steps p.tables e below (s₁.setTop (mkF m 0 #[.val (.ref x), .val (.ref y), .unset] [])) _
    refine XS.aloadN X0.here hexec rfl (hb hbytes d0) rfl rfl ?_
    refine XS.aloadN X0.here hexec rfl (hb hbytes d1) rfl rfl ?_
    exact Steps.refl _)
  by_cases hxy : x = y
  · have c2 : Steps p.tables e below (s₁.setTop (entryFrame m #[.ref x, .ref y] 3)) (s₁.setTop (mkF m 6 #[.val (.ref x), .val (.ref y), .unset] [.int 1])) := c1.trans (by
      refine acmpNo X0.here hexec rfl (hb hbytes d2) rfl rfl rfl (by simp [acmp, hxy]) ?_
      refine iconstV X0.here hexec rfl 1 (hb hbytes d5) (by decide) ?_
      exact Steps.refl _)
    subst hxy
    have ec : cd = cd' := by
      obtain ⟨D, fd, a1, a2, a3⟩ := hx.2.2.1
      obtain ⟨D', fd', b1, b2, b3⟩ := hy.2.2.1
      cases a1.symm.trans b1
      obtain ⟨q1, q2, q3, q4⟩ := a2.1
      obtain ⟨r1, r2, r3, r4⟩ := b2.1
      cases q4.symm.trans r4
      cases a3.symm.trans b3; rfl
    have et : t = t' := by
      obtain ⟨D, fd, a1, a2, a3⟩ := hx.2.1
      obtain ⟨D', fd', b1, b2, b3⟩ := hy.2.1
      cases a1.symm.trans b1
      obtain ⟨q1, q2, q3, q4⟩ := a2.1
      obtain ⟨r1, r2, r3, r4⟩ := b2.1
      cases q4.symm.trans r4
      cases a3.symm.trans b3; rfl
    subst ec et
    have ev : V = V' := by cases hx.2.2.2.1.1.symm.trans hy.2.2.2.1.1; rfl
    subst ev
    have hs : SameT n f k g := (Cod.eqv hx.2.2.2.2.1 hy.2.2.2.2.1 hx.2.2.2.2.2 hy.2.2.2.2.2).mp ⟨rfl, fun _ _ => rfl⟩
    exact ⟨s₁, some (.int 1), _, _, _, X0, rfl, rfl, rfl, (fun h => by cases h), ⟨1, rfl, hh0, Or.inl ⟨rfl, hs⟩⟩, fun fs hl => c2.trans (X0.ireturnOut hexec hret rfl (Or.inr (Or.inl rfl)) (hb hbytes d6) hl)⟩
  · have c2 : Steps p.tables e below (s₁.setTop (entryFrame m #[.ref x, .ref y] 3)) (s₁.setTop (mkF m 8 #[.val (.ref x), .val (.ref y), .unset] [.ref y])) := c1.trans (by
      refine acmpYes X0.here hexec rfl (pc0 := 2) rfl (hb hbytes d2) rfl rfl rfl (by simp [acmp, hxy]) (by decide) rfl ?_
      refine XS.aloadN X0.here hexec rfl (hb hbytes d7) rfl rfl ?_
      exact Steps.refl _)
    obtain ⟨T3, X3, q3, st3⟩ := cinst X0 hexec hown (wk W (.classLink "java/lang/String" 10 "java/lang/String")) (hy.mv X0.warmed.alike hh0).1 (g := (mkF m 8 #[.val (.ref x), .val (.ref y), .unset] [.ref y])) rfl (rest := []) rfl (hb hbytes d8)
    have hh3 := q3.trans hh0
    have c4 : Steps p.tables e below (s₁.setTop (entryFrame m #[.ref x, .ref y] 3)) (T3.setTop (mkF m 15 #[.val (.ref x), .val (.ref y), .unset] [.ref y])) := (c2.trans (st3 _ (Steps.refl _))).trans (by
      refine XS.ifNo X3.here hexec rfl (hb hbytes d11) rfl (i0_eq_f (by decide)) ?_
      refine XS.aloadN X3.here hexec rfl (hb hbytes d14) rfl rfl ?_
      exact Steps.refl _)
    obtain ⟨T5, X5, q5, st5⟩ := cself X3 hexec hown (wk W (.classLink "java/lang/String" 10 "java/lang/String")) (hy.mv X3.warmed.alike hh3).1 (g := (mkF m 15 #[.val (.ref x), .val (.ref y), .unset] [.ref y])) rfl (rest := []) rfl (hb hbytes d15)
    have hh5 := q5.trans hh3
    have c6 : Steps p.tables e below (s₁.setTop (entryFrame m #[.ref x, .ref y] 3)) (T5.setTop (mkF m 19 #[.val (.ref x), .val (.ref y), .val (.ref y)] [])) := (c4.trans (st5 _ (Steps.refl _))).trans (by
      refine XS.astoreN X5.here hexec rfl (hb hbytes d18) rfl rfl rfl ?_
      exact Steps.refl _)
    obtain ⟨T7, X7, q7, st7⟩ := X5.sget hexec hown (wk W (.fieldLink "java/lang/String" 38 "java/lang/String" "COMPACT_STRINGS" "Z")) s1 (fun _ _ h => by rw [hh5]; exact h) (g := (mkF m 19 #[.val (.ref x), .val (.ref y), .val (.ref y)] [])) rfl (hb hbytes d19)
    have hh7 := q7.trans hh5
    have c8 : Steps p.tables e below (s₁.setTop (entryFrame m #[.ref x, .ref y] 3)) (T7.setTop (mkF m 26 #[.val (.ref x), .val (.ref y), .val (.ref y)] [.ref x])) := (c6.trans (st7 _ (Steps.refl _))).trans (by
      refine XS.ifNo X7.here hexec rfl (hb hbytes d22) rfl (i0_eq_f hz) ?_
      refine XS.aloadN X7.here hexec rfl (hb hbytes d25) rfl rfl ?_
      exact Steps.refl _)
    obtain ⟨T9, X9, q9, st9⟩ := X7.hget hexec hown (wk W (.fieldLink "java/lang/String" 15 "java/lang/String" "coder" "B")) (hx.mv X7.warmed.alike hh7).2.2.1 (g := (mkF m 26 #[.val (.ref x), .val (.ref y), .val (.ref y)] [.ref x])) rfl (rest := []) rfl (hb hbytes d26)
    have hh9 := q9.trans hh7
    have c10 : Steps p.tables e below (s₁.setTop (entryFrame m #[.ref x, .ref y] 3)) (T9.setTop (mkF m 30 #[.val (.ref x), .val (.ref y), .val (.ref y)] [.ref y, .int cd])) := (c8.trans (st9 _ (Steps.refl _))).trans (by
      refine XS.aloadN X9.here hexec rfl (hb hbytes d29) rfl rfl ?_
      exact Steps.refl _)
    obtain ⟨T11, X11, q11, st11⟩ := X9.hget hexec hown (wk W (.fieldLink "java/lang/String" 15 "java/lang/String" "coder" "B")) (hy.mv X9.warmed.alike hh9).2.2.1 (g := (mkF m 30 #[.val (.ref x), .val (.ref y), .val (.ref y)] [.ref y, .int cd])) rfl (rest := [.int cd]) rfl (hb hbytes d30)
    have hh11 := q11.trans hh9
    have c12 : Steps p.tables e below (s₁.setTop (entryFrame m #[.ref x, .ref y] 3)) (T11.setTop (mkF m 33 #[.val (.ref x), .val (.ref y), .val (.ref y)] [.int cd', .int cd])) := c10.trans (st11 _ (Steps.refl _))
    by_cases hcd : cd = cd'
    · subst hcd
      have c13 : Steps p.tables e below (s₁.setTop (entryFrame m #[.ref x, .ref y] 3)) (T11.setTop (mkF m 37 #[.val (.ref x), .val (.ref y), .val (.ref y)] [.ref x])) := c12.trans (by
        refine XS.icmpNo X11.here hexec rfl (hb hbytes d33) rfl (ii_ne_f rfl) ?_
        refine XS.aloadN X11.here hexec rfl (hb hbytes d36) rfl rfl ?_
        exact Steps.refl _)
      obtain ⟨T14, X14, q14, st14⟩ := X11.hget hexec hown (wk W (.fieldLink "java/lang/String" 9 "java/lang/String" "value" "[B")) (hx.mv X11.warmed.alike hh11).2.1 (g := (mkF m 37 #[.val (.ref x), .val (.ref y), .val (.ref y)] [.ref x])) rfl (rest := []) rfl (hb hbytes d37)
      have hh14 := q14.trans hh11
      have c15 : Steps p.tables e below (s₁.setTop (entryFrame m #[.ref x, .ref y] 3)) (T14.setTop (mkF m 41 #[.val (.ref x), .val (.ref y), .val (.ref y)] [.ref y, .ref t])) := (c13.trans (st14 _ (Steps.refl _))).trans (by
        refine XS.aloadN X14.here hexec rfl (hb hbytes d40) rfl rfl ?_
        exact Steps.refl _)
      obtain ⟨T16, X16, q16, st16⟩ := X14.hget hexec hown (wk W (.fieldLink "java/lang/String" 9 "java/lang/String" "value" "[B")) (hy.mv X14.warmed.alike hh14).2.1 (g := (mkF m 41 #[.val (.ref x), .val (.ref y), .val (.ref y)] [.ref y, .ref t])) rfl (rest := [.ref t]) rfl (hb hbytes d41)
      have hh16 := q16.trans hh14
      have c17 : Steps p.tables e below (s₁.setTop (entryFrame m #[.ref x, .ref y] 3)) (T16.setTop (mkF m 44 #[.val (.ref x), .val (.ref y), .val (.ref y)] [.ref t', .ref t])) := c15.trans (st16 _ (Steps.refl _))
      obtain ⟨v18, T18, X18, E18, g18⟩ := X16.callS hexec (LEq.law l t V t' V') hown (wks W (staticW "java/lang/String" 541 LEq.yN)) (wk W LEq.tab) (W := 0) (Nat.le_of_ble_eq_true rfl) (Nat.le_of_ble_eq_true rfl) (Nat.le_refl _) (Nat.le_refl _) (g := (mkF m 44 #[.val (.ref x), .val (.ref y), .val (.ref y)] [.ref t', .ref t])) rfl (by rw [hml]; rfl) c17 (argsL := [.ref t, .ref t']) (rest := []) rfl rfl (by show 2 * 0 + 0 ≤ _; decide) (hb hbytes d44) (⟨rfl, hx.2.2.2.1.mv X16.warmed.alike hh16, hx.2.2.2.2.1.ty, hy.2.2.2.1.mv X16.warmed.alike hh16, hy.2.2.2.2.1.ty⟩)
      obtain ⟨v, rfl, q18, hv⟩ := E18
      have iff := Cod.eqv hx.2.2.2.2.1 hy.2.2.2.2.1 hx.2.2.2.2.2 hy.2.2.2.2.2
      rcases hv with ⟨rfl, he⟩ | ⟨rfl, he⟩
      · have c19 : Steps p.tables e below (s₁.setTop (entryFrame m #[.ref x, .ref y] 3)) (T18.setTop (mkF m 55 #[.val (.ref x), .val (.ref y), .val (.ref y)] [.int 1])) := Steps.trans g18 (by
          refine XS.ifNo X18.here hexec rfl (hb hbytes d47) rfl (i0_eq_f (by decide)) ?_
          refine iconstV X18.here hexec rfl 1 (hb hbytes d50) (by decide) ?_
          refine XS.goto X18.here hexec rfl (pc0 := 51) rfl (hb hbytes d51) (by decide) rfl ?_
          exact Steps.refl _)
        exact ⟨T18, some (.int 1), _, _, _, X18, rfl, rfl, rfl, (fun h => by cases h), ⟨1, rfl, q18.trans hh16, Or.inl ⟨rfl, iff.mp he⟩⟩, fun fs hl => c19.trans (X18.ireturnOut hexec hret rfl (Or.inr (Or.inl rfl)) (hb hbytes d55) hl)⟩
      · have c19 : Steps p.tables e below (s₁.setTop (entryFrame m #[.ref x, .ref y] 3)) (T18.setTop (mkF m 55 #[.val (.ref x), .val (.ref y), .val (.ref y)] [.int 0])) := Steps.trans g18 (by
          refine XS.ifYes X18.here hexec rfl (pc0 := 47) rfl (hb hbytes d47) rfl (i0_eq_t rfl) (by decide) rfl ?_
          refine iconstV X18.here hexec rfl 0 (hb hbytes d54) (by decide) ?_
          exact Steps.refl _)
        exact ⟨T18, some (.int 0), _, _, _, X18, rfl, rfl, rfl, (fun h => by cases h), ⟨0, rfl, q18.trans hh16, Or.inr ⟨rfl, fun q => he (iff.mpr q)⟩⟩, fun fs hl => c19.trans (X18.ireturnOut hexec hret rfl (Or.inr (Or.inl rfl)) (hb hbytes d55) hl)⟩
    · have c13 : Steps p.tables e below (s₁.setTop (entryFrame m #[.ref x, .ref y] 3)) (T11.setTop (mkF m 55 #[.val (.ref x), .val (.ref y), .val (.ref y)] [.int 0])) := c12.trans (by
        refine XS.icmpYes X11.here hexec rfl (pc0 := 33) rfl (hb hbytes d33) rfl (ii_ne_t hcd) (by decide) rfl ?_
        refine iconstV X11.here hexec rfl 0 (hb hbytes d54) (by decide) ?_
        exact Steps.refl _)
      exact ⟨T11, some (.int 0), _, _, _, X11, rfl, rfl, rfl, (fun h => by cases h), ⟨0, rfl, hh11, Or.inr ⟨rfl, Cod.dif hx.2.2.2.2.1 hy.2.2.2.2.1 hcd⟩⟩, fun fs hl => c13.trans (X11.ireturnOut hexec hret rfl (Or.inr (Or.inl rfl)) (hb hbytes d55) hl)⟩
theorem pays {l : Launch} {R : Room} {p : Program} {e : Env} {below : List Frame} {s : State} {sargs : Array Value} {len W : Nat} (x t : Addr) (V : Cell) (cd : Int32) (n : Nat) (f : Nat → Int32) (y t' : Addr) (V' : Cell) (cd' : Int32) (k : Nat) (g : Nat → Int32) (z : Int32) (htab : tab.before sargs s = true) (hfr : 2 ≤ R.frames) (hlo : W + 28 ≤ R.locals) :
    Back l R p e below s sargs yN len W (fun A₁ a₁ => A₁.cells + 0 ≤ R.cells ∧ A₁.slots + 0 ≤ R.slots ∧ P x t V cd n f y t' V' cd' k g z a₁ A₁.U) (fun A₁ _ v₁ B₁ => Says01 (SameT n f k g) v₁ A₁.U B₁.U ∧ B₁.locs = A₁.locs ++ [] ∧ B₁.cells = A₁.cells + 0 ∧ B₁.slots = A₁.slots + 0) :=
  (law l x t V cd n f y t' V' cd' k g z).pays htab hfr (by omega)
end SEq
end StrChars
namespace StrChars.Road
open Jvm Sem ClassFile Op Lib Jvm.Stand Jvm.Free Jvm.Free.XT
open Jvm.Lib.Cold (StaticIs)
/-- the words of String.equals(Object) -/
abbrev wordsEq : List Jvm.Cond := [.code SEq.yN SEq.yB 3 (some .boolean), .initialized ST, .classLink ST 10 ST, .fieldLink ST 38 ST "COMPACT_STRINGS" "Z", .fieldLink ST 15 ST "coder" "B", .fieldLink ST 9 ST "value" "[B", .methodLink ST 541 LEq.yN, .static LEq.yN, .code LEq.yN LEq.yB 3 (some .boolean), .initialized "java/lang/StringLatin1"]
theorem tabEq_of {a : Array Value} {s : State} (h : ∀ w ∈ wordsEq, w.before a s = true) : SEq.tab.before a s = true := by
  have hl : LEq.tab.before a s = true := unparts (wk h (.code LEq.yN LEq.yB 3 (some .boolean))) (wks h (.initialized LEq.yN.cls :: LEq.site))
  have q := consq hl h
  exact unparts (wk q (.code SEq.yN SEq.yB 3 (some .boolean))) (wks q (.initialized SEq.yN.cls :: SEq.site))
theorem movedEq {Z s : State} {a0 args : Array Value} (hZ : Z.Warmed39 s.vm) (hw : ∀ d ∈ wordsEq, d.before a0 Z = true) : ∀ d ∈ wordsEq, d.before args s = true := fun d hd => by
  have t : ∀ d ∈ wordsEq, (d.onTables && d.keepsFace) = true := by decide +kernel
  exact RoadKit.mv hZ (hw d hd) (t d hd)
/-- the road's facts of a String, as the laws ask it -/
theorem txt_of {Z U : State} {a0 : Array Value} {kI : Nat} (wi : (Jvm.Cond.instantiable ST kI).before a0 Z = true) (al : Z.vm.Alike U.vm) {x t : Addr} {kb : ClassId} {cs : List Int32} {cd N2 : Int32} {vs : List Value} (E : RoadKit.Exa Z U.heap x ST) (V : RoadKit.Fld Z U.heap x ST "value" "[B" (.ref t)) (C : RoadKit.Fld Z U.heap x ST "coder" "B" (.int cd)) (K : RoadKit.Arv Z U.heap t kb .byte N2 vs (.int 0)) (hc : CodA cs cd N2 vs) (hb : ∀ c ∈ cs, ¬ c < 0 ∧ ¬ (65535 : Int32) < c) (l2 : cs.length ≤ 4000) :
    ∃ A, Txt x t A cd cs.length (fun j => cs.getD j 0) U := by
  obtain ⟨A, K1, K2, K3, K4, K5, K6⟩ := K
  have hcod := hc.cod (by omega) K3 K5
  obtain ⟨D, fV, fC, hB, F1, F2, g1, g2, -, -⟩ := strObj wi al E V C
  exact ⟨A, ⟨_, hB.2.2.1, D, hB.1, rfl, by cases q : D.vm <;> first | rfl | exact absurd q (hB.2.1.2 _)⟩, Has.of hB F1 g1, Has.of hB F2 g2, ⟨K1.1, State.isArrayOf_alike al K1.2.1, K1.2.2, by rcases hcod with ⟨-, q, -⟩ | ⟨-, q, -⟩ <;> omega⟩, hcod, fun j hj => by
    have e : cs.getD j 0 = cs[j] := by simp [List.getD_eq_getElem?_getD, hj]
    show ¬ cs.getD j 0 < 0 ∧ ¬ 65535 < cs.getD j 0
    rw [e]; exact hb _ (List.getElem_mem _)⟩
theorem same_list (cs ds : List Int32) : SameT cs.length (fun j => cs.getD j 0) ds.length (fun j => ds.getD j 0) ↔ cs = ds := by
  constructor
  · rintro ⟨e, q⟩
    refine List.ext_getElem e fun j h1 h2 => ?_
    have := q j h1
    simpa [List.getD_eq_getElem?_getD, h1, h2] using this
  · rintro rfl
    exact ⟨rfl, fun _ _ => rfl⟩
/-- **equals(Object) OF TWO SUCH STRINGS**: 1 just where the chars are the same -/
theorem eqW {p : Program} {l : Launch} {e : Env} {R : Room} {s : State} {args : Array Value} {below : List Frame} {len W : Nat} {Z : State} {a0 : Array Value} {h : Heap} (hZ : Z.Warmed39 s.vm) (hw : ∀ d ∈ wordsEq, d.before a0 Z = true) {kI : Nat} (wi : (Jvm.Cond.instantiable ST kI).before a0 Z = true)
    {x t : Addr} {kb : ClassId} {cs : List Int32} {cd N2 : Int32} {vs : List Value} (E : RoadKit.Exa Z h x ST) (V : RoadKit.Fld Z h x ST "value" "[B" (.ref t)) (C : RoadKit.Fld Z h x ST "coder" "B" (.int cd)) (K : RoadKit.Arv Z h t kb .byte N2 vs (.int 0)) (hc : CodA cs cd N2 vs) (hb : ∀ c ∈ cs, ¬ c < 0 ∧ ¬ (65535 : Int32) < c) (l2 : cs.length ≤ 4000)
    {y t' : Addr} {kb' : ClassId} {ds : List Int32} {cd' N2' : Int32} {vs' : List Value} (E' : RoadKit.Exa Z h y ST) (V' : RoadKit.Fld Z h y ST "value" "[B" (.ref t')) (C' : RoadKit.Fld Z h y ST "coder" "B" (.int cd')) (K' : RoadKit.Arv Z h t' kb' .byte N2' vs' (.int 0)) (hc' : CodA ds cd' N2' vs') (hb' : ∀ c ∈ ds, ¬ c < 0 ∧ ¬ (65535 : Int32) < c) (l2' : ds.length ≤ 4000)
    {z : Int32} (S : RoadKit.Sta Z h ST "COMPACT_STRINGS" "Z" (.int z)) (hz : ¬ z = 0) (hfr : 2 ≤ R.frames) (hlo : W + 28 ≤ R.locals) :
    Back l R p e below s args (⟨"java/lang/String", "equals", "(Ljava/lang/Object;)Z"⟩ : MethodName) len W (fun P a => a = #[.ref x, .ref y] ∧ P.U.heap = h ∧ P.cells + 0 ≤ R.cells ∧ P.slots + 0 ≤ R.slots)
      (fun P _ v B => ∃ L, (((v = some (.int 1) ∧ cs = ds) ∨ (v = some (.int 0) ∧ ¬ cs = ds)) ∧ L = [] ∧ B.U.heap = h) ∧ B.locs = P.locs ++ L ∧ B.cells = P.cells + 0 ∧ B.slots = P.slots + 0) := by
  intro m meth c P g ig mk a X hg hsize hdg hW hn hp'
  obtain ⟨rfl, rfl, r1, r2⟩ := hp'
  have al : Z.vm.Alike P.U.vm := hZ.alike.trans X.warmed.alike
  obtain ⟨A, hx⟩ := txt_of wi al E V C K hc hb l2
  obtain ⟨A', hy⟩ := txt_of wi al E' V' C' K' hc' hb' l2'
  obtain ⟨v, B, X', ⟨⟨w, hv, hh, hq⟩, hl, hk, hs⟩, st⟩ := SEq.pays x t A cd cs.length (fun j => cs.getD j 0) y t' A' cd' ds.length (fun j => ds.getD j 0) z (tabEq_of (movedEq hZ hw)) hfr hlo m meth c P g ig mk _ X hg hsize hdg hW hn ⟨r1, r2, rfl, hx, hy, sta_is al S, hz⟩
  refine ⟨v, B, X', ⟨[], ⟨?_, rfl, hh⟩, hl, hk, hs⟩, st⟩
  rcases hq with ⟨rfl, q⟩ | ⟨rfl, q⟩
  · exact Or.inl ⟨hv, (same_list cs ds).mp q⟩
  · exact Or.inr ⟨hv, fun e => q ((same_list cs ds).mpr e)⟩
end StrChars.Road
namespace StrChars.Road
open Jvm Sem ClassFile Op Lib Jvm.Stand Jvm.Free Jvm.Free.XT
open Jvm.Lib.Cold (StaticIs)
/-- what backV says of its String, as the contracts of this text ask it: cs's low bytes, coder 0 -/
theorem codOf {cs : List Int32} {n : Nat} (hn : cs.length = n) (hb : ∀ c ∈ cs, ¬ 255 < c) : CodA cs 0 (Int32.ofNat n) ((cs.map lo8).map Value.int) := Or.inl ⟨rfl, by rw [hn], by simp [List.map_map, Function.comp_def], hb⟩
end StrChars.Road
end Jvm.Pilot.@@N@@
namespace Jvm.RoadKit
open Sem ClassFile Op Lib Jvm.Stand Jvm.Free Jvm.LawKit
section Own
variable {p : Program} {l : Launch} {e : Env} {R : Room} {s : State} {m : MethodId} {args : Array Value} {below : List Frame} {meth : Method} {c : Code} {T T1 : State} {locs : List Loc} {cells slots cs ss : Nat} {Q : Option Value → Heap → List Loc → Prop} {g g1 : JFrame}
/-- from the frame g over T the body comes to its end, and what it leaves is as Q says -/
def own_Goes (p : Program) (e : Env) (below : List Frame) (s : State) (Q : Option Value → Heap → List Loc → Prop) (cs ss : Nat) (T : State) (g : JFrame) : Prop :=
  ∃ s₂ o, Steps p.tables e below (T.setTop g) s₂ ∧ s₂.status = .running ∧ Ended s₂ below o ∧ ∃ v L, o = .returned v ∧ Q v s₂.heap L ∧ FrameEnd s o s₂ L cs ss
theorem own_go (st : ∀ target, Steps p.tables e below (T1.setTop g1) target → Steps p.tables e below (T.setTop g) target) (k : own_Goes p e below s Q cs ss T1 g1) : own_Goes p e below s Q cs ss T g := by
  obtain ⟨s₂, o, h, r⟩ := k
  exact ⟨s₂, o, st _ h, r⟩
theorem own_goS (st : Steps p.tables e below (T.setTop g) (T1.setTop g1)) (k : own_Goes p e below s Q cs ss T1 g1) : own_Goes p e below s Q cs ss T g := own_go (fun _ h => st.trans h) k
/-- the ends -/
theorem own_retN (X : Stand p l e R s m args below meth c T locs cells slots) (hx : p.tables.exec = Jvm.exec) {pc : Nat} {Ls : Array Slot} {z : Int32} {t : FieldType} {rest : List Value} (hlk : meth.locks = false) (hret : meth.sig.returnType = some t) (ht : t = .boolean ∨ t = .byte ∨ t = .char ∨ t = .short)
    (hd : decode c.code pc = .ok (.ireturn, 1)) (hc : cells ≤ cs) (hs : slots ≤ ss) (hQ : Q (some (.int (nar t z))) T.heap locs) : own_Goes p e below s Q cs ss T (mkF m pc Ls (.int z :: rest)) := by
  obtain ⟨fs, hr, hrun, hended, hW, hsame⟩ := X.leave (v := some (.int (nar t z))) (fun h => by rw [hret] at h; cases h) hlk
  exact ⟨_, _, retN X hx hret ht hd hr, hrun, hended, _, _, rfl, hQ, ⟨_, rfl⟩, hW, hsame.mono hc hs⟩
theorem own_ret (X : Stand p l e R s m args below meth c T locs cells slots) (hx : p.tables.exec = Jvm.exec) {pc : Nat} {Ls : Array Slot} {w : Value} {t : FieldType} {i : Instr} {rest : List Value} (hlk : meth.locks = false) (hret : meth.sig.returnType = some t) (hn : narrow t w = w)
    (hi : (i = .ireturn ∧ (t = .int ∨ t = .boolean ∨ t = .byte ∨ t = .char ∨ t = .short) ∧ ∃ z, w = .int z) ∨ (i = .lreturn ∧ t = .long ∧ ∃ z, w = .long z) ∨ (i = .dreturn ∧ t = .double ∧ ∃ z, w = .double z) ∨ (i = .freturn ∧ t = .float ∧ ∃ z, w = .float z) ∨ (i = .areturn ∧ t.isReference = true ∧ w.isRef = true))
    (hd : decode c.code pc = .ok (i, 1)) (hc : cells ≤ cs) (hs : slots ≤ ss) (hQ : Q (some w) T.heap locs) : own_Goes p e below s Q cs ss T (mkF m pc Ls (w :: rest)) := by
  obtain ⟨fs, hr, hrun, hended, hW, hsame⟩ := X.leave (v := some w) (fun h => by rw [hret] at h; cases h) hlk
  exact ⟨_, _, retOut X hx hret hn hi hd hr, hrun, hended, _, _, rfl, hQ, ⟨_, rfl⟩, hW, hsame.mono hc hs⟩
theorem own_retI (X : Stand p l e R s m args below meth c T locs cells slots) (hx : p.tables.exec = Jvm.exec) {pc : Nat} {Ls : Array Slot} {z : Int32} {rest : List Value} (hlk : meth.locks = false) (hret : meth.sig.returnType = some .int)
    (hd : decode c.code pc = .ok (.ireturn, 1)) (hc : cells ≤ cs) (hs : slots ≤ ss) (hQ : Q (some (.int z)) T.heap locs) : own_Goes p e below s Q cs ss T (mkF m pc Ls (.int z :: rest)) :=
  own_ret X hx hlk hret rfl (Or.inl ⟨rfl, Or.inl rfl, _, rfl⟩) hd hc hs hQ
theorem own_retA (X : Stand p l e R s m args below meth c T locs cells slots) (hx : p.tables.exec = Jvm.exec) {pc : Nat} {Ls : Array Slot} {w : Value} {t : FieldType} {rest : List Value} (hlk : meth.locks = false) (hret : meth.sig.returnType = some t) (ht : t.isReference = true) (hw : w.isRef = true)
    (hd : decode c.code pc = .ok (.areturn, 1)) (hc : cells ≤ cs) (hs : slots ≤ ss) (hQ : Q (some w) T.heap locs) : own_Goes p e below s Q cs ss T (mkF m pc Ls (w :: rest)) :=
  own_ret X hx hlk hret (by rcases ref_cases hw with rfl | ⟨a, rfl⟩ <;> cases t <;> simp [FieldType.isReference] at ht <;> rfl) (Or.inr (Or.inr (Or.inr (Or.inr ⟨rfl, ht, hw⟩)))) hd hc hs hQ
theorem own_retV (X : Stand p l e R s m args below meth c T locs cells slots) (hx : p.tables.exec = Jvm.exec) {pc : Nat} {Ls : Array Slot} (hlk : meth.locks = false) (hret : meth.sig.returnType = none)
    (hd : decode c.code pc = .ok (.return_, 1)) (hc : cells ≤ cs) (hs : slots ≤ ss) (hQ : Q none T.heap locs) : own_Goes p e below s Q cs ss T (mkF m pc Ls []) := by
  obtain ⟨fs, hr, hrun, hended, hW, hsame⟩ := X.leave (v := none) (fun _ => rfl) hlk
  exact ⟨_, _, X.returnOut hx hret hd hr, hrun, hended, _, _, rfl, hQ, ⟨_, rfl⟩, hW, hsame.mono hc hs⟩
/-- what holds throughout a body's walk -/
def own_Ctx (Z : State) (y : MethodName) (own : String) (bytes : ByteArray) (maxL : Nat) (ret : Option FieldType) (p : Program) (s : State) (m : MethodId) (meth : Method) (c : Code) : Prop :=
  p.tables.exec = Jvm.exec ∧ c.code = bytes ∧ c.maxLocals = maxL ∧ s.vm.findClass own = some m.cls ∧ meth.name = y.name ∧ meth.sig.returnType = ret ∧ meth.locks = false ∧ Z.Warmed39 s.vm
theorem own_met {Z : State} {y : MethodName} {own : String} {bytes : ByteArray} {maxL : Nat} {ret : Option FieldType} {ws : List Cond} {rm : Room} {as' : Array Value} {h0 : Heap} (hy : y.cls = own) (hpn : plainName own = true)
    (body : ∀ (p : Program) (e : Env) (s : State) (m : MethodId) (below : List Frame) (meth : Method) (c : Code) (s₁ : State), own_Ctx Z y own bytes maxL ret p s m meth c → s₁.heap = h0 → Stand p l e rm s m as' below meth c s₁ [] 0 0 → own_Goes p e below s Q cs ss s₁ (entryFrame m as' maxL)) :
    MetFree l y (head1 (Cond.code y bytes maxL ret :: ws) rm) (fun a U => a = as' ∧ Z.Warmed39 U.vm ∧ U.heap = h0) (fun _ _ _ _ _ => True) (fun _ U o U' => ∃ v L, o = .returned v ∧ Q v U'.heap L ∧ FrameEnd U o U' L cs ss) := by
  subst hy
  refine MetFree.of_bodySF (plainFor_of_name hpn) hisR ?_
  intro p e s m args below meth c s₁ Bd hml0 hP hK
  obtain ⟨rfl, hZ, hh⟩ := hP
  exact body p e s m below meth c s₁ ⟨Bd.exec, Bd.bytes, hml0, findClass_of_methodNamed Bd.named, (name_of_methodNamed Bd.named Bd.method).1, Bd.returns, Bd.notSynchronized, hZ⟩ (by rw [← hh, Bd.state]; rfl) (Stand.of_body Bd)
end Own
end Jvm.RoadKit
namespace Jvm.Pilot.@@N@@
open Jvm Jvm.ClassFile Sem Op Lib Jvm.Free Jvm.Stand Jvm.LawKit Jvm.RoadKit Bundle Jvm.Pilot.@@N@@.Jvm.D
/-- a String at a whose chars are cs (each 0 to 255); it and its bytes lie below N -/
def own_Str (Z : State) (h : Heap) (N : Nat) (a : Addr) (cs : List Int32) : Prop := Exa Z h a "java/lang/String" ∧ Fld Z h a "java/lang/String" "coder" "B" (.int (0 : Int32)) ∧ a < N ∧ (∀ c ∈ cs, ¬ c < 0 ∧ ¬ (255 : Int32) < c) ∧ cs.length ≤ 4000 ∧
  ∃ (t : Addr) (kb : ClassId), t < N ∧ Fld Z h a "java/lang/String" "value" "[B" (.ref t) ∧ Arv Z h t kb .byte (Int32.ofNat cs.length) ((cs.map (fun c => c.toInt8.toInt32)).map Value.int) (.int 0)
theorem own_Str.ext {Z : State} {h h' : Heap} {N : Nat} {a : Addr} {cs : List Int32} (F : own_Str Z h N a cs) (E : Ext h h') : own_Str Z h' N a cs := by
  obtain ⟨f1, f2, f3, f4, f5, t, kb, f6, f7, f8⟩ := F
  exact ⟨f1.ext E, f2.ext E, f3, f4, f5, t, kb, f6, f7.ext E, f8.ext E⟩
theorem own_Str.wr {Z : State} {h h' : Heap} {N : Nat} {a b : Addr} {sl : Nat} {v : Value} {cs : List Int32} (F : own_Str Z h N a cs) (W : Wr h h' b sl v) (q : N ≤ b) : own_Str Z h' N a cs := by
  obtain ⟨f1, f2, f3, f4, f5, t, kb, f6, f7, f8⟩ := F
  have n1 : a ≠ b := Nat.ne_of_lt (Nat.lt_of_lt_of_le f3 q)
  have n2 : t ≠ b := Nat.ne_of_lt (Nat.lt_of_lt_of_le f6 q)
  exact ⟨f1.wr W, f2.other W (Or.inl n1), f3, f4, f5, t, kb, f6, f7.other W (Or.inl n1), f8.other W n2⟩
theorem own_Str.keep {Z : State} {h h' : Heap} {N : Nat} {a : Addr} {ws : List Addr} {cs : List Int32} (F : own_Str Z h N a cs) (K : Keep h h' ws) (q : ∀ x ∈ ws, N ≤ x) : own_Str Z h' N a cs := by
  obtain ⟨f1, f2, f3, f4, f5, t, kb, f6, f7, f8⟩ := F
  have n1 : a ∉ ws := fun r => absurd (q a r) (Nat.not_le.mpr f3)
  have n2 : t ∉ ws := fun r => absurd (q t r) (Nat.not_le.mpr f6)
  exact ⟨f1.keep K, f2.keep K n1, f3, f4, f5, t, kb, f6, f7.keep K n1, f8.keep K n2⟩
theorem own_Str.mono {Z : State} {h : Heap} {N N' : Nat} {a : Addr} {cs : List Int32} (F : own_Str Z h N a cs) (q : N ≤ N') : own_Str Z h N' a cs := by
  obtain ⟨f1, f2, f3, f4, f5, t, kb, f6, f7⟩ := F
  exact ⟨f1, f2, Nat.lt_of_lt_of_le f3 q, f4, f5, t, kb, Nat.lt_of_lt_of_le f6 q, f7⟩
theorem own_up (cs : List Int32) (h : ∀ c ∈ cs, ¬ c < 0 ∧ ¬ (255 : Int32) < c) : ∀ c ∈ cs, ¬ c < 0 ∧ ¬ (65535 : Int32) < c := fun c hc => ⟨(h c hc).1, fun q => (h c hc).2 (by rw [Int32.lt_iff_toInt_lt] at q ⊢; have e1 : (65535 : Int32).toInt = 65535 := rfl; have e2 : (255 : Int32).toInt = 255 := rfl; omega)⟩
theorem own_cod {cs : List Int32} (h : ∀ c ∈ cs, ¬ c < 0 ∧ ¬ (255 : Int32) < c) : StrChars.Road.CodA cs 0 (Int32.ofNat cs.length) ((cs.map (fun c => c.toInt8.toInt32)).map Value.int) := StrChars.Road.codOf rfl (fun c hc => (h c hc).2)
/-- a char made of the low eight bits -/
def own_ch (x : Int32) : Int32 := nar .char ((x &&& (255 : Int32)).toUInt32.toUInt16.toUInt32.toInt32)
theorem own_ch_nat (x : Int32) : ∃ k : Fin 256, (x &&& 255) = Int32.ofNat k.val := by
  have h : (x &&& 255).toBitVec.toNat < 256 := by
    simp only [Int32.toBitVec_and, BitVec.toNat_and]
    exact Nat.lt_succ_of_le Nat.and_le_right
  refine ⟨⟨_, h⟩, ?_⟩
  apply Int32.toBitVec_inj.mp
  show _ = BitVec.ofNat 32 _
  rw [BitVec.ofNat_toNat]; simp
theorem own_ch_eq (x : Int32) : own_ch x = x &&& 255 := by
  have t : ∀ k : Fin 256, nar .char ((Int32.ofNat k.val).toUInt32.toUInt16.toUInt32.toInt32) = Int32.ofNat k.val := by decide +kernel
  obtain ⟨k, e⟩ := own_ch_nat x
  unfold own_ch; rw [e]; exact t k
theorem own_ch_in (x : Int32) : ¬ own_ch x < 0 ∧ ¬ (255 : Int32) < own_ch x := by
  have t : ∀ k : Fin 256, ¬ (Int32.ofNat k.val) < 0 ∧ ¬ (255 : Int32) < (Int32.ofNat k.val) := by decide +kernel
  obtain ⟨k, e⟩ := own_ch_nat x
  rw [own_ch_eq, e]; exact t k
def own_KN (h h' : Heap) (N : Nat) : Prop := ∃ ws, Keep h h' ws ∧ ∀ x ∈ ws, N ≤ x
/-- a FieldNames at a: the numbers u, k names, the first of them s0 -/
def own_FN (Z : State) (h : Heap) (N : Nat) (a : Addr) (u : Int64) (k : Int32) (s0 : Addr) : Prop := Exa Z h a "dev/resolvent/io/FieldNames" ∧ Fld Z h a "dev/resolvent/io/FieldNames" "numbered" "J" (.long u) ∧ Fld Z h a "dev/resolvent/io/FieldNames" "count" "I" (.int k) ∧ Fld Z h a "dev/resolvent/io/FieldNames" "many" "Ljava/util/Set;" .null ∧ N ≤ a ∧
  ∃ (b : Addr) (cl : Cell), Fld Z h a "dev/resolvent/io/FieldNames" "few" "[Ljava/lang/String;" (.ref b) ∧ Arr Z h b cl (.object "java/lang/String") ∧ Ovr Z cl.cls "java/lang/String" ∧ cl.slots.size = 16 ∧ (k = 1 → cl.slots[0]? = some (.ref s0)) ∧ N ≤ b ∧ a ≠ b
theorem own_arv2 {Z : State} {h : Heap} {a : Addr} {k : ClassId} {x0 x1 : Int32} (A : Arr Z h a (((newA k .char 2).setSlot 0 (.int x0)).setSlot 1 (.int x1)) .char) (f0 : fits .char (.int x0) = true) (f1 : fits .char (.int x1) = true) : Arv Z h a k .char 2 [.int x0, .int x1] (.int (0 : Int32)) := by
  refine ⟨_, A, rfl, rfl, by decide, fun i hi => ?_, fun i hi => ?_⟩
  · have hi' : i < 2 := hi
    match i, hi' with
    | 0, _ => rfl
    | 1, _ => rfl
  · have hi' : i < 2 := hi
    match i, hi' with
    | 0, _ => exact f0
    | 1, _ => exact f1
def own_bit (u : Int64) (p : Int32) : Int32 := if (u &&& ((1 : Int64) <<< (p &&& 0x3f).toInt64)) = (0 : Int64) then 1 else 0
def own_or (u : Int64) (p : Int32) : Int64 := u ||| ((1 : Int64) <<< (p &&& 0x3f).toInt64)
def own_neq (cs ds : List Int32) : Int32 := if cs = ds then 0 else 1
def own_in (k : Int32) : Int32 := if k < 0 then 0 else if k < 64 then 1 else 0
def own_sec (k1 k2 : Int32) (cs ds : List Int32) : Int32 := if own_in k2 = 0 then (if own_in k1 = 0 then (if cs = ds then 0 else 1) else 1) else (if k1 = k2 then 0 else 1)
theorem own_bit0 (p : Int32) : own_bit 0 p = 1 := by
  unfold own_bit; rw [if_pos]; exact Int64.zero_and
theorem own_in0 {k : Int32} (h : own_in k = 0) : k < 0 ∨ ¬ k < 64 := by
  unfold own_in at h; split at h
  · left; assumption
  · split at h
    · exact absurd h (by decide)
    · right; assumption
theorem own_in1 {k : Int32} (h : ¬ own_in k = 0) : ¬ k < 0 ∧ k < 64 := by
  unfold own_in at h; split at h
  · exact absurd rfl h
  · split at h
    · constructor <;> assumption
    · exact absurd rfl h
theorem own_nat {k : Int32} (h : ¬ k < 0 ∧ k < 64) : ∃ i : Fin 64, k = Int32.ofNat i.val := by
  have h1 := h.1; have h2 := h.2
  simp only [Int32.lt_iff_toInt_lt, Int32.reduceToInt] at h1 h2
  refine ⟨⟨k.toInt.toNat, by omega⟩, Int32.toInt_inj.mp ?_⟩
  rw [Int32.toInt_ofNat_of_lt (by show k.toInt.toNat < 2 ^ 31; omega)]
  show k.toInt = ((k.toInt.toNat : Nat) : Int)
  omega
theorem own_bits : ∀ i j : Fin 64, own_bit (own_or 0 (Int32.ofNat i.val)) (Int32.ofNat j.val) = if i = j then 0 else 1 := by decide +kernel
theorem own_inj : ∀ i j : Fin 64, (Int32.ofNat i.val = Int32.ofNat j.val) = (i = j) := by
  intro i j
  have hi := i.isLt; have hj := j.isLt
  refine propext ⟨fun h => ?_, fun h => by rw [h]⟩
  have r := congrArg Int32.toInt h
  rw [Int32.toInt_ofNat_of_lt (by omega), Int32.toInt_ofNat_of_lt (by omega)] at r
  exact Fin.ext (by omega)
theorem own_s11 {p q : Int32} {cs ds : List Int32} (h1 : ¬ own_in p = 0) (h2 : ¬ own_in q = 0) : own_bit (own_or 0 p) q = own_sec p q cs ds := by
  unfold own_sec; rw [if_neg h2]
  obtain ⟨i, rfl⟩ := own_nat (own_in1 h1)
  obtain ⟨j, rfl⟩ := own_nat (own_in1 h2)
  rw [own_bits]; simp only [own_inj]
theorem own_s10 {p q : Int32} {cs ds : List Int32} (h1 : ¬ own_in p = 0) (h2 : own_in q = 0) : (1 : Int32) = own_sec p q cs ds := by
  unfold own_sec; rw [if_pos h2, if_neg h1]
theorem own_s01 {p q : Int32} {cs ds : List Int32} (h1 : own_in p = 0) (h2 : ¬ own_in q = 0) : own_bit 0 q = own_sec p q cs ds := by
  unfold own_sec; rw [if_neg h2, own_bit0, if_neg]
  rintro rfl; exact h2 h1
theorem own_s00 {p q : Int32} {cs ds : List Int32} (h1 : own_in p = 0) (h2 : own_in q = 0) : own_neq cs ds = own_sec p q cs ds := by
  unfold own_sec; rw [if_pos h2, if_pos h1]; rfl
theorem own_words : ∀ d ∈ StrChars.Road.words, d ∈ tables_1 := by decide +kernel
theorem own_wordsEq : ∀ d ∈ StrChars.Road.wordsEq, d ∈ tables_1 := by decide +kernel
theorem d7_0 : decode prog_6_method_1_code 0 = .ok (.aload_n 0, 1) := by decide +kernel
theorem d7_1 : decode prog_6_method_1_code 1 = .ok (.invokespecial 1, 3) := by decide +kernel
theorem d7_4 : decode prog_6_method_1_code 4 = .ok (.aload_n 0, 1) := by decide +kernel
theorem d7_5 : decode prog_6_method_1_code 5 = .ok (.bipush 16, 2) := by decide +kernel
theorem d7_7 : decode prog_6_method_1_code 7 = .ok (.anewarray 9, 3) := by decide +kernel
theorem d7_10 : decode prog_6_method_1_code 10 = .ok (.putfield 11, 3) := by decide +kernel
theorem d7_13 : decode prog_6_method_1_code 13 = .ok (.return_, 1) := by decide +kernel
theorem d8_0 : decode prog_6_method_3_code 0 = .ok (.iload_n 2, 1) := by decide +kernel
theorem d8_1 : decode prog_6_method_3_code 1 = .ok (.ifCond .lt 44, 3) := by decide +kernel
theorem d8_4 : decode prog_6_method_3_code 4 = .ok (.iload_n 2, 1) := by decide +kernel
theorem d8_5 : decode prog_6_method_3_code 5 = .ok (.bipush 64, 2) := by decide +kernel
theorem d8_7 : decode prog_6_method_3_code 7 = .ok (.if_icmp .ge 38, 3) := by decide +kernel
theorem d8_10 : decode prog_6_method_3_code 10 = .ok (.lconst 1, 1) := by decide +kernel
theorem d8_11 : decode prog_6_method_3_code 11 = .ok (.iload_n 2, 1) := by decide +kernel
theorem d8_12 : decode prog_6_method_3_code 12 = .ok (.lshl, 1) := by decide +kernel
theorem d8_13 : decode prog_6_method_3_code 13 = .ok (.lstore_n 3, 1) := by decide +kernel
theorem d8_14 : decode prog_6_method_3_code 14 = .ok (.aload_n 0, 1) := by decide +kernel
theorem d8_15 : decode prog_6_method_3_code 15 = .ok (.getfield 15, 3) := by decide +kernel
theorem d8_18 : decode prog_6_method_3_code 18 = .ok (.lload_n 3, 1) := by decide +kernel
theorem d8_19 : decode prog_6_method_3_code 19 = .ok (.land, 1) := by decide +kernel
theorem d8_20 : decode prog_6_method_3_code 20 = .ok (.lconst 0, 1) := by decide +kernel
theorem d8_21 : decode prog_6_method_3_code 21 = .ok (.lcmp, 1) := by decide +kernel
theorem d8_22 : decode prog_6_method_3_code 22 = .ok (.ifCond .ne 7, 3) := by decide +kernel
theorem d8_25 : decode prog_6_method_3_code 25 = .ok (.iconst 1, 1) := by decide +kernel
theorem d8_26 : decode prog_6_method_3_code 26 = .ok (.goto 4, 3) := by decide +kernel
theorem d8_29 : decode prog_6_method_3_code 29 = .ok (.iconst 0, 1) := by decide +kernel
theorem d8_30 : decode prog_6_method_3_code 30 = .ok (.istore 5, 2) := by decide +kernel
theorem d8_32 : decode prog_6_method_3_code 32 = .ok (.aload_n 0, 1) := by decide +kernel
theorem d8_33 : decode prog_6_method_3_code 33 = .ok (.dup, 1) := by decide +kernel
theorem d8_34 : decode prog_6_method_3_code 34 = .ok (.getfield 15, 3) := by decide +kernel
theorem d8_37 : decode prog_6_method_3_code 37 = .ok (.lload_n 3, 1) := by decide +kernel
theorem d8_38 : decode prog_6_method_3_code 38 = .ok (.lor, 1) := by decide +kernel
theorem d8_39 : decode prog_6_method_3_code 39 = .ok (.putfield 15, 3) := by decide +kernel
theorem d8_42 : decode prog_6_method_3_code 42 = .ok (.iload 5, 2) := by decide +kernel
theorem d8_44 : decode prog_6_method_3_code 44 = .ok (.ireturn, 1) := by decide +kernel
theorem d8_45 : decode prog_6_method_3_code 45 = .ok (.aload_n 0, 1) := by decide +kernel
theorem d8_46 : decode prog_6_method_3_code 46 = .ok (.getfield 23, 3) := by decide +kernel
theorem d8_49 : decode prog_6_method_3_code 49 = .ok (.ifnull 14, 3) := by decide +kernel
theorem d8_63 : decode prog_6_method_3_code 63 = .ok (.iconst 0, 1) := by decide +kernel
theorem d8_64 : decode prog_6_method_3_code 64 = .ok (.istore_n 3, 1) := by decide +kernel
theorem d8_65 : decode prog_6_method_3_code 65 = .ok (.iload_n 3, 1) := by decide +kernel
theorem d8_66 : decode prog_6_method_3_code 66 = .ok (.aload_n 0, 1) := by decide +kernel
theorem d8_67 : decode prog_6_method_3_code 67 = .ok (.getfield 19, 3) := by decide +kernel
theorem d8_70 : decode prog_6_method_3_code 70 = .ok (.if_icmp .ge 24, 3) := by decide +kernel
theorem d8_73 : decode prog_6_method_3_code 73 = .ok (.aload_n 0, 1) := by decide +kernel
theorem d8_74 : decode prog_6_method_3_code 74 = .ok (.getfield 11, 3) := by decide +kernel
theorem d8_77 : decode prog_6_method_3_code 77 = .ok (.iload_n 3, 1) := by decide +kernel
theorem d8_78 : decode prog_6_method_3_code 78 = .ok (.aaload, 1) := by decide +kernel
theorem d8_79 : decode prog_6_method_3_code 79 = .ok (.aload_n 1, 1) := by decide +kernel
theorem d8_80 : decode prog_6_method_3_code 80 = .ok (.invokevirtual 35, 3) := by decide +kernel
theorem d8_83 : decode prog_6_method_3_code 83 = .ok (.ifCond .eq 5, 3) := by decide +kernel
theorem d8_86 : decode prog_6_method_3_code 86 = .ok (.iconst 0, 1) := by decide +kernel
theorem d8_87 : decode prog_6_method_3_code 87 = .ok (.ireturn, 1) := by decide +kernel
theorem d8_88 : decode prog_6_method_3_code 88 = .ok (.iinc 3 1, 3) := by decide +kernel
theorem d8_91 : decode prog_6_method_3_code 91 = .ok (.goto (-26), 3) := by decide +kernel
theorem d8_94 : decode prog_6_method_3_code 94 = .ok (.aload_n 0, 1) := by decide +kernel
theorem d8_95 : decode prog_6_method_3_code 95 = .ok (.getfield 19, 3) := by decide +kernel
theorem d8_98 : decode prog_6_method_3_code 98 = .ok (.bipush 16, 2) := by decide +kernel
theorem d8_100 : decode prog_6_method_3_code 100 = .ok (.if_icmp .ge 22, 3) := by decide +kernel
theorem d8_103 : decode prog_6_method_3_code 103 = .ok (.aload_n 0, 1) := by decide +kernel
theorem d8_104 : decode prog_6_method_3_code 104 = .ok (.getfield 11, 3) := by decide +kernel
theorem d8_107 : decode prog_6_method_3_code 107 = .ok (.aload_n 0, 1) := by decide +kernel
theorem d8_108 : decode prog_6_method_3_code 108 = .ok (.dup, 1) := by decide +kernel
theorem d8_109 : decode prog_6_method_3_code 109 = .ok (.getfield 19, 3) := by decide +kernel
theorem d8_112 : decode prog_6_method_3_code 112 = .ok (.dup_x1, 1) := by decide +kernel
theorem d8_113 : decode prog_6_method_3_code 113 = .ok (.iconst 1, 1) := by decide +kernel
theorem d8_114 : decode prog_6_method_3_code 114 = .ok (.iadd, 1) := by decide +kernel
theorem d8_115 : decode prog_6_method_3_code 115 = .ok (.putfield 19, 3) := by decide +kernel
theorem d8_118 : decode prog_6_method_3_code 118 = .ok (.aload_n 1, 1) := by decide +kernel
theorem d8_119 : decode prog_6_method_3_code 119 = .ok (.aastore, 1) := by decide +kernel
theorem d8_120 : decode prog_6_method_3_code 120 = .ok (.iconst 1, 1) := by decide +kernel
theorem d8_121 : decode prog_6_method_3_code 121 = .ok (.ireturn, 1) := by decide +kernel
theorem d9_0 : decode prog_6_method_2_code 0 = .ok (.aload_n 0, 1) := by decide +kernel
theorem d9_1 : decode prog_6_method_2_code 1 = .ok (.lconst 0, 1) := by decide +kernel
theorem d9_2 : decode prog_6_method_2_code 2 = .ok (.putfield 15, 3) := by decide +kernel
theorem d9_5 : decode prog_6_method_2_code 5 = .ok (.aload_n 0, 1) := by decide +kernel
theorem d9_6 : decode prog_6_method_2_code 6 = .ok (.iconst 0, 1) := by decide +kernel
theorem d9_7 : decode prog_6_method_2_code 7 = .ok (.putfield 19, 3) := by decide +kernel
theorem d9_10 : decode prog_6_method_2_code 10 = .ok (.aload_n 0, 1) := by decide +kernel
theorem d9_11 : decode prog_6_method_2_code 11 = .ok (.aconst_null, 1) := by decide +kernel
theorem d9_12 : decode prog_6_method_2_code 12 = .ok (.putfield 23, 3) := by decide +kernel
theorem d9_15 : decode prog_6_method_2_code 15 = .ok (.return_, 1) := by decide +kernel
theorem pn_0 : plainName "dev/resolvent/io/FieldNamesClearPinLaw" = true := by first | (simp [plainName, overriddenIn]; done) | decide +kernel
theorem pn_1 : plainName "java/lang/String" = true := by first | (simp [plainName, overriddenIn]; done) | decide +kernel
theorem pn_2 : plainName "java/lang/String" = true := by first | (simp [plainName, overriddenIn]; done) | decide +kernel
theorem pn_4 : plainName "java/lang/StringUTF16" = true := by first | (simp [plainName, overriddenIn]; done) | decide +kernel
theorem pn_5 : plainName "java/lang/StringUTF16" = true := by first | (simp [plainName, overriddenIn]; done) | decide +kernel
theorem pn_6 : plainName "java/lang/StringUTF16" = true := by first | (simp [plainName, overriddenIn]; done) | decide +kernel
theorem pn_7 : plainName "dev/resolvent/io/FieldNames" = true := by first | (simp [plainName, overriddenIn]; done) | decide +kernel
theorem pn_8 : plainName "dev/resolvent/io/FieldNames" = true := by first | (simp [plainName, overriddenIn]; done) | decide +kernel
theorem pn_9 : plainName "dev/resolvent/io/FieldNames" = true := by first | (simp [plainName, overriddenIn]; done) | decide +kernel
theorem pn_10 : plainName "java/lang/String" = true := by first | (simp [plainName, overriddenIn]; done) | decide +kernel
theorem pn_11 : plainName "java/lang/StringLatin1" = true := by first | (simp [plainName, overriddenIn]; done) | decide +kernel
theorem pd_0 : parseMethodDescriptor "(Ljava/lang/Object;)Z" = some ⟨[(.object "java/lang/Object")], some .boolean⟩ := by decide +kernel
theorem pd_1 : parseMethodDescriptor "()V" = some ⟨[], none⟩ := by decide +kernel
theorem pd_2 : parseMethodDescriptor "(Ljava/lang/String;I)Z" = some ⟨[(.object "java/lang/String"), .int], some .boolean⟩ := by decide +kernel
theorem pd_3 : parseMethodDescriptor "([C)V" = some ⟨[(.array .char)], none⟩ := by decide +kernel
theorem ef_7 (m : MethodId) (a1 : Addr) : entryFrame m #[(.ref a1)] 1 = mkF m 0 #[.val (.ref a1)] [] := by first | (simp [entryFrame, mkF, argsToLocals, Value.category]; done) | rfl
theorem ef_9 (m : MethodId) (a1 : Addr) : entryFrame m #[(.ref a1)] 1 = mkF m 0 #[.val (.ref a1)] [] := by first | (simp [entryFrame, mkF, argsToLocals, Value.category]; done) | rfl
theorem ef_8 (m : MethodId) (a1 : Addr) (a2 : Addr) (p2 : Int32) : entryFrame m #[(.ref a1), (.ref a2), (.int p2)] 6 = mkF m 0 #[.val (.ref a1), .val (.ref a2), .val (.int p2), .unset, .unset, .unset] [] := by first | (simp [entryFrame, mkF, argsToLocals, Value.category]; done) | rfl
theorem ef_0 (m : MethodId) (p0 : Int32) (p1 : Int32) (p2 : Int32) : entryFrame m #[(.int p0), (.int p1), (.int p2)] maxLocals = mkF m 0 #[.val (.int p0), .val (.int p1), .val (.int p2), .unset, .unset, .unset, .unset, .unset, .unset, .unset, .unset, .unset, .unset, .unset, .unset] [] := by first | (simp [entryFrame, mkF, argsToLocals, Value.category, maxLocals]; done) | rfl
def Q_rm_init (Z : State) (h0 : Heap) (n0 : Nat) (a1 : Addr) (N : Nat) (v : Option Value) (h : Heap) (L : List Loc) : Prop := v = none ∧ Fr n0 L ∧ n0 ≤ h.size ∧ own_KN h0 h N ∧ own_FN Z h N a1 0 0 0
set_option maxRecDepth 65536 in
set_option maxHeartbeats 40000000 in
theorem rm_init (l : Launch) (Z : State) (a0 : Array Value) (hw : ∀ d ∈ tables_1, d.before a0 Z = true) (ws : List Jvm.Cond) (a1 : Addr) (h0 : Heap) (n0 : Nat) (Z0 : n0 ≤ h0.size) (E_a1 : Exa Z h0 a1 "dev/resolvent/io/FieldNames") (F_numbered : Fld Z h0 a1 "dev/resolvent/io/FieldNames" "numbered" "J" (.long (0 : Int64))) (F_count : Fld Z h0 a1 "dev/resolvent/io/FieldNames" "count" "I" (.int (0 : Int32))) (F_many : Fld Z h0 a1 "dev/resolvent/io/FieldNames" "many" "Ljava/util/Set;" .null) (F_few : Fld Z h0 a1 "dev/resolvent/io/FieldNames" "few" "[Ljava/lang/String;" .null) (lo_a1 : n0 ≤ a1) (N : Nat) (hN0 : N ≤ h0.size) (lN1 : N ≤ a1) :
    MetFree l (⟨"dev/resolvent/io/FieldNames", "<init>", "()V"⟩ : MethodName) (head1 (Jvm.Cond.code (⟨"dev/resolvent/io/FieldNames", "<init>", "()V"⟩ : MethodName) prog_6_method_1_code 1 none :: ws) ({ frames := 1, cells := 1, slots := 16, locals := 12 } : Room)) (fun a U => a = #[(.ref a1)] ∧ Z.Warmed39 U.vm ∧ U.heap = h0) (fun _ _ _ _ _ => True) (fun _ U o U' => ∃ rv rL, o = .returned rv ∧ Q_rm_init Z h0 n0 a1 N rv U'.heap rL ∧ FrameEnd U o U' rL ({ frames := 1, cells := 1, slots := 16, locals := 12 } : Room).cells ({ frames := 1, cells := 1, slots := 16, locals := 12 } : Room).slots) := by
  refine own_met (y := (⟨"dev/resolvent/io/FieldNames", "<init>", "()V"⟩ : MethodName)) (Q := Q_rm_init Z h0 n0 a1 N) (own := "dev/resolvent/io/FieldNames") rfl pn_7 ?_
  intro p e s m below meth c s₁ C e0 X0
  obtain ⟨hx, hby, hml, hown, hnm, hret, hlk, hZ⟩ := C
  have N0 := Fr.nil n0
  rw [ef_7]
  have Kp0 : Keep h0 h0 [a1] := Keep.refl h0 _
  show own_Goes _ _ _ _ _ _ _ s₁ (mkF m 0 #[.val (.ref a1)] [])
  refine own_go (fun _ k => XS.aloadN X0.here hx rfl (hb hby d7_0) rfl rfl k) ?_
  show own_Goes _ _ _ _ _ _ _ s₁ (mkF m 1 #[.val (.ref a1)] [(.ref a1)])
  obtain ⟨T1, X1, e1, st1⟩ := initO X0 hx hZ hown (hw _ (List.mem_of_getElem? (i := 36) rfl)) (hw _ (List.mem_of_getElem? (i := 12) rfl)) (hw _ (List.mem_of_getElem? (i := 13) rfl)) e0 (g := (mkF m 1 #[.val (.ref a1)] [(.ref a1)])) rfl (by rw [hml]; rfl) rfl (hb hby d7_1) (by decide) (W := 0) (by show 2 * 0 + _ ≤ _; exact Nat.le_of_eq rfl) (by decide)
  refine own_go st1 ?_
  show own_Goes _ _ _ _ _ _ _ T1 (mkF m 4 #[.val (.ref a1)] [])
  refine own_go (fun _ k => XS.aloadN X1.here hx rfl (hb hby d7_4) rfl rfl k) ?_
  show own_Goes _ _ _ _ _ _ _ T1 (mkF m 5 #[.val (.ref a1)] [(.ref a1)])
  refine own_go (fun _ k => XS.bipush X1.here hx rfl (hb hby d7_5) k) ?_
  show own_Goes _ _ _ _ _ _ _ T1 (mkF m 7 #[.val (.ref a1)] [(.int (16 : Int32)), (.ref a1)])
  obtain ⟨T2, h2, k2, X2, e2, E2, A2, O2, st2⟩ := newR X1 hx hZ hown (hw _ (List.mem_of_getElem? (i := 37) rfl)) (hw _ (List.mem_of_getElem? (i := 38) rfl)) e1 (g := (mkF m 7 #[.val (.ref a1)] [(.int (16 : Int32)), (.ref a1)])) rfl (hb hby d7_7) rfl (by decide) (cap := 16) (by decide) (by decide) (by decide) (by decide)
  obtain ⟨b2, g2⟩ : ∃ z, z = h0.size := ⟨_, rfl⟩
  rw [← g2] at A2 st2
  have lo_b2 : n0 ≤ b2 := Nat.le_trans Z0 (Nat.le_of_eq g2.symm)
  have bo_b2 : h0.size ≤ b2 := Nat.le_trans Kp0.1 (Nat.le_of_eq g2.symm)
  have ne_a1_b2 : a1 ≠ b2 := Nat.ne_of_lt (Nat.lt_of_lt_of_le E_a1.lt (Nat.le_of_eq g2.symm))
  have E_a1_2 : Exa Z h2 a1 "dev/resolvent/io/FieldNames" := E_a1.ext E2
  have F_numbered_2 : Fld Z h2 a1 "dev/resolvent/io/FieldNames" "numbered" "J" (.long (0 : Int64)) := F_numbered.ext E2
  have F_count_2 : Fld Z h2 a1 "dev/resolvent/io/FieldNames" "count" "I" (.int (0 : Int32)) := F_count.ext E2
  have F_many_2 : Fld Z h2 a1 "dev/resolvent/io/FieldNames" "many" "Ljava/util/Set;" .null := F_many.ext E2
  have F_few_2 : Fld Z h2 a1 "dev/resolvent/io/FieldNames" "few" "[Ljava/lang/String;" .null := F_few.ext E2
  have Zs2 : n0 ≤ h2.size := Nat.le_trans Z0 E2.1
  have Kp2 : Keep h0 h2 [a1] := Kp0.ext E2
  refine own_go st2 ?_
  show own_Goes _ _ _ _ _ _ _ T2 (mkF m 10 #[.val (.ref a1)] [(.ref b2), (.ref a1)])
  obtain ⟨T3, h3, X3, e3, W3, st3⟩ := putF X2 hx hZ hown (host := "") (Or.inl (hw _ (List.mem_of_getElem? (i := 39) rfl))) Via.refl e2 F_few_2 E_a1_2 (Or.inr ⟨(hw _ (List.mem_of_getElem? (i := 40) rfl)), rfl, hnm⟩) (hw _ (List.mem_of_getElem? (i := 31) rfl)) (ty := (.array (.object "java/lang/String"))) (by decide) rfl rfl (g := (mkF m 10 #[.val (.ref a1)] [(.ref b2), (.ref a1)])) rfl rfl (hb hby d7_10)
  have F_few_3 : Fld Z h3 a1 "dev/resolvent/io/FieldNames" "few" "[Ljava/lang/String;" (.ref b2) := F_few_2.same W3
  have N3 := Fr.snoc X3 N0 lo_a1
  have E_a1_3 : Exa Z h3 a1 "dev/resolvent/io/FieldNames" := E_a1_2.wr W3
  have F_numbered_3 : Fld Z h3 a1 "dev/resolvent/io/FieldNames" "numbered" "J" (.long (0 : Int64)) := F_numbered_2.other W3 (Or.inr (slot_ne (Or.inl (hw _ (List.mem_of_getElem? (i := 47) rfl))) (Or.inr (hw _ (List.mem_of_getElem? (i := 40) rfl))) (by decide) (t := .long) (t' := (.array (.object "java/lang/String"))) (by decide) (by decide)))
  have F_count_3 : Fld Z h3 a1 "dev/resolvent/io/FieldNames" "count" "I" (.int (0 : Int32)) := F_count_2.other W3 (Or.inr (slot_ne (Or.inl (hw _ (List.mem_of_getElem? (i := 54) rfl))) (Or.inr (hw _ (List.mem_of_getElem? (i := 40) rfl))) (by decide) (t := .int) (t' := (.array (.object "java/lang/String"))) (by decide) (by decide)))
  have F_many_3 : Fld Z h3 a1 "dev/resolvent/io/FieldNames" "many" "Ljava/util/Set;" .null := F_many_2.other W3 (Or.inr (slot_ne (Or.inl (hw _ (List.mem_of_getElem? (i := 56) rfl))) (Or.inr (hw _ (List.mem_of_getElem? (i := 40) rfl))) (by decide) (t := (.object "java/util/Set")) (t' := (.array (.object "java/lang/String"))) (by decide) (by decide)))
  have V_b2_3 : Arr Z h3 b2 (newA k2 (.object "java/lang/String") (16 : Int32)) (.object "java/lang/String") := A2.other W3 (Ne.symm ne_a1_b2)
  have Zs3 : n0 ≤ h3.size := Nat.le_trans Zs2 (Keep.of_wr W3).1
  have Kp3 : Keep h0 h3 [a1] := Kp2.wr W3 (Or.inl (by simp))
  refine own_go st3 ?_
  show own_Goes _ _ _ _ _ _ _ T3 (mkF m 13 #[.val (.ref a1)] [])
  exact own_retV X3 hx hlk hret (hb hby d7_13) (by decide) (by decide) (by rw [e3]; exact ⟨rfl, N3, Zs3, ⟨[a1], Kp3, allS lN1 all0⟩, ⟨E_a1_3, F_numbered_3, F_count_3, F_many_3, lN1, b2, _, F_few_3, V_b2_3, O2, by simp [newA], fun q => absurd q (by decide), Nat.le_trans hN0 bo_b2, ne_a1_b2⟩⟩)
def Q_rm_clear (Z : State) (h0 : Heap) (n0 : Nat) (a1 : Addr) (N : Nat) (v : Option Value) (h : Heap) (L : List Loc) : Prop := v = none ∧ Fr n0 L ∧ n0 ≤ h.size ∧ own_KN h0 h N ∧ own_FN Z h N a1 0 0 0
set_option maxRecDepth 65536 in
set_option maxHeartbeats 40000000 in
theorem rm_clear (l : Launch) (Z : State) (a0 : Array Value) (hw : ∀ d ∈ tables_1, d.before a0 Z = true) (ws : List Jvm.Cond) (a1 : Addr) (u : Int64) (k : Int32) (s0 : Addr) (h0 : Heap) (n0 : Nat) (Z0 : n0 ≤ h0.size) (N : Nat) (hN : n0 ≤ N) (FN : own_FN Z h0 N a1 u k s0) :
    MetFree l (⟨"dev/resolvent/io/FieldNames", "clear", "()V"⟩ : MethodName) (head1 (Jvm.Cond.code (⟨"dev/resolvent/io/FieldNames", "clear", "()V"⟩ : MethodName) prog_6_method_2_code 1 none :: ws) ({ frames := 0, cells := 0, slots := 0, locals := 0 } : Room)) (fun a U => a = #[(.ref a1)] ∧ Z.Warmed39 U.vm ∧ U.heap = h0) (fun _ _ _ _ _ => True) (fun _ U o U' => ∃ rv rL, o = .returned rv ∧ Q_rm_clear Z h0 n0 a1 N rv U'.heap rL ∧ FrameEnd U o U' rL ({ frames := 0, cells := 0, slots := 0, locals := 0 } : Room).cells ({ frames := 0, cells := 0, slots := 0, locals := 0 } : Room).slots) := by
  refine own_met (y := (⟨"dev/resolvent/io/FieldNames", "clear", "()V"⟩ : MethodName)) (Q := Q_rm_clear Z h0 n0 a1 N) (own := "dev/resolvent/io/FieldNames") rfl pn_9 ?_
  intro p e s m below meth c s₁ C e0 X0
  obtain ⟨hx, hby, hml, hown, hnm, hret, hlk, hZ⟩ := C
  have N0 := Fr.nil n0
  rw [ef_9]
  obtain ⟨E_a1, F_nu, F_ct, F_ma, lN1, a3, cl, F_fe, A_3, Ov, sz, hf0, lN3, ne_a1_a3⟩ := FN
  have lo_a1 : n0 ≤ a1 := Nat.le_trans hN lN1
  have lo_a3 : n0 ≤ a3 := Nat.le_trans hN lN3
  have Kp0 : Keep h0 h0 [a1, a3] := Keep.refl h0 _
  show own_Goes _ _ _ _ _ _ _ s₁ (mkF m 0 #[.val (.ref a1)] [])
  refine own_go (fun _ k => XS.aloadN X0.here hx rfl (hb hby d9_0) rfl rfl k) ?_
  show own_Goes _ _ _ _ _ _ _ s₁ (mkF m 1 #[.val (.ref a1)] [(.ref a1)])
  refine own_go (fun _ k => XS.lconst X0.here hx rfl (hb hby d9_1) k) ?_
  show own_Goes _ _ _ _ _ _ _ s₁ (mkF m 2 #[.val (.ref a1)] [(.long (0 : Int64)), (.ref a1)])
  obtain ⟨T1, h1, X1, e1, W1, st1⟩ := putF X0 hx hZ hown (host := "") (Or.inl (hw _ (List.mem_of_getElem? (i := 46) rfl))) Via.refl e0 F_nu E_a1 (Or.inl (hw _ (List.mem_of_getElem? (i := 47) rfl))) (hw _ (List.mem_of_getElem? (i := 31) rfl)) (ty := .long) (by decide) rfl rfl (g := (mkF m 2 #[.val (.ref a1)] [(.long (0 : Int64)), (.ref a1)])) rfl rfl (hb hby d9_2)
  have F_nu_1 : Fld Z h1 a1 "dev/resolvent/io/FieldNames" "numbered" "J" (.long (0 : Int64)) := F_nu.same W1
  have N1 := Fr.snoc X1 N0 lo_a1
  have E_a1_1 : Exa Z h1 a1 "dev/resolvent/io/FieldNames" := E_a1.wr W1
  have F_ct_1 : Fld Z h1 a1 "dev/resolvent/io/FieldNames" "count" "I" (.int k) := F_ct.other W1 (Or.inr (slot_ne (Or.inl (hw _ (List.mem_of_getElem? (i := 54) rfl))) (Or.inl (hw _ (List.mem_of_getElem? (i := 47) rfl))) (by decide) (t := .int) (t' := .long) (by decide) (by decide)))
  have F_ma_1 : Fld Z h1 a1 "dev/resolvent/io/FieldNames" "many" "Ljava/util/Set;" .null := F_ma.other W1 (Or.inr (slot_ne (Or.inl (hw _ (List.mem_of_getElem? (i := 56) rfl))) (Or.inl (hw _ (List.mem_of_getElem? (i := 47) rfl))) (by decide) (t := (.object "java/util/Set")) (t' := .long) (by decide) (by decide)))
  have F_fe_1 : Fld Z h1 a1 "dev/resolvent/io/FieldNames" "few" "[Ljava/lang/String;" (.ref a3) := F_fe.other W1 (Or.inr (slot_ne (Or.inr (hw _ (List.mem_of_getElem? (i := 40) rfl))) (Or.inl (hw _ (List.mem_of_getElem? (i := 47) rfl))) (by decide) (t := (.array (.object "java/lang/String"))) (t' := .long) (by decide) (by decide)))
  have A_3_1 : Arr Z h1 a3 cl (.object "java/lang/String") := A_3.other W1 (Ne.symm ne_a1_a3)
  have Zs1 : n0 ≤ h1.size := Nat.le_trans Z0 (Keep.of_wr W1).1
  have Kp1 : Keep h0 h1 [a1, a3] := Kp0.wr W1 (Or.inl (by simp))
  refine own_go st1 ?_
  show own_Goes _ _ _ _ _ _ _ T1 (mkF m 5 #[.val (.ref a1)] [])
  refine own_go (fun _ k => XS.aloadN X1.here hx rfl (hb hby d9_5) rfl rfl k) ?_
  show own_Goes _ _ _ _ _ _ _ T1 (mkF m 6 #[.val (.ref a1)] [(.ref a1)])
  refine own_go (fun _ k => XS.iconst X1.here hx rfl (hb hby d9_6) k) ?_
  show own_Goes _ _ _ _ _ _ _ T1 (mkF m 7 #[.val (.ref a1)] [(.int (0 : Int32)), (.ref a1)])
  obtain ⟨T2, h2, X2, e2, W2, st2⟩ := putF X1 hx hZ hown (host := "") (Or.inl (hw _ (List.mem_of_getElem? (i := 53) rfl))) Via.refl e1 F_ct_1 E_a1_1 (Or.inl (hw _ (List.mem_of_getElem? (i := 54) rfl))) (hw _ (List.mem_of_getElem? (i := 31) rfl)) (ty := .int) (by decide) rfl rfl (g := (mkF m 7 #[.val (.ref a1)] [(.int (0 : Int32)), (.ref a1)])) rfl rfl (hb hby d9_7)
  have F_ct_2 : Fld Z h2 a1 "dev/resolvent/io/FieldNames" "count" "I" (.int (0 : Int32)) := F_ct_1.same W2
  have N2 := Fr.snoc X2 N1 lo_a1
  have E_a1_2 : Exa Z h2 a1 "dev/resolvent/io/FieldNames" := E_a1_1.wr W2
  have F_ma_2 : Fld Z h2 a1 "dev/resolvent/io/FieldNames" "many" "Ljava/util/Set;" .null := F_ma_1.other W2 (Or.inr (slot_ne (Or.inl (hw _ (List.mem_of_getElem? (i := 56) rfl))) (Or.inl (hw _ (List.mem_of_getElem? (i := 54) rfl))) (by decide) (t := (.object "java/util/Set")) (t' := .int) (by decide) (by decide)))
  have F_fe_2 : Fld Z h2 a1 "dev/resolvent/io/FieldNames" "few" "[Ljava/lang/String;" (.ref a3) := F_fe_1.other W2 (Or.inr (slot_ne (Or.inr (hw _ (List.mem_of_getElem? (i := 40) rfl))) (Or.inl (hw _ (List.mem_of_getElem? (i := 54) rfl))) (by decide) (t := (.array (.object "java/lang/String"))) (t' := .int) (by decide) (by decide)))
  have A_3_2 : Arr Z h2 a3 cl (.object "java/lang/String") := A_3_1.other W2 (Ne.symm ne_a1_a3)
  have F_nu_2 : Fld Z h2 a1 "dev/resolvent/io/FieldNames" "numbered" "J" (.long (0 : Int64)) := F_nu_1.other W2 (Or.inr (slot_ne (Or.inl (hw _ (List.mem_of_getElem? (i := 47) rfl))) (Or.inl (hw _ (List.mem_of_getElem? (i := 54) rfl))) (by decide) (t := .long) (t' := .int) (by decide) (by decide)))
  have Zs2 : n0 ≤ h2.size := Nat.le_trans Zs1 (Keep.of_wr W2).1
  have Kp2 : Keep h0 h2 [a1, a3] := Kp1.wr W2 (Or.inl (by simp))
  refine own_go st2 ?_
  show own_Goes _ _ _ _ _ _ _ T2 (mkF m 10 #[.val (.ref a1)] [])
  refine own_go (fun _ k => XS.aloadN X2.here hx rfl (hb hby d9_10) rfl rfl k) ?_
  show own_Goes _ _ _ _ _ _ _ T2 (mkF m 11 #[.val (.ref a1)] [(.ref a1)])
  refine own_go (fun _ k => XS.aconstNull X2.here hx rfl (hb hby d9_11) k) ?_
  show own_Goes _ _ _ _ _ _ _ T2 (mkF m 12 #[.val (.ref a1)] [.null, (.ref a1)])
  obtain ⟨T3, h3, X3, e3, W3, st3⟩ := putF X2 hx hZ hown (host := "") (Or.inl (hw _ (List.mem_of_getElem? (i := 55) rfl))) Via.refl e2 F_ma_2 E_a1_2 (Or.inl (hw _ (List.mem_of_getElem? (i := 56) rfl))) (hw _ (List.mem_of_getElem? (i := 31) rfl)) (ty := (.object "java/util/Set")) (by decide) rfl rfl (g := (mkF m 12 #[.val (.ref a1)] [.null, (.ref a1)])) rfl rfl (hb hby d9_12)
  have F_ma_3 : Fld Z h3 a1 "dev/resolvent/io/FieldNames" "many" "Ljava/util/Set;" .null := F_ma_2.same W3
  have N3 := Fr.snoc X3 N2 lo_a1
  have E_a1_3 : Exa Z h3 a1 "dev/resolvent/io/FieldNames" := E_a1_2.wr W3
  have F_fe_3 : Fld Z h3 a1 "dev/resolvent/io/FieldNames" "few" "[Ljava/lang/String;" (.ref a3) := F_fe_2.other W3 (Or.inr (slot_ne (Or.inr (hw _ (List.mem_of_getElem? (i := 40) rfl))) (Or.inl (hw _ (List.mem_of_getElem? (i := 56) rfl))) (by decide) (t := (.array (.object "java/lang/String"))) (t' := (.object "java/util/Set")) (by decide) (by decide)))
  have A_3_3 : Arr Z h3 a3 cl (.object "java/lang/String") := A_3_2.other W3 (Ne.symm ne_a1_a3)
  have F_nu_3 : Fld Z h3 a1 "dev/resolvent/io/FieldNames" "numbered" "J" (.long (0 : Int64)) := F_nu_2.other W3 (Or.inr (slot_ne (Or.inl (hw _ (List.mem_of_getElem? (i := 47) rfl))) (Or.inl (hw _ (List.mem_of_getElem? (i := 56) rfl))) (by decide) (t := .long) (t' := (.object "java/util/Set")) (by decide) (by decide)))
  have F_ct_3 : Fld Z h3 a1 "dev/resolvent/io/FieldNames" "count" "I" (.int (0 : Int32)) := F_ct_2.other W3 (Or.inr (slot_ne (Or.inl (hw _ (List.mem_of_getElem? (i := 54) rfl))) (Or.inl (hw _ (List.mem_of_getElem? (i := 56) rfl))) (by decide) (t := .int) (t' := (.object "java/util/Set")) (by decide) (by decide)))
  have Zs3 : n0 ≤ h3.size := Nat.le_trans Zs2 (Keep.of_wr W3).1
  have Kp3 : Keep h0 h3 [a1, a3] := Kp2.wr W3 (Or.inl (by simp))
  refine own_go st3 ?_
  show own_Goes _ _ _ _ _ _ _ T3 (mkF m 15 #[.val (.ref a1)] [])
  exact own_retV X3 hx hlk hret (hb hby d9_15) (by decide) (by decide) (by rw [e3]; exact ⟨rfl, N3, Zs3, ⟨[a1, a3], Kp3, allS lN1 (allS lN3 all0)⟩, ⟨E_a1_3, F_nu_3, F_ct_3, F_ma_3, lN1, a3, _, F_fe_3, A_3_3, Ov, sz, fun q => absurd q (by decide), lN3, ne_a1_a3⟩⟩)
def Q_rm_addA (Z : State) (h0 : Heap) (n0 : Nat) (a1 : Addr) (p2 : Int32) (u : Int64) (k : Int32) (s0 : Addr) (N : Nat) (v : Option Value) (h : Heap) (L : List Loc) : Prop := v = some (.int (own_bit u p2)) ∧ Fr n0 L ∧ n0 ≤ h.size ∧ own_KN h0 h N ∧ own_FN Z h N a1 (own_or u p2) k s0
set_option maxRecDepth 65536 in
set_option maxHeartbeats 40000000 in
theorem rm_addA (l : Launch) (Z : State) (a0 : Array Value) (hw : ∀ d ∈ tables_1, d.before a0 Z = true) (ws : List Jvm.Cond) (a1 a2 : Addr) (p2 : Int32) (u : Int64) (k : Int32) (s0 : Addr) (h0 : Heap) (n0 : Nat) (Z0 : n0 ≤ h0.size) (N : Nat) (hN : n0 ≤ N) (FN : own_FN Z h0 N a1 u k s0) (k0 : ¬ p2 < 0) (k64 : p2 < 64) :
    MetFree l (⟨"dev/resolvent/io/FieldNames", "add", "(Ljava/lang/String;I)Z"⟩ : MethodName) (head1 (Jvm.Cond.code (⟨"dev/resolvent/io/FieldNames", "add", "(Ljava/lang/String;I)Z"⟩ : MethodName) prog_6_method_3_code 6 (some .boolean) :: ws) ({ frames := 0, cells := 0, slots := 0, locals := 0 } : Room)) (fun a U => a = #[(.ref a1), (.ref a2), (.int p2)] ∧ Z.Warmed39 U.vm ∧ U.heap = h0) (fun _ _ _ _ _ => True) (fun _ U o U' => ∃ rv rL, o = .returned rv ∧ Q_rm_addA Z h0 n0 a1 p2 u k s0 N rv U'.heap rL ∧ FrameEnd U o U' rL ({ frames := 0, cells := 0, slots := 0, locals := 0 } : Room).cells ({ frames := 0, cells := 0, slots := 0, locals := 0 } : Room).slots) := by
  refine own_met (y := (⟨"dev/resolvent/io/FieldNames", "add", "(Ljava/lang/String;I)Z"⟩ : MethodName)) (Q := Q_rm_addA Z h0 n0 a1 p2 u k s0 N) (own := "dev/resolvent/io/FieldNames") rfl pn_8 ?_
  intro p e s m below meth c s₁ C e0 X0
  obtain ⟨hx, hby, hml, hown, hnm, hret, hlk, hZ⟩ := C
  have N0 := Fr.nil n0
  rw [ef_8]
  obtain ⟨E_a1, F_nu, F_ct, F_ma, lN1, a3, cl, F_fe, A_3, Ov, sz, hf0, lN3, ne_a1_a3⟩ := FN
  have lo_a1 : n0 ≤ a1 := Nat.le_trans hN lN1
  have lo_a3 : n0 ≤ a3 := Nat.le_trans hN lN3
  have Kp0 : Keep h0 h0 [a1, a3] := Keep.refl h0 _
  show own_Goes _ _ _ _ _ _ _ s₁ (mkF m 0 #[.val (.ref a1), .val (.ref a2), .val (.int p2), .unset, .unset, .unset] [])
  refine own_go (fun _ k => XS.iloadN X0.here hx rfl (hb hby d8_0) rfl k) ?_
  show own_Goes _ _ _ _ _ _ _ s₁ (mkF m 1 #[.val (.ref a1), .val (.ref a2), .val (.int p2), .unset, .unset, .unset] [(.int p2)])
  refine own_go (fun _ k => XS.ifNo X0.here hx rfl (hb hby d8_1) rfl ((if0 _ _).trans (flt k0).1) k) ?_
  show own_Goes _ _ _ _ _ _ _ s₁ (mkF m 4 #[.val (.ref a1), .val (.ref a2), .val (.int p2), .unset, .unset, .unset] [])
  refine own_go (fun _ k => XS.iloadN X0.here hx rfl (hb hby d8_4) rfl k) ?_
  show own_Goes _ _ _ _ _ _ _ s₁ (mkF m 5 #[.val (.ref a1), .val (.ref a2), .val (.int p2), .unset, .unset, .unset] [(.int p2)])
  refine own_go (fun _ k => XS.bipush X0.here hx rfl (hb hby d8_5) k) ?_
  show own_Goes _ _ _ _ _ _ _ s₁ (mkF m 7 #[.val (.ref a1), .val (.ref a2), .val (.int p2), .unset, .unset, .unset] [(.int (64 : Int32)), (.int p2)])
  refine own_go (fun _ k => XS.icmpNo X0.here hx rfl (hb hby d8_7) rfl (tlt k64).2.1 k) ?_
  show own_Goes _ _ _ _ _ _ _ s₁ (mkF m 10 #[.val (.ref a1), .val (.ref a2), .val (.int p2), .unset, .unset, .unset] [])
  refine own_go (fun _ k => XS.lconst X0.here hx rfl (hb hby d8_10) k) ?_
  show own_Goes _ _ _ _ _ _ _ s₁ (mkF m 11 #[.val (.ref a1), .val (.ref a2), .val (.int p2), .unset, .unset, .unset] [(.long (1 : Int64))])
  refine own_go (fun _ k => XS.iloadN X0.here hx rfl (hb hby d8_11) rfl k) ?_
  show own_Goes _ _ _ _ _ _ _ s₁ (mkF m 12 #[.val (.ref a1), .val (.ref a2), .val (.int p2), .unset, .unset, .unset] [(.int p2), (.long (1 : Int64))])
  refine own_go (fun _ k => XS.lshl X0.here hx rfl (hb hby d8_12) rfl k) ?_
  show own_Goes _ _ _ _ _ _ _ s₁ (mkF m 13 #[.val (.ref a1), .val (.ref a2), .val (.int p2), .unset, .unset, .unset] [(.long ((1 : Int64) <<< (p2 &&& 0x3f).toInt64))])
  refine own_go (fun _ k => XS.lstoreN X0.here hx rfl (hb hby d8_13) rfl (l' := #[.val (.ref a1), .val (.ref a2), .val (.int p2), .val (.long ((1 : Int64) <<< (p2 &&& 0x3f).toInt64)), .second, .unset]) rfl k) ?_
  show own_Goes _ _ _ _ _ _ _ s₁ (mkF m 14 #[.val (.ref a1), .val (.ref a2), .val (.int p2), .val (.long ((1 : Int64) <<< (p2 &&& 0x3f).toInt64)), .second, .unset] [])
  refine own_go (fun _ k => XS.aloadN X0.here hx rfl (hb hby d8_14) rfl rfl k) ?_
  show own_Goes _ _ _ _ _ _ _ s₁ (mkF m 15 #[.val (.ref a1), .val (.ref a2), .val (.int p2), .val (.long ((1 : Int64) <<< (p2 &&& 0x3f).toInt64)), .second, .unset] [(.ref a1)])
  obtain ⟨T1, X1, e1, st1⟩ := getF X0 hx hZ hown (host := "") (Or.inl (hw _ (List.mem_of_getElem? (i := 46) rfl))) Via.refl e0 F_nu (g := (mkF m 15 #[.val (.ref a1), .val (.ref a2), .val (.int p2), .val (.long ((1 : Int64) <<< (p2 &&& 0x3f).toInt64)), .second, .unset] [(.ref a1)])) rfl rfl (hb hby d8_15)
  refine own_go st1 ?_
  show own_Goes _ _ _ _ _ _ _ T1 (mkF m 18 #[.val (.ref a1), .val (.ref a2), .val (.int p2), .val (.long ((1 : Int64) <<< (p2 &&& 0x3f).toInt64)), .second, .unset] [(.long u)])
  refine own_go (fun _ k => XS.lloadN X1.here hx rfl (hb hby d8_18) rfl k) ?_
  show own_Goes _ _ _ _ _ _ _ T1 (mkF m 19 #[.val (.ref a1), .val (.ref a2), .val (.int p2), .val (.long ((1 : Int64) <<< (p2 &&& 0x3f).toInt64)), .second, .unset] [(.long ((1 : Int64) <<< (p2 &&& 0x3f).toInt64)), (.long u)])
  refine own_go (fun _ k => XS.land X1.here hx rfl (hb hby d8_19) rfl k) ?_
  show own_Goes _ _ _ _ _ _ _ T1 (mkF m 20 #[.val (.ref a1), .val (.ref a2), .val (.int p2), .val (.long ((1 : Int64) <<< (p2 &&& 0x3f).toInt64)), .second, .unset] [(.long (u &&& ((1 : Int64) <<< (p2 &&& 0x3f).toInt64)))])
  refine own_go (fun _ k => XS.lconst X1.here hx rfl (hb hby d8_20) k) ?_
  show own_Goes _ _ _ _ _ _ _ T1 (mkF m 21 #[.val (.ref a1), .val (.ref a2), .val (.int p2), .val (.long ((1 : Int64) <<< (p2 &&& 0x3f).toInt64)), .second, .unset] [(.long (0 : Int64)), (.long (u &&& ((1 : Int64) <<< (p2 &&& 0x3f).toInt64)))])
  refine own_go (fun _ k => XS.lcmp X1.here hx rfl (hb hby d8_21) rfl k) ?_
  show own_Goes _ _ _ _ _ _ _ T1 (mkF m 22 #[.val (.ref a1), .val (.ref a2), .val (.int p2), .val (.long ((1 : Int64) <<< (p2 &&& 0x3f).toInt64)), .second, .unset] [(.int (lcmpW (u &&& ((1 : Int64) <<< (p2 &&& 0x3f).toInt64)) (0 : Int64)))])
  by_cases hc22 : (u &&& ((1 : Int64) <<< (p2 &&& 0x3f).toInt64)) = (0 : Int64)
  · refine own_go (fun _ k => XS.ifNo X1.here hx rfl (hb hby d8_22) rfl ((if0 _ _).trans (teq ((lw_eq _ _).mpr hc22)).2) k) ?_
    show own_Goes _ _ _ _ _ _ _ T1 (mkF m 25 #[.val (.ref a1), .val (.ref a2), .val (.int p2), .val (.long ((1 : Int64) <<< (p2 &&& 0x3f).toInt64)), .second, .unset] [])
    refine own_go (fun _ k => XS.iconst X1.here hx rfl (hb hby d8_25) k) ?_
    show own_Goes _ _ _ _ _ _ _ T1 (mkF m 26 #[.val (.ref a1), .val (.ref a2), .val (.int p2), .val (.long ((1 : Int64) <<< (p2 &&& 0x3f).toInt64)), .second, .unset] [(.int (1 : Int32))])
    refine own_go (fun _ k => XS.goto X1.here hx rfl (pc0 := 26) (pc' := 30) rfl (hb hby d8_26) (by decide) (by decide) k) ?_
    show own_Goes _ _ _ _ _ _ _ T1 (mkF m 30 #[.val (.ref a1), .val (.ref a2), .val (.int p2), .val (.long ((1 : Int64) <<< (p2 &&& 0x3f).toInt64)), .second, .unset] [(.int (1 : Int32))])
    refine own_go (fun _ k => XS.istore X1.here hx rfl (hb hby d8_30) rfl (l' := #[.val (.ref a1), .val (.ref a2), .val (.int p2), .val (.long ((1 : Int64) <<< (p2 &&& 0x3f).toInt64)), .second, .val (.int (1 : Int32))]) rfl k) ?_
    show own_Goes _ _ _ _ _ _ _ T1 (mkF m 32 #[.val (.ref a1), .val (.ref a2), .val (.int p2), .val (.long ((1 : Int64) <<< (p2 &&& 0x3f).toInt64)), .second, .val (.int (1 : Int32))] [])
    refine own_go (fun _ k => XS.aloadN X1.here hx rfl (hb hby d8_32) rfl rfl k) ?_
    show own_Goes _ _ _ _ _ _ _ T1 (mkF m 33 #[.val (.ref a1), .val (.ref a2), .val (.int p2), .val (.long ((1 : Int64) <<< (p2 &&& 0x3f).toInt64)), .second, .val (.int (1 : Int32))] [(.ref a1)])
    refine own_go (fun _ k => XS.dup X1.here hx rfl (hb hby d8_33) rfl rfl k) ?_
    show own_Goes _ _ _ _ _ _ _ T1 (mkF m 34 #[.val (.ref a1), .val (.ref a2), .val (.int p2), .val (.long ((1 : Int64) <<< (p2 &&& 0x3f).toInt64)), .second, .val (.int (1 : Int32))] [(.ref a1), (.ref a1)])
    obtain ⟨T2, X2, e2, st2⟩ := getF X1 hx hZ hown (host := "") (Or.inl (hw _ (List.mem_of_getElem? (i := 46) rfl))) Via.refl e1 F_nu (g := (mkF m 34 #[.val (.ref a1), .val (.ref a2), .val (.int p2), .val (.long ((1 : Int64) <<< (p2 &&& 0x3f).toInt64)), .second, .val (.int (1 : Int32))] [(.ref a1), (.ref a1)])) rfl rfl (hb hby d8_34)
    refine own_go st2 ?_
    show own_Goes _ _ _ _ _ _ _ T2 (mkF m 37 #[.val (.ref a1), .val (.ref a2), .val (.int p2), .val (.long ((1 : Int64) <<< (p2 &&& 0x3f).toInt64)), .second, .val (.int (1 : Int32))] [(.long u), (.ref a1)])
    refine own_go (fun _ k => XS.lloadN X2.here hx rfl (hb hby d8_37) rfl k) ?_
    show own_Goes _ _ _ _ _ _ _ T2 (mkF m 38 #[.val (.ref a1), .val (.ref a2), .val (.int p2), .val (.long ((1 : Int64) <<< (p2 &&& 0x3f).toInt64)), .second, .val (.int (1 : Int32))] [(.long ((1 : Int64) <<< (p2 &&& 0x3f).toInt64)), (.long u), (.ref a1)])
    refine own_go (fun _ k => XS.lor X2.here hx rfl (hb hby d8_38) rfl k) ?_
    show own_Goes _ _ _ _ _ _ _ T2 (mkF m 39 #[.val (.ref a1), .val (.ref a2), .val (.int p2), .val (.long ((1 : Int64) <<< (p2 &&& 0x3f).toInt64)), .second, .val (.int (1 : Int32))] [(.long (u ||| ((1 : Int64) <<< (p2 &&& 0x3f).toInt64))), (.ref a1)])
    obtain ⟨T3, h3, X3, e3, W3, st3⟩ := putF X2 hx hZ hown (host := "") (Or.inl (hw _ (List.mem_of_getElem? (i := 46) rfl))) Via.refl e2 F_nu E_a1 (Or.inl (hw _ (List.mem_of_getElem? (i := 47) rfl))) (hw _ (List.mem_of_getElem? (i := 31) rfl)) (ty := .long) (by decide) rfl rfl (g := (mkF m 39 #[.val (.ref a1), .val (.ref a2), .val (.int p2), .val (.long ((1 : Int64) <<< (p2 &&& 0x3f).toInt64)), .second, .val (.int (1 : Int32))] [(.long (u ||| ((1 : Int64) <<< (p2 &&& 0x3f).toInt64))), (.ref a1)])) rfl rfl (hb hby d8_39)
    have F_nu_3 : Fld Z h3 a1 "dev/resolvent/io/FieldNames" "numbered" "J" (.long (u ||| ((1 : Int64) <<< (p2 &&& 0x3f).toInt64))) := F_nu.same W3
    have N3 := Fr.snoc X3 N0 lo_a1
    have E_a1_3 : Exa Z h3 a1 "dev/resolvent/io/FieldNames" := E_a1.wr W3
    have F_ct_3 : Fld Z h3 a1 "dev/resolvent/io/FieldNames" "count" "I" (.int k) := F_ct.other W3 (Or.inr (slot_ne (Or.inl (hw _ (List.mem_of_getElem? (i := 54) rfl))) (Or.inl (hw _ (List.mem_of_getElem? (i := 47) rfl))) (by decide) (t := .int) (t' := .long) (by decide) (by decide)))
    have F_ma_3 : Fld Z h3 a1 "dev/resolvent/io/FieldNames" "many" "Ljava/util/Set;" .null := F_ma.other W3 (Or.inr (slot_ne (Or.inl (hw _ (List.mem_of_getElem? (i := 56) rfl))) (Or.inl (hw _ (List.mem_of_getElem? (i := 47) rfl))) (by decide) (t := (.object "java/util/Set")) (t' := .long) (by decide) (by decide)))
    have F_fe_3 : Fld Z h3 a1 "dev/resolvent/io/FieldNames" "few" "[Ljava/lang/String;" (.ref a3) := F_fe.other W3 (Or.inr (slot_ne (Or.inr (hw _ (List.mem_of_getElem? (i := 40) rfl))) (Or.inl (hw _ (List.mem_of_getElem? (i := 47) rfl))) (by decide) (t := (.array (.object "java/lang/String"))) (t' := .long) (by decide) (by decide)))
    have A_3_3 : Arr Z h3 a3 cl (.object "java/lang/String") := A_3.other W3 (Ne.symm ne_a1_a3)
    have Zs3 : n0 ≤ h3.size := Nat.le_trans Z0 (Keep.of_wr W3).1
    have Kp3 : Keep h0 h3 [a1, a3] := Kp0.wr W3 (Or.inl (by simp))
    refine own_go st3 ?_
    show own_Goes _ _ _ _ _ _ _ T3 (mkF m 42 #[.val (.ref a1), .val (.ref a2), .val (.int p2), .val (.long ((1 : Int64) <<< (p2 &&& 0x3f).toInt64)), .second, .val (.int (1 : Int32))] [])
    refine own_go (fun _ k => XS.iload X3.here hx rfl (hb hby d8_42) rfl k) ?_
    show own_Goes _ _ _ _ _ _ _ T3 (mkF m 44 #[.val (.ref a1), .val (.ref a2), .val (.int p2), .val (.long ((1 : Int64) <<< (p2 &&& 0x3f).toInt64)), .second, .val (.int (1 : Int32))] [(.int (1 : Int32))])
    exact own_retN X3 hx (t := .boolean) hlk hret (by simp) (hb hby d8_44) (by decide) (by decide) (by rw [e3]; exact ⟨by rw [own_bit, if_pos hc22] <;> rfl, N3, Zs3, ⟨[a1, a3], Kp3, allS lN1 (allS lN3 all0)⟩, ⟨E_a1_3, F_nu_3, F_ct_3, F_ma_3, lN1, a3, _, F_fe_3, A_3_3, Ov, sz, hf0, lN3, ne_a1_a3⟩⟩)
  · refine own_go (fun _ k => XS.ifYes X1.here hx rfl (pc0 := 22) (pc' := 29) rfl (hb hby d8_22) rfl ((if0 _ _).trans (feq (fun q => hc22 ((lw_eq _ _).mp q))).2) (by decide) (by decide) k) ?_
    show own_Goes _ _ _ _ _ _ _ T1 (mkF m 29 #[.val (.ref a1), .val (.ref a2), .val (.int p2), .val (.long ((1 : Int64) <<< (p2 &&& 0x3f).toInt64)), .second, .unset] [])
    refine own_go (fun _ k => XS.iconst X1.here hx rfl (hb hby d8_29) k) ?_
    show own_Goes _ _ _ _ _ _ _ T1 (mkF m 30 #[.val (.ref a1), .val (.ref a2), .val (.int p2), .val (.long ((1 : Int64) <<< (p2 &&& 0x3f).toInt64)), .second, .unset] [(.int (0 : Int32))])
    refine own_go (fun _ k => XS.istore X1.here hx rfl (hb hby d8_30) rfl (l' := #[.val (.ref a1), .val (.ref a2), .val (.int p2), .val (.long ((1 : Int64) <<< (p2 &&& 0x3f).toInt64)), .second, .val (.int (0 : Int32))]) rfl k) ?_
    show own_Goes _ _ _ _ _ _ _ T1 (mkF m 32 #[.val (.ref a1), .val (.ref a2), .val (.int p2), .val (.long ((1 : Int64) <<< (p2 &&& 0x3f).toInt64)), .second, .val (.int (0 : Int32))] [])
    refine own_go (fun _ k => XS.aloadN X1.here hx rfl (hb hby d8_32) rfl rfl k) ?_
    show own_Goes _ _ _ _ _ _ _ T1 (mkF m 33 #[.val (.ref a1), .val (.ref a2), .val (.int p2), .val (.long ((1 : Int64) <<< (p2 &&& 0x3f).toInt64)), .second, .val (.int (0 : Int32))] [(.ref a1)])
    refine own_go (fun _ k => XS.dup X1.here hx rfl (hb hby d8_33) rfl rfl k) ?_
    show own_Goes _ _ _ _ _ _ _ T1 (mkF m 34 #[.val (.ref a1), .val (.ref a2), .val (.int p2), .val (.long ((1 : Int64) <<< (p2 &&& 0x3f).toInt64)), .second, .val (.int (0 : Int32))] [(.ref a1), (.ref a1)])
    obtain ⟨T4, X4, e4, st4⟩ := getF X1 hx hZ hown (host := "") (Or.inl (hw _ (List.mem_of_getElem? (i := 46) rfl))) Via.refl e1 F_nu (g := (mkF m 34 #[.val (.ref a1), .val (.ref a2), .val (.int p2), .val (.long ((1 : Int64) <<< (p2 &&& 0x3f).toInt64)), .second, .val (.int (0 : Int32))] [(.ref a1), (.ref a1)])) rfl rfl (hb hby d8_34)
    refine own_go st4 ?_
    show own_Goes _ _ _ _ _ _ _ T4 (mkF m 37 #[.val (.ref a1), .val (.ref a2), .val (.int p2), .val (.long ((1 : Int64) <<< (p2 &&& 0x3f).toInt64)), .second, .val (.int (0 : Int32))] [(.long u), (.ref a1)])
    refine own_go (fun _ k => XS.lloadN X4.here hx rfl (hb hby d8_37) rfl k) ?_
    show own_Goes _ _ _ _ _ _ _ T4 (mkF m 38 #[.val (.ref a1), .val (.ref a2), .val (.int p2), .val (.long ((1 : Int64) <<< (p2 &&& 0x3f).toInt64)), .second, .val (.int (0 : Int32))] [(.long ((1 : Int64) <<< (p2 &&& 0x3f).toInt64)), (.long u), (.ref a1)])
    refine own_go (fun _ k => XS.lor X4.here hx rfl (hb hby d8_38) rfl k) ?_
    show own_Goes _ _ _ _ _ _ _ T4 (mkF m 39 #[.val (.ref a1), .val (.ref a2), .val (.int p2), .val (.long ((1 : Int64) <<< (p2 &&& 0x3f).toInt64)), .second, .val (.int (0 : Int32))] [(.long (u ||| ((1 : Int64) <<< (p2 &&& 0x3f).toInt64))), (.ref a1)])
    obtain ⟨T5, h5, X5, e5, W5, st5⟩ := putF X4 hx hZ hown (host := "") (Or.inl (hw _ (List.mem_of_getElem? (i := 46) rfl))) Via.refl e4 F_nu E_a1 (Or.inl (hw _ (List.mem_of_getElem? (i := 47) rfl))) (hw _ (List.mem_of_getElem? (i := 31) rfl)) (ty := .long) (by decide) rfl rfl (g := (mkF m 39 #[.val (.ref a1), .val (.ref a2), .val (.int p2), .val (.long ((1 : Int64) <<< (p2 &&& 0x3f).toInt64)), .second, .val (.int (0 : Int32))] [(.long (u ||| ((1 : Int64) <<< (p2 &&& 0x3f).toInt64))), (.ref a1)])) rfl rfl (hb hby d8_39)
    have F_nu_5 : Fld Z h5 a1 "dev/resolvent/io/FieldNames" "numbered" "J" (.long (u ||| ((1 : Int64) <<< (p2 &&& 0x3f).toInt64))) := F_nu.same W5
    have N5 := Fr.snoc X5 N0 lo_a1
    have E_a1_5 : Exa Z h5 a1 "dev/resolvent/io/FieldNames" := E_a1.wr W5
    have F_ct_5 : Fld Z h5 a1 "dev/resolvent/io/FieldNames" "count" "I" (.int k) := F_ct.other W5 (Or.inr (slot_ne (Or.inl (hw _ (List.mem_of_getElem? (i := 54) rfl))) (Or.inl (hw _ (List.mem_of_getElem? (i := 47) rfl))) (by decide) (t := .int) (t' := .long) (by decide) (by decide)))
    have F_ma_5 : Fld Z h5 a1 "dev/resolvent/io/FieldNames" "many" "Ljava/util/Set;" .null := F_ma.other W5 (Or.inr (slot_ne (Or.inl (hw _ (List.mem_of_getElem? (i := 56) rfl))) (Or.inl (hw _ (List.mem_of_getElem? (i := 47) rfl))) (by decide) (t := (.object "java/util/Set")) (t' := .long) (by decide) (by decide)))
    have F_fe_5 : Fld Z h5 a1 "dev/resolvent/io/FieldNames" "few" "[Ljava/lang/String;" (.ref a3) := F_fe.other W5 (Or.inr (slot_ne (Or.inr (hw _ (List.mem_of_getElem? (i := 40) rfl))) (Or.inl (hw _ (List.mem_of_getElem? (i := 47) rfl))) (by decide) (t := (.array (.object "java/lang/String"))) (t' := .long) (by decide) (by decide)))
    have A_3_5 : Arr Z h5 a3 cl (.object "java/lang/String") := A_3.other W5 (Ne.symm ne_a1_a3)
    have Zs5 : n0 ≤ h5.size := Nat.le_trans Z0 (Keep.of_wr W5).1
    have Kp5 : Keep h0 h5 [a1, a3] := Kp0.wr W5 (Or.inl (by simp))
    refine own_go st5 ?_
    show own_Goes _ _ _ _ _ _ _ T5 (mkF m 42 #[.val (.ref a1), .val (.ref a2), .val (.int p2), .val (.long ((1 : Int64) <<< (p2 &&& 0x3f).toInt64)), .second, .val (.int (0 : Int32))] [])
    refine own_go (fun _ k => XS.iload X5.here hx rfl (hb hby d8_42) rfl k) ?_
    show own_Goes _ _ _ _ _ _ _ T5 (mkF m 44 #[.val (.ref a1), .val (.ref a2), .val (.int p2), .val (.long ((1 : Int64) <<< (p2 &&& 0x3f).toInt64)), .second, .val (.int (0 : Int32))] [(.int (0 : Int32))])
    exact own_retN X5 hx (t := .boolean) hlk hret (by simp) (hb hby d8_44) (by decide) (by decide) (by rw [e5]; exact ⟨by rw [own_bit, if_neg hc22] <;> rfl, N5, Zs5, ⟨[a1, a3], Kp5, allS lN1 (allS lN3 all0)⟩, ⟨E_a1_5, F_nu_5, F_ct_5, F_ma_5, lN1, a3, _, F_fe_5, A_3_5, Ov, sz, hf0, lN3, ne_a1_a3⟩⟩)
def Q_rm_addB0 (Z : State) (h0 : Heap) (n0 : Nat) (a1 a2 : Addr) (u : Int64) (N : Nat) (v : Option Value) (h : Heap) (L : List Loc) : Prop := v = some (.int 1) ∧ Fr n0 L ∧ n0 ≤ h.size ∧ own_KN h0 h N ∧ own_FN Z h N a1 u 1 a2
set_option maxRecDepth 65536 in
set_option maxHeartbeats 40000000 in
theorem rm_addB0 (l : Launch) (Z : State) (a0 : Array Value) (hw : ∀ d ∈ tables_1, d.before a0 Z = true) (ws : List Jvm.Cond) (a1 a2 : Addr) (p2 : Int32) (u : Int64) (s0 : Addr) (ds : List Int32) (h0 : Heap) (n0 : Nat) (Z0 : n0 ≤ h0.size) (N : Nat) (hN : n0 ≤ N) (FN : own_FN Z h0 N a1 u 0 s0) (hout : p2 < 0 ∨ ¬ p2 < 64) (S2 : own_Str Z h0 N a2 ds) :
    MetFree l (⟨"dev/resolvent/io/FieldNames", "add", "(Ljava/lang/String;I)Z"⟩ : MethodName) (head1 (Jvm.Cond.code (⟨"dev/resolvent/io/FieldNames", "add", "(Ljava/lang/String;I)Z"⟩ : MethodName) prog_6_method_3_code 6 (some .boolean) :: ws) ({ frames := 0, cells := 0, slots := 0, locals := 0 } : Room)) (fun a U => a = #[(.ref a1), (.ref a2), (.int p2)] ∧ Z.Warmed39 U.vm ∧ U.heap = h0) (fun _ _ _ _ _ => True) (fun _ U o U' => ∃ rv rL, o = .returned rv ∧ Q_rm_addB0 Z h0 n0 a1 a2 u N rv U'.heap rL ∧ FrameEnd U o U' rL ({ frames := 0, cells := 0, slots := 0, locals := 0 } : Room).cells ({ frames := 0, cells := 0, slots := 0, locals := 0 } : Room).slots) := by
  refine own_met (y := (⟨"dev/resolvent/io/FieldNames", "add", "(Ljava/lang/String;I)Z"⟩ : MethodName)) (Q := Q_rm_addB0 Z h0 n0 a1 a2 u N) (own := "dev/resolvent/io/FieldNames") rfl pn_8 ?_
  intro p e s m below meth c s₁ C e0 X0
  obtain ⟨hx, hby, hml, hown, hnm, hret, hlk, hZ⟩ := C
  have N0 := Fr.nil n0
  rw [ef_8]
  obtain ⟨E_a1, F_nu, F_ct, F_ma, lN1, a3, cl, F_fe, A_3, Ov, sz, hf0, lN3, ne_a1_a3⟩ := FN
  have lo_a1 : n0 ≤ a1 := Nat.le_trans hN lN1
  have lo_a3 : n0 ≤ a3 := Nat.le_trans hN lN3
  have Kp0 : Keep h0 h0 [a1, a3] := Keep.refl h0 _
  show own_Goes _ _ _ _ _ _ _ s₁ (mkF m 0 #[.val (.ref a1), .val (.ref a2), .val (.int p2), .unset, .unset, .unset] [])
  refine own_go (fun _ k => XS.iloadN X0.here hx rfl (hb hby d8_0) rfl k) ?_
  show own_Goes _ _ _ _ _ _ _ s₁ (mkF m 1 #[.val (.ref a1), .val (.ref a2), .val (.int p2), .unset, .unset, .unset] [(.int p2)])
  by_cases hc1 : p2 < (0 : Int32)
  · refine own_go (fun _ k => XS.ifYes X0.here hx rfl (pc0 := 1) (pc' := 45) rfl (hb hby d8_1) rfl ((if0 _ _).trans (tlt hc1).1) (by decide) (by decide) k) ?_
    show own_Goes _ _ _ _ _ _ _ s₁ (mkF m 45 #[.val (.ref a1), .val (.ref a2), .val (.int p2), .unset, .unset, .unset] [])
    refine own_go (fun _ k => XS.aloadN X0.here hx rfl (hb hby d8_45) rfl rfl k) ?_
    show own_Goes _ _ _ _ _ _ _ s₁ (mkF m 46 #[.val (.ref a1), .val (.ref a2), .val (.int p2), .unset, .unset, .unset] [(.ref a1)])
    obtain ⟨T1, X1, e1, st1⟩ := getF X0 hx hZ hown (host := "") (Or.inl (hw _ (List.mem_of_getElem? (i := 55) rfl))) Via.refl e0 F_ma (g := (mkF m 46 #[.val (.ref a1), .val (.ref a2), .val (.int p2), .unset, .unset, .unset] [(.ref a1)])) rfl rfl (hb hby d8_46)
    refine own_go st1 ?_
    show own_Goes _ _ _ _ _ _ _ T1 (mkF m 49 #[.val (.ref a1), .val (.ref a2), .val (.int p2), .unset, .unset, .unset] [.null])
    refine own_go (fun _ k => XS.ifnullYes X1.here hx rfl (pc0 := 49) (pc' := 63) rfl (hb hby d8_49) rfl (by decide) (by decide) k) ?_
    show own_Goes _ _ _ _ _ _ _ T1 (mkF m 63 #[.val (.ref a1), .val (.ref a2), .val (.int p2), .unset, .unset, .unset] [])
    refine own_go (fun _ k => XS.iconst X1.here hx rfl (hb hby d8_63) k) ?_
    show own_Goes _ _ _ _ _ _ _ T1 (mkF m 64 #[.val (.ref a1), .val (.ref a2), .val (.int p2), .unset, .unset, .unset] [(.int (0 : Int32))])
    refine own_go (fun _ k => XS.istoreN X1.here hx rfl (hb hby d8_64) rfl (l' := #[.val (.ref a1), .val (.ref a2), .val (.int p2), .val (.int (0 : Int32)), .unset, .unset]) rfl k) ?_
    show own_Goes _ _ _ _ _ _ _ T1 (mkF m 65 #[.val (.ref a1), .val (.ref a2), .val (.int p2), .val (.int (0 : Int32)), .unset, .unset] [])
    refine own_go (fun _ k => XS.iloadN X1.here hx rfl (hb hby d8_65) rfl k) ?_
    show own_Goes _ _ _ _ _ _ _ T1 (mkF m 66 #[.val (.ref a1), .val (.ref a2), .val (.int p2), .val (.int (0 : Int32)), .unset, .unset] [(.int (0 : Int32))])
    refine own_go (fun _ k => XS.aloadN X1.here hx rfl (hb hby d8_66) rfl rfl k) ?_
    show own_Goes _ _ _ _ _ _ _ T1 (mkF m 67 #[.val (.ref a1), .val (.ref a2), .val (.int p2), .val (.int (0 : Int32)), .unset, .unset] [(.ref a1), (.int (0 : Int32))])
    obtain ⟨T2, X2, e2, st2⟩ := getF X1 hx hZ hown (host := "") (Or.inl (hw _ (List.mem_of_getElem? (i := 53) rfl))) Via.refl e1 F_ct (g := (mkF m 67 #[.val (.ref a1), .val (.ref a2), .val (.int p2), .val (.int (0 : Int32)), .unset, .unset] [(.ref a1), (.int (0 : Int32))])) rfl rfl (hb hby d8_67)
    refine own_go st2 ?_
    show own_Goes _ _ _ _ _ _ _ T2 (mkF m 70 #[.val (.ref a1), .val (.ref a2), .val (.int p2), .val (.int (0 : Int32)), .unset, .unset] [(.int (0 : Int32)), (.int (0 : Int32))])
    refine own_go (fun _ k => XS.icmpYes X2.here hx rfl (pc0 := 70) (pc' := 94) rfl (hb hby d8_70) rfl (flt (by decide : ¬ ((0 : Int32) < (0 : Int32)))).2.1 (by decide) (by decide) k) ?_
    show own_Goes _ _ _ _ _ _ _ T2 (mkF m 94 #[.val (.ref a1), .val (.ref a2), .val (.int p2), .val (.int (0 : Int32)), .unset, .unset] [])
    refine own_go (fun _ k => XS.aloadN X2.here hx rfl (hb hby d8_94) rfl rfl k) ?_
    show own_Goes _ _ _ _ _ _ _ T2 (mkF m 95 #[.val (.ref a1), .val (.ref a2), .val (.int p2), .val (.int (0 : Int32)), .unset, .unset] [(.ref a1)])
    obtain ⟨T3, X3, e3, st3⟩ := getF X2 hx hZ hown (host := "") (Or.inl (hw _ (List.mem_of_getElem? (i := 53) rfl))) Via.refl e2 F_ct (g := (mkF m 95 #[.val (.ref a1), .val (.ref a2), .val (.int p2), .val (.int (0 : Int32)), .unset, .unset] [(.ref a1)])) rfl rfl (hb hby d8_95)
    refine own_go st3 ?_
    show own_Goes _ _ _ _ _ _ _ T3 (mkF m 98 #[.val (.ref a1), .val (.ref a2), .val (.int p2), .val (.int (0 : Int32)), .unset, .unset] [(.int (0 : Int32))])
    refine own_go (fun _ k => XS.bipush X3.here hx rfl (hb hby d8_98) k) ?_
    show own_Goes _ _ _ _ _ _ _ T3 (mkF m 100 #[.val (.ref a1), .val (.ref a2), .val (.int p2), .val (.int (0 : Int32)), .unset, .unset] [(.int (16 : Int32)), (.int (0 : Int32))])
    refine own_go (fun _ k => XS.icmpNo X3.here hx rfl (hb hby d8_100) rfl (tlt (by decide : (0 : Int32) < (16 : Int32))).2.1 k) ?_
    show own_Goes _ _ _ _ _ _ _ T3 (mkF m 103 #[.val (.ref a1), .val (.ref a2), .val (.int p2), .val (.int (0 : Int32)), .unset, .unset] [])
    refine own_go (fun _ k => XS.aloadN X3.here hx rfl (hb hby d8_103) rfl rfl k) ?_
    show own_Goes _ _ _ _ _ _ _ T3 (mkF m 104 #[.val (.ref a1), .val (.ref a2), .val (.int p2), .val (.int (0 : Int32)), .unset, .unset] [(.ref a1)])
    obtain ⟨T4, X4, e4, st4⟩ := getF X3 hx hZ hown (host := "") (Or.inl (hw _ (List.mem_of_getElem? (i := 39) rfl))) Via.refl e3 F_fe (g := (mkF m 104 #[.val (.ref a1), .val (.ref a2), .val (.int p2), .val (.int (0 : Int32)), .unset, .unset] [(.ref a1)])) rfl rfl (hb hby d8_104)
    refine own_go st4 ?_
    show own_Goes _ _ _ _ _ _ _ T4 (mkF m 107 #[.val (.ref a1), .val (.ref a2), .val (.int p2), .val (.int (0 : Int32)), .unset, .unset] [(.ref a3)])
    refine own_go (fun _ k => XS.aloadN X4.here hx rfl (hb hby d8_107) rfl rfl k) ?_
    show own_Goes _ _ _ _ _ _ _ T4 (mkF m 108 #[.val (.ref a1), .val (.ref a2), .val (.int p2), .val (.int (0 : Int32)), .unset, .unset] [(.ref a1), (.ref a3)])
    refine own_go (fun _ k => XS.dup X4.here hx rfl (hb hby d8_108) rfl rfl k) ?_
    show own_Goes _ _ _ _ _ _ _ T4 (mkF m 109 #[.val (.ref a1), .val (.ref a2), .val (.int p2), .val (.int (0 : Int32)), .unset, .unset] [(.ref a1), (.ref a1), (.ref a3)])
    obtain ⟨T5, X5, e5, st5⟩ := getF X4 hx hZ hown (host := "") (Or.inl (hw _ (List.mem_of_getElem? (i := 53) rfl))) Via.refl e4 F_ct (g := (mkF m 109 #[.val (.ref a1), .val (.ref a2), .val (.int p2), .val (.int (0 : Int32)), .unset, .unset] [(.ref a1), (.ref a1), (.ref a3)])) rfl rfl (hb hby d8_109)
    refine own_go st5 ?_
    show own_Goes _ _ _ _ _ _ _ T5 (mkF m 112 #[.val (.ref a1), .val (.ref a2), .val (.int p2), .val (.int (0 : Int32)), .unset, .unset] [(.int (0 : Int32)), (.ref a1), (.ref a3)])
    refine own_go (fun _ k => XS.dupX1 X5.here hx rfl (hb hby d8_112) rfl rfl rfl k) ?_
    show own_Goes _ _ _ _ _ _ _ T5 (mkF m 113 #[.val (.ref a1), .val (.ref a2), .val (.int p2), .val (.int (0 : Int32)), .unset, .unset] [(.int (0 : Int32)), (.ref a1), (.int (0 : Int32)), (.ref a3)])
    refine own_go (fun _ k => XS.iconst X5.here hx rfl (hb hby d8_113) k) ?_
    show own_Goes _ _ _ _ _ _ _ T5 (mkF m 114 #[.val (.ref a1), .val (.ref a2), .val (.int p2), .val (.int (0 : Int32)), .unset, .unset] [(.int (1 : Int32)), (.int (0 : Int32)), (.ref a1), (.int (0 : Int32)), (.ref a3)])
    refine own_go (fun _ k => XS.iadd X5.here hx rfl (hb hby d8_114) rfl k) ?_
    show own_Goes _ _ _ _ _ _ _ T5 (mkF m 115 #[.val (.ref a1), .val (.ref a2), .val (.int p2), .val (.int (0 : Int32)), .unset, .unset] [(.int (1 : Int32)), (.ref a1), (.int (0 : Int32)), (.ref a3)])
    obtain ⟨T6, h6, X6, e6, W6, st6⟩ := putF X5 hx hZ hown (host := "") (Or.inl (hw _ (List.mem_of_getElem? (i := 53) rfl))) Via.refl e5 F_ct E_a1 (Or.inl (hw _ (List.mem_of_getElem? (i := 54) rfl))) (hw _ (List.mem_of_getElem? (i := 31) rfl)) (ty := .int) (by decide) rfl rfl (g := (mkF m 115 #[.val (.ref a1), .val (.ref a2), .val (.int p2), .val (.int (0 : Int32)), .unset, .unset] [(.int (1 : Int32)), (.ref a1), (.int (0 : Int32)), (.ref a3)])) rfl rfl (hb hby d8_115)
    have F_ct_6 : Fld Z h6 a1 "dev/resolvent/io/FieldNames" "count" "I" (.int (1 : Int32)) := F_ct.same W6
    have N6 := Fr.snoc X6 N0 lo_a1
    have E_a1_6 : Exa Z h6 a1 "dev/resolvent/io/FieldNames" := E_a1.wr W6
    have F_nu_6 : Fld Z h6 a1 "dev/resolvent/io/FieldNames" "numbered" "J" (.long u) := F_nu.other W6 (Or.inr (slot_ne (Or.inl (hw _ (List.mem_of_getElem? (i := 47) rfl))) (Or.inl (hw _ (List.mem_of_getElem? (i := 54) rfl))) (by decide) (t := .long) (t' := .int) (by decide) (by decide)))
    have F_ma_6 : Fld Z h6 a1 "dev/resolvent/io/FieldNames" "many" "Ljava/util/Set;" .null := F_ma.other W6 (Or.inr (slot_ne (Or.inl (hw _ (List.mem_of_getElem? (i := 56) rfl))) (Or.inl (hw _ (List.mem_of_getElem? (i := 54) rfl))) (by decide) (t := (.object "java/util/Set")) (t' := .int) (by decide) (by decide)))
    have F_fe_6 : Fld Z h6 a1 "dev/resolvent/io/FieldNames" "few" "[Ljava/lang/String;" (.ref a3) := F_fe.other W6 (Or.inr (slot_ne (Or.inr (hw _ (List.mem_of_getElem? (i := 40) rfl))) (Or.inl (hw _ (List.mem_of_getElem? (i := 54) rfl))) (by decide) (t := (.array (.object "java/lang/String"))) (t' := .int) (by decide) (by decide)))
    have A_3_6 : Arr Z h6 a3 cl (.object "java/lang/String") := A_3.other W6 (Ne.symm ne_a1_a3)
    have S2_6 : own_Str Z h6 N a2 ds := S2.wr W6 lN1
    have Zs6 : n0 ≤ h6.size := Nat.le_trans Z0 (Keep.of_wr W6).1
    have Kp6 : Keep h0 h6 [a1, a3] := Kp0.wr W6 (Or.inl (by simp))
    refine own_go st6 ?_
    show own_Goes _ _ _ _ _ _ _ T6 (mkF m 118 #[.val (.ref a1), .val (.ref a2), .val (.int p2), .val (.int (0 : Int32)), .unset, .unset] [(.int (0 : Int32)), (.ref a3)])
    refine own_go (fun _ k => XS.aloadN X6.here hx rfl (hb hby d8_118) rfl rfl k) ?_
    show own_Goes _ _ _ _ _ _ _ T6 (mkF m 119 #[.val (.ref a1), .val (.ref a2), .val (.int p2), .val (.int (0 : Int32)), .unset, .unset] [(.ref a2), (.int (0 : Int32)), (.ref a3)])
    obtain ⟨T7, h7, X7, e7, W7, st7⟩ := stR X6 hx hZ e6 A_3_6 (j := (0 : Int32)) (by rw [sz]; decide) rfl (Sto.of A_3_6 Ov (Ins.self S2_6.1)) (g := (mkF m 119 #[.val (.ref a1), .val (.ref a2), .val (.int p2), .val (.int (0 : Int32)), .unset, .unset] [(.ref a2), (.int (0 : Int32)), (.ref a3)])) rfl rfl (hb hby d8_119)
    have N7 := Fr.snoc X7 N6 lo_a3
    have E_a1_7 : Exa Z h7 a1 "dev/resolvent/io/FieldNames" := E_a1_6.wr W7
    have F_nu_7 : Fld Z h7 a1 "dev/resolvent/io/FieldNames" "numbered" "J" (.long u) := F_nu_6.other W7 (Or.inl ne_a1_a3)
    have F_ma_7 : Fld Z h7 a1 "dev/resolvent/io/FieldNames" "many" "Ljava/util/Set;" .null := F_ma_6.other W7 (Or.inl ne_a1_a3)
    have F_fe_7 : Fld Z h7 a1 "dev/resolvent/io/FieldNames" "few" "[Ljava/lang/String;" (.ref a3) := F_fe_6.other W7 (Or.inl ne_a1_a3)
    have S2_7 : own_Str Z h7 N a2 ds := S2_6.wr W7 lN3
    have F_ct_7 : Fld Z h7 a1 "dev/resolvent/io/FieldNames" "count" "I" (.int (1 : Int32)) := F_ct_6.other W7 (Or.inl ne_a1_a3)
    have Zs7 : n0 ≤ h7.size := Nat.le_trans Zs6 (Keep.of_wr W7).1
    have Kp7 : Keep h0 h7 [a1, a3] := Kp6.wr W7 (Or.inl (by simp))
    have A_3_7 : Arr Z h7 a3 (cl.setSlot ((0 : Int32)).toNatClampNeg (.ref a2)) (.object "java/lang/String") := A_3_6.same W7
    refine own_go st7 ?_
    show own_Goes _ _ _ _ _ _ _ T7 (mkF m 120 #[.val (.ref a1), .val (.ref a2), .val (.int p2), .val (.int (0 : Int32)), .unset, .unset] [])
    refine own_go (fun _ k => XS.iconst X7.here hx rfl (hb hby d8_120) k) ?_
    show own_Goes _ _ _ _ _ _ _ T7 (mkF m 121 #[.val (.ref a1), .val (.ref a2), .val (.int p2), .val (.int (0 : Int32)), .unset, .unset] [(.int (1 : Int32))])
    exact own_retN X7 hx (t := .boolean) hlk hret (by simp) (hb hby d8_121) (by decide) (by decide) (by rw [e7]; exact ⟨rfl, N7, Zs7, ⟨[a1, a3], Kp7, allS lN1 (allS lN3 all0)⟩, ⟨E_a1_7, F_nu_7, F_ct_7, F_ma_7, lN1, a3, _, F_fe_7, A_3_7, Ov, (sz_set _ _ _).trans sz, fun _ => get_hit (by rw [sz]; decide) rfl, lN3, ne_a1_a3⟩⟩)
  · refine own_go (fun _ k => XS.ifNo X0.here hx rfl (hb hby d8_1) rfl ((if0 _ _).trans (flt hc1).1) k) ?_
    show own_Goes _ _ _ _ _ _ _ s₁ (mkF m 4 #[.val (.ref a1), .val (.ref a2), .val (.int p2), .unset, .unset, .unset] [])
    refine own_go (fun _ k => XS.iloadN X0.here hx rfl (hb hby d8_4) rfl k) ?_
    show own_Goes _ _ _ _ _ _ _ s₁ (mkF m 5 #[.val (.ref a1), .val (.ref a2), .val (.int p2), .unset, .unset, .unset] [(.int p2)])
    refine own_go (fun _ k => XS.bipush X0.here hx rfl (hb hby d8_5) k) ?_
    show own_Goes _ _ _ _ _ _ _ s₁ (mkF m 7 #[.val (.ref a1), .val (.ref a2), .val (.int p2), .unset, .unset, .unset] [(.int (64 : Int32)), (.int p2)])
    by_cases hc7 : p2 < (64 : Int32)
    · exact (hout.elim hc1 (fun q => q hc7)).elim
    · refine own_go (fun _ k => XS.icmpYes X0.here hx rfl (pc0 := 7) (pc' := 45) rfl (hb hby d8_7) rfl (flt hc7).2.1 (by decide) (by decide) k) ?_
      show own_Goes _ _ _ _ _ _ _ s₁ (mkF m 45 #[.val (.ref a1), .val (.ref a2), .val (.int p2), .unset, .unset, .unset] [])
      refine own_go (fun _ k => XS.aloadN X0.here hx rfl (hb hby d8_45) rfl rfl k) ?_
      show own_Goes _ _ _ _ _ _ _ s₁ (mkF m 46 #[.val (.ref a1), .val (.ref a2), .val (.int p2), .unset, .unset, .unset] [(.ref a1)])
      obtain ⟨T8, X8, e8, st8⟩ := getF X0 hx hZ hown (host := "") (Or.inl (hw _ (List.mem_of_getElem? (i := 55) rfl))) Via.refl e0 F_ma (g := (mkF m 46 #[.val (.ref a1), .val (.ref a2), .val (.int p2), .unset, .unset, .unset] [(.ref a1)])) rfl rfl (hb hby d8_46)
      refine own_go st8 ?_
      show own_Goes _ _ _ _ _ _ _ T8 (mkF m 49 #[.val (.ref a1), .val (.ref a2), .val (.int p2), .unset, .unset, .unset] [.null])
      refine own_go (fun _ k => XS.ifnullYes X8.here hx rfl (pc0 := 49) (pc' := 63) rfl (hb hby d8_49) rfl (by decide) (by decide) k) ?_
      show own_Goes _ _ _ _ _ _ _ T8 (mkF m 63 #[.val (.ref a1), .val (.ref a2), .val (.int p2), .unset, .unset, .unset] [])
      refine own_go (fun _ k => XS.iconst X8.here hx rfl (hb hby d8_63) k) ?_
      show own_Goes _ _ _ _ _ _ _ T8 (mkF m 64 #[.val (.ref a1), .val (.ref a2), .val (.int p2), .unset, .unset, .unset] [(.int (0 : Int32))])
      refine own_go (fun _ k => XS.istoreN X8.here hx rfl (hb hby d8_64) rfl (l' := #[.val (.ref a1), .val (.ref a2), .val (.int p2), .val (.int (0 : Int32)), .unset, .unset]) rfl k) ?_
      show own_Goes _ _ _ _ _ _ _ T8 (mkF m 65 #[.val (.ref a1), .val (.ref a2), .val (.int p2), .val (.int (0 : Int32)), .unset, .unset] [])
      refine own_go (fun _ k => XS.iloadN X8.here hx rfl (hb hby d8_65) rfl k) ?_
      show own_Goes _ _ _ _ _ _ _ T8 (mkF m 66 #[.val (.ref a1), .val (.ref a2), .val (.int p2), .val (.int (0 : Int32)), .unset, .unset] [(.int (0 : Int32))])
      refine own_go (fun _ k => XS.aloadN X8.here hx rfl (hb hby d8_66) rfl rfl k) ?_
      show own_Goes _ _ _ _ _ _ _ T8 (mkF m 67 #[.val (.ref a1), .val (.ref a2), .val (.int p2), .val (.int (0 : Int32)), .unset, .unset] [(.ref a1), (.int (0 : Int32))])
      obtain ⟨T9, X9, e9, st9⟩ := getF X8 hx hZ hown (host := "") (Or.inl (hw _ (List.mem_of_getElem? (i := 53) rfl))) Via.refl e8 F_ct (g := (mkF m 67 #[.val (.ref a1), .val (.ref a2), .val (.int p2), .val (.int (0 : Int32)), .unset, .unset] [(.ref a1), (.int (0 : Int32))])) rfl rfl (hb hby d8_67)
      refine own_go st9 ?_
      show own_Goes _ _ _ _ _ _ _ T9 (mkF m 70 #[.val (.ref a1), .val (.ref a2), .val (.int p2), .val (.int (0 : Int32)), .unset, .unset] [(.int (0 : Int32)), (.int (0 : Int32))])
      refine own_go (fun _ k => XS.icmpYes X9.here hx rfl (pc0 := 70) (pc' := 94) rfl (hb hby d8_70) rfl (flt (by decide : ¬ ((0 : Int32) < (0 : Int32)))).2.1 (by decide) (by decide) k) ?_
      show own_Goes _ _ _ _ _ _ _ T9 (mkF m 94 #[.val (.ref a1), .val (.ref a2), .val (.int p2), .val (.int (0 : Int32)), .unset, .unset] [])
      refine own_go (fun _ k => XS.aloadN X9.here hx rfl (hb hby d8_94) rfl rfl k) ?_
      show own_Goes _ _ _ _ _ _ _ T9 (mkF m 95 #[.val (.ref a1), .val (.ref a2), .val (.int p2), .val (.int (0 : Int32)), .unset, .unset] [(.ref a1)])
      obtain ⟨T10, X10, e10, st10⟩ := getF X9 hx hZ hown (host := "") (Or.inl (hw _ (List.mem_of_getElem? (i := 53) rfl))) Via.refl e9 F_ct (g := (mkF m 95 #[.val (.ref a1), .val (.ref a2), .val (.int p2), .val (.int (0 : Int32)), .unset, .unset] [(.ref a1)])) rfl rfl (hb hby d8_95)
      refine own_go st10 ?_
      show own_Goes _ _ _ _ _ _ _ T10 (mkF m 98 #[.val (.ref a1), .val (.ref a2), .val (.int p2), .val (.int (0 : Int32)), .unset, .unset] [(.int (0 : Int32))])
      refine own_go (fun _ k => XS.bipush X10.here hx rfl (hb hby d8_98) k) ?_
      show own_Goes _ _ _ _ _ _ _ T10 (mkF m 100 #[.val (.ref a1), .val (.ref a2), .val (.int p2), .val (.int (0 : Int32)), .unset, .unset] [(.int (16 : Int32)), (.int (0 : Int32))])
      refine own_go (fun _ k => XS.icmpNo X10.here hx rfl (hb hby d8_100) rfl (tlt (by decide : (0 : Int32) < (16 : Int32))).2.1 k) ?_
      show own_Goes _ _ _ _ _ _ _ T10 (mkF m 103 #[.val (.ref a1), .val (.ref a2), .val (.int p2), .val (.int (0 : Int32)), .unset, .unset] [])
      refine own_go (fun _ k => XS.aloadN X10.here hx rfl (hb hby d8_103) rfl rfl k) ?_
      show own_Goes _ _ _ _ _ _ _ T10 (mkF m 104 #[.val (.ref a1), .val (.ref a2), .val (.int p2), .val (.int (0 : Int32)), .unset, .unset] [(.ref a1)])
      obtain ⟨T11, X11, e11, st11⟩ := getF X10 hx hZ hown (host := "") (Or.inl (hw _ (List.mem_of_getElem? (i := 39) rfl))) Via.refl e10 F_fe (g := (mkF m 104 #[.val (.ref a1), .val (.ref a2), .val (.int p2), .val (.int (0 : Int32)), .unset, .unset] [(.ref a1)])) rfl rfl (hb hby d8_104)
      refine own_go st11 ?_
      show own_Goes _ _ _ _ _ _ _ T11 (mkF m 107 #[.val (.ref a1), .val (.ref a2), .val (.int p2), .val (.int (0 : Int32)), .unset, .unset] [(.ref a3)])
      refine own_go (fun _ k => XS.aloadN X11.here hx rfl (hb hby d8_107) rfl rfl k) ?_
      show own_Goes _ _ _ _ _ _ _ T11 (mkF m 108 #[.val (.ref a1), .val (.ref a2), .val (.int p2), .val (.int (0 : Int32)), .unset, .unset] [(.ref a1), (.ref a3)])
      refine own_go (fun _ k => XS.dup X11.here hx rfl (hb hby d8_108) rfl rfl k) ?_
      show own_Goes _ _ _ _ _ _ _ T11 (mkF m 109 #[.val (.ref a1), .val (.ref a2), .val (.int p2), .val (.int (0 : Int32)), .unset, .unset] [(.ref a1), (.ref a1), (.ref a3)])
      obtain ⟨T12, X12, e12, st12⟩ := getF X11 hx hZ hown (host := "") (Or.inl (hw _ (List.mem_of_getElem? (i := 53) rfl))) Via.refl e11 F_ct (g := (mkF m 109 #[.val (.ref a1), .val (.ref a2), .val (.int p2), .val (.int (0 : Int32)), .unset, .unset] [(.ref a1), (.ref a1), (.ref a3)])) rfl rfl (hb hby d8_109)
      refine own_go st12 ?_
      show own_Goes _ _ _ _ _ _ _ T12 (mkF m 112 #[.val (.ref a1), .val (.ref a2), .val (.int p2), .val (.int (0 : Int32)), .unset, .unset] [(.int (0 : Int32)), (.ref a1), (.ref a3)])
      refine own_go (fun _ k => XS.dupX1 X12.here hx rfl (hb hby d8_112) rfl rfl rfl k) ?_
      show own_Goes _ _ _ _ _ _ _ T12 (mkF m 113 #[.val (.ref a1), .val (.ref a2), .val (.int p2), .val (.int (0 : Int32)), .unset, .unset] [(.int (0 : Int32)), (.ref a1), (.int (0 : Int32)), (.ref a3)])
      refine own_go (fun _ k => XS.iconst X12.here hx rfl (hb hby d8_113) k) ?_
      show own_Goes _ _ _ _ _ _ _ T12 (mkF m 114 #[.val (.ref a1), .val (.ref a2), .val (.int p2), .val (.int (0 : Int32)), .unset, .unset] [(.int (1 : Int32)), (.int (0 : Int32)), (.ref a1), (.int (0 : Int32)), (.ref a3)])
      refine own_go (fun _ k => XS.iadd X12.here hx rfl (hb hby d8_114) rfl k) ?_
      show own_Goes _ _ _ _ _ _ _ T12 (mkF m 115 #[.val (.ref a1), .val (.ref a2), .val (.int p2), .val (.int (0 : Int32)), .unset, .unset] [(.int (1 : Int32)), (.ref a1), (.int (0 : Int32)), (.ref a3)])
      obtain ⟨T13, h13, X13, e13, W13, st13⟩ := putF X12 hx hZ hown (host := "") (Or.inl (hw _ (List.mem_of_getElem? (i := 53) rfl))) Via.refl e12 F_ct E_a1 (Or.inl (hw _ (List.mem_of_getElem? (i := 54) rfl))) (hw _ (List.mem_of_getElem? (i := 31) rfl)) (ty := .int) (by decide) rfl rfl (g := (mkF m 115 #[.val (.ref a1), .val (.ref a2), .val (.int p2), .val (.int (0 : Int32)), .unset, .unset] [(.int (1 : Int32)), (.ref a1), (.int (0 : Int32)), (.ref a3)])) rfl rfl (hb hby d8_115)
      have F_ct_13 : Fld Z h13 a1 "dev/resolvent/io/FieldNames" "count" "I" (.int (1 : Int32)) := F_ct.same W13
      have N13 := Fr.snoc X13 N0 lo_a1
      have E_a1_13 : Exa Z h13 a1 "dev/resolvent/io/FieldNames" := E_a1.wr W13
      have F_nu_13 : Fld Z h13 a1 "dev/resolvent/io/FieldNames" "numbered" "J" (.long u) := F_nu.other W13 (Or.inr (slot_ne (Or.inl (hw _ (List.mem_of_getElem? (i := 47) rfl))) (Or.inl (hw _ (List.mem_of_getElem? (i := 54) rfl))) (by decide) (t := .long) (t' := .int) (by decide) (by decide)))
      have F_ma_13 : Fld Z h13 a1 "dev/resolvent/io/FieldNames" "many" "Ljava/util/Set;" .null := F_ma.other W13 (Or.inr (slot_ne (Or.inl (hw _ (List.mem_of_getElem? (i := 56) rfl))) (Or.inl (hw _ (List.mem_of_getElem? (i := 54) rfl))) (by decide) (t := (.object "java/util/Set")) (t' := .int) (by decide) (by decide)))
      have F_fe_13 : Fld Z h13 a1 "dev/resolvent/io/FieldNames" "few" "[Ljava/lang/String;" (.ref a3) := F_fe.other W13 (Or.inr (slot_ne (Or.inr (hw _ (List.mem_of_getElem? (i := 40) rfl))) (Or.inl (hw _ (List.mem_of_getElem? (i := 54) rfl))) (by decide) (t := (.array (.object "java/lang/String"))) (t' := .int) (by decide) (by decide)))
      have A_3_13 : Arr Z h13 a3 cl (.object "java/lang/String") := A_3.other W13 (Ne.symm ne_a1_a3)
      have S2_13 : own_Str Z h13 N a2 ds := S2.wr W13 lN1
      have Zs13 : n0 ≤ h13.size := Nat.le_trans Z0 (Keep.of_wr W13).1
      have Kp13 : Keep h0 h13 [a1, a3] := Kp0.wr W13 (Or.inl (by simp))
      refine own_go st13 ?_
      show own_Goes _ _ _ _ _ _ _ T13 (mkF m 118 #[.val (.ref a1), .val (.ref a2), .val (.int p2), .val (.int (0 : Int32)), .unset, .unset] [(.int (0 : Int32)), (.ref a3)])
      refine own_go (fun _ k => XS.aloadN X13.here hx rfl (hb hby d8_118) rfl rfl k) ?_
      show own_Goes _ _ _ _ _ _ _ T13 (mkF m 119 #[.val (.ref a1), .val (.ref a2), .val (.int p2), .val (.int (0 : Int32)), .unset, .unset] [(.ref a2), (.int (0 : Int32)), (.ref a3)])
      obtain ⟨T14, h14, X14, e14, W14, st14⟩ := stR X13 hx hZ e13 A_3_13 (j := (0 : Int32)) (by rw [sz]; decide) rfl (Sto.of A_3_13 Ov (Ins.self S2_13.1)) (g := (mkF m 119 #[.val (.ref a1), .val (.ref a2), .val (.int p2), .val (.int (0 : Int32)), .unset, .unset] [(.ref a2), (.int (0 : Int32)), (.ref a3)])) rfl rfl (hb hby d8_119)
      have N14 := Fr.snoc X14 N13 lo_a3
      have E_a1_14 : Exa Z h14 a1 "dev/resolvent/io/FieldNames" := E_a1_13.wr W14
      have F_nu_14 : Fld Z h14 a1 "dev/resolvent/io/FieldNames" "numbered" "J" (.long u) := F_nu_13.other W14 (Or.inl ne_a1_a3)
      have F_ma_14 : Fld Z h14 a1 "dev/resolvent/io/FieldNames" "many" "Ljava/util/Set;" .null := F_ma_13.other W14 (Or.inl ne_a1_a3)
      have F_fe_14 : Fld Z h14 a1 "dev/resolvent/io/FieldNames" "few" "[Ljava/lang/String;" (.ref a3) := F_fe_13.other W14 (Or.inl ne_a1_a3)
      have S2_14 : own_Str Z h14 N a2 ds := S2_13.wr W14 lN3
      have F_ct_14 : Fld Z h14 a1 "dev/resolvent/io/FieldNames" "count" "I" (.int (1 : Int32)) := F_ct_13.other W14 (Or.inl ne_a1_a3)
      have Zs14 : n0 ≤ h14.size := Nat.le_trans Zs13 (Keep.of_wr W14).1
      have Kp14 : Keep h0 h14 [a1, a3] := Kp13.wr W14 (Or.inl (by simp))
      have A_3_14 : Arr Z h14 a3 (cl.setSlot ((0 : Int32)).toNatClampNeg (.ref a2)) (.object "java/lang/String") := A_3_13.same W14
      refine own_go st14 ?_
      show own_Goes _ _ _ _ _ _ _ T14 (mkF m 120 #[.val (.ref a1), .val (.ref a2), .val (.int p2), .val (.int (0 : Int32)), .unset, .unset] [])
      refine own_go (fun _ k => XS.iconst X14.here hx rfl (hb hby d8_120) k) ?_
      show own_Goes _ _ _ _ _ _ _ T14 (mkF m 121 #[.val (.ref a1), .val (.ref a2), .val (.int p2), .val (.int (0 : Int32)), .unset, .unset] [(.int (1 : Int32))])
      exact own_retN X14 hx (t := .boolean) hlk hret (by simp) (hb hby d8_121) (by decide) (by decide) (by rw [e14]; exact ⟨rfl, N14, Zs14, ⟨[a1, a3], Kp14, allS lN1 (allS lN3 all0)⟩, ⟨E_a1_14, F_nu_14, F_ct_14, F_ma_14, lN1, a3, _, F_fe_14, A_3_14, Ov, (sz_set _ _ _).trans sz, fun _ => get_hit (by rw [sz]; decide) rfl, lN3, ne_a1_a3⟩⟩)
def Q_rm_addB1 (Z : State) (h0 : Heap) (n0 : Nat) (a1 : Addr) (u : Int64) (cs ds : List Int32) (N : Nat) (v : Option Value) (h : Heap) (L : List Loc) : Prop := v = some (.int (own_neq cs ds)) ∧ Fr n0 L ∧ n0 ≤ h.size ∧ own_KN h0 h N ∧ ∃ k' s', own_FN Z h N a1 u k' s'
set_option maxRecDepth 65536 in
set_option maxHeartbeats 40000000 in
theorem rm_addB1 (l : Launch) (Z : State) (a0 : Array Value) (hw : ∀ d ∈ tables_1, d.before a0 Z = true) (ws : List Jvm.Cond) (a1 a2 : Addr) (p2 : Int32) (u : Int64) (s0 : Addr) (cs ds : List Int32) (h0 : Heap) (n0 : Nat) (Z0 : n0 ≤ h0.size) (N : Nat) (hN : n0 ≤ N) (FN : own_FN Z h0 N a1 u 1 s0) (hout : p2 < 0 ∨ ¬ p2 < 64) (S2 : own_Str Z h0 N a2 ds) (S0 : own_Str Z h0 N s0 cs) (G1 : Int32) (O2 : Sta Z Z.heap "java/lang/String" "COMPACT_STRINGS" "Z" (.int G1)) (P5 : ¬ (G1 = (0 : Int32))) (Od0 : Old Z n0 h0) :
    MetFree l (⟨"dev/resolvent/io/FieldNames", "add", "(Ljava/lang/String;I)Z"⟩ : MethodName) (head1 (Jvm.Cond.code (⟨"dev/resolvent/io/FieldNames", "add", "(Ljava/lang/String;I)Z"⟩ : MethodName) prog_6_method_3_code 6 (some .boolean) :: ws) ({ frames := 2, cells := 0, slots := 0, locals := 28 } : Room)) (fun a U => a = #[(.ref a1), (.ref a2), (.int p2)] ∧ Z.Warmed39 U.vm ∧ U.heap = h0) (fun _ _ _ _ _ => True) (fun _ U o U' => ∃ rv rL, o = .returned rv ∧ Q_rm_addB1 Z h0 n0 a1 u cs ds N rv U'.heap rL ∧ FrameEnd U o U' rL ({ frames := 2, cells := 0, slots := 0, locals := 28 } : Room).cells ({ frames := 2, cells := 0, slots := 0, locals := 28 } : Room).slots) := by
  refine own_met (y := (⟨"dev/resolvent/io/FieldNames", "add", "(Ljava/lang/String;I)Z"⟩ : MethodName)) (Q := Q_rm_addB1 Z h0 n0 a1 u cs ds N) (own := "dev/resolvent/io/FieldNames") rfl pn_8 ?_
  intro p e s m below meth c s₁ C e0 X0
  obtain ⟨hx, hby, hml, hown, hnm, hret, hlk, hZ⟩ := C
  have N0 := Fr.nil n0
  rw [ef_8]
  obtain ⟨E_a1, F_nu, F_ct, F_ma, lN1, a3, cl, F_fe, A_3, Ov, sz, hf0, lN3, ne_a1_a3⟩ := FN
  have lo_a1 : n0 ≤ a1 := Nat.le_trans hN lN1
  have lo_a3 : n0 ≤ a3 := Nat.le_trans hN lN3
  have Kp0 : Keep h0 h0 [a1, a3] := Keep.refl h0 _
  show own_Goes _ _ _ _ _ _ _ s₁ (mkF m 0 #[.val (.ref a1), .val (.ref a2), .val (.int p2), .unset, .unset, .unset] [])
  refine own_go (fun _ k => XS.iloadN X0.here hx rfl (hb hby d8_0) rfl k) ?_
  show own_Goes _ _ _ _ _ _ _ s₁ (mkF m 1 #[.val (.ref a1), .val (.ref a2), .val (.int p2), .unset, .unset, .unset] [(.int p2)])
  by_cases hc1 : p2 < (0 : Int32)
  · refine own_go (fun _ k => XS.ifYes X0.here hx rfl (pc0 := 1) (pc' := 45) rfl (hb hby d8_1) rfl ((if0 _ _).trans (tlt hc1).1) (by decide) (by decide) k) ?_
    show own_Goes _ _ _ _ _ _ _ s₁ (mkF m 45 #[.val (.ref a1), .val (.ref a2), .val (.int p2), .unset, .unset, .unset] [])
    refine own_go (fun _ k => XS.aloadN X0.here hx rfl (hb hby d8_45) rfl rfl k) ?_
    show own_Goes _ _ _ _ _ _ _ s₁ (mkF m 46 #[.val (.ref a1), .val (.ref a2), .val (.int p2), .unset, .unset, .unset] [(.ref a1)])
    obtain ⟨T1, X1, e1, st1⟩ := getF X0 hx hZ hown (host := "") (Or.inl (hw _ (List.mem_of_getElem? (i := 55) rfl))) Via.refl e0 F_ma (g := (mkF m 46 #[.val (.ref a1), .val (.ref a2), .val (.int p2), .unset, .unset, .unset] [(.ref a1)])) rfl rfl (hb hby d8_46)
    refine own_go st1 ?_
    show own_Goes _ _ _ _ _ _ _ T1 (mkF m 49 #[.val (.ref a1), .val (.ref a2), .val (.int p2), .unset, .unset, .unset] [.null])
    refine own_go (fun _ k => XS.ifnullYes X1.here hx rfl (pc0 := 49) (pc' := 63) rfl (hb hby d8_49) rfl (by decide) (by decide) k) ?_
    show own_Goes _ _ _ _ _ _ _ T1 (mkF m 63 #[.val (.ref a1), .val (.ref a2), .val (.int p2), .unset, .unset, .unset] [])
    refine own_go (fun _ k => XS.iconst X1.here hx rfl (hb hby d8_63) k) ?_
    show own_Goes _ _ _ _ _ _ _ T1 (mkF m 64 #[.val (.ref a1), .val (.ref a2), .val (.int p2), .unset, .unset, .unset] [(.int (0 : Int32))])
    refine own_go (fun _ k => XS.istoreN X1.here hx rfl (hb hby d8_64) rfl (l' := #[.val (.ref a1), .val (.ref a2), .val (.int p2), .val (.int (0 : Int32)), .unset, .unset]) rfl k) ?_
    show own_Goes _ _ _ _ _ _ _ T1 (mkF m 65 #[.val (.ref a1), .val (.ref a2), .val (.int p2), .val (.int (0 : Int32)), .unset, .unset] [])
    refine own_go (fun _ k => XS.iloadN X1.here hx rfl (hb hby d8_65) rfl k) ?_
    show own_Goes _ _ _ _ _ _ _ T1 (mkF m 66 #[.val (.ref a1), .val (.ref a2), .val (.int p2), .val (.int (0 : Int32)), .unset, .unset] [(.int (0 : Int32))])
    refine own_go (fun _ k => XS.aloadN X1.here hx rfl (hb hby d8_66) rfl rfl k) ?_
    show own_Goes _ _ _ _ _ _ _ T1 (mkF m 67 #[.val (.ref a1), .val (.ref a2), .val (.int p2), .val (.int (0 : Int32)), .unset, .unset] [(.ref a1), (.int (0 : Int32))])
    obtain ⟨T2, X2, e2, st2⟩ := getF X1 hx hZ hown (host := "") (Or.inl (hw _ (List.mem_of_getElem? (i := 53) rfl))) Via.refl e1 F_ct (g := (mkF m 67 #[.val (.ref a1), .val (.ref a2), .val (.int p2), .val (.int (0 : Int32)), .unset, .unset] [(.ref a1), (.int (0 : Int32))])) rfl rfl (hb hby d8_67)
    refine own_go st2 ?_
    show own_Goes _ _ _ _ _ _ _ T2 (mkF m 70 #[.val (.ref a1), .val (.ref a2), .val (.int p2), .val (.int (0 : Int32)), .unset, .unset] [(.int (1 : Int32)), (.int (0 : Int32))])
    refine own_go (fun _ k => XS.icmpNo X2.here hx rfl (hb hby d8_70) rfl (tlt (by decide : (0 : Int32) < (1 : Int32))).2.1 k) ?_
    show own_Goes _ _ _ _ _ _ _ T2 (mkF m 73 #[.val (.ref a1), .val (.ref a2), .val (.int p2), .val (.int (0 : Int32)), .unset, .unset] [])
    refine own_go (fun _ k => XS.aloadN X2.here hx rfl (hb hby d8_73) rfl rfl k) ?_
    show own_Goes _ _ _ _ _ _ _ T2 (mkF m 74 #[.val (.ref a1), .val (.ref a2), .val (.int p2), .val (.int (0 : Int32)), .unset, .unset] [(.ref a1)])
    obtain ⟨T3, X3, e3, st3⟩ := getF X2 hx hZ hown (host := "") (Or.inl (hw _ (List.mem_of_getElem? (i := 39) rfl))) Via.refl e2 F_fe (g := (mkF m 74 #[.val (.ref a1), .val (.ref a2), .val (.int p2), .val (.int (0 : Int32)), .unset, .unset] [(.ref a1)])) rfl rfl (hb hby d8_74)
    refine own_go st3 ?_
    show own_Goes _ _ _ _ _ _ _ T3 (mkF m 77 #[.val (.ref a1), .val (.ref a2), .val (.int p2), .val (.int (0 : Int32)), .unset, .unset] [(.ref a3)])
    refine own_go (fun _ k => XS.iloadN X3.here hx rfl (hb hby d8_77) rfl k) ?_
    show own_Goes _ _ _ _ _ _ _ T3 (mkF m 78 #[.val (.ref a1), .val (.ref a2), .val (.int p2), .val (.int (0 : Int32)), .unset, .unset] [(.int (0 : Int32)), (.ref a3)])
    refine own_go (fun t k => X3.aaload hx (j := (0 : Int32)) (v := (.ref s0)) (by rw [e3]; exact A_3.1) (State.isArrayOf_alike hZ.alike A_3.2.1) rfl A_3.2.2 (by rw [sz]; decide) (hf0 rfl) (g := (mkF m 78 #[.val (.ref a1), .val (.ref a2), .val (.int p2), .val (.int (0 : Int32)), .unset, .unset] [(.int (0 : Int32)), (.ref a3)])) rfl rfl (hb hby d8_78) t k) ?_
    show own_Goes _ _ _ _ _ _ _ T3 (mkF m 79 #[.val (.ref a1), .val (.ref a2), .val (.int p2), .val (.int (0 : Int32)), .unset, .unset] [(.ref s0)])
    refine own_go (fun _ k => XS.aloadN X3.here hx rfl (hb hby d8_79) rfl rfl k) ?_
    show own_Goes _ _ _ _ _ _ _ T3 (mkF m 80 #[.val (.ref a1), .val (.ref a2), .val (.int p2), .val (.int (0 : Int32)), .unset, .unset] [(.ref a2), (.ref s0)])
    obtain ⟨x41, x42, x43, x44, x45, x4t, x4k, x46, x47, x48⟩ := id S0
    obtain ⟨y41, y42, y43, y44, y45, y4t, y4k, y46, y47, y48⟩ := id S2
    obtain ⟨cq5, kq5, zq5a, zq5b, zq5c⟩ := isOf hZ e3 x41
    obtain ⟨_, _, ⟨T5, L5, k5, n5⟩, -, X5, ⟨Lc5, hQ5, l5, y5, z5⟩, st5⟩ := X3.virtualBack hx (y := (⟨"java/lang/String", "equals", "(Ljava/lang/Object;)Z"⟩ : MethodName)) (z := (⟨"java/lang/String", "equals", "(Ljava/lang/Object;)Z"⟩ : MethodName)) hown (mvT hZ (hw _ (List.mem_of_getElem? (i := 67) rfl))) (mvT hZ (hw _ (List.mem_of_getElem? (i := 58) rfl))) (notFace_of_selects (args := #[]) (mvT hZ (hw _ (List.mem_of_getElem? (i := 60) rfl)))) (mvT hZ (hw _ (List.mem_of_getElem? (i := 60) rfl))) (mvT hZ (hw _ (List.mem_of_getElem? (i := 59) rfl))) (by decide) (StrChars.Road.eqW (W := 0) hZ (fun d hd => hw d (own_wordsEq d hd)) (kI := 4) (hw _ (List.mem_of_getElem? (i := 2) rfl)) x41 x47 x42 x48 (own_cod x44) (own_up _ x44) x45 y41 y47 y42 y48 (own_cod y44) (own_up _ y44) y45 (O2.ext Od0.2) P5 (by decide) (by decide)) zq5a zq5c (g := (mkF m 80 #[.val (.ref a1), .val (.ref a2), .val (.int p2), .val (.int (0 : Int32)), .unset, .unset] [(.ref a2), (.ref s0)])) rfl (by rw [hml]; rfl) (Steps.refl _) (argsL := [(.ref a2)]) (rest := []) (lenOf pd_0 rfl) rfl (by show 2 * 0 + _ ≤ _; exact Nat.le_of_eq rfl) (hb hby d8_80) (fun _ _ => ⟨rfl, e3, (by decide : 0 + 0 ≤ _), (by decide : 0 + 0 ≤ _)⟩)
    dsimp only [Pt.U, Pt.locs, Pt.cells, Pt.slots] at X5 l5 y5 z5 st5 hQ5
    subst l5 y5 z5
    obtain ⟨hcase5, rfl, e5⟩ := hQ5
    have N5 := Fr.app N0 (Fr.nil n0)
    rcases hcase5 with ⟨rfl, hq5⟩ | ⟨rfl, hq5⟩
    · refine own_goS st5 ?_
      show own_Goes _ _ _ _ _ _ _ T5 (mkF m 83 #[.val (.ref a1), .val (.ref a2), .val (.int p2), .val (.int (0 : Int32)), .unset, .unset] [(.int (1 : Int32))])
      refine own_go (fun _ k => XS.ifNo X5.here hx rfl (hb hby d8_83) rfl ((if0 _ _).trans (feq (by decide : ¬ ((1 : Int32) = (0 : Int32)))).1) k) ?_
      show own_Goes _ _ _ _ _ _ _ T5 (mkF m 86 #[.val (.ref a1), .val (.ref a2), .val (.int p2), .val (.int (0 : Int32)), .unset, .unset] [])
      refine own_go (fun _ k => XS.iconst X5.here hx rfl (hb hby d8_86) k) ?_
      show own_Goes _ _ _ _ _ _ _ T5 (mkF m 87 #[.val (.ref a1), .val (.ref a2), .val (.int p2), .val (.int (0 : Int32)), .unset, .unset] [(.int (0 : Int32))])
      exact own_retN X5 hx (t := .boolean) hlk hret (by simp) (hb hby d8_87) (by decide) (by decide) (by rw [e5]; exact ⟨by simp [own_neq, nar, *], N5, Z0, ⟨[a1, a3], Kp0, allS lN1 (allS lN3 all0)⟩, _, _, ⟨E_a1, F_nu, F_ct, F_ma, lN1, a3, _, F_fe, A_3, Ov, sz, hf0, lN3, ne_a1_a3⟩⟩)
    · refine own_goS st5 ?_
      show own_Goes _ _ _ _ _ _ _ T5 (mkF m 83 #[.val (.ref a1), .val (.ref a2), .val (.int p2), .val (.int (0 : Int32)), .unset, .unset] [(.int (0 : Int32))])
      refine own_go (fun _ k => XS.ifYes X5.here hx rfl (pc0 := 83) (pc' := 88) rfl (hb hby d8_83) rfl ((if0 _ _).trans (teq (by decide : (0 : Int32) = (0 : Int32))).1) (by decide) (by decide) k) ?_
      show own_Goes _ _ _ _ _ _ _ T5 (mkF m 88 #[.val (.ref a1), .val (.ref a2), .val (.int p2), .val (.int (0 : Int32)), .unset, .unset] [])
      refine own_go (fun _ k => XS.iinc X5.here hx rfl (hb hby d8_88) rfl (l' := #[.val (.ref a1), .val (.ref a2), .val (.int p2), .val (.int (1 : Int32)), .unset, .unset]) rfl k) ?_
      show own_Goes _ _ _ _ _ _ _ T5 (mkF m 91 #[.val (.ref a1), .val (.ref a2), .val (.int p2), .val (.int (1 : Int32)), .unset, .unset] [])
      refine own_go (fun _ k => XS.goto X5.here hx rfl (pc0 := 91) (pc' := 65) rfl (hb hby d8_91) (by decide) (by decide) k) ?_
      show own_Goes _ _ _ _ _ _ _ T5 (mkF m 65 #[.val (.ref a1), .val (.ref a2), .val (.int p2), .val (.int (1 : Int32)), .unset, .unset] [])
      refine own_go (fun _ k => XS.iloadN X5.here hx rfl (hb hby d8_65) rfl k) ?_
      show own_Goes _ _ _ _ _ _ _ T5 (mkF m 66 #[.val (.ref a1), .val (.ref a2), .val (.int p2), .val (.int (1 : Int32)), .unset, .unset] [(.int (1 : Int32))])
      refine own_go (fun _ k => XS.aloadN X5.here hx rfl (hb hby d8_66) rfl rfl k) ?_
      show own_Goes _ _ _ _ _ _ _ T5 (mkF m 67 #[.val (.ref a1), .val (.ref a2), .val (.int p2), .val (.int (1 : Int32)), .unset, .unset] [(.ref a1), (.int (1 : Int32))])
      obtain ⟨T6, X6, e6, st6⟩ := getF X5 hx hZ hown (host := "") (Or.inl (hw _ (List.mem_of_getElem? (i := 53) rfl))) Via.refl e5 F_ct (g := (mkF m 67 #[.val (.ref a1), .val (.ref a2), .val (.int p2), .val (.int (1 : Int32)), .unset, .unset] [(.ref a1), (.int (1 : Int32))])) rfl rfl (hb hby d8_67)
      refine own_go st6 ?_
      show own_Goes _ _ _ _ _ _ _ T6 (mkF m 70 #[.val (.ref a1), .val (.ref a2), .val (.int p2), .val (.int (1 : Int32)), .unset, .unset] [(.int (1 : Int32)), (.int (1 : Int32))])
      refine own_go (fun _ k => XS.icmpYes X6.here hx rfl (pc0 := 70) (pc' := 94) rfl (hb hby d8_70) rfl (flt (by decide : ¬ ((1 : Int32) < (1 : Int32)))).2.1 (by decide) (by decide) k) ?_
      show own_Goes _ _ _ _ _ _ _ T6 (mkF m 94 #[.val (.ref a1), .val (.ref a2), .val (.int p2), .val (.int (1 : Int32)), .unset, .unset] [])
      refine own_go (fun _ k => XS.aloadN X6.here hx rfl (hb hby d8_94) rfl rfl k) ?_
      show own_Goes _ _ _ _ _ _ _ T6 (mkF m 95 #[.val (.ref a1), .val (.ref a2), .val (.int p2), .val (.int (1 : Int32)), .unset, .unset] [(.ref a1)])
      obtain ⟨T7, X7, e7, st7⟩ := getF X6 hx hZ hown (host := "") (Or.inl (hw _ (List.mem_of_getElem? (i := 53) rfl))) Via.refl e6 F_ct (g := (mkF m 95 #[.val (.ref a1), .val (.ref a2), .val (.int p2), .val (.int (1 : Int32)), .unset, .unset] [(.ref a1)])) rfl rfl (hb hby d8_95)
      refine own_go st7 ?_
      show own_Goes _ _ _ _ _ _ _ T7 (mkF m 98 #[.val (.ref a1), .val (.ref a2), .val (.int p2), .val (.int (1 : Int32)), .unset, .unset] [(.int (1 : Int32))])
      refine own_go (fun _ k => XS.bipush X7.here hx rfl (hb hby d8_98) k) ?_
      show own_Goes _ _ _ _ _ _ _ T7 (mkF m 100 #[.val (.ref a1), .val (.ref a2), .val (.int p2), .val (.int (1 : Int32)), .unset, .unset] [(.int (16 : Int32)), (.int (1 : Int32))])
      refine own_go (fun _ k => XS.icmpNo X7.here hx rfl (hb hby d8_100) rfl (tlt (by decide : (1 : Int32) < (16 : Int32))).2.1 k) ?_
      show own_Goes _ _ _ _ _ _ _ T7 (mkF m 103 #[.val (.ref a1), .val (.ref a2), .val (.int p2), .val (.int (1 : Int32)), .unset, .unset] [])
      refine own_go (fun _ k => XS.aloadN X7.here hx rfl (hb hby d8_103) rfl rfl k) ?_
      show own_Goes _ _ _ _ _ _ _ T7 (mkF m 104 #[.val (.ref a1), .val (.ref a2), .val (.int p2), .val (.int (1 : Int32)), .unset, .unset] [(.ref a1)])
      obtain ⟨T8, X8, e8, st8⟩ := getF X7 hx hZ hown (host := "") (Or.inl (hw _ (List.mem_of_getElem? (i := 39) rfl))) Via.refl e7 F_fe (g := (mkF m 104 #[.val (.ref a1), .val (.ref a2), .val (.int p2), .val (.int (1 : Int32)), .unset, .unset] [(.ref a1)])) rfl rfl (hb hby d8_104)
      refine own_go st8 ?_
      show own_Goes _ _ _ _ _ _ _ T8 (mkF m 107 #[.val (.ref a1), .val (.ref a2), .val (.int p2), .val (.int (1 : Int32)), .unset, .unset] [(.ref a3)])
      refine own_go (fun _ k => XS.aloadN X8.here hx rfl (hb hby d8_107) rfl rfl k) ?_
      show own_Goes _ _ _ _ _ _ _ T8 (mkF m 108 #[.val (.ref a1), .val (.ref a2), .val (.int p2), .val (.int (1 : Int32)), .unset, .unset] [(.ref a1), (.ref a3)])
      refine own_go (fun _ k => XS.dup X8.here hx rfl (hb hby d8_108) rfl rfl k) ?_
      show own_Goes _ _ _ _ _ _ _ T8 (mkF m 109 #[.val (.ref a1), .val (.ref a2), .val (.int p2), .val (.int (1 : Int32)), .unset, .unset] [(.ref a1), (.ref a1), (.ref a3)])
      obtain ⟨T9, X9, e9, st9⟩ := getF X8 hx hZ hown (host := "") (Or.inl (hw _ (List.mem_of_getElem? (i := 53) rfl))) Via.refl e8 F_ct (g := (mkF m 109 #[.val (.ref a1), .val (.ref a2), .val (.int p2), .val (.int (1 : Int32)), .unset, .unset] [(.ref a1), (.ref a1), (.ref a3)])) rfl rfl (hb hby d8_109)
      refine own_go st9 ?_
      show own_Goes _ _ _ _ _ _ _ T9 (mkF m 112 #[.val (.ref a1), .val (.ref a2), .val (.int p2), .val (.int (1 : Int32)), .unset, .unset] [(.int (1 : Int32)), (.ref a1), (.ref a3)])
      refine own_go (fun _ k => XS.dupX1 X9.here hx rfl (hb hby d8_112) rfl rfl rfl k) ?_
      show own_Goes _ _ _ _ _ _ _ T9 (mkF m 113 #[.val (.ref a1), .val (.ref a2), .val (.int p2), .val (.int (1 : Int32)), .unset, .unset] [(.int (1 : Int32)), (.ref a1), (.int (1 : Int32)), (.ref a3)])
      refine own_go (fun _ k => XS.iconst X9.here hx rfl (hb hby d8_113) k) ?_
      show own_Goes _ _ _ _ _ _ _ T9 (mkF m 114 #[.val (.ref a1), .val (.ref a2), .val (.int p2), .val (.int (1 : Int32)), .unset, .unset] [(.int (1 : Int32)), (.int (1 : Int32)), (.ref a1), (.int (1 : Int32)), (.ref a3)])
      refine own_go (fun _ k => XS.iadd X9.here hx rfl (hb hby d8_114) rfl k) ?_
      show own_Goes _ _ _ _ _ _ _ T9 (mkF m 115 #[.val (.ref a1), .val (.ref a2), .val (.int p2), .val (.int (1 : Int32)), .unset, .unset] [(.int (2 : Int32)), (.ref a1), (.int (1 : Int32)), (.ref a3)])
      obtain ⟨T10, h10, X10, e10, W10, st10⟩ := putF X9 hx hZ hown (host := "") (Or.inl (hw _ (List.mem_of_getElem? (i := 53) rfl))) Via.refl e9 F_ct E_a1 (Or.inl (hw _ (List.mem_of_getElem? (i := 54) rfl))) (hw _ (List.mem_of_getElem? (i := 31) rfl)) (ty := .int) (by decide) rfl rfl (g := (mkF m 115 #[.val (.ref a1), .val (.ref a2), .val (.int p2), .val (.int (1 : Int32)), .unset, .unset] [(.int (2 : Int32)), (.ref a1), (.int (1 : Int32)), (.ref a3)])) rfl rfl (hb hby d8_115)
      have F_ct_10 : Fld Z h10 a1 "dev/resolvent/io/FieldNames" "count" "I" (.int (2 : Int32)) := F_ct.same W10
      have N10 := Fr.snoc X10 N5 lo_a1
      have E_a1_10 : Exa Z h10 a1 "dev/resolvent/io/FieldNames" := E_a1.wr W10
      have F_nu_10 : Fld Z h10 a1 "dev/resolvent/io/FieldNames" "numbered" "J" (.long u) := F_nu.other W10 (Or.inr (slot_ne (Or.inl (hw _ (List.mem_of_getElem? (i := 47) rfl))) (Or.inl (hw _ (List.mem_of_getElem? (i := 54) rfl))) (by decide) (t := .long) (t' := .int) (by decide) (by decide)))
      have F_ma_10 : Fld Z h10 a1 "dev/resolvent/io/FieldNames" "many" "Ljava/util/Set;" .null := F_ma.other W10 (Or.inr (slot_ne (Or.inl (hw _ (List.mem_of_getElem? (i := 56) rfl))) (Or.inl (hw _ (List.mem_of_getElem? (i := 54) rfl))) (by decide) (t := (.object "java/util/Set")) (t' := .int) (by decide) (by decide)))
      have F_fe_10 : Fld Z h10 a1 "dev/resolvent/io/FieldNames" "few" "[Ljava/lang/String;" (.ref a3) := F_fe.other W10 (Or.inr (slot_ne (Or.inr (hw _ (List.mem_of_getElem? (i := 40) rfl))) (Or.inl (hw _ (List.mem_of_getElem? (i := 54) rfl))) (by decide) (t := (.array (.object "java/lang/String"))) (t' := .int) (by decide) (by decide)))
      have A_3_10 : Arr Z h10 a3 cl (.object "java/lang/String") := A_3.other W10 (Ne.symm ne_a1_a3)
      have S2_10 : own_Str Z h10 N a2 ds := S2.wr W10 lN1
      have S0_10 : own_Str Z h10 N s0 cs := S0.wr W10 lN1
      have Zs10 : n0 ≤ h10.size := Nat.le_trans Z0 (Keep.of_wr W10).1
      have Kp10 : Keep h0 h10 [a1, a3] := Kp0.wr W10 (Or.inl (by simp))
      refine own_go st10 ?_
      show own_Goes _ _ _ _ _ _ _ T10 (mkF m 118 #[.val (.ref a1), .val (.ref a2), .val (.int p2), .val (.int (1 : Int32)), .unset, .unset] [(.int (1 : Int32)), (.ref a3)])
      refine own_go (fun _ k => XS.aloadN X10.here hx rfl (hb hby d8_118) rfl rfl k) ?_
      show own_Goes _ _ _ _ _ _ _ T10 (mkF m 119 #[.val (.ref a1), .val (.ref a2), .val (.int p2), .val (.int (1 : Int32)), .unset, .unset] [(.ref a2), (.int (1 : Int32)), (.ref a3)])
      obtain ⟨T11, h11, X11, e11, W11, st11⟩ := stR X10 hx hZ e10 A_3_10 (j := (1 : Int32)) (by rw [sz]; decide) rfl (Sto.of A_3_10 Ov (Ins.self S2_10.1)) (g := (mkF m 119 #[.val (.ref a1), .val (.ref a2), .val (.int p2), .val (.int (1 : Int32)), .unset, .unset] [(.ref a2), (.int (1 : Int32)), (.ref a3)])) rfl rfl (hb hby d8_119)
      have N11 := Fr.snoc X11 N10 lo_a3
      have E_a1_11 : Exa Z h11 a1 "dev/resolvent/io/FieldNames" := E_a1_10.wr W11
      have F_nu_11 : Fld Z h11 a1 "dev/resolvent/io/FieldNames" "numbered" "J" (.long u) := F_nu_10.other W11 (Or.inl ne_a1_a3)
      have F_ma_11 : Fld Z h11 a1 "dev/resolvent/io/FieldNames" "many" "Ljava/util/Set;" .null := F_ma_10.other W11 (Or.inl ne_a1_a3)
      have F_fe_11 : Fld Z h11 a1 "dev/resolvent/io/FieldNames" "few" "[Ljava/lang/String;" (.ref a3) := F_fe_10.other W11 (Or.inl ne_a1_a3)
      have S2_11 : own_Str Z h11 N a2 ds := S2_10.wr W11 lN3
      have S0_11 : own_Str Z h11 N s0 cs := S0_10.wr W11 lN3
      have F_ct_11 : Fld Z h11 a1 "dev/resolvent/io/FieldNames" "count" "I" (.int (2 : Int32)) := F_ct_10.other W11 (Or.inl ne_a1_a3)
      have Zs11 : n0 ≤ h11.size := Nat.le_trans Zs10 (Keep.of_wr W11).1
      have Kp11 : Keep h0 h11 [a1, a3] := Kp10.wr W11 (Or.inl (by simp))
      have A_3_11 : Arr Z h11 a3 (cl.setSlot ((1 : Int32)).toNatClampNeg (.ref a2)) (.object "java/lang/String") := A_3_10.same W11
      refine own_go st11 ?_
      show own_Goes _ _ _ _ _ _ _ T11 (mkF m 120 #[.val (.ref a1), .val (.ref a2), .val (.int p2), .val (.int (1 : Int32)), .unset, .unset] [])
      refine own_go (fun _ k => XS.iconst X11.here hx rfl (hb hby d8_120) k) ?_
      show own_Goes _ _ _ _ _ _ _ T11 (mkF m 121 #[.val (.ref a1), .val (.ref a2), .val (.int p2), .val (.int (1 : Int32)), .unset, .unset] [(.int (1 : Int32))])
      exact own_retN X11 hx (t := .boolean) hlk hret (by simp) (hb hby d8_121) (by decide) (by decide) (by rw [e11]; exact ⟨by simp [own_neq, nar, *], N11, Zs11, ⟨[a1, a3], Kp11, allS lN1 (allS lN3 all0)⟩, _, s0, ⟨E_a1_11, F_nu_11, F_ct_11, F_ma_11, lN1, a3, _, F_fe_11, A_3_11, Ov, (sz_set _ _ _).trans sz, fun q => absurd q (by decide), lN3, ne_a1_a3⟩⟩)
  · refine own_go (fun _ k => XS.ifNo X0.here hx rfl (hb hby d8_1) rfl ((if0 _ _).trans (flt hc1).1) k) ?_
    show own_Goes _ _ _ _ _ _ _ s₁ (mkF m 4 #[.val (.ref a1), .val (.ref a2), .val (.int p2), .unset, .unset, .unset] [])
    refine own_go (fun _ k => XS.iloadN X0.here hx rfl (hb hby d8_4) rfl k) ?_
    show own_Goes _ _ _ _ _ _ _ s₁ (mkF m 5 #[.val (.ref a1), .val (.ref a2), .val (.int p2), .unset, .unset, .unset] [(.int p2)])
    refine own_go (fun _ k => XS.bipush X0.here hx rfl (hb hby d8_5) k) ?_
    show own_Goes _ _ _ _ _ _ _ s₁ (mkF m 7 #[.val (.ref a1), .val (.ref a2), .val (.int p2), .unset, .unset, .unset] [(.int (64 : Int32)), (.int p2)])
    by_cases hc7 : p2 < (64 : Int32)
    · exact (hout.elim hc1 (fun q => q hc7)).elim
    · refine own_go (fun _ k => XS.icmpYes X0.here hx rfl (pc0 := 7) (pc' := 45) rfl (hb hby d8_7) rfl (flt hc7).2.1 (by decide) (by decide) k) ?_
      show own_Goes _ _ _ _ _ _ _ s₁ (mkF m 45 #[.val (.ref a1), .val (.ref a2), .val (.int p2), .unset, .unset, .unset] [])
      refine own_go (fun _ k => XS.aloadN X0.here hx rfl (hb hby d8_45) rfl rfl k) ?_
      show own_Goes _ _ _ _ _ _ _ s₁ (mkF m 46 #[.val (.ref a1), .val (.ref a2), .val (.int p2), .unset, .unset, .unset] [(.ref a1)])
      obtain ⟨T12, X12, e12, st12⟩ := getF X0 hx hZ hown (host := "") (Or.inl (hw _ (List.mem_of_getElem? (i := 55) rfl))) Via.refl e0 F_ma (g := (mkF m 46 #[.val (.ref a1), .val (.ref a2), .val (.int p2), .unset, .unset, .unset] [(.ref a1)])) rfl rfl (hb hby d8_46)
      refine own_go st12 ?_
      show own_Goes _ _ _ _ _ _ _ T12 (mkF m 49 #[.val (.ref a1), .val (.ref a2), .val (.int p2), .unset, .unset, .unset] [.null])
      refine own_go (fun _ k => XS.ifnullYes X12.here hx rfl (pc0 := 49) (pc' := 63) rfl (hb hby d8_49) rfl (by decide) (by decide) k) ?_
      show own_Goes _ _ _ _ _ _ _ T12 (mkF m 63 #[.val (.ref a1), .val (.ref a2), .val (.int p2), .unset, .unset, .unset] [])
      refine own_go (fun _ k => XS.iconst X12.here hx rfl (hb hby d8_63) k) ?_
      show own_Goes _ _ _ _ _ _ _ T12 (mkF m 64 #[.val (.ref a1), .val (.ref a2), .val (.int p2), .unset, .unset, .unset] [(.int (0 : Int32))])
      refine own_go (fun _ k => XS.istoreN X12.here hx rfl (hb hby d8_64) rfl (l' := #[.val (.ref a1), .val (.ref a2), .val (.int p2), .val (.int (0 : Int32)), .unset, .unset]) rfl k) ?_
      show own_Goes _ _ _ _ _ _ _ T12 (mkF m 65 #[.val (.ref a1), .val (.ref a2), .val (.int p2), .val (.int (0 : Int32)), .unset, .unset] [])
      refine own_go (fun _ k => XS.iloadN X12.here hx rfl (hb hby d8_65) rfl k) ?_
      show own_Goes _ _ _ _ _ _ _ T12 (mkF m 66 #[.val (.ref a1), .val (.ref a2), .val (.int p2), .val (.int (0 : Int32)), .unset, .unset] [(.int (0 : Int32))])
      refine own_go (fun _ k => XS.aloadN X12.here hx rfl (hb hby d8_66) rfl rfl k) ?_
      show own_Goes _ _ _ _ _ _ _ T12 (mkF m 67 #[.val (.ref a1), .val (.ref a2), .val (.int p2), .val (.int (0 : Int32)), .unset, .unset] [(.ref a1), (.int (0 : Int32))])
      obtain ⟨T13, X13, e13, st13⟩ := getF X12 hx hZ hown (host := "") (Or.inl (hw _ (List.mem_of_getElem? (i := 53) rfl))) Via.refl e12 F_ct (g := (mkF m 67 #[.val (.ref a1), .val (.ref a2), .val (.int p2), .val (.int (0 : Int32)), .unset, .unset] [(.ref a1), (.int (0 : Int32))])) rfl rfl (hb hby d8_67)
      refine own_go st13 ?_
      show own_Goes _ _ _ _ _ _ _ T13 (mkF m 70 #[.val (.ref a1), .val (.ref a2), .val (.int p2), .val (.int (0 : Int32)), .unset, .unset] [(.int (1 : Int32)), (.int (0 : Int32))])
      refine own_go (fun _ k => XS.icmpNo X13.here hx rfl (hb hby d8_70) rfl (tlt (by decide : (0 : Int32) < (1 : Int32))).2.1 k) ?_
      show own_Goes _ _ _ _ _ _ _ T13 (mkF m 73 #[.val (.ref a1), .val (.ref a2), .val (.int p2), .val (.int (0 : Int32)), .unset, .unset] [])
      refine own_go (fun _ k => XS.aloadN X13.here hx rfl (hb hby d8_73) rfl rfl k) ?_
      show own_Goes _ _ _ _ _ _ _ T13 (mkF m 74 #[.val (.ref a1), .val (.ref a2), .val (.int p2), .val (.int (0 : Int32)), .unset, .unset] [(.ref a1)])
      obtain ⟨T14, X14, e14, st14⟩ := getF X13 hx hZ hown (host := "") (Or.inl (hw _ (List.mem_of_getElem? (i := 39) rfl))) Via.refl e13 F_fe (g := (mkF m 74 #[.val (.ref a1), .val (.ref a2), .val (.int p2), .val (.int (0 : Int32)), .unset, .unset] [(.ref a1)])) rfl rfl (hb hby d8_74)
      refine own_go st14 ?_
      show own_Goes _ _ _ _ _ _ _ T14 (mkF m 77 #[.val (.ref a1), .val (.ref a2), .val (.int p2), .val (.int (0 : Int32)), .unset, .unset] [(.ref a3)])
      refine own_go (fun _ k => XS.iloadN X14.here hx rfl (hb hby d8_77) rfl k) ?_
      show own_Goes _ _ _ _ _ _ _ T14 (mkF m 78 #[.val (.ref a1), .val (.ref a2), .val (.int p2), .val (.int (0 : Int32)), .unset, .unset] [(.int (0 : Int32)), (.ref a3)])
      refine own_go (fun t k => X14.aaload hx (j := (0 : Int32)) (v := (.ref s0)) (by rw [e14]; exact A_3.1) (State.isArrayOf_alike hZ.alike A_3.2.1) rfl A_3.2.2 (by rw [sz]; decide) (hf0 rfl) (g := (mkF m 78 #[.val (.ref a1), .val (.ref a2), .val (.int p2), .val (.int (0 : Int32)), .unset, .unset] [(.int (0 : Int32)), (.ref a3)])) rfl rfl (hb hby d8_78) t k) ?_
      show own_Goes _ _ _ _ _ _ _ T14 (mkF m 79 #[.val (.ref a1), .val (.ref a2), .val (.int p2), .val (.int (0 : Int32)), .unset, .unset] [(.ref s0)])
      refine own_go (fun _ k => XS.aloadN X14.here hx rfl (hb hby d8_79) rfl rfl k) ?_
      show own_Goes _ _ _ _ _ _ _ T14 (mkF m 80 #[.val (.ref a1), .val (.ref a2), .val (.int p2), .val (.int (0 : Int32)), .unset, .unset] [(.ref a2), (.ref s0)])
      obtain ⟨x151, x152, x153, x154, x155, x15t, x15k, x156, x157, x158⟩ := id S0
      obtain ⟨y151, y152, y153, y154, y155, y15t, y15k, y156, y157, y158⟩ := id S2
      obtain ⟨cq16, kq16, zq16a, zq16b, zq16c⟩ := isOf hZ e14 x151
      obtain ⟨_, _, ⟨T16, L16, k16, n16⟩, -, X16, ⟨Lc16, hQ16, l16, y16, z16⟩, st16⟩ := X14.virtualBack hx (y := (⟨"java/lang/String", "equals", "(Ljava/lang/Object;)Z"⟩ : MethodName)) (z := (⟨"java/lang/String", "equals", "(Ljava/lang/Object;)Z"⟩ : MethodName)) hown (mvT hZ (hw _ (List.mem_of_getElem? (i := 67) rfl))) (mvT hZ (hw _ (List.mem_of_getElem? (i := 58) rfl))) (notFace_of_selects (args := #[]) (mvT hZ (hw _ (List.mem_of_getElem? (i := 60) rfl)))) (mvT hZ (hw _ (List.mem_of_getElem? (i := 60) rfl))) (mvT hZ (hw _ (List.mem_of_getElem? (i := 59) rfl))) (by decide) (StrChars.Road.eqW (W := 0) hZ (fun d hd => hw d (own_wordsEq d hd)) (kI := 4) (hw _ (List.mem_of_getElem? (i := 2) rfl)) x151 x157 x152 x158 (own_cod x154) (own_up _ x154) x155 y151 y157 y152 y158 (own_cod y154) (own_up _ y154) y155 (O2.ext Od0.2) P5 (by decide) (by decide)) zq16a zq16c (g := (mkF m 80 #[.val (.ref a1), .val (.ref a2), .val (.int p2), .val (.int (0 : Int32)), .unset, .unset] [(.ref a2), (.ref s0)])) rfl (by rw [hml]; rfl) (Steps.refl _) (argsL := [(.ref a2)]) (rest := []) (lenOf pd_0 rfl) rfl (by show 2 * 0 + _ ≤ _; exact Nat.le_of_eq rfl) (hb hby d8_80) (fun _ _ => ⟨rfl, e14, (by decide : 0 + 0 ≤ _), (by decide : 0 + 0 ≤ _)⟩)
      dsimp only [Pt.U, Pt.locs, Pt.cells, Pt.slots] at X16 l16 y16 z16 st16 hQ16
      subst l16 y16 z16
      obtain ⟨hcase16, rfl, e16⟩ := hQ16
      have N16 := Fr.app N0 (Fr.nil n0)
      rcases hcase16 with ⟨rfl, hq16⟩ | ⟨rfl, hq16⟩
      · refine own_goS st16 ?_
        show own_Goes _ _ _ _ _ _ _ T16 (mkF m 83 #[.val (.ref a1), .val (.ref a2), .val (.int p2), .val (.int (0 : Int32)), .unset, .unset] [(.int (1 : Int32))])
        refine own_go (fun _ k => XS.ifNo X16.here hx rfl (hb hby d8_83) rfl ((if0 _ _).trans (feq (by decide : ¬ ((1 : Int32) = (0 : Int32)))).1) k) ?_
        show own_Goes _ _ _ _ _ _ _ T16 (mkF m 86 #[.val (.ref a1), .val (.ref a2), .val (.int p2), .val (.int (0 : Int32)), .unset, .unset] [])
        refine own_go (fun _ k => XS.iconst X16.here hx rfl (hb hby d8_86) k) ?_
        show own_Goes _ _ _ _ _ _ _ T16 (mkF m 87 #[.val (.ref a1), .val (.ref a2), .val (.int p2), .val (.int (0 : Int32)), .unset, .unset] [(.int (0 : Int32))])
        exact own_retN X16 hx (t := .boolean) hlk hret (by simp) (hb hby d8_87) (by decide) (by decide) (by rw [e16]; exact ⟨by simp [own_neq, nar, *], N16, Z0, ⟨[a1, a3], Kp0, allS lN1 (allS lN3 all0)⟩, _, _, ⟨E_a1, F_nu, F_ct, F_ma, lN1, a3, _, F_fe, A_3, Ov, sz, hf0, lN3, ne_a1_a3⟩⟩)
      · refine own_goS st16 ?_
        show own_Goes _ _ _ _ _ _ _ T16 (mkF m 83 #[.val (.ref a1), .val (.ref a2), .val (.int p2), .val (.int (0 : Int32)), .unset, .unset] [(.int (0 : Int32))])
        refine own_go (fun _ k => XS.ifYes X16.here hx rfl (pc0 := 83) (pc' := 88) rfl (hb hby d8_83) rfl ((if0 _ _).trans (teq (by decide : (0 : Int32) = (0 : Int32))).1) (by decide) (by decide) k) ?_
        show own_Goes _ _ _ _ _ _ _ T16 (mkF m 88 #[.val (.ref a1), .val (.ref a2), .val (.int p2), .val (.int (0 : Int32)), .unset, .unset] [])
        refine own_go (fun _ k => XS.iinc X16.here hx rfl (hb hby d8_88) rfl (l' := #[.val (.ref a1), .val (.ref a2), .val (.int p2), .val (.int (1 : Int32)), .unset, .unset]) rfl k) ?_
        show own_Goes _ _ _ _ _ _ _ T16 (mkF m 91 #[.val (.ref a1), .val (.ref a2), .val (.int p2), .val (.int (1 : Int32)), .unset, .unset] [])
        refine own_go (fun _ k => XS.goto X16.here hx rfl (pc0 := 91) (pc' := 65) rfl (hb hby d8_91) (by decide) (by decide) k) ?_
        show own_Goes _ _ _ _ _ _ _ T16 (mkF m 65 #[.val (.ref a1), .val (.ref a2), .val (.int p2), .val (.int (1 : Int32)), .unset, .unset] [])
        refine own_go (fun _ k => XS.iloadN X16.here hx rfl (hb hby d8_65) rfl k) ?_
        show own_Goes _ _ _ _ _ _ _ T16 (mkF m 66 #[.val (.ref a1), .val (.ref a2), .val (.int p2), .val (.int (1 : Int32)), .unset, .unset] [(.int (1 : Int32))])
        refine own_go (fun _ k => XS.aloadN X16.here hx rfl (hb hby d8_66) rfl rfl k) ?_
        show own_Goes _ _ _ _ _ _ _ T16 (mkF m 67 #[.val (.ref a1), .val (.ref a2), .val (.int p2), .val (.int (1 : Int32)), .unset, .unset] [(.ref a1), (.int (1 : Int32))])
        obtain ⟨T17, X17, e17, st17⟩ := getF X16 hx hZ hown (host := "") (Or.inl (hw _ (List.mem_of_getElem? (i := 53) rfl))) Via.refl e16 F_ct (g := (mkF m 67 #[.val (.ref a1), .val (.ref a2), .val (.int p2), .val (.int (1 : Int32)), .unset, .unset] [(.ref a1), (.int (1 : Int32))])) rfl rfl (hb hby d8_67)
        refine own_go st17 ?_
        show own_Goes _ _ _ _ _ _ _ T17 (mkF m 70 #[.val (.ref a1), .val (.ref a2), .val (.int p2), .val (.int (1 : Int32)), .unset, .unset] [(.int (1 : Int32)), (.int (1 : Int32))])
        refine own_go (fun _ k => XS.icmpYes X17.here hx rfl (pc0 := 70) (pc' := 94) rfl (hb hby d8_70) rfl (flt (by decide : ¬ ((1 : Int32) < (1 : Int32)))).2.1 (by decide) (by decide) k) ?_
        show own_Goes _ _ _ _ _ _ _ T17 (mkF m 94 #[.val (.ref a1), .val (.ref a2), .val (.int p2), .val (.int (1 : Int32)), .unset, .unset] [])
        refine own_go (fun _ k => XS.aloadN X17.here hx rfl (hb hby d8_94) rfl rfl k) ?_
        show own_Goes _ _ _ _ _ _ _ T17 (mkF m 95 #[.val (.ref a1), .val (.ref a2), .val (.int p2), .val (.int (1 : Int32)), .unset, .unset] [(.ref a1)])
        obtain ⟨T18, X18, e18, st18⟩ := getF X17 hx hZ hown (host := "") (Or.inl (hw _ (List.mem_of_getElem? (i := 53) rfl))) Via.refl e17 F_ct (g := (mkF m 95 #[.val (.ref a1), .val (.ref a2), .val (.int p2), .val (.int (1 : Int32)), .unset, .unset] [(.ref a1)])) rfl rfl (hb hby d8_95)
        refine own_go st18 ?_
        show own_Goes _ _ _ _ _ _ _ T18 (mkF m 98 #[.val (.ref a1), .val (.ref a2), .val (.int p2), .val (.int (1 : Int32)), .unset, .unset] [(.int (1 : Int32))])
        refine own_go (fun _ k => XS.bipush X18.here hx rfl (hb hby d8_98) k) ?_
        show own_Goes _ _ _ _ _ _ _ T18 (mkF m 100 #[.val (.ref a1), .val (.ref a2), .val (.int p2), .val (.int (1 : Int32)), .unset, .unset] [(.int (16 : Int32)), (.int (1 : Int32))])
        refine own_go (fun _ k => XS.icmpNo X18.here hx rfl (hb hby d8_100) rfl (tlt (by decide : (1 : Int32) < (16 : Int32))).2.1 k) ?_
        show own_Goes _ _ _ _ _ _ _ T18 (mkF m 103 #[.val (.ref a1), .val (.ref a2), .val (.int p2), .val (.int (1 : Int32)), .unset, .unset] [])
        refine own_go (fun _ k => XS.aloadN X18.here hx rfl (hb hby d8_103) rfl rfl k) ?_
        show own_Goes _ _ _ _ _ _ _ T18 (mkF m 104 #[.val (.ref a1), .val (.ref a2), .val (.int p2), .val (.int (1 : Int32)), .unset, .unset] [(.ref a1)])
        obtain ⟨T19, X19, e19, st19⟩ := getF X18 hx hZ hown (host := "") (Or.inl (hw _ (List.mem_of_getElem? (i := 39) rfl))) Via.refl e18 F_fe (g := (mkF m 104 #[.val (.ref a1), .val (.ref a2), .val (.int p2), .val (.int (1 : Int32)), .unset, .unset] [(.ref a1)])) rfl rfl (hb hby d8_104)
        refine own_go st19 ?_
        show own_Goes _ _ _ _ _ _ _ T19 (mkF m 107 #[.val (.ref a1), .val (.ref a2), .val (.int p2), .val (.int (1 : Int32)), .unset, .unset] [(.ref a3)])
        refine own_go (fun _ k => XS.aloadN X19.here hx rfl (hb hby d8_107) rfl rfl k) ?_
        show own_Goes _ _ _ _ _ _ _ T19 (mkF m 108 #[.val (.ref a1), .val (.ref a2), .val (.int p2), .val (.int (1 : Int32)), .unset, .unset] [(.ref a1), (.ref a3)])
        refine own_go (fun _ k => XS.dup X19.here hx rfl (hb hby d8_108) rfl rfl k) ?_
        show own_Goes _ _ _ _ _ _ _ T19 (mkF m 109 #[.val (.ref a1), .val (.ref a2), .val (.int p2), .val (.int (1 : Int32)), .unset, .unset] [(.ref a1), (.ref a1), (.ref a3)])
        obtain ⟨T20, X20, e20, st20⟩ := getF X19 hx hZ hown (host := "") (Or.inl (hw _ (List.mem_of_getElem? (i := 53) rfl))) Via.refl e19 F_ct (g := (mkF m 109 #[.val (.ref a1), .val (.ref a2), .val (.int p2), .val (.int (1 : Int32)), .unset, .unset] [(.ref a1), (.ref a1), (.ref a3)])) rfl rfl (hb hby d8_109)
        refine own_go st20 ?_
        show own_Goes _ _ _ _ _ _ _ T20 (mkF m 112 #[.val (.ref a1), .val (.ref a2), .val (.int p2), .val (.int (1 : Int32)), .unset, .unset] [(.int (1 : Int32)), (.ref a1), (.ref a3)])
        refine own_go (fun _ k => XS.dupX1 X20.here hx rfl (hb hby d8_112) rfl rfl rfl k) ?_
        show own_Goes _ _ _ _ _ _ _ T20 (mkF m 113 #[.val (.ref a1), .val (.ref a2), .val (.int p2), .val (.int (1 : Int32)), .unset, .unset] [(.int (1 : Int32)), (.ref a1), (.int (1 : Int32)), (.ref a3)])
        refine own_go (fun _ k => XS.iconst X20.here hx rfl (hb hby d8_113) k) ?_
        show own_Goes _ _ _ _ _ _ _ T20 (mkF m 114 #[.val (.ref a1), .val (.ref a2), .val (.int p2), .val (.int (1 : Int32)), .unset, .unset] [(.int (1 : Int32)), (.int (1 : Int32)), (.ref a1), (.int (1 : Int32)), (.ref a3)])
        refine own_go (fun _ k => XS.iadd X20.here hx rfl (hb hby d8_114) rfl k) ?_
        show own_Goes _ _ _ _ _ _ _ T20 (mkF m 115 #[.val (.ref a1), .val (.ref a2), .val (.int p2), .val (.int (1 : Int32)), .unset, .unset] [(.int (2 : Int32)), (.ref a1), (.int (1 : Int32)), (.ref a3)])
        obtain ⟨T21, h21, X21, e21, W21, st21⟩ := putF X20 hx hZ hown (host := "") (Or.inl (hw _ (List.mem_of_getElem? (i := 53) rfl))) Via.refl e20 F_ct E_a1 (Or.inl (hw _ (List.mem_of_getElem? (i := 54) rfl))) (hw _ (List.mem_of_getElem? (i := 31) rfl)) (ty := .int) (by decide) rfl rfl (g := (mkF m 115 #[.val (.ref a1), .val (.ref a2), .val (.int p2), .val (.int (1 : Int32)), .unset, .unset] [(.int (2 : Int32)), (.ref a1), (.int (1 : Int32)), (.ref a3)])) rfl rfl (hb hby d8_115)
        have F_ct_21 : Fld Z h21 a1 "dev/resolvent/io/FieldNames" "count" "I" (.int (2 : Int32)) := F_ct.same W21
        have N21 := Fr.snoc X21 N16 lo_a1
        have E_a1_21 : Exa Z h21 a1 "dev/resolvent/io/FieldNames" := E_a1.wr W21
        have F_nu_21 : Fld Z h21 a1 "dev/resolvent/io/FieldNames" "numbered" "J" (.long u) := F_nu.other W21 (Or.inr (slot_ne (Or.inl (hw _ (List.mem_of_getElem? (i := 47) rfl))) (Or.inl (hw _ (List.mem_of_getElem? (i := 54) rfl))) (by decide) (t := .long) (t' := .int) (by decide) (by decide)))
        have F_ma_21 : Fld Z h21 a1 "dev/resolvent/io/FieldNames" "many" "Ljava/util/Set;" .null := F_ma.other W21 (Or.inr (slot_ne (Or.inl (hw _ (List.mem_of_getElem? (i := 56) rfl))) (Or.inl (hw _ (List.mem_of_getElem? (i := 54) rfl))) (by decide) (t := (.object "java/util/Set")) (t' := .int) (by decide) (by decide)))
        have F_fe_21 : Fld Z h21 a1 "dev/resolvent/io/FieldNames" "few" "[Ljava/lang/String;" (.ref a3) := F_fe.other W21 (Or.inr (slot_ne (Or.inr (hw _ (List.mem_of_getElem? (i := 40) rfl))) (Or.inl (hw _ (List.mem_of_getElem? (i := 54) rfl))) (by decide) (t := (.array (.object "java/lang/String"))) (t' := .int) (by decide) (by decide)))
        have A_3_21 : Arr Z h21 a3 cl (.object "java/lang/String") := A_3.other W21 (Ne.symm ne_a1_a3)
        have S2_21 : own_Str Z h21 N a2 ds := S2.wr W21 lN1
        have S0_21 : own_Str Z h21 N s0 cs := S0.wr W21 lN1
        have Zs21 : n0 ≤ h21.size := Nat.le_trans Z0 (Keep.of_wr W21).1
        have Kp21 : Keep h0 h21 [a1, a3] := Kp0.wr W21 (Or.inl (by simp))
        refine own_go st21 ?_
        show own_Goes _ _ _ _ _ _ _ T21 (mkF m 118 #[.val (.ref a1), .val (.ref a2), .val (.int p2), .val (.int (1 : Int32)), .unset, .unset] [(.int (1 : Int32)), (.ref a3)])
        refine own_go (fun _ k => XS.aloadN X21.here hx rfl (hb hby d8_118) rfl rfl k) ?_
        show own_Goes _ _ _ _ _ _ _ T21 (mkF m 119 #[.val (.ref a1), .val (.ref a2), .val (.int p2), .val (.int (1 : Int32)), .unset, .unset] [(.ref a2), (.int (1 : Int32)), (.ref a3)])
        obtain ⟨T22, h22, X22, e22, W22, st22⟩ := stR X21 hx hZ e21 A_3_21 (j := (1 : Int32)) (by rw [sz]; decide) rfl (Sto.of A_3_21 Ov (Ins.self S2_21.1)) (g := (mkF m 119 #[.val (.ref a1), .val (.ref a2), .val (.int p2), .val (.int (1 : Int32)), .unset, .unset] [(.ref a2), (.int (1 : Int32)), (.ref a3)])) rfl rfl (hb hby d8_119)
        have N22 := Fr.snoc X22 N21 lo_a3
        have E_a1_22 : Exa Z h22 a1 "dev/resolvent/io/FieldNames" := E_a1_21.wr W22
        have F_nu_22 : Fld Z h22 a1 "dev/resolvent/io/FieldNames" "numbered" "J" (.long u) := F_nu_21.other W22 (Or.inl ne_a1_a3)
        have F_ma_22 : Fld Z h22 a1 "dev/resolvent/io/FieldNames" "many" "Ljava/util/Set;" .null := F_ma_21.other W22 (Or.inl ne_a1_a3)
        have F_fe_22 : Fld Z h22 a1 "dev/resolvent/io/FieldNames" "few" "[Ljava/lang/String;" (.ref a3) := F_fe_21.other W22 (Or.inl ne_a1_a3)
        have S2_22 : own_Str Z h22 N a2 ds := S2_21.wr W22 lN3
        have S0_22 : own_Str Z h22 N s0 cs := S0_21.wr W22 lN3
        have F_ct_22 : Fld Z h22 a1 "dev/resolvent/io/FieldNames" "count" "I" (.int (2 : Int32)) := F_ct_21.other W22 (Or.inl ne_a1_a3)
        have Zs22 : n0 ≤ h22.size := Nat.le_trans Zs21 (Keep.of_wr W22).1
        have Kp22 : Keep h0 h22 [a1, a3] := Kp21.wr W22 (Or.inl (by simp))
        have A_3_22 : Arr Z h22 a3 (cl.setSlot ((1 : Int32)).toNatClampNeg (.ref a2)) (.object "java/lang/String") := A_3_21.same W22
        refine own_go st22 ?_
        show own_Goes _ _ _ _ _ _ _ T22 (mkF m 120 #[.val (.ref a1), .val (.ref a2), .val (.int p2), .val (.int (1 : Int32)), .unset, .unset] [])
        refine own_go (fun _ k => XS.iconst X22.here hx rfl (hb hby d8_120) k) ?_
        show own_Goes _ _ _ _ _ _ _ T22 (mkF m 121 #[.val (.ref a1), .val (.ref a2), .val (.int p2), .val (.int (1 : Int32)), .unset, .unset] [(.int (1 : Int32))])
        exact own_retN X22 hx (t := .boolean) hlk hret (by simp) (hb hby d8_121) (by decide) (by decide) (by rw [e22]; exact ⟨by simp [own_neq, nar, *], N22, Zs22, ⟨[a1, a3], Kp22, allS lN1 (allS lN3 all0)⟩, _, s0, ⟨E_a1_22, F_nu_22, F_ct_22, F_ma_22, lN1, a3, _, F_fe_22, A_3_22, Ov, (sz_set _ _ _).trans sz, fun q => absurd q (by decide), lN3, ne_a1_a3⟩⟩)
set_option maxRecDepth 65536 in
set_option maxHeartbeats 40000000 in
theorem seg153 {p : Program} {l : Launch} {e : Env} {s : State} {m : MethodId} {args : Array Value} {below : List Frame} {meth : Method} {c : Code} {s₁ : State} {locs : List Loc} {Z : State} {a0 : Array Value} {h0 : Heap} (p0 p1 p2 : Int32) (a3 a4 a5 a6 : Addr) (cs ds : List Int32) (i7 i8 i9 : Int32)
    (hw : ∀ d ∈ tables_1, d.before a0 Z = true) (C : own_Ctx Z x "dev/resolvent/io/FieldNamesClearPinLaw" code maxLocals ret p s m meth c) (X0 : Stand p l e room_1 s m args below meth c s₁ locs 6 16) (e0 : s₁.heap = h0) (n0 : Nat) (Z0 : n0 ≤ h0.size) (N0 : Fr n0 locs) (N : Nat) (hN : n0 ≤ N) (S5 : own_Str Z h0 N a5 cs) (S6 : own_Str Z h0 N a6 ds) (Od0 : Old Z n0 h0) (hN0 : N ≤ h0.size) (G1 : Int32) (O2 : Sta Z Z.heap "java/lang/String" "COMPACT_STRINGS" "Z" (.int G1)) (P5 : ¬ (G1 = (0 : Int32))) (h9 : own_sec p0 p1 cs ds = i9) :
    own_Goes p e below s (fun v h L => v = some (.int 1) ∧ Fr n0 L) room_1.cells room_1.slots s₁ (mkF m 153 #[.val (.int p0), .val (.int p1), .val (.int p2), .val (.ref a3), .val (.ref a4), .val (.ref a5), .val (.ref a6), .val (.int i7), .val (.int i8), .val (.int i9), .unset, .unset, .unset, .unset, .unset] []) := by
  obtain ⟨hx, hby, hml, hown, hnm, hret, hlk, hZ⟩ := C
  have Kp0 : Keep h0 h0 [] := Keep.refl h0 _
  obtain ⟨T1, h1, X1, e1, E1, A1, D1, -, st1⟩ := newO X0 hx hZ hown (hw _ (List.mem_of_getElem? (i := 30) rfl)) (hw _ (List.mem_of_getElem? (i := 31) rfl)) (hw _ (List.mem_of_getElem? (i := 32) rfl)) e0 (g := (mkF m 153 #[.val (.int p0), .val (.int p1), .val (.int p2), .val (.ref a3), .val (.ref a4), .val (.ref a5), .val (.ref a6), .val (.int i7), .val (.int i8), .val (.int i9), .unset, .unset, .unset, .unset, .unset] [])) rfl (hb hby at_153) (by decide) (by decide)
  obtain ⟨b1, g1⟩ : ∃ z, z = h0.size := ⟨_, rfl⟩
  rw [← g1] at A1 D1 st1
  have lo_b1 : n0 ≤ b1 := Nat.le_trans Z0 (Nat.le_of_eq g1.symm)
  have bo_b1 : h0.size ≤ b1 := Nat.le_trans Kp0.1 (Nat.le_of_eq g1.symm)
  have S5_1 : own_Str Z h1 N a5 cs := S5.ext E1
  have S6_1 : own_Str Z h1 N a6 ds := S6.ext E1
  have Zs1 : n0 ≤ h1.size := Nat.le_trans Z0 E1.1
  have Kp1 : Keep h0 h1 [] := Kp0.ext E1
  have Od1 : Old Z n0 h1 := Od0.ext E1
  have F_few_b1 : Fld Z h1 b1 "dev/resolvent/io/FieldNames" "few" "[Ljava/lang/String;" .null := D1 (Or.inr (hw _ (List.mem_of_getElem? (i := 40) rfl))) (ty := (.array (.object "java/lang/String"))) (by decide)
  have F_numbered_b1 : Fld Z h1 b1 "dev/resolvent/io/FieldNames" "numbered" "J" (.long (0 : Int64)) := D1 (Or.inl (hw _ (List.mem_of_getElem? (i := 47) rfl))) (ty := .long) (by decide)
  have F_count_b1 : Fld Z h1 b1 "dev/resolvent/io/FieldNames" "count" "I" (.int (0 : Int32)) := D1 (Or.inl (hw _ (List.mem_of_getElem? (i := 54) rfl))) (ty := .int) (by decide)
  have F_many_b1 : Fld Z h1 b1 "dev/resolvent/io/FieldNames" "many" "Ljava/util/Set;" .null := D1 (Or.inl (hw _ (List.mem_of_getElem? (i := 56) rfl))) (ty := (.object "java/util/Set")) (by decide)
  refine own_go st1 ?_
  show own_Goes _ _ _ _ _ _ _ T1 (mkF m 156 #[.val (.int p0), .val (.int p1), .val (.int p2), .val (.ref a3), .val (.ref a4), .val (.ref a5), .val (.ref a6), .val (.int i7), .val (.int i8), .val (.int i9), .unset, .unset, .unset, .unset, .unset] [(.ref b1)])
  refine own_go (fun _ k => XS.dup X1.here hx rfl (hb hby at_156) rfl rfl k) ?_
  show own_Goes _ _ _ _ _ _ _ T1 (mkF m 157 #[.val (.int p0), .val (.int p1), .val (.int p2), .val (.ref a3), .val (.ref a4), .val (.ref a5), .val (.ref a6), .val (.int i7), .val (.int i8), .val (.int i9), .unset, .unset, .unset, .unset, .unset] [(.ref b1), (.ref b1)])
  obtain ⟨_, _, ⟨T2, L2, k2, n2⟩, -, X2, ⟨Lc2, hQ2, l2, y2, z2⟩, st2⟩ := X1.specialBack hx (y := (⟨"dev/resolvent/io/FieldNames", "<init>", "()V"⟩ : MethodName)) rfl hown (mvT hZ (hw _ (List.mem_of_getElem? (i := 33) rfl))) (mvT hZ (hw _ (List.mem_of_getElem? (i := 34) rfl))) (mvT hZ (hw _ (List.mem_of_getElem? (i := 35) rfl))) (by decide) (backOf (W := 1) (rm_init l Z a0 hw [] b1 h1 n0 Zs1 A1 F_numbered_b1 F_count_b1 F_many_b1 F_few_b1 lo_b1 N (Nat.le_trans hN0 Kp1.1) (Nat.le_trans hN0 bo_b1)) hZ (hw _ (List.mem_of_getElem? (i := 35) rfl)) (hw _ (List.mem_of_getElem? (i := 32) rfl)) (by decide) (by decide)) (g := (mkF m 157 #[.val (.int p0), .val (.int p1), .val (.int p2), .val (.ref a3), .val (.ref a4), .val (.ref a5), .val (.ref a6), .val (.int i7), .val (.int i8), .val (.int i9), .unset, .unset, .unset, .unset, .unset] [(.ref b1), (.ref b1)])) rfl (by rw [hml]; rfl) (Steps.refl _) (a := b1) (argsL := []) (rest := [(.ref b1)]) (lenOf pd_1 rfl) rfl (by show 2 * 0 + _ ≤ _; exact Nat.le_of_eq rfl) (hb hby at_157) (fun _ _ => ⟨rfl, e1, (by decide : 6 + 1 + 1 ≤ _), (by decide : 16 + 4 + 16 ≤ _)⟩)
  dsimp only [Pt.U, Pt.locs, Pt.cells, Pt.slots] at X2 l2 y2 z2 st2 hQ2
  subst l2 y2 z2
  obtain ⟨rfl, N2q, Zs2, KN2, FN2⟩ := hQ2
  have N2 := Fr.app N0 N2q
  refine own_goS st2 ?_
  show own_Goes _ _ _ _ _ _ _ T2 (mkF m 160 #[.val (.int p0), .val (.int p1), .val (.int p2), .val (.ref a3), .val (.ref a4), .val (.ref a5), .val (.ref a6), .val (.int i7), .val (.int i8), .val (.int i9), .unset, .unset, .unset, .unset, .unset] [(.ref b1)])
  obtain ⟨ws2, K2, hws2⟩ := KN2
  have S5_2 : own_Str Z T2.heap N a5 cs := S5_1.keep K2 hws2
  have S6_2 : own_Str Z T2.heap N a6 ds := S6_1.keep K2 hws2
  have Od2 : Old Z n0 T2.heap := Od1.keep K2 (fun x q => Nat.le_trans hN (hws2 x q))
  refine own_go (fun _ k => XS.astore X2.here hx rfl (hb hby at_160) rfl rfl (l' := #[.val (.int p0), .val (.int p1), .val (.int p2), .val (.ref a3), .val (.ref a4), .val (.ref a5), .val (.ref a6), .val (.int i7), .val (.int i8), .val (.int i9), .val (.ref b1), .unset, .unset, .unset, .unset]) rfl k) ?_
  show own_Goes _ _ _ _ _ _ _ T2 (mkF m 162 #[.val (.int p0), .val (.int p1), .val (.int p2), .val (.ref a3), .val (.ref a4), .val (.ref a5), .val (.ref a6), .val (.int i7), .val (.int i8), .val (.int i9), .val (.ref b1), .unset, .unset, .unset, .unset] [])
  refine own_go (fun _ k => XS.aload X2.here hx rfl (hb hby at_162) rfl rfl k) ?_
  show own_Goes _ _ _ _ _ _ _ T2 (mkF m 164 #[.val (.int p0), .val (.int p1), .val (.int p2), .val (.ref a3), .val (.ref a4), .val (.ref a5), .val (.ref a6), .val (.int i7), .val (.int i8), .val (.int i9), .val (.ref b1), .unset, .unset, .unset, .unset] [(.ref b1)])
  refine own_go (fun _ k => XS.aload X2.here hx rfl (hb hby at_164) rfl rfl k) ?_
  show own_Goes _ _ _ _ _ _ _ T2 (mkF m 166 #[.val (.int p0), .val (.int p1), .val (.int p2), .val (.ref a3), .val (.ref a4), .val (.ref a5), .val (.ref a6), .val (.int i7), .val (.int i8), .val (.int i9), .val (.ref b1), .unset, .unset, .unset, .unset] [(.ref a5), (.ref b1)])
  refine own_go (fun _ k => XS.iloadN X2.here hx rfl (hb hby at_166) rfl k) ?_
  show own_Goes _ _ _ _ _ _ _ T2 (mkF m 167 #[.val (.int p0), .val (.int p1), .val (.int p2), .val (.ref a3), .val (.ref a4), .val (.ref a5), .val (.ref a6), .val (.int i7), .val (.int i8), .val (.int i9), .val (.ref b1), .unset, .unset, .unset, .unset] [(.int p0), (.ref a5), (.ref b1)])
  by_cases q1 : own_in p0 = 0
  · by_cases q2 : own_in p1 = 0
    · have hr2 : (own_neq cs ds) = i9 := (own_s00 q1 q2).trans h9
      obtain ⟨cq3, kq3, zq3a, zq3b, zq3c⟩ := isOf hZ rfl FN2.1
      obtain ⟨_, _, ⟨T3, L3, k3, n3⟩, -, X3, ⟨Lc3, hQ3, l3, y3, z3⟩, st3⟩ := X2.virtualBack hx (y := (⟨"dev/resolvent/io/FieldNames", "add", "(Ljava/lang/String;I)Z"⟩ : MethodName)) (z := (⟨"dev/resolvent/io/FieldNames", "add", "(Ljava/lang/String;I)Z"⟩ : MethodName)) hown (mvT hZ (hw _ (List.mem_of_getElem? (i := 41) rfl))) (mvT hZ (hw _ (List.mem_of_getElem? (i := 42) rfl))) (notFace_of_selects (args := #[]) (mvT hZ (hw _ (List.mem_of_getElem? (i := 44) rfl)))) (mvT hZ (hw _ (List.mem_of_getElem? (i := 44) rfl))) (mvT hZ (hw _ (List.mem_of_getElem? (i := 43) rfl))) (by decide) (backOf (W := 0) (rm_addB0 l Z a0 hw [] b1 a5 p0 0 0 cs T2.heap n0 Zs2 N hN FN2 (own_in0 q1) S5_2) hZ (hw _ (List.mem_of_getElem? (i := 45) rfl)) (hw _ (List.mem_of_getElem? (i := 32) rfl)) (by decide) (by decide)) zq3a zq3c (g := (mkF m 167 #[.val (.int p0), .val (.int p1), .val (.int p2), .val (.ref a3), .val (.ref a4), .val (.ref a5), .val (.ref a6), .val (.int i7), .val (.int i8), .val (.int i9), .val (.ref b1), .unset, .unset, .unset, .unset] [(.int p0), (.ref a5), (.ref b1)])) rfl (by rw [hml]; rfl) (Steps.refl _) (argsL := [(.ref a5), (.int p0)]) (rest := []) (lenOf pd_2 rfl) rfl (by show 2 * 0 + _ ≤ _; exact Nat.le_of_eq rfl) (hb hby at_167) (fun _ _ => ⟨rfl, rfl, (by decide : 6 + 1 + 1 + 0 ≤ _), (by decide : 16 + 4 + 16 + 0 ≤ _)⟩)
      dsimp only [Pt.U, Pt.locs, Pt.cells, Pt.slots] at X3 l3 y3 z3 st3 hQ3
      subst l3 y3 z3
      obtain ⟨rfl, N3q, Zs3, KN3, FN3⟩ := hQ3
      have N3 := Fr.app N2 N3q
      refine own_goS st3 ?_
      show own_Goes _ _ _ _ _ _ _ T3 (mkF m 170 #[.val (.int p0), .val (.int p1), .val (.int p2), .val (.ref a3), .val (.ref a4), .val (.ref a5), .val (.ref a6), .val (.int i7), .val (.int i8), .val (.int i9), .val (.ref b1), .unset, .unset, .unset, .unset] [(.int (1 : Int32))])
      obtain ⟨ws3, K3, hws3⟩ := KN3
      have S5_3 : own_Str Z T3.heap N a5 cs := S5_2.keep K3 hws3
      have S6_3 : own_Str Z T3.heap N a6 ds := S6_2.keep K3 hws3
      have Od3 : Old Z n0 T3.heap := Od2.keep K3 (fun x q => Nat.le_trans hN (hws3 x q))
      refine own_go (fun _ k => XS.istore X3.here hx rfl (hb hby at_170) rfl (l' := #[.val (.int p0), .val (.int p1), .val (.int p2), .val (.ref a3), .val (.ref a4), .val (.ref a5), .val (.ref a6), .val (.int i7), .val (.int i8), .val (.int i9), .val (.ref b1), .val (.int (1 : Int32)), .unset, .unset, .unset]) rfl k) ?_
      show own_Goes _ _ _ _ _ _ _ T3 (mkF m 172 #[.val (.int p0), .val (.int p1), .val (.int p2), .val (.ref a3), .val (.ref a4), .val (.ref a5), .val (.ref a6), .val (.int i7), .val (.int i8), .val (.int i9), .val (.ref b1), .val (.int (1 : Int32)), .unset, .unset, .unset] [])
      refine own_go (fun _ k => XS.aload X3.here hx rfl (hb hby at_172) rfl rfl k) ?_
      show own_Goes _ _ _ _ _ _ _ T3 (mkF m 174 #[.val (.int p0), .val (.int p1), .val (.int p2), .val (.ref a3), .val (.ref a4), .val (.ref a5), .val (.ref a6), .val (.int i7), .val (.int i8), .val (.int i9), .val (.ref b1), .val (.int (1 : Int32)), .unset, .unset, .unset] [(.ref b1)])
      refine own_go (fun _ k => XS.aload X3.here hx rfl (hb hby at_174) rfl rfl k) ?_
      show own_Goes _ _ _ _ _ _ _ T3 (mkF m 176 #[.val (.int p0), .val (.int p1), .val (.int p2), .val (.ref a3), .val (.ref a4), .val (.ref a5), .val (.ref a6), .val (.int i7), .val (.int i8), .val (.int i9), .val (.ref b1), .val (.int (1 : Int32)), .unset, .unset, .unset] [(.ref a6), (.ref b1)])
      refine own_go (fun _ k => XS.iloadN X3.here hx rfl (hb hby at_176) rfl k) ?_
      show own_Goes _ _ _ _ _ _ _ T3 (mkF m 177 #[.val (.int p0), .val (.int p1), .val (.int p2), .val (.ref a3), .val (.ref a4), .val (.ref a5), .val (.ref a6), .val (.int i7), .val (.int i8), .val (.int i9), .val (.ref b1), .val (.int (1 : Int32)), .unset, .unset, .unset] [(.int p1), (.ref a6), (.ref b1)])
      obtain ⟨cq4, kq4, zq4a, zq4b, zq4c⟩ := isOf hZ rfl FN3.1
      obtain ⟨_, _, ⟨T4, L4, k4, n4⟩, -, X4, ⟨Lc4, hQ4, l4, y4, z4⟩, st4⟩ := X3.virtualBack hx (y := (⟨"dev/resolvent/io/FieldNames", "add", "(Ljava/lang/String;I)Z"⟩ : MethodName)) (z := (⟨"dev/resolvent/io/FieldNames", "add", "(Ljava/lang/String;I)Z"⟩ : MethodName)) hown (mvT hZ (hw _ (List.mem_of_getElem? (i := 41) rfl))) (mvT hZ (hw _ (List.mem_of_getElem? (i := 42) rfl))) (notFace_of_selects (args := #[]) (mvT hZ (hw _ (List.mem_of_getElem? (i := 44) rfl)))) (mvT hZ (hw _ (List.mem_of_getElem? (i := 44) rfl))) (mvT hZ (hw _ (List.mem_of_getElem? (i := 43) rfl))) (by decide) (backOf (W := 0) (rm_addB1 l Z a0 hw [] b1 a6 p1 0 a5 cs ds T3.heap n0 Zs3 N hN FN3 (own_in0 q2) S6_3 S5_3 G1 O2 P5 Od3) hZ (hw _ (List.mem_of_getElem? (i := 45) rfl)) (hw _ (List.mem_of_getElem? (i := 32) rfl)) (by decide) (by decide)) zq4a zq4c (g := (mkF m 177 #[.val (.int p0), .val (.int p1), .val (.int p2), .val (.ref a3), .val (.ref a4), .val (.ref a5), .val (.ref a6), .val (.int i7), .val (.int i8), .val (.int i9), .val (.ref b1), .val (.int (1 : Int32)), .unset, .unset, .unset] [(.int p1), (.ref a6), (.ref b1)])) rfl (by rw [hml]; rfl) (Steps.refl _) (argsL := [(.ref a6), (.int p1)]) (rest := []) (lenOf pd_2 rfl) rfl (by show 2 * 0 + _ ≤ _; exact Nat.le_of_eq rfl) (hb hby at_177) (fun _ _ => ⟨rfl, rfl, (by decide : 6 + 1 + 1 + 0 + 0 ≤ _), (by decide : 16 + 4 + 16 + 0 + 0 ≤ _)⟩)
      dsimp only [Pt.U, Pt.locs, Pt.cells, Pt.slots] at X4 l4 y4 z4 st4 hQ4
      subst l4 y4 z4
      obtain ⟨rfl, N4q, Zs4, KN4, kk4, ss4, FN4⟩ := hQ4
      have N4 := Fr.app N3 N4q
      refine own_goS st4 ?_
      show own_Goes _ _ _ _ _ _ _ T4 (mkF m 180 #[.val (.int p0), .val (.int p1), .val (.int p2), .val (.ref a3), .val (.ref a4), .val (.ref a5), .val (.ref a6), .val (.int i7), .val (.int i8), .val (.int i9), .val (.ref b1), .val (.int (1 : Int32)), .unset, .unset, .unset] [(.int (own_neq cs ds))])
      obtain ⟨ws4, K4, hws4⟩ := KN4
      have S5_4 : own_Str Z T4.heap N a5 cs := S5_3.keep K4 hws4
      have S6_4 : own_Str Z T4.heap N a6 ds := S6_3.keep K4 hws4
      have Od4 : Old Z n0 T4.heap := Od3.keep K4 (fun x q => Nat.le_trans hN (hws4 x q))
      refine own_go (fun _ k => XS.istore X4.here hx rfl (hb hby at_180) rfl (l' := #[.val (.int p0), .val (.int p1), .val (.int p2), .val (.ref a3), .val (.ref a4), .val (.ref a5), .val (.ref a6), .val (.int i7), .val (.int i8), .val (.int i9), .val (.ref b1), .val (.int (1 : Int32)), .val (.int (own_neq cs ds)), .unset, .unset]) rfl k) ?_
      show own_Goes _ _ _ _ _ _ _ T4 (mkF m 182 #[.val (.int p0), .val (.int p1), .val (.int p2), .val (.ref a3), .val (.ref a4), .val (.ref a5), .val (.ref a6), .val (.int i7), .val (.int i8), .val (.int i9), .val (.ref b1), .val (.int (1 : Int32)), .val (.int (own_neq cs ds)), .unset, .unset] [])
      refine own_go (fun _ k => XS.aload X4.here hx rfl (hb hby at_182) rfl rfl k) ?_
      show own_Goes _ _ _ _ _ _ _ T4 (mkF m 184 #[.val (.int p0), .val (.int p1), .val (.int p2), .val (.ref a3), .val (.ref a4), .val (.ref a5), .val (.ref a6), .val (.int i7), .val (.int i8), .val (.int i9), .val (.ref b1), .val (.int (1 : Int32)), .val (.int (own_neq cs ds)), .unset, .unset] [(.ref b1)])
      obtain ⟨cq5, kq5, zq5a, zq5b, zq5c⟩ := isOf hZ rfl FN4.1
      obtain ⟨_, _, ⟨T5, L5, k5, n5⟩, -, X5, ⟨Lc5, hQ5, l5, y5, z5⟩, st5⟩ := X4.virtualBack hx (y := (⟨"dev/resolvent/io/FieldNames", "clear", "()V"⟩ : MethodName)) (z := (⟨"dev/resolvent/io/FieldNames", "clear", "()V"⟩ : MethodName)) hown (mvT hZ (hw _ (List.mem_of_getElem? (i := 48) rfl))) (mvT hZ (hw _ (List.mem_of_getElem? (i := 49) rfl))) (notFace_of_selects (args := #[]) (mvT hZ (hw _ (List.mem_of_getElem? (i := 51) rfl)))) (mvT hZ (hw _ (List.mem_of_getElem? (i := 51) rfl))) (mvT hZ (hw _ (List.mem_of_getElem? (i := 50) rfl))) (by decide) (backOf (W := 0) (rm_clear l Z a0 hw [] b1 0 kk4 ss4 T4.heap n0 Zs4 N hN FN4) hZ (hw _ (List.mem_of_getElem? (i := 52) rfl)) (hw _ (List.mem_of_getElem? (i := 32) rfl)) (by decide) (by decide)) zq5a zq5c (g := (mkF m 184 #[.val (.int p0), .val (.int p1), .val (.int p2), .val (.ref a3), .val (.ref a4), .val (.ref a5), .val (.ref a6), .val (.int i7), .val (.int i8), .val (.int i9), .val (.ref b1), .val (.int (1 : Int32)), .val (.int (own_neq cs ds)), .unset, .unset] [(.ref b1)])) rfl (by rw [hml]; rfl) (Steps.refl _) (argsL := []) (rest := []) (lenOf pd_1 rfl) rfl (by show 2 * 0 + _ ≤ _; exact Nat.le_of_eq rfl) (hb hby at_184) (fun _ _ => ⟨rfl, rfl, (by decide : 6 + 1 + 1 + 0 + 0 + 0 ≤ _), (by decide : 16 + 4 + 16 + 0 + 0 + 0 ≤ _)⟩)
      dsimp only [Pt.U, Pt.locs, Pt.cells, Pt.slots] at X5 l5 y5 z5 st5 hQ5
      subst l5 y5 z5
      obtain ⟨rfl, N5q, Zs5, KN5, FN5⟩ := hQ5
      have N5 := Fr.app N4 N5q
      refine own_goS st5 ?_
      show own_Goes _ _ _ _ _ _ _ T5 (mkF m 187 #[.val (.int p0), .val (.int p1), .val (.int p2), .val (.ref a3), .val (.ref a4), .val (.ref a5), .val (.ref a6), .val (.int i7), .val (.int i8), .val (.int i9), .val (.ref b1), .val (.int (1 : Int32)), .val (.int (own_neq cs ds)), .unset, .unset] [])
      obtain ⟨ws5, K5, hws5⟩ := KN5
      have S5_5 : own_Str Z T5.heap N a5 cs := S5_4.keep K5 hws5
      have S6_5 : own_Str Z T5.heap N a6 ds := S6_4.keep K5 hws5
      have Od5 : Old Z n0 T5.heap := Od4.keep K5 (fun x q => Nat.le_trans hN (hws5 x q))
      refine own_go (fun _ k => XS.aload X5.here hx rfl (hb hby at_187) rfl rfl k) ?_
      show own_Goes _ _ _ _ _ _ _ T5 (mkF m 189 #[.val (.int p0), .val (.int p1), .val (.int p2), .val (.ref a3), .val (.ref a4), .val (.ref a5), .val (.ref a6), .val (.int i7), .val (.int i8), .val (.int i9), .val (.ref b1), .val (.int (1 : Int32)), .val (.int (own_neq cs ds)), .unset, .unset] [(.ref b1)])
      refine own_go (fun _ k => XS.aload X5.here hx rfl (hb hby at_189) rfl rfl k) ?_
      show own_Goes _ _ _ _ _ _ _ T5 (mkF m 191 #[.val (.int p0), .val (.int p1), .val (.int p2), .val (.ref a3), .val (.ref a4), .val (.ref a5), .val (.ref a6), .val (.int i7), .val (.int i8), .val (.int i9), .val (.ref b1), .val (.int (1 : Int32)), .val (.int (own_neq cs ds)), .unset, .unset] [(.ref a5), (.ref b1)])
      refine own_go (fun _ k => XS.iloadN X5.here hx rfl (hb hby at_191) rfl k) ?_
      show own_Goes _ _ _ _ _ _ _ T5 (mkF m 192 #[.val (.int p0), .val (.int p1), .val (.int p2), .val (.ref a3), .val (.ref a4), .val (.ref a5), .val (.ref a6), .val (.int i7), .val (.int i8), .val (.int i9), .val (.ref b1), .val (.int (1 : Int32)), .val (.int (own_neq cs ds)), .unset, .unset] [(.int p0), (.ref a5), (.ref b1)])
      obtain ⟨cq6, kq6, zq6a, zq6b, zq6c⟩ := isOf hZ rfl FN5.1
      obtain ⟨_, _, ⟨T6, L6, k6, n6⟩, -, X6, ⟨Lc6, hQ6, l6, y6, z6⟩, st6⟩ := X5.virtualBack hx (y := (⟨"dev/resolvent/io/FieldNames", "add", "(Ljava/lang/String;I)Z"⟩ : MethodName)) (z := (⟨"dev/resolvent/io/FieldNames", "add", "(Ljava/lang/String;I)Z"⟩ : MethodName)) hown (mvT hZ (hw _ (List.mem_of_getElem? (i := 41) rfl))) (mvT hZ (hw _ (List.mem_of_getElem? (i := 42) rfl))) (notFace_of_selects (args := #[]) (mvT hZ (hw _ (List.mem_of_getElem? (i := 44) rfl)))) (mvT hZ (hw _ (List.mem_of_getElem? (i := 44) rfl))) (mvT hZ (hw _ (List.mem_of_getElem? (i := 43) rfl))) (by decide) (backOf (W := 0) (rm_addB0 l Z a0 hw [] b1 a5 p0 0 0 cs T5.heap n0 Zs5 N hN FN5 (own_in0 q1) S5_5) hZ (hw _ (List.mem_of_getElem? (i := 45) rfl)) (hw _ (List.mem_of_getElem? (i := 32) rfl)) (by decide) (by decide)) zq6a zq6c (g := (mkF m 192 #[.val (.int p0), .val (.int p1), .val (.int p2), .val (.ref a3), .val (.ref a4), .val (.ref a5), .val (.ref a6), .val (.int i7), .val (.int i8), .val (.int i9), .val (.ref b1), .val (.int (1 : Int32)), .val (.int (own_neq cs ds)), .unset, .unset] [(.int p0), (.ref a5), (.ref b1)])) rfl (by rw [hml]; rfl) (Steps.refl _) (argsL := [(.ref a5), (.int p0)]) (rest := []) (lenOf pd_2 rfl) rfl (by show 2 * 0 + _ ≤ _; exact Nat.le_of_eq rfl) (hb hby at_192) (fun _ _ => ⟨rfl, rfl, (by decide : 6 + 1 + 1 + 0 + 0 + 0 + 0 ≤ _), (by decide : 16 + 4 + 16 + 0 + 0 + 0 + 0 ≤ _)⟩)
      dsimp only [Pt.U, Pt.locs, Pt.cells, Pt.slots] at X6 l6 y6 z6 st6 hQ6
      subst l6 y6 z6
      obtain ⟨rfl, N6q, Zs6, KN6, FN6⟩ := hQ6
      have N6 := Fr.app N5 N6q
      refine own_goS st6 ?_
      show own_Goes _ _ _ _ _ _ _ T6 (mkF m 195 #[.val (.int p0), .val (.int p1), .val (.int p2), .val (.ref a3), .val (.ref a4), .val (.ref a5), .val (.ref a6), .val (.int i7), .val (.int i8), .val (.int i9), .val (.ref b1), .val (.int (1 : Int32)), .val (.int (own_neq cs ds)), .unset, .unset] [(.int (1 : Int32))])
      obtain ⟨ws6, K6, hws6⟩ := KN6
      have S5_6 : own_Str Z T6.heap N a5 cs := S5_5.keep K6 hws6
      have S6_6 : own_Str Z T6.heap N a6 ds := S6_5.keep K6 hws6
      have Od6 : Old Z n0 T6.heap := Od5.keep K6 (fun x q => Nat.le_trans hN (hws6 x q))
      refine own_go (fun _ k => XS.istore X6.here hx rfl (hb hby at_195) rfl (l' := #[.val (.int p0), .val (.int p1), .val (.int p2), .val (.ref a3), .val (.ref a4), .val (.ref a5), .val (.ref a6), .val (.int i7), .val (.int i8), .val (.int i9), .val (.ref b1), .val (.int (1 : Int32)), .val (.int (own_neq cs ds)), .val (.int (1 : Int32)), .unset]) rfl k) ?_
      show own_Goes _ _ _ _ _ _ _ T6 (mkF m 197 #[.val (.int p0), .val (.int p1), .val (.int p2), .val (.ref a3), .val (.ref a4), .val (.ref a5), .val (.ref a6), .val (.int i7), .val (.int i8), .val (.int i9), .val (.ref b1), .val (.int (1 : Int32)), .val (.int (own_neq cs ds)), .val (.int (1 : Int32)), .unset] [])
      refine own_go (fun _ k => XS.aload X6.here hx rfl (hb hby at_197) rfl rfl k) ?_
      show own_Goes _ _ _ _ _ _ _ T6 (mkF m 199 #[.val (.int p0), .val (.int p1), .val (.int p2), .val (.ref a3), .val (.ref a4), .val (.ref a5), .val (.ref a6), .val (.int i7), .val (.int i8), .val (.int i9), .val (.ref b1), .val (.int (1 : Int32)), .val (.int (own_neq cs ds)), .val (.int (1 : Int32)), .unset] [(.ref b1)])
      refine own_go (fun _ k => XS.aload X6.here hx rfl (hb hby at_199) rfl rfl k) ?_
      show own_Goes _ _ _ _ _ _ _ T6 (mkF m 201 #[.val (.int p0), .val (.int p1), .val (.int p2), .val (.ref a3), .val (.ref a4), .val (.ref a5), .val (.ref a6), .val (.int i7), .val (.int i8), .val (.int i9), .val (.ref b1), .val (.int (1 : Int32)), .val (.int (own_neq cs ds)), .val (.int (1 : Int32)), .unset] [(.ref a6), (.ref b1)])
      refine own_go (fun _ k => XS.iloadN X6.here hx rfl (hb hby at_201) rfl k) ?_
      show own_Goes _ _ _ _ _ _ _ T6 (mkF m 202 #[.val (.int p0), .val (.int p1), .val (.int p2), .val (.ref a3), .val (.ref a4), .val (.ref a5), .val (.ref a6), .val (.int i7), .val (.int i8), .val (.int i9), .val (.ref b1), .val (.int (1 : Int32)), .val (.int (own_neq cs ds)), .val (.int (1 : Int32)), .unset] [(.int p1), (.ref a6), (.ref b1)])
      obtain ⟨cq7, kq7, zq7a, zq7b, zq7c⟩ := isOf hZ rfl FN6.1
      obtain ⟨_, _, ⟨T7, L7, k7, n7⟩, -, X7, ⟨Lc7, hQ7, l7, y7, z7⟩, st7⟩ := X6.virtualBack hx (y := (⟨"dev/resolvent/io/FieldNames", "add", "(Ljava/lang/String;I)Z"⟩ : MethodName)) (z := (⟨"dev/resolvent/io/FieldNames", "add", "(Ljava/lang/String;I)Z"⟩ : MethodName)) hown (mvT hZ (hw _ (List.mem_of_getElem? (i := 41) rfl))) (mvT hZ (hw _ (List.mem_of_getElem? (i := 42) rfl))) (notFace_of_selects (args := #[]) (mvT hZ (hw _ (List.mem_of_getElem? (i := 44) rfl)))) (mvT hZ (hw _ (List.mem_of_getElem? (i := 44) rfl))) (mvT hZ (hw _ (List.mem_of_getElem? (i := 43) rfl))) (by decide) (backOf (W := 0) (rm_addB1 l Z a0 hw [] b1 a6 p1 0 a5 cs ds T6.heap n0 Zs6 N hN FN6 (own_in0 q2) S6_6 S5_6 G1 O2 P5 Od6) hZ (hw _ (List.mem_of_getElem? (i := 45) rfl)) (hw _ (List.mem_of_getElem? (i := 32) rfl)) (by decide) (by decide)) zq7a zq7c (g := (mkF m 202 #[.val (.int p0), .val (.int p1), .val (.int p2), .val (.ref a3), .val (.ref a4), .val (.ref a5), .val (.ref a6), .val (.int i7), .val (.int i8), .val (.int i9), .val (.ref b1), .val (.int (1 : Int32)), .val (.int (own_neq cs ds)), .val (.int (1 : Int32)), .unset] [(.int p1), (.ref a6), (.ref b1)])) rfl (by rw [hml]; rfl) (Steps.refl _) (argsL := [(.ref a6), (.int p1)]) (rest := []) (lenOf pd_2 rfl) rfl (by show 2 * 0 + _ ≤ _; exact Nat.le_of_eq rfl) (hb hby at_202) (fun _ _ => ⟨rfl, rfl, (by decide : 6 + 1 + 1 + 0 + 0 + 0 + 0 + 0 ≤ _), (by decide : 16 + 4 + 16 + 0 + 0 + 0 + 0 + 0 ≤ _)⟩)
      dsimp only [Pt.U, Pt.locs, Pt.cells, Pt.slots] at X7 l7 y7 z7 st7 hQ7
      subst l7 y7 z7
      obtain ⟨rfl, N7q, Zs7, KN7, kk7, ss7, FN7⟩ := hQ7
      have N7 := Fr.app N6 N7q
      refine own_goS st7 ?_
      show own_Goes _ _ _ _ _ _ _ T7 (mkF m 205 #[.val (.int p0), .val (.int p1), .val (.int p2), .val (.ref a3), .val (.ref a4), .val (.ref a5), .val (.ref a6), .val (.int i7), .val (.int i8), .val (.int i9), .val (.ref b1), .val (.int (1 : Int32)), .val (.int (own_neq cs ds)), .val (.int (1 : Int32)), .unset] [(.int (own_neq cs ds))])
      obtain ⟨ws7, K7, hws7⟩ := KN7
      have S5_7 : own_Str Z T7.heap N a5 cs := S5_6.keep K7 hws7
      have S6_7 : own_Str Z T7.heap N a6 ds := S6_6.keep K7 hws7
      have Od7 : Old Z n0 T7.heap := Od6.keep K7 (fun x q => Nat.le_trans hN (hws7 x q))
      refine own_go (fun _ k => XS.istore X7.here hx rfl (hb hby at_205) rfl (l' := #[.val (.int p0), .val (.int p1), .val (.int p2), .val (.ref a3), .val (.ref a4), .val (.ref a5), .val (.ref a6), .val (.int i7), .val (.int i8), .val (.int i9), .val (.ref b1), .val (.int (1 : Int32)), .val (.int (own_neq cs ds)), .val (.int (1 : Int32)), .val (.int (own_neq cs ds))]) rfl k) ?_
      show own_Goes _ _ _ _ _ _ _ T7 (mkF m 207 #[.val (.int p0), .val (.int p1), .val (.int p2), .val (.ref a3), .val (.ref a4), .val (.ref a5), .val (.ref a6), .val (.int i7), .val (.int i8), .val (.int i9), .val (.ref b1), .val (.int (1 : Int32)), .val (.int (own_neq cs ds)), .val (.int (1 : Int32)), .val (.int (own_neq cs ds))] [])
      refine own_go (fun _ k => XS.iload X7.here hx rfl (hb hby at_207) rfl k) ?_
      show own_Goes _ _ _ _ _ _ _ T7 (mkF m 209 #[.val (.int p0), .val (.int p1), .val (.int p2), .val (.ref a3), .val (.ref a4), .val (.ref a5), .val (.ref a6), .val (.int i7), .val (.int i8), .val (.int i9), .val (.ref b1), .val (.int (1 : Int32)), .val (.int (own_neq cs ds)), .val (.int (1 : Int32)), .val (.int (own_neq cs ds))] [(.int (1 : Int32))])
      refine own_go (fun _ k => XS.ifNo X7.here hx rfl (hb hby at_209) rfl ((if0 _ _).trans (feq (by decide : ¬ ((1 : Int32) = (0 : Int32)))).1) k) ?_
      show own_Goes _ _ _ _ _ _ _ T7 (mkF m 212 #[.val (.int p0), .val (.int p1), .val (.int p2), .val (.ref a3), .val (.ref a4), .val (.ref a5), .val (.ref a6), .val (.int i7), .val (.int i8), .val (.int i9), .val (.ref b1), .val (.int (1 : Int32)), .val (.int (own_neq cs ds)), .val (.int (1 : Int32)), .val (.int (own_neq cs ds))] [])
      refine own_go (fun _ k => XS.iload X7.here hx rfl (hb hby at_212) rfl k) ?_
      show own_Goes _ _ _ _ _ _ _ T7 (mkF m 214 #[.val (.int p0), .val (.int p1), .val (.int p2), .val (.ref a3), .val (.ref a4), .val (.ref a5), .val (.ref a6), .val (.int i7), .val (.int i8), .val (.int i9), .val (.ref b1), .val (.int (1 : Int32)), .val (.int (own_neq cs ds)), .val (.int (1 : Int32)), .val (.int (own_neq cs ds))] [(.int (own_neq cs ds))])
      refine own_go (fun _ k => XS.iload X7.here hx rfl (hb hby at_214) rfl k) ?_
      show own_Goes _ _ _ _ _ _ _ T7 (mkF m 216 #[.val (.int p0), .val (.int p1), .val (.int p2), .val (.ref a3), .val (.ref a4), .val (.ref a5), .val (.ref a6), .val (.int i7), .val (.int i8), .val (.int i9), .val (.ref b1), .val (.int (1 : Int32)), .val (.int (own_neq cs ds)), .val (.int (1 : Int32)), .val (.int (own_neq cs ds))] [(.int i9), (.int (own_neq cs ds))])
      refine own_go (fun _ k => XS.icmpNo X7.here hx rfl (hb hby at_216) rfl (teq hr2).2 k) ?_
      show own_Goes _ _ _ _ _ _ _ T7 (mkF m 219 #[.val (.int p0), .val (.int p1), .val (.int p2), .val (.ref a3), .val (.ref a4), .val (.ref a5), .val (.ref a6), .val (.int i7), .val (.int i8), .val (.int i9), .val (.ref b1), .val (.int (1 : Int32)), .val (.int (own_neq cs ds)), .val (.int (1 : Int32)), .val (.int (own_neq cs ds))] [])
      refine own_go (fun _ k => XS.iload X7.here hx rfl (hb hby at_219) rfl k) ?_
      show own_Goes _ _ _ _ _ _ _ T7 (mkF m 221 #[.val (.int p0), .val (.int p1), .val (.int p2), .val (.ref a3), .val (.ref a4), .val (.ref a5), .val (.ref a6), .val (.int i7), .val (.int i8), .val (.int i9), .val (.ref b1), .val (.int (1 : Int32)), .val (.int (own_neq cs ds)), .val (.int (1 : Int32)), .val (.int (own_neq cs ds))] [(.int (1 : Int32))])
      refine own_go (fun _ k => XS.ifNo X7.here hx rfl (hb hby at_221) rfl ((if0 _ _).trans (feq (by decide : ¬ ((1 : Int32) = (0 : Int32)))).1) k) ?_
      show own_Goes _ _ _ _ _ _ _ T7 (mkF m 224 #[.val (.int p0), .val (.int p1), .val (.int p2), .val (.ref a3), .val (.ref a4), .val (.ref a5), .val (.ref a6), .val (.int i7), .val (.int i8), .val (.int i9), .val (.ref b1), .val (.int (1 : Int32)), .val (.int (own_neq cs ds)), .val (.int (1 : Int32)), .val (.int (own_neq cs ds))] [])
      refine own_go (fun _ k => XS.iload X7.here hx rfl (hb hby at_224) rfl k) ?_
      show own_Goes _ _ _ _ _ _ _ T7 (mkF m 226 #[.val (.int p0), .val (.int p1), .val (.int p2), .val (.ref a3), .val (.ref a4), .val (.ref a5), .val (.ref a6), .val (.int i7), .val (.int i8), .val (.int i9), .val (.ref b1), .val (.int (1 : Int32)), .val (.int (own_neq cs ds)), .val (.int (1 : Int32)), .val (.int (own_neq cs ds))] [(.int (own_neq cs ds))])
      refine own_go (fun _ k => XS.iload X7.here hx rfl (hb hby at_226) rfl k) ?_
      show own_Goes _ _ _ _ _ _ _ T7 (mkF m 228 #[.val (.int p0), .val (.int p1), .val (.int p2), .val (.ref a3), .val (.ref a4), .val (.ref a5), .val (.ref a6), .val (.int i7), .val (.int i8), .val (.int i9), .val (.ref b1), .val (.int (1 : Int32)), .val (.int (own_neq cs ds)), .val (.int (1 : Int32)), .val (.int (own_neq cs ds))] [(.int i9), (.int (own_neq cs ds))])
      refine own_go (fun _ k => XS.icmpNo X7.here hx rfl (hb hby at_228) rfl (teq hr2).2 k) ?_
      show own_Goes _ _ _ _ _ _ _ T7 (mkF m 231 #[.val (.int p0), .val (.int p1), .val (.int p2), .val (.ref a3), .val (.ref a4), .val (.ref a5), .val (.ref a6), .val (.int i7), .val (.int i8), .val (.int i9), .val (.ref b1), .val (.int (1 : Int32)), .val (.int (own_neq cs ds)), .val (.int (1 : Int32)), .val (.int (own_neq cs ds))] [])
      refine own_go (fun _ k => XS.iconst X7.here hx rfl (hb hby at_231) k) ?_
      show own_Goes _ _ _ _ _ _ _ T7 (mkF m 232 #[.val (.int p0), .val (.int p1), .val (.int p2), .val (.ref a3), .val (.ref a4), .val (.ref a5), .val (.ref a6), .val (.int i7), .val (.int i8), .val (.int i9), .val (.ref b1), .val (.int (1 : Int32)), .val (.int (own_neq cs ds)), .val (.int (1 : Int32)), .val (.int (own_neq cs ds))] [(.int (1 : Int32))])
      refine own_go (fun _ k => XS.goto X7.here hx rfl (pc0 := 232) (pc' := 236) rfl (hb hby at_232) (by decide) (by decide) k) ?_
      show own_Goes _ _ _ _ _ _ _ T7 (mkF m 236 #[.val (.int p0), .val (.int p1), .val (.int p2), .val (.ref a3), .val (.ref a4), .val (.ref a5), .val (.ref a6), .val (.int i7), .val (.int i8), .val (.int i9), .val (.ref b1), .val (.int (1 : Int32)), .val (.int (own_neq cs ds)), .val (.int (1 : Int32)), .val (.int (own_neq cs ds))] [(.int (1 : Int32))])
      exact own_retN X7 hx (t := .boolean) hlk hret (by simp) (hb hby at_236) (by decide) (by decide) ⟨rfl, N7⟩
    · have hr2 : (own_bit 0 p1) = i9 := (own_s01 q1 q2).trans h9
      obtain ⟨cq8, kq8, zq8a, zq8b, zq8c⟩ := isOf hZ rfl FN2.1
      obtain ⟨_, _, ⟨T8, L8, k8, n8⟩, -, X8, ⟨Lc8, hQ8, l8, y8, z8⟩, st8⟩ := X2.virtualBack hx (y := (⟨"dev/resolvent/io/FieldNames", "add", "(Ljava/lang/String;I)Z"⟩ : MethodName)) (z := (⟨"dev/resolvent/io/FieldNames", "add", "(Ljava/lang/String;I)Z"⟩ : MethodName)) hown (mvT hZ (hw _ (List.mem_of_getElem? (i := 41) rfl))) (mvT hZ (hw _ (List.mem_of_getElem? (i := 42) rfl))) (notFace_of_selects (args := #[]) (mvT hZ (hw _ (List.mem_of_getElem? (i := 44) rfl)))) (mvT hZ (hw _ (List.mem_of_getElem? (i := 44) rfl))) (mvT hZ (hw _ (List.mem_of_getElem? (i := 43) rfl))) (by decide) (backOf (W := 0) (rm_addB0 l Z a0 hw [] b1 a5 p0 0 0 cs T2.heap n0 Zs2 N hN FN2 (own_in0 q1) S5_2) hZ (hw _ (List.mem_of_getElem? (i := 45) rfl)) (hw _ (List.mem_of_getElem? (i := 32) rfl)) (by decide) (by decide)) zq8a zq8c (g := (mkF m 167 #[.val (.int p0), .val (.int p1), .val (.int p2), .val (.ref a3), .val (.ref a4), .val (.ref a5), .val (.ref a6), .val (.int i7), .val (.int i8), .val (.int i9), .val (.ref b1), .unset, .unset, .unset, .unset] [(.int p0), (.ref a5), (.ref b1)])) rfl (by rw [hml]; rfl) (Steps.refl _) (argsL := [(.ref a5), (.int p0)]) (rest := []) (lenOf pd_2 rfl) rfl (by show 2 * 0 + _ ≤ _; exact Nat.le_of_eq rfl) (hb hby at_167) (fun _ _ => ⟨rfl, rfl, (by decide : 6 + 1 + 1 + 0 ≤ _), (by decide : 16 + 4 + 16 + 0 ≤ _)⟩)
      dsimp only [Pt.U, Pt.locs, Pt.cells, Pt.slots] at X8 l8 y8 z8 st8 hQ8
      subst l8 y8 z8
      obtain ⟨rfl, N8q, Zs8, KN8, FN8⟩ := hQ8
      have N8 := Fr.app N2 N8q
      refine own_goS st8 ?_
      show own_Goes _ _ _ _ _ _ _ T8 (mkF m 170 #[.val (.int p0), .val (.int p1), .val (.int p2), .val (.ref a3), .val (.ref a4), .val (.ref a5), .val (.ref a6), .val (.int i7), .val (.int i8), .val (.int i9), .val (.ref b1), .unset, .unset, .unset, .unset] [(.int (1 : Int32))])
      obtain ⟨ws8, K8, hws8⟩ := KN8
      have S5_8 : own_Str Z T8.heap N a5 cs := S5_2.keep K8 hws8
      have S6_8 : own_Str Z T8.heap N a6 ds := S6_2.keep K8 hws8
      have Od8 : Old Z n0 T8.heap := Od2.keep K8 (fun x q => Nat.le_trans hN (hws8 x q))
      refine own_go (fun _ k => XS.istore X8.here hx rfl (hb hby at_170) rfl (l' := #[.val (.int p0), .val (.int p1), .val (.int p2), .val (.ref a3), .val (.ref a4), .val (.ref a5), .val (.ref a6), .val (.int i7), .val (.int i8), .val (.int i9), .val (.ref b1), .val (.int (1 : Int32)), .unset, .unset, .unset]) rfl k) ?_
      show own_Goes _ _ _ _ _ _ _ T8 (mkF m 172 #[.val (.int p0), .val (.int p1), .val (.int p2), .val (.ref a3), .val (.ref a4), .val (.ref a5), .val (.ref a6), .val (.int i7), .val (.int i8), .val (.int i9), .val (.ref b1), .val (.int (1 : Int32)), .unset, .unset, .unset] [])
      refine own_go (fun _ k => XS.aload X8.here hx rfl (hb hby at_172) rfl rfl k) ?_
      show own_Goes _ _ _ _ _ _ _ T8 (mkF m 174 #[.val (.int p0), .val (.int p1), .val (.int p2), .val (.ref a3), .val (.ref a4), .val (.ref a5), .val (.ref a6), .val (.int i7), .val (.int i8), .val (.int i9), .val (.ref b1), .val (.int (1 : Int32)), .unset, .unset, .unset] [(.ref b1)])
      refine own_go (fun _ k => XS.aload X8.here hx rfl (hb hby at_174) rfl rfl k) ?_
      show own_Goes _ _ _ _ _ _ _ T8 (mkF m 176 #[.val (.int p0), .val (.int p1), .val (.int p2), .val (.ref a3), .val (.ref a4), .val (.ref a5), .val (.ref a6), .val (.int i7), .val (.int i8), .val (.int i9), .val (.ref b1), .val (.int (1 : Int32)), .unset, .unset, .unset] [(.ref a6), (.ref b1)])
      refine own_go (fun _ k => XS.iloadN X8.here hx rfl (hb hby at_176) rfl k) ?_
      show own_Goes _ _ _ _ _ _ _ T8 (mkF m 177 #[.val (.int p0), .val (.int p1), .val (.int p2), .val (.ref a3), .val (.ref a4), .val (.ref a5), .val (.ref a6), .val (.int i7), .val (.int i8), .val (.int i9), .val (.ref b1), .val (.int (1 : Int32)), .unset, .unset, .unset] [(.int p1), (.ref a6), (.ref b1)])
      obtain ⟨cq9, kq9, zq9a, zq9b, zq9c⟩ := isOf hZ rfl FN8.1
      obtain ⟨_, _, ⟨T9, L9, k9, n9⟩, -, X9, ⟨Lc9, hQ9, l9, y9, z9⟩, st9⟩ := X8.virtualBack hx (y := (⟨"dev/resolvent/io/FieldNames", "add", "(Ljava/lang/String;I)Z"⟩ : MethodName)) (z := (⟨"dev/resolvent/io/FieldNames", "add", "(Ljava/lang/String;I)Z"⟩ : MethodName)) hown (mvT hZ (hw _ (List.mem_of_getElem? (i := 41) rfl))) (mvT hZ (hw _ (List.mem_of_getElem? (i := 42) rfl))) (notFace_of_selects (args := #[]) (mvT hZ (hw _ (List.mem_of_getElem? (i := 44) rfl)))) (mvT hZ (hw _ (List.mem_of_getElem? (i := 44) rfl))) (mvT hZ (hw _ (List.mem_of_getElem? (i := 43) rfl))) (by decide) (backOf (W := 0) (rm_addA l Z a0 hw [] b1 a6 p1 0 (1 : Int32) a5 T8.heap n0 Zs8 N hN FN8 (own_in1 q2).1 (own_in1 q2).2) hZ (hw _ (List.mem_of_getElem? (i := 45) rfl)) (hw _ (List.mem_of_getElem? (i := 32) rfl)) (by decide) (by decide)) zq9a zq9c (g := (mkF m 177 #[.val (.int p0), .val (.int p1), .val (.int p2), .val (.ref a3), .val (.ref a4), .val (.ref a5), .val (.ref a6), .val (.int i7), .val (.int i8), .val (.int i9), .val (.ref b1), .val (.int (1 : Int32)), .unset, .unset, .unset] [(.int p1), (.ref a6), (.ref b1)])) rfl (by rw [hml]; rfl) (Steps.refl _) (argsL := [(.ref a6), (.int p1)]) (rest := []) (lenOf pd_2 rfl) rfl (by show 2 * 0 + _ ≤ _; exact Nat.le_of_eq rfl) (hb hby at_177) (fun _ _ => ⟨rfl, rfl, (by decide : 6 + 1 + 1 + 0 + 0 ≤ _), (by decide : 16 + 4 + 16 + 0 + 0 ≤ _)⟩)
      dsimp only [Pt.U, Pt.locs, Pt.cells, Pt.slots] at X9 l9 y9 z9 st9 hQ9
      subst l9 y9 z9
      obtain ⟨rfl, N9q, Zs9, KN9, FN9⟩ := hQ9
      have N9 := Fr.app N8 N9q
      refine own_goS st9 ?_
      show own_Goes _ _ _ _ _ _ _ T9 (mkF m 180 #[.val (.int p0), .val (.int p1), .val (.int p2), .val (.ref a3), .val (.ref a4), .val (.ref a5), .val (.ref a6), .val (.int i7), .val (.int i8), .val (.int i9), .val (.ref b1), .val (.int (1 : Int32)), .unset, .unset, .unset] [(.int (own_bit 0 p1))])
      obtain ⟨ws9, K9, hws9⟩ := KN9
      have S5_9 : own_Str Z T9.heap N a5 cs := S5_8.keep K9 hws9
      have S6_9 : own_Str Z T9.heap N a6 ds := S6_8.keep K9 hws9
      have Od9 : Old Z n0 T9.heap := Od8.keep K9 (fun x q => Nat.le_trans hN (hws9 x q))
      refine own_go (fun _ k => XS.istore X9.here hx rfl (hb hby at_180) rfl (l' := #[.val (.int p0), .val (.int p1), .val (.int p2), .val (.ref a3), .val (.ref a4), .val (.ref a5), .val (.ref a6), .val (.int i7), .val (.int i8), .val (.int i9), .val (.ref b1), .val (.int (1 : Int32)), .val (.int (own_bit 0 p1)), .unset, .unset]) rfl k) ?_
      show own_Goes _ _ _ _ _ _ _ T9 (mkF m 182 #[.val (.int p0), .val (.int p1), .val (.int p2), .val (.ref a3), .val (.ref a4), .val (.ref a5), .val (.ref a6), .val (.int i7), .val (.int i8), .val (.int i9), .val (.ref b1), .val (.int (1 : Int32)), .val (.int (own_bit 0 p1)), .unset, .unset] [])
      refine own_go (fun _ k => XS.aload X9.here hx rfl (hb hby at_182) rfl rfl k) ?_
      show own_Goes _ _ _ _ _ _ _ T9 (mkF m 184 #[.val (.int p0), .val (.int p1), .val (.int p2), .val (.ref a3), .val (.ref a4), .val (.ref a5), .val (.ref a6), .val (.int i7), .val (.int i8), .val (.int i9), .val (.ref b1), .val (.int (1 : Int32)), .val (.int (own_bit 0 p1)), .unset, .unset] [(.ref b1)])
      obtain ⟨cq10, kq10, zq10a, zq10b, zq10c⟩ := isOf hZ rfl FN9.1
      obtain ⟨_, _, ⟨T10, L10, k10, n10⟩, -, X10, ⟨Lc10, hQ10, l10, y10, z10⟩, st10⟩ := X9.virtualBack hx (y := (⟨"dev/resolvent/io/FieldNames", "clear", "()V"⟩ : MethodName)) (z := (⟨"dev/resolvent/io/FieldNames", "clear", "()V"⟩ : MethodName)) hown (mvT hZ (hw _ (List.mem_of_getElem? (i := 48) rfl))) (mvT hZ (hw _ (List.mem_of_getElem? (i := 49) rfl))) (notFace_of_selects (args := #[]) (mvT hZ (hw _ (List.mem_of_getElem? (i := 51) rfl)))) (mvT hZ (hw _ (List.mem_of_getElem? (i := 51) rfl))) (mvT hZ (hw _ (List.mem_of_getElem? (i := 50) rfl))) (by decide) (backOf (W := 0) (rm_clear l Z a0 hw [] b1 (own_or 0 p1) (1 : Int32) a5 T9.heap n0 Zs9 N hN FN9) hZ (hw _ (List.mem_of_getElem? (i := 52) rfl)) (hw _ (List.mem_of_getElem? (i := 32) rfl)) (by decide) (by decide)) zq10a zq10c (g := (mkF m 184 #[.val (.int p0), .val (.int p1), .val (.int p2), .val (.ref a3), .val (.ref a4), .val (.ref a5), .val (.ref a6), .val (.int i7), .val (.int i8), .val (.int i9), .val (.ref b1), .val (.int (1 : Int32)), .val (.int (own_bit 0 p1)), .unset, .unset] [(.ref b1)])) rfl (by rw [hml]; rfl) (Steps.refl _) (argsL := []) (rest := []) (lenOf pd_1 rfl) rfl (by show 2 * 0 + _ ≤ _; exact Nat.le_of_eq rfl) (hb hby at_184) (fun _ _ => ⟨rfl, rfl, (by decide : 6 + 1 + 1 + 0 + 0 + 0 ≤ _), (by decide : 16 + 4 + 16 + 0 + 0 + 0 ≤ _)⟩)
      dsimp only [Pt.U, Pt.locs, Pt.cells, Pt.slots] at X10 l10 y10 z10 st10 hQ10
      subst l10 y10 z10
      obtain ⟨rfl, N10q, Zs10, KN10, FN10⟩ := hQ10
      have N10 := Fr.app N9 N10q
      refine own_goS st10 ?_
      show own_Goes _ _ _ _ _ _ _ T10 (mkF m 187 #[.val (.int p0), .val (.int p1), .val (.int p2), .val (.ref a3), .val (.ref a4), .val (.ref a5), .val (.ref a6), .val (.int i7), .val (.int i8), .val (.int i9), .val (.ref b1), .val (.int (1 : Int32)), .val (.int (own_bit 0 p1)), .unset, .unset] [])
      obtain ⟨ws10, K10, hws10⟩ := KN10
      have S5_10 : own_Str Z T10.heap N a5 cs := S5_9.keep K10 hws10
      have S6_10 : own_Str Z T10.heap N a6 ds := S6_9.keep K10 hws10
      have Od10 : Old Z n0 T10.heap := Od9.keep K10 (fun x q => Nat.le_trans hN (hws10 x q))
      refine own_go (fun _ k => XS.aload X10.here hx rfl (hb hby at_187) rfl rfl k) ?_
      show own_Goes _ _ _ _ _ _ _ T10 (mkF m 189 #[.val (.int p0), .val (.int p1), .val (.int p2), .val (.ref a3), .val (.ref a4), .val (.ref a5), .val (.ref a6), .val (.int i7), .val (.int i8), .val (.int i9), .val (.ref b1), .val (.int (1 : Int32)), .val (.int (own_bit 0 p1)), .unset, .unset] [(.ref b1)])
      refine own_go (fun _ k => XS.aload X10.here hx rfl (hb hby at_189) rfl rfl k) ?_
      show own_Goes _ _ _ _ _ _ _ T10 (mkF m 191 #[.val (.int p0), .val (.int p1), .val (.int p2), .val (.ref a3), .val (.ref a4), .val (.ref a5), .val (.ref a6), .val (.int i7), .val (.int i8), .val (.int i9), .val (.ref b1), .val (.int (1 : Int32)), .val (.int (own_bit 0 p1)), .unset, .unset] [(.ref a5), (.ref b1)])
      refine own_go (fun _ k => XS.iloadN X10.here hx rfl (hb hby at_191) rfl k) ?_
      show own_Goes _ _ _ _ _ _ _ T10 (mkF m 192 #[.val (.int p0), .val (.int p1), .val (.int p2), .val (.ref a3), .val (.ref a4), .val (.ref a5), .val (.ref a6), .val (.int i7), .val (.int i8), .val (.int i9), .val (.ref b1), .val (.int (1 : Int32)), .val (.int (own_bit 0 p1)), .unset, .unset] [(.int p0), (.ref a5), (.ref b1)])
      obtain ⟨cq11, kq11, zq11a, zq11b, zq11c⟩ := isOf hZ rfl FN10.1
      obtain ⟨_, _, ⟨T11, L11, k11, n11⟩, -, X11, ⟨Lc11, hQ11, l11, y11, z11⟩, st11⟩ := X10.virtualBack hx (y := (⟨"dev/resolvent/io/FieldNames", "add", "(Ljava/lang/String;I)Z"⟩ : MethodName)) (z := (⟨"dev/resolvent/io/FieldNames", "add", "(Ljava/lang/String;I)Z"⟩ : MethodName)) hown (mvT hZ (hw _ (List.mem_of_getElem? (i := 41) rfl))) (mvT hZ (hw _ (List.mem_of_getElem? (i := 42) rfl))) (notFace_of_selects (args := #[]) (mvT hZ (hw _ (List.mem_of_getElem? (i := 44) rfl)))) (mvT hZ (hw _ (List.mem_of_getElem? (i := 44) rfl))) (mvT hZ (hw _ (List.mem_of_getElem? (i := 43) rfl))) (by decide) (backOf (W := 0) (rm_addB0 l Z a0 hw [] b1 a5 p0 0 0 cs T10.heap n0 Zs10 N hN FN10 (own_in0 q1) S5_10) hZ (hw _ (List.mem_of_getElem? (i := 45) rfl)) (hw _ (List.mem_of_getElem? (i := 32) rfl)) (by decide) (by decide)) zq11a zq11c (g := (mkF m 192 #[.val (.int p0), .val (.int p1), .val (.int p2), .val (.ref a3), .val (.ref a4), .val (.ref a5), .val (.ref a6), .val (.int i7), .val (.int i8), .val (.int i9), .val (.ref b1), .val (.int (1 : Int32)), .val (.int (own_bit 0 p1)), .unset, .unset] [(.int p0), (.ref a5), (.ref b1)])) rfl (by rw [hml]; rfl) (Steps.refl _) (argsL := [(.ref a5), (.int p0)]) (rest := []) (lenOf pd_2 rfl) rfl (by show 2 * 0 + _ ≤ _; exact Nat.le_of_eq rfl) (hb hby at_192) (fun _ _ => ⟨rfl, rfl, (by decide : 6 + 1 + 1 + 0 + 0 + 0 + 0 ≤ _), (by decide : 16 + 4 + 16 + 0 + 0 + 0 + 0 ≤ _)⟩)
      dsimp only [Pt.U, Pt.locs, Pt.cells, Pt.slots] at X11 l11 y11 z11 st11 hQ11
      subst l11 y11 z11
      obtain ⟨rfl, N11q, Zs11, KN11, FN11⟩ := hQ11
      have N11 := Fr.app N10 N11q
      refine own_goS st11 ?_
      show own_Goes _ _ _ _ _ _ _ T11 (mkF m 195 #[.val (.int p0), .val (.int p1), .val (.int p2), .val (.ref a3), .val (.ref a4), .val (.ref a5), .val (.ref a6), .val (.int i7), .val (.int i8), .val (.int i9), .val (.ref b1), .val (.int (1 : Int32)), .val (.int (own_bit 0 p1)), .unset, .unset] [(.int (1 : Int32))])
      obtain ⟨ws11, K11, hws11⟩ := KN11
      have S5_11 : own_Str Z T11.heap N a5 cs := S5_10.keep K11 hws11
      have S6_11 : own_Str Z T11.heap N a6 ds := S6_10.keep K11 hws11
      have Od11 : Old Z n0 T11.heap := Od10.keep K11 (fun x q => Nat.le_trans hN (hws11 x q))
      refine own_go (fun _ k => XS.istore X11.here hx rfl (hb hby at_195) rfl (l' := #[.val (.int p0), .val (.int p1), .val (.int p2), .val (.ref a3), .val (.ref a4), .val (.ref a5), .val (.ref a6), .val (.int i7), .val (.int i8), .val (.int i9), .val (.ref b1), .val (.int (1 : Int32)), .val (.int (own_bit 0 p1)), .val (.int (1 : Int32)), .unset]) rfl k) ?_
      show own_Goes _ _ _ _ _ _ _ T11 (mkF m 197 #[.val (.int p0), .val (.int p1), .val (.int p2), .val (.ref a3), .val (.ref a4), .val (.ref a5), .val (.ref a6), .val (.int i7), .val (.int i8), .val (.int i9), .val (.ref b1), .val (.int (1 : Int32)), .val (.int (own_bit 0 p1)), .val (.int (1 : Int32)), .unset] [])
      refine own_go (fun _ k => XS.aload X11.here hx rfl (hb hby at_197) rfl rfl k) ?_
      show own_Goes _ _ _ _ _ _ _ T11 (mkF m 199 #[.val (.int p0), .val (.int p1), .val (.int p2), .val (.ref a3), .val (.ref a4), .val (.ref a5), .val (.ref a6), .val (.int i7), .val (.int i8), .val (.int i9), .val (.ref b1), .val (.int (1 : Int32)), .val (.int (own_bit 0 p1)), .val (.int (1 : Int32)), .unset] [(.ref b1)])
      refine own_go (fun _ k => XS.aload X11.here hx rfl (hb hby at_199) rfl rfl k) ?_
      show own_Goes _ _ _ _ _ _ _ T11 (mkF m 201 #[.val (.int p0), .val (.int p1), .val (.int p2), .val (.ref a3), .val (.ref a4), .val (.ref a5), .val (.ref a6), .val (.int i7), .val (.int i8), .val (.int i9), .val (.ref b1), .val (.int (1 : Int32)), .val (.int (own_bit 0 p1)), .val (.int (1 : Int32)), .unset] [(.ref a6), (.ref b1)])
      refine own_go (fun _ k => XS.iloadN X11.here hx rfl (hb hby at_201) rfl k) ?_
      show own_Goes _ _ _ _ _ _ _ T11 (mkF m 202 #[.val (.int p0), .val (.int p1), .val (.int p2), .val (.ref a3), .val (.ref a4), .val (.ref a5), .val (.ref a6), .val (.int i7), .val (.int i8), .val (.int i9), .val (.ref b1), .val (.int (1 : Int32)), .val (.int (own_bit 0 p1)), .val (.int (1 : Int32)), .unset] [(.int p1), (.ref a6), (.ref b1)])
      obtain ⟨cq12, kq12, zq12a, zq12b, zq12c⟩ := isOf hZ rfl FN11.1
      obtain ⟨_, _, ⟨T12, L12, k12, n12⟩, -, X12, ⟨Lc12, hQ12, l12, y12, z12⟩, st12⟩ := X11.virtualBack hx (y := (⟨"dev/resolvent/io/FieldNames", "add", "(Ljava/lang/String;I)Z"⟩ : MethodName)) (z := (⟨"dev/resolvent/io/FieldNames", "add", "(Ljava/lang/String;I)Z"⟩ : MethodName)) hown (mvT hZ (hw _ (List.mem_of_getElem? (i := 41) rfl))) (mvT hZ (hw _ (List.mem_of_getElem? (i := 42) rfl))) (notFace_of_selects (args := #[]) (mvT hZ (hw _ (List.mem_of_getElem? (i := 44) rfl)))) (mvT hZ (hw _ (List.mem_of_getElem? (i := 44) rfl))) (mvT hZ (hw _ (List.mem_of_getElem? (i := 43) rfl))) (by decide) (backOf (W := 0) (rm_addA l Z a0 hw [] b1 a6 p1 0 (1 : Int32) a5 T11.heap n0 Zs11 N hN FN11 (own_in1 q2).1 (own_in1 q2).2) hZ (hw _ (List.mem_of_getElem? (i := 45) rfl)) (hw _ (List.mem_of_getElem? (i := 32) rfl)) (by decide) (by decide)) zq12a zq12c (g := (mkF m 202 #[.val (.int p0), .val (.int p1), .val (.int p2), .val (.ref a3), .val (.ref a4), .val (.ref a5), .val (.ref a6), .val (.int i7), .val (.int i8), .val (.int i9), .val (.ref b1), .val (.int (1 : Int32)), .val (.int (own_bit 0 p1)), .val (.int (1 : Int32)), .unset] [(.int p1), (.ref a6), (.ref b1)])) rfl (by rw [hml]; rfl) (Steps.refl _) (argsL := [(.ref a6), (.int p1)]) (rest := []) (lenOf pd_2 rfl) rfl (by show 2 * 0 + _ ≤ _; exact Nat.le_of_eq rfl) (hb hby at_202) (fun _ _ => ⟨rfl, rfl, (by decide : 6 + 1 + 1 + 0 + 0 + 0 + 0 + 0 ≤ _), (by decide : 16 + 4 + 16 + 0 + 0 + 0 + 0 + 0 ≤ _)⟩)
      dsimp only [Pt.U, Pt.locs, Pt.cells, Pt.slots] at X12 l12 y12 z12 st12 hQ12
      subst l12 y12 z12
      obtain ⟨rfl, N12q, Zs12, KN12, FN12⟩ := hQ12
      have N12 := Fr.app N11 N12q
      refine own_goS st12 ?_
      show own_Goes _ _ _ _ _ _ _ T12 (mkF m 205 #[.val (.int p0), .val (.int p1), .val (.int p2), .val (.ref a3), .val (.ref a4), .val (.ref a5), .val (.ref a6), .val (.int i7), .val (.int i8), .val (.int i9), .val (.ref b1), .val (.int (1 : Int32)), .val (.int (own_bit 0 p1)), .val (.int (1 : Int32)), .unset] [(.int (own_bit 0 p1))])
      obtain ⟨ws12, K12, hws12⟩ := KN12
      have S5_12 : own_Str Z T12.heap N a5 cs := S5_11.keep K12 hws12
      have S6_12 : own_Str Z T12.heap N a6 ds := S6_11.keep K12 hws12
      have Od12 : Old Z n0 T12.heap := Od11.keep K12 (fun x q => Nat.le_trans hN (hws12 x q))
      refine own_go (fun _ k => XS.istore X12.here hx rfl (hb hby at_205) rfl (l' := #[.val (.int p0), .val (.int p1), .val (.int p2), .val (.ref a3), .val (.ref a4), .val (.ref a5), .val (.ref a6), .val (.int i7), .val (.int i8), .val (.int i9), .val (.ref b1), .val (.int (1 : Int32)), .val (.int (own_bit 0 p1)), .val (.int (1 : Int32)), .val (.int (own_bit 0 p1))]) rfl k) ?_
      show own_Goes _ _ _ _ _ _ _ T12 (mkF m 207 #[.val (.int p0), .val (.int p1), .val (.int p2), .val (.ref a3), .val (.ref a4), .val (.ref a5), .val (.ref a6), .val (.int i7), .val (.int i8), .val (.int i9), .val (.ref b1), .val (.int (1 : Int32)), .val (.int (own_bit 0 p1)), .val (.int (1 : Int32)), .val (.int (own_bit 0 p1))] [])
      refine own_go (fun _ k => XS.iload X12.here hx rfl (hb hby at_207) rfl k) ?_
      show own_Goes _ _ _ _ _ _ _ T12 (mkF m 209 #[.val (.int p0), .val (.int p1), .val (.int p2), .val (.ref a3), .val (.ref a4), .val (.ref a5), .val (.ref a6), .val (.int i7), .val (.int i8), .val (.int i9), .val (.ref b1), .val (.int (1 : Int32)), .val (.int (own_bit 0 p1)), .val (.int (1 : Int32)), .val (.int (own_bit 0 p1))] [(.int (1 : Int32))])
      refine own_go (fun _ k => XS.ifNo X12.here hx rfl (hb hby at_209) rfl ((if0 _ _).trans (feq (by decide : ¬ ((1 : Int32) = (0 : Int32)))).1) k) ?_
      show own_Goes _ _ _ _ _ _ _ T12 (mkF m 212 #[.val (.int p0), .val (.int p1), .val (.int p2), .val (.ref a3), .val (.ref a4), .val (.ref a5), .val (.ref a6), .val (.int i7), .val (.int i8), .val (.int i9), .val (.ref b1), .val (.int (1 : Int32)), .val (.int (own_bit 0 p1)), .val (.int (1 : Int32)), .val (.int (own_bit 0 p1))] [])
      refine own_go (fun _ k => XS.iload X12.here hx rfl (hb hby at_212) rfl k) ?_
      show own_Goes _ _ _ _ _ _ _ T12 (mkF m 214 #[.val (.int p0), .val (.int p1), .val (.int p2), .val (.ref a3), .val (.ref a4), .val (.ref a5), .val (.ref a6), .val (.int i7), .val (.int i8), .val (.int i9), .val (.ref b1), .val (.int (1 : Int32)), .val (.int (own_bit 0 p1)), .val (.int (1 : Int32)), .val (.int (own_bit 0 p1))] [(.int (own_bit 0 p1))])
      refine own_go (fun _ k => XS.iload X12.here hx rfl (hb hby at_214) rfl k) ?_
      show own_Goes _ _ _ _ _ _ _ T12 (mkF m 216 #[.val (.int p0), .val (.int p1), .val (.int p2), .val (.ref a3), .val (.ref a4), .val (.ref a5), .val (.ref a6), .val (.int i7), .val (.int i8), .val (.int i9), .val (.ref b1), .val (.int (1 : Int32)), .val (.int (own_bit 0 p1)), .val (.int (1 : Int32)), .val (.int (own_bit 0 p1))] [(.int i9), (.int (own_bit 0 p1))])
      refine own_go (fun _ k => XS.icmpNo X12.here hx rfl (hb hby at_216) rfl (teq hr2).2 k) ?_
      show own_Goes _ _ _ _ _ _ _ T12 (mkF m 219 #[.val (.int p0), .val (.int p1), .val (.int p2), .val (.ref a3), .val (.ref a4), .val (.ref a5), .val (.ref a6), .val (.int i7), .val (.int i8), .val (.int i9), .val (.ref b1), .val (.int (1 : Int32)), .val (.int (own_bit 0 p1)), .val (.int (1 : Int32)), .val (.int (own_bit 0 p1))] [])
      refine own_go (fun _ k => XS.iload X12.here hx rfl (hb hby at_219) rfl k) ?_
      show own_Goes _ _ _ _ _ _ _ T12 (mkF m 221 #[.val (.int p0), .val (.int p1), .val (.int p2), .val (.ref a3), .val (.ref a4), .val (.ref a5), .val (.ref a6), .val (.int i7), .val (.int i8), .val (.int i9), .val (.ref b1), .val (.int (1 : Int32)), .val (.int (own_bit 0 p1)), .val (.int (1 : Int32)), .val (.int (own_bit 0 p1))] [(.int (1 : Int32))])
      refine own_go (fun _ k => XS.ifNo X12.here hx rfl (hb hby at_221) rfl ((if0 _ _).trans (feq (by decide : ¬ ((1 : Int32) = (0 : Int32)))).1) k) ?_
      show own_Goes _ _ _ _ _ _ _ T12 (mkF m 224 #[.val (.int p0), .val (.int p1), .val (.int p2), .val (.ref a3), .val (.ref a4), .val (.ref a5), .val (.ref a6), .val (.int i7), .val (.int i8), .val (.int i9), .val (.ref b1), .val (.int (1 : Int32)), .val (.int (own_bit 0 p1)), .val (.int (1 : Int32)), .val (.int (own_bit 0 p1))] [])
      refine own_go (fun _ k => XS.iload X12.here hx rfl (hb hby at_224) rfl k) ?_
      show own_Goes _ _ _ _ _ _ _ T12 (mkF m 226 #[.val (.int p0), .val (.int p1), .val (.int p2), .val (.ref a3), .val (.ref a4), .val (.ref a5), .val (.ref a6), .val (.int i7), .val (.int i8), .val (.int i9), .val (.ref b1), .val (.int (1 : Int32)), .val (.int (own_bit 0 p1)), .val (.int (1 : Int32)), .val (.int (own_bit 0 p1))] [(.int (own_bit 0 p1))])
      refine own_go (fun _ k => XS.iload X12.here hx rfl (hb hby at_226) rfl k) ?_
      show own_Goes _ _ _ _ _ _ _ T12 (mkF m 228 #[.val (.int p0), .val (.int p1), .val (.int p2), .val (.ref a3), .val (.ref a4), .val (.ref a5), .val (.ref a6), .val (.int i7), .val (.int i8), .val (.int i9), .val (.ref b1), .val (.int (1 : Int32)), .val (.int (own_bit 0 p1)), .val (.int (1 : Int32)), .val (.int (own_bit 0 p1))] [(.int i9), (.int (own_bit 0 p1))])
      refine own_go (fun _ k => XS.icmpNo X12.here hx rfl (hb hby at_228) rfl (teq hr2).2 k) ?_
      show own_Goes _ _ _ _ _ _ _ T12 (mkF m 231 #[.val (.int p0), .val (.int p1), .val (.int p2), .val (.ref a3), .val (.ref a4), .val (.ref a5), .val (.ref a6), .val (.int i7), .val (.int i8), .val (.int i9), .val (.ref b1), .val (.int (1 : Int32)), .val (.int (own_bit 0 p1)), .val (.int (1 : Int32)), .val (.int (own_bit 0 p1))] [])
      refine own_go (fun _ k => XS.iconst X12.here hx rfl (hb hby at_231) k) ?_
      show own_Goes _ _ _ _ _ _ _ T12 (mkF m 232 #[.val (.int p0), .val (.int p1), .val (.int p2), .val (.ref a3), .val (.ref a4), .val (.ref a5), .val (.ref a6), .val (.int i7), .val (.int i8), .val (.int i9), .val (.ref b1), .val (.int (1 : Int32)), .val (.int (own_bit 0 p1)), .val (.int (1 : Int32)), .val (.int (own_bit 0 p1))] [(.int (1 : Int32))])
      refine own_go (fun _ k => XS.goto X12.here hx rfl (pc0 := 232) (pc' := 236) rfl (hb hby at_232) (by decide) (by decide) k) ?_
      show own_Goes _ _ _ _ _ _ _ T12 (mkF m 236 #[.val (.int p0), .val (.int p1), .val (.int p2), .val (.ref a3), .val (.ref a4), .val (.ref a5), .val (.ref a6), .val (.int i7), .val (.int i8), .val (.int i9), .val (.ref b1), .val (.int (1 : Int32)), .val (.int (own_bit 0 p1)), .val (.int (1 : Int32)), .val (.int (own_bit 0 p1))] [(.int (1 : Int32))])
      exact own_retN X12 hx (t := .boolean) hlk hret (by simp) (hb hby at_236) (by decide) (by decide) ⟨rfl, N12⟩
  · by_cases q2 : own_in p1 = 0
    · have hr2 : (1 : Int32) = i9 := (own_s10 q1 q2).trans h9
      obtain ⟨cq13, kq13, zq13a, zq13b, zq13c⟩ := isOf hZ rfl FN2.1
      obtain ⟨_, _, ⟨T13, L13, k13, n13⟩, -, X13, ⟨Lc13, hQ13, l13, y13, z13⟩, st13⟩ := X2.virtualBack hx (y := (⟨"dev/resolvent/io/FieldNames", "add", "(Ljava/lang/String;I)Z"⟩ : MethodName)) (z := (⟨"dev/resolvent/io/FieldNames", "add", "(Ljava/lang/String;I)Z"⟩ : MethodName)) hown (mvT hZ (hw _ (List.mem_of_getElem? (i := 41) rfl))) (mvT hZ (hw _ (List.mem_of_getElem? (i := 42) rfl))) (notFace_of_selects (args := #[]) (mvT hZ (hw _ (List.mem_of_getElem? (i := 44) rfl)))) (mvT hZ (hw _ (List.mem_of_getElem? (i := 44) rfl))) (mvT hZ (hw _ (List.mem_of_getElem? (i := 43) rfl))) (by decide) (backOf (W := 0) (rm_addA l Z a0 hw [] b1 a5 p0 0 (0 : Int32) 0 T2.heap n0 Zs2 N hN FN2 (own_in1 q1).1 (own_in1 q1).2) hZ (hw _ (List.mem_of_getElem? (i := 45) rfl)) (hw _ (List.mem_of_getElem? (i := 32) rfl)) (by decide) (by decide)) zq13a zq13c (g := (mkF m 167 #[.val (.int p0), .val (.int p1), .val (.int p2), .val (.ref a3), .val (.ref a4), .val (.ref a5), .val (.ref a6), .val (.int i7), .val (.int i8), .val (.int i9), .val (.ref b1), .unset, .unset, .unset, .unset] [(.int p0), (.ref a5), (.ref b1)])) rfl (by rw [hml]; rfl) (Steps.refl _) (argsL := [(.ref a5), (.int p0)]) (rest := []) (lenOf pd_2 rfl) rfl (by show 2 * 0 + _ ≤ _; exact Nat.le_of_eq rfl) (hb hby at_167) (fun _ _ => ⟨rfl, rfl, (by decide : 6 + 1 + 1 + 0 ≤ _), (by decide : 16 + 4 + 16 + 0 ≤ _)⟩)
      dsimp only [Pt.U, Pt.locs, Pt.cells, Pt.slots] at X13 l13 y13 z13 st13 hQ13
      subst l13 y13 z13
      obtain ⟨rfl, N13q, Zs13, KN13, FN13⟩ := hQ13
      have N13 := Fr.app N2 N13q
      refine own_goS st13 ?_
      show own_Goes _ _ _ _ _ _ _ T13 (mkF m 170 #[.val (.int p0), .val (.int p1), .val (.int p2), .val (.ref a3), .val (.ref a4), .val (.ref a5), .val (.ref a6), .val (.int i7), .val (.int i8), .val (.int i9), .val (.ref b1), .unset, .unset, .unset, .unset] [(.int (own_bit 0 p0))])
      obtain ⟨ws13, K13, hws13⟩ := KN13
      have S5_13 : own_Str Z T13.heap N a5 cs := S5_2.keep K13 hws13
      have S6_13 : own_Str Z T13.heap N a6 ds := S6_2.keep K13 hws13
      have Od13 : Old Z n0 T13.heap := Od2.keep K13 (fun x q => Nat.le_trans hN (hws13 x q))
      refine own_go (fun _ k => XS.istore X13.here hx rfl (hb hby at_170) rfl (l' := #[.val (.int p0), .val (.int p1), .val (.int p2), .val (.ref a3), .val (.ref a4), .val (.ref a5), .val (.ref a6), .val (.int i7), .val (.int i8), .val (.int i9), .val (.ref b1), .val (.int (own_bit 0 p0)), .unset, .unset, .unset]) rfl k) ?_
      show own_Goes _ _ _ _ _ _ _ T13 (mkF m 172 #[.val (.int p0), .val (.int p1), .val (.int p2), .val (.ref a3), .val (.ref a4), .val (.ref a5), .val (.ref a6), .val (.int i7), .val (.int i8), .val (.int i9), .val (.ref b1), .val (.int (own_bit 0 p0)), .unset, .unset, .unset] [])
      refine own_go (fun _ k => XS.aload X13.here hx rfl (hb hby at_172) rfl rfl k) ?_
      show own_Goes _ _ _ _ _ _ _ T13 (mkF m 174 #[.val (.int p0), .val (.int p1), .val (.int p2), .val (.ref a3), .val (.ref a4), .val (.ref a5), .val (.ref a6), .val (.int i7), .val (.int i8), .val (.int i9), .val (.ref b1), .val (.int (own_bit 0 p0)), .unset, .unset, .unset] [(.ref b1)])
      refine own_go (fun _ k => XS.aload X13.here hx rfl (hb hby at_174) rfl rfl k) ?_
      show own_Goes _ _ _ _ _ _ _ T13 (mkF m 176 #[.val (.int p0), .val (.int p1), .val (.int p2), .val (.ref a3), .val (.ref a4), .val (.ref a5), .val (.ref a6), .val (.int i7), .val (.int i8), .val (.int i9), .val (.ref b1), .val (.int (own_bit 0 p0)), .unset, .unset, .unset] [(.ref a6), (.ref b1)])
      refine own_go (fun _ k => XS.iloadN X13.here hx rfl (hb hby at_176) rfl k) ?_
      show own_Goes _ _ _ _ _ _ _ T13 (mkF m 177 #[.val (.int p0), .val (.int p1), .val (.int p2), .val (.ref a3), .val (.ref a4), .val (.ref a5), .val (.ref a6), .val (.int i7), .val (.int i8), .val (.int i9), .val (.ref b1), .val (.int (own_bit 0 p0)), .unset, .unset, .unset] [(.int p1), (.ref a6), (.ref b1)])
      obtain ⟨cq14, kq14, zq14a, zq14b, zq14c⟩ := isOf hZ rfl FN13.1
      obtain ⟨_, _, ⟨T14, L14, k14, n14⟩, -, X14, ⟨Lc14, hQ14, l14, y14, z14⟩, st14⟩ := X13.virtualBack hx (y := (⟨"dev/resolvent/io/FieldNames", "add", "(Ljava/lang/String;I)Z"⟩ : MethodName)) (z := (⟨"dev/resolvent/io/FieldNames", "add", "(Ljava/lang/String;I)Z"⟩ : MethodName)) hown (mvT hZ (hw _ (List.mem_of_getElem? (i := 41) rfl))) (mvT hZ (hw _ (List.mem_of_getElem? (i := 42) rfl))) (notFace_of_selects (args := #[]) (mvT hZ (hw _ (List.mem_of_getElem? (i := 44) rfl)))) (mvT hZ (hw _ (List.mem_of_getElem? (i := 44) rfl))) (mvT hZ (hw _ (List.mem_of_getElem? (i := 43) rfl))) (by decide) (backOf (W := 0) (rm_addB0 l Z a0 hw [] b1 a6 p1 (own_or 0 p0) 0 ds T13.heap n0 Zs13 N hN FN13 (own_in0 q2) S6_13) hZ (hw _ (List.mem_of_getElem? (i := 45) rfl)) (hw _ (List.mem_of_getElem? (i := 32) rfl)) (by decide) (by decide)) zq14a zq14c (g := (mkF m 177 #[.val (.int p0), .val (.int p1), .val (.int p2), .val (.ref a3), .val (.ref a4), .val (.ref a5), .val (.ref a6), .val (.int i7), .val (.int i8), .val (.int i9), .val (.ref b1), .val (.int (own_bit 0 p0)), .unset, .unset, .unset] [(.int p1), (.ref a6), (.ref b1)])) rfl (by rw [hml]; rfl) (Steps.refl _) (argsL := [(.ref a6), (.int p1)]) (rest := []) (lenOf pd_2 rfl) rfl (by show 2 * 0 + _ ≤ _; exact Nat.le_of_eq rfl) (hb hby at_177) (fun _ _ => ⟨rfl, rfl, (by decide : 6 + 1 + 1 + 0 + 0 ≤ _), (by decide : 16 + 4 + 16 + 0 + 0 ≤ _)⟩)
      dsimp only [Pt.U, Pt.locs, Pt.cells, Pt.slots] at X14 l14 y14 z14 st14 hQ14
      subst l14 y14 z14
      obtain ⟨rfl, N14q, Zs14, KN14, FN14⟩ := hQ14
      have N14 := Fr.app N13 N14q
      refine own_goS st14 ?_
      show own_Goes _ _ _ _ _ _ _ T14 (mkF m 180 #[.val (.int p0), .val (.int p1), .val (.int p2), .val (.ref a3), .val (.ref a4), .val (.ref a5), .val (.ref a6), .val (.int i7), .val (.int i8), .val (.int i9), .val (.ref b1), .val (.int (own_bit 0 p0)), .unset, .unset, .unset] [(.int (1 : Int32))])
      obtain ⟨ws14, K14, hws14⟩ := KN14
      have S5_14 : own_Str Z T14.heap N a5 cs := S5_13.keep K14 hws14
      have S6_14 : own_Str Z T14.heap N a6 ds := S6_13.keep K14 hws14
      have Od14 : Old Z n0 T14.heap := Od13.keep K14 (fun x q => Nat.le_trans hN (hws14 x q))
      refine own_go (fun _ k => XS.istore X14.here hx rfl (hb hby at_180) rfl (l' := #[.val (.int p0), .val (.int p1), .val (.int p2), .val (.ref a3), .val (.ref a4), .val (.ref a5), .val (.ref a6), .val (.int i7), .val (.int i8), .val (.int i9), .val (.ref b1), .val (.int (own_bit 0 p0)), .val (.int (1 : Int32)), .unset, .unset]) rfl k) ?_
      show own_Goes _ _ _ _ _ _ _ T14 (mkF m 182 #[.val (.int p0), .val (.int p1), .val (.int p2), .val (.ref a3), .val (.ref a4), .val (.ref a5), .val (.ref a6), .val (.int i7), .val (.int i8), .val (.int i9), .val (.ref b1), .val (.int (own_bit 0 p0)), .val (.int (1 : Int32)), .unset, .unset] [])
      refine own_go (fun _ k => XS.aload X14.here hx rfl (hb hby at_182) rfl rfl k) ?_
      show own_Goes _ _ _ _ _ _ _ T14 (mkF m 184 #[.val (.int p0), .val (.int p1), .val (.int p2), .val (.ref a3), .val (.ref a4), .val (.ref a5), .val (.ref a6), .val (.int i7), .val (.int i8), .val (.int i9), .val (.ref b1), .val (.int (own_bit 0 p0)), .val (.int (1 : Int32)), .unset, .unset] [(.ref b1)])
      obtain ⟨cq15, kq15, zq15a, zq15b, zq15c⟩ := isOf hZ rfl FN14.1
      obtain ⟨_, _, ⟨T15, L15, k15, n15⟩, -, X15, ⟨Lc15, hQ15, l15, y15, z15⟩, st15⟩ := X14.virtualBack hx (y := (⟨"dev/resolvent/io/FieldNames", "clear", "()V"⟩ : MethodName)) (z := (⟨"dev/resolvent/io/FieldNames", "clear", "()V"⟩ : MethodName)) hown (mvT hZ (hw _ (List.mem_of_getElem? (i := 48) rfl))) (mvT hZ (hw _ (List.mem_of_getElem? (i := 49) rfl))) (notFace_of_selects (args := #[]) (mvT hZ (hw _ (List.mem_of_getElem? (i := 51) rfl)))) (mvT hZ (hw _ (List.mem_of_getElem? (i := 51) rfl))) (mvT hZ (hw _ (List.mem_of_getElem? (i := 50) rfl))) (by decide) (backOf (W := 0) (rm_clear l Z a0 hw [] b1 (own_or 0 p0) (1 : Int32) a6 T14.heap n0 Zs14 N hN FN14) hZ (hw _ (List.mem_of_getElem? (i := 52) rfl)) (hw _ (List.mem_of_getElem? (i := 32) rfl)) (by decide) (by decide)) zq15a zq15c (g := (mkF m 184 #[.val (.int p0), .val (.int p1), .val (.int p2), .val (.ref a3), .val (.ref a4), .val (.ref a5), .val (.ref a6), .val (.int i7), .val (.int i8), .val (.int i9), .val (.ref b1), .val (.int (own_bit 0 p0)), .val (.int (1 : Int32)), .unset, .unset] [(.ref b1)])) rfl (by rw [hml]; rfl) (Steps.refl _) (argsL := []) (rest := []) (lenOf pd_1 rfl) rfl (by show 2 * 0 + _ ≤ _; exact Nat.le_of_eq rfl) (hb hby at_184) (fun _ _ => ⟨rfl, rfl, (by decide : 6 + 1 + 1 + 0 + 0 + 0 ≤ _), (by decide : 16 + 4 + 16 + 0 + 0 + 0 ≤ _)⟩)
      dsimp only [Pt.U, Pt.locs, Pt.cells, Pt.slots] at X15 l15 y15 z15 st15 hQ15
      subst l15 y15 z15
      obtain ⟨rfl, N15q, Zs15, KN15, FN15⟩ := hQ15
      have N15 := Fr.app N14 N15q
      refine own_goS st15 ?_
      show own_Goes _ _ _ _ _ _ _ T15 (mkF m 187 #[.val (.int p0), .val (.int p1), .val (.int p2), .val (.ref a3), .val (.ref a4), .val (.ref a5), .val (.ref a6), .val (.int i7), .val (.int i8), .val (.int i9), .val (.ref b1), .val (.int (own_bit 0 p0)), .val (.int (1 : Int32)), .unset, .unset] [])
      obtain ⟨ws15, K15, hws15⟩ := KN15
      have S5_15 : own_Str Z T15.heap N a5 cs := S5_14.keep K15 hws15
      have S6_15 : own_Str Z T15.heap N a6 ds := S6_14.keep K15 hws15
      have Od15 : Old Z n0 T15.heap := Od14.keep K15 (fun x q => Nat.le_trans hN (hws15 x q))
      refine own_go (fun _ k => XS.aload X15.here hx rfl (hb hby at_187) rfl rfl k) ?_
      show own_Goes _ _ _ _ _ _ _ T15 (mkF m 189 #[.val (.int p0), .val (.int p1), .val (.int p2), .val (.ref a3), .val (.ref a4), .val (.ref a5), .val (.ref a6), .val (.int i7), .val (.int i8), .val (.int i9), .val (.ref b1), .val (.int (own_bit 0 p0)), .val (.int (1 : Int32)), .unset, .unset] [(.ref b1)])
      refine own_go (fun _ k => XS.aload X15.here hx rfl (hb hby at_189) rfl rfl k) ?_
      show own_Goes _ _ _ _ _ _ _ T15 (mkF m 191 #[.val (.int p0), .val (.int p1), .val (.int p2), .val (.ref a3), .val (.ref a4), .val (.ref a5), .val (.ref a6), .val (.int i7), .val (.int i8), .val (.int i9), .val (.ref b1), .val (.int (own_bit 0 p0)), .val (.int (1 : Int32)), .unset, .unset] [(.ref a5), (.ref b1)])
      refine own_go (fun _ k => XS.iloadN X15.here hx rfl (hb hby at_191) rfl k) ?_
      show own_Goes _ _ _ _ _ _ _ T15 (mkF m 192 #[.val (.int p0), .val (.int p1), .val (.int p2), .val (.ref a3), .val (.ref a4), .val (.ref a5), .val (.ref a6), .val (.int i7), .val (.int i8), .val (.int i9), .val (.ref b1), .val (.int (own_bit 0 p0)), .val (.int (1 : Int32)), .unset, .unset] [(.int p0), (.ref a5), (.ref b1)])
      obtain ⟨cq16, kq16, zq16a, zq16b, zq16c⟩ := isOf hZ rfl FN15.1
      obtain ⟨_, _, ⟨T16, L16, k16, n16⟩, -, X16, ⟨Lc16, hQ16, l16, y16, z16⟩, st16⟩ := X15.virtualBack hx (y := (⟨"dev/resolvent/io/FieldNames", "add", "(Ljava/lang/String;I)Z"⟩ : MethodName)) (z := (⟨"dev/resolvent/io/FieldNames", "add", "(Ljava/lang/String;I)Z"⟩ : MethodName)) hown (mvT hZ (hw _ (List.mem_of_getElem? (i := 41) rfl))) (mvT hZ (hw _ (List.mem_of_getElem? (i := 42) rfl))) (notFace_of_selects (args := #[]) (mvT hZ (hw _ (List.mem_of_getElem? (i := 44) rfl)))) (mvT hZ (hw _ (List.mem_of_getElem? (i := 44) rfl))) (mvT hZ (hw _ (List.mem_of_getElem? (i := 43) rfl))) (by decide) (backOf (W := 0) (rm_addA l Z a0 hw [] b1 a5 p0 0 (0 : Int32) 0 T15.heap n0 Zs15 N hN FN15 (own_in1 q1).1 (own_in1 q1).2) hZ (hw _ (List.mem_of_getElem? (i := 45) rfl)) (hw _ (List.mem_of_getElem? (i := 32) rfl)) (by decide) (by decide)) zq16a zq16c (g := (mkF m 192 #[.val (.int p0), .val (.int p1), .val (.int p2), .val (.ref a3), .val (.ref a4), .val (.ref a5), .val (.ref a6), .val (.int i7), .val (.int i8), .val (.int i9), .val (.ref b1), .val (.int (own_bit 0 p0)), .val (.int (1 : Int32)), .unset, .unset] [(.int p0), (.ref a5), (.ref b1)])) rfl (by rw [hml]; rfl) (Steps.refl _) (argsL := [(.ref a5), (.int p0)]) (rest := []) (lenOf pd_2 rfl) rfl (by show 2 * 0 + _ ≤ _; exact Nat.le_of_eq rfl) (hb hby at_192) (fun _ _ => ⟨rfl, rfl, (by decide : 6 + 1 + 1 + 0 + 0 + 0 + 0 ≤ _), (by decide : 16 + 4 + 16 + 0 + 0 + 0 + 0 ≤ _)⟩)
      dsimp only [Pt.U, Pt.locs, Pt.cells, Pt.slots] at X16 l16 y16 z16 st16 hQ16
      subst l16 y16 z16
      obtain ⟨rfl, N16q, Zs16, KN16, FN16⟩ := hQ16
      have N16 := Fr.app N15 N16q
      refine own_goS st16 ?_
      show own_Goes _ _ _ _ _ _ _ T16 (mkF m 195 #[.val (.int p0), .val (.int p1), .val (.int p2), .val (.ref a3), .val (.ref a4), .val (.ref a5), .val (.ref a6), .val (.int i7), .val (.int i8), .val (.int i9), .val (.ref b1), .val (.int (own_bit 0 p0)), .val (.int (1 : Int32)), .unset, .unset] [(.int (own_bit 0 p0))])
      obtain ⟨ws16, K16, hws16⟩ := KN16
      have S5_16 : own_Str Z T16.heap N a5 cs := S5_15.keep K16 hws16
      have S6_16 : own_Str Z T16.heap N a6 ds := S6_15.keep K16 hws16
      have Od16 : Old Z n0 T16.heap := Od15.keep K16 (fun x q => Nat.le_trans hN (hws16 x q))
      refine own_go (fun _ k => XS.istore X16.here hx rfl (hb hby at_195) rfl (l' := #[.val (.int p0), .val (.int p1), .val (.int p2), .val (.ref a3), .val (.ref a4), .val (.ref a5), .val (.ref a6), .val (.int i7), .val (.int i8), .val (.int i9), .val (.ref b1), .val (.int (own_bit 0 p0)), .val (.int (1 : Int32)), .val (.int (own_bit 0 p0)), .unset]) rfl k) ?_
      show own_Goes _ _ _ _ _ _ _ T16 (mkF m 197 #[.val (.int p0), .val (.int p1), .val (.int p2), .val (.ref a3), .val (.ref a4), .val (.ref a5), .val (.ref a6), .val (.int i7), .val (.int i8), .val (.int i9), .val (.ref b1), .val (.int (own_bit 0 p0)), .val (.int (1 : Int32)), .val (.int (own_bit 0 p0)), .unset] [])
      refine own_go (fun _ k => XS.aload X16.here hx rfl (hb hby at_197) rfl rfl k) ?_
      show own_Goes _ _ _ _ _ _ _ T16 (mkF m 199 #[.val (.int p0), .val (.int p1), .val (.int p2), .val (.ref a3), .val (.ref a4), .val (.ref a5), .val (.ref a6), .val (.int i7), .val (.int i8), .val (.int i9), .val (.ref b1), .val (.int (own_bit 0 p0)), .val (.int (1 : Int32)), .val (.int (own_bit 0 p0)), .unset] [(.ref b1)])
      refine own_go (fun _ k => XS.aload X16.here hx rfl (hb hby at_199) rfl rfl k) ?_
      show own_Goes _ _ _ _ _ _ _ T16 (mkF m 201 #[.val (.int p0), .val (.int p1), .val (.int p2), .val (.ref a3), .val (.ref a4), .val (.ref a5), .val (.ref a6), .val (.int i7), .val (.int i8), .val (.int i9), .val (.ref b1), .val (.int (own_bit 0 p0)), .val (.int (1 : Int32)), .val (.int (own_bit 0 p0)), .unset] [(.ref a6), (.ref b1)])
      refine own_go (fun _ k => XS.iloadN X16.here hx rfl (hb hby at_201) rfl k) ?_
      show own_Goes _ _ _ _ _ _ _ T16 (mkF m 202 #[.val (.int p0), .val (.int p1), .val (.int p2), .val (.ref a3), .val (.ref a4), .val (.ref a5), .val (.ref a6), .val (.int i7), .val (.int i8), .val (.int i9), .val (.ref b1), .val (.int (own_bit 0 p0)), .val (.int (1 : Int32)), .val (.int (own_bit 0 p0)), .unset] [(.int p1), (.ref a6), (.ref b1)])
      obtain ⟨cq17, kq17, zq17a, zq17b, zq17c⟩ := isOf hZ rfl FN16.1
      obtain ⟨_, _, ⟨T17, L17, k17, n17⟩, -, X17, ⟨Lc17, hQ17, l17, y17, z17⟩, st17⟩ := X16.virtualBack hx (y := (⟨"dev/resolvent/io/FieldNames", "add", "(Ljava/lang/String;I)Z"⟩ : MethodName)) (z := (⟨"dev/resolvent/io/FieldNames", "add", "(Ljava/lang/String;I)Z"⟩ : MethodName)) hown (mvT hZ (hw _ (List.mem_of_getElem? (i := 41) rfl))) (mvT hZ (hw _ (List.mem_of_getElem? (i := 42) rfl))) (notFace_of_selects (args := #[]) (mvT hZ (hw _ (List.mem_of_getElem? (i := 44) rfl)))) (mvT hZ (hw _ (List.mem_of_getElem? (i := 44) rfl))) (mvT hZ (hw _ (List.mem_of_getElem? (i := 43) rfl))) (by decide) (backOf (W := 0) (rm_addB0 l Z a0 hw [] b1 a6 p1 (own_or 0 p0) 0 ds T16.heap n0 Zs16 N hN FN16 (own_in0 q2) S6_16) hZ (hw _ (List.mem_of_getElem? (i := 45) rfl)) (hw _ (List.mem_of_getElem? (i := 32) rfl)) (by decide) (by decide)) zq17a zq17c (g := (mkF m 202 #[.val (.int p0), .val (.int p1), .val (.int p2), .val (.ref a3), .val (.ref a4), .val (.ref a5), .val (.ref a6), .val (.int i7), .val (.int i8), .val (.int i9), .val (.ref b1), .val (.int (own_bit 0 p0)), .val (.int (1 : Int32)), .val (.int (own_bit 0 p0)), .unset] [(.int p1), (.ref a6), (.ref b1)])) rfl (by rw [hml]; rfl) (Steps.refl _) (argsL := [(.ref a6), (.int p1)]) (rest := []) (lenOf pd_2 rfl) rfl (by show 2 * 0 + _ ≤ _; exact Nat.le_of_eq rfl) (hb hby at_202) (fun _ _ => ⟨rfl, rfl, (by decide : 6 + 1 + 1 + 0 + 0 + 0 + 0 + 0 ≤ _), (by decide : 16 + 4 + 16 + 0 + 0 + 0 + 0 + 0 ≤ _)⟩)
      dsimp only [Pt.U, Pt.locs, Pt.cells, Pt.slots] at X17 l17 y17 z17 st17 hQ17
      subst l17 y17 z17
      obtain ⟨rfl, N17q, Zs17, KN17, FN17⟩ := hQ17
      have N17 := Fr.app N16 N17q
      refine own_goS st17 ?_
      show own_Goes _ _ _ _ _ _ _ T17 (mkF m 205 #[.val (.int p0), .val (.int p1), .val (.int p2), .val (.ref a3), .val (.ref a4), .val (.ref a5), .val (.ref a6), .val (.int i7), .val (.int i8), .val (.int i9), .val (.ref b1), .val (.int (own_bit 0 p0)), .val (.int (1 : Int32)), .val (.int (own_bit 0 p0)), .unset] [(.int (1 : Int32))])
      obtain ⟨ws17, K17, hws17⟩ := KN17
      have S5_17 : own_Str Z T17.heap N a5 cs := S5_16.keep K17 hws17
      have S6_17 : own_Str Z T17.heap N a6 ds := S6_16.keep K17 hws17
      have Od17 : Old Z n0 T17.heap := Od16.keep K17 (fun x q => Nat.le_trans hN (hws17 x q))
      refine own_go (fun _ k => XS.istore X17.here hx rfl (hb hby at_205) rfl (l' := #[.val (.int p0), .val (.int p1), .val (.int p2), .val (.ref a3), .val (.ref a4), .val (.ref a5), .val (.ref a6), .val (.int i7), .val (.int i8), .val (.int i9), .val (.ref b1), .val (.int (own_bit 0 p0)), .val (.int (1 : Int32)), .val (.int (own_bit 0 p0)), .val (.int (1 : Int32))]) rfl k) ?_
      show own_Goes _ _ _ _ _ _ _ T17 (mkF m 207 #[.val (.int p0), .val (.int p1), .val (.int p2), .val (.ref a3), .val (.ref a4), .val (.ref a5), .val (.ref a6), .val (.int i7), .val (.int i8), .val (.int i9), .val (.ref b1), .val (.int (own_bit 0 p0)), .val (.int (1 : Int32)), .val (.int (own_bit 0 p0)), .val (.int (1 : Int32))] [])
      refine own_go (fun _ k => XS.iload X17.here hx rfl (hb hby at_207) rfl k) ?_
      show own_Goes _ _ _ _ _ _ _ T17 (mkF m 209 #[.val (.int p0), .val (.int p1), .val (.int p2), .val (.ref a3), .val (.ref a4), .val (.ref a5), .val (.ref a6), .val (.int i7), .val (.int i8), .val (.int i9), .val (.ref b1), .val (.int (own_bit 0 p0)), .val (.int (1 : Int32)), .val (.int (own_bit 0 p0)), .val (.int (1 : Int32))] [(.int (own_bit 0 p0))])
      refine own_go (fun _ k => XS.ifNo X17.here hx rfl (hb hby at_209) rfl ((if0 _ _).trans (feq (by rw [own_bit0]; decide)).1) k) ?_
      show own_Goes _ _ _ _ _ _ _ T17 (mkF m 212 #[.val (.int p0), .val (.int p1), .val (.int p2), .val (.ref a3), .val (.ref a4), .val (.ref a5), .val (.ref a6), .val (.int i7), .val (.int i8), .val (.int i9), .val (.ref b1), .val (.int (own_bit 0 p0)), .val (.int (1 : Int32)), .val (.int (own_bit 0 p0)), .val (.int (1 : Int32))] [])
      refine own_go (fun _ k => XS.iload X17.here hx rfl (hb hby at_212) rfl k) ?_
      show own_Goes _ _ _ _ _ _ _ T17 (mkF m 214 #[.val (.int p0), .val (.int p1), .val (.int p2), .val (.ref a3), .val (.ref a4), .val (.ref a5), .val (.ref a6), .val (.int i7), .val (.int i8), .val (.int i9), .val (.ref b1), .val (.int (own_bit 0 p0)), .val (.int (1 : Int32)), .val (.int (own_bit 0 p0)), .val (.int (1 : Int32))] [(.int (1 : Int32))])
      refine own_go (fun _ k => XS.iload X17.here hx rfl (hb hby at_214) rfl k) ?_
      show own_Goes _ _ _ _ _ _ _ T17 (mkF m 216 #[.val (.int p0), .val (.int p1), .val (.int p2), .val (.ref a3), .val (.ref a4), .val (.ref a5), .val (.ref a6), .val (.int i7), .val (.int i8), .val (.int i9), .val (.ref b1), .val (.int (own_bit 0 p0)), .val (.int (1 : Int32)), .val (.int (own_bit 0 p0)), .val (.int (1 : Int32))] [(.int i9), (.int (1 : Int32))])
      refine own_go (fun _ k => XS.icmpNo X17.here hx rfl (hb hby at_216) rfl (teq hr2).2 k) ?_
      show own_Goes _ _ _ _ _ _ _ T17 (mkF m 219 #[.val (.int p0), .val (.int p1), .val (.int p2), .val (.ref a3), .val (.ref a4), .val (.ref a5), .val (.ref a6), .val (.int i7), .val (.int i8), .val (.int i9), .val (.ref b1), .val (.int (own_bit 0 p0)), .val (.int (1 : Int32)), .val (.int (own_bit 0 p0)), .val (.int (1 : Int32))] [])
      refine own_go (fun _ k => XS.iload X17.here hx rfl (hb hby at_219) rfl k) ?_
      show own_Goes _ _ _ _ _ _ _ T17 (mkF m 221 #[.val (.int p0), .val (.int p1), .val (.int p2), .val (.ref a3), .val (.ref a4), .val (.ref a5), .val (.ref a6), .val (.int i7), .val (.int i8), .val (.int i9), .val (.ref b1), .val (.int (own_bit 0 p0)), .val (.int (1 : Int32)), .val (.int (own_bit 0 p0)), .val (.int (1 : Int32))] [(.int (own_bit 0 p0))])
      refine own_go (fun _ k => XS.ifNo X17.here hx rfl (hb hby at_221) rfl ((if0 _ _).trans (feq (by rw [own_bit0]; decide)).1) k) ?_
      show own_Goes _ _ _ _ _ _ _ T17 (mkF m 224 #[.val (.int p0), .val (.int p1), .val (.int p2), .val (.ref a3), .val (.ref a4), .val (.ref a5), .val (.ref a6), .val (.int i7), .val (.int i8), .val (.int i9), .val (.ref b1), .val (.int (own_bit 0 p0)), .val (.int (1 : Int32)), .val (.int (own_bit 0 p0)), .val (.int (1 : Int32))] [])
      refine own_go (fun _ k => XS.iload X17.here hx rfl (hb hby at_224) rfl k) ?_
      show own_Goes _ _ _ _ _ _ _ T17 (mkF m 226 #[.val (.int p0), .val (.int p1), .val (.int p2), .val (.ref a3), .val (.ref a4), .val (.ref a5), .val (.ref a6), .val (.int i7), .val (.int i8), .val (.int i9), .val (.ref b1), .val (.int (own_bit 0 p0)), .val (.int (1 : Int32)), .val (.int (own_bit 0 p0)), .val (.int (1 : Int32))] [(.int (1 : Int32))])
      refine own_go (fun _ k => XS.iload X17.here hx rfl (hb hby at_226) rfl k) ?_
      show own_Goes _ _ _ _ _ _ _ T17 (mkF m 228 #[.val (.int p0), .val (.int p1), .val (.int p2), .val (.ref a3), .val (.ref a4), .val (.ref a5), .val (.ref a6), .val (.int i7), .val (.int i8), .val (.int i9), .val (.ref b1), .val (.int (own_bit 0 p0)), .val (.int (1 : Int32)), .val (.int (own_bit 0 p0)), .val (.int (1 : Int32))] [(.int i9), (.int (1 : Int32))])
      refine own_go (fun _ k => XS.icmpNo X17.here hx rfl (hb hby at_228) rfl (teq hr2).2 k) ?_
      show own_Goes _ _ _ _ _ _ _ T17 (mkF m 231 #[.val (.int p0), .val (.int p1), .val (.int p2), .val (.ref a3), .val (.ref a4), .val (.ref a5), .val (.ref a6), .val (.int i7), .val (.int i8), .val (.int i9), .val (.ref b1), .val (.int (own_bit 0 p0)), .val (.int (1 : Int32)), .val (.int (own_bit 0 p0)), .val (.int (1 : Int32))] [])
      refine own_go (fun _ k => XS.iconst X17.here hx rfl (hb hby at_231) k) ?_
      show own_Goes _ _ _ _ _ _ _ T17 (mkF m 232 #[.val (.int p0), .val (.int p1), .val (.int p2), .val (.ref a3), .val (.ref a4), .val (.ref a5), .val (.ref a6), .val (.int i7), .val (.int i8), .val (.int i9), .val (.ref b1), .val (.int (own_bit 0 p0)), .val (.int (1 : Int32)), .val (.int (own_bit 0 p0)), .val (.int (1 : Int32))] [(.int (1 : Int32))])
      refine own_go (fun _ k => XS.goto X17.here hx rfl (pc0 := 232) (pc' := 236) rfl (hb hby at_232) (by decide) (by decide) k) ?_
      show own_Goes _ _ _ _ _ _ _ T17 (mkF m 236 #[.val (.int p0), .val (.int p1), .val (.int p2), .val (.ref a3), .val (.ref a4), .val (.ref a5), .val (.ref a6), .val (.int i7), .val (.int i8), .val (.int i9), .val (.ref b1), .val (.int (own_bit 0 p0)), .val (.int (1 : Int32)), .val (.int (own_bit 0 p0)), .val (.int (1 : Int32))] [(.int (1 : Int32))])
      exact own_retN X17 hx (t := .boolean) hlk hret (by simp) (hb hby at_236) (by decide) (by decide) ⟨rfl, N17⟩
    · have hr2 : (own_bit (own_or 0 p0) p1) = i9 := (own_s11 q1 q2).trans h9
      obtain ⟨cq18, kq18, zq18a, zq18b, zq18c⟩ := isOf hZ rfl FN2.1
      obtain ⟨_, _, ⟨T18, L18, k18, n18⟩, -, X18, ⟨Lc18, hQ18, l18, y18, z18⟩, st18⟩ := X2.virtualBack hx (y := (⟨"dev/resolvent/io/FieldNames", "add", "(Ljava/lang/String;I)Z"⟩ : MethodName)) (z := (⟨"dev/resolvent/io/FieldNames", "add", "(Ljava/lang/String;I)Z"⟩ : MethodName)) hown (mvT hZ (hw _ (List.mem_of_getElem? (i := 41) rfl))) (mvT hZ (hw _ (List.mem_of_getElem? (i := 42) rfl))) (notFace_of_selects (args := #[]) (mvT hZ (hw _ (List.mem_of_getElem? (i := 44) rfl)))) (mvT hZ (hw _ (List.mem_of_getElem? (i := 44) rfl))) (mvT hZ (hw _ (List.mem_of_getElem? (i := 43) rfl))) (by decide) (backOf (W := 0) (rm_addA l Z a0 hw [] b1 a5 p0 0 (0 : Int32) 0 T2.heap n0 Zs2 N hN FN2 (own_in1 q1).1 (own_in1 q1).2) hZ (hw _ (List.mem_of_getElem? (i := 45) rfl)) (hw _ (List.mem_of_getElem? (i := 32) rfl)) (by decide) (by decide)) zq18a zq18c (g := (mkF m 167 #[.val (.int p0), .val (.int p1), .val (.int p2), .val (.ref a3), .val (.ref a4), .val (.ref a5), .val (.ref a6), .val (.int i7), .val (.int i8), .val (.int i9), .val (.ref b1), .unset, .unset, .unset, .unset] [(.int p0), (.ref a5), (.ref b1)])) rfl (by rw [hml]; rfl) (Steps.refl _) (argsL := [(.ref a5), (.int p0)]) (rest := []) (lenOf pd_2 rfl) rfl (by show 2 * 0 + _ ≤ _; exact Nat.le_of_eq rfl) (hb hby at_167) (fun _ _ => ⟨rfl, rfl, (by decide : 6 + 1 + 1 + 0 ≤ _), (by decide : 16 + 4 + 16 + 0 ≤ _)⟩)
      dsimp only [Pt.U, Pt.locs, Pt.cells, Pt.slots] at X18 l18 y18 z18 st18 hQ18
      subst l18 y18 z18
      obtain ⟨rfl, N18q, Zs18, KN18, FN18⟩ := hQ18
      have N18 := Fr.app N2 N18q
      refine own_goS st18 ?_
      show own_Goes _ _ _ _ _ _ _ T18 (mkF m 170 #[.val (.int p0), .val (.int p1), .val (.int p2), .val (.ref a3), .val (.ref a4), .val (.ref a5), .val (.ref a6), .val (.int i7), .val (.int i8), .val (.int i9), .val (.ref b1), .unset, .unset, .unset, .unset] [(.int (own_bit 0 p0))])
      obtain ⟨ws18, K18, hws18⟩ := KN18
      have S5_18 : own_Str Z T18.heap N a5 cs := S5_2.keep K18 hws18
      have S6_18 : own_Str Z T18.heap N a6 ds := S6_2.keep K18 hws18
      have Od18 : Old Z n0 T18.heap := Od2.keep K18 (fun x q => Nat.le_trans hN (hws18 x q))
      refine own_go (fun _ k => XS.istore X18.here hx rfl (hb hby at_170) rfl (l' := #[.val (.int p0), .val (.int p1), .val (.int p2), .val (.ref a3), .val (.ref a4), .val (.ref a5), .val (.ref a6), .val (.int i7), .val (.int i8), .val (.int i9), .val (.ref b1), .val (.int (own_bit 0 p0)), .unset, .unset, .unset]) rfl k) ?_
      show own_Goes _ _ _ _ _ _ _ T18 (mkF m 172 #[.val (.int p0), .val (.int p1), .val (.int p2), .val (.ref a3), .val (.ref a4), .val (.ref a5), .val (.ref a6), .val (.int i7), .val (.int i8), .val (.int i9), .val (.ref b1), .val (.int (own_bit 0 p0)), .unset, .unset, .unset] [])
      refine own_go (fun _ k => XS.aload X18.here hx rfl (hb hby at_172) rfl rfl k) ?_
      show own_Goes _ _ _ _ _ _ _ T18 (mkF m 174 #[.val (.int p0), .val (.int p1), .val (.int p2), .val (.ref a3), .val (.ref a4), .val (.ref a5), .val (.ref a6), .val (.int i7), .val (.int i8), .val (.int i9), .val (.ref b1), .val (.int (own_bit 0 p0)), .unset, .unset, .unset] [(.ref b1)])
      refine own_go (fun _ k => XS.aload X18.here hx rfl (hb hby at_174) rfl rfl k) ?_
      show own_Goes _ _ _ _ _ _ _ T18 (mkF m 176 #[.val (.int p0), .val (.int p1), .val (.int p2), .val (.ref a3), .val (.ref a4), .val (.ref a5), .val (.ref a6), .val (.int i7), .val (.int i8), .val (.int i9), .val (.ref b1), .val (.int (own_bit 0 p0)), .unset, .unset, .unset] [(.ref a6), (.ref b1)])
      refine own_go (fun _ k => XS.iloadN X18.here hx rfl (hb hby at_176) rfl k) ?_
      show own_Goes _ _ _ _ _ _ _ T18 (mkF m 177 #[.val (.int p0), .val (.int p1), .val (.int p2), .val (.ref a3), .val (.ref a4), .val (.ref a5), .val (.ref a6), .val (.int i7), .val (.int i8), .val (.int i9), .val (.ref b1), .val (.int (own_bit 0 p0)), .unset, .unset, .unset] [(.int p1), (.ref a6), (.ref b1)])
      obtain ⟨cq19, kq19, zq19a, zq19b, zq19c⟩ := isOf hZ rfl FN18.1
      obtain ⟨_, _, ⟨T19, L19, k19, n19⟩, -, X19, ⟨Lc19, hQ19, l19, y19, z19⟩, st19⟩ := X18.virtualBack hx (y := (⟨"dev/resolvent/io/FieldNames", "add", "(Ljava/lang/String;I)Z"⟩ : MethodName)) (z := (⟨"dev/resolvent/io/FieldNames", "add", "(Ljava/lang/String;I)Z"⟩ : MethodName)) hown (mvT hZ (hw _ (List.mem_of_getElem? (i := 41) rfl))) (mvT hZ (hw _ (List.mem_of_getElem? (i := 42) rfl))) (notFace_of_selects (args := #[]) (mvT hZ (hw _ (List.mem_of_getElem? (i := 44) rfl)))) (mvT hZ (hw _ (List.mem_of_getElem? (i := 44) rfl))) (mvT hZ (hw _ (List.mem_of_getElem? (i := 43) rfl))) (by decide) (backOf (W := 0) (rm_addA l Z a0 hw [] b1 a6 p1 (own_or 0 p0) (0 : Int32) 0 T18.heap n0 Zs18 N hN FN18 (own_in1 q2).1 (own_in1 q2).2) hZ (hw _ (List.mem_of_getElem? (i := 45) rfl)) (hw _ (List.mem_of_getElem? (i := 32) rfl)) (by decide) (by decide)) zq19a zq19c (g := (mkF m 177 #[.val (.int p0), .val (.int p1), .val (.int p2), .val (.ref a3), .val (.ref a4), .val (.ref a5), .val (.ref a6), .val (.int i7), .val (.int i8), .val (.int i9), .val (.ref b1), .val (.int (own_bit 0 p0)), .unset, .unset, .unset] [(.int p1), (.ref a6), (.ref b1)])) rfl (by rw [hml]; rfl) (Steps.refl _) (argsL := [(.ref a6), (.int p1)]) (rest := []) (lenOf pd_2 rfl) rfl (by show 2 * 0 + _ ≤ _; exact Nat.le_of_eq rfl) (hb hby at_177) (fun _ _ => ⟨rfl, rfl, (by decide : 6 + 1 + 1 + 0 + 0 ≤ _), (by decide : 16 + 4 + 16 + 0 + 0 ≤ _)⟩)
      dsimp only [Pt.U, Pt.locs, Pt.cells, Pt.slots] at X19 l19 y19 z19 st19 hQ19
      subst l19 y19 z19
      obtain ⟨rfl, N19q, Zs19, KN19, FN19⟩ := hQ19
      have N19 := Fr.app N18 N19q
      refine own_goS st19 ?_
      show own_Goes _ _ _ _ _ _ _ T19 (mkF m 180 #[.val (.int p0), .val (.int p1), .val (.int p2), .val (.ref a3), .val (.ref a4), .val (.ref a5), .val (.ref a6), .val (.int i7), .val (.int i8), .val (.int i9), .val (.ref b1), .val (.int (own_bit 0 p0)), .unset, .unset, .unset] [(.int (own_bit (own_or 0 p0) p1))])
      obtain ⟨ws19, K19, hws19⟩ := KN19
      have S5_19 : own_Str Z T19.heap N a5 cs := S5_18.keep K19 hws19
      have S6_19 : own_Str Z T19.heap N a6 ds := S6_18.keep K19 hws19
      have Od19 : Old Z n0 T19.heap := Od18.keep K19 (fun x q => Nat.le_trans hN (hws19 x q))
      refine own_go (fun _ k => XS.istore X19.here hx rfl (hb hby at_180) rfl (l' := #[.val (.int p0), .val (.int p1), .val (.int p2), .val (.ref a3), .val (.ref a4), .val (.ref a5), .val (.ref a6), .val (.int i7), .val (.int i8), .val (.int i9), .val (.ref b1), .val (.int (own_bit 0 p0)), .val (.int (own_bit (own_or 0 p0) p1)), .unset, .unset]) rfl k) ?_
      show own_Goes _ _ _ _ _ _ _ T19 (mkF m 182 #[.val (.int p0), .val (.int p1), .val (.int p2), .val (.ref a3), .val (.ref a4), .val (.ref a5), .val (.ref a6), .val (.int i7), .val (.int i8), .val (.int i9), .val (.ref b1), .val (.int (own_bit 0 p0)), .val (.int (own_bit (own_or 0 p0) p1)), .unset, .unset] [])
      refine own_go (fun _ k => XS.aload X19.here hx rfl (hb hby at_182) rfl rfl k) ?_
      show own_Goes _ _ _ _ _ _ _ T19 (mkF m 184 #[.val (.int p0), .val (.int p1), .val (.int p2), .val (.ref a3), .val (.ref a4), .val (.ref a5), .val (.ref a6), .val (.int i7), .val (.int i8), .val (.int i9), .val (.ref b1), .val (.int (own_bit 0 p0)), .val (.int (own_bit (own_or 0 p0) p1)), .unset, .unset] [(.ref b1)])
      obtain ⟨cq20, kq20, zq20a, zq20b, zq20c⟩ := isOf hZ rfl FN19.1
      obtain ⟨_, _, ⟨T20, L20, k20, n20⟩, -, X20, ⟨Lc20, hQ20, l20, y20, z20⟩, st20⟩ := X19.virtualBack hx (y := (⟨"dev/resolvent/io/FieldNames", "clear", "()V"⟩ : MethodName)) (z := (⟨"dev/resolvent/io/FieldNames", "clear", "()V"⟩ : MethodName)) hown (mvT hZ (hw _ (List.mem_of_getElem? (i := 48) rfl))) (mvT hZ (hw _ (List.mem_of_getElem? (i := 49) rfl))) (notFace_of_selects (args := #[]) (mvT hZ (hw _ (List.mem_of_getElem? (i := 51) rfl)))) (mvT hZ (hw _ (List.mem_of_getElem? (i := 51) rfl))) (mvT hZ (hw _ (List.mem_of_getElem? (i := 50) rfl))) (by decide) (backOf (W := 0) (rm_clear l Z a0 hw [] b1 (own_or (own_or 0 p0) p1) (0 : Int32) 0 T19.heap n0 Zs19 N hN FN19) hZ (hw _ (List.mem_of_getElem? (i := 52) rfl)) (hw _ (List.mem_of_getElem? (i := 32) rfl)) (by decide) (by decide)) zq20a zq20c (g := (mkF m 184 #[.val (.int p0), .val (.int p1), .val (.int p2), .val (.ref a3), .val (.ref a4), .val (.ref a5), .val (.ref a6), .val (.int i7), .val (.int i8), .val (.int i9), .val (.ref b1), .val (.int (own_bit 0 p0)), .val (.int (own_bit (own_or 0 p0) p1)), .unset, .unset] [(.ref b1)])) rfl (by rw [hml]; rfl) (Steps.refl _) (argsL := []) (rest := []) (lenOf pd_1 rfl) rfl (by show 2 * 0 + _ ≤ _; exact Nat.le_of_eq rfl) (hb hby at_184) (fun _ _ => ⟨rfl, rfl, (by decide : 6 + 1 + 1 + 0 + 0 + 0 ≤ _), (by decide : 16 + 4 + 16 + 0 + 0 + 0 ≤ _)⟩)
      dsimp only [Pt.U, Pt.locs, Pt.cells, Pt.slots] at X20 l20 y20 z20 st20 hQ20
      subst l20 y20 z20
      obtain ⟨rfl, N20q, Zs20, KN20, FN20⟩ := hQ20
      have N20 := Fr.app N19 N20q
      refine own_goS st20 ?_
      show own_Goes _ _ _ _ _ _ _ T20 (mkF m 187 #[.val (.int p0), .val (.int p1), .val (.int p2), .val (.ref a3), .val (.ref a4), .val (.ref a5), .val (.ref a6), .val (.int i7), .val (.int i8), .val (.int i9), .val (.ref b1), .val (.int (own_bit 0 p0)), .val (.int (own_bit (own_or 0 p0) p1)), .unset, .unset] [])
      obtain ⟨ws20, K20, hws20⟩ := KN20
      have S5_20 : own_Str Z T20.heap N a5 cs := S5_19.keep K20 hws20
      have S6_20 : own_Str Z T20.heap N a6 ds := S6_19.keep K20 hws20
      have Od20 : Old Z n0 T20.heap := Od19.keep K20 (fun x q => Nat.le_trans hN (hws20 x q))
      refine own_go (fun _ k => XS.aload X20.here hx rfl (hb hby at_187) rfl rfl k) ?_
      show own_Goes _ _ _ _ _ _ _ T20 (mkF m 189 #[.val (.int p0), .val (.int p1), .val (.int p2), .val (.ref a3), .val (.ref a4), .val (.ref a5), .val (.ref a6), .val (.int i7), .val (.int i8), .val (.int i9), .val (.ref b1), .val (.int (own_bit 0 p0)), .val (.int (own_bit (own_or 0 p0) p1)), .unset, .unset] [(.ref b1)])
      refine own_go (fun _ k => XS.aload X20.here hx rfl (hb hby at_189) rfl rfl k) ?_
      show own_Goes _ _ _ _ _ _ _ T20 (mkF m 191 #[.val (.int p0), .val (.int p1), .val (.int p2), .val (.ref a3), .val (.ref a4), .val (.ref a5), .val (.ref a6), .val (.int i7), .val (.int i8), .val (.int i9), .val (.ref b1), .val (.int (own_bit 0 p0)), .val (.int (own_bit (own_or 0 p0) p1)), .unset, .unset] [(.ref a5), (.ref b1)])
      refine own_go (fun _ k => XS.iloadN X20.here hx rfl (hb hby at_191) rfl k) ?_
      show own_Goes _ _ _ _ _ _ _ T20 (mkF m 192 #[.val (.int p0), .val (.int p1), .val (.int p2), .val (.ref a3), .val (.ref a4), .val (.ref a5), .val (.ref a6), .val (.int i7), .val (.int i8), .val (.int i9), .val (.ref b1), .val (.int (own_bit 0 p0)), .val (.int (own_bit (own_or 0 p0) p1)), .unset, .unset] [(.int p0), (.ref a5), (.ref b1)])
      obtain ⟨cq21, kq21, zq21a, zq21b, zq21c⟩ := isOf hZ rfl FN20.1
      obtain ⟨_, _, ⟨T21, L21, k21, n21⟩, -, X21, ⟨Lc21, hQ21, l21, y21, z21⟩, st21⟩ := X20.virtualBack hx (y := (⟨"dev/resolvent/io/FieldNames", "add", "(Ljava/lang/String;I)Z"⟩ : MethodName)) (z := (⟨"dev/resolvent/io/FieldNames", "add", "(Ljava/lang/String;I)Z"⟩ : MethodName)) hown (mvT hZ (hw _ (List.mem_of_getElem? (i := 41) rfl))) (mvT hZ (hw _ (List.mem_of_getElem? (i := 42) rfl))) (notFace_of_selects (args := #[]) (mvT hZ (hw _ (List.mem_of_getElem? (i := 44) rfl)))) (mvT hZ (hw _ (List.mem_of_getElem? (i := 44) rfl))) (mvT hZ (hw _ (List.mem_of_getElem? (i := 43) rfl))) (by decide) (backOf (W := 0) (rm_addA l Z a0 hw [] b1 a5 p0 0 (0 : Int32) 0 T20.heap n0 Zs20 N hN FN20 (own_in1 q1).1 (own_in1 q1).2) hZ (hw _ (List.mem_of_getElem? (i := 45) rfl)) (hw _ (List.mem_of_getElem? (i := 32) rfl)) (by decide) (by decide)) zq21a zq21c (g := (mkF m 192 #[.val (.int p0), .val (.int p1), .val (.int p2), .val (.ref a3), .val (.ref a4), .val (.ref a5), .val (.ref a6), .val (.int i7), .val (.int i8), .val (.int i9), .val (.ref b1), .val (.int (own_bit 0 p0)), .val (.int (own_bit (own_or 0 p0) p1)), .unset, .unset] [(.int p0), (.ref a5), (.ref b1)])) rfl (by rw [hml]; rfl) (Steps.refl _) (argsL := [(.ref a5), (.int p0)]) (rest := []) (lenOf pd_2 rfl) rfl (by show 2 * 0 + _ ≤ _; exact Nat.le_of_eq rfl) (hb hby at_192) (fun _ _ => ⟨rfl, rfl, (by decide : 6 + 1 + 1 + 0 + 0 + 0 + 0 ≤ _), (by decide : 16 + 4 + 16 + 0 + 0 + 0 + 0 ≤ _)⟩)
      dsimp only [Pt.U, Pt.locs, Pt.cells, Pt.slots] at X21 l21 y21 z21 st21 hQ21
      subst l21 y21 z21
      obtain ⟨rfl, N21q, Zs21, KN21, FN21⟩ := hQ21
      have N21 := Fr.app N20 N21q
      refine own_goS st21 ?_
      show own_Goes _ _ _ _ _ _ _ T21 (mkF m 195 #[.val (.int p0), .val (.int p1), .val (.int p2), .val (.ref a3), .val (.ref a4), .val (.ref a5), .val (.ref a6), .val (.int i7), .val (.int i8), .val (.int i9), .val (.ref b1), .val (.int (own_bit 0 p0)), .val (.int (own_bit (own_or 0 p0) p1)), .unset, .unset] [(.int (own_bit 0 p0))])
      obtain ⟨ws21, K21, hws21⟩ := KN21
      have S5_21 : own_Str Z T21.heap N a5 cs := S5_20.keep K21 hws21
      have S6_21 : own_Str Z T21.heap N a6 ds := S6_20.keep K21 hws21
      have Od21 : Old Z n0 T21.heap := Od20.keep K21 (fun x q => Nat.le_trans hN (hws21 x q))
      refine own_go (fun _ k => XS.istore X21.here hx rfl (hb hby at_195) rfl (l' := #[.val (.int p0), .val (.int p1), .val (.int p2), .val (.ref a3), .val (.ref a4), .val (.ref a5), .val (.ref a6), .val (.int i7), .val (.int i8), .val (.int i9), .val (.ref b1), .val (.int (own_bit 0 p0)), .val (.int (own_bit (own_or 0 p0) p1)), .val (.int (own_bit 0 p0)), .unset]) rfl k) ?_
      show own_Goes _ _ _ _ _ _ _ T21 (mkF m 197 #[.val (.int p0), .val (.int p1), .val (.int p2), .val (.ref a3), .val (.ref a4), .val (.ref a5), .val (.ref a6), .val (.int i7), .val (.int i8), .val (.int i9), .val (.ref b1), .val (.int (own_bit 0 p0)), .val (.int (own_bit (own_or 0 p0) p1)), .val (.int (own_bit 0 p0)), .unset] [])
      refine own_go (fun _ k => XS.aload X21.here hx rfl (hb hby at_197) rfl rfl k) ?_
      show own_Goes _ _ _ _ _ _ _ T21 (mkF m 199 #[.val (.int p0), .val (.int p1), .val (.int p2), .val (.ref a3), .val (.ref a4), .val (.ref a5), .val (.ref a6), .val (.int i7), .val (.int i8), .val (.int i9), .val (.ref b1), .val (.int (own_bit 0 p0)), .val (.int (own_bit (own_or 0 p0) p1)), .val (.int (own_bit 0 p0)), .unset] [(.ref b1)])
      refine own_go (fun _ k => XS.aload X21.here hx rfl (hb hby at_199) rfl rfl k) ?_
      show own_Goes _ _ _ _ _ _ _ T21 (mkF m 201 #[.val (.int p0), .val (.int p1), .val (.int p2), .val (.ref a3), .val (.ref a4), .val (.ref a5), .val (.ref a6), .val (.int i7), .val (.int i8), .val (.int i9), .val (.ref b1), .val (.int (own_bit 0 p0)), .val (.int (own_bit (own_or 0 p0) p1)), .val (.int (own_bit 0 p0)), .unset] [(.ref a6), (.ref b1)])
      refine own_go (fun _ k => XS.iloadN X21.here hx rfl (hb hby at_201) rfl k) ?_
      show own_Goes _ _ _ _ _ _ _ T21 (mkF m 202 #[.val (.int p0), .val (.int p1), .val (.int p2), .val (.ref a3), .val (.ref a4), .val (.ref a5), .val (.ref a6), .val (.int i7), .val (.int i8), .val (.int i9), .val (.ref b1), .val (.int (own_bit 0 p0)), .val (.int (own_bit (own_or 0 p0) p1)), .val (.int (own_bit 0 p0)), .unset] [(.int p1), (.ref a6), (.ref b1)])
      obtain ⟨cq22, kq22, zq22a, zq22b, zq22c⟩ := isOf hZ rfl FN21.1
      obtain ⟨_, _, ⟨T22, L22, k22, n22⟩, -, X22, ⟨Lc22, hQ22, l22, y22, z22⟩, st22⟩ := X21.virtualBack hx (y := (⟨"dev/resolvent/io/FieldNames", "add", "(Ljava/lang/String;I)Z"⟩ : MethodName)) (z := (⟨"dev/resolvent/io/FieldNames", "add", "(Ljava/lang/String;I)Z"⟩ : MethodName)) hown (mvT hZ (hw _ (List.mem_of_getElem? (i := 41) rfl))) (mvT hZ (hw _ (List.mem_of_getElem? (i := 42) rfl))) (notFace_of_selects (args := #[]) (mvT hZ (hw _ (List.mem_of_getElem? (i := 44) rfl)))) (mvT hZ (hw _ (List.mem_of_getElem? (i := 44) rfl))) (mvT hZ (hw _ (List.mem_of_getElem? (i := 43) rfl))) (by decide) (backOf (W := 0) (rm_addA l Z a0 hw [] b1 a6 p1 (own_or 0 p0) (0 : Int32) 0 T21.heap n0 Zs21 N hN FN21 (own_in1 q2).1 (own_in1 q2).2) hZ (hw _ (List.mem_of_getElem? (i := 45) rfl)) (hw _ (List.mem_of_getElem? (i := 32) rfl)) (by decide) (by decide)) zq22a zq22c (g := (mkF m 202 #[.val (.int p0), .val (.int p1), .val (.int p2), .val (.ref a3), .val (.ref a4), .val (.ref a5), .val (.ref a6), .val (.int i7), .val (.int i8), .val (.int i9), .val (.ref b1), .val (.int (own_bit 0 p0)), .val (.int (own_bit (own_or 0 p0) p1)), .val (.int (own_bit 0 p0)), .unset] [(.int p1), (.ref a6), (.ref b1)])) rfl (by rw [hml]; rfl) (Steps.refl _) (argsL := [(.ref a6), (.int p1)]) (rest := []) (lenOf pd_2 rfl) rfl (by show 2 * 0 + _ ≤ _; exact Nat.le_of_eq rfl) (hb hby at_202) (fun _ _ => ⟨rfl, rfl, (by decide : 6 + 1 + 1 + 0 + 0 + 0 + 0 + 0 ≤ _), (by decide : 16 + 4 + 16 + 0 + 0 + 0 + 0 + 0 ≤ _)⟩)
      dsimp only [Pt.U, Pt.locs, Pt.cells, Pt.slots] at X22 l22 y22 z22 st22 hQ22
      subst l22 y22 z22
      obtain ⟨rfl, N22q, Zs22, KN22, FN22⟩ := hQ22
      have N22 := Fr.app N21 N22q
      refine own_goS st22 ?_
      show own_Goes _ _ _ _ _ _ _ T22 (mkF m 205 #[.val (.int p0), .val (.int p1), .val (.int p2), .val (.ref a3), .val (.ref a4), .val (.ref a5), .val (.ref a6), .val (.int i7), .val (.int i8), .val (.int i9), .val (.ref b1), .val (.int (own_bit 0 p0)), .val (.int (own_bit (own_or 0 p0) p1)), .val (.int (own_bit 0 p0)), .unset] [(.int (own_bit (own_or 0 p0) p1))])
      obtain ⟨ws22, K22, hws22⟩ := KN22
      have S5_22 : own_Str Z T22.heap N a5 cs := S5_21.keep K22 hws22
      have S6_22 : own_Str Z T22.heap N a6 ds := S6_21.keep K22 hws22
      have Od22 : Old Z n0 T22.heap := Od21.keep K22 (fun x q => Nat.le_trans hN (hws22 x q))
      refine own_go (fun _ k => XS.istore X22.here hx rfl (hb hby at_205) rfl (l' := #[.val (.int p0), .val (.int p1), .val (.int p2), .val (.ref a3), .val (.ref a4), .val (.ref a5), .val (.ref a6), .val (.int i7), .val (.int i8), .val (.int i9), .val (.ref b1), .val (.int (own_bit 0 p0)), .val (.int (own_bit (own_or 0 p0) p1)), .val (.int (own_bit 0 p0)), .val (.int (own_bit (own_or 0 p0) p1))]) rfl k) ?_
      show own_Goes _ _ _ _ _ _ _ T22 (mkF m 207 #[.val (.int p0), .val (.int p1), .val (.int p2), .val (.ref a3), .val (.ref a4), .val (.ref a5), .val (.ref a6), .val (.int i7), .val (.int i8), .val (.int i9), .val (.ref b1), .val (.int (own_bit 0 p0)), .val (.int (own_bit (own_or 0 p0) p1)), .val (.int (own_bit 0 p0)), .val (.int (own_bit (own_or 0 p0) p1))] [])
      refine own_go (fun _ k => XS.iload X22.here hx rfl (hb hby at_207) rfl k) ?_
      show own_Goes _ _ _ _ _ _ _ T22 (mkF m 209 #[.val (.int p0), .val (.int p1), .val (.int p2), .val (.ref a3), .val (.ref a4), .val (.ref a5), .val (.ref a6), .val (.int i7), .val (.int i8), .val (.int i9), .val (.ref b1), .val (.int (own_bit 0 p0)), .val (.int (own_bit (own_or 0 p0) p1)), .val (.int (own_bit 0 p0)), .val (.int (own_bit (own_or 0 p0) p1))] [(.int (own_bit 0 p0))])
      refine own_go (fun _ k => XS.ifNo X22.here hx rfl (hb hby at_209) rfl ((if0 _ _).trans (feq (by rw [own_bit0]; decide)).1) k) ?_
      show own_Goes _ _ _ _ _ _ _ T22 (mkF m 212 #[.val (.int p0), .val (.int p1), .val (.int p2), .val (.ref a3), .val (.ref a4), .val (.ref a5), .val (.ref a6), .val (.int i7), .val (.int i8), .val (.int i9), .val (.ref b1), .val (.int (own_bit 0 p0)), .val (.int (own_bit (own_or 0 p0) p1)), .val (.int (own_bit 0 p0)), .val (.int (own_bit (own_or 0 p0) p1))] [])
      refine own_go (fun _ k => XS.iload X22.here hx rfl (hb hby at_212) rfl k) ?_
      show own_Goes _ _ _ _ _ _ _ T22 (mkF m 214 #[.val (.int p0), .val (.int p1), .val (.int p2), .val (.ref a3), .val (.ref a4), .val (.ref a5), .val (.ref a6), .val (.int i7), .val (.int i8), .val (.int i9), .val (.ref b1), .val (.int (own_bit 0 p0)), .val (.int (own_bit (own_or 0 p0) p1)), .val (.int (own_bit 0 p0)), .val (.int (own_bit (own_or 0 p0) p1))] [(.int (own_bit (own_or 0 p0) p1))])
      refine own_go (fun _ k => XS.iload X22.here hx rfl (hb hby at_214) rfl k) ?_
      show own_Goes _ _ _ _ _ _ _ T22 (mkF m 216 #[.val (.int p0), .val (.int p1), .val (.int p2), .val (.ref a3), .val (.ref a4), .val (.ref a5), .val (.ref a6), .val (.int i7), .val (.int i8), .val (.int i9), .val (.ref b1), .val (.int (own_bit 0 p0)), .val (.int (own_bit (own_or 0 p0) p1)), .val (.int (own_bit 0 p0)), .val (.int (own_bit (own_or 0 p0) p1))] [(.int i9), (.int (own_bit (own_or 0 p0) p1))])
      refine own_go (fun _ k => XS.icmpNo X22.here hx rfl (hb hby at_216) rfl (teq hr2).2 k) ?_
      show own_Goes _ _ _ _ _ _ _ T22 (mkF m 219 #[.val (.int p0), .val (.int p1), .val (.int p2), .val (.ref a3), .val (.ref a4), .val (.ref a5), .val (.ref a6), .val (.int i7), .val (.int i8), .val (.int i9), .val (.ref b1), .val (.int (own_bit 0 p0)), .val (.int (own_bit (own_or 0 p0) p1)), .val (.int (own_bit 0 p0)), .val (.int (own_bit (own_or 0 p0) p1))] [])
      refine own_go (fun _ k => XS.iload X22.here hx rfl (hb hby at_219) rfl k) ?_
      show own_Goes _ _ _ _ _ _ _ T22 (mkF m 221 #[.val (.int p0), .val (.int p1), .val (.int p2), .val (.ref a3), .val (.ref a4), .val (.ref a5), .val (.ref a6), .val (.int i7), .val (.int i8), .val (.int i9), .val (.ref b1), .val (.int (own_bit 0 p0)), .val (.int (own_bit (own_or 0 p0) p1)), .val (.int (own_bit 0 p0)), .val (.int (own_bit (own_or 0 p0) p1))] [(.int (own_bit 0 p0))])
      refine own_go (fun _ k => XS.ifNo X22.here hx rfl (hb hby at_221) rfl ((if0 _ _).trans (feq (by rw [own_bit0]; decide)).1) k) ?_
      show own_Goes _ _ _ _ _ _ _ T22 (mkF m 224 #[.val (.int p0), .val (.int p1), .val (.int p2), .val (.ref a3), .val (.ref a4), .val (.ref a5), .val (.ref a6), .val (.int i7), .val (.int i8), .val (.int i9), .val (.ref b1), .val (.int (own_bit 0 p0)), .val (.int (own_bit (own_or 0 p0) p1)), .val (.int (own_bit 0 p0)), .val (.int (own_bit (own_or 0 p0) p1))] [])
      refine own_go (fun _ k => XS.iload X22.here hx rfl (hb hby at_224) rfl k) ?_
      show own_Goes _ _ _ _ _ _ _ T22 (mkF m 226 #[.val (.int p0), .val (.int p1), .val (.int p2), .val (.ref a3), .val (.ref a4), .val (.ref a5), .val (.ref a6), .val (.int i7), .val (.int i8), .val (.int i9), .val (.ref b1), .val (.int (own_bit 0 p0)), .val (.int (own_bit (own_or 0 p0) p1)), .val (.int (own_bit 0 p0)), .val (.int (own_bit (own_or 0 p0) p1))] [(.int (own_bit (own_or 0 p0) p1))])
      refine own_go (fun _ k => XS.iload X22.here hx rfl (hb hby at_226) rfl k) ?_
      show own_Goes _ _ _ _ _ _ _ T22 (mkF m 228 #[.val (.int p0), .val (.int p1), .val (.int p2), .val (.ref a3), .val (.ref a4), .val (.ref a5), .val (.ref a6), .val (.int i7), .val (.int i8), .val (.int i9), .val (.ref b1), .val (.int (own_bit 0 p0)), .val (.int (own_bit (own_or 0 p0) p1)), .val (.int (own_bit 0 p0)), .val (.int (own_bit (own_or 0 p0) p1))] [(.int i9), (.int (own_bit (own_or 0 p0) p1))])
      refine own_go (fun _ k => XS.icmpNo X22.here hx rfl (hb hby at_228) rfl (teq hr2).2 k) ?_
      show own_Goes _ _ _ _ _ _ _ T22 (mkF m 231 #[.val (.int p0), .val (.int p1), .val (.int p2), .val (.ref a3), .val (.ref a4), .val (.ref a5), .val (.ref a6), .val (.int i7), .val (.int i8), .val (.int i9), .val (.ref b1), .val (.int (own_bit 0 p0)), .val (.int (own_bit (own_or 0 p0) p1)), .val (.int (own_bit 0 p0)), .val (.int (own_bit (own_or 0 p0) p1))] [])
      refine own_go (fun _ k => XS.iconst X22.here hx rfl (hb hby at_231) k) ?_
      show own_Goes _ _ _ _ _ _ _ T22 (mkF m 232 #[.val (.int p0), .val (.int p1), .val (.int p2), .val (.ref a3), .val (.ref a4), .val (.ref a5), .val (.ref a6), .val (.int i7), .val (.int i8), .val (.int i9), .val (.ref b1), .val (.int (own_bit 0 p0)), .val (.int (own_bit (own_or 0 p0) p1)), .val (.int (own_bit 0 p0)), .val (.int (own_bit (own_or 0 p0) p1))] [(.int (1 : Int32))])
      refine own_go (fun _ k => XS.goto X22.here hx rfl (pc0 := 232) (pc' := 236) rfl (hb hby at_232) (by decide) (by decide) k) ?_
      show own_Goes _ _ _ _ _ _ _ T22 (mkF m 236 #[.val (.int p0), .val (.int p1), .val (.int p2), .val (.ref a3), .val (.ref a4), .val (.ref a5), .val (.ref a6), .val (.int i7), .val (.int i8), .val (.int i9), .val (.ref b1), .val (.int (own_bit 0 p0)), .val (.int (own_bit (own_or 0 p0) p1)), .val (.int (own_bit 0 p0)), .val (.int (own_bit (own_or 0 p0) p1))] [(.int (1 : Int32))])
      exact own_retN X22 hx (t := .boolean) hlk hret (by simp) (hb hby at_236) (by decide) (by decide) ⟨rfl, N22⟩
set_option maxRecDepth 65536 in
set_option maxHeartbeats 40000000 in
theorem seg111 {p : Program} {l : Launch} {e : Env} {s : State} {m : MethodId} {args : Array Value} {below : List Frame} {meth : Method} {c : Code} {s₁ : State} {locs : List Loc} {Z : State} {a0 : Array Value} {h0 : Heap} (p0 p1 p2 : Int32) (a3 a4 a5 a6 : Addr) (cs ds : List Int32) (i7 i8 : Int32)
    (hw : ∀ d ∈ tables_1, d.before a0 Z = true) (C : own_Ctx Z x "dev/resolvent/io/FieldNamesClearPinLaw" code maxLocals ret p s m meth c) (X0 : Stand p l e room_1 s m args below meth c s₁ locs 6 16) (e0 : s₁.heap = h0) (n0 : Nat) (Z0 : n0 ≤ h0.size) (N0 : Fr n0 locs) (N : Nat) (hN : n0 ≤ N) (S5 : own_Str Z h0 N a5 cs) (S6 : own_Str Z h0 N a6 ds) (Od0 : Old Z n0 h0) (hN0 : N ≤ h0.size) (G1 : Int32) (O2 : Sta Z Z.heap "java/lang/String" "COMPACT_STRINGS" "Z" (.int G1)) (P5 : ¬ (G1 = (0 : Int32))) (h7 : own_in p0 = i7) (h8 : own_in p1 = i8) :
    own_Goes p e below s (fun v h L => v = some (.int 1) ∧ Fr n0 L) room_1.cells room_1.slots s₁ (mkF m 111 #[.val (.int p0), .val (.int p1), .val (.int p2), .val (.ref a3), .val (.ref a4), .val (.ref a5), .val (.ref a6), .val (.int i7), .val (.int i8), .unset, .unset, .unset, .unset, .unset, .unset] []) := by
  obtain ⟨hx, hby, hml, hown, hnm, hret, hlk, hZ⟩ := C
  refine own_go (fun _ k => XS.iload X0.here hx rfl (hb hby at_111) rfl k) ?_
  show own_Goes _ _ _ _ _ _ _ s₁ (mkF m 113 #[.val (.int p0), .val (.int p1), .val (.int p2), .val (.ref a3), .val (.ref a4), .val (.ref a5), .val (.ref a6), .val (.int i7), .val (.int i8), .unset, .unset, .unset, .unset, .unset, .unset] [(.int i8)])
  by_cases hc113 : i8 = (0 : Int32)
  · refine own_go (fun _ k => XS.ifYes X0.here hx rfl (pc0 := 113) (pc' := 131) rfl (hb hby at_113) rfl ((if0 _ _).trans (teq hc113).1) (by decide) (by decide) k) ?_
    show own_Goes _ _ _ _ _ _ _ s₁ (mkF m 131 #[.val (.int p0), .val (.int p1), .val (.int p2), .val (.ref a3), .val (.ref a4), .val (.ref a5), .val (.ref a6), .val (.int i7), .val (.int i8), .unset, .unset, .unset, .unset, .unset, .unset] [])
    refine own_go (fun _ k => XS.iload X0.here hx rfl (hb hby at_131) rfl k) ?_
    show own_Goes _ _ _ _ _ _ _ s₁ (mkF m 133 #[.val (.int p0), .val (.int p1), .val (.int p2), .val (.ref a3), .val (.ref a4), .val (.ref a5), .val (.ref a6), .val (.int i7), .val (.int i8), .unset, .unset, .unset, .unset, .unset, .unset] [(.int i7)])
    by_cases hc133 : i7 = (0 : Int32)
    · refine own_go (fun _ k => XS.ifNo X0.here hx rfl (hb hby at_133) rfl ((if0 _ _).trans (teq hc133).2) k) ?_
      show own_Goes _ _ _ _ _ _ _ s₁ (mkF m 136 #[.val (.int p0), .val (.int p1), .val (.int p2), .val (.ref a3), .val (.ref a4), .val (.ref a5), .val (.ref a6), .val (.int i7), .val (.int i8), .unset, .unset, .unset, .unset, .unset, .unset] [])
      refine own_go (fun _ k => XS.aload X0.here hx rfl (hb hby at_136) rfl rfl k) ?_
      show own_Goes _ _ _ _ _ _ _ s₁ (mkF m 138 #[.val (.int p0), .val (.int p1), .val (.int p2), .val (.ref a3), .val (.ref a4), .val (.ref a5), .val (.ref a6), .val (.int i7), .val (.int i8), .unset, .unset, .unset, .unset, .unset, .unset] [(.ref a5)])
      refine own_go (fun _ k => XS.aload X0.here hx rfl (hb hby at_138) rfl rfl k) ?_
      show own_Goes _ _ _ _ _ _ _ s₁ (mkF m 140 #[.val (.int p0), .val (.int p1), .val (.int p2), .val (.ref a3), .val (.ref a4), .val (.ref a5), .val (.ref a6), .val (.int i7), .val (.int i8), .unset, .unset, .unset, .unset, .unset, .unset] [(.ref a6), (.ref a5)])
      obtain ⟨x11, x12, x13, x14, x15, x1t, x1k, x16, x17, x18⟩ := id S5
      obtain ⟨y11, y12, y13, y14, y15, y1t, y1k, y16, y17, y18⟩ := id S6
      obtain ⟨cq2, kq2, zq2a, zq2b, zq2c⟩ := isOf hZ e0 x11
      obtain ⟨_, _, ⟨T2, L2, k2, n2⟩, -, X2, ⟨Lc2, hQ2, l2, y2, z2⟩, st2⟩ := X0.virtualBack hx (y := (⟨"java/lang/String", "equals", "(Ljava/lang/Object;)Z"⟩ : MethodName)) (z := (⟨"java/lang/String", "equals", "(Ljava/lang/Object;)Z"⟩ : MethodName)) hown (mvT hZ (hw _ (List.mem_of_getElem? (i := 57) rfl))) (mvT hZ (hw _ (List.mem_of_getElem? (i := 58) rfl))) (notFace_of_selects (args := #[]) (mvT hZ (hw _ (List.mem_of_getElem? (i := 60) rfl)))) (mvT hZ (hw _ (List.mem_of_getElem? (i := 60) rfl))) (mvT hZ (hw _ (List.mem_of_getElem? (i := 59) rfl))) (by decide) (StrChars.Road.eqW (W := 0) hZ (fun d hd => hw d (own_wordsEq d hd)) (kI := 4) (hw _ (List.mem_of_getElem? (i := 2) rfl)) x11 x17 x12 x18 (own_cod x14) (own_up _ x14) x15 y11 y17 y12 y18 (own_cod y14) (own_up _ y14) y15 (O2.ext Od0.2) P5 (by decide) (by decide)) zq2a zq2c (g := (mkF m 140 #[.val (.int p0), .val (.int p1), .val (.int p2), .val (.ref a3), .val (.ref a4), .val (.ref a5), .val (.ref a6), .val (.int i7), .val (.int i8), .unset, .unset, .unset, .unset, .unset, .unset] [(.ref a6), (.ref a5)])) rfl (by rw [hml]; rfl) (Steps.refl _) (argsL := [(.ref a6)]) (rest := []) (lenOf pd_0 rfl) rfl (by show 2 * 0 + _ ≤ _; exact Nat.le_of_eq rfl) (hb hby at_140) (fun _ _ => ⟨rfl, e0, (by decide : 6 + 0 ≤ _), (by decide : 16 + 0 ≤ _)⟩)
      dsimp only [Pt.U, Pt.locs, Pt.cells, Pt.slots] at X2 l2 y2 z2 st2 hQ2
      subst l2 y2 z2
      obtain ⟨hcase2, rfl, e2⟩ := hQ2
      have N2 := Fr.app N0 (Fr.nil n0)
      rcases hcase2 with ⟨rfl, hq2⟩ | ⟨rfl, hq2⟩
      · refine own_goS st2 ?_
        show own_Goes _ _ _ _ _ _ _ T2 (mkF m 143 #[.val (.int p0), .val (.int p1), .val (.int p2), .val (.ref a3), .val (.ref a4), .val (.ref a5), .val (.ref a6), .val (.int i7), .val (.int i8), .unset, .unset, .unset, .unset, .unset, .unset] [(.int (1 : Int32))])
        refine own_go (fun _ k => XS.ifYes X2.here hx rfl (pc0 := 143) (pc' := 150) rfl (hb hby at_143) rfl ((if0 _ _).trans (feq (by decide : ¬ ((1 : Int32) = (0 : Int32)))).2) (by decide) (by decide) k) ?_
        show own_Goes _ _ _ _ _ _ _ T2 (mkF m 150 #[.val (.int p0), .val (.int p1), .val (.int p2), .val (.ref a3), .val (.ref a4), .val (.ref a5), .val (.ref a6), .val (.int i7), .val (.int i8), .unset, .unset, .unset, .unset, .unset, .unset] [])
        refine own_go (fun _ k => XS.iconst X2.here hx rfl (hb hby at_150) k) ?_
        show own_Goes _ _ _ _ _ _ _ T2 (mkF m 151 #[.val (.int p0), .val (.int p1), .val (.int p2), .val (.ref a3), .val (.ref a4), .val (.ref a5), .val (.ref a6), .val (.int i7), .val (.int i8), .unset, .unset, .unset, .unset, .unset, .unset] [(.int (0 : Int32))])
        refine own_go (fun _ k => XS.istore X2.here hx rfl (hb hby at_151) rfl (l' := #[.val (.int p0), .val (.int p1), .val (.int p2), .val (.ref a3), .val (.ref a4), .val (.ref a5), .val (.ref a6), .val (.int i7), .val (.int i8), .val (.int (0 : Int32)), .unset, .unset, .unset, .unset, .unset]) rfl k) ?_
        show own_Goes _ _ _ _ _ _ _ T2 (mkF m 153 #[.val (.int p0), .val (.int p1), .val (.int p2), .val (.ref a3), .val (.ref a4), .val (.ref a5), .val (.ref a6), .val (.int i7), .val (.int i8), .val (.int (0 : Int32)), .unset, .unset, .unset, .unset, .unset] [])
        exact seg153 p0 p1 p2 a3 a4 a5 a6 cs ds i7 i8 (0 : Int32) hw ⟨hx, hby, hml, hown, hnm, hret, hlk, hZ⟩ X2 e2 n0 Z0 N2 N hN S5 S6 Od0 hN0 G1 O2 P5 (by simp [own_sec, *])
      · refine own_goS st2 ?_
        show own_Goes _ _ _ _ _ _ _ T2 (mkF m 143 #[.val (.int p0), .val (.int p1), .val (.int p2), .val (.ref a3), .val (.ref a4), .val (.ref a5), .val (.ref a6), .val (.int i7), .val (.int i8), .unset, .unset, .unset, .unset, .unset, .unset] [(.int (0 : Int32))])
        refine own_go (fun _ k => XS.ifNo X2.here hx rfl (hb hby at_143) rfl ((if0 _ _).trans (teq (by decide : (0 : Int32) = (0 : Int32))).2) k) ?_
        show own_Goes _ _ _ _ _ _ _ T2 (mkF m 146 #[.val (.int p0), .val (.int p1), .val (.int p2), .val (.ref a3), .val (.ref a4), .val (.ref a5), .val (.ref a6), .val (.int i7), .val (.int i8), .unset, .unset, .unset, .unset, .unset, .unset] [])
        refine own_go (fun _ k => XS.iconst X2.here hx rfl (hb hby at_146) k) ?_
        show own_Goes _ _ _ _ _ _ _ T2 (mkF m 147 #[.val (.int p0), .val (.int p1), .val (.int p2), .val (.ref a3), .val (.ref a4), .val (.ref a5), .val (.ref a6), .val (.int i7), .val (.int i8), .unset, .unset, .unset, .unset, .unset, .unset] [(.int (1 : Int32))])
        refine own_go (fun _ k => XS.goto X2.here hx rfl (pc0 := 147) (pc' := 151) rfl (hb hby at_147) (by decide) (by decide) k) ?_
        show own_Goes _ _ _ _ _ _ _ T2 (mkF m 151 #[.val (.int p0), .val (.int p1), .val (.int p2), .val (.ref a3), .val (.ref a4), .val (.ref a5), .val (.ref a6), .val (.int i7), .val (.int i8), .unset, .unset, .unset, .unset, .unset, .unset] [(.int (1 : Int32))])
        refine own_go (fun _ k => XS.istore X2.here hx rfl (hb hby at_151) rfl (l' := #[.val (.int p0), .val (.int p1), .val (.int p2), .val (.ref a3), .val (.ref a4), .val (.ref a5), .val (.ref a6), .val (.int i7), .val (.int i8), .val (.int (1 : Int32)), .unset, .unset, .unset, .unset, .unset]) rfl k) ?_
        show own_Goes _ _ _ _ _ _ _ T2 (mkF m 153 #[.val (.int p0), .val (.int p1), .val (.int p2), .val (.ref a3), .val (.ref a4), .val (.ref a5), .val (.ref a6), .val (.int i7), .val (.int i8), .val (.int (1 : Int32)), .unset, .unset, .unset, .unset, .unset] [])
        exact seg153 p0 p1 p2 a3 a4 a5 a6 cs ds i7 i8 (1 : Int32) hw ⟨hx, hby, hml, hown, hnm, hret, hlk, hZ⟩ X2 e2 n0 Z0 N2 N hN S5 S6 Od0 hN0 G1 O2 P5 (by simp [own_sec, *])
    · refine own_go (fun _ k => XS.ifYes X0.here hx rfl (pc0 := 133) (pc' := 146) rfl (hb hby at_133) rfl ((if0 _ _).trans (feq hc133).2) (by decide) (by decide) k) ?_
      show own_Goes _ _ _ _ _ _ _ s₁ (mkF m 146 #[.val (.int p0), .val (.int p1), .val (.int p2), .val (.ref a3), .val (.ref a4), .val (.ref a5), .val (.ref a6), .val (.int i7), .val (.int i8), .unset, .unset, .unset, .unset, .unset, .unset] [])
      refine own_go (fun _ k => XS.iconst X0.here hx rfl (hb hby at_146) k) ?_
      show own_Goes _ _ _ _ _ _ _ s₁ (mkF m 147 #[.val (.int p0), .val (.int p1), .val (.int p2), .val (.ref a3), .val (.ref a4), .val (.ref a5), .val (.ref a6), .val (.int i7), .val (.int i8), .unset, .unset, .unset, .unset, .unset, .unset] [(.int (1 : Int32))])
      refine own_go (fun _ k => XS.goto X0.here hx rfl (pc0 := 147) (pc' := 151) rfl (hb hby at_147) (by decide) (by decide) k) ?_
      show own_Goes _ _ _ _ _ _ _ s₁ (mkF m 151 #[.val (.int p0), .val (.int p1), .val (.int p2), .val (.ref a3), .val (.ref a4), .val (.ref a5), .val (.ref a6), .val (.int i7), .val (.int i8), .unset, .unset, .unset, .unset, .unset, .unset] [(.int (1 : Int32))])
      refine own_go (fun _ k => XS.istore X0.here hx rfl (hb hby at_151) rfl (l' := #[.val (.int p0), .val (.int p1), .val (.int p2), .val (.ref a3), .val (.ref a4), .val (.ref a5), .val (.ref a6), .val (.int i7), .val (.int i8), .val (.int (1 : Int32)), .unset, .unset, .unset, .unset, .unset]) rfl k) ?_
      show own_Goes _ _ _ _ _ _ _ s₁ (mkF m 153 #[.val (.int p0), .val (.int p1), .val (.int p2), .val (.ref a3), .val (.ref a4), .val (.ref a5), .val (.ref a6), .val (.int i7), .val (.int i8), .val (.int (1 : Int32)), .unset, .unset, .unset, .unset, .unset] [])
      exact seg153 p0 p1 p2 a3 a4 a5 a6 cs ds i7 i8 (1 : Int32) hw ⟨hx, hby, hml, hown, hnm, hret, hlk, hZ⟩ X0 e0 n0 Z0 N0 N hN S5 S6 Od0 hN0 G1 O2 P5 (by simp [own_sec, *])
  · refine own_go (fun _ k => XS.ifNo X0.here hx rfl (hb hby at_113) rfl ((if0 _ _).trans (feq hc113).1) k) ?_
    show own_Goes _ _ _ _ _ _ _ s₁ (mkF m 116 #[.val (.int p0), .val (.int p1), .val (.int p2), .val (.ref a3), .val (.ref a4), .val (.ref a5), .val (.ref a6), .val (.int i7), .val (.int i8), .unset, .unset, .unset, .unset, .unset, .unset] [])
    refine own_go (fun _ k => XS.iloadN X0.here hx rfl (hb hby at_116) rfl k) ?_
    show own_Goes _ _ _ _ _ _ _ s₁ (mkF m 117 #[.val (.int p0), .val (.int p1), .val (.int p2), .val (.ref a3), .val (.ref a4), .val (.ref a5), .val (.ref a6), .val (.int i7), .val (.int i8), .unset, .unset, .unset, .unset, .unset, .unset] [(.int p0)])
    refine own_go (fun _ k => XS.iloadN X0.here hx rfl (hb hby at_117) rfl k) ?_
    show own_Goes _ _ _ _ _ _ _ s₁ (mkF m 118 #[.val (.int p0), .val (.int p1), .val (.int p2), .val (.ref a3), .val (.ref a4), .val (.ref a5), .val (.ref a6), .val (.int i7), .val (.int i8), .unset, .unset, .unset, .unset, .unset, .unset] [(.int p1), (.int p0)])
    by_cases hc118 : p0 = p1
    · refine own_go (fun _ k => XS.icmpYes X0.here hx rfl (pc0 := 118) (pc' := 125) rfl (hb hby at_118) rfl (teq hc118).1 (by decide) (by decide) k) ?_
      show own_Goes _ _ _ _ _ _ _ s₁ (mkF m 125 #[.val (.int p0), .val (.int p1), .val (.int p2), .val (.ref a3), .val (.ref a4), .val (.ref a5), .val (.ref a6), .val (.int i7), .val (.int i8), .unset, .unset, .unset, .unset, .unset, .unset] [])
      refine own_go (fun _ k => XS.iconst X0.here hx rfl (hb hby at_125) k) ?_
      show own_Goes _ _ _ _ _ _ _ s₁ (mkF m 126 #[.val (.int p0), .val (.int p1), .val (.int p2), .val (.ref a3), .val (.ref a4), .val (.ref a5), .val (.ref a6), .val (.int i7), .val (.int i8), .unset, .unset, .unset, .unset, .unset, .unset] [(.int (0 : Int32))])
      refine own_go (fun _ k => XS.istore X0.here hx rfl (hb hby at_126) rfl (l' := #[.val (.int p0), .val (.int p1), .val (.int p2), .val (.ref a3), .val (.ref a4), .val (.ref a5), .val (.ref a6), .val (.int i7), .val (.int i8), .val (.int (0 : Int32)), .unset, .unset, .unset, .unset, .unset]) rfl k) ?_
      show own_Goes _ _ _ _ _ _ _ s₁ (mkF m 128 #[.val (.int p0), .val (.int p1), .val (.int p2), .val (.ref a3), .val (.ref a4), .val (.ref a5), .val (.ref a6), .val (.int i7), .val (.int i8), .val (.int (0 : Int32)), .unset, .unset, .unset, .unset, .unset] [])
      refine own_go (fun _ k => XS.goto X0.here hx rfl (pc0 := 128) (pc' := 153) rfl (hb hby at_128) (by decide) (by decide) k) ?_
      show own_Goes _ _ _ _ _ _ _ s₁ (mkF m 153 #[.val (.int p0), .val (.int p1), .val (.int p2), .val (.ref a3), .val (.ref a4), .val (.ref a5), .val (.ref a6), .val (.int i7), .val (.int i8), .val (.int (0 : Int32)), .unset, .unset, .unset, .unset, .unset] [])
      exact seg153 p0 p1 p2 a3 a4 a5 a6 cs ds i7 i8 (0 : Int32) hw ⟨hx, hby, hml, hown, hnm, hret, hlk, hZ⟩ X0 e0 n0 Z0 N0 N hN S5 S6 Od0 hN0 G1 O2 P5 (by simp [own_sec, *])
    · refine own_go (fun _ k => XS.icmpNo X0.here hx rfl (hb hby at_118) rfl (feq hc118).1 k) ?_
      show own_Goes _ _ _ _ _ _ _ s₁ (mkF m 121 #[.val (.int p0), .val (.int p1), .val (.int p2), .val (.ref a3), .val (.ref a4), .val (.ref a5), .val (.ref a6), .val (.int i7), .val (.int i8), .unset, .unset, .unset, .unset, .unset, .unset] [])
      refine own_go (fun _ k => XS.iconst X0.here hx rfl (hb hby at_121) k) ?_
      show own_Goes _ _ _ _ _ _ _ s₁ (mkF m 122 #[.val (.int p0), .val (.int p1), .val (.int p2), .val (.ref a3), .val (.ref a4), .val (.ref a5), .val (.ref a6), .val (.int i7), .val (.int i8), .unset, .unset, .unset, .unset, .unset, .unset] [(.int (1 : Int32))])
      refine own_go (fun _ k => XS.goto X0.here hx rfl (pc0 := 122) (pc' := 126) rfl (hb hby at_122) (by decide) (by decide) k) ?_
      show own_Goes _ _ _ _ _ _ _ s₁ (mkF m 126 #[.val (.int p0), .val (.int p1), .val (.int p2), .val (.ref a3), .val (.ref a4), .val (.ref a5), .val (.ref a6), .val (.int i7), .val (.int i8), .unset, .unset, .unset, .unset, .unset, .unset] [(.int (1 : Int32))])
      refine own_go (fun _ k => XS.istore X0.here hx rfl (hb hby at_126) rfl (l' := #[.val (.int p0), .val (.int p1), .val (.int p2), .val (.ref a3), .val (.ref a4), .val (.ref a5), .val (.ref a6), .val (.int i7), .val (.int i8), .val (.int (1 : Int32)), .unset, .unset, .unset, .unset, .unset]) rfl k) ?_
      show own_Goes _ _ _ _ _ _ _ s₁ (mkF m 128 #[.val (.int p0), .val (.int p1), .val (.int p2), .val (.ref a3), .val (.ref a4), .val (.ref a5), .val (.ref a6), .val (.int i7), .val (.int i8), .val (.int (1 : Int32)), .unset, .unset, .unset, .unset, .unset] [])
      refine own_go (fun _ k => XS.goto X0.here hx rfl (pc0 := 128) (pc' := 153) rfl (hb hby at_128) (by decide) (by decide) k) ?_
      show own_Goes _ _ _ _ _ _ _ s₁ (mkF m 153 #[.val (.int p0), .val (.int p1), .val (.int p2), .val (.ref a3), .val (.ref a4), .val (.ref a5), .val (.ref a6), .val (.int i7), .val (.int i8), .val (.int (1 : Int32)), .unset, .unset, .unset, .unset, .unset] [])
      exact seg153 p0 p1 p2 a3 a4 a5 a6 cs ds i7 i8 (1 : Int32) hw ⟨hx, hby, hml, hown, hnm, hret, hlk, hZ⟩ X0 e0 n0 Z0 N0 N hN S5 S6 Od0 hN0 G1 O2 P5 (by simp [own_sec, *])
set_option maxRecDepth 65536 in
set_option maxHeartbeats 40000000 in
theorem seg94 {p : Program} {l : Launch} {e : Env} {s : State} {m : MethodId} {args : Array Value} {below : List Frame} {meth : Method} {c : Code} {s₁ : State} {locs : List Loc} {Z : State} {a0 : Array Value} {h0 : Heap} (p0 p1 p2 : Int32) (a3 a4 a5 a6 : Addr) (cs ds : List Int32) (i7 : Int32)
    (hw : ∀ d ∈ tables_1, d.before a0 Z = true) (C : own_Ctx Z x "dev/resolvent/io/FieldNamesClearPinLaw" code maxLocals ret p s m meth c) (X0 : Stand p l e room_1 s m args below meth c s₁ locs 6 16) (e0 : s₁.heap = h0) (n0 : Nat) (Z0 : n0 ≤ h0.size) (N0 : Fr n0 locs) (N : Nat) (hN : n0 ≤ N) (S5 : own_Str Z h0 N a5 cs) (S6 : own_Str Z h0 N a6 ds) (Od0 : Old Z n0 h0) (hN0 : N ≤ h0.size) (G1 : Int32) (O2 : Sta Z Z.heap "java/lang/String" "COMPACT_STRINGS" "Z" (.int G1)) (P5 : ¬ (G1 = (0 : Int32))) (h7 : own_in p0 = i7) :
    own_Goes p e below s (fun v h L => v = some (.int 1) ∧ Fr n0 L) room_1.cells room_1.slots s₁ (mkF m 94 #[.val (.int p0), .val (.int p1), .val (.int p2), .val (.ref a3), .val (.ref a4), .val (.ref a5), .val (.ref a6), .val (.int i7), .unset, .unset, .unset, .unset, .unset, .unset, .unset] []) := by
  obtain ⟨hx, hby, hml, hown, hnm, hret, hlk, hZ⟩ := C
  refine own_go (fun _ k => XS.iloadN X0.here hx rfl (hb hby at_94) rfl k) ?_
  show own_Goes _ _ _ _ _ _ _ s₁ (mkF m 95 #[.val (.int p0), .val (.int p1), .val (.int p2), .val (.ref a3), .val (.ref a4), .val (.ref a5), .val (.ref a6), .val (.int i7), .unset, .unset, .unset, .unset, .unset, .unset, .unset] [(.int p1)])
  by_cases hc95 : p1 < (0 : Int32)
  · refine own_go (fun _ k => XS.ifYes X0.here hx rfl (pc0 := 95) (pc' := 108) rfl (hb hby at_95) rfl ((if0 _ _).trans (tlt hc95).1) (by decide) (by decide) k) ?_
    show own_Goes _ _ _ _ _ _ _ s₁ (mkF m 108 #[.val (.int p0), .val (.int p1), .val (.int p2), .val (.ref a3), .val (.ref a4), .val (.ref a5), .val (.ref a6), .val (.int i7), .unset, .unset, .unset, .unset, .unset, .unset, .unset] [])
    refine own_go (fun _ k => XS.iconst X0.here hx rfl (hb hby at_108) k) ?_
    show own_Goes _ _ _ _ _ _ _ s₁ (mkF m 109 #[.val (.int p0), .val (.int p1), .val (.int p2), .val (.ref a3), .val (.ref a4), .val (.ref a5), .val (.ref a6), .val (.int i7), .unset, .unset, .unset, .unset, .unset, .unset, .unset] [(.int (0 : Int32))])
    refine own_go (fun _ k => XS.istore X0.here hx rfl (hb hby at_109) rfl (l' := #[.val (.int p0), .val (.int p1), .val (.int p2), .val (.ref a3), .val (.ref a4), .val (.ref a5), .val (.ref a6), .val (.int i7), .val (.int (0 : Int32)), .unset, .unset, .unset, .unset, .unset, .unset]) rfl k) ?_
    show own_Goes _ _ _ _ _ _ _ s₁ (mkF m 111 #[.val (.int p0), .val (.int p1), .val (.int p2), .val (.ref a3), .val (.ref a4), .val (.ref a5), .val (.ref a6), .val (.int i7), .val (.int (0 : Int32)), .unset, .unset, .unset, .unset, .unset, .unset] [])
    exact seg111 p0 p1 p2 a3 a4 a5 a6 cs ds i7 (0 : Int32) hw ⟨hx, hby, hml, hown, hnm, hret, hlk, hZ⟩ X0 e0 n0 Z0 N0 N hN S5 S6 Od0 hN0 G1 O2 P5 h7 (by simp [own_in, *])
  · refine own_go (fun _ k => XS.ifNo X0.here hx rfl (hb hby at_95) rfl ((if0 _ _).trans (flt hc95).1) k) ?_
    show own_Goes _ _ _ _ _ _ _ s₁ (mkF m 98 #[.val (.int p0), .val (.int p1), .val (.int p2), .val (.ref a3), .val (.ref a4), .val (.ref a5), .val (.ref a6), .val (.int i7), .unset, .unset, .unset, .unset, .unset, .unset, .unset] [])
    refine own_go (fun _ k => XS.iloadN X0.here hx rfl (hb hby at_98) rfl k) ?_
    show own_Goes _ _ _ _ _ _ _ s₁ (mkF m 99 #[.val (.int p0), .val (.int p1), .val (.int p2), .val (.ref a3), .val (.ref a4), .val (.ref a5), .val (.ref a6), .val (.int i7), .unset, .unset, .unset, .unset, .unset, .unset, .unset] [(.int p1)])
    refine own_go (fun _ k => XS.bipush X0.here hx rfl (hb hby at_99) k) ?_
    show own_Goes _ _ _ _ _ _ _ s₁ (mkF m 101 #[.val (.int p0), .val (.int p1), .val (.int p2), .val (.ref a3), .val (.ref a4), .val (.ref a5), .val (.ref a6), .val (.int i7), .unset, .unset, .unset, .unset, .unset, .unset, .unset] [(.int (64 : Int32)), (.int p1)])
    by_cases hc101 : p1 < (64 : Int32)
    · refine own_go (fun _ k => XS.icmpNo X0.here hx rfl (hb hby at_101) rfl (tlt hc101).2.1 k) ?_
      show own_Goes _ _ _ _ _ _ _ s₁ (mkF m 104 #[.val (.int p0), .val (.int p1), .val (.int p2), .val (.ref a3), .val (.ref a4), .val (.ref a5), .val (.ref a6), .val (.int i7), .unset, .unset, .unset, .unset, .unset, .unset, .unset] [])
      refine own_go (fun _ k => XS.iconst X0.here hx rfl (hb hby at_104) k) ?_
      show own_Goes _ _ _ _ _ _ _ s₁ (mkF m 105 #[.val (.int p0), .val (.int p1), .val (.int p2), .val (.ref a3), .val (.ref a4), .val (.ref a5), .val (.ref a6), .val (.int i7), .unset, .unset, .unset, .unset, .unset, .unset, .unset] [(.int (1 : Int32))])
      refine own_go (fun _ k => XS.goto X0.here hx rfl (pc0 := 105) (pc' := 109) rfl (hb hby at_105) (by decide) (by decide) k) ?_
      show own_Goes _ _ _ _ _ _ _ s₁ (mkF m 109 #[.val (.int p0), .val (.int p1), .val (.int p2), .val (.ref a3), .val (.ref a4), .val (.ref a5), .val (.ref a6), .val (.int i7), .unset, .unset, .unset, .unset, .unset, .unset, .unset] [(.int (1 : Int32))])
      refine own_go (fun _ k => XS.istore X0.here hx rfl (hb hby at_109) rfl (l' := #[.val (.int p0), .val (.int p1), .val (.int p2), .val (.ref a3), .val (.ref a4), .val (.ref a5), .val (.ref a6), .val (.int i7), .val (.int (1 : Int32)), .unset, .unset, .unset, .unset, .unset, .unset]) rfl k) ?_
      show own_Goes _ _ _ _ _ _ _ s₁ (mkF m 111 #[.val (.int p0), .val (.int p1), .val (.int p2), .val (.ref a3), .val (.ref a4), .val (.ref a5), .val (.ref a6), .val (.int i7), .val (.int (1 : Int32)), .unset, .unset, .unset, .unset, .unset, .unset] [])
      exact seg111 p0 p1 p2 a3 a4 a5 a6 cs ds i7 (1 : Int32) hw ⟨hx, hby, hml, hown, hnm, hret, hlk, hZ⟩ X0 e0 n0 Z0 N0 N hN S5 S6 Od0 hN0 G1 O2 P5 h7 (by simp [own_in, *])
    · refine own_go (fun _ k => XS.icmpYes X0.here hx rfl (pc0 := 101) (pc' := 108) rfl (hb hby at_101) rfl (flt hc101).2.1 (by decide) (by decide) k) ?_
      show own_Goes _ _ _ _ _ _ _ s₁ (mkF m 108 #[.val (.int p0), .val (.int p1), .val (.int p2), .val (.ref a3), .val (.ref a4), .val (.ref a5), .val (.ref a6), .val (.int i7), .unset, .unset, .unset, .unset, .unset, .unset, .unset] [])
      refine own_go (fun _ k => XS.iconst X0.here hx rfl (hb hby at_108) k) ?_
      show own_Goes _ _ _ _ _ _ _ s₁ (mkF m 109 #[.val (.int p0), .val (.int p1), .val (.int p2), .val (.ref a3), .val (.ref a4), .val (.ref a5), .val (.ref a6), .val (.int i7), .unset, .unset, .unset, .unset, .unset, .unset, .unset] [(.int (0 : Int32))])
      refine own_go (fun _ k => XS.istore X0.here hx rfl (hb hby at_109) rfl (l' := #[.val (.int p0), .val (.int p1), .val (.int p2), .val (.ref a3), .val (.ref a4), .val (.ref a5), .val (.ref a6), .val (.int i7), .val (.int (0 : Int32)), .unset, .unset, .unset, .unset, .unset, .unset]) rfl k) ?_
      show own_Goes _ _ _ _ _ _ _ s₁ (mkF m 111 #[.val (.int p0), .val (.int p1), .val (.int p2), .val (.ref a3), .val (.ref a4), .val (.ref a5), .val (.ref a6), .val (.int i7), .val (.int (0 : Int32)), .unset, .unset, .unset, .unset, .unset, .unset] [])
      exact seg111 p0 p1 p2 a3 a4 a5 a6 cs ds i7 (0 : Int32) hw ⟨hx, hby, hml, hown, hnm, hret, hlk, hZ⟩ X0 e0 n0 Z0 N0 N hN S5 S6 Od0 hN0 G1 O2 P5 h7 (by simp [own_in, *])
set_option maxRecDepth 65536 in
set_option maxHeartbeats 40000000 in
theorem seg77 {p : Program} {l : Launch} {e : Env} {s : State} {m : MethodId} {args : Array Value} {below : List Frame} {meth : Method} {c : Code} {s₁ : State} {locs : List Loc} {Z : State} {a0 : Array Value} {h0 : Heap} (p0 p1 p2 : Int32) (a3 a4 a5 a6 : Addr) (cs ds : List Int32)
    (hw : ∀ d ∈ tables_1, d.before a0 Z = true) (C : own_Ctx Z x "dev/resolvent/io/FieldNamesClearPinLaw" code maxLocals ret p s m meth c) (X0 : Stand p l e room_1 s m args below meth c s₁ locs 6 16) (e0 : s₁.heap = h0) (n0 : Nat) (Z0 : n0 ≤ h0.size) (N0 : Fr n0 locs) (N : Nat) (hN : n0 ≤ N) (S5 : own_Str Z h0 N a5 cs) (S6 : own_Str Z h0 N a6 ds) (Od0 : Old Z n0 h0) (hN0 : N ≤ h0.size) (G1 : Int32) (O2 : Sta Z Z.heap "java/lang/String" "COMPACT_STRINGS" "Z" (.int G1)) (P5 : ¬ (G1 = (0 : Int32))) :
    own_Goes p e below s (fun v h L => v = some (.int 1) ∧ Fr n0 L) room_1.cells room_1.slots s₁ (mkF m 77 #[.val (.int p0), .val (.int p1), .val (.int p2), .val (.ref a3), .val (.ref a4), .val (.ref a5), .val (.ref a6), .unset, .unset, .unset, .unset, .unset, .unset, .unset, .unset] []) := by
  obtain ⟨hx, hby, hml, hown, hnm, hret, hlk, hZ⟩ := C
  refine own_go (fun _ k => XS.iloadN X0.here hx rfl (hb hby at_77) rfl k) ?_
  show own_Goes _ _ _ _ _ _ _ s₁ (mkF m 78 #[.val (.int p0), .val (.int p1), .val (.int p2), .val (.ref a3), .val (.ref a4), .val (.ref a5), .val (.ref a6), .unset, .unset, .unset, .unset, .unset, .unset, .unset, .unset] [(.int p0)])
  by_cases hc78 : p0 < (0 : Int32)
  · refine own_go (fun _ k => XS.ifYes X0.here hx rfl (pc0 := 78) (pc' := 91) rfl (hb hby at_78) rfl ((if0 _ _).trans (tlt hc78).1) (by decide) (by decide) k) ?_
    show own_Goes _ _ _ _ _ _ _ s₁ (mkF m 91 #[.val (.int p0), .val (.int p1), .val (.int p2), .val (.ref a3), .val (.ref a4), .val (.ref a5), .val (.ref a6), .unset, .unset, .unset, .unset, .unset, .unset, .unset, .unset] [])
    refine own_go (fun _ k => XS.iconst X0.here hx rfl (hb hby at_91) k) ?_
    show own_Goes _ _ _ _ _ _ _ s₁ (mkF m 92 #[.val (.int p0), .val (.int p1), .val (.int p2), .val (.ref a3), .val (.ref a4), .val (.ref a5), .val (.ref a6), .unset, .unset, .unset, .unset, .unset, .unset, .unset, .unset] [(.int (0 : Int32))])
    refine own_go (fun _ k => XS.istore X0.here hx rfl (hb hby at_92) rfl (l' := #[.val (.int p0), .val (.int p1), .val (.int p2), .val (.ref a3), .val (.ref a4), .val (.ref a5), .val (.ref a6), .val (.int (0 : Int32)), .unset, .unset, .unset, .unset, .unset, .unset, .unset]) rfl k) ?_
    show own_Goes _ _ _ _ _ _ _ s₁ (mkF m 94 #[.val (.int p0), .val (.int p1), .val (.int p2), .val (.ref a3), .val (.ref a4), .val (.ref a5), .val (.ref a6), .val (.int (0 : Int32)), .unset, .unset, .unset, .unset, .unset, .unset, .unset] [])
    exact seg94 p0 p1 p2 a3 a4 a5 a6 cs ds (0 : Int32) hw ⟨hx, hby, hml, hown, hnm, hret, hlk, hZ⟩ X0 e0 n0 Z0 N0 N hN S5 S6 Od0 hN0 G1 O2 P5 (by simp [own_in, *])
  · refine own_go (fun _ k => XS.ifNo X0.here hx rfl (hb hby at_78) rfl ((if0 _ _).trans (flt hc78).1) k) ?_
    show own_Goes _ _ _ _ _ _ _ s₁ (mkF m 81 #[.val (.int p0), .val (.int p1), .val (.int p2), .val (.ref a3), .val (.ref a4), .val (.ref a5), .val (.ref a6), .unset, .unset, .unset, .unset, .unset, .unset, .unset, .unset] [])
    refine own_go (fun _ k => XS.iloadN X0.here hx rfl (hb hby at_81) rfl k) ?_
    show own_Goes _ _ _ _ _ _ _ s₁ (mkF m 82 #[.val (.int p0), .val (.int p1), .val (.int p2), .val (.ref a3), .val (.ref a4), .val (.ref a5), .val (.ref a6), .unset, .unset, .unset, .unset, .unset, .unset, .unset, .unset] [(.int p0)])
    refine own_go (fun _ k => XS.bipush X0.here hx rfl (hb hby at_82) k) ?_
    show own_Goes _ _ _ _ _ _ _ s₁ (mkF m 84 #[.val (.int p0), .val (.int p1), .val (.int p2), .val (.ref a3), .val (.ref a4), .val (.ref a5), .val (.ref a6), .unset, .unset, .unset, .unset, .unset, .unset, .unset, .unset] [(.int (64 : Int32)), (.int p0)])
    by_cases hc84 : p0 < (64 : Int32)
    · refine own_go (fun _ k => XS.icmpNo X0.here hx rfl (hb hby at_84) rfl (tlt hc84).2.1 k) ?_
      show own_Goes _ _ _ _ _ _ _ s₁ (mkF m 87 #[.val (.int p0), .val (.int p1), .val (.int p2), .val (.ref a3), .val (.ref a4), .val (.ref a5), .val (.ref a6), .unset, .unset, .unset, .unset, .unset, .unset, .unset, .unset] [])
      refine own_go (fun _ k => XS.iconst X0.here hx rfl (hb hby at_87) k) ?_
      show own_Goes _ _ _ _ _ _ _ s₁ (mkF m 88 #[.val (.int p0), .val (.int p1), .val (.int p2), .val (.ref a3), .val (.ref a4), .val (.ref a5), .val (.ref a6), .unset, .unset, .unset, .unset, .unset, .unset, .unset, .unset] [(.int (1 : Int32))])
      refine own_go (fun _ k => XS.goto X0.here hx rfl (pc0 := 88) (pc' := 92) rfl (hb hby at_88) (by decide) (by decide) k) ?_
      show own_Goes _ _ _ _ _ _ _ s₁ (mkF m 92 #[.val (.int p0), .val (.int p1), .val (.int p2), .val (.ref a3), .val (.ref a4), .val (.ref a5), .val (.ref a6), .unset, .unset, .unset, .unset, .unset, .unset, .unset, .unset] [(.int (1 : Int32))])
      refine own_go (fun _ k => XS.istore X0.here hx rfl (hb hby at_92) rfl (l' := #[.val (.int p0), .val (.int p1), .val (.int p2), .val (.ref a3), .val (.ref a4), .val (.ref a5), .val (.ref a6), .val (.int (1 : Int32)), .unset, .unset, .unset, .unset, .unset, .unset, .unset]) rfl k) ?_
      show own_Goes _ _ _ _ _ _ _ s₁ (mkF m 94 #[.val (.int p0), .val (.int p1), .val (.int p2), .val (.ref a3), .val (.ref a4), .val (.ref a5), .val (.ref a6), .val (.int (1 : Int32)), .unset, .unset, .unset, .unset, .unset, .unset, .unset] [])
      exact seg94 p0 p1 p2 a3 a4 a5 a6 cs ds (1 : Int32) hw ⟨hx, hby, hml, hown, hnm, hret, hlk, hZ⟩ X0 e0 n0 Z0 N0 N hN S5 S6 Od0 hN0 G1 O2 P5 (by simp [own_in, *])
    · refine own_go (fun _ k => XS.icmpYes X0.here hx rfl (pc0 := 84) (pc' := 91) rfl (hb hby at_84) rfl (flt hc84).2.1 (by decide) (by decide) k) ?_
      show own_Goes _ _ _ _ _ _ _ s₁ (mkF m 91 #[.val (.int p0), .val (.int p1), .val (.int p2), .val (.ref a3), .val (.ref a4), .val (.ref a5), .val (.ref a6), .unset, .unset, .unset, .unset, .unset, .unset, .unset, .unset] [])
      refine own_go (fun _ k => XS.iconst X0.here hx rfl (hb hby at_91) k) ?_
      show own_Goes _ _ _ _ _ _ _ s₁ (mkF m 92 #[.val (.int p0), .val (.int p1), .val (.int p2), .val (.ref a3), .val (.ref a4), .val (.ref a5), .val (.ref a6), .unset, .unset, .unset, .unset, .unset, .unset, .unset, .unset] [(.int (0 : Int32))])
      refine own_go (fun _ k => XS.istore X0.here hx rfl (hb hby at_92) rfl (l' := #[.val (.int p0), .val (.int p1), .val (.int p2), .val (.ref a3), .val (.ref a4), .val (.ref a5), .val (.ref a6), .val (.int (0 : Int32)), .unset, .unset, .unset, .unset, .unset, .unset, .unset]) rfl k) ?_
      show own_Goes _ _ _ _ _ _ _ s₁ (mkF m 94 #[.val (.int p0), .val (.int p1), .val (.int p2), .val (.ref a3), .val (.ref a4), .val (.ref a5), .val (.ref a6), .val (.int (0 : Int32)), .unset, .unset, .unset, .unset, .unset, .unset, .unset] [])
      exact seg94 p0 p1 p2 a3 a4 a5 a6 cs ds (0 : Int32) hw ⟨hx, hby, hml, hown, hnm, hret, hlk, hZ⟩ X0 e0 n0 Z0 N0 N hN S5 S6 Od0 hN0 G1 O2 P5 (by simp [own_in, *])
def Q_rm0 (Z : State) (h0 : Heap) (n0 : Nat)  (v : Option Value) (h : Heap) (L : List Loc) : Prop := v = some (.int 1) ∧ Fr n0 L
set_option maxRecDepth 65536 in
set_option maxHeartbeats 40000000 in
theorem rm0 (l : Launch) (Z : State) (a0 : Array Value) (hw : ∀ d ∈ tables_1, d.before a0 Z = true) (ws : List Jvm.Cond) (p0 p1 p2 : Int32) (h0 : Heap) (n0 : Nat) (Z0 : n0 ≤ h0.size) (G1 : Int32) (O2 : Sta Z Z.heap "java/lang/String" "COMPACT_STRINGS" "Z" (.int G1)) (P5 : ¬ (G1 = (0 : Int32))) (Od0 : Old Z n0 h0) :
    MetFree l x (head1 (Jvm.Cond.code x code maxLocals ret :: ws) room_1) (fun a U => a = #[(.int p0), (.int p1), (.int p2)] ∧ Z.Warmed39 U.vm ∧ U.heap = h0) (fun _ _ _ _ _ => True) (fun _ U o U' => ∃ rv rL, o = .returned rv ∧ Q_rm0 Z h0 n0  rv U'.heap rL ∧ FrameEnd U o U' rL room_1.cells room_1.slots) := by
  refine own_met (y := x) (Q := Q_rm0 Z h0 n0 ) (own := "dev/resolvent/io/FieldNamesClearPinLaw") rfl pn_0 ?_
  intro p e s m below meth c s₁ C e0 X0
  obtain ⟨hx, hby, hml, hown, hnm, hret, hlk, hZ⟩ := C
  have N0 := Fr.nil n0
  rw [ef_0]
  show own_Goes _ _ _ _ _ _ _ s₁ (mkF m 0 #[.val (.int p0), .val (.int p1), .val (.int p2), .unset, .unset, .unset, .unset, .unset, .unset, .unset, .unset, .unset, .unset, .unset, .unset] [])
  refine own_go (fun _ k => XS.iconst X0.here hx rfl (hb hby at_0) k) ?_
  show own_Goes _ _ _ _ _ _ _ s₁ (mkF m 1 #[.val (.int p0), .val (.int p1), .val (.int p2), .unset, .unset, .unset, .unset, .unset, .unset, .unset, .unset, .unset, .unset, .unset, .unset] [(.int (2 : Int32))])
  obtain ⟨T1, h1, k1, X1, e1, E1, A1, st1⟩ := newP X0 hx hZ (hw _ (List.mem_of_getElem? (i := 0) rfl)) e0 (g := (mkF m 1 #[.val (.int p0), .val (.int p1), .val (.int p2), .unset, .unset, .unset, .unset, .unset, .unset, .unset, .unset, .unset, .unset, .unset, .unset] [(.int (2 : Int32))])) rfl (hb hby at_1) rfl (by decide) (cap := 2) (by decide) (by decide) (by decide) (by decide)
  obtain ⟨b1, g1⟩ : ∃ z, z = h0.size := ⟨_, rfl⟩
  rw [← g1] at A1 st1
  have lo_b1 : n0 ≤ b1 := Nat.le_trans Z0 (Nat.le_of_eq g1.symm)
  have Zs1 : n0 ≤ h1.size := Nat.le_trans Z0 E1.1
  have Od1 : Old Z n0 h1 := Od0.ext E1
  refine own_go st1 ?_
  show own_Goes _ _ _ _ _ _ _ T1 (mkF m 3 #[.val (.int p0), .val (.int p1), .val (.int p2), .unset, .unset, .unset, .unset, .unset, .unset, .unset, .unset, .unset, .unset, .unset, .unset] [(.ref b1)])
  refine own_go (fun _ k => XS.astoreN X1.here hx rfl (hb hby at_3) rfl rfl (l' := #[.val (.int p0), .val (.int p1), .val (.int p2), .val (.ref b1), .unset, .unset, .unset, .unset, .unset, .unset, .unset, .unset, .unset, .unset, .unset]) rfl k) ?_
  show own_Goes _ _ _ _ _ _ _ T1 (mkF m 4 #[.val (.int p0), .val (.int p1), .val (.int p2), .val (.ref b1), .unset, .unset, .unset, .unset, .unset, .unset, .unset, .unset, .unset, .unset, .unset] [])
  refine own_go (fun _ k => XS.aloadN X1.here hx rfl (hb hby at_4) rfl rfl k) ?_
  show own_Goes _ _ _ _ _ _ _ T1 (mkF m 5 #[.val (.int p0), .val (.int p1), .val (.int p2), .val (.ref b1), .unset, .unset, .unset, .unset, .unset, .unset, .unset, .unset, .unset, .unset, .unset] [(.ref b1)])
  refine own_go (fun _ k => XS.iconst X1.here hx rfl (hb hby at_5) k) ?_
  show own_Goes _ _ _ _ _ _ _ T1 (mkF m 6 #[.val (.int p0), .val (.int p1), .val (.int p2), .val (.ref b1), .unset, .unset, .unset, .unset, .unset, .unset, .unset, .unset, .unset, .unset, .unset] [(.int (0 : Int32)), (.ref b1)])
  refine own_go (fun _ k => XS.iloadN X1.here hx rfl (hb hby at_6) rfl k) ?_
  show own_Goes _ _ _ _ _ _ _ T1 (mkF m 7 #[.val (.int p0), .val (.int p1), .val (.int p2), .val (.ref b1), .unset, .unset, .unset, .unset, .unset, .unset, .unset, .unset, .unset, .unset, .unset] [(.int p2), (.int (0 : Int32)), (.ref b1)])
  refine own_go (fun _ k => XS.sipush X1.here hx rfl (hb hby at_7) k) ?_
  show own_Goes _ _ _ _ _ _ _ T1 (mkF m 10 #[.val (.int p0), .val (.int p1), .val (.int p2), .val (.ref b1), .unset, .unset, .unset, .unset, .unset, .unset, .unset, .unset, .unset, .unset, .unset] [(.int (255 : Int32)), (.int p2), (.int (0 : Int32)), (.ref b1)])
  refine own_go (fun _ k => XS.iand X1.here hx rfl (hb hby at_10) rfl k) ?_
  show own_Goes _ _ _ _ _ _ _ T1 (mkF m 11 #[.val (.int p0), .val (.int p1), .val (.int p2), .val (.ref b1), .unset, .unset, .unset, .unset, .unset, .unset, .unset, .unset, .unset, .unset, .unset] [(.int (p2 &&& (255 : Int32))), (.int (0 : Int32)), (.ref b1)])
  refine own_go (fun _ k => XS.i2c X1.here hx rfl (hb hby at_11) rfl k) ?_
  show own_Goes _ _ _ _ _ _ _ T1 (mkF m 12 #[.val (.int p0), .val (.int p1), .val (.int p2), .val (.ref b1), .unset, .unset, .unset, .unset, .unset, .unset, .unset, .unset, .unset, .unset, .unset] [(.int ((p2 &&& (255 : Int32)).toUInt32.toUInt16.toUInt32.toInt32)), (.int (0 : Int32)), (.ref b1)])
  obtain ⟨T2, h2, X2, e2, W2, st2⟩ := stC X1 hx hZ e1 A1 (j := (0 : Int32)) (by show ¬ ((0 : Int32) < 0 ∨ 2 ≤ Int32.toNatClampNeg (0 : Int32)); decide) (g := (mkF m 12 #[.val (.int p0), .val (.int p1), .val (.int p2), .val (.ref b1), .unset, .unset, .unset, .unset, .unset, .unset, .unset, .unset, .unset, .unset, .unset] [(.int ((p2 &&& (255 : Int32)).toUInt32.toUInt16.toUInt32.toInt32)), (.int (0 : Int32)), (.ref b1)])) rfl rfl (hb hby at_12)
  have N2 := Fr.snoc X2 N0 lo_b1
  have Zs2 : n0 ≤ h2.size := Nat.le_trans Zs1 (Keep.of_wr W2).1
  have Od2 : Old Z n0 h2 := Od1.wr W2 lo_b1
  have V_b1_2 : Arr Z h2 b1 ((newA k1 .char (2 : Int32)).setSlot ((0 : Int32)).toNatClampNeg (.int (nar .char ((p2 &&& (255 : Int32)).toUInt32.toUInt16.toUInt32.toInt32)))) .char := A1.same W2
  refine own_go st2 ?_
  show own_Goes _ _ _ _ _ _ _ T2 (mkF m 13 #[.val (.int p0), .val (.int p1), .val (.int p2), .val (.ref b1), .unset, .unset, .unset, .unset, .unset, .unset, .unset, .unset, .unset, .unset, .unset] [])
  refine own_go (fun _ k => XS.aloadN X2.here hx rfl (hb hby at_13) rfl rfl k) ?_
  show own_Goes _ _ _ _ _ _ _ T2 (mkF m 14 #[.val (.int p0), .val (.int p1), .val (.int p2), .val (.ref b1), .unset, .unset, .unset, .unset, .unset, .unset, .unset, .unset, .unset, .unset, .unset] [(.ref b1)])
  refine own_go (fun _ k => XS.iconst X2.here hx rfl (hb hby at_14) k) ?_
  show own_Goes _ _ _ _ _ _ _ T2 (mkF m 15 #[.val (.int p0), .val (.int p1), .val (.int p2), .val (.ref b1), .unset, .unset, .unset, .unset, .unset, .unset, .unset, .unset, .unset, .unset, .unset] [(.int (1 : Int32)), (.ref b1)])
  refine own_go (fun _ k => XS.iloadN X2.here hx rfl (hb hby at_15) rfl k) ?_
  show own_Goes _ _ _ _ _ _ _ T2 (mkF m 16 #[.val (.int p0), .val (.int p1), .val (.int p2), .val (.ref b1), .unset, .unset, .unset, .unset, .unset, .unset, .unset, .unset, .unset, .unset, .unset] [(.int p2), (.int (1 : Int32)), (.ref b1)])
  refine own_go (fun _ k => XS.bipush X2.here hx rfl (hb hby at_16) k) ?_
  show own_Goes _ _ _ _ _ _ _ T2 (mkF m 18 #[.val (.int p0), .val (.int p1), .val (.int p2), .val (.ref b1), .unset, .unset, .unset, .unset, .unset, .unset, .unset, .unset, .unset, .unset, .unset] [(.int (8 : Int32)), (.int p2), (.int (1 : Int32)), (.ref b1)])
  refine own_go (fun _ k => XS.iushr X2.here hx rfl (hb hby at_18) rfl k) ?_
  show own_Goes _ _ _ _ _ _ _ T2 (mkF m 19 #[.val (.int p0), .val (.int p1), .val (.int p2), .val (.ref b1), .unset, .unset, .unset, .unset, .unset, .unset, .unset, .unset, .unset, .unset, .unset] [(.int ((p2.toUInt32 >>> ((8 : Int32) &&& 31).toUInt32).toInt32)), (.int (1 : Int32)), (.ref b1)])
  refine own_go (fun _ k => XS.sipush X2.here hx rfl (hb hby at_19) k) ?_
  show own_Goes _ _ _ _ _ _ _ T2 (mkF m 22 #[.val (.int p0), .val (.int p1), .val (.int p2), .val (.ref b1), .unset, .unset, .unset, .unset, .unset, .unset, .unset, .unset, .unset, .unset, .unset] [(.int (255 : Int32)), (.int ((p2.toUInt32 >>> ((8 : Int32) &&& 31).toUInt32).toInt32)), (.int (1 : Int32)), (.ref b1)])
  refine own_go (fun _ k => XS.iand X2.here hx rfl (hb hby at_22) rfl k) ?_
  show own_Goes _ _ _ _ _ _ _ T2 (mkF m 23 #[.val (.int p0), .val (.int p1), .val (.int p2), .val (.ref b1), .unset, .unset, .unset, .unset, .unset, .unset, .unset, .unset, .unset, .unset, .unset] [(.int (((p2.toUInt32 >>> ((8 : Int32) &&& 31).toUInt32).toInt32) &&& (255 : Int32))), (.int (1 : Int32)), (.ref b1)])
  refine own_go (fun _ k => XS.i2c X2.here hx rfl (hb hby at_23) rfl k) ?_
  show own_Goes _ _ _ _ _ _ _ T2 (mkF m 24 #[.val (.int p0), .val (.int p1), .val (.int p2), .val (.ref b1), .unset, .unset, .unset, .unset, .unset, .unset, .unset, .unset, .unset, .unset, .unset] [(.int ((((p2.toUInt32 >>> ((8 : Int32) &&& 31).toUInt32).toInt32) &&& (255 : Int32)).toUInt32.toUInt16.toUInt32.toInt32)), (.int (1 : Int32)), (.ref b1)])
  obtain ⟨T3, h3, X3, e3, W3, st3⟩ := stC X2 hx hZ e2 V_b1_2 (j := (1 : Int32)) (by show ¬ ((1 : Int32) < 0 ∨ 2 ≤ Int32.toNatClampNeg (1 : Int32)); decide) (g := (mkF m 24 #[.val (.int p0), .val (.int p1), .val (.int p2), .val (.ref b1), .unset, .unset, .unset, .unset, .unset, .unset, .unset, .unset, .unset, .unset, .unset] [(.int ((((p2.toUInt32 >>> ((8 : Int32) &&& 31).toUInt32).toInt32) &&& (255 : Int32)).toUInt32.toUInt16.toUInt32.toInt32)), (.int (1 : Int32)), (.ref b1)])) rfl rfl (hb hby at_24)
  have N3 := Fr.snoc X3 N2 lo_b1
  have Zs3 : n0 ≤ h3.size := Nat.le_trans Zs2 (Keep.of_wr W3).1
  have Od3 : Old Z n0 h3 := Od2.wr W3 lo_b1
  have V_b1_3 : Arr Z h3 b1 (((newA k1 .char (2 : Int32)).setSlot ((0 : Int32)).toNatClampNeg (.int (nar .char ((p2 &&& (255 : Int32)).toUInt32.toUInt16.toUInt32.toInt32)))).setSlot ((1 : Int32)).toNatClampNeg (.int (nar .char ((((p2.toUInt32 >>> ((8 : Int32) &&& 31).toUInt32).toInt32) &&& (255 : Int32)).toUInt32.toUInt16.toUInt32.toInt32)))) .char := V_b1_2.same W3
  refine own_go st3 ?_
  show own_Goes _ _ _ _ _ _ _ T3 (mkF m 25 #[.val (.int p0), .val (.int p1), .val (.int p2), .val (.ref b1), .unset, .unset, .unset, .unset, .unset, .unset, .unset, .unset, .unset, .unset, .unset] [])
  refine own_go (fun _ k => XS.iconst X3.here hx rfl (hb hby at_25) k) ?_
  show own_Goes _ _ _ _ _ _ _ T3 (mkF m 26 #[.val (.int p0), .val (.int p1), .val (.int p2), .val (.ref b1), .unset, .unset, .unset, .unset, .unset, .unset, .unset, .unset, .unset, .unset, .unset] [(.int (2 : Int32))])
  obtain ⟨T4, h4, k4, X4, e4, E4, A4, st4⟩ := newP X3 hx hZ (hw _ (List.mem_of_getElem? (i := 0) rfl)) e3 (g := (mkF m 26 #[.val (.int p0), .val (.int p1), .val (.int p2), .val (.ref b1), .unset, .unset, .unset, .unset, .unset, .unset, .unset, .unset, .unset, .unset, .unset] [(.int (2 : Int32))])) rfl (hb hby at_26) rfl (by decide) (cap := 2) (by decide) (by decide) (by decide) (by decide)
  obtain ⟨b4, g4⟩ : ∃ z, z = h3.size := ⟨_, rfl⟩
  rw [← g4] at A4 st4
  have lo_b4 : n0 ≤ b4 := Nat.le_trans Zs3 (Nat.le_of_eq g4.symm)
  have ne_b1_b4 : b1 ≠ b4 := Nat.ne_of_lt (Nat.lt_of_lt_of_le V_b1_3.lt (Nat.le_of_eq g4.symm))
  have V_b1_4 : Arr Z h4 b1 (((newA k1 .char (2 : Int32)).setSlot ((0 : Int32)).toNatClampNeg (.int (nar .char ((p2 &&& (255 : Int32)).toUInt32.toUInt16.toUInt32.toInt32)))).setSlot ((1 : Int32)).toNatClampNeg (.int (nar .char ((((p2.toUInt32 >>> ((8 : Int32) &&& 31).toUInt32).toInt32) &&& (255 : Int32)).toUInt32.toUInt16.toUInt32.toInt32)))) .char := V_b1_3.ext E4
  have Zs4 : n0 ≤ h4.size := Nat.le_trans Zs3 E4.1
  have Od4 : Old Z n0 h4 := Od3.ext E4
  refine own_go st4 ?_
  show own_Goes _ _ _ _ _ _ _ T4 (mkF m 28 #[.val (.int p0), .val (.int p1), .val (.int p2), .val (.ref b1), .unset, .unset, .unset, .unset, .unset, .unset, .unset, .unset, .unset, .unset, .unset] [(.ref b4)])
  refine own_go (fun _ k => XS.astore X4.here hx rfl (hb hby at_28) rfl rfl (l' := #[.val (.int p0), .val (.int p1), .val (.int p2), .val (.ref b1), .val (.ref b4), .unset, .unset, .unset, .unset, .unset, .unset, .unset, .unset, .unset, .unset]) rfl k) ?_
  show own_Goes _ _ _ _ _ _ _ T4 (mkF m 30 #[.val (.int p0), .val (.int p1), .val (.int p2), .val (.ref b1), .val (.ref b4), .unset, .unset, .unset, .unset, .unset, .unset, .unset, .unset, .unset, .unset] [])
  refine own_go (fun _ k => XS.aload X4.here hx rfl (hb hby at_30) rfl rfl k) ?_
  show own_Goes _ _ _ _ _ _ _ T4 (mkF m 32 #[.val (.int p0), .val (.int p1), .val (.int p2), .val (.ref b1), .val (.ref b4), .unset, .unset, .unset, .unset, .unset, .unset, .unset, .unset, .unset, .unset] [(.ref b4)])
  refine own_go (fun _ k => XS.iconst X4.here hx rfl (hb hby at_32) k) ?_
  show own_Goes _ _ _ _ _ _ _ T4 (mkF m 33 #[.val (.int p0), .val (.int p1), .val (.int p2), .val (.ref b1), .val (.ref b4), .unset, .unset, .unset, .unset, .unset, .unset, .unset, .unset, .unset, .unset] [(.int (0 : Int32)), (.ref b4)])
  refine own_go (fun _ k => XS.iloadN X4.here hx rfl (hb hby at_33) rfl k) ?_
  show own_Goes _ _ _ _ _ _ _ T4 (mkF m 34 #[.val (.int p0), .val (.int p1), .val (.int p2), .val (.ref b1), .val (.ref b4), .unset, .unset, .unset, .unset, .unset, .unset, .unset, .unset, .unset, .unset] [(.int p2), (.int (0 : Int32)), (.ref b4)])
  refine own_go (fun _ k => XS.bipush X4.here hx rfl (hb hby at_34) k) ?_
  show own_Goes _ _ _ _ _ _ _ T4 (mkF m 36 #[.val (.int p0), .val (.int p1), .val (.int p2), .val (.ref b1), .val (.ref b4), .unset, .unset, .unset, .unset, .unset, .unset, .unset, .unset, .unset, .unset] [(.int (16 : Int32)), (.int p2), (.int (0 : Int32)), (.ref b4)])
  refine own_go (fun _ k => XS.iushr X4.here hx rfl (hb hby at_36) rfl k) ?_
  show own_Goes _ _ _ _ _ _ _ T4 (mkF m 37 #[.val (.int p0), .val (.int p1), .val (.int p2), .val (.ref b1), .val (.ref b4), .unset, .unset, .unset, .unset, .unset, .unset, .unset, .unset, .unset, .unset] [(.int ((p2.toUInt32 >>> ((16 : Int32) &&& 31).toUInt32).toInt32)), (.int (0 : Int32)), (.ref b4)])
  refine own_go (fun _ k => XS.sipush X4.here hx rfl (hb hby at_37) k) ?_
  show own_Goes _ _ _ _ _ _ _ T4 (mkF m 40 #[.val (.int p0), .val (.int p1), .val (.int p2), .val (.ref b1), .val (.ref b4), .unset, .unset, .unset, .unset, .unset, .unset, .unset, .unset, .unset, .unset] [(.int (255 : Int32)), (.int ((p2.toUInt32 >>> ((16 : Int32) &&& 31).toUInt32).toInt32)), (.int (0 : Int32)), (.ref b4)])
  refine own_go (fun _ k => XS.iand X4.here hx rfl (hb hby at_40) rfl k) ?_
  show own_Goes _ _ _ _ _ _ _ T4 (mkF m 41 #[.val (.int p0), .val (.int p1), .val (.int p2), .val (.ref b1), .val (.ref b4), .unset, .unset, .unset, .unset, .unset, .unset, .unset, .unset, .unset, .unset] [(.int (((p2.toUInt32 >>> ((16 : Int32) &&& 31).toUInt32).toInt32) &&& (255 : Int32))), (.int (0 : Int32)), (.ref b4)])
  refine own_go (fun _ k => XS.i2c X4.here hx rfl (hb hby at_41) rfl k) ?_
  show own_Goes _ _ _ _ _ _ _ T4 (mkF m 42 #[.val (.int p0), .val (.int p1), .val (.int p2), .val (.ref b1), .val (.ref b4), .unset, .unset, .unset, .unset, .unset, .unset, .unset, .unset, .unset, .unset] [(.int ((((p2.toUInt32 >>> ((16 : Int32) &&& 31).toUInt32).toInt32) &&& (255 : Int32)).toUInt32.toUInt16.toUInt32.toInt32)), (.int (0 : Int32)), (.ref b4)])
  obtain ⟨T5, h5, X5, e5, W5, st5⟩ := stC X4 hx hZ e4 A4 (j := (0 : Int32)) (by show ¬ ((0 : Int32) < 0 ∨ 2 ≤ Int32.toNatClampNeg (0 : Int32)); decide) (g := (mkF m 42 #[.val (.int p0), .val (.int p1), .val (.int p2), .val (.ref b1), .val (.ref b4), .unset, .unset, .unset, .unset, .unset, .unset, .unset, .unset, .unset, .unset] [(.int ((((p2.toUInt32 >>> ((16 : Int32) &&& 31).toUInt32).toInt32) &&& (255 : Int32)).toUInt32.toUInt16.toUInt32.toInt32)), (.int (0 : Int32)), (.ref b4)])) rfl rfl (hb hby at_42)
  have N5 := Fr.snoc X5 N3 lo_b4
  have V_b1_5 : Arr Z h5 b1 (((newA k1 .char (2 : Int32)).setSlot ((0 : Int32)).toNatClampNeg (.int (nar .char ((p2 &&& (255 : Int32)).toUInt32.toUInt16.toUInt32.toInt32)))).setSlot ((1 : Int32)).toNatClampNeg (.int (nar .char ((((p2.toUInt32 >>> ((8 : Int32) &&& 31).toUInt32).toInt32) &&& (255 : Int32)).toUInt32.toUInt16.toUInt32.toInt32)))) .char := V_b1_4.other W5 ne_b1_b4
  have Zs5 : n0 ≤ h5.size := Nat.le_trans Zs4 (Keep.of_wr W5).1
  have Od5 : Old Z n0 h5 := Od4.wr W5 lo_b4
  have V_b4_5 : Arr Z h5 b4 ((newA k4 .char (2 : Int32)).setSlot ((0 : Int32)).toNatClampNeg (.int (nar .char ((((p2.toUInt32 >>> ((16 : Int32) &&& 31).toUInt32).toInt32) &&& (255 : Int32)).toUInt32.toUInt16.toUInt32.toInt32)))) .char := A4.same W5
  refine own_go st5 ?_
  show own_Goes _ _ _ _ _ _ _ T5 (mkF m 43 #[.val (.int p0), .val (.int p1), .val (.int p2), .val (.ref b1), .val (.ref b4), .unset, .unset, .unset, .unset, .unset, .unset, .unset, .unset, .unset, .unset] [])
  refine own_go (fun _ k => XS.aload X5.here hx rfl (hb hby at_43) rfl rfl k) ?_
  show own_Goes _ _ _ _ _ _ _ T5 (mkF m 45 #[.val (.int p0), .val (.int p1), .val (.int p2), .val (.ref b1), .val (.ref b4), .unset, .unset, .unset, .unset, .unset, .unset, .unset, .unset, .unset, .unset] [(.ref b4)])
  refine own_go (fun _ k => XS.iconst X5.here hx rfl (hb hby at_45) k) ?_
  show own_Goes _ _ _ _ _ _ _ T5 (mkF m 46 #[.val (.int p0), .val (.int p1), .val (.int p2), .val (.ref b1), .val (.ref b4), .unset, .unset, .unset, .unset, .unset, .unset, .unset, .unset, .unset, .unset] [(.int (1 : Int32)), (.ref b4)])
  refine own_go (fun _ k => XS.iloadN X5.here hx rfl (hb hby at_46) rfl k) ?_
  show own_Goes _ _ _ _ _ _ _ T5 (mkF m 47 #[.val (.int p0), .val (.int p1), .val (.int p2), .val (.ref b1), .val (.ref b4), .unset, .unset, .unset, .unset, .unset, .unset, .unset, .unset, .unset, .unset] [(.int p2), (.int (1 : Int32)), (.ref b4)])
  refine own_go (fun _ k => XS.bipush X5.here hx rfl (hb hby at_47) k) ?_
  show own_Goes _ _ _ _ _ _ _ T5 (mkF m 49 #[.val (.int p0), .val (.int p1), .val (.int p2), .val (.ref b1), .val (.ref b4), .unset, .unset, .unset, .unset, .unset, .unset, .unset, .unset, .unset, .unset] [(.int (24 : Int32)), (.int p2), (.int (1 : Int32)), (.ref b4)])
  refine own_go (fun _ k => XS.iushr X5.here hx rfl (hb hby at_49) rfl k) ?_
  show own_Goes _ _ _ _ _ _ _ T5 (mkF m 50 #[.val (.int p0), .val (.int p1), .val (.int p2), .val (.ref b1), .val (.ref b4), .unset, .unset, .unset, .unset, .unset, .unset, .unset, .unset, .unset, .unset] [(.int ((p2.toUInt32 >>> ((24 : Int32) &&& 31).toUInt32).toInt32)), (.int (1 : Int32)), (.ref b4)])
  refine own_go (fun _ k => XS.sipush X5.here hx rfl (hb hby at_50) k) ?_
  show own_Goes _ _ _ _ _ _ _ T5 (mkF m 53 #[.val (.int p0), .val (.int p1), .val (.int p2), .val (.ref b1), .val (.ref b4), .unset, .unset, .unset, .unset, .unset, .unset, .unset, .unset, .unset, .unset] [(.int (255 : Int32)), (.int ((p2.toUInt32 >>> ((24 : Int32) &&& 31).toUInt32).toInt32)), (.int (1 : Int32)), (.ref b4)])
  refine own_go (fun _ k => XS.iand X5.here hx rfl (hb hby at_53) rfl k) ?_
  show own_Goes _ _ _ _ _ _ _ T5 (mkF m 54 #[.val (.int p0), .val (.int p1), .val (.int p2), .val (.ref b1), .val (.ref b4), .unset, .unset, .unset, .unset, .unset, .unset, .unset, .unset, .unset, .unset] [(.int (((p2.toUInt32 >>> ((24 : Int32) &&& 31).toUInt32).toInt32) &&& (255 : Int32))), (.int (1 : Int32)), (.ref b4)])
  refine own_go (fun _ k => XS.i2c X5.here hx rfl (hb hby at_54) rfl k) ?_
  show own_Goes _ _ _ _ _ _ _ T5 (mkF m 55 #[.val (.int p0), .val (.int p1), .val (.int p2), .val (.ref b1), .val (.ref b4), .unset, .unset, .unset, .unset, .unset, .unset, .unset, .unset, .unset, .unset] [(.int ((((p2.toUInt32 >>> ((24 : Int32) &&& 31).toUInt32).toInt32) &&& (255 : Int32)).toUInt32.toUInt16.toUInt32.toInt32)), (.int (1 : Int32)), (.ref b4)])
  obtain ⟨T6, h6, X6, e6, W6, st6⟩ := stC X5 hx hZ e5 V_b4_5 (j := (1 : Int32)) (by show ¬ ((1 : Int32) < 0 ∨ 2 ≤ Int32.toNatClampNeg (1 : Int32)); decide) (g := (mkF m 55 #[.val (.int p0), .val (.int p1), .val (.int p2), .val (.ref b1), .val (.ref b4), .unset, .unset, .unset, .unset, .unset, .unset, .unset, .unset, .unset, .unset] [(.int ((((p2.toUInt32 >>> ((24 : Int32) &&& 31).toUInt32).toInt32) &&& (255 : Int32)).toUInt32.toUInt16.toUInt32.toInt32)), (.int (1 : Int32)), (.ref b4)])) rfl rfl (hb hby at_55)
  have N6 := Fr.snoc X6 N5 lo_b4
  have V_b1_6 : Arr Z h6 b1 (((newA k1 .char (2 : Int32)).setSlot ((0 : Int32)).toNatClampNeg (.int (nar .char ((p2 &&& (255 : Int32)).toUInt32.toUInt16.toUInt32.toInt32)))).setSlot ((1 : Int32)).toNatClampNeg (.int (nar .char ((((p2.toUInt32 >>> ((8 : Int32) &&& 31).toUInt32).toInt32) &&& (255 : Int32)).toUInt32.toUInt16.toUInt32.toInt32)))) .char := V_b1_5.other W6 ne_b1_b4
  have Zs6 : n0 ≤ h6.size := Nat.le_trans Zs5 (Keep.of_wr W6).1
  have Od6 : Old Z n0 h6 := Od5.wr W6 lo_b4
  have V_b4_6 : Arr Z h6 b4 (((newA k4 .char (2 : Int32)).setSlot ((0 : Int32)).toNatClampNeg (.int (nar .char ((((p2.toUInt32 >>> ((16 : Int32) &&& 31).toUInt32).toInt32) &&& (255 : Int32)).toUInt32.toUInt16.toUInt32.toInt32)))).setSlot ((1 : Int32)).toNatClampNeg (.int (nar .char ((((p2.toUInt32 >>> ((24 : Int32) &&& 31).toUInt32).toInt32) &&& (255 : Int32)).toUInt32.toUInt16.toUInt32.toInt32)))) .char := V_b4_5.same W6
  refine own_go st6 ?_
  show own_Goes _ _ _ _ _ _ _ T6 (mkF m 56 #[.val (.int p0), .val (.int p1), .val (.int p2), .val (.ref b1), .val (.ref b4), .unset, .unset, .unset, .unset, .unset, .unset, .unset, .unset, .unset, .unset] [])
  obtain ⟨T7, h7, X7, e7, E7, A7, D7, -, st7⟩ := newO X6 hx hZ hown (hw _ (List.mem_of_getElem? (i := 1) rfl)) (hw _ (List.mem_of_getElem? (i := 2) rfl)) (hw _ (List.mem_of_getElem? (i := 3) rfl)) e6 (g := (mkF m 56 #[.val (.int p0), .val (.int p1), .val (.int p2), .val (.ref b1), .val (.ref b4), .unset, .unset, .unset, .unset, .unset, .unset, .unset, .unset, .unset, .unset] [])) rfl (hb hby at_56) (by decide) (by decide)
  obtain ⟨b7, g7⟩ : ∃ z, z = h6.size := ⟨_, rfl⟩
  rw [← g7] at A7 D7 st7
  have lo_b7 : n0 ≤ b7 := Nat.le_trans Zs6 (Nat.le_of_eq g7.symm)
  have ne_b1_b7 : b1 ≠ b7 := Nat.ne_of_lt (Nat.lt_of_lt_of_le V_b1_6.lt (Nat.le_of_eq g7.symm))
  have ne_b4_b7 : b4 ≠ b7 := Nat.ne_of_lt (Nat.lt_of_lt_of_le V_b4_6.lt (Nat.le_of_eq g7.symm))
  have V_b1_7 : Arr Z h7 b1 (((newA k1 .char (2 : Int32)).setSlot ((0 : Int32)).toNatClampNeg (.int (nar .char ((p2 &&& (255 : Int32)).toUInt32.toUInt16.toUInt32.toInt32)))).setSlot ((1 : Int32)).toNatClampNeg (.int (nar .char ((((p2.toUInt32 >>> ((8 : Int32) &&& 31).toUInt32).toInt32) &&& (255 : Int32)).toUInt32.toUInt16.toUInt32.toInt32)))) .char := V_b1_6.ext E7
  have V_b4_7 : Arr Z h7 b4 (((newA k4 .char (2 : Int32)).setSlot ((0 : Int32)).toNatClampNeg (.int (nar .char ((((p2.toUInt32 >>> ((16 : Int32) &&& 31).toUInt32).toInt32) &&& (255 : Int32)).toUInt32.toUInt16.toUInt32.toInt32)))).setSlot ((1 : Int32)).toNatClampNeg (.int (nar .char ((((p2.toUInt32 >>> ((24 : Int32) &&& 31).toUInt32).toInt32) &&& (255 : Int32)).toUInt32.toUInt16.toUInt32.toInt32)))) .char := V_b4_6.ext E7
  have Zs7 : n0 ≤ h7.size := Nat.le_trans Zs6 E7.1
  have Od7 : Old Z n0 h7 := Od6.ext E7
  have F_coder_b7 : Fld Z h7 b7 "java/lang/String" "coder" "B" (.int (0 : Int32)) := D7 (Or.inr (hw _ (List.mem_of_getElem? (i := 27) rfl))) (ty := .byte) (by decide)
  have F_value_b7 : Fld Z h7 b7 "java/lang/String" "value" "[B" .null := D7 (Or.inr (hw _ (List.mem_of_getElem? (i := 29) rfl))) (ty := (.array .byte)) (by decide)
  refine own_go st7 ?_
  show own_Goes _ _ _ _ _ _ _ T7 (mkF m 59 #[.val (.int p0), .val (.int p1), .val (.int p2), .val (.ref b1), .val (.ref b4), .unset, .unset, .unset, .unset, .unset, .unset, .unset, .unset, .unset, .unset] [(.ref b7)])
  refine own_go (fun _ k => XS.dup X7.here hx rfl (hb hby at_59) rfl rfl k) ?_
  show own_Goes _ _ _ _ _ _ _ T7 (mkF m 60 #[.val (.int p0), .val (.int p1), .val (.int p2), .val (.ref b1), .val (.ref b4), .unset, .unset, .unset, .unset, .unset, .unset, .unset, .unset, .unset, .unset] [(.ref b7), (.ref b7)])
  refine own_go (fun _ k => XS.aloadN X7.here hx rfl (hb hby at_60) rfl rfl k) ?_
  show own_Goes _ _ _ _ _ _ _ T7 (mkF m 61 #[.val (.int p0), .val (.int p1), .val (.int p2), .val (.ref b1), .val (.ref b4), .unset, .unset, .unset, .unset, .unset, .unset, .unset, .unset, .unset, .unset] [(.ref b1), (.ref b7), (.ref b7)])
  have V8 : Arv Z h7 b1 k1 .char 2 [.int (own_ch p2), .int (own_ch ((p2.toUInt32 >>> ((8 : Int32) &&& 31).toUInt32).toInt32))] (.int (0 : Int32)) := own_arv2 V_b1_7 (fits_nar_char _) (fits_nar_char _)
  have hp8 : ∀ c ∈ ([own_ch p2, own_ch ((p2.toUInt32 >>> ((8 : Int32) &&& 31).toUInt32).toInt32)] : List Int32), ¬ c < 0 ∧ ¬ (255 : Int32) < c := by
    intro c hc
    simp only [List.mem_cons, List.not_mem_nil, or_false] at hc
    rcases hc with rfl | rfl
    · exact own_ch_in _
    · exact own_ch_in _
  obtain ⟨_, _, ⟨T9, L9, k9, n9⟩, -, X9, ⟨Lc9, hQ9, l9, y9, z9⟩, st9⟩ := X7.specialBack hx (y := (⟨"java/lang/String", "<init>", "([C)V"⟩ : MethodName)) rfl hown (mvT hZ (hw _ (List.mem_of_getElem? (i := 4) rfl))) (mvT hZ (hw _ (List.mem_of_getElem? (i := 5) rfl))) (mvT hZ (hw _ (List.mem_of_getElem? (i := 6) rfl))) (by decide) (StrChars.Road.backV (W := 1) hZ (fun d hd => hw d (own_words d hd)) (kI := 4) (hw _ (List.mem_of_getElem? (i := 2) rfl)) (cs := ([own_ch p2, own_ch ((p2.toUInt32 >>> ((8 : Int32) &&& 31).toUInt32).toInt32)] : List Int32)) (bs := ([own_ch p2, own_ch ((p2.toUInt32 >>> ((8 : Int32) &&& 31).toUInt32).toInt32)] : List Int32).map (fun c => c.toInt8.toInt32)) (n := 2) lo_b7 Zs7 A7 F_value_b7 F_coder_b7 V8 (O2.ext Od7.2) P5 rfl rfl (by decide) (by decide) hp8 rfl (by decide) (by decide)) (g := (mkF m 61 #[.val (.int p0), .val (.int p1), .val (.int p2), .val (.ref b1), .val (.ref b4), .unset, .unset, .unset, .unset, .unset, .unset, .unset, .unset, .unset, .unset] [(.ref b1), (.ref b7), (.ref b7)])) rfl (by rw [hml]; rfl) (Steps.refl _) (a := b7) (argsL := [(.ref b1)]) (rest := [(.ref b7)]) (lenOf pd_3 rfl) rfl (by show 2 * 0 + _ ≤ _; exact Nat.le_of_eq rfl) (hb hby at_61) (fun _ _ => ⟨rfl, e7, (by decide : 0 + 1 + 1 + 1 + 1 ≤ _), (by decide : 0 + 2 + 2 + 4 + 2 ≤ _)⟩)
  dsimp only [Pt.U, Pt.locs, Pt.cells, Pt.slots] at X9 l9 y9 z9 st9 hQ9
  subst l9 y9 z9
  obtain ⟨rfl, N9q, K9, gE9, gC9, t9, kb9, gt9, gs9, gn9, gV9, gA9⟩ := hQ9
  have N9 := Fr.app N6 N9q
  refine own_goS st9 ?_
  show own_Goes _ _ _ _ _ _ _ T9 (mkF m 64 #[.val (.int p0), .val (.int p1), .val (.int p2), .val (.ref b1), .val (.ref b4), .unset, .unset, .unset, .unset, .unset, .unset, .unset, .unset, .unset, .unset] [(.ref b7)])
  have V_b1_9 : Arr Z T9.heap b1 (((newA k1 .char (2 : Int32)).setSlot ((0 : Int32)).toNatClampNeg (.int (nar .char ((p2 &&& (255 : Int32)).toUInt32.toUInt16.toUInt32.toInt32)))).setSlot ((1 : Int32)).toNatClampNeg (.int (nar .char ((((p2.toUInt32 >>> ((8 : Int32) &&& 31).toUInt32).toInt32) &&& (255 : Int32)).toUInt32.toUInt16.toUInt32.toInt32)))) .char := (⟨K9.2.1 _ _ V_b1_7.1 (ninS ne_b1_b7 nin0), V_b1_7.2⟩ : Arr Z T9.heap b1 (((newA k1 .char (2 : Int32)).setSlot ((0 : Int32)).toNatClampNeg (.int (nar .char ((p2 &&& (255 : Int32)).toUInt32.toUInt16.toUInt32.toInt32)))).setSlot ((1 : Int32)).toNatClampNeg (.int (nar .char ((((p2.toUInt32 >>> ((8 : Int32) &&& 31).toUInt32).toInt32) &&& (255 : Int32)).toUInt32.toUInt16.toUInt32.toInt32)))) .char)
  have V_b4_9 : Arr Z T9.heap b4 (((newA k4 .char (2 : Int32)).setSlot ((0 : Int32)).toNatClampNeg (.int (nar .char ((((p2.toUInt32 >>> ((16 : Int32) &&& 31).toUInt32).toInt32) &&& (255 : Int32)).toUInt32.toUInt16.toUInt32.toInt32)))).setSlot ((1 : Int32)).toNatClampNeg (.int (nar .char ((((p2.toUInt32 >>> ((24 : Int32) &&& 31).toUInt32).toInt32) &&& (255 : Int32)).toUInt32.toUInt16.toUInt32.toInt32)))) .char := (⟨K9.2.1 _ _ V_b4_7.1 (ninS ne_b4_b7 nin0), V_b4_7.2⟩ : Arr Z T9.heap b4 (((newA k4 .char (2 : Int32)).setSlot ((0 : Int32)).toNatClampNeg (.int (nar .char ((((p2.toUInt32 >>> ((16 : Int32) &&& 31).toUInt32).toInt32) &&& (255 : Int32)).toUInt32.toUInt16.toUInt32.toInt32)))).setSlot ((1 : Int32)).toNatClampNeg (.int (nar .char ((((p2.toUInt32 >>> ((24 : Int32) &&& 31).toUInt32).toInt32) &&& (255 : Int32)).toUInt32.toUInt16.toUInt32.toInt32)))) .char)
  have E_b7_9 : Exa Z T9.heap b7 "java/lang/String" := A7.keep K9
  have Zs9 : n0 ≤ T9.heap.size := Nat.le_trans Zs7 K9.1
  have Od9 : Old Z n0 T9.heap := Od7.keep K9 (allS lo_b7 all0)
  refine own_go (fun _ k => XS.astore X9.here hx rfl (hb hby at_64) rfl rfl (l' := #[.val (.int p0), .val (.int p1), .val (.int p2), .val (.ref b1), .val (.ref b4), .val (.ref b7), .unset, .unset, .unset, .unset, .unset, .unset, .unset, .unset, .unset]) rfl k) ?_
  show own_Goes _ _ _ _ _ _ _ T9 (mkF m 66 #[.val (.int p0), .val (.int p1), .val (.int p2), .val (.ref b1), .val (.ref b4), .val (.ref b7), .unset, .unset, .unset, .unset, .unset, .unset, .unset, .unset, .unset] [])
  obtain ⟨T10, h10, X10, e10, E10, A10, D10, -, st10⟩ := newO X9 hx hZ hown (hw _ (List.mem_of_getElem? (i := 1) rfl)) (hw _ (List.mem_of_getElem? (i := 2) rfl)) (hw _ (List.mem_of_getElem? (i := 3) rfl)) rfl (g := (mkF m 66 #[.val (.int p0), .val (.int p1), .val (.int p2), .val (.ref b1), .val (.ref b4), .val (.ref b7), .unset, .unset, .unset, .unset, .unset, .unset, .unset, .unset, .unset] [])) rfl (hb hby at_66) (by decide) (by decide)
  obtain ⟨b10, g10⟩ : ∃ z, z = T9.heap.size := ⟨_, rfl⟩
  rw [← g10] at A10 D10 st10
  have lo_b10 : n0 ≤ b10 := Nat.le_trans Zs9 (Nat.le_of_eq g10.symm)
  have ne_b1_b10 : b1 ≠ b10 := Nat.ne_of_lt (Nat.lt_of_lt_of_le V_b1_9.lt (Nat.le_of_eq g10.symm))
  have ne_b4_b10 : b4 ≠ b10 := Nat.ne_of_lt (Nat.lt_of_lt_of_le V_b4_9.lt (Nat.le_of_eq g10.symm))
  have ne_b7_b10 : b7 ≠ b10 := Nat.ne_of_lt (Nat.lt_of_lt_of_le E_b7_9.lt (Nat.le_of_eq g10.symm))
  have ne_t9_b10 : t9 ≠ b10 := Nat.ne_of_lt (Nat.lt_of_lt_of_le gA9.lt (Nat.le_of_eq g10.symm))
  have V_b1_10 : Arr Z h10 b1 (((newA k1 .char (2 : Int32)).setSlot ((0 : Int32)).toNatClampNeg (.int (nar .char ((p2 &&& (255 : Int32)).toUInt32.toUInt16.toUInt32.toInt32)))).setSlot ((1 : Int32)).toNatClampNeg (.int (nar .char ((((p2.toUInt32 >>> ((8 : Int32) &&& 31).toUInt32).toInt32) &&& (255 : Int32)).toUInt32.toUInt16.toUInt32.toInt32)))) .char := V_b1_9.ext E10
  have V_b4_10 : Arr Z h10 b4 (((newA k4 .char (2 : Int32)).setSlot ((0 : Int32)).toNatClampNeg (.int (nar .char ((((p2.toUInt32 >>> ((16 : Int32) &&& 31).toUInt32).toInt32) &&& (255 : Int32)).toUInt32.toUInt16.toUInt32.toInt32)))).setSlot ((1 : Int32)).toNatClampNeg (.int (nar .char ((((p2.toUInt32 >>> ((24 : Int32) &&& 31).toUInt32).toInt32) &&& (255 : Int32)).toUInt32.toUInt16.toUInt32.toInt32)))) .char := V_b4_9.ext E10
  have E_b7_10 : Exa Z h10 b7 "java/lang/String" := E_b7_9.ext E10
  have C_b7_10 : Fld Z h10 b7 "java/lang/String" "coder" "B" (.int (0 : Int32)) := gC9.ext E10
  have W_b7_10 : Fld Z h10 b7 "java/lang/String" "value" "[B" (.ref t9) := gV9.ext E10
  have Y_b7_10 : Arv Z h10 t9 kb9 .byte (2 : Int32) (([own_ch p2, own_ch ((p2.toUInt32 >>> ((8 : Int32) &&& 31).toUInt32).toInt32)] : List Int32).map (fun c => c.toInt8.toInt32) |>.map Value.int) (.int 0) := gA9.ext E10
  have Zs10 : n0 ≤ h10.size := Nat.le_trans Zs9 E10.1
  have Od10 : Old Z n0 h10 := Od9.ext E10
  have F_coder_b10 : Fld Z h10 b10 "java/lang/String" "coder" "B" (.int (0 : Int32)) := D10 (Or.inr (hw _ (List.mem_of_getElem? (i := 27) rfl))) (ty := .byte) (by decide)
  have F_value_b10 : Fld Z h10 b10 "java/lang/String" "value" "[B" .null := D10 (Or.inr (hw _ (List.mem_of_getElem? (i := 29) rfl))) (ty := (.array .byte)) (by decide)
  refine own_go st10 ?_
  show own_Goes _ _ _ _ _ _ _ T10 (mkF m 69 #[.val (.int p0), .val (.int p1), .val (.int p2), .val (.ref b1), .val (.ref b4), .val (.ref b7), .unset, .unset, .unset, .unset, .unset, .unset, .unset, .unset, .unset] [(.ref b10)])
  refine own_go (fun _ k => XS.dup X10.here hx rfl (hb hby at_69) rfl rfl k) ?_
  show own_Goes _ _ _ _ _ _ _ T10 (mkF m 70 #[.val (.int p0), .val (.int p1), .val (.int p2), .val (.ref b1), .val (.ref b4), .val (.ref b7), .unset, .unset, .unset, .unset, .unset, .unset, .unset, .unset, .unset] [(.ref b10), (.ref b10)])
  refine own_go (fun _ k => XS.aload X10.here hx rfl (hb hby at_70) rfl rfl k) ?_
  show own_Goes _ _ _ _ _ _ _ T10 (mkF m 72 #[.val (.int p0), .val (.int p1), .val (.int p2), .val (.ref b1), .val (.ref b4), .val (.ref b7), .unset, .unset, .unset, .unset, .unset, .unset, .unset, .unset, .unset] [(.ref b4), (.ref b10), (.ref b10)])
  have V11 : Arv Z h10 b4 k4 .char 2 [.int (own_ch ((p2.toUInt32 >>> ((16 : Int32) &&& 31).toUInt32).toInt32)), .int (own_ch ((p2.toUInt32 >>> ((24 : Int32) &&& 31).toUInt32).toInt32))] (.int (0 : Int32)) := own_arv2 V_b4_10 (fits_nar_char _) (fits_nar_char _)
  have hp11 : ∀ c ∈ ([own_ch ((p2.toUInt32 >>> ((16 : Int32) &&& 31).toUInt32).toInt32), own_ch ((p2.toUInt32 >>> ((24 : Int32) &&& 31).toUInt32).toInt32)] : List Int32), ¬ c < 0 ∧ ¬ (255 : Int32) < c := by
    intro c hc
    simp only [List.mem_cons, List.not_mem_nil, or_false] at hc
    rcases hc with rfl | rfl
    · exact own_ch_in _
    · exact own_ch_in _
  obtain ⟨_, _, ⟨T12, L12, k12, n12⟩, -, X12, ⟨Lc12, hQ12, l12, y12, z12⟩, st12⟩ := X10.specialBack hx (y := (⟨"java/lang/String", "<init>", "([C)V"⟩ : MethodName)) rfl hown (mvT hZ (hw _ (List.mem_of_getElem? (i := 4) rfl))) (mvT hZ (hw _ (List.mem_of_getElem? (i := 5) rfl))) (mvT hZ (hw _ (List.mem_of_getElem? (i := 6) rfl))) (by decide) (StrChars.Road.backV (W := 1) hZ (fun d hd => hw d (own_words d hd)) (kI := 4) (hw _ (List.mem_of_getElem? (i := 2) rfl)) (cs := ([own_ch ((p2.toUInt32 >>> ((16 : Int32) &&& 31).toUInt32).toInt32), own_ch ((p2.toUInt32 >>> ((24 : Int32) &&& 31).toUInt32).toInt32)] : List Int32)) (bs := ([own_ch ((p2.toUInt32 >>> ((16 : Int32) &&& 31).toUInt32).toInt32), own_ch ((p2.toUInt32 >>> ((24 : Int32) &&& 31).toUInt32).toInt32)] : List Int32).map (fun c => c.toInt8.toInt32)) (n := 2) lo_b10 Zs10 A10 F_value_b10 F_coder_b10 V11 (O2.ext Od10.2) P5 rfl rfl (by decide) (by decide) hp11 rfl (by decide) (by decide)) (g := (mkF m 72 #[.val (.int p0), .val (.int p1), .val (.int p2), .val (.ref b1), .val (.ref b4), .val (.ref b7), .unset, .unset, .unset, .unset, .unset, .unset, .unset, .unset, .unset] [(.ref b4), (.ref b10), (.ref b10)])) rfl (by rw [hml]; rfl) (Steps.refl _) (a := b10) (argsL := [(.ref b4)]) (rest := [(.ref b10)]) (lenOf pd_3 rfl) rfl (by show 2 * 0 + _ ≤ _; exact Nat.le_of_eq rfl) (hb hby at_72) (fun _ _ => ⟨rfl, e10, (by decide : 0 + 1 + 1 + 1 + 1 + 1 + 1 ≤ _), (by decide : 0 + 2 + 2 + 4 + 2 + 4 + 2 ≤ _)⟩)
  dsimp only [Pt.U, Pt.locs, Pt.cells, Pt.slots] at X12 l12 y12 z12 st12 hQ12
  subst l12 y12 z12
  obtain ⟨rfl, N12q, K12, gE12, gC12, t12, kb12, gt12, gs12, gn12, gV12, gA12⟩ := hQ12
  have N12 := Fr.app N9 N12q
  refine own_goS st12 ?_
  show own_Goes _ _ _ _ _ _ _ T12 (mkF m 75 #[.val (.int p0), .val (.int p1), .val (.int p2), .val (.ref b1), .val (.ref b4), .val (.ref b7), .unset, .unset, .unset, .unset, .unset, .unset, .unset, .unset, .unset] [(.ref b10)])
  have V_b1_12 : Arr Z T12.heap b1 (((newA k1 .char (2 : Int32)).setSlot ((0 : Int32)).toNatClampNeg (.int (nar .char ((p2 &&& (255 : Int32)).toUInt32.toUInt16.toUInt32.toInt32)))).setSlot ((1 : Int32)).toNatClampNeg (.int (nar .char ((((p2.toUInt32 >>> ((8 : Int32) &&& 31).toUInt32).toInt32) &&& (255 : Int32)).toUInt32.toUInt16.toUInt32.toInt32)))) .char := (⟨K12.2.1 _ _ V_b1_10.1 (ninS ne_b1_b10 nin0), V_b1_10.2⟩ : Arr Z T12.heap b1 (((newA k1 .char (2 : Int32)).setSlot ((0 : Int32)).toNatClampNeg (.int (nar .char ((p2 &&& (255 : Int32)).toUInt32.toUInt16.toUInt32.toInt32)))).setSlot ((1 : Int32)).toNatClampNeg (.int (nar .char ((((p2.toUInt32 >>> ((8 : Int32) &&& 31).toUInt32).toInt32) &&& (255 : Int32)).toUInt32.toUInt16.toUInt32.toInt32)))) .char)
  have V_b4_12 : Arr Z T12.heap b4 (((newA k4 .char (2 : Int32)).setSlot ((0 : Int32)).toNatClampNeg (.int (nar .char ((((p2.toUInt32 >>> ((16 : Int32) &&& 31).toUInt32).toInt32) &&& (255 : Int32)).toUInt32.toUInt16.toUInt32.toInt32)))).setSlot ((1 : Int32)).toNatClampNeg (.int (nar .char ((((p2.toUInt32 >>> ((24 : Int32) &&& 31).toUInt32).toInt32) &&& (255 : Int32)).toUInt32.toUInt16.toUInt32.toInt32)))) .char := (⟨K12.2.1 _ _ V_b4_10.1 (ninS ne_b4_b10 nin0), V_b4_10.2⟩ : Arr Z T12.heap b4 (((newA k4 .char (2 : Int32)).setSlot ((0 : Int32)).toNatClampNeg (.int (nar .char ((((p2.toUInt32 >>> ((16 : Int32) &&& 31).toUInt32).toInt32) &&& (255 : Int32)).toUInt32.toUInt16.toUInt32.toInt32)))).setSlot ((1 : Int32)).toNatClampNeg (.int (nar .char ((((p2.toUInt32 >>> ((24 : Int32) &&& 31).toUInt32).toInt32) &&& (255 : Int32)).toUInt32.toUInt16.toUInt32.toInt32)))) .char)
  have E_b7_12 : Exa Z T12.heap b7 "java/lang/String" := E_b7_10.keep K12
  have C_b7_12 : Fld Z T12.heap b7 "java/lang/String" "coder" "B" (.int (0 : Int32)) := C_b7_10.keep K12 (ninS ne_b7_b10 nin0)
  have W_b7_12 : Fld Z T12.heap b7 "java/lang/String" "value" "[B" (.ref t9) := W_b7_10.keep K12 (ninS ne_b7_b10 nin0)
  have Y_b7_12 : Arv Z T12.heap t9 kb9 .byte (2 : Int32) (([own_ch p2, own_ch ((p2.toUInt32 >>> ((8 : Int32) &&& 31).toUInt32).toInt32)] : List Int32).map (fun c => c.toInt8.toInt32) |>.map Value.int) (.int 0) := Y_b7_10.keep K12 (ninS ne_t9_b10 nin0)
  have E_b10_12 : Exa Z T12.heap b10 "java/lang/String" := A10.keep K12
  have Zs12 : n0 ≤ T12.heap.size := Nat.le_trans Zs10 K12.1
  have Od12 : Old Z n0 T12.heap := Od10.keep K12 (allS lo_b10 all0)
  refine own_go (fun _ k => XS.astore X12.here hx rfl (hb hby at_75) rfl rfl (l' := #[.val (.int p0), .val (.int p1), .val (.int p2), .val (.ref b1), .val (.ref b4), .val (.ref b7), .val (.ref b10), .unset, .unset, .unset, .unset, .unset, .unset, .unset, .unset]) rfl k) ?_
  show own_Goes _ _ _ _ _ _ _ T12 (mkF m 77 #[.val (.int p0), .val (.int p1), .val (.int p2), .val (.ref b1), .val (.ref b4), .val (.ref b7), .val (.ref b10), .unset, .unset, .unset, .unset, .unset, .unset, .unset, .unset] [])
  have S5 : own_Str Z T12.heap T12.heap.size b7 ([own_ch p2, own_ch ((p2.toUInt32 >>> ((8 : Int32) &&& 31).toUInt32).toInt32)] : List Int32) := ⟨E_b7_12, C_b7_12, E_b7_12.lt, hp8, Nat.le_of_ble_eq_true rfl, _, _, Y_b7_12.lt, W_b7_12, Y_b7_12⟩
  have S6 : own_Str Z T12.heap T12.heap.size b10 ([own_ch ((p2.toUInt32 >>> ((16 : Int32) &&& 31).toUInt32).toInt32), own_ch ((p2.toUInt32 >>> ((24 : Int32) &&& 31).toUInt32).toInt32)] : List Int32) := ⟨E_b10_12, gC12, E_b10_12.lt, hp11, Nat.le_of_ble_eq_true rfl, _, _, gA12.lt, gV12, gA12⟩
  exact seg77 p0 p1 p2 b1 b4 b7 b10 _ _ hw ⟨hx, hby, hml, hown, hnm, hret, hlk, hZ⟩ X12 rfl n0 Zs12 N12 _ Zs12 S5 S6 Od12 (Nat.le_refl _) G1 O2 P5
set_option maxRecDepth 65536 in
set_option maxHeartbeats 40000000 in
theorem comes_1 {Post : Tables → Env → Array Value → State → Outcome → State → Prop} (hpost : ∀ tb e args s v u, (limb_1_1.after args s (.returned v) u = true ∧ limb_1_2.after args s (.returned v) u = true ∧ True) → FrameEnd s (.returned v) u (Jvm.fieldLocs frame_1_writes args s ++ Jvm.arrayLocs frame_1_arrays args s ++ Jvm.staticLocs frame_1_statics s) 24 192 → Post tb e args s (.returned v) u) :
    ArmFor flags0 classFile x code maxLocals ret World_1 tables_1 room_1 Calls_1 rest_1 Pre_1 Post := by
  intro l hfl _ _ p e ha hc hk s m args below hf hA hF happ hP
  obtain ⟨hcalls, hrest, hpre⟩ := hP
  obtain ⟨-, -, -, hnamed, -, -, -, hat⟩ := (Spec.applies_iff hf).mp happ
  obtain ⟨hg, hn⟩ := and_e (Cond.before_iff.mp (show (Jvm.Cond.and given_1 narrow_1).before args s = true from hpre))
  obtain ⟨g0, gr0⟩ := and_e hg
  obtain ⟨ga0, gr1⟩ := and_e gr0
  obtain ⟨ga1, gr2⟩ := and_e gr1
  have ga2 := gr2
  obtain ⟨w0, w1, w2, rfl⟩ : ∃ w0 w1 w2 : Value, args = #[w0, w1, w2] := by
    have hs : args.size = 3 := by simpa [Cond.value, given_1] using g0
    obtain ⟨L⟩ := args
    match L, hs with
    | [w0, w1, w2], _ => exact ⟨w0, w1, w2, rfl⟩
  have hw := fun d (hd : d ∈ tables_1) => atoms_spec (ws := Jvm.Cond.code x code maxLocals ret :: tables_1) hat d (List.mem_cons_of_mem _ hd)
  have hfit : Fit s := fun {y c} hc i hi => by
    obtain ⟨ha, rfl⟩ := Array.getElem?_eq_some_iff.mp hc
    have q := List.all_eq_true.mp ((Array.all_eq_true_iff_forall_mem.mp hF) _ (Array.getElem_mem ha)) i (List.mem_range.mpr hi)
    simpa [Array.getElem?_eq_getElem hi] using q
  obtain ⟨i0, ei0⟩ := is_v ga0
  obtain rfl : w0 = (.int i0) := Option.some.inj ei0
  obtain ⟨i1, ei1⟩ := is_v ga1
  obtain rfl : w1 = (.int i1) := Option.some.inj ei1
  obtain ⟨i2, ei2⟩ := is_v ga2
  obtain rfl : w2 = (.int i2) := Option.some.inj ei2
  obtain ⟨hsets, -⟩ := atoms_of _ (rest_1_c_eq ▸ (show rest_1_c.before _ s = true from hrest))
  have n3 := not_v (Cond.before_iff.mp (hsets _ (List.mem_of_getElem? (i := 2) rfl)))
  obtain ⟨G1, e6⟩ := is_v (Cond.before_iff.mp (hsets _ (List.mem_of_getElem? (i := 1) rfl)))
  have O2 : Sta s s.heap "java/lang/String" "COMPACT_STRINGS" "Z" (.int G1) := Sta.start e6 (Or.inl (hsets _ (List.mem_of_getElem? (i := 0) rfl)))
  have P5 : ¬ (G1 = (0 : Int32)) := gotF (Cond.eq_ints e6 (Term.int_eval (0))) n3
  obtain ⟨n, o, h1, h2, h3, _, L, rfl, ⟨rfl, N⟩, hq⟩ := rm0 l s _ hw tables_1 i0 i1 i2 s.heap s.heap.size (Nat.le_refl _) G1 O2 P5 (Old.start s) p e ha hc hk s m _ below hf ((Spec.applies_iff_loose hf).mp happ).1 ⟨rfl, State.Warmed39.refl s, rfl⟩ trivial
  refine ⟨n, _, h1, h2, h3, hpost _ _ _ _ _ _ ⟨Cond.after_iff.mpr rfl, Cond.after_iff.mpr (eq_i res_at (Term.int_eval (1)) rfl), trivial⟩ ⟨hq.1, hq.2.1, (hq.2.2.sift fun y hy => Or.inr (N y hy)).mono (by decide) (by decide)⟩⟩
theorem main_1_1 : Claimed_1_1 := comes_1 fun _ _ _ _ _ _ h hF => ⟨h.1, hF⟩
theorem main_1_2 : Claimed_1_2 := comes_1 fun _ _ _ _ _ _ h hF => ⟨h.2.1, hF⟩
end Jvm.Pilot.@@N@@
namespace Jvm.Pilot.@@N@@
open Jvm Jvm.ClassFile Sem Op Lib Jvm.Free Jvm.Stand Jvm.Pilot.@@N@@.Jvm.D
/-! MADE BY PROGRAM (witnessworld.py) out of the Statement's table words and the real class files: 21 classes; the members and pool entries that the words name. The judged class is class 1, her method 1. -/
namespace start1
open Jvm.ClassFile
def u (s : String) : CpInfo := .utf8 (stringToUtf16 s)
/-- a pool by its gaps: so many unusable entries, then the entry; so many at the end -/
def gap : Nat → List CpInfo → List CpInfo
  | 0, r => r
  | n + 1, r => .unusable :: gap n r
def poolList (es : List (Nat × CpInfo)) (last : Nat) : List CpInfo := es.foldr (fun e r => gap e.1 (e.2 :: r)) (gap last [])
def pool (es : List (Nat × CpInfo)) (last : Nat) : Array CpInfo := ⟨poolList es last⟩
def fileOf (pool : Array CpInfo) (this : Nat) (attrs : Array Attribute := #[]) (ms : Array MethodInfo := #[]) (fl : Nat := 33) (sup : Nat := 0) (ifs : Array Nat := #[]) (fds : Array FieldInfo := #[]) : ClassFile where
  minorVersion := 0
  majorVersion := 65
  constantPool := pool
  accessFlags := fl
  thisClass := this
  superClass := sup
  interfaces := ifs
  fields := fds
  methods := ms
  attributes := attrs
def plain (name : String) (sup : Option ClassId) : Class where
  name := name
  kind := .ordinary
  loader := none
  accessFlags := 33
  super := sup
  interfaces := #[]
  cf := none
  fields := #[]
  methods := #[]
  instanceTypes := #[]
  staticTypes := #[]
  resolved := #[]
  callSites := []
  init := .initialized
  statics := none
  mirror := none

def pool0 : Array CpInfo := pool [(5, u "<init>"), (0, u "()V"), (1, .class_ 10), (1, u "java/lang/Object")] 113

def k0c0 : Code := { maxStack := 0, maxLocals := 1, code := object_method_1_code, exceptionTable := #[], attributes := #[] }
def k0m0 : Method := { name := "<init>", desc := "()V", sig := { parameters := [], returnType := none }, accessFlags := 1, code := some k0c0 }
/-- java/lang/Object -/
def k0 : Class := { plain "java/lang/Object" none with
  accessFlags := 33
  interfaces := #[]
  cf := some (fileOf pool0 8 #[] #[{ accessFlags := 1, nameIndex := 5, descriptorIndex := 6, attributes := #[] }] 33 0 #[] #[])
  fields := #[]
  methods := #[k0m0]
  instanceTypes := #[]
  staticTypes := #[]
  resolved := Array.replicate 124 none
  statics := none }

def pool1 : Array CpInfo := pool [(2, .class_ 4), (0, .nameAndType 5 6), (0, u "java/lang/Object"), (0, u "<init>"), (0, u "()V"), (0, .class_ 8), (0, u "java/lang/String"), (0, .methodref 7 10), (0, .nameAndType 5 11), (0, u "([C)V"), (0, .methodref 7 13), (0, .nameAndType 14 15), (0, u "equals"), (0, u "(Ljava/lang/Object;)Z"), (0, .class_ 17), (0, u "dev/resolvent/io/FieldNames"), (0, .methodref 16 3), (0, .methodref 16 20), (0, .nameAndType 21 22), (0, u "add"), (0, u "(Ljava/lang/String;I)Z"), (0, .methodref 16 24), (0, .nameAndType 25 6), (0, u "clear"), (0, .class_ 27), (0, u "dev/resolvent/io/FieldNamesClearPinLaw"), (2, u "law"), (0, u "(III)Z")] 5

def k1m0 : Method := { name := "<init>", desc := "()V", sig := { parameters := [], returnType := none }, accessFlags := 1, code := none }
def k1c1 : Code := { maxStack := 4, maxLocals := 15, code := code, exceptionTable := #[], attributes := #[] }
def k1m1 : Method := { name := "law", desc := "(III)Z", sig := { parameters := [.int, .int, .int], returnType := some .boolean }, accessFlags := 9, code := some k1c1 }
/-- dev/resolvent/io/FieldNamesClearPinLaw -/
def k1 : Class := { plain "dev/resolvent/io/FieldNamesClearPinLaw" (some 0) with
  accessFlags := 49
  interfaces := #[]
  cf := some (fileOf pool1 26 #[] #[{ accessFlags := 1, nameIndex := 5, descriptorIndex := 6, attributes := #[] }, { accessFlags := 9, nameIndex := 30, descriptorIndex := 31, attributes := #[] }] 49 2 #[] #[])
  fields := #[]
  methods := #[k1m0, k1m1]
  instanceTypes := #[]
  staticTypes := #[]
  resolved := Array.replicate 37 none
  statics := none }

def pool2 : Array CpInfo := pool [(1, .class_ 2), (0, u "java/io/Serializable"), (0, .class_ 4), (0, u "java/lang/Object")] 2

/-- java/io/Serializable -/
def k2 : Class := { plain "java/io/Serializable" (some 0) with
  accessFlags := 1537
  interfaces := #[]
  cf := some (fileOf pool2 1 #[] #[] 1537 3 #[] #[])
  fields := #[]
  methods := #[]
  instanceTypes := #[]
  staticTypes := #[]
  resolved := Array.replicate 7 none
  statics := none }

def pool3 : Array CpInfo := pool [(1, .class_ 2), (0, u "java/lang/Comparable"), (0, .class_ 4), (0, u "java/lang/Object")] 7

/-- java/lang/Comparable -/
def k3 : Class := { plain "java/lang/Comparable" (some 0) with
  accessFlags := 1537
  interfaces := #[]
  cf := some (fileOf pool3 1 #[] #[] 1537 3 #[] #[])
  fields := #[]
  methods := #[]
  instanceTypes := #[]
  staticTypes := #[]
  resolved := Array.replicate 12 none
  statics := none }

def pool4 : Array CpInfo := pool [(2, .class_ 4), (1, u "java/lang/CharSequence"), (42, .class_ 48), (0, u "java/lang/CharSequence$1CodePointIterator"), (10, .class_ 60), (0, u "java/lang/CharSequence$1CharIterator"), (5, .class_ 67), (0, u "java/lang/Object")] 63

/-- java/lang/CharSequence -/
def k4 : Class := { plain "java/lang/CharSequence" (some 0) with
  accessFlags := 1537
  interfaces := #[]
  cf := some (fileOf pool4 2 #[.nestMembers #[47, 59]] #[] 1537 66 #[] #[])
  fields := #[]
  methods := #[]
  instanceTypes := #[]
  staticTypes := #[]
  resolved := Array.replicate 131 none
  statics := none }

def pool5 : Array CpInfo := pool [(1, .class_ 2), (0, u "java/lang/constant/Constable"), (0, .class_ 4), (0, u "java/lang/Object")] 6

/-- java/lang/constant/Constable -/
def k5 : Class := { plain "java/lang/constant/Constable" (some 0) with
  accessFlags := 1537
  interfaces := #[]
  cf := some (fileOf pool5 1 #[] #[] 1537 3 #[] #[])
  fields := #[]
  methods := #[]
  instanceTypes := #[]
  staticTypes := #[]
  resolved := Array.replicate 11 none
  statics := none }

def pool6 : Array CpInfo := pool [(1, .class_ 2), (0, u "java/lang/constant/ConstantDesc"), (0, .class_ 4), (0, u "java/lang/Object")] 32

/-- java/lang/constant/ConstantDesc -/
def k6 : Class := { plain "java/lang/constant/ConstantDesc" (some 0) with
  accessFlags := 1537
  interfaces := #[]
  cf := some (fileOf pool6 1 #[] #[] 1537 3 #[] #[])
  fields := #[]
  methods := #[]
  instanceTypes := #[]
  staticTypes := #[]
  resolved := Array.replicate 37 none
  statics := none }

def pool7 : Array CpInfo := pool [(1, .methodref 2 3), (0, .class_ 4), (0, .nameAndType 5 6), (0, u "java/lang/Object"), (0, u "<init>"), (0, u "()V"), (2, .fieldref 10 11), (0, .class_ 12), (0, .nameAndType 13 14), (0, u "java/lang/String"), (0, u "value"), (0, u "[B"), (0, .fieldref 10 16), (0, .nameAndType 17 18), (0, u "coder"), (0, u "B"), (2, u "hash"), (0, u "I"), (2, u "hashIsZero"), (0, u "Z"), (0, .methodref 10 28), (0, .nameAndType 5 29), (0, u "([CIILjava/lang/Void;)V"), (8, .fieldref 10 39), (0, .nameAndType 40 26), (0, u "COMPACT_STRINGS"), (1, .class_ 44), (1, u "java/lang/StringUTF16"), (0, u "compress"), (1, .methodref 42 48), (0, .nameAndType 49 50), (0, u "coderFromArrayLen"), (0, u "([BI)B"), (56, .class_ 109), (1, u "java/lang/StringLatin1"), (67, .methodref 42 178), (0, .nameAndType 45 179), (0, u "([CII)[B"), (361, .methodref 107 542), (0, .nameAndType 543 544), (0, u "equals"), (0, u "([B[B)Z"), (28, u "(Ljava/lang/Object;)Z"), (1, .class_ 576), (0, u "java/lang/CharSequence"), (22, u "CASE_INSENSITIVE_ORDER"), (0, u "Ljava/util/Comparator;"), (409, u "([C)V"), (90, u "serialPersistentFields"), (0, u "[Ljava/io/ObjectStreamField;"), (0, .class_ 1104), (0, u "java/lang/String$CaseInsensitiveComparator"), (1, .class_ 1107), (0, u "java/io/Serializable"), (0, .class_ 1109), (0, u "java/lang/Comparable"), (0, .class_ 1111), (0, u "java/lang/constant/Constable"), (0, .class_ 1113), (0, u "java/lang/constant/ConstantDesc"), (2, u "serialVersionUID"), (0, u "J"), (3, u "REPL"), (0, u "C"), (2, u "LATIN1"), (1, u "UTF16")] 323

def k7m0 : Method := { name := "<init>", desc := "()V", sig := { parameters := [], returnType := none }, accessFlags := 1, code := none }
def k7c1 : Code := { maxStack := 5, maxLocals := 2, code := jdk_42_method_3_code, exceptionTable := #[], attributes := #[] }
def k7m1 : Method := { name := "<init>", desc := "([C)V", sig := { parameters := [(.array .char)], returnType := none }, accessFlags := 1, code := some k7c1 }
def k7c2 : Code := { maxStack := 2, maxLocals := 3, code := jdk_42_method_66_code, exceptionTable := #[], attributes := #[] }
def k7m2 : Method := { name := "equals", desc := "(Ljava/lang/Object;)Z", sig := { parameters := [(.object "java/lang/Object")], returnType := some .boolean }, accessFlags := 1, code := some k7c2 }
def k7c3 : Code := { maxStack := 4, maxLocals := 6, code := jdk_42_method_149_code, exceptionTable := #[], attributes := #[] }
def k7m3 : Method := { name := "<init>", desc := "([CIILjava/lang/Void;)V", sig := { parameters := [(.array .char), .int, .int, (.object "java/lang/Void")], returnType := none }, accessFlags := 2, code := some k7c3 }
/-- java/lang/String -/
def k7 : Class := { plain "java/lang/String" (some 0) with
  accessFlags := 49
  interfaces := #[2, 3, 4, 5, 6]
  cf := some (fileOf pool7 10 #[.nestMembers #[1103]] #[{ accessFlags := 1, nameIndex := 5, descriptorIndex := 6, attributes := #[] }, { accessFlags := 1, nameIndex := 5, descriptorIndex := 1010, attributes := #[] }, { accessFlags := 1, nameIndex := 543, descriptorIndex := 573, attributes := #[] }, { accessFlags := 2, nameIndex := 5, descriptorIndex := 29, attributes := #[] }] 49 2 #[1106, 1108, 575, 1110, 1112] #[{ accessFlags := 18, nameIndex := 13, descriptorIndex := 14, attributes := #[] }, { accessFlags := 18, nameIndex := 17, descriptorIndex := 18, attributes := #[] }, { accessFlags := 2, nameIndex := 21, descriptorIndex := 22, attributes := #[] }, { accessFlags := 2, nameIndex := 25, descriptorIndex := 26, attributes := #[] }, { accessFlags := 26, nameIndex := 1116, descriptorIndex := 1117, attributes := #[] }, { accessFlags := 24, nameIndex := 40, descriptorIndex := 26, attributes := #[] }, { accessFlags := 26, nameIndex := 1101, descriptorIndex := 1102, attributes := #[] }, { accessFlags := 26, nameIndex := 1121, descriptorIndex := 1122, attributes := #[] }, { accessFlags := 25, nameIndex := 599, descriptorIndex := 600, attributes := #[] }, { accessFlags := 24, nameIndex := 1125, descriptorIndex := 18, attributes := #[] }, { accessFlags := 24, nameIndex := 1127, descriptorIndex := 18, attributes := #[] }])
  fields := #[{ name := "value", type := (.array .byte), accessFlags := 18, slot := 0, constantValue := 0 }, { name := "coder", type := .byte, accessFlags := 18, slot := 1, constantValue := 0 }, { name := "hash", type := .int, accessFlags := 2, slot := 2, constantValue := 0 }, { name := "hashIsZero", type := .boolean, accessFlags := 2, slot := 3, constantValue := 0 }, { name := "serialVersionUID", type := .long, accessFlags := 26, slot := 0, constantValue := 0 }, { name := "COMPACT_STRINGS", type := .boolean, accessFlags := 24, slot := 1, constantValue := 0 }, { name := "serialPersistentFields", type := (.array (.object "java/io/ObjectStreamField")), accessFlags := 26, slot := 2, constantValue := 0 }, { name := "REPL", type := .char, accessFlags := 26, slot := 3, constantValue := 0 }, { name := "CASE_INSENSITIVE_ORDER", type := (.object "java/util/Comparator"), accessFlags := 25, slot := 4, constantValue := 0 }, { name := "LATIN1", type := .byte, accessFlags := 24, slot := 5, constantValue := 0 }, { name := "UTF16", type := .byte, accessFlags := 24, slot := 6, constantValue := 0 }]
  methods := #[k7m0, k7m1, k7m2, k7m3]
  instanceTypes := #[(.array .byte), .byte, .int, .boolean]
  staticTypes := #[.long, .boolean, (.array (.object "java/io/ObjectStreamField")), .char, (.object "java/util/Comparator"), .byte, .byte]
  resolved := Array.replicate 1451 none
  statics := some 0 }

def pool8 : Array CpInfo := pool [(6, .class_ 8), (1, u "java/lang/Object"), (0, u "<init>"), (0, u "()V"), (1, .class_ 14), (1, u "java/lang/StringUTF16"), (31, u "$assertionsDisabled"), (0, u "Z"), (13, u "HI_BYTE_SHIFT"), (0, u "I"), (2, u "LO_BYTE_SHIFT"), (49, .methodref 12 116), (0, .nameAndType 117 118), (0, u "compress"), (0, u "([CI[BII)I"), (3, u "([CII)[B"), (138, u "coderFromArrayLen"), (0, u "([BI)B"), (106, .class_ 371), (1, u "java/lang/StringUTF16$LinesSpliterator"), (58, u "MAX_LENGTH"), (196, .class_ 628), (0, u "java/lang/StringUTF16$CodePointsSpliterator"), (0, .class_ 630), (0, u "java/lang/StringUTF16$CharsSpliterator")] 4

def k8m0 : Method := { name := "<init>", desc := "()V", sig := { parameters := [], returnType := none }, accessFlags := 0, code := none }
def k8c1 : Code := { maxStack := 2, maxLocals := 2, code := jdk_52_method_15_code, exceptionTable := #[], attributes := #[] }
def k8m1 : Method := { name := "coderFromArrayLen", desc := "([BI)B", sig := { parameters := [(.array .byte), .int], returnType := some .byte }, accessFlags := 8, code := some k8c1 }
def k8c2 : Code := { maxStack := 5, maxLocals := 6, code := jdk_52_method_16_code, exceptionTable := #[], attributes := #[] }
def k8m2 : Method := { name := "compress", desc := "([CII)[B", sig := { parameters := [(.array .char), .int, .int], returnType := some (.array .byte) }, accessFlags := 9, code := some k8c2 }
def k8c3 : Code := { maxStack := 3, maxLocals := 7, code := jdk_52_method_21_code, exceptionTable := #[], attributes := #[] }
def k8m3 : Method := { name := "compress", desc := "([CI[BII)I", sig := { parameters := [(.array .char), .int, (.array .byte), .int, .int], returnType := some .int }, accessFlags := 9, code := some k8c3 }
/-- java/lang/StringUTF16 -/
def k8 : Class := { plain "java/lang/StringUTF16" (some 0) with
  accessFlags := 48
  interfaces := #[]
  cf := some (fileOf pool8 12 #[.nestMembers #[627, 629, 369]] #[{ accessFlags := 0, nameIndex := 9, descriptorIndex := 10, attributes := #[] }, { accessFlags := 8, nameIndex := 261, descriptorIndex := 262, attributes := #[] }, { accessFlags := 9, nameIndex := 117, descriptorIndex := 122, attributes := #[] }, { accessFlags := 9, nameIndex := 117, descriptorIndex := 118, attributes := #[] }] 48 6 #[] #[{ accessFlags := 26, nameIndex := 61, descriptorIndex := 62, attributes := #[] }, { accessFlags := 26, nameIndex := 65, descriptorIndex := 62, attributes := #[] }, { accessFlags := 24, nameIndex := 430, descriptorIndex := 62, attributes := #[] }, { accessFlags := 4120, nameIndex := 46, descriptorIndex := 47, attributes := #[] }])
  fields := #[{ name := "HI_BYTE_SHIFT", type := .int, accessFlags := 26, slot := 0, constantValue := 0 }, { name := "LO_BYTE_SHIFT", type := .int, accessFlags := 26, slot := 1, constantValue := 0 }, { name := "MAX_LENGTH", type := .int, accessFlags := 24, slot := 2, constantValue := 0 }, { name := "$assertionsDisabled", type := .boolean, accessFlags := 4120, slot := 3, constantValue := 0 }]
  methods := #[k8m0, k8m1, k8m2, k8m3]
  instanceTypes := #[]
  staticTypes := #[.int, .int, .int, .boolean]
  resolved := Array.replicate 635 none
  statics := none }

def pool9 : Array CpInfo := pool [(1, .methodref 2 3), (0, .class_ 4), (0, .nameAndType 5 6), (0, u "java/lang/Object"), (0, u "<init>"), (0, u "()V"), (0, .class_ 8), (0, u "dev/resolvent/io/FieldNames"), (0, .class_ 10), (0, u "java/lang/String"), (0, .fieldref 7 12), (0, .nameAndType 13 14), (0, u "few"), (0, u "[Ljava/lang/String;"), (0, .fieldref 7 16), (0, .nameAndType 17 18), (0, u "numbered"), (0, u "J"), (0, .fieldref 7 20), (0, .nameAndType 21 22), (0, u "count"), (0, u "I"), (0, .fieldref 7 24), (0, .nameAndType 25 26), (0, u "many"), (0, u "Ljava/util/Set;"), (6, u "add"), (0, u "(Ljava/lang/Object;)Z"), (0, .methodref 9 36), (0, .nameAndType 37 34), (0, u "equals"), (11, u "FEW"), (6, u "clear"), (0, u "(Ljava/lang/String;I)Z")] 3

def k9c0 : Code := { maxStack := 2, maxLocals := 1, code := prog_6_method_1_code, exceptionTable := #[], attributes := #[] }
def k9m0 : Method := { name := "<init>", desc := "()V", sig := { parameters := [], returnType := none }, accessFlags := 0, code := some k9c0 }
def k9c1 : Code := { maxStack := 3, maxLocals := 1, code := prog_6_method_2_code, exceptionTable := #[], attributes := #[] }
def k9m1 : Method := { name := "clear", desc := "()V", sig := { parameters := [], returnType := none }, accessFlags := 0, code := some k9c1 }
def k9c2 : Code := { maxStack := 5, maxLocals := 6, code := prog_6_method_3_code, exceptionTable := #[], attributes := #[] }
def k9m2 : Method := { name := "add", desc := "(Ljava/lang/String;I)Z", sig := { parameters := [(.object "java/lang/String"), .int], returnType := some .boolean }, accessFlags := 0, code := some k9c2 }
/-- dev/resolvent/io/FieldNames -/
def k9 : Class := { plain "dev/resolvent/io/FieldNames" (some 0) with
  accessFlags := 48
  interfaces := #[]
  cf := some (fileOf pool9 7 #[] #[{ accessFlags := 0, nameIndex := 5, descriptorIndex := 6, attributes := #[] }, { accessFlags := 0, nameIndex := 56, descriptorIndex := 6, attributes := #[] }, { accessFlags := 0, nameIndex := 33, descriptorIndex := 57, attributes := #[] }] 48 2 #[] #[{ accessFlags := 26, nameIndex := 49, descriptorIndex := 22, attributes := #[] }, { accessFlags := 2, nameIndex := 17, descriptorIndex := 18, attributes := #[] }, { accessFlags := 18, nameIndex := 13, descriptorIndex := 14, attributes := #[] }, { accessFlags := 2, nameIndex := 21, descriptorIndex := 22, attributes := #[] }, { accessFlags := 2, nameIndex := 25, descriptorIndex := 26, attributes := #[] }])
  fields := #[{ name := "FEW", type := .int, accessFlags := 26, slot := 0, constantValue := 0 }, { name := "numbered", type := .long, accessFlags := 2, slot := 0, constantValue := 0 }, { name := "few", type := (.array (.object "java/lang/String")), accessFlags := 18, slot := 1, constantValue := 0 }, { name := "count", type := .int, accessFlags := 2, slot := 2, constantValue := 0 }, { name := "many", type := (.object "java/util/Set"), accessFlags := 2, slot := 3, constantValue := 0 }]
  methods := #[k9m0, k9m1, k9m2]
  instanceTypes := #[.long, (.array (.object "java/lang/String")), .int, (.object "java/util/Set")]
  staticTypes := #[.int]
  resolved := Array.replicate 61 none
  statics := none }

def pool10 : Array CpInfo := pool [(4, .class_ 6), (1, u "java/lang/Object"), (0, u "<init>"), (0, u "()V"), (5, .class_ 16), (1, u "java/lang/StringLatin1"), (104, u "$assertionsDisabled"), (0, u "Z"), (98, .class_ 223), (1, u "java/lang/StringLatin1$LinesSpliterator"), (57, u "equals"), (0, u "([B[B)Z"), (107, .class_ 391), (0, u "java/lang/StringLatin1$CharsSpliterator")] 3

def k10m0 : Method := { name := "<init>", desc := "()V", sig := { parameters := [], returnType := none }, accessFlags := 0, code := none }
def k10c1 : Code := { maxStack := 3, maxLocals := 3, code := jdk_43_method_13_code, exceptionTable := #[], attributes := #[] }
def k10m1 : Method := { name := "equals", desc := "([B[B)Z", sig := { parameters := [(.array .byte), (.array .byte)], returnType := some .boolean }, accessFlags := 9, code := some k10c1 }
/-- java/lang/StringLatin1 -/
def k10 : Class := { plain "java/lang/StringLatin1" (some 0) with
  accessFlags := 48
  interfaces := #[]
  cf := some (fileOf pool10 14 #[.nestMembers #[390, 221]] #[{ accessFlags := 0, nameIndex := 7, descriptorIndex := 8, attributes := #[] }, { accessFlags := 9, nameIndex := 281, descriptorIndex := 282, attributes := #[] }] 48 4 #[] #[{ accessFlags := 4120, nameIndex := 121, descriptorIndex := 122, attributes := #[] }])
  fields := #[{ name := "$assertionsDisabled", type := .boolean, accessFlags := 4120, slot := 0, constantValue := 0 }]
  methods := #[k10m0, k10m1]
  instanceTypes := #[]
  staticTypes := #[.boolean]
  resolved := Array.replicate 395 none
  statics := none }

def pool11 : Array CpInfo := pool [(2, .class_ 4), (1, u "java/lang/Object"), (0, u "<init>"), (0, u "()V"), (17, .class_ 26), (1, u "jdk/internal/util/Preconditions"), (28, .class_ 56), (0, u "jdk/internal/util/Preconditions$4"), (57, .class_ 115), (0, u "jdk/internal/util/Preconditions$1"), (7, u "SIOOBE_FORMATTER"), (0, u "Ljava/util/function/BiFunction;"), (0, .class_ 126), (0, u "jdk/internal/util/Preconditions$2"), (3, u "AIOOBE_FORMATTER"), (0, .class_ 132), (0, u "jdk/internal/util/Preconditions$3"), (3, u "IOOBE_FORMATTER")] 57

def k11m0 : Method := { name := "<init>", desc := "()V", sig := { parameters := [], returnType := none }, accessFlags := 1, code := none }
/-- jdk/internal/util/Preconditions -/
def k11 : Class := { plain "jdk/internal/util/Preconditions" (some 0) with
  accessFlags := 33
  interfaces := #[]
  cf := some (fileOf pool11 24 #[.nestMembers #[55, 131, 125, 114]] #[{ accessFlags := 1, nameIndex := 5, descriptorIndex := 6, attributes := #[] }] 33 2 #[] #[{ accessFlags := 25, nameIndex := 123, descriptorIndex := 124, attributes := #[] }, { accessFlags := 25, nameIndex := 130, descriptorIndex := 124, attributes := #[] }, { accessFlags := 25, nameIndex := 136, descriptorIndex := 124, attributes := #[] }])
  fields := #[{ name := "SIOOBE_FORMATTER", type := (.object "java/util/function/BiFunction"), accessFlags := 25, slot := 0, constantValue := 0 }, { name := "AIOOBE_FORMATTER", type := (.object "java/util/function/BiFunction"), accessFlags := 25, slot := 1, constantValue := 0 }, { name := "IOOBE_FORMATTER", type := (.object "java/util/function/BiFunction"), accessFlags := 25, slot := 2, constantValue := 0 }]
  methods := #[k11m0]
  instanceTypes := #[]
  staticTypes := #[(.object "java/util/function/BiFunction"), (.object "java/util/function/BiFunction"), (.object "java/util/function/BiFunction")]
  resolved := Array.replicate 194 none
  statics := some 1 }

def pool12 : Array CpInfo := pool [(9, u "<init>"), (6, .class_ 18), (1, u "java/lang/Object"), (0, u "()V"), (1, .class_ 23), (1, u "jdk/internal/util/ArraysSupport"), (0, u "LOG2_ARRAY_LONG_INDEX_SCALE"), (0, u "I"), (2, u "U"), (0, u "Ljdk/internal/misc/Unsafe;"), (8, u "BIG_ENDIAN"), (0, u "Z"), (8, u "LOG2_BYTE_BIT_SIZE"), (4, u "LOG2_ARRAY_INT_INDEX_SCALE"), (54, u "JLA"), (0, u "Ljdk/internal/access/JavaLangAccess;"), (11, u "LOG2_ARRAY_BOOLEAN_INDEX_SCALE"), (9, u "LOG2_ARRAY_BYTE_INDEX_SCALE"), (5, u "LOG2_ARRAY_CHAR_INDEX_SCALE"), (5, u "LOG2_ARRAY_SHORT_INDEX_SCALE"), (18, u "LOG2_ARRAY_FLOAT_INDEX_SCALE"), (24, u "LOG2_ARRAY_DOUBLE_INDEX_SCALE"), (89, u "T_BOOLEAN"), (2, u "T_CHAR"), (1, u "T_FLOAT"), (1, u "T_DOUBLE"), (1, u "T_BYTE"), (1, u "T_SHORT"), (1, u "T_INT"), (1, u "T_LONG"), (1, u "SOFT_MAX_ARRAY_LENGTH")] 83

def k12m0 : Method := { name := "<init>", desc := "()V", sig := { parameters := [], returnType := none }, accessFlags := 2, code := none }
/-- jdk/internal/util/ArraysSupport -/
def k12 : Class := { plain "jdk/internal/util/ArraysSupport" (some 0) with
  accessFlags := 33
  interfaces := #[]
  cf := some (fileOf pool12 21 #[] #[{ accessFlags := 2, nameIndex := 9, descriptorIndex := 19, attributes := #[] }] 33 16 #[] #[{ accessFlags := 24, nameIndex := 28, descriptorIndex := 29, attributes := #[] }, { accessFlags := 26, nameIndex := 38, descriptorIndex := 39, attributes := #[] }, { accessFlags := 25, nameIndex := 121, descriptorIndex := 25, attributes := #[] }, { accessFlags := 25, nameIndex := 131, descriptorIndex := 25, attributes := #[] }, { accessFlags := 25, nameIndex := 137, descriptorIndex := 25, attributes := #[] }, { accessFlags := 25, nameIndex := 143, descriptorIndex := 25, attributes := #[] }, { accessFlags := 25, nameIndex := 53, descriptorIndex := 25, attributes := #[] }, { accessFlags := 25, nameIndex := 24, descriptorIndex := 25, attributes := #[] }, { accessFlags := 25, nameIndex := 162, descriptorIndex := 25, attributes := #[] }, { accessFlags := 25, nameIndex := 187, descriptorIndex := 25, attributes := #[] }, { accessFlags := 26, nameIndex := 48, descriptorIndex := 25, attributes := #[] }, { accessFlags := 25, nameIndex := 277, descriptorIndex := 25, attributes := #[] }, { accessFlags := 25, nameIndex := 280, descriptorIndex := 25, attributes := #[] }, { accessFlags := 25, nameIndex := 282, descriptorIndex := 25, attributes := #[] }, { accessFlags := 25, nameIndex := 284, descriptorIndex := 25, attributes := #[] }, { accessFlags := 25, nameIndex := 286, descriptorIndex := 25, attributes := #[] }, { accessFlags := 25, nameIndex := 288, descriptorIndex := 25, attributes := #[] }, { accessFlags := 25, nameIndex := 290, descriptorIndex := 25, attributes := #[] }, { accessFlags := 25, nameIndex := 292, descriptorIndex := 25, attributes := #[] }, { accessFlags := 26, nameIndex := 108, descriptorIndex := 109, attributes := #[] }, { accessFlags := 25, nameIndex := 294, descriptorIndex := 25, attributes := #[] }])
  fields := #[{ name := "U", type := (.object "jdk/internal/misc/Unsafe"), accessFlags := 24, slot := 0, constantValue := 0 }, { name := "BIG_ENDIAN", type := .boolean, accessFlags := 26, slot := 1, constantValue := 0 }, { name := "LOG2_ARRAY_BOOLEAN_INDEX_SCALE", type := .int, accessFlags := 25, slot := 2, constantValue := 0 }, { name := "LOG2_ARRAY_BYTE_INDEX_SCALE", type := .int, accessFlags := 25, slot := 3, constantValue := 0 }, { name := "LOG2_ARRAY_CHAR_INDEX_SCALE", type := .int, accessFlags := 25, slot := 4, constantValue := 0 }, { name := "LOG2_ARRAY_SHORT_INDEX_SCALE", type := .int, accessFlags := 25, slot := 5, constantValue := 0 }, { name := "LOG2_ARRAY_INT_INDEX_SCALE", type := .int, accessFlags := 25, slot := 6, constantValue := 0 }, { name := "LOG2_ARRAY_LONG_INDEX_SCALE", type := .int, accessFlags := 25, slot := 7, constantValue := 0 }, { name := "LOG2_ARRAY_FLOAT_INDEX_SCALE", type := .int, accessFlags := 25, slot := 8, constantValue := 0 }, { name := "LOG2_ARRAY_DOUBLE_INDEX_SCALE", type := .int, accessFlags := 25, slot := 9, constantValue := 0 }, { name := "LOG2_BYTE_BIT_SIZE", type := .int, accessFlags := 26, slot := 10, constantValue := 0 }, { name := "T_BOOLEAN", type := .int, accessFlags := 25, slot := 11, constantValue := 0 }, { name := "T_CHAR", type := .int, accessFlags := 25, slot := 12, constantValue := 0 }, { name := "T_FLOAT", type := .int, accessFlags := 25, slot := 13, constantValue := 0 }, { name := "T_DOUBLE", type := .int, accessFlags := 25, slot := 14, constantValue := 0 }, { name := "T_BYTE", type := .int, accessFlags := 25, slot := 15, constantValue := 0 }, { name := "T_SHORT", type := .int, accessFlags := 25, slot := 16, constantValue := 0 }, { name := "T_INT", type := .int, accessFlags := 25, slot := 17, constantValue := 0 }, { name := "T_LONG", type := .int, accessFlags := 25, slot := 18, constantValue := 0 }, { name := "JLA", type := (.object "jdk/internal/access/JavaLangAccess"), accessFlags := 26, slot := 19, constantValue := 0 }, { name := "SOFT_MAX_ARRAY_LENGTH", type := .int, accessFlags := 25, slot := 20, constantValue := 0 }]
  methods := #[k12m0]
  instanceTypes := #[]
  staticTypes := #[(.object "jdk/internal/misc/Unsafe"), .boolean, .int, .int, .int, .int, .int, .int, .int, .int, .int, .int, .int, .int, .int, .int, .int, .int, .int, (.object "jdk/internal/access/JavaLangAccess"), .int]
  resolved := Array.replicate 378 none
  statics := none }

def pool13 : Array CpInfo := pool [(1, u "java/lang/Cloneable"), (0, .class_ 1), (0, u "java/lang/Object"), (0, .class_ 3)] 3

/-- java/lang/Cloneable -/
def k13 : Class := { plain "java/lang/Cloneable" (some 0) with
  accessFlags := 1537
  interfaces := #[]
  cf := some (fileOf pool13 2 #[] #[] 1537 4 #[] #[])
  fields := #[]
  methods := #[]
  instanceTypes := #[]
  staticTypes := #[]
  resolved := Array.replicate 8 none
  statics := none }

/-- the primitive byte -/
def k14 : Class := { plain "byte" none with kind := .primitive 'B', accessFlags := 0x411 }
/-- [B -/
def k15 : Class := { plain "[B" (some 0) with kind := .array 14 .byte, interfaces := #[13, 2], accessFlags := 1041 }

/-- the primitive char -/
def k16 : Class := { plain "char" none with kind := .primitive 'C', accessFlags := 0x411 }
/-- [C -/
def k17 : Class := { plain "[C" (some 0) with kind := .array 16 .char, interfaces := #[13, 2], accessFlags := 1041 }

/-- the primitive int -/
def k18 : Class := { plain "int" none with kind := .primitive 'I', accessFlags := 0x411 }
/-- [I -/
def k19 : Class := { plain "[I" (some 0) with kind := .array 18 .int, interfaces := #[13, 2], accessFlags := 1041 }

/-- [Ljava/lang/String; -/
def k20 : Class := { plain "[Ljava/lang/String;" (some 0) with kind := .array 7 (.object "java/lang/String"), interfaces := #[13, 2], accessFlags := 1041 }

def heap : Heap := #[{ cls := 7, slots := #[.long 0, .int 1, .null, .int 0, .null, .int 0, .int 0], vm := .statics 7 },
  { cls := 11, slots := #[.null, .null, .null], vm := .statics 11 }]
def classes : Array Class := #[k0, k1, k2, k3, k4, k5, k6, k7, k8, k9, k10, k11, k12, k13, k14, k15, k16, k17, k18, k19, k20]
def interned : List (Array UInt16 × Addr) := []
def slotsUsed : Nat := 10
def theMethod : MethodId := ⟨1, 1⟩
def args0 : Array Value := #[.int 5, .int 6, .int 7]
def aboutOver (below : List Frame) : State where
  vm := { classes := classes, interned := interned.toArray }
  heap := heap
  slotsUsed := slotsUsed
  threads := #[{ frames := .invoking theMethod args0 :: below }]
def below0 : List Frame := [.native { method := ⟨0, 0⟩, args := #[] }]
def about1 : State := aboutOver below0
def p0 : Program := .bare "" "" ""
def e0 : Env := launch0.env 0 0 0
theorem w_frames : about1.frames = Frame.invoking theMethod args0 :: below0 := rfl
set_option maxRecDepth 65536 in
theorem w_args : argsFit about1.vm theMethod args0 = true := by decide +kernel
set_option maxRecDepth 65536 in
theorem w_heap : heapFits about1 = true := by decide +kernel
set_option maxRecDepth 65536 in
theorem w_runnable : about1.curStatus? = some .runnable := by decide +kernel
set_option maxRecDepth 65536 in
theorem w_alone : about1.alone = true := by decide +kernel
set_option maxRecDepth 65536 in
theorem w_named : about1.methodNamed? x = some theMethod := by decide +kernel
set_option maxRecDepth 65536 in
theorem w_hears : about1.hears theMethod below0 = true := by decide +kernel
set_option maxRecDepth 65536 in
theorem w_ripe : about1.ripe theMethod args0 below0 = true := by decide +kernel
theorem w_running : about1.status = .running := rfl
set_option maxRecDepth 65536 in
theorem w_room : about1.hasRoom e0.platform room_1 = true :=
  launch0.hasRoom_least _ room_1 (by decide +kernel) (by decide +kernel) (by decide +kernel) (by decide +kernel) (by decide +kernel) (by decide +kernel)
theorem allAtoms_all (ts : List Jvm.Cond) (a : Array Jvm.Value) (st : Jvm.State) : (allAtoms ts).before a st = ts.all (fun c => c.before a st) := by
  induction ts with
  | nil => rfl
  | cons c t ih =>
    show (Jvm.Cond.and c (allAtoms t)).before a st = _
    rw [Jvm.Cond.before_and, ih, List.all_cons]
def words1 : List Jvm.Cond := Jvm.Cond.code x code maxLocals ret :: tables_1
/-- a 'code' word, met by the world's own term for the bytes: nothing is compared byte by byte -/
theorem code_word {y : MethodName} {bytes : ByteArray} {mx : Nat} {rt : Option FieldType} {a : Array Value} {s : State} {m : MethodId} {meth : Method} {c : Code} (h1 : s.methodNamed? y = some m) (h2 : s.vm.method? m = some meth) (h3 : meth.code = some c) (h4 : c.code = bytes)
    (h5 : (c.maxLocals == mx && c.exceptionTable.isEmpty && decide (c.maxStack ≤ mostOperands) && decide (meth.sig.returnType = rt) && !meth.locks && decide (parseMethodDescriptor y.desc = some meth.sig)) = true) : (Jvm.Cond.code y bytes mx rt).before a s = true := by
  simp only [Bool.and_eq_true, beq_iff_eq, Bool.not_eq_true', decide_eq_true_eq] at h5
  obtain ⟨⟨⟨⟨⟨g1, g2⟩, g3⟩, g4⟩, g5⟩, g6⟩ := h5
  simp [Cond.before, Cond.holds, Cond.value, h1, h2, h3, h4, g1, g2, g3, g4, g5, g6]
def isCode : Jvm.Cond → Bool
  | .code _ _ _ _ => true
  | _ => false
theorem all_split {L : List Jvm.Cond} {P : Jvm.Cond → Bool} (h1 : L.all (fun c => isCode c || P c) = true) (h2 : ∀ c ∈ L.filter isCode, P c = true) : L.all P = true := by
  refine List.all_eq_true.mpr fun c hc => ?_
  have h := List.all_eq_true.mp h1 c hc
  rcases Bool.eq_false_or_eq_true (isCode c) with hi | hi
  · exact h2 c (List.mem_filter.mpr ⟨hc, hi⟩)
  · simpa [hi] using h
set_option maxRecDepth 65536 in
theorem w_c0 : (Jvm.Cond.code x code maxLocals ret).before args0 about1 = true := code_word (m := ⟨1, 1⟩) (meth := k1m1) (c := k1c1) (by decide +kernel) rfl rfl rfl (by decide +kernel)
set_option maxRecDepth 65536 in
theorem w_c1 : (Jvm.Cond.code ({ cls := "java/lang/String", name := "<init>", desc := "([C)V" } : Jvm.MethodName) jdk_42_method_3_code (2 : Nat) (Option.none : Option Jvm.ClassFile.FieldType)).before args0 about1 = true := code_word (m := ⟨7, 1⟩) (meth := k7m1) (c := k7c1) (by decide +kernel) rfl rfl rfl (by decide +kernel)
set_option maxRecDepth 65536 in
theorem w_c2 : (Jvm.Cond.code ({ cls := "java/lang/String", name := "<init>", desc := "([CIILjava/lang/Void;)V" } : Jvm.MethodName) jdk_42_method_149_code (6 : Nat) (Option.none : Option Jvm.ClassFile.FieldType)).before args0 about1 = true := code_word (m := ⟨7, 3⟩) (meth := k7m3) (c := k7c3) (by decide +kernel) rfl rfl rfl (by decide +kernel)
set_option maxRecDepth 65536 in
theorem w_c3 : (Jvm.Cond.code ({ cls := "java/lang/Object", name := "<init>", desc := "()V" } : Jvm.MethodName) object_method_1_code (1 : Nat) (Option.none : Option Jvm.ClassFile.FieldType)).before args0 about1 = true := code_word (m := ⟨0, 0⟩) (meth := k0m0) (c := k0c0) (by decide +kernel) rfl rfl rfl (by decide +kernel)
set_option maxRecDepth 65536 in
theorem w_c4 : (Jvm.Cond.code ({ cls := "java/lang/StringUTF16", name := "compress", desc := "([CII)[B" } : Jvm.MethodName) jdk_52_method_16_code (6 : Nat) (Option.some (Jvm.ClassFile.FieldType.array Jvm.ClassFile.FieldType.byte))).before args0 about1 = true := code_word (m := ⟨8, 2⟩) (meth := k8m2) (c := k8c2) (by decide +kernel) rfl rfl rfl (by decide +kernel)
set_option maxRecDepth 65536 in
theorem w_c5 : (Jvm.Cond.code ({ cls := "java/lang/StringUTF16", name := "compress", desc := "([CI[BII)I" } : Jvm.MethodName) jdk_52_method_21_code (7 : Nat) (Option.some Jvm.ClassFile.FieldType.int)).before args0 about1 = true := code_word (m := ⟨8, 3⟩) (meth := k8m3) (c := k8c3) (by decide +kernel) rfl rfl rfl (by decide +kernel)
set_option maxRecDepth 65536 in
theorem w_c6 : (Jvm.Cond.code ({ cls := "java/lang/StringUTF16", name := "coderFromArrayLen", desc := "([BI)B" } : Jvm.MethodName) jdk_52_method_15_code (2 : Nat) (Option.some Jvm.ClassFile.FieldType.byte)).before args0 about1 = true := code_word (m := ⟨8, 1⟩) (meth := k8m1) (c := k8c1) (by decide +kernel) rfl rfl rfl (by decide +kernel)
set_option maxRecDepth 65536 in
theorem w_c7 : (Jvm.Cond.code ({ cls := "dev/resolvent/io/FieldNames", name := "<init>", desc := "()V" } : Jvm.MethodName) prog_6_method_1_code (1 : Nat) (Option.none : Option Jvm.ClassFile.FieldType)).before args0 about1 = true := code_word (m := ⟨9, 0⟩) (meth := k9m0) (c := k9c0) (by decide +kernel) rfl rfl rfl (by decide +kernel)
set_option maxRecDepth 65536 in
theorem w_c8 : (Jvm.Cond.code ({ cls := "dev/resolvent/io/FieldNames", name := "add", desc := "(Ljava/lang/String;I)Z" } : Jvm.MethodName) prog_6_method_3_code (6 : Nat) (Option.some Jvm.ClassFile.FieldType.boolean)).before args0 about1 = true := code_word (m := ⟨9, 2⟩) (meth := k9m2) (c := k9c2) (by decide +kernel) rfl rfl rfl (by decide +kernel)
set_option maxRecDepth 65536 in
theorem w_c9 : (Jvm.Cond.code ({ cls := "dev/resolvent/io/FieldNames", name := "clear", desc := "()V" } : Jvm.MethodName) prog_6_method_2_code (1 : Nat) (Option.none : Option Jvm.ClassFile.FieldType)).before args0 about1 = true := code_word (m := ⟨9, 1⟩) (meth := k9m1) (c := k9c1) (by decide +kernel) rfl rfl rfl (by decide +kernel)
set_option maxRecDepth 65536 in
theorem w_c10 : (Jvm.Cond.code ({ cls := "java/lang/String", name := "equals", desc := "(Ljava/lang/Object;)Z" } : Jvm.MethodName) jdk_42_method_66_code (3 : Nat) (Option.some Jvm.ClassFile.FieldType.boolean)).before args0 about1 = true := code_word (m := ⟨7, 2⟩) (meth := k7m2) (c := k7c2) (by decide +kernel) rfl rfl rfl (by decide +kernel)
set_option maxRecDepth 65536 in
theorem w_c11 : (Jvm.Cond.code ({ cls := "java/lang/StringLatin1", name := "equals", desc := "([B[B)Z" } : Jvm.MethodName) jdk_43_method_13_code (3 : Nat) (Option.some Jvm.ClassFile.FieldType.boolean)).before args0 about1 = true := code_word (m := ⟨10, 1⟩) (meth := k10m1) (c := k10c1) (by decide +kernel) rfl rfl rfl (by decide +kernel)
def codes1 : List Jvm.Cond := [Jvm.Cond.code x code maxLocals ret, Jvm.Cond.code ({ cls := "java/lang/String", name := "<init>", desc := "([C)V" } : Jvm.MethodName) jdk_42_method_3_code (2 : Nat) (Option.none : Option Jvm.ClassFile.FieldType), Jvm.Cond.code ({ cls := "java/lang/String", name := "<init>", desc := "([CIILjava/lang/Void;)V" } : Jvm.MethodName) jdk_42_method_149_code (6 : Nat) (Option.none : Option Jvm.ClassFile.FieldType), Jvm.Cond.code ({ cls := "java/lang/Object", name := "<init>", desc := "()V" } : Jvm.MethodName) object_method_1_code (1 : Nat) (Option.none : Option Jvm.ClassFile.FieldType), Jvm.Cond.code ({ cls := "java/lang/StringUTF16", name := "compress", desc := "([CII)[B" } : Jvm.MethodName) jdk_52_method_16_code (6 : Nat) (Option.some (Jvm.ClassFile.FieldType.array Jvm.ClassFile.FieldType.byte)), Jvm.Cond.code ({ cls := "java/lang/StringUTF16", name := "compress", desc := "([CI[BII)I" } : Jvm.MethodName) jdk_52_method_21_code (7 : Nat) (Option.some Jvm.ClassFile.FieldType.int), Jvm.Cond.code ({ cls := "java/lang/StringUTF16", name := "coderFromArrayLen", desc := "([BI)B" } : Jvm.MethodName) jdk_52_method_15_code (2 : Nat) (Option.some Jvm.ClassFile.FieldType.byte), Jvm.Cond.code ({ cls := "dev/resolvent/io/FieldNames", name := "<init>", desc := "()V" } : Jvm.MethodName) prog_6_method_1_code (1 : Nat) (Option.none : Option Jvm.ClassFile.FieldType), Jvm.Cond.code ({ cls := "dev/resolvent/io/FieldNames", name := "add", desc := "(Ljava/lang/String;I)Z" } : Jvm.MethodName) prog_6_method_3_code (6 : Nat) (Option.some Jvm.ClassFile.FieldType.boolean), Jvm.Cond.code ({ cls := "dev/resolvent/io/FieldNames", name := "clear", desc := "()V" } : Jvm.MethodName) prog_6_method_2_code (1 : Nat) (Option.none : Option Jvm.ClassFile.FieldType), Jvm.Cond.code ({ cls := "java/lang/String", name := "equals", desc := "(Ljava/lang/Object;)Z" } : Jvm.MethodName) jdk_42_method_66_code (3 : Nat) (Option.some Jvm.ClassFile.FieldType.boolean), Jvm.Cond.code ({ cls := "java/lang/StringLatin1", name := "equals", desc := "([B[B)Z" } : Jvm.MethodName) jdk_43_method_13_code (3 : Nat) (Option.some Jvm.ClassFile.FieldType.boolean)]
set_option maxRecDepth 65536 in
theorem codes_eq : words1.filter isCode = codes1 := rfl
theorem w_codes : ∀ c ∈ words1.filter isCode, c.before args0 about1 = true := by
  rw [codes_eq]
  intro c hc
  simp only [codes1, List.mem_cons, List.not_mem_nil, or_false] at hc
  rcases hc with rfl | rfl | rfl | rfl | rfl | rfl | rfl | rfl | rfl | rfl | rfl | rfl
  · exact w_c0
  · exact w_c1
  · exact w_c2
  · exact w_c3
  · exact w_c4
  · exact w_c5
  · exact w_c6
  · exact w_c7
  · exact w_c8
  · exact w_c9
  · exact w_c10
  · exact w_c11
set_option maxRecDepth 65536 in
theorem w_t1 : (words1.take 24).all (fun c => isCode c || c.before args0 about1) = true := by decide +kernel
set_option maxRecDepth 65536 in
theorem w_t2 : ((words1.drop 24).take 24).all (fun c => isCode c || c.before args0 about1) = true := by decide +kernel
set_option maxRecDepth 65536 in
theorem w_t3 : ((words1.drop 24).drop 24).all (fun c => isCode c || c.before args0 about1) = true := by decide +kernel
theorem w_tables : (allAtoms (Jvm.Cond.code x code maxLocals ret :: tables_1)).before args0 about1 = true := by
  rw [allAtoms_all]
  show words1.all (fun c => c.before args0 about1) = true
  refine all_split ?_ w_codes
  rw [← List.take_append_drop 24 words1, List.all_append, w_t1, ← List.take_append_drop 24 (words1.drop 24), List.all_append, w_t2, w_t3]
  rfl
set_option maxRecDepth 65536 in
theorem w_rest : rest_1_c.before args0 about1 = true := by decide +kernel
set_option maxRecDepth 65536 in
theorem w_case : (Jvm.Cond.and given_1 narrow_1).before args0 about1 = true := by decide +kernel
theorem w_applies : (headSpec (Jvm.Cond.code x code maxLocals ret :: tables_1) room_1).applies x e0.platform about1 = true :=
  (Spec.applies_iff w_frames).mpr ⟨w_running, w_runnable, w_alone, w_named, w_hears, w_ripe, w_room, w_tables⟩
theorem atStart : AtStart classFile x code maxLocals ret World_1 tables_1 room_1 Calls_1 rest_1 Pre_1 launch0 p0 e0 about1 theMethod args0 below0 :=
  ⟨lists_1, trivial, launch0.admits_env _ _ _, launch0.least_env, fairChoices_fair.cas, fairChoices_fair.clock, w_frames, w_args, w_heap, w_applies, trivial, w_rest, w_case⟩
end start1
theorem witness_1 : WitnessClaimed_1 := ⟨start1.p0, start1.e0, start1.about1, start1.theMethod, start1.args0, start1.below0, start1.atStart⟩
end Jvm.Pilot.@@N@@
