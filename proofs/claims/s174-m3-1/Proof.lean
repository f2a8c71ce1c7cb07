import JvmDerived
import JvmDerived.Pilot.@@N@@Statement
import JvmDerived.Pilot.@@N@@Code
set_option linter.unusedVariables false
set_option linter.unusedSimpArgs false
/- laws to paste: Road.backV, Road.eqW, Road.codOf (cut by pick.py; bodies as the Statement names them) -/
namespace Jvm.Pilot.@@N@@
namespace StrChars
open Jvm Sem ClassFile Op Lib Jvm.Stand Jvm.Free.XT Jvm.Free.ALB Jvm.Free.JM Jvm.Free
open Jvm.Lib.Cold (StaticIs)
/-- a char array whose places are chars -/
def Ch (a : Addr) (A : Cell) (U : State) : Prop := Arr .char a A U ∧ Typed .char A
theorem Ch.mv {a : Addr} {A : Cell} {U U' : State} (h : Ch a A U) (hal : U.vm.Alike U'.vm) (hh : U'.heap = U.heap) : Ch a A U' := ⟨h.1.mv hal hh, h.2⟩
theorem Ch.keep {a : Addr} {A : Cell} {U U' : State} (h : Ch a A U) (hal : U.vm.Alike U'.vm) (hk : U'.heap[a]? = some A) : Ch a A U' := ⟨h.1.keep hal hk, h.2⟩
/-- what place i of a char[]'s cell holds -/
def cv (A : Cell) (i : Nat) : Int32 := match A.slots[i]? with | some (.int x) => x | _ => 0
theorem Ch.get {a : Addr} {A : Cell} {U : State} (h : Ch a A U) {i : Nat} (hi : i < A.slots.size) : A.slots[i]? = some (.int (cv A i)) := by
  have e := Array.getElem?_eq_getElem hi
  have f := h.2 i _ e
  unfold cv; rw [e]
  generalize A.slots[i] = v at f
  cases v <;> simp [fits] at f ⊢
/-- the byte that i2b leaves of a char -/
def lo8 (x : Int32) : Int32 := x.toInt8.toInt32
theorem fits_lo8 (y : Int32) : fits .byte (.int (lo8 y)) = true := by
  have h1 := y.toInt8.le_toInt
  have h2 := y.toInt8.toInt_lt
  simp only [lo8, fits, Bool.and_eq_true, decide_eq_true_eq, Int32.le_iff_toInt_le, Int8.toInt_toInt32, show (-128 : Int32).toInt = -128 from by decide, show (127 : Int32).toInt = 127 from by decide]
  omega
/-- A' is A but that each place j of lo .. hi - 1 holds f j -/
def Laid (A A' : Cell) (lo hi : Nat) (f : Nat → Value) : Prop := A'.cls = A.cls ∧ A'.vm = A.vm ∧ A'.slots.size = A.slots.size ∧ ∀ i, A'.slots[i]? = if lo ≤ i ∧ i < hi then some (f i) else A.slots[i]?
theorem Laid.zero (A : Cell) (lo : Nat) (f : Nat → Value) : Laid A A lo (lo + 0) f := ⟨rfl, rfl, rfl, fun i => by rw [if_neg (by omega)]⟩
theorem Laid.step {A Ak : Cell} {lo k : Nat} {f : Nat → Value} {v : Value} (h : Laid A Ak lo k f) (hlo : lo ≤ k) (hk : k < Ak.slots.size) (hv : v = f k) : Laid A (Ak.setSlot k v) lo (k + 1) f := by
  refine ⟨h.1, h.2.1, by simpa [Cell.setSlot] using h.2.2.1, fun i => ?_⟩
  by_cases e : k = i
  · subst e; rw [Cell.slots_setSlot_self v hk, if_pos (by omega), hv]
  · rw [Cell.slots_setSlot_ne v e, h.2.2.2 i]
    by_cases q : lo ≤ i ∧ i < k
    · rw [if_pos q, if_pos (by omega)]
    · rw [if_neg q, if_neg (by omega)]
def U16 : String := "java/lang/StringUTF16"
namespace Cmp5
def yN : MethodName := ⟨"java/lang/StringUTF16", "compress", "([CI[BII)I"⟩
abbrev yB : ByteArray := jdk_52_method_21_code
theorem d0 : decode yB 0 = .ok (.iconst 0, 1) := by decide +kernel
theorem d1 : decode yB 1 = .ok (.istore 5, 2) := by decide +kernel
theorem d3 : decode yB 3 = .ok (.iload 5, 2) := by decide +kernel
theorem d5 : decode yB 5 = .ok (.iload 4, 2) := by decide +kernel
theorem d7 : decode yB 7 = .ok (.if_icmp (.ge) 37, 3) := by decide +kernel
theorem d10 : decode yB 10 = .ok (.aload_n 0, 1) := by decide +kernel
theorem d11 : decode yB 11 = .ok (.iload_n 1, 1) := by decide +kernel
theorem d12 : decode yB 12 = .ok (.caload, 1) := by decide +kernel
theorem d13 : decode yB 13 = .ok (.istore 6, 2) := by decide +kernel
theorem d15 : decode yB 15 = .ok (.iload 6, 2) := by decide +kernel
theorem d17 : decode yB 17 = .ok (.sipush 255, 3) := by decide +kernel
theorem d20 : decode yB 20 = .ok (.if_icmp (.le) 6, 3) := by decide +kernel
theorem d26 : decode yB 26 = .ok (.aload_n 2, 1) := by decide +kernel
theorem d27 : decode yB 27 = .ok (.iload_n 3, 1) := by decide +kernel
theorem d28 : decode yB 28 = .ok (.iload 6, 2) := by decide +kernel
theorem d30 : decode yB 30 = .ok (.i2b, 1) := by decide +kernel
theorem d31 : decode yB 31 = .ok (.bastore, 1) := by decide +kernel
theorem d32 : decode yB 32 = .ok (.iinc 1 1, 3) := by decide +kernel
theorem d35 : decode yB 35 = .ok (.iinc 3 1, 3) := by decide +kernel
theorem d38 : decode yB 38 = .ok (.iinc 5 1, 3) := by decide +kernel
theorem d41 : decode yB 41 = .ok (.goto (-38), 3) := by decide +kernel
theorem d44 : decode yB 44 = .ok (.iload 4, 2) := by decide +kernel
theorem d46 : decode yB 46 = .ok (.ireturn, 1) := by decide +kernel
def site : List Cond := []
def tab : Cond := tabOf yN yB 7 (some .int) site
def P (b : Addr) (A : Cell) (d : Addr) (B : Cell) (o q len : Nat) (args : Array Value) (s : State) : Prop := args = #[.ref b, .int (Int32.ofNat o), .ref d, .int (Int32.ofNat q), .int (Int32.ofNat len)] ∧ Ch b A s ∧ Arr .byte d B s ∧ b ≠ d ∧ o + len ≤ A.slots.size ∧ q + len ≤ B.slots.size ∧ ∀ i, i < len → ¬ 255 < cv A (o + i)
def E (b : Addr) (A : Cell) (d : Addr) (B : Cell) (o q len : Nat) (r : Option Value) (s u : State) : Prop := r = some (.int (Int32.ofNat len)) ∧ ∃ B', Put d B' s u ∧ Laid B B' q (q + len) (fun j => Value.int (lo8 (cv A (o + (j - q)))))
/-- no char of the range above 255: len; the places written hold each char's low byte -/
theorem law (l : Launch) (b : Addr) (A : Cell) (d : Addr) (B : Cell) (o q len : Nat) : Law l yN 5 5 0 0 yB 7 (some .int) site (P b A d B o q len) (E b A d B o q len) (copyLocs d q len) 0 0 := by
  refine Law.of_walk (plainFor_of_name (by decide +kernel)) (by decide +kernel) (by decide +kernel) (by decide) (fun _ _ h => by rw [h.1]; rfl) (fun _ U U' hal hh h => ⟨h.1, h.2.1.mv hal hh, h.2.2.1.mv hal hh, h.2.2.2⟩) (fun r U U' V V' h1 hal h2 h => ⟨h.1, h.2.elim fun B' q => ⟨B', q.1.mv h1 h2, q.2⟩⟩) ?_
  intro p e s m args below meth c s₁ X0 hexec hbytes hml hret hlk hnm hown hh0 W hP
  obtain ⟨rfl, hA, hB, hne, l1, l2, hp⟩ := hP
  have c1 : Steps p.tables e below (s₁.setTop (entryFrame m #[.ref b, .int (Int32.ofNat o), .ref d, .int (Int32.ofNat q), .int (Int32.ofNat len)] 7)) (s₁.setTop (mkF m 0 #[.val (.ref b), .val (.int (Int32.ofNat o)), .val (.ref d), .val (.int (Int32.ofNat q)), .val (.int (Int32.ofNat len)), .unset, .unset] [])) := entry rfl
  have hA0 := hA.1.mv X0.warmed.alike hh0
  have hB0 := hB.mv X0.warmed.alike hh0
  have a31 := hA.1.2.2.2
  have c2 : Steps p.tables e below (s₁.setTop (entryFrame m #[.ref b, .int (Int32.ofNat o), .ref d, .int (Int32.ofNat q), .int (Int32.ofNat len)] 7)) (s₁.setTop (mkF m 3 #[.val (.ref b), .val (.int (Int32.ofNat o)), .val (.ref d), .val (.int (Int32.ofNat q)), .val (.int (Int32.ofNat len)), .val (.int 0), .unset] [])) := c1.trans (by
    refine iconstV X0.here hexec rfl 0 (hb hbytes d0) (by decide) ?_
    refine XS.istore X0.here hexec rfl (hb hbytes d1) rfl rfl ?_
    exact Steps.refl _)
  have loop : ∀ (r i : Nat), i + r = len → ∀ (z : Slot), (z = .unset ∨ ∃ w, z = .val w ∧ w.category = 1) → ∀ (Tl : State) (Bk : Cell), Stand p l e { frames := 0, locals := 0, cells := 0, slots := 0 } s m #[.ref b, .int (Int32.ofNat o), .ref d, .int (Int32.ofNat q), .int (Int32.ofNat len)] below meth c Tl ([] ++ copyLocs d q i) 0 0 → Put d Bk s₁ Tl → Laid B Bk q (q + i) (fun j => Value.int (lo8 (cv A (o + (j - q))))) →
      Steps p.tables e below (s₁.setTop (entryFrame m #[.ref b, .int (Int32.ofNat o), .ref d, .int (Int32.ofNat q), .int (Int32.ofNat len)] 7)) (Tl.setTop (mkF m 3 #[.val (.ref b), .val (.int (Int32.ofNat (o + i))), .val (.ref d), .val (.int (Int32.ofNat (q + i))), .val (.int (Int32.ofNat len)), .val (.int (Int32.ofNat i)), z] [])) → ∃ (T' : State) (B' : Cell) (z' : Slot), Stand p l e { frames := 0, locals := 0, cells := 0, slots := 0 } s m #[.ref b, .int (Int32.ofNat o), .ref d, .int (Int32.ofNat q), .int (Int32.ofNat len)] below meth c T' ([] ++ copyLocs d q len) 0 0 ∧ Put d B' s₁ T' ∧ Laid B B' q (q + len) (fun j => Value.int (lo8 (cv A (o + (j - q))))) ∧
      Steps p.tables e below (s₁.setTop (entryFrame m #[.ref b, .int (Int32.ofNat o), .ref d, .int (Int32.ofNat q), .int (Int32.ofNat len)] 7)) (T'.setTop (mkF m 3 #[.val (.ref b), .val (.int (Int32.ofNat (o + len))), .val (.ref d), .val (.int (Int32.ofNat (q + len))), .val (.int (Int32.ofNat len)), .val (.int (Int32.ofNat len)), z'] [])) := by
    intro r
    induction r with
    | zero =>
      intro i hi z hz Tl Bk Xl pl fl cl
      have hil : i = len := by omega
      rw [hil] at Xl fl cl
      exact ⟨Tl, Bk, z, Xl, pl, fl, cl⟩
    | succ r ih =>
      intro i hi z hz Tl Bk Xl pl fl cl
      have all := X0.warmed.alike.symm.trans Xl.warmed.alike
      have hAl := hA0.keep all (pl.other hne hA0.1)
      have hBk := hB0.like all pl.1 fl.1 fl.2.1 fl.2.2.1
      have hlt : q + i < Bk.slots.size := by rw [fl.2.2.1]; omega
      have c3 : Steps p.tables e below (s₁.setTop (entryFrame m #[.ref b, .int (Int32.ofNat o), .ref d, .int (Int32.ofNat q), .int (Int32.ofNat len)] 7)) (Tl.setTop (mkF m 12 #[.val (.ref b), .val (.int (Int32.ofNat (o + i))), .val (.ref d), .val (.int (Int32.ofNat (q + i))), .val (.int (Int32.ofNat len)), .val (.int (Int32.ofNat i)), z] [.int (Int32.ofNat (o + i)), .ref b])) := cl.trans (by
        refine XS.iload Xl.here hexec rfl (hb hbytes d3) rfl ?_
        refine XS.iload Xl.here hexec rfl (hb hbytes d5) rfl ?_
        refine XS.icmpNo Xl.here hexec rfl (hb hbytes d7) rfl (ii_ge_f (lt32 (by omega) (by omega))) ?_
        refine XS.aloadN Xl.here hexec rfl (hb hbytes d10) rfl rfl ?_
        refine XS.iloadN Xl.here hexec rfl (hb hbytes d11) rfl ?_
        exact Steps.refl _)
      have c4 : Steps p.tables e below (s₁.setTop (entryFrame m #[.ref b, .int (Int32.ofNat o), .ref d, .int (Int32.ofNat q), .int (Int32.ofNat len)] 7)) (Tl.setTop (mkF m 13 #[.val (.ref b), .val (.int (Int32.ofNat (o + i))), .val (.ref d), .val (.int (Int32.ofNat (q + i))), .val (.int (Int32.ofNat len)), .val (.int (Int32.ofNat i)), z] [.int (cv A (o + i))])) := c3.trans (by
        refine Xl.aget hexec hAl rfl (hA.get (i := o + i) (by omega)) rfl rfl (hb hbytes d12) ?_
        exact Steps.refl _)
      have c5 : Steps p.tables e below (s₁.setTop (entryFrame m #[.ref b, .int (Int32.ofNat o), .ref d, .int (Int32.ofNat q), .int (Int32.ofNat len)] 7)) (Tl.setTop (mkF m 15 #[.val (.ref b), .val (.int (Int32.ofNat (o + i))), .val (.ref d), .val (.int (Int32.ofNat (q + i))), .val (.int (Int32.ofNat len)), .val (.int (Int32.ofNat i)), .val (.int (cv A (o + i)))] [])) := c4.trans (by
        refine XS.istoreS Xl.here hexec rfl (hb hbytes d13) rfl rfl hz ?_
        exact Steps.refl _)
      have c6 : Steps p.tables e below (s₁.setTop (entryFrame m #[.ref b, .int (Int32.ofNat o), .ref d, .int (Int32.ofNat q), .int (Int32.ofNat len)] 7)) (Tl.setTop (mkF m 31 #[.val (.ref b), .val (.int (Int32.ofNat (o + i))), .val (.ref d), .val (.int (Int32.ofNat (q + i))), .val (.int (Int32.ofNat len)), .val (.int (Int32.ofNat i)), .val (.int (cv A (o + i)))] [.int (lo8 (cv A (o + i))), .int (Int32.ofNat (q + i)), .ref d])) := c5.trans (by
        refine XS.iload Xl.here hexec rfl (hb hbytes d15) rfl ?_
        refine sipushV Xl.here hexec rfl 255 (hb hbytes d17) (by decide) ?_
        refine XS.icmpYes Xl.here hexec rfl (pc0 := 20) rfl (hb hbytes d20) rfl (ii_le_t (hp i (by omega))) (by decide) rfl ?_
        refine XS.aloadN Xl.here hexec rfl (hb hbytes d26) rfl rfl ?_
        refine XS.iloadN Xl.here hexec rfl (hb hbytes d27) rfl ?_
        refine XS.iload Xl.here hexec rfl (hb hbytes d28) rfl ?_
        refine i2b Xl.here hexec rfl (hb hbytes d30) rfl ?_
        exact Steps.refl _)
      obtain ⟨T7, X7, p7, st7⟩ := Xl.aput hexec hBk rfl hlt rfl (fits_lo8 (cv A (o + i))) (g := (mkF m 31 #[.val (.ref b), .val (.int (Int32.ofNat (o + i))), .val (.ref d), .val (.int (Int32.ofNat (q + i))), .val (.int (Int32.ofNat len)), .val (.int (Int32.ofNat i)), .val (.int (cv A (o + i)))] [.int (lo8 (cv A (o + i))), .int (Int32.ofNat (q + i)), .ref d])) rfl (rest := []) rfl (hb hbytes d31)
      have c8 : Steps p.tables e below (s₁.setTop (entryFrame m #[.ref b, .int (Int32.ofNat o), .ref d, .int (Int32.ofNat q), .int (Int32.ofNat len)] 7)) (T7.setTop (mkF m 32 #[.val (.ref b), .val (.int (Int32.ofNat (o + i))), .val (.ref d), .val (.int (Int32.ofNat (q + i))), .val (.int (Int32.ofNat len)), .val (.int (Int32.ofNat i)), .val (.int (cv A (o + i)))] [])) := c6.trans (st7 _ (Steps.refl _))
      have c9 : Steps p.tables e below (s₁.setTop (entryFrame m #[.ref b, .int (Int32.ofNat o), .ref d, .int (Int32.ofNat q), .int (Int32.ofNat len)] 7)) (T7.setTop (mkF m 3 #[.val (.ref b), .val (.int (Int32.ofNat (o + i) + 1)), .val (.ref d), .val (.int (Int32.ofNat (q + i) + 1)), .val (.int (Int32.ofNat len)), .val (.int (Int32.ofNat i + 1)), .val (.int (cv A (o + i)))] [])) := c8.trans (by
        refine iincV X7.here hexec rfl 1 (hb hbytes d32) (by decide) rfl rfl ?_
        refine iincV X7.here hexec rfl 1 (hb hbytes d35) (by decide) rfl rfl ?_
        refine iincV X7.here hexec rfl 1 (hb hbytes d38) (by decide) rfl rfl ?_
        refine XS.goto X7.here hexec rfl (pc0 := 41) rfl (hb hbytes d41) (by decide) rfl ?_
        exact Steps.refl _)
      have c10 : Steps p.tables e below (s₁.setTop (entryFrame m #[.ref b, .int (Int32.ofNat o), .ref d, .int (Int32.ofNat q), .int (Int32.ofNat len)] 7)) (T7.setTop (mkF m 3 #[.val (.ref b), .val (.int (Int32.ofNat (o + (i + 1)))), .val (.ref d), .val (.int (Int32.ofNat (q + (i + 1)))), .val (.int (Int32.ofNat len)), .val (.int (Int32.ofNat (i + 1))), .val (.int (cv A (o + i)))] [])) := by
        have := c9
        rw [succ32, succ32, succ32] at this
        exact this
      exact ih (i + 1) (by omega) _ (Or.inr ⟨_, rfl, rfl⟩) T7 _ (by rw [copyLocs_step, ← List.append_assoc]; exact X7) (pl.trans p7) (fl.step (by omega) hlt (by simp)) c10
  obtain ⟨T9, B9, z9, X9, p9, f9, g9⟩ := loop len 0 (by omega) .unset (Or.inl rfl) s₁ B (by simpa [copyLocs] using X0) ⟨hB0.1, fun _ _ => rfl, rfl⟩ (Laid.zero _ _ _) c2
  have c11 : Steps p.tables e below (s₁.setTop (entryFrame m #[.ref b, .int (Int32.ofNat o), .ref d, .int (Int32.ofNat q), .int (Int32.ofNat len)] 7)) (T9.setTop (mkF m 46 #[.val (.ref b), .val (.int (Int32.ofNat (o + len))), .val (.ref d), .val (.int (Int32.ofNat (q + len))), .val (.int (Int32.ofNat len)), .val (.int (Int32.ofNat len)), z9] [.int (Int32.ofNat len)])) := g9.trans (by
    refine XS.iload X9.here hexec rfl (hb hbytes d3) rfl ?_
    refine XS.iload X9.here hexec rfl (hb hbytes d5) rfl ?_
    refine XS.icmpYes X9.here hexec rfl (pc0 := 7) rfl (hb hbytes d7) rfl (ii_ge_t (nlt32 (by omega) (Nat.le_refl _))) (by decide) rfl ?_
    refine XS.iload X9.here hexec rfl (hb hbytes d44) rfl ?_
    exact Steps.refl _)
  exact ⟨T9, some (.int (Int32.ofNat len)), _, _, _, X9, by simp, rfl, rfl, (fun h => by cases h), ⟨rfl, B9, p9.from hh0, f9⟩, fun fs hl => c11.trans (X9.ireturnOut hexec hret rfl (Or.inl rfl) (hb hbytes d46) hl)⟩
end Cmp5
namespace Cmp3
def yN : MethodName := ⟨"java/lang/StringUTF16", "compress", "([CII)[B"⟩
abbrev yB : ByteArray := jdk_52_method_16_code
theorem d0 : decode yB 0 = .ok (.iload_n 2, 1) := by decide +kernel
theorem d1 : decode yB 1 = .ok (.newarray .byte, 2) := by decide +kernel
theorem d3 : decode yB 3 = .ok (.astore_n 3, 1) := by decide +kernel
theorem d4 : decode yB 4 = .ok (.aload_n 0, 1) := by decide +kernel
theorem d5 : decode yB 5 = .ok (.iload_n 1, 1) := by decide +kernel
theorem d6 : decode yB 6 = .ok (.aload_n 3, 1) := by decide +kernel
theorem d7 : decode yB 7 = .ok (.iconst 0, 1) := by decide +kernel
theorem d8 : decode yB 8 = .ok (.iload_n 2, 1) := by decide +kernel
theorem d9 : decode yB 9 = .ok (.invokestatic 115, 3) := by decide +kernel
theorem d12 : decode yB 12 = .ok (.istore 4, 2) := by decide +kernel
theorem d14 : decode yB 14 = .ok (.iload 4, 2) := by decide +kernel
theorem d16 : decode yB 16 = .ok (.iload_n 2, 1) := by decide +kernel
theorem d17 : decode yB 17 = .ok (.if_icmp (.eq) 40, 3) := by decide +kernel
theorem d57 : decode yB 57 = .ok (.aload_n 3, 1) := by decide +kernel
theorem d58 : decode yB 58 = .ok (.areturn, 1) := by decide +kernel
def site : List Cond := [.arrayClass .byte, Cmp5.tab] ++ staticW U16 115 Cmp5.yN
def tab : Cond := tabOf yN yB 6 (some (.array .byte)) site
def P (b : Addr) (A : Cell) (o len : Nat) (args : Array Value) (s : State) : Prop := args = #[.ref b, .int (Int32.ofNat o), .int (Int32.ofNat len)] ∧ Ch b A s ∧ o + len ≤ A.slots.size ∧ len ≤ 536870912 ∧ ∀ i, i < len → ¬ 255 < cv A (o + i)
def E (b : Addr) (A : Cell) (o len : Nat) (r : Option Value) (s u : State) : Prop := NewArr .byte "[B" len (fun j => .int (lo8 (cv A (o + j)))) r s u ∧ u.heap.size = s.heap.size + 1
/-- no char of the range above 255: a new byte[] of their low bytes -/
theorem law (l : Launch) (b : Addr) (A : Cell) (o len : Nat) : Law l yN 3 3 1 18 yB 6 (some (.array .byte)) site (P b A o len) (E b A o len) [] 1 len := by
  refine Law.of_walk (plainFor_of_name (by decide +kernel)) (by decide +kernel) (by decide +kernel) (by decide) (fun _ _ h => by rw [h.1]; rfl) (fun _ U U' hal hh h => ⟨h.1, h.2.1.mv hal hh, h.2.2⟩) (fun r U U' V V' h1 hal h2 h => ⟨NewArr.mv r U U' V V' h1 hal h2 h.1, by rw [h1, h2]; exact h.2⟩) ?_
  intro p e s m args below meth c s₁ X0 hexec hbytes hml hret hlk hnm hown hh0 W hP
  obtain ⟨rfl, hA, l1, l2, hp⟩ := hP
  have a31 := hA.1.2.2.2
  have c1 : Steps p.tables e below (s₁.setTop (entryFrame m #[.ref b, .int (Int32.ofNat o), .int (Int32.ofNat len)] 6)) (s₁.setTop (mkF m 0 #[.val (.ref b), .val (.int (Int32.ofNat o)), .val (.int (Int32.ofNat len)), .unset, .unset, .unset] [])) := entry rfl
  have c2 : Steps p.tables e below (s₁.setTop (entryFrame m #[.ref b, .int (Int32.ofNat o), .int (Int32.ofNat len)] 6)) (s₁.setTop (mkF m 1 #[.val (.ref b), .val (.int (Int32.ofNat o)), .val (.int (Int32.ofNat len)), .unset, .unset, .unset] [.int (Int32.ofNat len)])) := c1.trans (by
    refine XS.iloadN X0.here hexec rfl (hb hbytes d0) rfl ?_
    exact Steps.refl _)
  obtain ⟨T3, B3, X3, ba3, bs3, bv3, bh3, bf3, st3⟩ := X0.anew hexec (atype := .byte) (wk W (.arrayClass .byte)) rfl (by show len * 1 ≤ _; omega) (by omega) (g := (mkF m 1 #[.val (.ref b), .val (.int (Int32.ofNat o)), .val (.int (Int32.ofNat len)), .unset, .unset, .unset] [.int (Int32.ofNat len)])) rfl (hb hbytes d1) (rest := []) rfl (Nat.le_refl _) (by show 0 + len ≤ len; omega)
  rw [hh0] at ba3 st3
  have kp3 : XT.Kept s T3 := (XT.Kept.of_eq hh0).push bh3
  have hA3 := hA.keep X3.warmed.alike (kp3 _ _ hA.1.1)
  have hne : b ≠ s.heap.size := hA.1.ne
  have c4 : Steps p.tables e below (s₁.setTop (entryFrame m #[.ref b, .int (Int32.ofNat o), .int (Int32.ofNat len)] 6)) (T3.setTop (mkF m 3 #[.val (.ref b), .val (.int (Int32.ofNat o)), .val (.int (Int32.ofNat len)), .unset, .unset, .unset] [.ref s.heap.size])) := c2.trans (st3 _ (Steps.refl _))
  have c5 : Steps p.tables e below (s₁.setTop (entryFrame m #[.ref b, .int (Int32.ofNat o), .int (Int32.ofNat len)] 6)) (T3.setTop (mkF m 9 #[.val (.ref b), .val (.int (Int32.ofNat o)), .val (.int (Int32.ofNat len)), .val (.ref s.heap.size), .unset, .unset] [.int (Int32.ofNat len), .int 0, .ref s.heap.size, .int (Int32.ofNat o), .ref b])) := c4.trans (by
    refine XS.astoreN X3.here hexec rfl (hb hbytes d3) rfl rfl rfl ?_
    refine XS.aloadN X3.here hexec rfl (hb hbytes d4) rfl rfl ?_
    refine XS.iloadN X3.here hexec rfl (hb hbytes d5) rfl ?_
    refine XS.aloadN X3.here hexec rfl (hb hbytes d6) rfl rfl ?_
    refine iconstV X3.here hexec rfl 0 (hb hbytes d7) (by decide) ?_
    refine XS.iloadN X3.here hexec rfl (hb hbytes d8) rfl ?_
    exact Steps.refl _)
  obtain ⟨v6, T6, X6, E6, g6⟩ := X3.callS hexec (Cmp5.law l b A s.heap.size B3 o 0 len) hown (wks W (staticW U16 115 Cmp5.yN)) (wk W Cmp5.tab) (W := 0) (Nat.le_of_ble_eq_true rfl) (Nat.le_of_ble_eq_true rfl) (Nat.le_refl _) (by show 0 + len + 0 ≤ len; omega) (g := (mkF m 9 #[.val (.ref b), .val (.int (Int32.ofNat o)), .val (.int (Int32.ofNat len)), .val (.ref s.heap.size), .unset, .unset] [.int (Int32.ofNat len), .int (Int32.ofNat 0), .ref s.heap.size, .int (Int32.ofNat o), .ref b])) rfl (by rw [hml]; rfl) c5 (argsL := [.ref b, .int (Int32.ofNat o), .ref s.heap.size, .int (Int32.ofNat 0), .int (Int32.ofNat len)]) (rest := []) rfl rfl (by show 2 * 0 + 0 ≤ _; decide) (hb hbytes d9) (⟨rfl, hA3, ba3, hne, l1, by rw [bs3]; simp, hp⟩)
  obtain ⟨rfl, B6, p6, f6⟩ := E6
  have c7 : Steps p.tables e below (s₁.setTop (entryFrame m #[.ref b, .int (Int32.ofNat o), .int (Int32.ofNat len)] 6)) (T6.setTop (mkF m 12 #[.val (.ref b), .val (.int (Int32.ofNat o)), .val (.int (Int32.ofNat len)), .val (.ref s.heap.size), .unset, .unset] [.int (Int32.ofNat len)])) := g6
  have c8 : Steps p.tables e below (s₁.setTop (entryFrame m #[.ref b, .int (Int32.ofNat o), .int (Int32.ofNat len)] 6)) (T6.setTop (mkF m 58 #[.val (.ref b), .val (.int (Int32.ofNat o)), .val (.int (Int32.ofNat len)), .val (.ref s.heap.size), .val (.int (Int32.ofNat len)), .unset] [.ref s.heap.size])) := c7.trans (by
    refine XS.istore X6.here hexec rfl (hb hbytes d12) rfl rfl ?_
    refine XS.iload X6.here hexec rfl (hb hbytes d14) rfl ?_
    refine XS.iloadN X6.here hexec rfl (hb hbytes d16) rfl ?_
    refine XS.icmpYes X6.here hexec rfl (pc0 := 17) rfl (hb hbytes d17) rfl (ii_eq_t rfl) (by decide) rfl ?_
    refine XS.aloadN X6.here hexec rfl (hb hbytes d57) rfl rfl ?_
    exact Steps.refl _)
  have X8 := X6.wide (L' := []) (cells' := 1) (slots' := len) (fun x hx hlt => by
    simp only [List.nil_append, copyLocs, List.mem_map, List.mem_range] at hx
    obtain ⟨i, -, rfl⟩ := hx
    exact absurd hlt (Nat.lt_irrefl _)) (Nat.le_refl _) (by omega)
  exact ⟨T6, some (.ref s.heap.size), _, _, _, X8, rfl, rfl, rfl, (fun h => by cases h), ⟨⟨rfl, B6, ba3.like (X3.warmed.alike.symm.trans X6.warmed.alike) p6.1 f6.1 f6.2.1 f6.2.2.1, f6.2.1.trans bv3, by rw [X6.warmed.alike.findClass, f6.1]; exact bf3, by rw [f6.2.2.1, bs3]; simp, fun j hj => by rw [f6.2.2.2 j, if_pos (by omega)]; rfl, kp3.put p6 (Nat.le_refl _)⟩, by rw [p6.2.2, bh3, hh0]; simp⟩, fun fs hl => c8.trans (X8.areturnOut hexec rfl hret rfl (hb hbytes d58) hl)⟩
end Cmp3
namespace CodL
def yN : MethodName := ⟨"java/lang/StringUTF16", "coderFromArrayLen", "([BI)B"⟩
abbrev yB : ByteArray := jdk_52_method_15_code
theorem d0 : decode yB 0 = .ok (.iload_n 1, 1) := by decide +kernel
theorem d1 : decode yB 1 = .ok (.aload_n 0, 1) := by decide +kernel
theorem d2 : decode yB 2 = .ok (.arraylength, 1) := by decide +kernel
theorem d3 : decode yB 3 = .ok (.isub, 1) := by decide +kernel
theorem d4 : decode yB 4 = .ok (.bipush 31, 2) := by decide +kernel
theorem d6 : decode yB 6 = .ok (.iushr, 1) := by decide +kernel
theorem d7 : decode yB 7 = .ok (.i2b, 1) := by decide +kernel
theorem d8 : decode yB 8 = .ok (.ireturn, 1) := by decide +kernel
def site : List Cond := []
def tab : Cond := tabOf yN yB 2 (some .byte) site
def P (d : Addr) (B : Cell) (args : Array Value) (s : State) : Prop := args = #[.ref d, .int (Int32.ofNat B.slots.size)] ∧ Arr .byte d B s
def E (r : Option Value) (s u : State) : Prop := XT.PureE (some (.int 0)) r s u
/-- an array as long as the number of chars: LATIN1 -/
theorem law (l : Launch) (d : Addr) (B : Cell) : Law l yN 2 2 0 0 yB 2 (some .byte) site (P d B) E [] 0 0 := by
  refine Law.of_walk (plainFor_of_name (by decide +kernel)) (by decide +kernel) (by decide +kernel) (by decide) (fun _ _ h => by rw [h.1]; rfl) (fun _ U U' hal hh h => ⟨h.1, h.2.mv hal hh⟩) (fun r U U' V V' h1 hal h2 h => XT.PureE.mv r U U' V V' h1 hal h2 h) ?_
  intro p e s m args below meth c s₁ X0 hexec hbytes hml hret hlk hnm hown hh0 W hP
  obtain ⟨rfl, hB⟩ := hP
  have hB0 := hB.mv X0.warmed.alike hh0
  have c1 : Steps p.tables e below (s₁.setTop (entryFrame m #[.ref d, .int (Int32.ofNat B.slots.size)] 2)) (s₁.setTop (mkF m 0 #[.val (.ref d), .val (.int (Int32.ofNat B.slots.size))] [])) := entry rfl
  have c2 : Steps p.tables e below (s₁.setTop (entryFrame m #[.ref d, .int (Int32.ofNat B.slots.size)] 2)) (s₁.setTop (mkF m 2 #[.val (.ref d), .val (.int (Int32.ofNat B.slots.size))] [.ref d, .int (Int32.ofNat B.slots.size)])) := c1.trans (by
    refine XS.iloadN X0.here hexec rfl (hb hbytes d0) rfl ?_
    refine XS.aloadN X0.here hexec rfl (hb hbytes d1) rfl rfl ?_
    exact Steps.refl _)
  have c3 : Steps p.tables e below (s₁.setTop (entryFrame m #[.ref d, .int (Int32.ofNat B.slots.size)] 2)) (s₁.setTop (mkF m 8 #[.val (.ref d), .val (.int (Int32.ofNat B.slots.size))] [.int (lo8 (ushr (Int32.ofNat B.slots.size - Int32.ofNat B.slots.size) 31))])) := c2.trans (by
    refine X0.alen hexec hB0 rfl rfl (hb hbytes d2) ?_
    refine XS.isub X0.here hexec rfl (hb hbytes d3) rfl ?_
    refine bipushV X0.here hexec rfl 31 (hb hbytes d4) (by decide) ?_
    refine iushr X0.here hexec rfl (hb hbytes d6) rfl ?_
    refine i2b X0.here hexec rfl (hb hbytes d7) rfl ?_
    exact Steps.refl _)
  have e0 : lo8 (ushr (Int32.ofNat B.slots.size - Int32.ofNat B.slots.size) 31) = 0 := by rw [Int32.sub_self]; decide
  rw [e0] at c3
  exact ⟨s₁, some (.int 0), _, _, _, X0, rfl, rfl, rfl, (fun h => by cases h), ⟨rfl, hh0⟩, fun fs hl => c3.trans (X0.ireturnOut hexec hret rfl (Or.inr (Or.inr (Or.inl rfl))) (hb hbytes d8) hl)⟩
end CodL
/-- the String at a is Latin-1 over a new byte[] (the heap's one new cell): the low bytes of the len chars of A from o on; every cell but a is kept -/
def Got (a : Addr) (D : Cell) (fV fC : Field) (A : Cell) (o len : Nat) (r : Option Value) (s u : State) : Prop := r = none ∧ ∃ D' V : Cell, Blank "java/lang/String" a D' u ∧ Same D D' [fV.slot, fC.slot] ∧ D'.slots[fV.slot]? = some (.ref s.heap.size) ∧ D'.slots[fC.slot]? = some (.int 0) ∧ Arr .byte s.heap.size V u ∧ V.vm = .none ∧ u.vm.findClass "[B" = some V.cls ∧ V.slots.size = len ∧ (∀ j, j < len → V.slots[j]? = some (.int (lo8 (cv A (o + j))))) ∧ (∀ (y : Addr) (c : Cell), y ≠ a → s.heap[y]? = some c → u.heap[y]? = some c) ∧ u.heap.size = s.heap.size + 1
theorem Got.mv {a : Addr} {D A : Cell} {fV fC : Field} {o len : Nat} : ∀ r (U U' V V' : State), U'.heap = U.heap → V.vm.Alike V'.vm → V'.heap = V.heap → Got a D fV fC A o len r U V → Got a D fV fC A o len r U' V' :=
  fun r U U' V V' h1 hal h2 ⟨e0, D', X, a1, a2, a3, a4, a5, a6, a7, a8, a9, a10, a11⟩ => ⟨e0, D', X, a1.mv hal h2, a2, by rw [h1]; exact a3, a4, by rw [h1]; exact a5.mv hal h2, a6, by rw [hal.findClass]; exact a7, a8, a9, by rw [h1, h2]; exact a10, by rw [h1, h2]; exact a11⟩
namespace New4
def yN : MethodName := ⟨"java/lang/String", "<init>", "([CIILjava/lang/Void;)V"⟩
abbrev yB : ByteArray := jdk_42_method_149_code
theorem d0 : decode yB 0 = .ok (.aload_n 0, 1) := by decide +kernel
theorem d1 : decode yB 1 = .ok (.invokespecial 1, 3) := by decide +kernel
theorem d4 : decode yB 4 = .ok (.iload_n 3, 1) := by decide +kernel
theorem d5 : decode yB 5 = .ok (.ifCond (.ne) 22, 3) := by decide +kernel
theorem d27 : decode yB 27 = .ok (.getstatic 38, 3) := by decide +kernel
theorem d30 : decode yB 30 = .ok (.ifCond (.eq) 28, 3) := by decide +kernel
theorem d33 : decode yB 33 = .ok (.aload_n 1, 1) := by decide +kernel
theorem d34 : decode yB 34 = .ok (.iload_n 2, 1) := by decide +kernel
theorem d35 : decode yB 35 = .ok (.iload_n 3, 1) := by decide +kernel
theorem d36 : decode yB 36 = .ok (.invokestatic 177, 3) := by decide +kernel
theorem d39 : decode yB 39 = .ok (.astore 5, 2) := by decide +kernel
theorem d41 : decode yB 41 = .ok (.aload_n 0, 1) := by decide +kernel
theorem d42 : decode yB 42 = .ok (.aload 5, 2) := by decide +kernel
theorem d44 : decode yB 44 = .ok (.iload_n 3, 1) := by decide +kernel
theorem d45 : decode yB 45 = .ok (.invokestatic 47, 3) := by decide +kernel
theorem d48 : decode yB 48 = .ok (.putfield 15, 3) := by decide +kernel
theorem d51 : decode yB 51 = .ok (.aload_n 0, 1) := by decide +kernel
theorem d52 : decode yB 52 = .ok (.aload 5, 2) := by decide +kernel
theorem d54 : decode yB 54 = .ok (.putfield 9, 3) := by decide +kernel
theorem d57 : decode yB 57 = .ok (.return_, 1) := by decide +kernel
def site : List Cond := [.fieldLink "java/lang/String" 38 "java/lang/String" "COMPACT_STRINGS" "Z", Cmp3.tab, CodL.tab, .laysFinal "java/lang/String" "java/lang/String" "value" "[B", .fieldLink "java/lang/String" 9 "java/lang/String" "value" "[B", .laysFinal "java/lang/String" "java/lang/String" "coder" "B", .fieldLink "java/lang/String" 15 "java/lang/String" "coder" "B"] ++ objW "java/lang/String" 1 ++ staticW "java/lang/String" 177 Cmp3.yN ++ staticW "java/lang/String" 47 CodL.yN
def tab : Cond := tabOf yN yB 6 none site
def P (a : Addr) (D : Cell) (fV fC : Field) (b : Addr) (A : Cell) (z : Int32) (o len : Nat) (args : Array Value) (s : State) : Prop := args = #[.ref a, .ref b, .int (Int32.ofNat o), .int (Int32.ofNat len), .null] ∧ Blank "java/lang/String" a D s ∧ Found "java/lang/String" "value" "[B" fV s ∧ Found "java/lang/String" "coder" "B" fC s ∧ Ch b A s ∧ StaticIs s "java/lang/String" "COMPACT_STRINGS" "Z" (.int z) ∧ ¬ z = 0 ∧ 0 < len ∧ o + len ≤ A.slots.size ∧ len ≤ 536870912 ∧ ∀ i, i < len → ¬ 255 < cv A (o + i)
def E (a : Addr) (D : Cell) (fV fC : Field) (A : Cell) (o len : Nat) (r : Option Value) (s u : State) : Prop := Got a D fV fC A o len r s u
/-- len > 0, no char of the range above 255: a Latin-1 String of their low bytes -/
theorem law (l : Launch) (a : Addr) (D : Cell) (fV fC : Field) (b : Addr) (A : Cell) (z : Int32) (o len : Nat) : Law l yN 5 4 2 35 yB 6 none site (P a D fV fC b A z o len) (E a D fV fC A o len) [⟨a, fC.slot⟩, ⟨a, fV.slot⟩] 1 len := by
  refine Law.of_walk (plainFor_of_name (by decide +kernel)) (by decide +kernel) (by decide +kernel) (by decide) (fun _ _ h => by rw [h.1]; rfl) (fun _ U U' hal hh h => ⟨h.1, h.2.1.mv hal hh, h.2.2.1.al hal, h.2.2.2.1.al hal, h.2.2.2.2.1.mv hal hh, h.2.2.2.2.2.1.there hal hh, h.2.2.2.2.2.2⟩) (fun r U U' V V' h1 hal h2 h => Got.mv r U U' V V' h1 hal h2 h) ?_
  intro p e s m args below meth c s₁ X0 hexec hbytes hml hret hlk hnm hown hh0 W hP
  obtain ⟨rfl, hB, f1, f2, hA, s1, hz, l0, l1, l2, hp⟩ := hP
  have a31 := hA.1.2.2.2
  have c1 : Steps p.tables e below (s₁.setTop (entryFrame m #[.ref a, .ref b, .int (Int32.ofNat o), .int (Int32.ofNat len), .null] 6)) (s₁.setTop (mkF m 0 #[.val (.ref a), .val (.ref b), .val (.int (Int32.ofNat o)), .val (.int (Int32.ofNat len)), .val .null, .unset] [])) := entry rfl
  have c2 : Steps p.tables e below (s₁.setTop (entryFrame m #[.ref a, .ref b, .int (Int32.ofNat o), .int (Int32.ofNat len), .null] 6)) (s₁.setTop (mkF m 1 #[.val (.ref a), .val (.ref b), .val (.int (Int32.ofNat o)), .val (.int (Int32.ofNat len)), .val .null, .unset] [.ref a])) := c1.trans (by
    refine XS.aloadN X0.here hexec rfl (hb hbytes d0) rfl rfl ?_
    exact Steps.refl _)
  obtain ⟨T3, X3, q3, st3⟩ := X0.oinit hexec hown (wks W (objW "java/lang/String" 1)) (g := (mkF m 1 #[.val (.ref a), .val (.ref b), .val (.int (Int32.ofNat o)), .val (.int (Int32.ofNat len)), .val .null, .unset] [.ref a])) rfl (by rw [hml]; rfl) (rest := []) rfl (hb hbytes d1) (W := 0) (by show 2 * 0 + 0 ≤ _; decide) (Nat.le_of_ble_eq_true rfl) (Nat.le_of_ble_eq_true rfl)
  have hh3 := q3.trans hh0
  have c4 : Steps p.tables e below (s₁.setTop (entryFrame m #[.ref a, .ref b, .int (Int32.ofNat o), .int (Int32.ofNat len), .null] 6)) (T3.setTop (mkF m 27 #[.val (.ref a), .val (.ref b), .val (.int (Int32.ofNat o)), .val (.int (Int32.ofNat len)), .val .null, .unset] [])) := (c2.trans (st3 _ (Steps.refl _))).trans (by
    refine XS.iloadN X3.here hexec rfl (hb hbytes d4) rfl ?_
    refine XS.ifYes X3.here hexec rfl (pc0 := 5) rfl (hb hbytes d5) rfl (i0_ne_t (nz32 (by omega) l0)) (by decide) rfl ?_
    exact Steps.refl _)
  obtain ⟨T5, X5, q5, st5⟩ := X3.sget hexec hown (wk W (.fieldLink "java/lang/String" 38 "java/lang/String" "COMPACT_STRINGS" "Z")) s1 (fun _ _ h => by rw [hh3]; exact h) (g := (mkF m 27 #[.val (.ref a), .val (.ref b), .val (.int (Int32.ofNat o)), .val (.int (Int32.ofNat len)), .val .null, .unset] [])) rfl (hb hbytes d27)
  have hh5 := q5.trans hh3
  have c6 : Steps p.tables e below (s₁.setTop (entryFrame m #[.ref a, .ref b, .int (Int32.ofNat o), .int (Int32.ofNat len), .null] 6)) (T5.setTop (mkF m 30 #[.val (.ref a), .val (.ref b), .val (.int (Int32.ofNat o)), .val (.int (Int32.ofNat len)), .val .null, .unset] [.int z])) := c4.trans (st5 _ (Steps.refl _))
  have c7 : Steps p.tables e below (s₁.setTop (entryFrame m #[.ref a, .ref b, .int (Int32.ofNat o), .int (Int32.ofNat len), .null] 6)) (T5.setTop (mkF m 36 #[.val (.ref a), .val (.ref b), .val (.int (Int32.ofNat o)), .val (.int (Int32.ofNat len)), .val .null, .unset] [.int (Int32.ofNat len), .int (Int32.ofNat o), .ref b])) := c6.trans (by
    refine XS.ifNo X5.here hexec rfl (hb hbytes d30) rfl (i0_eq_f hz) ?_
    refine XS.aloadN X5.here hexec rfl (hb hbytes d33) rfl rfl ?_
    refine XS.iloadN X5.here hexec rfl (hb hbytes d34) rfl ?_
    refine XS.iloadN X5.here hexec rfl (hb hbytes d35) rfl ?_
    exact Steps.refl _)
  obtain ⟨v8, T8, X8, E8, g8⟩ := X5.callS hexec (Cmp3.law l b A o len) hown (wks W (staticW "java/lang/String" 177 Cmp3.yN)) (wk W Cmp3.tab) (W := 0) (Nat.le_of_ble_eq_true rfl) (Nat.le_of_ble_eq_true rfl) (Nat.le_refl _) (by show 0 + len ≤ len; omega) (g := (mkF m 36 #[.val (.ref a), .val (.ref b), .val (.int (Int32.ofNat o)), .val (.int (Int32.ofNat len)), .val .null, .unset] [.int (Int32.ofNat len), .int (Int32.ofNat o), .ref b])) rfl (by rw [hml]; rfl) c7 (argsL := [.ref b, .int (Int32.ofNat o), .int (Int32.ofNat len)]) (rest := []) rfl rfl (by show 2 * 0 + 0 ≤ _; decide) (hb hbytes d36) (⟨rfl, hA.mv X5.warmed.alike hh5, l1, l2, hp⟩)
  obtain ⟨e8, z8⟩ := E8
  obtain ⟨rfl, N, n1, n2, n3, n4, n5, n6⟩ := NewArr.mv _ T5 s _ _ hh5.symm (Vm.Alike.refl _) rfl e8
  rw [hh5] at z8
  have hB1 := hB.keep X8.warmed.alike (n6 _ _ hB.1)
  have hne : s.heap.size ≠ a := (Nat.ne_of_lt (Array.getElem?_eq_some_iff.mp hB.1).1).symm
  have c9 : Steps p.tables e below (s₁.setTop (entryFrame m #[.ref a, .ref b, .int (Int32.ofNat o), .int (Int32.ofNat len), .null] 6)) (T8.setTop (mkF m 39 #[.val (.ref a), .val (.ref b), .val (.int (Int32.ofNat o)), .val (.int (Int32.ofNat len)), .val .null, .unset] [.ref s.heap.size])) := g8
  have c10 : Steps p.tables e below (s₁.setTop (entryFrame m #[.ref a, .ref b, .int (Int32.ofNat o), .int (Int32.ofNat len), .null] 6)) (T8.setTop (mkF m 45 #[.val (.ref a), .val (.ref b), .val (.int (Int32.ofNat o)), .val (.int (Int32.ofNat len)), .val .null, .val (.ref s.heap.size)] [.int (Int32.ofNat N.slots.size), .ref s.heap.size, .ref a])) := by
    have hc : Steps p.tables e below (s₁.setTop (entryFrame m #[.ref a, .ref b, .int (Int32.ofNat o), .int (Int32.ofNat len), .null] 6)) (T8.setTop (mkF m 45 #[.val (.ref a), .val (.ref b), .val (.int (Int32.ofNat o)), .val (.int (Int32.ofNat len)), .val .null, .val (.ref s.heap.size)] [.int (Int32.ofNat len), .ref s.heap.size, .ref a])) := c9.trans (by
      refine XS.astore X8.here hexec rfl (hb hbytes d39) rfl rfl rfl ?_
      refine XS.aloadN X8.here hexec rfl (hb hbytes d41) rfl rfl ?_
      refine XS.aload X8.here hexec rfl (hb hbytes d42) rfl rfl ?_
      refine XS.iloadN X8.here hexec rfl (hb hbytes d44) rfl ?_
      exact Steps.refl _)
    rw [n4]; exact hc
  obtain ⟨v11, T11, X11, E11, g11⟩ := X8.callS hexec (CodL.law l s.heap.size N) hown (wks W (staticW "java/lang/String" 47 CodL.yN)) (wk W CodL.tab) (W := 1) (Nat.le_of_ble_eq_true rfl) (Nat.le_of_ble_eq_true rfl) (Nat.le_refl _) (by show 0 + len + 0 ≤ len; omega) (g := (mkF m 45 #[.val (.ref a), .val (.ref b), .val (.int (Int32.ofNat o)), .val (.int (Int32.ofNat len)), .val .null, .val (.ref s.heap.size)] [.int (Int32.ofNat N.slots.size), .ref s.heap.size, .ref a])) rfl (by rw [hml]; rfl) c10 (argsL := [.ref s.heap.size, .int (Int32.ofNat N.slots.size)]) (rest := [.ref a]) rfl rfl (by show 2 * 0 + (1 + 0) ≤ _; decide) (hb hbytes d45) (⟨rfl, n1⟩)
  obtain ⟨rfl, q11⟩ := E11
  have hB11 := hB1.mv (X8.warmed.alike.symm.trans X11.warmed.alike) q11
  have c12 : Steps p.tables e below (s₁.setTop (entryFrame m #[.ref a, .ref b, .int (Int32.ofNat o), .int (Int32.ofNat len), .null] 6)) (T11.setTop (mkF m 48 #[.val (.ref a), .val (.ref b), .val (.int (Int32.ofNat o)), .val (.int (Int32.ofNat len)), .val .null, .val (.ref s.heap.size)] [.int 0, .ref a])) := g11
  obtain ⟨T13, X13, p13, bl13, sl13, st13⟩ := X11.finit hexec hown (wk W (.fieldLink "java/lang/String" 15 "java/lang/String" "coder" "B")) (Or.inr ⟨_, (wk W (.laysFinal "java/lang/String" "java/lang/String" "coder" "B"))⟩) (Or.inl ⟨rfl, hnm⟩) f2 (Or.inl rfl) hB11 (t := .byte) (by decide +kernel) rfl (g := (mkF m 48 #[.val (.ref a), .val (.ref b), .val (.int (Int32.ofNat o)), .val (.int (Int32.ofNat len)), .val .null, .val (.ref s.heap.size)] [.int 0, .ref a])) rfl (rest := []) rfl (hb hbytes d48)
  have c14 : Steps p.tables e below (s₁.setTop (entryFrame m #[.ref a, .ref b, .int (Int32.ofNat o), .int (Int32.ofNat len), .null] 6)) (T13.setTop (mkF m 54 #[.val (.ref a), .val (.ref b), .val (.int (Int32.ofNat o)), .val (.int (Int32.ofNat len)), .val .null, .val (.ref s.heap.size)] [.ref s.heap.size, .ref a])) := (c12.trans (st13 _ (Steps.refl _))).trans (by
    refine XS.aloadN X13.here hexec rfl (hb hbytes d51) rfl rfl ?_
    refine XS.aload X13.here hexec rfl (hb hbytes d52) rfl rfl ?_
    exact Steps.refl _)
  obtain ⟨T15, X15, p15, bl15, sl15, st15⟩ := X13.finit hexec hown (wk W (.fieldLink "java/lang/String" 9 "java/lang/String" "value" "[B")) (Or.inr ⟨_, (wk W (.laysFinal "java/lang/String" "java/lang/String" "value" "[B"))⟩) (Or.inl ⟨rfl, hnm⟩) f1 (Or.inl rfl) bl13 (t := (.array .byte)) (by decide +kernel) rfl (g := (mkF m 54 #[.val (.ref a), .val (.ref b), .val (.int (Int32.ofNat o)), .val (.int (Int32.ofNat len)), .val .null, .val (.ref s.heap.size)] [.ref s.heap.size, .ref a])) rfl (rest := []) rfl (hb hbytes d54)
  have c16 : Steps p.tables e below (s₁.setTop (entryFrame m #[.ref a, .ref b, .int (Int32.ofNat o), .int (Int32.ofNat len), .null] 6)) (T15.setTop (mkF m 57 #[.val (.ref a), .val (.ref b), .val (.int (Int32.ofNat o)), .val (.int (Int32.ofNat len)), .val .null, .val (.ref s.heap.size)] [])) := c14.trans (st15 _ (Steps.refl _))
  have ap := apart (Or.inr ⟨_, (wk W (.laysFinal "java/lang/String" "java/lang/String" "value" "[B"))⟩) (Or.inr ⟨_, (wk W (.laysFinal "java/lang/String" "java/lang/String" "coder" "B"))⟩) f1 f2 (t₁ := .array .byte) (t₂ := .byte) (by decide +kernel) (by decide +kernel) (by decide)
  have al := X8.warmed.alike.symm.trans X15.warmed.alike
  have n7 : T11.heap[s.heap.size]? = some N := by rw [q11]; exact n1.1
  exact ⟨T15, none, _, _, _, X15, by simp, rfl, by omega, (fun _ => rfl), ⟨rfl, _, N, bl15, ((Same.refl D _).set _ (by simp)).set _ (by simp), sl15, (Cell.slots_setSlot_ne _ ap).trans sl13, n1.keep al (p15.other hne (p13.other hne n7)), n2, by rw [al.findClass]; exact n3, n4, n5, fun y c h1 h2 => p15.other h1 (p13.other h1 (by rw [q11]; exact n6 y c h2)), by rw [p15.2.2, p13.2.2, q11]; exact z8⟩, fun fs hl => c16.trans (X15.returnOut hexec hret (hb hbytes d57) hl)⟩
end New4
namespace New1
def yN : MethodName := ⟨"java/lang/String", "<init>", "([C)V"⟩
abbrev yB : ByteArray := jdk_42_method_3_code
theorem d0 : decode yB 0 = .ok (.aload_n 0, 1) := by decide +kernel
theorem d1 : decode yB 1 = .ok (.aload_n 1, 1) := by decide +kernel
theorem d2 : decode yB 2 = .ok (.iconst 0, 1) := by decide +kernel
theorem d3 : decode yB 3 = .ok (.aload_n 1, 1) := by decide +kernel
theorem d4 : decode yB 4 = .ok (.arraylength, 1) := by decide +kernel
theorem d5 : decode yB 5 = .ok (.aconst_null, 1) := by decide +kernel
theorem d6 : decode yB 6 = .ok (.invokespecial 27, 3) := by decide +kernel
theorem d9 : decode yB 9 = .ok (.return_, 1) := by decide +kernel
def site : List Cond := [New4.tab] ++ initW "java/lang/String" 27 New4.yN
def tab : Cond := tabOf yN yB 2 none site
def P (a : Addr) (D : Cell) (fV fC : Field) (b : Addr) (A : Cell) (z : Int32) (args : Array Value) (s : State) : Prop := args = #[.ref a, .ref b] ∧ Blank "java/lang/String" a D s ∧ Found "java/lang/String" "value" "[B" fV s ∧ Found "java/lang/String" "coder" "B" fC s ∧ Ch b A s ∧ StaticIs s "java/lang/String" "COMPACT_STRINGS" "Z" (.int z) ∧ ¬ z = 0 ∧ 0 < A.slots.size ∧ A.slots.size ≤ 536870912 ∧ ∀ i, i < A.slots.size → ¬ 255 < cv A i
def E (a : Addr) (D : Cell) (fV fC : Field) (A : Cell) (r : Option Value) (s u : State) : Prop := Got a D fV fC A 0 A.slots.size r s u
/-- new String(chars), not empty, no char above 255: a Latin-1 String of their low bytes -/
theorem law (l : Launch) (a : Addr) (D : Cell) (fV fC : Field) (b : Addr) (A : Cell) (z : Int32) : Law l yN 2 1 3 52 yB 2 none site (P a D fV fC b A z) (E a D fV fC A) [⟨a, fC.slot⟩, ⟨a, fV.slot⟩] 1 A.slots.size := by
  refine Law.of_walk (plainFor_of_name (by decide +kernel)) (by decide +kernel) (by decide +kernel) (by decide) (fun _ _ h => by rw [h.1]; rfl) (fun _ U U' hal hh h => ⟨h.1, h.2.1.mv hal hh, h.2.2.1.al hal, h.2.2.2.1.al hal, h.2.2.2.2.1.mv hal hh, h.2.2.2.2.2.1.there hal hh, h.2.2.2.2.2.2⟩) (fun r U U' V V' h1 hal h2 h => Got.mv r U U' V V' h1 hal h2 h) ?_
  intro p e s m args below meth c s₁ X0 hexec hbytes hml hret hlk hnm hown hh0 W hP
  obtain ⟨rfl, hB, f1, f2, hA, s1, hz, l0, l2, hp⟩ := hP
  have c1 : Steps p.tables e below (s₁.setTop (entryFrame m #[.ref a, .ref b] 2)) (s₁.setTop (mkF m 0 #[.val (.ref a), .val (.ref b)] [])) := entry rfl
  have c2 : Steps p.tables e below (s₁.setTop (entryFrame m #[.ref a, .ref b] 2)) (s₁.setTop (mkF m 6 #[.val (.ref a), .val (.ref b)] [.null, .int (Int32.ofNat A.slots.size), .int 0, .ref b, .ref a])) := c1.trans (by
    refine XS.aloadN X0.here hexec rfl (hb hbytes d0) rfl rfl ?_
    refine XS.aloadN X0.here hexec rfl (hb hbytes d1) rfl rfl ?_
    refine iconstV X0.here hexec rfl 0 (hb hbytes d2) (by decide) ?_
    refine XS.aloadN X0.here hexec rfl (hb hbytes d3) rfl rfl ?_
    refine X0.alen hexec (hA.1.mv X0.warmed.alike hh0) rfl rfl (hb hbytes d4) ?_
    refine XS.aconstNull X0.here hexec rfl (hb hbytes d5) ?_
    exact Steps.refl _)
  obtain ⟨v3, T3, X3, E3, g3⟩ := X0.callN hexec (New4.law l a D fV fC b A z 0 A.slots.size) rfl hown (wks W (initW "java/lang/String" 27 New4.yN)) (W New4.tab (by simp only [site, List.mem_cons, List.mem_append, true_or, or_true])) (W := 0) (Nat.le_of_ble_eq_true rfl) (Nat.le_of_ble_eq_true rfl) (Nat.le_refl _) (by show 0 + A.slots.size ≤ A.slots.size; omega) (g := (mkF m 6 #[.val (.ref a), .val (.ref b)] [.null, .int (Int32.ofNat A.slots.size), .int (Int32.ofNat 0), .ref b, .ref a])) rfl (by rw [hml]; rfl) c2 (argsL := [.ref b, .int (Int32.ofNat 0), .int (Int32.ofNat A.slots.size), .null]) (rest := []) rfl rfl (by show 2 * 0 + 0 ≤ _; decide) (hb hbytes d6) (⟨rfl, hB.mv X0.warmed.alike hh0, f1.al X0.warmed.alike, f2.al X0.warmed.alike, hA.mv X0.warmed.alike hh0, s1.there X0.warmed.alike hh0, hz, l0, by omega, l2, fun i hi => by rw [Nat.zero_add]; exact hp i hi⟩)
  have e0 := Got.mv _ s₁ s _ _ hh0.symm (Vm.Alike.refl _) rfl E3
  obtain rfl := e0.1
  have c4 : Steps p.tables e below (s₁.setTop (entryFrame m #[.ref a, .ref b] 2)) (T3.setTop (mkF m 9 #[.val (.ref a), .val (.ref b)] [])) := g3
  exact ⟨T3, none, _, _, _, X3, by simp, rfl, by omega, (fun _ => rfl), e0, fun fs hl => c4.trans (X3.returnOut hexec hret (hb hbytes d9) hl)⟩
theorem pays {l : Launch} {R : Room} {p : Program} {e : Env} {below : List Frame} {s : State} {sargs : Array Value} {len W : Nat} (a : Addr) (D : Cell) (fV fC : Field) (b : Addr) (A : Cell) (z : Int32) (htab : tab.before sargs s = true) (hfr : 4 ≤ R.frames) (hlo : W + 65 ≤ R.locals) :
    Back l R p e below s sargs yN len W (fun A₁ a₁ => A₁.cells + 1 ≤ R.cells ∧ A₁.slots + A.slots.size ≤ R.slots ∧ P a D fV fC b A z a₁ A₁.U) (fun A₁ _ v₁ B₁ => E a D fV fC A v₁ A₁.U B₁.U ∧ B₁.locs = A₁.locs ++ [⟨a, fC.slot⟩, ⟨a, fV.slot⟩] ∧ B₁.cells = A₁.cells + 1 ∧ B₁.slots = A₁.slots + A.slots.size) :=
  (law l a D fV fC b A z).pays htab hfr (by omega)
end New1
/-- the byte, read back as charAt reads it, is the char -/
theorem lo8_mask {x : Int32} (h0 : ¬ x < 0) (h1 : ¬ 255 < x) : lo8 x &&& 255 = x := by
  have t : ∀ k : Fin 256, lo8 (Int32.ofNat k.val) &&& 255 = Int32.ofNat k.val := by decide +kernel
  rw [Int32.lt_iff_toInt_lt] at h0 h1
  have e0 : (0 : Int32).toInt = 0 := rfl
  have e1 : (255 : Int32).toInt = 255 := rfl
  obtain ⟨k, hk⟩ : ∃ k : Nat, x.toInt = k := ⟨x.toInt.toNat, by omega⟩
  have hx : x = Int32.ofNat k := Int32.toInt_inj.mp (by rw [hk, Int32.toInt_ofNat_small (by omega)])
  rw [hx]
  exact t ⟨k, by omega⟩
end StrChars
namespace StrChars.Road
open Jvm Sem ClassFile Op Lib Jvm.Stand Jvm.Free Jvm.Free.XT
open Jvm.Lib.Cold (StaticIs)
abbrev ST : String := "java/lang/String"
/-- every table word that New1's law asks, flat -/
abbrev words : List Jvm.Cond := [.code New1.yN New1.yB 2 none, .initialized ST, .methodLink ST 27 New4.yN, .instanceMethod New4.yN,
  .code New4.yN New4.yB 6 none, .fieldLink ST 38 ST "COMPACT_STRINGS" "Z", .laysFinal ST ST "value" "[B", .fieldLink ST 9 ST "value" "[B", .laysFinal ST ST "coder" "B", .fieldLink ST 15 ST "coder" "B",
  .methodLink ST 1 Lib.objectInit, .instanceMethod Lib.objectInit, .code Lib.objectInit ⟨#[0xb1]⟩ 1 none, .methodLink ST 177 Cmp3.yN, .static Cmp3.yN, .methodLink ST 47 CodL.yN, .static CodL.yN,
  .code Cmp3.yN Cmp3.yB 6 (some (.array .byte)), .initialized U16, .arrayClass .byte, .methodLink U16 115 Cmp5.yN, .static Cmp5.yN, .code Cmp5.yN Cmp5.yB 7 (some .int), .code CodL.yN CodL.yB 2 (some .byte)]
theorem tab_of {a : Array Value} {s : State} (h : ∀ w ∈ words, w.before a s = true) : New1.tab.before a s = true := by
  have h5 : Cmp5.tab.before a s = true := unparts (wk h (.code Cmp5.yN Cmp5.yB 7 (some .int))) (wks h (.initialized Cmp5.yN.cls :: Cmp5.site))
  have hc : CodL.tab.before a s = true := unparts (wk h (.code CodL.yN CodL.yB 2 (some .byte))) (wks h (.initialized CodL.yN.cls :: CodL.site))
  have q5 : ∀ w ∈ Cmp5.tab :: words, w.before a s = true := fun w hw => (List.mem_cons.mp hw).elim (fun e => e ▸ h5) (h w)
  have h3 : Cmp3.tab.before a s = true := unparts (wk q5 (.code Cmp3.yN Cmp3.yB 6 (some (.array .byte)))) (wks q5 (.initialized Cmp3.yN.cls :: Cmp3.site))
  have q3 : ∀ w ∈ Cmp3.tab :: CodL.tab :: words, w.before a s = true := fun w hw => (List.mem_cons.mp hw).elim (fun e => e ▸ h3) fun hw => (List.mem_cons.mp hw).elim (fun e => e ▸ hc) (h w)
  have h4 : New4.tab.before a s = true := unparts (wk q3 (.code New4.yN New4.yB 6 none)) (wks q3 (.initialized New4.yN.cls :: New4.site))
  have q4 : ∀ w ∈ New4.tab :: words, w.before a s = true := fun w hw => (List.mem_cons.mp hw).elim (fun e => e ▸ h4) (h w)
  exact unparts (wk q4 (.code New1.yN New1.yB 2 none)) (wks q4 (.initialized New1.yN.cls :: New1.site))
/-- the words ride from the start Z to the walk's own state -/
theorem moved {Z s : State} {a0 args : Array Value} (hZ : Z.Warmed39 s.vm) (hw : ∀ d ∈ words, d.before a0 Z = true) : ∀ d ∈ words, d.before args s = true := fun d hd => by
  have q := hw d hd
  have t : ∀ d ∈ words, d = .arrayClass .byte ∨ (d.onTables && d.keepsFace) = true := by decide +kernel
  rcases t d hd with rfl | t
  · exact RoadKit.mvA hZ q
  · exact RoadKit.mv hZ q t
/-- WHAT COMES BACK, over the tables of the start Z: h the heap at the call, h' behind it -/
def Q (Z : State) (x : Addr) (A : Cell) (h : Heap) (v : Option Value) (h' : Heap) (L : List Loc) : Prop := v = none ∧ (∀ y ∈ L, y.base = x) ∧ RoadKit.Keep h h' [x] ∧ h'.size = h.size + 1 ∧ RoadKit.Exa Z h' x ST ∧ RoadKit.Fld Z h' x ST "value" "[B" (.ref h.size) ∧ RoadKit.Fld Z h' x ST "coder" "B" (.int 0) ∧
  (∃ V : Cell, RoadKit.Arr Z h' h.size V .byte ∧ V.vm = .none ∧ Z.vm.findClass "[B" = some V.cls ∧ V.slots.size = A.slots.size ∧ ∀ j, j < A.slots.size → V.slots[j]? = some (.int (lo8 (cv A j)))) ∧
  ∀ (O n d : String) (w : Value), RoadKit.Fld Z h x O n d w → RoadKit.slotOf Z O n d ≠ RoadKit.slotOf Z ST "value" "[B" → RoadKit.slotOf Z O n d ≠ RoadKit.slotOf Z ST "coder" "B" → RoadKit.Fld Z h' x O n d w
/-- **new String(chars) AT A CALL, IN THE ROAD'S FORM**: for specialBack behind newO: x the fresh String, b the char[] with the cell A -/
theorem back {p : Program} {l : Launch} {e : Env} {R : Room} {s : State} {args : Array Value} {below : List Frame} {len W : Nat} {Z : State} {a0 : Array Value} {h : Heap} (hZ : Z.Warmed39 s.vm) (hw : ∀ d ∈ words, d.before a0 Z = true) {kI : Nat} (wi : (Jvm.Cond.instantiable ST kI).before a0 Z = true)
    {x b : Addr} {A : Cell} {z : Int32} {v0 c0 : Value} (E : RoadKit.Exa Z h x ST) (V : RoadKit.Fld Z h x ST "value" "[B" v0) (C : RoadKit.Fld Z h x ST "coder" "B" c0) (K : RoadKit.Arr Z h b A .char) (hty : Typed .char A) (S : RoadKit.Sta Z h ST "COMPACT_STRINGS" "Z" (.int z)) (hz : ¬ z = 0)
    (l0 : 0 < A.slots.size) (l2 : A.slots.size ≤ 536870912) (hp : ∀ i, i < A.slots.size → ¬ 255 < cv A i) (hfr : 4 ≤ R.frames) (hlo : W + 65 ≤ R.locals) :
    Back l R p e below s args New1.yN len W (fun P a => a = #[.ref x, .ref b] ∧ P.U.heap = h ∧ P.cells + 1 ≤ R.cells ∧ P.slots + A.slots.size ≤ R.slots)
      (fun P _ v B => ∃ L, Q Z x A h v B.U.heap L ∧ B.locs = P.locs ++ L ∧ B.cells = P.cells + 1 ∧ B.slots = P.slots + A.slots.size) := by
  intro m meth c P g ig mk a X hg hsize hdg hW hn hp'
  obtain ⟨rfl, rfl, r1, r2⟩ := hp'
  have al : Z.vm.Alike P.U.vm := hZ.alike.trans X.warmed.alike
  obtain ⟨D, cfV, kV, iV, fV, hD, gV, stV, knV, obV, asV, slV⟩ := id V
  obtain ⟨D', cfC, kC, iC, fC, hD', gC, stC, -, -, asC, slC⟩ := id C
  cases hD.symm.trans hD'
  obtain ⟨D2, kD, e1, e2, e3, e4, e5⟩ := id E
  cases hD.symm.trans e1
  obtain ⟨c2, k2, i1, i2, i3, -⟩ := Cond.instantiable_spec wi
  cases e2.symm.trans i1
  cases e3.symm.trans i2
  obtain ⟨kU, u1, u2⟩ := al.2.2 _ _ e3
  have hB : Blank ST x D P.U := ⟨hD, ⟨knV, fun q hq => by rw [hq] at obV; cases obV⟩, by rw [al.findClass]; exact e2, kU, u1, by rw [u2]; exact i3, by rw [u2]; exact e5 i3⟩
  have F1 : Found ST "value" "[B" fV P.U := ⟨SBG.found_only al ⟨cfV, kV, iV, gV⟩, stV⟩
  have F2 : Found ST "coder" "B" fC P.U := ⟨SBG.found_only al ⟨cfC, kC, iC, gC⟩, stC⟩
  have hA : Ch b A P.U := ⟨⟨K.1, State.isArrayOf_alike al K.2.1, K.2.2, by omega⟩, hty⟩
  have hS : StaticIs P.U ST "COMPACT_STRINGS" "Z" (.int z) := by
    obtain ⟨cfS, iS, kS, fS, st, cS, t1, t2, t3, t4, t5, t6, t7⟩ := S
    exact StaticIs.there (s := { Z with heap := P.U.heap }) ⟨cfS, iS, kS, fS, st, cS, t1, t2, t3, t4, t5, (fun q => by rw [q] at t6; cases t6), t7⟩ al rfl
  obtain ⟨v, B, X', ⟨⟨hv, E', V', q1, q2, q3, q4, q5, q6, q7, q8, q9, q10, q11⟩, hl, hc, hs⟩, st⟩ := New1.pays x D fV fC b A z (tab_of (moved hZ hw)) hfr hlo m meth c P g ig mk _ X hg hsize hdg hW hn ⟨r1, r2, rfl, hB, F1, F2, hA, hS, hz, l0, l2, hp⟩
  have al' : Z.vm.Alike B.U.vm := hZ.alike.trans X'.warmed.alike
  have hsz : E'.slots.size = D.slots.size := by
    obtain ⟨-, -, -, kB, w1, w2, w3⟩ := q1
    obtain ⟨kB', y1, y2⟩ := al'.2.2 _ _ e3
    rw [q2.2.1] at w1
    cases w1.symm.trans y1
    rw [w3, e5 i3, y2]
  refine ⟨v, B, X', ⟨_, ⟨hv, ?_, ⟨by omega, fun y cy hy hn' => q10 y cy (by simpa using hn') hy, fun y cy hy => ?_⟩, q11, ⟨E', _, q1.1, by rw [q2.2.1]; exact e2, by rw [q2.2.1]; exact e3, by rw [q2.1]; exact obV, fun _ => by rw [hsz]; exact e5 i3⟩,
    ⟨E', cfV, kV, iV, fV, q1.1, gV, stV, by rw [q2.1]; exact knV, by rw [q2.1]; exact obV, by rw [q2.2.1]; exact asV, q3⟩, ⟨E', cfC, kC, iC, fC, q1.1, gC, stC, by rw [q2.1]; exact knV, by rw [q2.1]; exact obV, by rw [q2.2.1]; exact asC, q4⟩,
    ⟨V', ⟨q5.1, State.isArrayOf_alike al'.symm q5.2.1, q5.2.2.1⟩, q6, by rw [← al'.findClass]; exact q7, q8, fun j hj => by have := q9 j hj; rwa [Nat.zero_add] at this⟩, fun O n d w F n1 n2 => ?_⟩, hl, hc, hs⟩, st⟩
  · intro y hy
    simp only [List.mem_cons, List.not_mem_nil, or_false] at hy
    rcases hy with rfl | rfl <;> rfl
  · by_cases q : y = x
    · subst q
      cases hD.symm.trans hy
      exact ⟨E', q1.1, q2.2.1, q2.1, hsz⟩
    · exact ⟨cy, q10 y cy q hy, rfl, rfl, rfl⟩
  · obtain ⟨D3, cf, k, i, f, g1, g2, g3, g4, g5, g6, g7⟩ := F
    cases hD.symm.trans g1
    simp only [RoadKit.slotOf, g2, gV, gC, Option.map_some, Option.getD_some] at n1 n2
    exact ⟨E', cf, k, i, f, q1.1, g2, g3, by rw [q2.1]; exact g4, by rw [q2.1]; exact g5, by rw [q2.2.1]; exact g6, by rw [q2.2.2 f.slot (by simp [n1, n2])]; exact g7⟩
end StrChars.Road
namespace StrChars.Road
open Jvm Sem ClassFile Op Lib Jvm.Stand Jvm.Free Jvm.Free.XT
/-- WHAT COMES BACK, the byte[] as a list of values -/
def QA (Z : State) (x : Addr) (zn : Int32) (cs : List Int32) (h : Heap) (v : Option Value) (h' : Heap) (L : List Loc) : Prop := v = none ∧ (∀ y ∈ L, y.base = x) ∧ RoadKit.Keep h h' [x] ∧ h'.size = h.size + 1 ∧ RoadKit.Exa Z h' x ST ∧ RoadKit.Fld Z h' x ST "value" "[B" (.ref h.size) ∧ RoadKit.Fld Z h' x ST "coder" "B" (.int 0) ∧
  (∃ kb, Z.vm.findClass "[B" = some kb ∧ RoadKit.Arv Z h' h.size kb .byte zn (cs.map fun c => .int (lo8 c)) (.int 0)) ∧
  ∀ (O n d : String) (w : Value), RoadKit.Fld Z h x O n d w → RoadKit.slotOf Z O n d ≠ RoadKit.slotOf Z ST "value" "[B" → RoadKit.slotOf Z O n d ≠ RoadKit.slotOf Z ST "coder" "B" → RoadKit.Fld Z h' x O n d w
/-- **new String(chars) AT A CALL, THE ARRAYS AS LISTS**: the char[] at b holds cs, not empty, no char above 255 -/
theorem backArv {p : Program} {l : Launch} {e : Env} {R : Room} {s : State} {args : Array Value} {below : List Frame} {len W : Nat} {Z : State} {a0 : Array Value} {h : Heap} (hZ : Z.Warmed39 s.vm) (hw : ∀ d ∈ words, d.before a0 Z = true) {kI : Nat} (wi : (Jvm.Cond.instantiable ST kI).before a0 Z = true)
    {x b : Addr} {k : ClassId} {zn z : Int32} {cs : List Int32} {dv v0 c0 : Value} (E : RoadKit.Exa Z h x ST) (V : RoadKit.Fld Z h x ST "value" "[B" v0) (C : RoadKit.Fld Z h x ST "coder" "B" c0) (K : RoadKit.Arv Z h b k .char zn (cs.map Value.int) dv) (S : RoadKit.Sta Z h ST "COMPACT_STRINGS" "Z" (.int z)) (hz : ¬ z = 0)
    (hlen : zn.toNatClampNeg = cs.length) (h0 : 0 < cs.length) (hbig : cs.length ≤ 536870912) (hall : ∀ c ∈ cs, ¬ 255 < c) (hfr : 4 ≤ R.frames) (hlo : W + 65 ≤ R.locals) :
    Back l R p e below s args New1.yN len W (fun P a => a = #[.ref x, .ref b] ∧ P.U.heap = h ∧ P.cells + 1 ≤ R.cells ∧ P.slots + cs.length ≤ R.slots)
      (fun P _ v B => ∃ L, QA Z x zn cs h v B.U.heap L ∧ B.locs = P.locs ++ L ∧ B.cells = P.cells + 1 ∧ B.slots = P.slots + cs.length) := by
  obtain ⟨A, K1, K2, K3, K4, K5, K6⟩ := K
  have e : A.slots.size = cs.length := K3.trans hlen
  have hat : ∀ (i : Nat) (hi : i < cs.length), A.slots[i]? = some (.int cs[i]) := fun i hi => by rw [K5 i (by omega)]; simp [List.getD_eq_getElem?_getD, hi]
  have hcv : ∀ (i : Nat) (hi : i < cs.length), cv A i = cs[i] := fun i hi => by unfold cv; rw [hat i hi]
  have hty : Typed .char A := fun i v hv => by
    have hi : i < A.slots.size := (Array.getElem?_eq_some_iff.mp hv).1
    have q := K5 i hi
    rw [hv] at q
    rw [Option.some.inj q]
    exact K6 i hi
  refine Back.mono (back hZ hw wi E V C K1 hty S hz (by omega) (by omega) (fun i hi => by rw [hcv i (by omega)]; exact hall _ (List.getElem_mem _)) hfr hlo) (fun P a hp => ⟨hp.1, hp.2.1, hp.2.2.1, by rw [e]; exact hp.2.2.2⟩) (fun P a v B hp hq => ?_)
  obtain ⟨L, ⟨q1, q2, q3, q4, q5, q6, q7, ⟨V', v1, v2, v3, v4, v5⟩, q9⟩, hl, hc, hs⟩ := hq
  refine ⟨L, ⟨q1, q2, q3, q4, q5, q6, q7, ⟨V'.cls, v3, V', v1, rfl, by rw [v4, e, hlen], K4, fun i hi => ?_, fun i hi => ?_⟩, q9⟩, hl, hc, by rw [hs, e]⟩
  · have hi' : i < cs.length := by omega
    rw [v5 i (by omega), hcv i hi']; simp [List.getD_eq_getElem?_getD, hi']
  · have hi' : i < cs.length := by omega
    simp only [List.getD_eq_getElem?_getD, List.getElem?_map, List.getElem?_eq_getElem hi', Option.map_some, Option.getD_some]
    exact fits_lo8 _
end StrChars.Road
namespace StrChars.Road
open Jvm Sem ClassFile Op Lib Jvm.Stand Jvm.Free Jvm.Free.XT
/-- WHAT COMES BACK, in the writer's own shape -/
def QV (Z : State) (x : Addr) (N : Int32) (bs : List Int32) (h : Heap) (n0 : Nat) (v : Option Value) (h' : Heap) (L : List Loc) : Prop := v = none ∧ RoadKit.Fr n0 L ∧ RoadKit.Keep h h' [x] ∧ RoadKit.Exa Z h' x ST ∧ RoadKit.Fld Z h' x ST "coder" "B" (.int 0) ∧
  ∃ (t : Addr) (kb : ClassId), n0 ≤ t ∧ h.size ≤ t ∧ ¬ t = x ∧ RoadKit.Fld Z h' x ST "value" "[B" (.ref t) ∧ RoadKit.Arv Z h' t kb .byte N (bs.map Value.int) (.int 0)
/-- **new String(chars) AT A CALL, FOR THE WRITER**: a char[] of n known ints, each 0 to 255 -/
theorem backV {p : Program} {l : Launch} {e : Env} {R : Room} {s : State} {args : Array Value} {below : List Frame} {len W : Nat} {Z : State} {a0 : Array Value} {h : Heap} (hZ : Z.Warmed39 s.vm) (hw : ∀ d ∈ words, d.before a0 Z = true) {kI : Nat} (wi : (Jvm.Cond.instantiable ST kI).before a0 Z = true)
    {x b : Addr} {kC : ClassId} {cs bs : List Int32} {d v0 c0 : Value} {z N : Int32} {n n0 : Nat} (hx0 : n0 ≤ x) (hh0 : n0 ≤ h.size) (E : RoadKit.Exa Z h x ST) (V : RoadKit.Fld Z h x ST "value" "[B" v0) (C : RoadKit.Fld Z h x ST "coder" "B" c0) (K : RoadKit.Arv Z h b kC .char N (cs.map Value.int) d) (S : RoadKit.Sta Z h ST "COMPACT_STRINGS" "Z" (.int z)) (hz : ¬ z = 0)
    (hn : cs.length = n) (hN : N = Int32.ofNat n) (l0 : 0 < n) (l2 : n ≤ 4000) (hp : ∀ c ∈ cs, ¬ c < 0 ∧ ¬ (255 : Int32) < c) (hb : bs = cs.map (fun c => c.toInt8.toInt32)) (hfr : 4 ≤ R.frames) (hlo : W + 65 ≤ R.locals) :
    Back l R p e below s args (⟨"java/lang/String", "<init>", "([C)V"⟩ : MethodName) len W (fun P a => a = #[.ref x, .ref b] ∧ P.U.heap = h ∧ P.cells + 1 ≤ R.cells ∧ P.slots + n ≤ R.slots)
      (fun P _ v B => ∃ L, QV Z x N bs h n0 v B.U.heap L ∧ B.locs = P.locs ++ L ∧ B.cells = P.cells + 1 ∧ B.slots = P.slots + n) := by
  subst hn hN hb
  refine Back.mono (backArv hZ hw wi E V C K S hz (n32 (by omega)) l0 (by omega) (fun c hc => (hp c hc).2) hfr hlo) (fun P a hp => hp) (fun P a v B hp hq => ?_)
  obtain ⟨L, ⟨q1, q2, q3, q4, q5, q6, q7, ⟨kb, v1, v2⟩, q9⟩, hl, hc, hs⟩ := hq
  exact ⟨L, ⟨q1, fun y hy => by rw [q2 y hy]; exact hx0, q3, q5, q7, h.size, kb, hh0, Nat.le_refl _, Nat.ne_of_gt E.lt, q6, by rw [List.map_map]; exact v2⟩, hl, hc, hs⟩
end StrChars.Road
namespace StrChars
open Jvm Sem ClassFile Op Lib Jvm.Stand Jvm.Free.XT Jvm.Free.ALB Jvm.Free.JM Jvm.Free
open Jvm.Lib.Cold (StaticIs)
def hi8 (x : Int32) : Int32 := lo8 (x >>> ((8 : Int32) &&& 31))
/-- what StringUTF16.getChar makes of two bytes -/
def pairCh (u v : Int32) : Int32 := (((u &&& 255) <<< ((0 : Int32) &&& 31)) ||| ((v &&& 255) <<< ((8 : Int32) &&& 31))).toUInt32.toUInt16.toUInt32.toInt32
theorem lo8_and (x : Int32) : (lo8 x &&& 255).toBitVec.toNat = x.toBitVec.toNat % 256 := by
  have h : (lo8 x).toBitVec = (x.toBitVec.signExtend 8).signExtend 32 := by rw [lo8, Int8.toBitVec_toInt32, Int32.toBitVec_toInt8]
  rw [Int32.toBitVec_and, BitVec.toNat_and, h]
  have e : ((x.toBitVec.signExtend 8).signExtend 32).toNat % 256 = x.toBitVec.toNat % 256 := by
    rw [BitVec.toNat_signExtend]
    have hlt := x.toBitVec.isLt
    simp only [BitVec.toNat_setWidth, BitVec.toNat_signExtend]
    split <;> split <;> omega
  rw [← e]
  exact Nat.and_two_pow_sub_one_eq_mod _ 8
theorem pair_says {c : Int32} (h0 : ¬ c < 0) (h1 : ¬ 65535 < c) : pairCh (lo8 c) (hi8 c) = c := by
  rw [Int32.lt_iff_toInt_lt] at h0 h1
  have e0 : (0 : Int32).toInt = 0 := rfl
  have e1 : (65535 : Int32).toInt = 65535 := rfl
  have hc : c.toInt = c.toBitVec.toNat := by
    have := c.toBitVec.isLt
    have e : c.toInt = c.toBitVec.toInt := rfl
    rw [e] at h0 h1
    rw [e]
    rw [BitVec.toInt_eq_toNat_cond] at h0 h1 ⊢
    split at h0 <;> split <;> omega
  have hn : c.toBitVec.toNat < 65536 := by omega
  have a1 := lo8_and c
  have a2 : (hi8 c &&& 255).toBitVec.toNat = c.toBitVec.toNat / 256 := by
    rw [hi8, lo8_and]
    have e : ((8 : Int32) &&& 31) = 8 := by decide
    rw [e, Int32.toBitVec_shiftRight]
    have e2 : ((8 : Int32).toBitVec.smod 32) = 8#32 := by decide
    rw [e2, BitVec.sshiftRight_eq', BitVec.toNat_sshiftRight_of_msb_false (by rw [BitVec.msb_eq_false_iff_two_mul_lt]; omega)]
    show c.toBitVec.toNat >>> 8 % 256 = _
    rw [Nat.shiftRight_eq_div_pow]
    omega
  unfold pairCh
  apply Int32.toBitVec_inj.mp
  apply BitVec.eq_of_toNat_eq
  have f0 : ((0 : Int32) &&& 31) = 0 := by decide
  have f8 : ((8 : Int32) &&& 31) = 8 := by decide
  rw [f0, f8]
  have g : (((lo8 c &&& 255) <<< (0 : Int32)) ||| ((hi8 c &&& 255) <<< (8 : Int32))).toBitVec.toNat = c.toBitVec.toNat := by
    rw [Int32.toBitVec_or, Int32.toBitVec_shiftLeft, Int32.toBitVec_shiftLeft]
    have s0 : ((0 : Int32).toBitVec.smod 32) = 0#32 := by decide
    have s8 : ((8 : Int32).toBitVec.smod 32) = 8#32 := by decide
    rw [s0, s8, BitVec.toNat_or]
    simp only [BitVec.shiftLeft_eq', BitVec.toNat_shiftLeft, a1, a2]
    show (c.toBitVec.toNat % 256) <<< 0 % 2 ^ 32 ||| (c.toBitVec.toNat / 256) <<< 8 % 2 ^ 32 = _
    rw [Nat.shiftLeft_zero, Nat.mod_eq_of_lt (show c.toBitVec.toNat % 256 < 2 ^ 32 by omega), Nat.mod_eq_of_lt (show (c.toBitVec.toNat / 256) <<< 8 < 2 ^ 32 by rw [Nat.shiftLeft_eq]; omega), Nat.or_comm, ← Nat.shiftLeft_add_eq_or_of_lt (by omega), Nat.shiftLeft_eq]
    omega
  show BitVec.toNat (((((lo8 c &&& 255) <<< (0 : Int32)) ||| ((hi8 c &&& 255) <<< (8 : Int32))).toBitVec.setWidth 16).setWidth 32) = _
  rw [BitVec.toNat_setWidth, BitVec.toNat_setWidth, g]
  omega
end StrChars
namespace StrChars
open Jvm Sem ClassFile Op Lib Jvm.Stand Jvm.Free.XT Jvm.Free.ALB Jvm.Free.JM Jvm.Free
open Jvm.Lib.Cold (StaticIs)
/-- the array's cell V codes the n chars f 0 .. f (n - 1) by the coder cd, as the JDK does: coder 1 just where some char is above 255 -/
def Cod (cd : Int32) (n : Nat) (f : Nat → Int32) (V : Cell) : Prop := (cd = 0 ∧ V.slots.size = n ∧ ∀ j, j < n → V.slots[j]? = some (.int (lo8 (f j))) ∧ ¬ 255 < f j) ∨ (cd = 1 ∧ V.slots.size = 2 * n ∧ (∀ j, j < n → V.slots[2 * j]? = some (.int (lo8 (f j))) ∧ V.slots[2 * j + 1]? = some (.int (hi8 (f j)))) ∧ ∃ j, j < n ∧ 255 < f j)
/-- **x is a String of the n chars f 0 .. f (n - 1)**, Latin-1 or UTF-16; its array at t has the cell V -/
def Txt (x t : Addr) (V : Cell) (cd : Int32) (n : Nat) (f : Nat → Int32) (U : State) : Prop := Exact "java/lang/String" x U ∧ Has x "java/lang/String" "value" "[B" (.ref t) U ∧ Has x "java/lang/String" "coder" "B" (.int cd) U ∧ XT.Arr .byte t V U ∧ Cod cd n f V ∧ ∀ j, j < n → ¬ f j < 0 ∧ ¬ 65535 < f j
theorem Txt.mv {x t : Addr} {V : Cell} {cd : Int32} {n : Nat} {f : Nat → Int32} {U U' : State} (h : Txt x t V cd n f U) (hal : U.vm.Alike U'.vm) (hh : U'.heap = U.heap) : Txt x t V cd n f U' := ⟨h.1.mv hal hh, h.2.1.mv hal hh, h.2.2.1.mv hal hh, h.2.2.2.1.mv hal hh, h.2.2.2.2⟩
end StrChars
namespace StrChars.Road
open Jvm Sem ClassFile Op Lib Jvm.Stand Jvm.Free Jvm.Free.XT
open Jvm.Lib.Cold (StaticIs)
theorem consq {a : Array Value} {s : State} {c : Jvm.Cond} {L : List Jvm.Cond} (h0 : c.before a s = true) (h : ∀ w ∈ L, w.before a s = true) : ∀ w ∈ c :: L, w.before a s = true := fun w hw => (List.mem_cons.mp hw).elim (fun e => e ▸ h0) (h w)
/-- the bytes of the chars cs, low before high -/
def wideBytes : List Int32 → List Value
  | [] => []
  | c :: cs => .int (lo8 c) :: .int (hi8 c) :: wideBytes cs
theorem wide_lo (d : Value) : ∀ (cs : List Int32) (j : Nat), j < cs.length → (wideBytes cs).getD (2 * j) d = .int (lo8 (cs.getD j 0))
  | [], j, h => absurd h (Nat.not_lt_zero j)
  | c :: cs, 0, _ => rfl
  | c :: cs, j + 1, h => by
    have q := wide_lo d cs j (by simpa using h)
    rw [show 2 * (j + 1) = 2 * j + 1 + 1 from by omega]
    simpa [wideBytes] using q
theorem wide_hi (d : Value) : ∀ (cs : List Int32) (j : Nat), j < cs.length → (wideBytes cs).getD (2 * j + 1) d = .int (hi8 (cs.getD j 0))
  | [], j, h => absurd h (Nat.not_lt_zero j)
  | c :: cs, 0, _ => rfl
  | c :: cs, j + 1, h => by
    have q := wide_hi d cs j (by simpa using h)
    rw [show 2 * (j + 1) + 1 = 2 * j + 1 + 1 + 1 from by omega]
    simpa [wideBytes] using q
theorem low_at (d : Value) (cs : List Int32) (j : Nat) (h : j < cs.length) : (cs.map fun c => Value.int (lo8 c)).getD j d = .int (lo8 (cs.getD j 0)) := by
  simp [List.getD_eq_getElem?_getD, h]
/-- an array of N2 bytes vs codes the chars cs by the coder cd -/
def CodA (cs : List Int32) (cd N2 : Int32) (vs : List Value) : Prop := (cd = 0 ∧ N2 = Int32.ofNat cs.length ∧ vs = (cs.map fun c => Value.int (lo8 c)) ∧ ∀ c ∈ cs, ¬ 255 < c) ∨ (cd = 1 ∧ N2 = Int32.ofNat (2 * cs.length) ∧ vs = wideBytes cs ∧ ∃ c ∈ cs, 255 < c)
theorem CodA.cod {cs : List Int32} {cd N2 : Int32} {vs : List Value} {V : Cell} (h : CodA cs cd N2 vs) (hn : 2 * cs.length < 2 ^ 31) (hs : V.slots.size = N2.toNatClampNeg) (hv : RoadKit.Has V vs (.int 0)) : Cod cd cs.length (fun j => cs.getD j 0) V := by
  rcases h with ⟨rfl, rfl, rfl, h⟩ | ⟨rfl, rfl, rfl, c, hc, hw⟩
  · rw [n32 (by omega)] at hs
    exact Or.inl ⟨rfl, hs, fun j hj => ⟨by rw [hv j (by omega), low_at _ _ _ hj], by
      have e : cs.getD j 0 = cs[j] := by simp [List.getD_eq_getElem?_getD, hj]
      show ¬ 255 < cs.getD j 0
      rw [e]; exact h _ (List.getElem_mem _)⟩⟩
  · rw [n32 (by omega)] at hs
    obtain ⟨j, hj, rfl⟩ := List.getElem_of_mem hc
    exact Or.inr ⟨rfl, hs, fun j hj => ⟨by rw [hv _ (by omega), wide_lo _ _ _ hj], by rw [hv _ (by omega), wide_hi _ _ _ hj]⟩, j, hj, by
      have e : cs.getD j 0 = cs[j] := by simp [List.getD_eq_getElem?_getD, hj]
      show 255 < cs.getD j 0
      rw [e]; exact hw⟩
/-- an object of exactly java/lang/String, its two fields found: as the laws ask it -/
theorem strObj {Z U : State} {a0 : Array Value} {kI : Nat} (wi : (Jvm.Cond.instantiable ST kI).before a0 Z = true) (al : Z.vm.Alike U.vm) {x : Addr} {v0 c0 : Value} (E : RoadKit.Exa Z U.heap x ST) (V : RoadKit.Fld Z U.heap x ST "value" "[B" v0) (C : RoadKit.Fld Z U.heap x ST "coder" "B" c0) :
    ∃ (D : Cell) (fV fC : Field), Blank ST x D U ∧ Found ST "value" "[B" fV U ∧ Found ST "coder" "B" fC U ∧ D.slots[fV.slot]? = some v0 ∧ D.slots[fC.slot]? = some c0 ∧ RoadKit.slotOf Z ST "value" "[B" = fV.slot ∧ RoadKit.slotOf Z ST "coder" "B" = fC.slot := by
  obtain ⟨D, cfV, kV, iV, fV, hD, gV, stV, knV, obV, asV, slV⟩ := V
  obtain ⟨D', cfC, kC, iC, fC, hD', gC, stC, -, -, asC, slC⟩ := C
  cases hD.symm.trans hD'
  obtain ⟨D2, kD, e1, e2, e3, e4, e5⟩ := E
  cases hD.symm.trans e1
  obtain ⟨c2, k2, i1, i2, i3, -⟩ := Cond.instantiable_spec wi
  cases e2.symm.trans i1
  cases e3.symm.trans i2
  obtain ⟨kU, u1, u2⟩ := al.2.2 _ _ e3
  exact ⟨D, fV, fC, ⟨hD, ⟨knV, fun q hq => by rw [hq] at obV; cases obV⟩, by rw [al.findClass]; exact e2, kU, u1, by rw [u2]; exact i3, by rw [u2]; exact e5 i3⟩, ⟨SBG.found_only al ⟨cfV, kV, iV, gV⟩, stV⟩, ⟨SBG.found_only al ⟨cfC, kC, iC, gC⟩, stC⟩, slV, slC, by simp [RoadKit.slotOf, gV], by simp [RoadKit.slotOf, gC]⟩
theorem sta_is {Z U : State} (al : Z.vm.Alike U.vm) {C n d : String} {v : Value} (S : RoadKit.Sta Z U.heap C n d v) : StaticIs U C n d v := by
  obtain ⟨cfS, iS, kS, fS, st, cS, t1, t2, t3, t4, t5, t6, t7⟩ := S
  exact StaticIs.there (s := { Z with heap := U.heap }) ⟨cfS, iS, kS, fS, st, cS, t1, t2, t3, t4, t5, (fun q => by rw [q] at t6; cases t6), t7⟩ al rfl
end StrChars.Road
namespace StrChars
open Jvm Sem ClassFile Op Lib Jvm.Stand Jvm.Free.XT Jvm.Free.ALB Jvm.Free.JM Jvm.Free
open Jvm.Lib.Cold (StaticIs)
/-- what place i of a byte[]'s cell holds -/
def yv (A : Cell) (i : Nat) : Int32 := match A.slots[i]? with | some (.int x) => x | _ => 0
theorem yv_get {a : Addr} {A : Cell} {U : State} (h : XT.Arr .byte a A U) (ht : Typed .byte A) {i : Nat} (hi : i < A.slots.size) : A.slots[i]? = some (.int (yv A i)) := by
  have e := Array.getElem?_eq_getElem hi
  have f := ht i _ e
  unfold yv; rw [e]
  generalize A.slots[i] = v at f
  cases v <;> simp [fits] at f ⊢
/-- the two arrays are equal, place for place -/
def EqC (A B : Cell) : Prop := A.slots.size = B.slots.size ∧ ∀ i, i < A.slots.size → yv A i = yv B i
/-- a boolean that says whether p -/
def Says01 (q : Prop) (r : Option Value) (s u : State) : Prop := ∃ v : Int32, r = some (.int v) ∧ u.heap = s.heap ∧ ((v = 1 ∧ q) ∨ (v = 0 ∧ ¬ q))
theorem Says01.mv {q : Prop} : ∀ r (U U' V V' : State), U'.heap = U.heap → V.vm.Alike V'.vm → V'.heap = V.heap → Says01 q r U V → Says01 q r U' V' :=
  fun r U U' V V' h1 _ h2 ⟨v, a, b, c⟩ => ⟨v, a, by rw [h1, h2]; exact b, c⟩
namespace LEq
def yN : MethodName := ⟨"java/lang/StringLatin1", "equals", "([B[B)Z"⟩
abbrev yB : ByteArray := jdk_43_method_13_code
theorem d0 : decode yB 0 = .ok (.aload_n 0, 1) := by decide +kernel
theorem d1 : decode yB 1 = .ok (.arraylength, 1) := by decide +kernel
theorem d2 : decode yB 2 = .ok (.aload_n 1, 1) := by decide +kernel
theorem d3 : decode yB 3 = .ok (.arraylength, 1) := by decide +kernel
theorem d4 : decode yB 4 = .ok (.if_icmp (.ne) 30, 3) := by decide +kernel
theorem d7 : decode yB 7 = .ok (.iconst 0, 1) := by decide +kernel
theorem d8 : decode yB 8 = .ok (.istore_n 2, 1) := by decide +kernel
theorem d9 : decode yB 9 = .ok (.iload_n 2, 1) := by decide +kernel
theorem d10 : decode yB 10 = .ok (.aload_n 0, 1) := by decide +kernel
theorem d11 : decode yB 11 = .ok (.arraylength, 1) := by decide +kernel
theorem d12 : decode yB 12 = .ok (.if_icmp (.ge) 20, 3) := by decide +kernel
theorem d15 : decode yB 15 = .ok (.aload_n 0, 1) := by decide +kernel
theorem d16 : decode yB 16 = .ok (.iload_n 2, 1) := by decide +kernel
theorem d17 : decode yB 17 = .ok (.baload, 1) := by decide +kernel
theorem d18 : decode yB 18 = .ok (.aload_n 1, 1) := by decide +kernel
theorem d19 : decode yB 19 = .ok (.iload_n 2, 1) := by decide +kernel
theorem d20 : decode yB 20 = .ok (.baload, 1) := by decide +kernel
theorem d21 : decode yB 21 = .ok (.if_icmp (.eq) 5, 3) := by decide +kernel
theorem d24 : decode yB 24 = .ok (.iconst 0, 1) := by decide +kernel
theorem d25 : decode yB 25 = .ok (.ireturn, 1) := by decide +kernel
theorem d26 : decode yB 26 = .ok (.iinc 2 1, 3) := by decide +kernel
theorem d29 : decode yB 29 = .ok (.goto (-20), 3) := by decide +kernel
theorem d32 : decode yB 32 = .ok (.iconst 1, 1) := by decide +kernel
theorem d33 : decode yB 33 = .ok (.ireturn, 1) := by decide +kernel
theorem d34 : decode yB 34 = .ok (.iconst 0, 1) := by decide +kernel
theorem d35 : decode yB 35 = .ok (.ireturn, 1) := by decide +kernel
def site : List Cond := []
def tab : Cond := tabOf yN yB 3 (some .boolean) site
def P (a : Addr) (A : Cell) (b : Addr) (B : Cell) (args : Array Value) (s : State) : Prop := args = #[.ref a, .ref b] ∧ XT.Arr .byte a A s ∧ Typed .byte A ∧ XT.Arr .byte b B s ∧ Typed .byte B
/-- whether two byte[] are equal, place for place -/
theorem law (l : Launch) (a : Addr) (A : Cell) (b : Addr) (B : Cell) : Law l yN 2 2 0 0 yB 3 (some .boolean) site (P a A b B) (Says01 (EqC A B)) [] 0 0 := by
  refine Law.of_walk (plainFor_of_name (by decide +kernel)) (by decide +kernel) (by decide +kernel) (by decide) (fun _ _ h => by rw [h.1]; rfl) (fun _ U U' hal hh h => ⟨h.1, h.2.1.mv hal hh, h.2.2.1, h.2.2.2.1.mv hal hh, h.2.2.2.2⟩) (fun r U U' V V' h1 hal h2 h => Says01.mv r U U' V V' h1 hal h2 h) ?_
  intro p e s m args below meth c s₁ X0 hexec hbytes hml hret hlk hnm hown hh0 W hP
  obtain ⟨rfl, hA, tA, hB, tB⟩ := hP
  have a31 := hA.2.2.2
  have b31 := hB.2.2.2
  have hA0 := hA.mv X0.warmed.alike hh0
  have hB0 := hB.mv X0.warmed.alike hh0
  have c1 : Steps p.tables e below (s₁.setTop (entryFrame m #[.ref a, .ref b] 3)) (s₁.setTop (mkF m 0 #[.val (.ref a), .val (.ref b), .unset] [])) := entry rfl
  have c2 : Steps p.tables e below (s₁.setTop (entryFrame m #[.ref a, .ref b] 3)) (s₁.setTop (mkF m 4 #[.val (.ref a), .val (.ref b), .unset] [.int (Int32.ofNat B.slots.size), .int (Int32.ofNat A.slots.size)])) := c1.trans (by
    refine XS.aloadN X0.here hexec rfl (hb hbytes d0) rfl rfl ?_
    refine X0.alen hexec hA0 rfl rfl (hb hbytes d1) ?_
    refine XS.aloadN X0.here hexec rfl (hb hbytes d2) rfl rfl ?_
    refine X0.alen hexec hB0 rfl rfl (hb hbytes d3) ?_
    exact Steps.refl _)
  by_cases hs : A.slots.size = B.slots.size
  · have c3 : Steps p.tables e below (s₁.setTop (entryFrame m #[.ref a, .ref b] 3)) (s₁.setTop (mkF m 9 #[.val (.ref a), .val (.ref b), .val (.int 0)] [])) := c2.trans (by
      refine XS.icmpNo X0.here hexec rfl (hb hbytes d4) rfl (ii_ne_f (by rw [hs])) ?_
      refine iconstV X0.here hexec rfl 0 (hb hbytes d7) (by decide) ?_
      refine XS.istoreN X0.here hexec rfl (hb hbytes d8) rfl rfl ?_
      exact Steps.refl _)
    have loop : ∀ (r i : Nat), i + r = A.slots.size → (∀ j, j < i → yv A j = yv B j) → Steps p.tables e below (s₁.setTop (entryFrame m #[.ref a, .ref b] 3)) (s₁.setTop (mkF m 9 #[.val (.ref a), .val (.ref b), .val (.int (Int32.ofNat i))] [])) → ∃ (pc : Nat) (Ls : Array Slot) (v : Int32), (pc = 25 ∨ pc = 33) ∧ ((v = 1 ∧ EqC A B) ∨ (v = 0 ∧ ¬ EqC A B)) ∧ Steps p.tables e below (s₁.setTop (entryFrame m #[.ref a, .ref b] 3)) (s₁.setTop (mkF m pc Ls [.int v])) := by
      intro r
      induction r with
      | zero =>
        intro i hi he cl
        exact ⟨33, _, 1, Or.inr rfl, Or.inl ⟨rfl, hs, fun j hj => he j (by omega)⟩, cl.trans (by
          refine XS.iloadN X0.here hexec rfl (hb hbytes d9) rfl ?_
          refine XS.aloadN X0.here hexec rfl (hb hbytes d10) rfl rfl ?_
          refine X0.alen hexec hA0 rfl rfl (hb hbytes d11) ?_
          refine XS.icmpYes X0.here hexec rfl (pc0 := 12) rfl (hb hbytes d12) rfl (ii_ge_t (nlt32 (by omega) (by omega))) (by decide) rfl ?_
          refine iconstV X0.here hexec rfl 1 (hb hbytes d32) (by decide) ?_
          exact Steps.refl _)⟩
      | succ r ih =>
        intro i hi he cl
        have c4 : Steps p.tables e below (s₁.setTop (entryFrame m #[.ref a, .ref b] 3)) (s₁.setTop (mkF m 21 #[.val (.ref a), .val (.ref b), .val (.int (Int32.ofNat i))] [.int (yv B i), .int (yv A i)])) := cl.trans (by
          refine XS.iloadN X0.here hexec rfl (hb hbytes d9) rfl ?_
          refine XS.aloadN X0.here hexec rfl (hb hbytes d10) rfl rfl ?_
          refine X0.alen hexec hA0 rfl rfl (hb hbytes d11) ?_
          refine XS.icmpNo X0.here hexec rfl (hb hbytes d12) rfl (ii_ge_f (lt32 (by omega) (by omega))) ?_
          refine XS.aloadN X0.here hexec rfl (hb hbytes d15) rfl rfl ?_
          refine XS.iloadN X0.here hexec rfl (hb hbytes d16) rfl ?_
          refine X0.aget hexec hA0 rfl (yv_get hA tA (i := i) (by omega)) rfl rfl (hb hbytes d17) ?_
          refine XS.aloadN X0.here hexec rfl (hb hbytes d18) rfl rfl ?_
          refine XS.iloadN X0.here hexec rfl (hb hbytes d19) rfl ?_
          refine X0.aget hexec hB0 rfl (yv_get hB tB (i := i) (by omega)) rfl rfl (hb hbytes d20) ?_
          exact Steps.refl _)
        by_cases hv : yv A i = yv B i
        · have c5 : Steps p.tables e below (s₁.setTop (entryFrame m #[.ref a, .ref b] 3)) (s₁.setTop (mkF m 9 #[.val (.ref a), .val (.ref b), .val (.int (Int32.ofNat i + 1))] [])) := c4.trans (by
            refine XS.icmpYes X0.here hexec rfl (pc0 := 21) rfl (hb hbytes d21) rfl (ii_eq_t hv) (by decide) rfl ?_
            refine iincV X0.here hexec rfl 1 (hb hbytes d26) (by decide) rfl rfl ?_
            refine XS.goto X0.here hexec rfl (pc0 := 29) rfl (hb hbytes d29) (by decide) rfl ?_
            exact Steps.refl _)
          rw [succ32] at c5
          exact ih (i + 1) (by omega) (fun j hj => by
            by_cases e : j = i
            · rw [e]; exact hv
            · exact he j (by omega)) c5
        · exact ⟨25, _, 0, Or.inl rfl, Or.inr ⟨rfl, fun q => hv (q.2 i (by omega))⟩, c4.trans (by
            refine XS.icmpNo X0.here hexec rfl (hb hbytes d21) rfl (ii_eq_f hv) ?_
            refine iconstV X0.here hexec rfl 0 (hb hbytes d24) (by decide) ?_
            exact Steps.refl _)⟩
    obtain ⟨pc, Ls, v, hpc, hv, cz⟩ := loop A.slots.size 0 (by omega) (fun j hj => absurd hj (Nat.not_lt_zero j)) c3
    have nv : narrow .boolean (.int v) = .int v := by rcases hv with ⟨rfl, -⟩ | ⟨rfl, -⟩ <;> rfl
    rcases hpc with rfl | rfl
    · exact ⟨s₁, some (.int v), _, _, _, X0, rfl, rfl, rfl, (fun h => by cases h), ⟨v, rfl, hh0, hv⟩, fun fs hl => cz.trans (X0.ireturnOut hexec hret nv (Or.inr (Or.inl rfl)) (hb hbytes d25) hl)⟩
    · exact ⟨s₁, some (.int v), _, _, _, X0, rfl, rfl, rfl, (fun h => by cases h), ⟨v, rfl, hh0, hv⟩, fun fs hl => cz.trans (X0.ireturnOut hexec hret nv (Or.inr (Or.inl rfl)) (hb hbytes d33) hl)⟩
  · have c3 : Steps p.tables e below (s₁.setTop (entryFrame m #[.ref a, .ref b] 3)) (s₁.setTop (mkF m 35 #[.val (.ref a), .val (.ref b), .unset] [.int 0])) := c2.trans (by
      refine XS.icmpYes X0.here hexec rfl (pc0 := 4) rfl (hb hbytes d4) rfl (ii_ne_t (ne32 a31 b31 hs)) (by decide) rfl ?_
      refine iconstV X0.here hexec rfl 0 (hb hbytes d34) (by decide) ?_
      exact Steps.refl _)
    exact ⟨s₁, some (.int 0), _, _, _, X0, rfl, rfl, rfl, (fun h => by cases h), ⟨0, rfl, hh0, Or.inr ⟨rfl, fun q => hs q.1⟩⟩, fun fs hl => c3.trans (X0.ireturnOut hexec hret rfl (Or.inr (Or.inl rfl)) (hb hbytes d35) hl)⟩
end LEq
theorem Cod.ty {cd : Int32} {n : Nat} {f : Nat → Int32} {V : Cell} (h : Cod cd n f V) : Typed .byte V := fun i v hv => by
  have hi : i < V.slots.size := (Array.getElem?_eq_some_iff.mp hv).1
  rcases h with ⟨-, k1, k2⟩ | ⟨-, k1, k2, -⟩
  · rw [(k2 i (by omega)).1] at hv; cases hv; exact fits_lo8 _
  · rcases Nat.mod_two_eq_zero_or_one i with e | e
    · obtain ⟨j, rfl⟩ : ∃ j, i = 2 * j := ⟨i / 2, by omega⟩
      rw [(k2 j (by omega)).1] at hv; cases hv; exact fits_lo8 _
    · obtain ⟨j, rfl⟩ : ∃ j, i = 2 * j + 1 := ⟨i / 2, by omega⟩
      rw [(k2 j (by omega)).2] at hv; cases hv; exact fits_lo8 _
/-- the same text -/
def SameT (n : Nat) (f : Nat → Int32) (k : Nat) (g : Nat → Int32) : Prop := n = k ∧ ∀ j, j < n → f j = g j
theorem lo8_inj {x y : Int32} (h0 : ¬ x < 0) (h1 : ¬ 255 < x) (k0 : ¬ y < 0) (k1 : ¬ 255 < y) (h : lo8 x = lo8 y) : x = y := by
  rw [← lo8_mask h0 h1, ← lo8_mask k0 k1, h]
/-- arrays coded by one coder are equal just where the texts are -/
theorem Cod.eqv {cd : Int32} {n k : Nat} {f g : Nat → Int32} {V V' : Cell} (h : Cod cd n f V) (h' : Cod cd k g V') (hf : ∀ j, j < n → ¬ f j < 0 ∧ ¬ 65535 < f j) (hg : ∀ j, j < k → ¬ g j < 0 ∧ ¬ 65535 < g j) : EqC V V' ↔ SameT n f k g := by
  have yvv : ∀ {W : Cell} {i : Nat} {x : Int32}, W.slots[i]? = some (.int x) → yv W i = x := fun q => by unfold yv; rw [q]
  rcases h with ⟨rfl, k1, k2⟩ | ⟨rfl, k1, k2, -⟩
  · rcases h' with ⟨-, m1, m2⟩ | ⟨e, -⟩
    · constructor
      · rintro ⟨e1, e2⟩
        refine ⟨by omega, fun j hj => ?_⟩
        have q := e2 j (by omega)
        rw [yvv (k2 j hj).1, yvv (m2 j (by omega)).1] at q
        exact lo8_inj (hf j hj).1 (k2 j hj).2 (hg j (by omega)).1 (m2 j (by omega)).2 q
      · rintro ⟨rfl, e2⟩
        refine ⟨by omega, fun j hj => ?_⟩
        rw [yvv (k2 j (by omega)).1, yvv (m2 j (by omega)).1, e2 j (by omega)]
    · exact absurd e (by decide)
  · rcases h' with ⟨e, -⟩ | ⟨-, m1, m2, -⟩
    · exact absurd e (by decide)
    · constructor
      · rintro ⟨e1, e2⟩
        refine ⟨by omega, fun j hj => ?_⟩
        have q1 := e2 (2 * j) (by omega)
        have q2 := e2 (2 * j + 1) (by omega)
        rw [yvv (k2 j hj).1, yvv (m2 j (by omega)).1] at q1
        rw [yvv (k2 j hj).2, yvv (m2 j (by omega)).2] at q2
        rw [← pair_says (hf j hj).1 (hf j hj).2, ← pair_says (hg j (by omega)).1 (hg j (by omega)).2, q1, q2]
      · rintro ⟨rfl, e2⟩
        refine ⟨by omega, fun i hi => ?_⟩
        rcases Nat.mod_two_eq_zero_or_one i with e | e
        · obtain ⟨j, rfl⟩ : ∃ j, i = 2 * j := ⟨i / 2, by omega⟩
          rw [yvv (k2 j (by omega)).1, yvv (m2 j (by omega)).1, e2 j (by omega)]
        · obtain ⟨j, rfl⟩ : ∃ j, i = 2 * j + 1 := ⟨i / 2, by omega⟩
          rw [yvv (k2 j (by omega)).2, yvv (m2 j (by omega)).2, e2 j (by omega)]
/-- two codings differ: so do the texts -/
theorem Cod.dif {cd cd' : Int32} {n k : Nat} {f g : Nat → Int32} {V V' : Cell} (h : Cod cd n f V) (h' : Cod cd' k g V') (hne : ¬ cd = cd') : ¬ SameT n f k g := by
  rintro ⟨rfl, e⟩
  rcases h with ⟨rfl, -, k2⟩ | ⟨rfl, -, -, j, hj, hw⟩
  · rcases h' with ⟨rfl, -⟩ | ⟨-, -, -, j, hj, hw⟩
    · exact hne rfl
    · exact (k2 j hj).2 (by rw [e j hj]; exact hw)
  · rcases h' with ⟨-, -, m2⟩ | ⟨rfl, -⟩
    · exact (m2 j hj).2 (by rw [← e j hj]; exact hw)
    · exact hne rfl
/-- an object of exactly C is an instance of C -/
theorem cinst {p : Program} {l : Launch} {e : Env} {R : Room} {s : State} {m : MethodId} {args : Array Value} {below : List Frame} {meth : Method} {c : Code} {T : State} {locs : List Loc} {cells slots : Nat} (X : Stand p l e R s m args below meth c T locs cells slots) (hexec : p.tables.exec = Jvm.exec) {own C : String} {index : Nat} (hown : s.vm.findClass own = some m.cls) (hlink : (Cond.classLink own index C).before args s = true) {a : Addr} (hE : Exact C a T)
    {g : JFrame} (hg : g.method = m) {rest : List Value} (hstack : g.stack = .ref a :: rest) (hdg : decode c.code g.pc = .ok (.instanceof index, 3)) :
    ∃ T', Stand p l e R s m args below meth c T' locs cells slots ∧ T'.heap = T.heap ∧ ∀ target, Steps p.tables e below (T'.setTop { g with pc := g.pc + 3, stack := .int 1 :: rest }) target → Steps p.tables e below (T.setTop g) target := by
  obtain ⟨cB, h1, D, h2, h3, h4⟩ := hE
  have h1' : s.vm.findClass C = some cB := by rw [← X.warmed.alike.findClass]; exact h1
  obtain ⟨vm', X', st⟩ := X.instanceofYes hexec hown hlink h2 h4 h1' (by rw [h3]; exact Jvm.Free.SB.assignable_self _ _) hg hstack hdg
  exact ⟨_, X', rfl, st⟩
theorem cself {p : Program} {l : Launch} {e : Env} {R : Room} {s : State} {m : MethodId} {args : Array Value} {below : List Frame} {meth : Method} {c : Code} {T : State} {locs : List Loc} {cells slots : Nat} (X : Stand p l e R s m args below meth c T locs cells slots) (hexec : p.tables.exec = Jvm.exec) {own C : String} {index : Nat} (hown : s.vm.findClass own = some m.cls) (hlink : (Cond.classLink own index C).before args s = true) {a : Addr} (hE : Exact C a T)
    {g : JFrame} (hg : g.method = m) {rest : List Value} (hstack : g.stack = .ref a :: rest) (hdg : decode c.code g.pc = .ok (.checkcast index, 3)) :
    ∃ T', Stand p l e R s m args below meth c T' locs cells slots ∧ T'.heap = T.heap ∧ ∀ target, Steps p.tables e below (T'.setTop { g with pc := g.pc + 3, stack := .ref a :: rest }) target → Steps p.tables e below (T.setTop g) target := by
  obtain ⟨cB, h1, D, h2, h3, h4⟩ := hE
  have h1' : s.vm.findClass C = some cB := by rw [← X.warmed.alike.findClass]; exact h1
  obtain ⟨vm', X', st⟩ := X.checkcastYes hexec hown hlink h2 h4 h1' (by rw [h3]; exact Jvm.Free.SB.assignable_self _ _) hg hstack hdg
  exact ⟨_, X', rfl, fun t h => st t (by rw [← hstack] at h; exact h)⟩
namespace SEq
def yN : MethodName := ⟨"java/lang/String", "equals", "(Ljava/lang/Object;)Z"⟩
abbrev yB : ByteArray := jdk_42_method_66_code
theorem d0 : decode yB 0 = .ok (.aload_n 0, 1) := by decide +kernel
theorem d1 : decode yB 1 = .ok (.aload_n 1, 1) := by decide +kernel
theorem d2 : decode yB 2 = .ok (.if_acmp (.ne) 5, 3) := by decide +kernel
theorem d5 : decode yB 5 = .ok (.iconst 1, 1) := by decide +kernel
theorem d6 : decode yB 6 = .ok (.ireturn, 1) := by decide +kernel
theorem d7 : decode yB 7 = .ok (.aload_n 1, 1) := by decide +kernel
theorem d8 : decode yB 8 = .ok (.instanceof 10, 3) := by decide +kernel
theorem d11 : decode yB 11 = .ok (.ifCond (.eq) 43, 3) := by decide +kernel
theorem d14 : decode yB 14 = .ok (.aload_n 1, 1) := by decide +kernel
theorem d15 : decode yB 15 = .ok (.checkcast 10, 3) := by decide +kernel
theorem d18 : decode yB 18 = .ok (.astore_n 2, 1) := by decide +kernel
theorem d19 : decode yB 19 = .ok (.getstatic 38, 3) := by decide +kernel
theorem d22 : decode yB 22 = .ok (.ifCond (.eq) 14, 3) := by decide +kernel
theorem d25 : decode yB 25 = .ok (.aload_n 0, 1) := by decide +kernel
theorem d26 : decode yB 26 = .ok (.getfield 15, 3) := by decide +kernel
theorem d29 : decode yB 29 = .ok (.aload_n 2, 1) := by decide +kernel
theorem d30 : decode yB 30 = .ok (.getfield 15, 3) := by decide +kernel
theorem d33 : decode yB 33 = .ok (.if_icmp (.ne) 21, 3) := by decide +kernel
theorem d36 : decode yB 36 = .ok (.aload_n 0, 1) := by decide +kernel
theorem d37 : decode yB 37 = .ok (.getfield 9, 3) := by decide +kernel
theorem d40 : decode yB 40 = .ok (.aload_n 2, 1) := by decide +kernel
theorem d41 : decode yB 41 = .ok (.getfield 9, 3) := by decide +kernel
theorem d44 : decode yB 44 = .ok (.invokestatic 541, 3) := by decide +kernel
theorem d47 : decode yB 47 = .ok (.ifCond (.eq) 7, 3) := by decide +kernel
theorem d50 : decode yB 50 = .ok (.iconst 1, 1) := by decide +kernel
theorem d51 : decode yB 51 = .ok (.goto 4, 3) := by decide +kernel
theorem d54 : decode yB 54 = .ok (.iconst 0, 1) := by decide +kernel
theorem d55 : decode yB 55 = .ok (.ireturn, 1) := by decide +kernel
def site : List Cond := [.classLink "java/lang/String" 10 "java/lang/String", .fieldLink "java/lang/String" 38 "java/lang/String" "COMPACT_STRINGS" "Z", .fieldLink "java/lang/String" 15 "java/lang/String" "coder" "B", .fieldLink "java/lang/String" 9 "java/lang/String" "value" "[B", LEq.tab] ++ staticW "java/lang/String" 541 LEq.yN
def tab : Cond := tabOf yN yB 3 (some .boolean) site
def P (x t : Addr) (V : Cell) (cd : Int32) (n : Nat) (f : Nat → Int32) (y t' : Addr) (V' : Cell) (cd' : Int32) (k : Nat) (g : Nat → Int32) (z : Int32) (args : Array Value) (s : State) : Prop := args = #[.ref x, .ref y] ∧ Txt x t V cd n f s ∧ Txt y t' V' cd' k g s ∧ StaticIs s "java/lang/String" "COMPACT_STRINGS" "Z" (.int z) ∧ ¬ z = 0
/-- equals(Object) of two Strings: whether the texts are the same -/
theorem law (l : Launch) (x t : Addr) (V : Cell) (cd : Int32) (n : Nat) (f : Nat → Int32) (y t' : Addr) (V' : Cell) (cd' : Int32) (k : Nat) (g : Nat → Int32) (z : Int32) : Law l yN 2 1 1 14 yB 3 (some .boolean) site (P x t V cd n f y t' V' cd' k g z) (Says01 (SameT n f k g)) [] 0 0 := by
  refine Law.of_walk (plainFor_of_name (by decide +kernel)) (by decide +kernel) (by decide +kernel) (by decide) (fun _ _ h => by rw [h.1]; rfl) (fun _ U U' hal hh h => ⟨h.1, h.2.1.mv hal hh, h.2.2.1.mv hal hh, h.2.2.2.1.there hal hh, h.2.2.2.2⟩) (fun r U U' V V' h1 hal h2 h => Says01.mv r U U' V V' h1 hal h2 h) ?_
  intro p e s m args below meth c s₁ X0 hexec hbytes hml hret hlk hnm hown hh0 W hP
  obtain ⟨rfl, hx, hy, s1, hz⟩ := hP
  have c1 : Steps p.tables e below (s₁.setTop (entryFrame m #[.ref x, .ref y] 3)) (s₁.setTop (mkF m 2 #[.val (.ref x), .val (.ref y), .unset] [.ref y, .ref x])) := Steps.trans (entry rfl) (by
    show Steps p.tables e below (s₁.setTop (mkF m 0 #[.val (.ref x), .val (.ref y), .unset] [])) _
    refine XS.aloadN X0.here hexec rfl (hb hbytes d0) rfl rfl ?_
    refine XS.aloadN X0.here hexec rfl (hb hbytes d1) rfl rfl ?_
    exact Steps.refl _)
  by_cases hxy : x = y
  · have c2 : Steps p.tables e below (s₁.setTop (entryFrame m #[.ref x, .ref y] 3)) (s₁.setTop (mkF m 6 #[.val (.ref x), .val (.ref y), .unset] [.int 1])) := c1.trans (by
      refine acmpNo X0.here hexec rfl (hb hbytes d2) rfl rfl rfl (by simp [acmp, hxy]) ?_
      refine iconstV X0.here hexec rfl 1 (hb hbytes d5) (by decide) ?_
      exact Steps.refl _)
    subst hxy
    have ec : cd = cd' := by
      obtain ⟨D, fd, a1, a2, a3⟩ := hx.2.2.1
      obtain ⟨D', fd', b1, b2, b3⟩ := hy.2.2.1
      cases a1.symm.trans b1
      obtain ⟨q1, q2, q3, q4⟩ := a2.1
      obtain ⟨r1, r2, r3, r4⟩ := b2.1
      cases q4.symm.trans r4
      cases a3.symm.trans b3; rfl
    have et : t = t' := by
      obtain ⟨D, fd, a1, a2, a3⟩ := hx.2.1
      obtain ⟨D', fd', b1, b2, b3⟩ := hy.2.1
      cases a1.symm.trans b1
      obtain ⟨q1, q2, q3, q4⟩ := a2.1
      obtain ⟨r1, r2, r3, r4⟩ := b2.1
      cases q4.symm.trans r4
      cases a3.symm.trans b3; rfl
    subst ec et
    have ev : V = V' := by cases hx.2.2.2.1.1.symm.trans hy.2.2.2.1.1; rfl
    subst ev
    have hs : SameT n f k g := (Cod.eqv hx.2.2.2.2.1 hy.2.2.2.2.1 hx.2.2.2.2.2 hy.2.2.2.2.2).mp ⟨rfl, fun _ _ => rfl⟩
    exact ⟨s₁, some (.int 1), _, _, _, X0, rfl, rfl, rfl, (fun h => by cases h), ⟨1, rfl, hh0, Or.inl ⟨rfl, hs⟩⟩, fun fs hl => c2.trans (X0.ireturnOut hexec hret rfl (Or.inr (Or.inl rfl)) (hb hbytes d6) hl)⟩
  · have c2 : Steps p.tables e below (s₁.setTop (entryFrame m #[.ref x, .ref y] 3)) (s₁.setTop (mkF m 8 #[.val (.ref x), .val (.ref y), .unset] [.ref y])) := c1.trans (by
      refine acmpYes X0.here hexec rfl (pc0 := 2) rfl (hb hbytes d2) rfl rfl rfl (by simp [acmp, hxy]) (by decide) rfl ?_
      refine XS.aloadN X0.here hexec rfl (hb hbytes d7) rfl rfl ?_
      exact Steps.refl _)
    obtain ⟨T3, X3, q3, st3⟩ := cinst X0 hexec hown (wk W (.classLink "java/lang/String" 10 "java/lang/String")) (hy.mv X0.warmed.alike hh0).1 (g := (mkF m 8 #[.val (.ref x), .val (.ref y), .unset] [.ref y])) rfl (rest := []) rfl (hb hbytes d8)
    have hh3 := q3.trans hh0
    have c4 : Steps p.tables e below (s₁.setTop (entryFrame m #[.ref x, .ref y] 3)) (T3.setTop (mkF m 15 #[.val (.ref x), .val (.ref y), .unset] [.ref y])) := (c2.trans (st3 _ (Steps.refl _))).trans (by
      refine XS.ifNo X3.here hexec rfl (hb hbytes d11) rfl (i0_eq_f (by decide)) ?_
      refine XS.aloadN X3.here hexec rfl (hb hbytes d14) rfl rfl ?_
      exact Steps.refl _)
    obtain ⟨T5, X5, q5, st5⟩ := cself X3 hexec hown (wk W (.classLink "java/lang/String" 10 "java/lang/String")) (hy.mv X3.warmed.alike hh3).1 (g := (mkF m 15 #[.val (.ref x), .val (.ref y), .unset] [.ref y])) rfl (rest := []) rfl (hb hbytes d15)
    have hh5 := q5.trans hh3
    have c6 : Steps p.tables e below (s₁.setTop (entryFrame m #[.ref x, .ref y] 3)) (T5.setTop (mkF m 19 #[.val (.ref x), .val (.ref y), .val (.ref y)] [])) := (c4.trans (st5 _ (Steps.refl _))).trans (by
      refine XS.astoreN X5.here hexec rfl (hb hbytes d18) rfl rfl rfl ?_
      exact Steps.refl _)
    obtain ⟨T7, X7, q7, st7⟩ := X5.sget hexec hown (wk W (.fieldLink "java/lang/String" 38 "java/lang/String" "COMPACT_STRINGS" "Z")) s1 (fun _ _ h => by rw [hh5]; exact h) (g := (mkF m 19 #[.val (.ref x), .val (.ref y), .val (.ref y)] [])) rfl (hb hbytes d19)
    have hh7 := q7.trans hh5
    have c8 : Steps p.tables e below (s₁.setTop (entryFrame m #[.ref x, .ref y] 3)) (T7.setTop (mkF m 26 #[.val (.ref x), .val (.ref y), .val (.ref y)] [.ref x])) := (c6.trans (st7 _ (Steps.refl _))).trans (by
      refine XS.ifNo X7.here hexec rfl (hb hbytes d22) rfl (i0_eq_f hz) ?_
      refine XS.aloadN X7.here hexec rfl (hb hbytes d25) rfl rfl ?_
      exact Steps.refl _)
    obtain ⟨T9, X9, q9, st9⟩ := X7.hget hexec hown (wk W (.fieldLink "java/lang/String" 15 "java/lang/String" "coder" "B")) (hx.mv X7.warmed.alike hh7).2.2.1 (g := (mkF m 26 #[.val (.ref x), .val (.ref y), .val (.ref y)] [.ref x])) rfl (rest := []) rfl (hb hbytes d26)
    have hh9 := q9.trans hh7
    have c10 : Steps p.tables e below (s₁.setTop (entryFrame m #[.ref x, .ref y] 3)) (T9.setTop (mkF m 30 #[.val (.ref x), .val (.ref y), .val (.ref y)] [.ref y, .int cd])) := (c8.trans (st9 _ (Steps.refl _))).trans (by
      refine XS.aloadN X9.here hexec rfl (hb hbytes d29) rfl rfl ?_
      exact Steps.refl _)
    obtain ⟨T11, X11, q11, st11⟩ := X9.hget hexec hown (wk W (.fieldLink "java/lang/String" 15 "java/lang/String" "coder" "B")) (hy.mv X9.warmed.alike hh9).2.2.1 (g := (mkF m 30 #[.val (.ref x), .val (.ref y), .val (.ref y)] [.ref y, .int cd])) rfl (rest := [.int cd]) rfl (hb hbytes d30)
    have hh11 := q11.trans hh9
    have c12 : Steps p.tables e below (s₁.setTop (entryFrame m #[.ref x, .ref y] 3)) (T11.setTop (mkF m 33 #[.val (.ref x), .val (.ref y), .val (.ref y)] [.int cd', .int cd])) := c10.trans (st11 _ (Steps.refl _))
    by_cases hcd : cd = cd'
    · subst hcd
      have c13 : Steps p.tables e below (s₁.setTop (entryFrame m #[.ref x, .ref y] 3)) (T11.setTop (mkF m 37 #[.val (.ref x), .val (.ref y), .val (.ref y)] [.ref x])) := c12.trans (by
        refine XS.icmpNo X11.here hexec rfl (hb hbytes d33) rfl (ii_ne_f rfl) ?_
        refine XS.aloadN X11.here hexec rfl (hb hbytes d36) rfl rfl ?_
        exact Steps.refl _)
      obtain ⟨T14, X14, q14, st14⟩ := X11.hget hexec hown (wk W (.fieldLink "java/lang/String" 9 "java/lang/String" "value" "[B")) (hx.mv X11.warmed.alike hh11).2.1 (g := (mkF m 37 #[.val (.ref x), .val (.ref y), .val (.ref y)] [.ref x])) rfl (rest := []) rfl (hb hbytes d37)
      have hh14 := q14.trans hh11
      have c15 : Steps p.tables e below (s₁.setTop (entryFrame m #[.ref x, .ref y] 3)) (T14.setTop (mkF m 41 #[.val (.ref x), .val (.ref y), .val (.ref y)] [.ref y, .ref t])) := (c13.trans (st14 _ (Steps.refl _))).trans (by
        refine XS.aloadN X14.here hexec rfl (hb hbytes d40) rfl rfl ?_
        exact Steps.refl _)
      obtain ⟨T16, X16, q16, st16⟩ := X14.hget hexec hown (wk W (.fieldLink "java/lang/String" 9 "java/lang/String" "value" "[B")) (hy.mv X14.warmed.alike hh14).2.1 (g := (mkF m 41 #[.val (.ref x), .val (.ref y), .val (.ref y)] [.ref y, .ref t])) rfl (rest := [.ref t]) rfl (hb hbytes d41)
      have hh16 := q16.trans hh14
      have c17 : Steps p.tables e below (s₁.setTop (entryFrame m #[.ref x, .ref y] 3)) (T16.setTop (mkF m 44 #[.val (.ref x), .val (.ref y), .val (.ref y)] [.ref t', .ref t])) := c15.trans (st16 _ (Steps.refl _))
      obtain ⟨v18, T18, X18, E18, g18⟩ := X16.callS hexec (LEq.law l t V t' V') hown (wks W (staticW "java/lang/String" 541 LEq.yN)) (wk W LEq.tab) (W := 0) (Nat.le_of_ble_eq_true rfl) (Nat.le_of_ble_eq_true rfl) (Nat.le_refl _) (Nat.le_refl _) (g := (mkF m 44 #[.val (.ref x), .val (.ref y), .val (.ref y)] [.ref t', .ref t])) rfl (by rw [hml]; rfl) c17 (argsL := [.ref t, .ref t']) (rest := []) rfl rfl (by show 2 * 0 + 0 ≤ _; decide) (hb hbytes d44) (⟨rfl, hx.2.2.2.1.mv X16.warmed.alike hh16, hx.2.2.2.2.1.ty, hy.2.2.2.1.mv X16.warmed.alike hh16, hy.2.2.2.2.1.ty⟩)
      obtain ⟨v, rfl, q18, hv⟩ := E18
      have iff := Cod.eqv hx.2.2.2.2.1 hy.2.2.2.2.1 hx.2.2.2.2.2 hy.2.2.2.2.2
      rcases hv with ⟨rfl, he⟩ | ⟨rfl, he⟩
      · have c19 : Steps p.tables e below (s₁.setTop (entryFrame m #[.ref x, .ref y] 3)) (T18.setTop (mkF m 55 #[.val (.ref x), .val (.ref y), .val (.ref y)] [.int 1])) := Steps.trans g18 (by
          refine XS.ifNo X18.here hexec rfl (hb hbytes d47) rfl (i0_eq_f (by decide)) ?_
          refine iconstV X18.here hexec rfl 1 (hb hbytes d50) (by decide) ?_
          refine XS.goto X18.here hexec rfl (pc0 := 51) rfl (hb hbytes d51) (by decide) rfl ?_
          exact Steps.refl _)
        exact ⟨T18, some (.int 1), _, _, _, X18, rfl, rfl, rfl, (fun h => by cases h), ⟨1, rfl, q18.trans hh16, Or.inl ⟨rfl, iff.mp he⟩⟩, fun fs hl => c19.trans (X18.ireturnOut hexec hret rfl (Or.inr (Or.inl rfl)) (hb hbytes d55) hl)⟩
      · have c19 : Steps p.tables e below (s₁.setTop (entryFrame m #[.ref x, .ref y] 3)) (T18.setTop (mkF m 55 #[.val (.ref x), .val (.ref y), .val (.ref y)] [.int 0])) := Steps.trans g18 (by
          refine XS.ifYes X18.here hexec rfl (pc0 := 47) rfl (hb hbytes d47) rfl (i0_eq_t rfl) (by decide) rfl ?_
          refine iconstV X18.here hexec rfl 0 (hb hbytes d54) (by decide) ?_
          exact Steps.refl _)
        exact ⟨T18, some (.int 0), _, _, _, X18, rfl, rfl, rfl, (fun h => by cases h), ⟨0, rfl, q18.trans hh16, Or.inr ⟨rfl, fun q => he (iff.mpr q)⟩⟩, fun fs hl => c19.trans (X18.ireturnOut hexec hret rfl (Or.inr (Or.inl rfl)) (hb hbytes d55) hl)⟩
    · have c13 : Steps p.tables e below (s₁.setTop (entryFrame m #[.ref x, .ref y] 3)) (T11.setTop (mkF m 55 #[.val (.ref x), .val (.ref y), .val (.ref y)] [.int 0])) := c12.trans (by
        refine XS.icmpYes X11.here hexec rfl (pc0 := 33) rfl (hb hbytes d33) rfl (ii_ne_t hcd) (by decide) rfl ?_
        refine iconstV X11.here hexec rfl 0 (hb hbytes d54) (by decide) ?_
        exact Steps.refl _)
      exact ⟨T11, some (.int 0), _, _, _, X11, rfl, rfl, rfl, (fun h => by cases h), ⟨0, rfl, hh11, Or.inr ⟨rfl, Cod.dif hx.2.2.2.2.1 hy.2.2.2.2.1 hcd⟩⟩, fun fs hl => c13.trans (X11.ireturnOut hexec hret rfl (Or.inr (Or.inl rfl)) (hb hbytes d55) hl)⟩
theorem pays {l : Launch} {R : Room} {p : Program} {e : Env} {below : List Frame} {s : State} {sargs : Array Value} {len W : Nat} (x t : Addr) (V : Cell) (cd : Int32) (n : Nat) (f : Nat → Int32) (y t' : Addr) (V' : Cell) (cd' : Int32) (k : Nat) (g : Nat → Int32) (z : Int32) (htab : tab.before sargs s = true) (hfr : 2 ≤ R.frames) (hlo : W + 28 ≤ R.locals) :
    Back l R p e below s sargs yN len W (fun A₁ a₁ => A₁.cells + 0 ≤ R.cells ∧ A₁.slots + 0 ≤ R.slots ∧ P x t V cd n f y t' V' cd' k g z a₁ A₁.U) (fun A₁ _ v₁ B₁ => Says01 (SameT n f k g) v₁ A₁.U B₁.U ∧ B₁.locs = A₁.locs ++ [] ∧ B₁.cells = A₁.cells + 0 ∧ B₁.slots = A₁.slots + 0) :=
  (law l x t V cd n f y t' V' cd' k g z).pays htab hfr (by omega)
end SEq
end StrChars
namespace StrChars.Road
open Jvm Sem ClassFile Op Lib Jvm.Stand Jvm.Free Jvm.Free.XT
open Jvm.Lib.Cold (StaticIs)
/-- the words of String.equals(Object) -/
abbrev wordsEq : List Jvm.Cond := [.code SEq.yN SEq.yB 3 (some .boolean), .initialized ST, .classLink ST 10 ST, .fieldLink ST 38 ST "COMPACT_STRINGS" "Z", .fieldLink ST 15 ST "coder" "B", .fieldLink ST 9 ST "value" "[B", .methodLink ST 541 LEq.yN, .static LEq.yN, .code LEq.yN LEq.yB 3 (some .boolean), .initialized "java/lang/StringLatin1"]
theorem tabEq_of {a : Array Value} {s : State} (h : ∀ w ∈ wordsEq, w.before a s = true) : SEq.tab.before a s = true := by
  have hl : LEq.tab.before a s = true := unparts (wk h (.code LEq.yN LEq.yB 3 (some .boolean))) (wks h (.initialized LEq.yN.cls :: LEq.site))
  have q := consq hl h
  exact unparts (wk q (.code SEq.yN SEq.yB 3 (some .boolean))) (wks q (.initialized SEq.yN.cls :: SEq.site))
theorem movedEq {Z s : State} {a0 args : Array Value} (hZ : Z.Warmed39 s.vm) (hw : ∀ d ∈ wordsEq, d.before a0 Z = true) : ∀ d ∈ wordsEq, d.before args s = true := fun d hd => by
  have t : ∀ d ∈ wordsEq, (d.onTables && d.keepsFace) = true := by decide +kernel
  exact RoadKit.mv hZ (hw d hd) (t d hd)
/-- the road's facts of a String, as the laws ask it -/
theorem txt_of {Z U : State} {a0 : Array Value} {kI : Nat} (wi : (Jvm.Cond.instantiable ST kI).before a0 Z = true) (al : Z.vm.Alike U.vm) {x t : Addr} {kb : ClassId} {cs : List Int32} {cd N2 : Int32} {vs : List Value} (E : RoadKit.Exa Z U.heap x ST) (V : RoadKit.Fld Z U.heap x ST "value" "[B" (.ref t)) (C : RoadKit.Fld Z U.heap x ST "coder" "B" (.int cd)) (K : RoadKit.Arv Z U.heap t kb .byte N2 vs (.int 0)) (hc : CodA cs cd N2 vs) (hb : ∀ c ∈ cs, ¬ c < 0 ∧ ¬ (65535 : Int32) < c) (l2 : cs.length ≤ 4000) :
    ∃ A, Txt x t A cd cs.length (fun j => cs.getD j 0) U := by
  obtain ⟨A, K1, K2, K3, K4, K5, K6⟩ := K
  have hcod := hc.cod (by omega) K3 K5
  obtain ⟨D, fV, fC, hB, F1, F2, g1, g2, -, -⟩ := strObj wi al E V C
  exact ⟨A, ⟨_, hB.2.2.1, D, hB.1, rfl, by cases q : D.vm <;> first | rfl | exact absurd q (hB.2.1.2 _)⟩, Has.of hB F1 g1, Has.of hB F2 g2, ⟨K1.1, State.isArrayOf_alike al K1.2.1, K1.2.2, by rcases hcod with ⟨-, q, -⟩ | ⟨-, q, -⟩ <;> omega⟩, hcod, fun j hj => by
    have e : cs.getD j 0 = cs[j] := by simp [List.getD_eq_getElem?_getD, hj]
    show ¬ cs.getD j 0 < 0 ∧ ¬ 65535 < cs.getD j 0
    rw [e]; exact hb _ (List.getElem_mem _)⟩
theorem same_list (cs ds : List Int32) : SameT cs.length (fun j => cs.getD j 0) ds.length (fun j => ds.getD j 0) ↔ cs = ds := by
  constructor
  · rintro ⟨e, q⟩
    refine List.ext_getElem e fun j h1 h2 => ?_
    have := q j h1
    simpa [List.getD_eq_getElem?_getD, h1, h2] using this
  · rintro rfl
    exact ⟨rfl, fun _ _ => rfl⟩
/-- **equals(Object) OF TWO SUCH STRINGS**: 1 just where the chars are the same -/
theorem eqW {p : Program} {l : Launch} {e : Env} {R : Room} {s : State} {args : Array Value} {below : List Frame} {len W : Nat} {Z : State} {a0 : Array Value} {h : Heap} (hZ : Z.Warmed39 s.vm) (hw : ∀ d ∈ wordsEq, d.before a0 Z = true) {kI : Nat} (wi : (Jvm.Cond.instantiable ST kI).before a0 Z = true)
    {x t : Addr} {kb : ClassId} {cs : List Int32} {cd N2 : Int32} {vs : List Value} (E : RoadKit.Exa Z h x ST) (V : RoadKit.Fld Z h x ST "value" "[B" (.ref t)) (C : RoadKit.Fld Z h x ST "coder" "B" (.int cd)) (K : RoadKit.Arv Z h t kb .byte N2 vs (.int 0)) (hc : CodA cs cd N2 vs) (hb : ∀ c ∈ cs, ¬ c < 0 ∧ ¬ (65535 : Int32) < c) (l2 : cs.length ≤ 4000)
    {y t' : Addr} {kb' : ClassId} {ds : List Int32} {cd' N2' : Int32} {vs' : List Value} (E' : RoadKit.Exa Z h y ST) (V' : RoadKit.Fld Z h y ST "value" "[B" (.ref t')) (C' : RoadKit.Fld Z h y ST "coder" "B" (.int cd')) (K' : RoadKit.Arv Z h t' kb' .byte N2' vs' (.int 0)) (hc' : CodA ds cd' N2' vs') (hb' : ∀ c ∈ ds, ¬ c < 0 ∧ ¬ (65535 : Int32) < c) (l2' : ds.length ≤ 4000)
    {z : Int32} (S : RoadKit.Sta Z h ST "COMPACT_STRINGS" "Z" (.int z)) (hz : ¬ z = 0) (hfr : 2 ≤ R.frames) (hlo : W + 28 ≤ R.locals) :
    Back l R p e below s args (⟨"java/lang/String", "equals", "(Ljava/lang/Object;)Z"⟩ : MethodName) len W (fun P a => a = #[.ref x, .ref y] ∧ P.U.heap = h ∧ P.cells + 0 ≤ R.cells ∧ P.slots + 0 ≤ R.slots)
      (fun P _ v B => ∃ L, (((v = some (.int 1) ∧ cs = ds) ∨ (v = some (.int 0) ∧ ¬ cs = ds)) ∧ L = [] ∧ B.U.heap = h) ∧ B.locs = P.locs ++ L ∧ B.cells = P.cells + 0 ∧ B.slots = P.slots + 0) := by
  intro m meth c P g ig mk a X hg hsize hdg hW hn hp'
  obtain ⟨rfl, rfl, r1, r2⟩ := hp'
  have al : Z.vm.Alike P.U.vm := hZ.alike.trans X.warmed.alike
  obtain ⟨A, hx⟩ := txt_of wi al E V C K hc hb l2
  obtain ⟨A', hy⟩ := txt_of wi al E' V' C' K' hc' hb' l2'
  obtain ⟨v, B, X', ⟨⟨w, hv, hh, hq⟩, hl, hk, hs⟩, st⟩ := SEq.pays x t A cd cs.length (fun j => cs.getD j 0) y t' A' cd' ds.length (fun j => ds.getD j 0) z (tabEq_of (movedEq hZ hw)) hfr hlo m meth c P g ig mk _ X hg hsize hdg hW hn ⟨r1, r2, rfl, hx, hy, sta_is al S, hz⟩
  refine ⟨v, B, X', ⟨[], ⟨?_, rfl, hh⟩, hl, hk, hs⟩, st⟩
  rcases hq with ⟨rfl, q⟩ | ⟨rfl, q⟩
  · exact Or.inl ⟨hv, (same_list cs ds).mp q⟩
  · exact Or.inr ⟨hv, fun e => q ((same_list cs ds).mpr e)⟩
end StrChars.Road
namespace StrChars.Road
open Jvm Sem ClassFile Op Lib Jvm.Stand Jvm.Free Jvm.Free.XT
open Jvm.Lib.Cold (StaticIs)
/-- what backV says of its String, as the contracts of this text ask it: cs's low bytes, coder 0 -/
theorem codOf {cs : List Int32} {n : Nat} (hn : cs.length = n) (hb : ∀ c ∈ cs, ¬ 255 < c) : CodA cs 0 (Int32.ofNat n) ((cs.map lo8).map Value.int) := Or.inl ⟨rfl, by rw [hn], by simp [List.map_map, Function.comp_def], hb⟩
end StrChars.Road
end Jvm.Pilot.@@N@@
namespace Jvm.RoadKit
open Sem ClassFile Op Lib Jvm.Stand Jvm.Free Jvm.LawKit
section Own
variable {p : Program} {l : Launch} {e : Env} {R : Room} {s : State} {m : MethodId} {args : Array Value} {below : List Frame} {meth : Method} {c : Code} {T T1 : State} {locs : List Loc} {cells slots cs ss : Nat} {Q : Option Value → Heap → List Loc → Prop} {g g1 : JFrame}
/-- from the frame g over T the body comes to its end, and what it leaves is as Q says -/
def own_Goes (p : Program) (e : Env) (below : List Frame) (s : State) (Q : Option Value → Heap → List Loc → Prop) (cs ss : Nat) (T : State) (g : JFrame) : Prop :=
  ∃ s₂ o, Steps p.tables e below (T.setTop g) s₂ ∧ s₂.status = .running ∧ Ended s₂ below o ∧ ∃ v L, o = .returned v ∧ Q v s₂.heap L ∧ FrameEnd s o s₂ L cs ss
theorem own_go (st : ∀ target, Steps p.tables e below (T1.setTop g1) target → Steps p.tables e below (T.setTop g) target) (k : own_Goes p e below s Q cs ss T1 g1) : own_Goes p e below s Q cs ss T g := by
  obtain ⟨s₂, o, h, r⟩ := k
  exact ⟨s₂, o, st _ h, r⟩
theorem own_goS (st : Steps p.tables e below (T.setTop g) (T1.setTop g1)) (k : own_Goes p e below s Q cs ss T1 g1) : own_Goes p e below s Q cs ss T g := own_go (fun _ h => st.trans h) k
/-- the ends -/
theorem own_retN (X : Stand p l e R s m args below meth c T locs cells slots) (hx : p.tables.exec = Jvm.exec) {pc : Nat} {Ls : Array Slot} {z : Int32} {t : FieldType} {rest : List Value} (hlk : meth.locks = false) (hret : meth.sig.returnType = some t) (ht : t = .boolean ∨ t = .byte ∨ t = .char ∨ t = .short)
    (hd : decode c.code pc = .ok (.ireturn, 1)) (hc : cells ≤ cs) (hs : slots ≤ ss) (hQ : Q (some (.int (nar t z))) T.heap locs) : own_Goes p e below s Q cs ss T (mkF m pc Ls (.int z :: rest)) := by
  obtain ⟨fs, hr, hrun, hended, hW, hsame⟩ := X.leave (v := some (.int (nar t z))) (fun h => by rw [hret] at h; cases h) hlk
  exact ⟨_, _, retN X hx hret ht hd hr, hrun, hended, _, _, rfl, hQ, ⟨_, rfl⟩, hW, hsame.mono hc hs⟩
theorem own_ret (X : Stand p l e R s m args below meth c T locs cells slots) (hx : p.tables.exec = Jvm.exec) {pc : Nat} {Ls : Array Slot} {w : Value} {t : FieldType} {i : Instr} {rest : List Value} (hlk : meth.locks = false) (hret : meth.sig.returnType = some t) (hn : narrow t w = w)
    (hi : (i = .ireturn ∧ (t = .int ∨ t = .boolean ∨ t = .byte ∨ t = .char ∨ t = .short) ∧ ∃ z, w = .int z) ∨ (i = .lreturn ∧ t = .long ∧ ∃ z, w = .long z) ∨ (i = .dreturn ∧ t = .double ∧ ∃ z, w = .double z) ∨ (i = .freturn ∧ t = .float ∧ ∃ z, w = .float z) ∨ (i = .areturn ∧ t.isReference = true ∧ w.isRef = true))
    (hd : decode c.code pc = .ok (i, 1)) (hc : cells ≤ cs) (hs : slots ≤ ss) (hQ : Q (some w) T.heap locs) : own_Goes p e below s Q cs ss T (mkF m pc Ls (w :: rest)) := by
  obtain ⟨fs, hr, hrun, hended, hW, hsame⟩ := X.leave (v := some w) (fun h => by rw [hret] at h; cases h) hlk
  exact ⟨_, _, retOut X hx hret hn hi hd hr, hrun, hended, _, _, rfl, hQ, ⟨_, rfl⟩, hW, hsame.mono hc hs⟩
theorem own_retI (X : Stand p l e R s m args below meth c T locs cells slots) (hx : p.tables.exec = Jvm.exec) {pc : Nat} {Ls : Array Slot} {z : Int32} {rest : List Value} (hlk : meth.locks = false) (hret : meth.sig.returnType = some .int)
    (hd : decode c.code pc = .ok (.ireturn, 1)) (hc : cells ≤ cs) (hs : slots ≤ ss) (hQ : Q (some (.int z)) T.heap locs) : own_Goes p e below s Q cs ss T (mkF m pc Ls (.int z :: rest)) :=
  own_ret X hx hlk hret rfl (Or.inl ⟨rfl, Or.inl rfl, _, rfl⟩) hd hc hs hQ
theorem own_retA (X : Stand p l e R s m args below meth c T locs cells slots) (hx : p.tables.exec = Jvm.exec) {pc : Nat} {Ls : Array Slot} {w : Value} {t : FieldType} {rest : List Value} (hlk : meth.locks = false) (hret : meth.sig.returnType = some t) (ht : t.isReference = true) (hw : w.isRef = true)
    (hd : decode c.code pc = .ok (.areturn, 1)) (hc : cells ≤ cs) (hs : slots ≤ ss) (hQ : Q (some w) T.heap locs) : own_Goes p e below s Q cs ss T (mkF m pc Ls (w :: rest)) :=
  own_ret X hx hlk hret (by rcases ref_cases hw with rfl | ⟨a, rfl⟩ <;> cases t <;> simp [FieldType.isReference] at ht <;> rfl) (Or.inr (Or.inr (Or.inr (Or.inr ⟨rfl, ht, hw⟩)))) hd hc hs hQ
theorem own_more (X : Stand p l e R s m args below meth c T locs cells slots) {cells' slots' : Nat} (h1 : cells ≤ cells') (h2 : slots ≤ slots') : Stand p l e R s m args below meth c T locs cells' slots' := X.more h1 h2
theorem own_retV (X : Stand p l e R s m args below meth c T locs cells slots) (hx : p.tables.exec = Jvm.exec) {pc : Nat} {Ls : Array Slot} (hlk : meth.locks = false) (hret : meth.sig.returnType = none)
    (hd : decode c.code pc = .ok (.return_, 1)) (hc : cells ≤ cs) (hs : slots ≤ ss) (hQ : Q none T.heap locs) : own_Goes p e below s Q cs ss T (mkF m pc Ls []) := by
  obtain ⟨fs, hr, hrun, hended, hW, hsame⟩ := X.leave (v := none) (fun _ => rfl) hlk
  exact ⟨_, _, X.returnOut hx hret hd hr, hrun, hended, _, _, rfl, hQ, ⟨_, rfl⟩, hW, hsame.mono hc hs⟩
/-- what holds throughout a body's walk -/
def own_Ctx (Z : State) (y : MethodName) (own : String) (bytes : ByteArray) (maxL : Nat) (ret : Option FieldType) (p : Program) (s : State) (m : MethodId) (meth : Method) (c : Code) : Prop :=
  p.tables.exec = Jvm.exec ∧ c.code = bytes ∧ c.maxLocals = maxL ∧ s.vm.findClass own = some m.cls ∧ meth.name = y.name ∧ meth.sig.returnType = ret ∧ meth.locks = false ∧ Z.Warmed39 s.vm
theorem own_met {Z : State} {y : MethodName} {own : String} {bytes : ByteArray} {maxL : Nat} {ret : Option FieldType} {ws : List Cond} {rm : Room} {as' : Array Value} {h0 : Heap} (hy : y.cls = own) (hpn : plainFor y = true)
    (body : ∀ (p : Program) (e : Env) (s : State) (m : MethodId) (below : List Frame) (meth : Method) (c : Code) (s₁ : State), own_Ctx Z y own bytes maxL ret p s m meth c → s₁.heap = h0 → Stand p l e rm s m as' below meth c s₁ [] 0 0 → own_Goes p e below s Q cs ss s₁ (entryFrame m as' maxL)) :
    MetFree l y (head1 (Cond.code y bytes maxL ret :: ws) rm) (fun a U => a = as' ∧ Z.Warmed39 U.vm ∧ U.heap = h0) (fun _ _ _ _ _ => True) (fun _ U o U' => ∃ v L, o = .returned v ∧ Q v U'.heap L ∧ FrameEnd U o U' L cs ss) := by
  subst hy
  refine MetFree.of_bodySF hpn hisR ?_
  intro p e s m args below meth c s₁ Bd hml0 hP hK
  obtain ⟨rfl, hZ, hh⟩ := hP
  exact body p e s m below meth c s₁ ⟨Bd.exec, Bd.bytes, hml0, findClass_of_methodNamed Bd.named, (name_of_methodNamed Bd.named Bd.method).1, Bd.returns, Bd.notSynchronized, hZ⟩ (by rw [← hh, Bd.state]; rfl) (Stand.of_body Bd)
end Own
end Jvm.RoadKit
namespace Jvm.RoadKit
open Sem ClassFile Op Lib Jvm.Stand Jvm.Free Jvm.LawKit
section OwnW
variable {p : Program} {l : Launch} {e : Env} {R : Room} {s : State} {m : MethodId} {args : Array Value} {below : List Frame} {meth : Method} {c : Code} {T T1 : State} {locs : List Loc} {cells slots cs ss : Nat} {Q : Option Value → Heap → List Loc → Vm → Prop} {g g1 : JFrame} {vm₁ : Vm} {k0 : Nat}
/-- as own_Goes, of a body that may intern -/
def own_GoesW (p : Program) (e : Env) (below : List Frame) (s : State) (Q : Option Value → Heap → List Loc → Vm → Prop) (cs ss : Nat) (T : State) (g : JFrame) : Prop :=
  ∃ s₂ o, Steps p.tables e below (T.setTop g) s₂ ∧ s₂.status = .running ∧ Ended s₂ below o ∧ ∃ v L, o = .returned v ∧ Q v s₂.heap L s₂.vm ∧ ReturnedEndW s o s₂ L cs ss
theorem own_goW (st : ∀ target, Steps p.tables e below (T1.setTop g1) target → Steps p.tables e below (T.setTop g) target) (k : own_GoesW p e below s Q cs ss T1 g1) : own_GoesW p e below s Q cs ss T g := by
  obtain ⟨s₂, o, h, r⟩ := k
  exact ⟨s₂, o, st _ h, r⟩
theorem own_goSW (st : Steps p.tables e below (T.setTop g) (T1.setTop g1)) (k : own_GoesW p e below s Q cs ss T1 g1) : own_GoesW p e below s Q cs ss T g := own_goW (fun _ h => st.trans h) k
theorem own_monoW {t : State} {o : Outcome} {L : List Loc} {k n k' n' : Nat} (h : ReturnedEndW s o t L k n) (h1 : k ≤ k') (h2 : n ≤ n') : ReturnedEndW s o t L k' n' := ⟨h.1, h.2.1, h.2.2.1, h.2.2.2.mono h1 h2⟩
theorem own_retNW (X : Stand p l e R (s.setVm vm₁) m args below meth c T locs cells slots) (hx : p.tables.exec = Jvm.exec) (hS : s.Since vm₁ k0) (hk : k0 ≤ T.heap.size) {pc : Nat} {Ls : Array Slot} {z : Int32} {t : FieldType} {rest : List Value} (hlk : meth.locks = false) (hret : meth.sig.returnType = some t) (ht : t = .boolean ∨ t = .byte ∨ t = .char ∨ t = .short)
    (hd : decode c.code pc = .ok (.ireturn, 1)) (hc : cells ≤ cs) (hs : slots ≤ ss) (hQ : Q (some (.int (nar t z))) T.heap locs T.vm) : own_GoesW p e below s Q cs ss T (mkF m pc Ls (.int z :: rest)) := by
  obtain ⟨fs, hr, hrun, hended, hE⟩ := X.leaveW hS hk (v := some (.int (nar t z))) (fun h => by rw [hret] at h; cases h) hlk
  exact ⟨_, _, retN X hx hret ht hd hr, hrun, hended, _, _, rfl, hQ, own_monoW hE hc hs⟩
theorem own_retAW (X : Stand p l e R (s.setVm vm₁) m args below meth c T locs cells slots) (hx : p.tables.exec = Jvm.exec) (hS : s.Since vm₁ k0) (hk : k0 ≤ T.heap.size) {pc : Nat} {Ls : Array Slot} {w : Value} {t : FieldType} {rest : List Value} (hlk : meth.locks = false) (hret : meth.sig.returnType = some t) (ht : t.isReference = true) (hw : w.isRef = true)
    (hd : decode c.code pc = .ok (.areturn, 1)) (hc : cells ≤ cs) (hs : slots ≤ ss) (hQ : Q (some w) T.heap locs T.vm) : own_GoesW p e below s Q cs ss T (mkF m pc Ls (w :: rest)) := by
  obtain ⟨fs, hr, hrun, hended, hE⟩ := X.leaveW hS hk (v := some w) (fun h => by rw [hret] at h; cases h) hlk
  exact ⟨_, _, retOut X hx hret (by rcases ref_cases hw with rfl | ⟨a, rfl⟩ <;> cases t <;> simp [FieldType.isReference] at ht <;> rfl) (Or.inr (Or.inr (Or.inr (Or.inr ⟨rfl, ht, hw⟩)))) hd hr, hrun, hended, _, _, rfl, hQ, own_monoW hE hc hs⟩
theorem own_retVW (X : Stand p l e R (s.setVm vm₁) m args below meth c T locs cells slots) (hx : p.tables.exec = Jvm.exec) (hS : s.Since vm₁ k0) (hk : k0 ≤ T.heap.size) {pc : Nat} {Ls : Array Slot} (hlk : meth.locks = false) (hret : meth.sig.returnType = none)
    (hd : decode c.code pc = .ok (.return_, 1)) (hc : cells ≤ cs) (hs : slots ≤ ss) (hQ : Q none T.heap locs T.vm) : own_GoesW p e below s Q cs ss T (mkF m pc Ls []) := by
  obtain ⟨fs, hr, hrun, hended, hE⟩ := X.leaveW hS hk (v := none) (fun _ => rfl) hlk
  exact ⟨_, _, X.returnOut hx hret hd hr, hrun, hended, _, _, rfl, hQ, own_monoW hE hc hs⟩
theorem own_metW {Z : State} {y : MethodName} {own : String} {bytes : ByteArray} {maxL : Nat} {ret : Option FieldType} {ws : List Cond} {rm : Room} {as' : Array Value} {h0 : Heap} {VP : Vm → Prop} (hy : y.cls = own) (hpn : plainFor y = true)
    (body : ∀ (p : Program) (e : Env) (s : State) (m : MethodId) (below : List Frame) (meth : Method) (c : Code) (s₁ : State), own_Ctx Z y own bytes maxL ret p s m meth c → s₁.heap = h0 → s.heap = h0 → VP s.vm → s.Since s.vm 0 → Stand p l e rm (s.setVm s.vm) m as' below meth c s₁ [] 0 0 → own_GoesW p e below s Q cs ss s₁ (entryFrame m as' maxL)) :
    MetFree l y (head1 (Cond.code y bytes maxL ret :: ws) rm) (fun a U => a = as' ∧ Z.Warmed39 U.vm ∧ U.heap = h0 ∧ VP U.vm) (fun _ _ _ _ _ => True) (fun _ U o U' => ∃ v L, o = .returned v ∧ Q v U'.heap L U'.vm ∧ ReturnedEndW U o U' L cs ss) := by
  subst hy
  refine MetFree.of_bodySF hpn hisR ?_
  intro p e s m args below meth c s₁ Bd hml0 hP hK
  obtain ⟨rfl, hZ, hh, hV⟩ := hP
  exact body p e s m below meth c s₁ ⟨Bd.exec, Bd.bytes, hml0, findClass_of_methodNamed Bd.named, (name_of_methodNamed Bd.named Bd.method).1, Bd.returns, Bd.notSynchronized, hZ⟩ (by rw [← hh, Bd.state]; rfl) hh hV ((State.WarmedH.refl s).since 0) (Stand.of_body Bd)
/-- what pays a call of a body that may intern -/
theorem own_backW {Z : State} {a0 : Array Value} {h : Heap} {y : MethodName} {bytes : ByteArray} {maxL : Nat} {ret : Option FieldType} {rm : Room} {len W : Nat} {as' : Array Value} {VP : Vm → Prop}
    (hM : MetFree l y (head1 [Cond.code y bytes maxL ret] rm) (fun a U => a = as' ∧ Z.Warmed39 U.vm ∧ U.heap = h ∧ VP U.vm) (fun _ _ _ _ _ => True) (fun _ U o U' => ∃ v L, o = .returned v ∧ Q v U'.heap L U'.vm ∧ ReturnedEndW U o U' L rm.cells rm.slots))
    (hZ : Z.Warmed39 s.vm) (hV : ∀ vm', s.WarmedH vm' → VP vm') (wc : (Cond.code y bytes maxL ret).before a0 Z = true) (wz : (Cond.initialized y.cls).before a0 Z = true) (hf : rm.frames + 1 ≤ R.frames) (hl : W + (maxL + 11) + rm.locals ≤ R.locals) :
    BackS l R p e below s args y len W (fun A a => a = as' ∧ A.U.heap = h ∧ A.cells + rm.cells ≤ R.cells ∧ A.slots + rm.slots ≤ R.slots)
      (fun A _ v B => ∃ L, Q v B.U.heap L B.U.vm ∧ B.locs = A.locs ++ L ∧ B.cells = A.cells + rm.cells ∧ B.slots = A.slots + rm.slots) := by
  refine BackS.of_freeW (bytes := bytes) (maxL := maxL) (ret := ret) (E := fun _ _ o t L k n => k = rm.cells ∧ n = rm.slots ∧ ∃ v, o = .returned v ∧ Q v t.heap L t.vm) hM hf hl (fun m meth c A a Y hp => ?_) (fun m meth c A a g mk Y hp => ?_) (fun _ _ _ _ _ _ _ _ _ => trivial) (fun a U o t hq => ?_) (fun m meth c A a g mk v t L k n Y hp hq _ hE => ?_)
  · have hU : Z.Warmed39 A.U.vm := wtrans hZ Y.warmed
    exact ⟨by show (Cond.and _ .tt).before a A.U = true; rw [Cond.before_and, mv hU wc]; rfl, mv hU wc, mv hU wz, hp.2.2.1, hp.2.2.2⟩
  · exact ⟨hp.1, wtrans hZ Y.warmed, hp.2.1, hV _ Y.warmed⟩
  · obtain ⟨v, L, h1, h2, h3⟩ := hq
    exact ⟨L, _, _, h3, rfl, rfl, v, h1, h2⟩
  · obtain ⟨e1, e2, v', e3, e4⟩ := hE
    cases e3; subst e1 e2
    exact ⟨L, e4, rfl, rfl, rfl⟩
end OwnW
end Jvm.RoadKit
namespace Jvm.Pilot.@@N@@
open Jvm Jvm.ClassFile Sem Op Lib Jvm.Free Jvm.Stand Jvm.LawKit Jvm.RoadKit Bundle Jvm.Pilot.@@N@@.Jvm.D
theorem own_up (cs : List Int32) (h : ∀ c ∈ cs, ¬ c < 0 ∧ ¬ (255 : Int32) < c) : ∀ c ∈ cs, ¬ c < 0 ∧ ¬ (65535 : Int32) < c := fun c hc => ⟨(h c hc).1, fun q => (h c hc).2 (by rw [Int32.lt_iff_toInt_lt] at q ⊢; have e1 : (65535 : Int32).toInt = 65535 := rfl; have e2 : (255 : Int32).toInt = 255 := rfl; omega)⟩
theorem own_cod {cs : List Int32} (h : ∀ c ∈ cs, ¬ c < 0 ∧ ¬ (255 : Int32) < c) : StrChars.Road.CodA cs 0 (Int32.ofNat cs.length) ((cs.map (fun c => c.toInt8.toInt32)).map Value.int) := StrChars.Road.codOf rfl (fun c hc => (h c hc).2)
/-- a char made of the low eight bits -/
def own_ch (x : Int32) : Int32 := nar .char ((x &&& (255 : Int32)).toUInt32.toUInt16.toUInt32.toInt32)
theorem own_ch_nat (x : Int32) : ∃ k : Fin 256, (x &&& 255) = Int32.ofNat k.val := by
  have h : (x &&& 255).toBitVec.toNat < 256 := by
    simp only [Int32.toBitVec_and, BitVec.toNat_and]
    exact Nat.lt_succ_of_le Nat.and_le_right
  refine ⟨⟨_, h⟩, ?_⟩
  apply Int32.toBitVec_inj.mp
  show _ = BitVec.ofNat 32 _
  rw [BitVec.ofNat_toNat]; simp
theorem own_ch_eq (x : Int32) : own_ch x = x &&& 255 := by
  have t : ∀ k : Fin 256, nar .char ((Int32.ofNat k.val).toUInt32.toUInt16.toUInt32.toInt32) = Int32.ofNat k.val := by decide +kernel
  obtain ⟨k, e⟩ := own_ch_nat x
  unfold own_ch; rw [e]; exact t k
theorem own_ch_in (x : Int32) : ¬ own_ch x < 0 ∧ ¬ (255 : Int32) < own_ch x := by
  have t : ∀ k : Fin 256, ¬ (Int32.ofNat k.val) < 0 ∧ ¬ (255 : Int32) < (Int32.ofNat k.val) := by decide +kernel
  obtain ⟨k, e⟩ := own_ch_nat x
  rw [own_ch_eq, e]; exact t k
/-- a String at a whose chars are cs (each 0 to 255) -/
def own_Str2 (Z : State) (h : Heap) (a : Addr) (cs : List Int32) : Prop := Exa Z h a "java/lang/String" ∧ Fld Z h a "java/lang/String" "coder" "B" (.int (0 : Int32)) ∧ (∀ c ∈ cs, ¬ c < 0 ∧ ¬ (255 : Int32) < c) ∧ cs.length ≤ 4000 ∧
  ∃ (t : Addr) (kb : ClassId), Fld Z h a "java/lang/String" "value" "[B" (.ref t) ∧ Arv Z h t kb .byte (Int32.ofNat cs.length) ((cs.map (fun c => c.toInt8.toInt32)).map Value.int) (.int 0)
theorem own_Str2.ext {Z : State} {h h' : Heap} {a : Addr} {cs : List Int32} (F : own_Str2 Z h a cs) (E : Ext h h') : own_Str2 Z h' a cs := by
  obtain ⟨f1, f2, f4, f5, t, kb, f7, f8⟩ := F
  exact ⟨f1.ext E, f2.ext E, f4, f5, t, kb, f7.ext E, f8.ext E⟩
theorem own_Str2.keep0 {Z : State} {h h' : Heap} {a : Addr} {cs : List Int32} (F : own_Str2 Z h a cs) (K : Keep h h' []) : own_Str2 Z h' a cs := by
  obtain ⟨f1, f2, f4, f5, t, kb, f7, f8⟩ := F
  exact ⟨f1.keep K, f2.keep K nin0, f4, f5, t, kb, f7.keep K nin0, f8.keep K nin0⟩
theorem own_Str2.keepX {Z : State} {h h' : Heap} {a x : Addr} {cs : List Int32} {C : String} {n : Nat} {a0 : Array Value} (F : own_Str2 Z h a cs) (K : Keep h h' [x]) (Ex : Exa Z h x C) (hC : C ≠ "java/lang/String") (wi : (Jvm.Cond.instantiable C n).before a0 Z = true) : own_Str2 Z h' a cs := by
  obtain ⟨f1, f2, f4, f5, t, kb, f7, f8⟩ := F
  have n1 : a ≠ x := Ne.symm (Ex.ne f1 hC)
  have n2 : t ≠ x := Ne.symm (Ex.neArv f8 wi)
  exact ⟨f1.keep K, f2.keep K (ninS n1 nin0), f4, f5, t, kb, f7.keep K (ninS n1 nin0), f8.keep K (ninS n2 nin0)⟩
/-- .. where the written object is a String without a value yet -/
theorem own_Str2.keepN {Z : State} {h h' : Heap} {a x : Addr} {cs : List Int32} {n : Nat} {a0 : Array Value} (F : own_Str2 Z h a cs) (K : Keep h h' [x]) (Ex : Exa Z h x "java/lang/String") (Fx : Fld Z h x "java/lang/String" "value" "[B" .null) (wi : (Jvm.Cond.instantiable "java/lang/String" n).before a0 Z = true) : own_Str2 Z h' a cs := by
  obtain ⟨f1, f2, f4, f5, t, kb, f7, f8⟩ := F
  have n1 : a ≠ x := f7.ne Fx nofun
  have n2 : t ≠ x := Ne.symm (Ex.neArv f8 wi)
  exact ⟨f1.keep K, f2.keep K (ninS n1 nin0), f4, f5, t, kb, f7.keep K (ninS n1 nin0), f8.keep K (ninS n2 nin0)⟩
def own_L (Z : State) (vm : Vm) (Ts : List String) (own : String) (index : Nat) (text : String) : Prop := text ∉ Ts ∨ ∃ a, Lit (Z.setVm vm) own index a
def own_VM (Z : State) (h : Heap) (vm : Vm) : Prop := ∃ Ts, IB Z vm Ts ∧ ("" ∉ Ts ∨ ∃ a, Lit (Z.setVm vm) "java/lang/String" 7 a ∧ own_Str2 Z h a []) ∧ own_L Z vm Ts "dev/resolvent/model/StateKey" 7 "type" ∧ own_L Z vm Ts "dev/resolvent/model/StateKey" 15 "stateKey"
def own_VMa (Z : State) (vm : Vm) (a : Addr) : Prop := ∃ Ts, IB Z vm Ts ∧ Lit (Z.setVm vm) "java/lang/String" 7 a ∧ own_L Z vm Ts "dev/resolvent/model/StateKey" 7 "type" ∧ own_L Z vm Ts "dev/resolvent/model/StateKey" 15 "stateKey"
theorem own_IBw {Z s : State} {vm0 vm1 : Vm} {Ts : List String} (I : IB Z vm0 Ts) (W : (s.setVm vm0).WarmedH vm1) : IB Z vm1 Ts := by
  obtain ⟨more, h1, h2⟩ := I
  exact ⟨more, (W.interned_eq).trans h1, h2⟩
theorem own_Litw {Z s : State} {vm0 vm1 : Vm} {own : String} {index : Nat} {a : Addr} (L : Lit (Z.setVm vm0) own index a) (W : (s.setVm vm0).Warmed39 vm1) : Lit (Z.setVm vm1) own index a := Lit.stays (s := s) L W
theorem own_Lw {Z s : State} {vm0 vm1 : Vm} {Ts : List String} {own text : String} {index : Nat} (L : own_L Z vm0 Ts own index text) (W : (s.setVm vm0).Warmed39 vm1) : own_L Z vm1 Ts own index text := by
  rcases L with q | ⟨a, q⟩
  · exact Or.inl q
  · exact Or.inr ⟨a, own_Litw q W⟩
theorem own_Lc {Z : State} {vm : Vm} {Ts : List String} {own text t : String} {index : Nat} (L : own_L Z vm Ts own index text) (hne : text ≠ t) : own_L Z vm (t :: Ts) own index text := by
  rcases L with q | q
  · exact Or.inl (fun r => (List.mem_cons.mp r).elim hne q)
  · exact Or.inr q
theorem own_VM.warm {Z s : State} {h : Heap} {vm0 vm1 : Vm} (V : own_VM Z h vm0) (W : (s.setVm vm0).WarmedH vm1) : own_VM Z h vm1 := by
  obtain ⟨Ts, I, hE, h0, h1⟩ := V
  refine ⟨Ts, own_IBw I W, ?_, own_Lw h0 W.wide, own_Lw h1 W.wide⟩
  rcases hE with q | ⟨a, q, r⟩
  · exact Or.inl q
  · exact Or.inr ⟨a, own_Litw q W.wide, r⟩
theorem own_VMa.warm {Z s : State} {vm0 vm1 : Vm} {a : Addr} (V : own_VMa Z vm0 a) (W : (s.setVm vm0).WarmedH vm1) : own_VMa Z vm1 a := by
  obtain ⟨Ts, I, hE, h0, h1⟩ := V
  exact ⟨Ts, own_IBw I W, own_Litw hE W.wide, own_Lw h0 W.wide, own_Lw h1 W.wide⟩
theorem own_VM.of {Z : State} {h : Heap} {vm : Vm} {a : Addr} (V : own_VMa Z vm a) (S : own_Str2 Z h a []) : own_VM Z h vm := by
  obtain ⟨Ts, I, hE, h0, h1⟩ := V
  exact ⟨Ts, I, Or.inr ⟨a, hE, S⟩, h0, h1⟩
theorem own_VM.map {Z : State} {h h' : Heap} {vm : Vm} (V : own_VM Z h vm) (f : ∀ a, own_Str2 Z h a [] → own_Str2 Z h' a []) : own_VM Z h' vm := by
  obtain ⟨Ts, I, hE, h0, h1⟩ := V
  exact ⟨Ts, I, hE.imp id (fun ⟨a, q, r⟩ => ⟨a, q, f a r⟩), h0, h1⟩
theorem own_VM.start {Z : State} {h : Heap} : own_VM Z h Z.vm := ⟨[], IB.start, Or.inl (by simp), Or.inl (by simp), Or.inl (by simp)⟩
theorem own_wS : ∀ d ∈ Bundle.stringAtoms, d ∈ tables_1 := by decide +kernel
theorem own_mono {s : State} {vm : Vm} {k k' : Nat} (h : s.Since vm k) (q : k ≤ k') : s.Since vm k' := ⟨h.1, fun j p a b => ⟨(h.2 j p a b).1, Nat.lt_of_lt_of_le (h.2 j p a b).2 q⟩⟩
set_option maxHeartbeats 4000000 in
theorem own_ldc_e {p : Program} {l : Launch} {e : Env} {R : Room} {s : State} {vm0 : Vm} {m : MethodId} {args : Array Value} {below : List Frame} {meth : Method} {c : Code} {T : State} {locs : List Loc} {cells slots : Nat} {Z : State} {a0 : Array Value} {h : Heap}
    (hw : ∀ d ∈ tables_1, d.before a0 Z = true) (X : Stand p l e R (s.setVm vm0) m args below meth c T locs cells slots) (hx : p.tables.exec = Jvm.exec) (hZ : Z.Warmed39 vm0) (hown : vm0.findClass "java/lang/String" = some m.cls) (eT : T.heap = h) {k0 : Nat} (hS : s.Since vm0 k0) (hk : k0 ≤ h.size) (N : Fr s.heap.size locs) (Od : Ext Z.heap s.heap)
    (V : own_VM Z h vm0) (CH : Jvm.Lit.constsHeld consts_1 Z) (hcw : Jvm.Lit.compactW.before a0 Z = true) {g : JFrame} (hg : g.method = m) (hd : decode c.code g.pc = .ok (.ldc 7, 2)) (hc : cells + 2 ≤ R.cells) (hl : slots + 4 ≤ R.slots) :
    ∃ (a : Addr) (T' : State) (h' : Heap) (k1 : Nat) (vm1 : Vm) (b : Addr) (k : ClassId), Stand p l e R (s.setVm vm1) m args below meth c T' locs (cells + 2) (slots + 4) ∧ T'.heap = h' ∧ Ext h h' ∧ s.Since vm1 k1 ∧ k1 ≤ h'.size ∧ Z.Warmed39 (s.setVm vm1).vm ∧ (s.setVm vm1).vm.findClass "java/lang/String" = some m.cls ∧ Exa Z h' a "java/lang/String" ∧ Fld Z h' a "java/lang/String" "coder" "B" (.int 0) ∧ Fld Z h' a "java/lang/String" "value" "[B" (.ref b) ∧ Arv Z h' b k .byte 0 [] (.int 0) ∧ own_VMa Z vm1 a ∧
      ∀ target, Steps p.tables e below (T'.setTop { g with pc := g.pc + 2, stack := .ref a :: g.stack }) target → Steps p.tables e below (T.setTop g) target := by
  have V0 := V
  obtain ⟨Ts, I, hE, h0, h1⟩ := V
  rcases hE with hn | ⟨a, L, S⟩
  · obtain ⟨a, T', h', k1, b, k, r1, r2, r3, r4, r5, r6, r7, r8, r9, r10, r11, r12, r13, r14, r15, st⟩ := ldcSVL (s := s.setVm vm0) (vm0 := vm0) X hx hZ hown (hw _ (List.mem_of_getElem? (i := 21) rfl)) (fun d hd => hw d (own_wS d hd)) eT ((State.WarmedH.refl (s.setVm vm0)).since 0) (Nat.zero_le _) N (fun b cl q => Od.2 b cl q) I hn (CH _ (List.mem_of_getElem? (i := 2) rfl)) hcw (vs := []) (z := 0) ⟨by decide, by decide⟩ (by decide) (by decide) hg hd (n := 0) (by decide) (by decide) hc hl
    have hk2 : k0 ≤ h'.size := Nat.le_trans hk r3.1
    exact ⟨a, T', h', h'.size, T'.vm, b, k, r1, r2, r3, hS.trans (own_mono r4 r5) hk2, Nat.le_refl _, r6, r7, r8, r9, r10, r11, ⟨_, r14, r15, own_Lc (own_Lw h0 r4.1) (by decide), own_Lc (own_Lw h1 r4.1) (by decide)⟩, st⟩
  · obtain ⟨f1, f2, -, -, t, kb, f7, f8⟩ := S
    exact ⟨a, T, h, k0, vm0, t, kb, X.more (Nat.le_add_right _ _) (Nat.le_add_right _ _), eT, ⟨Nat.le_refl _, fun _ _ q => q⟩, hS, hk, hZ, hown, f1, f2, f7, f8, ⟨Ts, I, L, h0, h1⟩, ldcAgain X hx hZ hown (hw _ (List.mem_of_getElem? (i := 21) rfl)) L hg hd⟩
set_option maxHeartbeats 4000000 in
theorem own_ldc_t {p : Program} {l : Launch} {e : Env} {R : Room} {s : State} {vm0 : Vm} {m : MethodId} {args : Array Value} {below : List Frame} {meth : Method} {c : Code} {T : State} {locs : List Loc} {cells slots : Nat} {Z : State} {a0 : Array Value} {h : Heap}
    (hw : ∀ d ∈ tables_1, d.before a0 Z = true) (X : Stand p l e R (s.setVm vm0) m args below meth c T locs cells slots) (hx : p.tables.exec = Jvm.exec) (hZ : Z.Warmed39 vm0) (hown : vm0.findClass "dev/resolvent/model/StateKey" = some m.cls) (eT : T.heap = h) {k0 : Nat} (hS : s.Since vm0 k0) (hk : k0 ≤ h.size) (N : Fr s.heap.size locs) (Od : Ext Z.heap s.heap)
    (V : own_VM Z h vm0) (CH : Jvm.Lit.constsHeld consts_1 Z) (hcw : Jvm.Lit.compactW.before a0 Z = true) {g : JFrame} (hg : g.method = m) (hd : decode c.code g.pc = .ok (.ldc 7, 2)) (hc : cells + 2 ≤ R.cells) (hl : slots + 20 ≤ R.slots) :
    ∃ (a : Addr) (T' : State) (h' : Heap) (k1 : Nat) (vm1 : Vm), Stand p l e R (s.setVm vm1) m args below meth c T' locs (cells + 2) (slots + 20) ∧ T'.heap = h' ∧ Ext h h' ∧ s.Since vm1 k1 ∧ k1 ≤ h'.size ∧ Z.Warmed39 (s.setVm vm1).vm ∧ (s.setVm vm1).vm.findClass "dev/resolvent/model/StateKey" = some m.cls ∧ own_VM Z h' vm1 ∧
      ∀ target, Steps p.tables e below (T'.setTop { g with pc := g.pc + 2, stack := .ref a :: g.stack }) target → Steps p.tables e below (T.setTop g) target := by
  have V0 := V
  obtain ⟨Ts, I, hE, h0, h1⟩ := V
  rcases h0 with hn | ⟨a, L⟩
  · obtain ⟨a, T', h', k1, b, k, r1, r2, r3, r4, r5, r6, r7, r8, r9, r10, r11, r12, r13, r14, r15, st⟩ := ldcSVL (s := s.setVm vm0) (vm0 := vm0) X hx hZ hown (hw _ (List.mem_of_getElem? (i := 49) rfl)) (fun d hd => hw d (own_wS d hd)) eT ((State.WarmedH.refl (s.setVm vm0)).since 0) (Nat.zero_le _) N (fun b cl q => Od.2 b cl q) I hn (CH _ (List.mem_of_getElem? (i := 0) rfl)) hcw (vs := [Value.int (116 : Int32), Value.int (121 : Int32), Value.int (112 : Int32), Value.int (101 : Int32)]) (z := 4) ⟨by decide, by decide⟩ (by decide) (by decide) hg hd (n := 16) (by decide) (by decide) hc hl
    have hk2 : k0 ≤ h'.size := Nat.le_trans hk r3.1
    refine ⟨a, T', h', h'.size, T'.vm, r1, r2, r3, hS.trans (own_mono r4 r5) hk2, Nat.le_refl _, r6, r7, ⟨_, r14, ?_, Or.inr ⟨a, r15⟩, own_Lc (own_Lw h1 r4.1) (by decide)⟩, st⟩
    rcases hE with q | ⟨a', L', S'⟩
    · exact Or.inl (fun r => (List.mem_cons.mp r).elim (by decide) q)
    · exact Or.inr ⟨a', own_Litw L' r4.1, S'.ext r3⟩
  · exact ⟨a, T, h, k0, vm0, X.more (Nat.le_add_right _ _) (Nat.le_add_right _ _), eT, ⟨Nat.le_refl _, fun _ _ q => q⟩, hS, hk, hZ, hown, V0, ldcAgain X hx hZ hown (hw _ (List.mem_of_getElem? (i := 49) rfl)) L hg hd⟩
set_option maxHeartbeats 4000000 in
theorem own_ldc_k {p : Program} {l : Launch} {e : Env} {R : Room} {s : State} {vm0 : Vm} {m : MethodId} {args : Array Value} {below : List Frame} {meth : Method} {c : Code} {T : State} {locs : List Loc} {cells slots : Nat} {Z : State} {a0 : Array Value} {h : Heap}
    (hw : ∀ d ∈ tables_1, d.before a0 Z = true) (X : Stand p l e R (s.setVm vm0) m args below meth c T locs cells slots) (hx : p.tables.exec = Jvm.exec) (hZ : Z.Warmed39 vm0) (hown : vm0.findClass "dev/resolvent/model/StateKey" = some m.cls) (eT : T.heap = h) {k0 : Nat} (hS : s.Since vm0 k0) (hk : k0 ≤ h.size) (N : Fr s.heap.size locs) (Od : Ext Z.heap s.heap)
    (V : own_VM Z h vm0) (CH : Jvm.Lit.constsHeld consts_1 Z) (hcw : Jvm.Lit.compactW.before a0 Z = true) {g : JFrame} (hg : g.method = m) (hd : decode c.code g.pc = .ok (.ldc 15, 2)) (hc : cells + 2 ≤ R.cells) (hl : slots + 36 ≤ R.slots) :
    ∃ (a : Addr) (T' : State) (h' : Heap) (k1 : Nat) (vm1 : Vm), Stand p l e R (s.setVm vm1) m args below meth c T' locs (cells + 2) (slots + 36) ∧ T'.heap = h' ∧ Ext h h' ∧ s.Since vm1 k1 ∧ k1 ≤ h'.size ∧ Z.Warmed39 (s.setVm vm1).vm ∧ (s.setVm vm1).vm.findClass "dev/resolvent/model/StateKey" = some m.cls ∧ own_VM Z h' vm1 ∧
      ∀ target, Steps p.tables e below (T'.setTop { g with pc := g.pc + 2, stack := .ref a :: g.stack }) target → Steps p.tables e below (T.setTop g) target := by
  have V0 := V
  obtain ⟨Ts, I, hE, h0, h1⟩ := V
  rcases h1 with hn | ⟨a, L⟩
  · obtain ⟨a, T', h', k1, b, k, r1, r2, r3, r4, r5, r6, r7, r8, r9, r10, r11, r12, r13, r14, r15, st⟩ := ldcSVL (s := s.setVm vm0) (vm0 := vm0) X hx hZ hown (hw _ (List.mem_of_getElem? (i := 54) rfl)) (fun d hd => hw d (own_wS d hd)) eT ((State.WarmedH.refl (s.setVm vm0)).since 0) (Nat.zero_le _) N (fun b cl q => Od.2 b cl q) I hn (CH _ (List.mem_of_getElem? (i := 1) rfl)) hcw (vs := [Value.int (115 : Int32), Value.int (116 : Int32), Value.int (97 : Int32), Value.int (116 : Int32), Value.int (101 : Int32), Value.int (75 : Int32), Value.int (101 : Int32), Value.int (121 : Int32)]) (z := 8) ⟨by decide, by decide⟩ (by decide) (by decide) hg hd (n := 32) (by decide) (by decide) hc hl
    have hk2 : k0 ≤ h'.size := Nat.le_trans hk r3.1
    refine ⟨a, T', h', h'.size, T'.vm, r1, r2, r3, hS.trans (own_mono r4 r5) hk2, Nat.le_refl _, r6, r7, ⟨_, r14, ?_, own_Lc (own_Lw h0 r4.1) (by decide), Or.inr ⟨a, r15⟩⟩, st⟩
    rcases hE with q | ⟨a', L', S'⟩
    · exact Or.inl (fun r => (List.mem_cons.mp r).elim (by decide) q)
    · exact Or.inr ⟨a', own_Litw L' r4.1, S'.ext r3⟩
  · exact ⟨a, T, h, k0, vm0, X.more (Nat.le_add_right _ _) (Nat.le_add_right _ _), eT, ⟨Nat.le_refl _, fun _ _ q => q⟩, hS, hk, hZ, hown, V0, ldcAgain X hx hZ hown (hw _ (List.mem_of_getElem? (i := 54) rfl)) L hg hd⟩
theorem own_arv1 {Z : State} {h : Heap} {a : Addr} {k : ClassId} {x0 : Int32} (A : Arr Z h a ((newA k .char 1).setSlot 0 (.int x0)) .char) (f0 : fits .char (.int x0) = true) : Arv Z h a k .char 1 [.int x0] (.int (0 : Int32)) := by
  refine ⟨_, A, rfl, rfl, by decide, fun i hi => ?_, fun i hi => ?_⟩
  · have hi' : i < 1 := hi
    match i, hi' with
    | 0, _ => rfl
  · have hi' : i < 1 := hi
    match i, hi' with
    | 0, _ => exact f0
theorem own_arv2 {Z : State} {h : Heap} {a : Addr} {k : ClassId} {x0 x1 : Int32} (A : Arr Z h a (((newA k .char 2).setSlot 0 (.int x0)).setSlot 1 (.int x1)) .char) (f0 : fits .char (.int x0) = true) (f1 : fits .char (.int x1) = true) : Arv Z h a k .char 2 [.int x0, .int x1] (.int (0 : Int32)) := by
  refine ⟨_, A, rfl, rfl, by decide, fun i hi => ?_, fun i hi => ?_⟩
  · have hi' : i < 2 := hi
    match i, hi' with
    | 0, _ => rfl
    | 1, _ => rfl
  · have hi' : i < 2 := hi
    match i, hi' with
    | 0, _ => exact f0
    | 1, _ => exact f1
theorem own_arv3 {Z : State} {h : Heap} {a : Addr} {k : ClassId} {x0 x1 x2 : Int32} (A : Arr Z h a ((((newA k .char 3).setSlot 0 (.int x0)).setSlot 1 (.int x1)).setSlot 2 (.int x2)) .char) (f0 : fits .char (.int x0) = true) (f1 : fits .char (.int x1) = true) (f2 : fits .char (.int x2) = true) : Arv Z h a k .char 3 [.int x0, .int x1, .int x2] (.int (0 : Int32)) := by
  refine ⟨_, A, rfl, rfl, by decide, fun i hi => ?_, fun i hi => ?_⟩
  · have hi' : i < 3 := hi
    match i, hi' with
    | 0, _ => rfl
    | 1, _ => rfl
    | 2, _ => rfl
  · have hi' : i < 3 := hi
    match i, hi' with
    | 0, _ => exact f0
    | 1, _ => exact f1
    | 2, _ => exact f2
theorem own_nas {Z : State} {a0 : Array Value} {C S K : String} {n : Nat} (w : (Jvm.Cond.superclass C S).before a0 Z = true) (wo : (Jvm.Cond.noSuperclass S).before a0 Z = true) (wk : (Jvm.Cond.instantiable K n).before a0 Z = true) (h1 : C ≠ K) (h2 : S ≠ K) :
    ∃ c t, Z.vm.findClass C = some c ∧ Z.vm.findClass K = some t ∧ Z.vm.assignable c t = false := by
  obtain ⟨t, kt, g0, g2, g5, g7, -, -⟩ := Cond.instantiable_spec wk
  obtain ⟨o, ko, o1, o2, o3, -, -⟩ := Cond.noSuperclass_spec wo
  obtain ⟨c, h0⟩ := found_sup w
  obtain ⟨p, k, kp, q1, q2, q3, q4, q5, -, q7⟩ := Cond.superclass_spec h0 w
  cases o1.symm.trans q1
  have ne1 := ids_ne h0 g0 h1
  have ne2 := ids_ne o1 g0 h2
  have hi : kt.isInterface = false := (Bool.or_eq_false_iff.mp g7).1
  have n2 : ∀ fuel, Z.vm.isSubclassAux fuel o t = false := fun fuel => by
    cases fuel with
    | zero => rfl
    | succ f => simp [Vm.isSubclassAux, ne2, o2, o3]
  have n3 : ∀ fuel, Z.vm.isSubclassAux fuel c t = false := fun fuel => by
    cases fuel with
    | zero => rfl
    | succ f => simp [Vm.isSubclassAux, ne1, q2, q4, n2]
  refine ⟨c, t, h0, g0, ?_⟩
  show Z.vm.assignableAux (255 + 1) c t = false
  simp [Vm.assignableAux, ne1, q2, g2, q5, g5, hi, Vm.isSubclass, n3]
def own_cs (p : Int32) : List Int32 := if (p &&& (3 : Int32)) = (0 : Int32) then [] else if (p &&& (3 : Int32)) = (1 : Int32) then [own_ch ((p.toUInt32 >>> ((2 : Int32) &&& 31).toUInt32).toInt32)] else if (p &&& (3 : Int32)) = (2 : Int32) then [own_ch ((p.toUInt32 >>> ((2 : Int32) &&& 31).toUInt32).toInt32), own_ch ((p.toUInt32 >>> ((10 : Int32) &&& 31).toUInt32).toInt32)] else [own_ch ((p.toUInt32 >>> ((2 : Int32) &&& 31).toUInt32).toInt32), own_ch ((p.toUInt32 >>> ((10 : Int32) &&& 31).toUInt32).toInt32), own_ch ((p.toUInt32 >>> ((18 : Int32) &&& 31).toUInt32).toInt32)]
def own_same (p1 p2 : Int32) : Int32 := if (p1 &&& (3 : Int32)) = (p2 &&& (3 : Int32)) then (if (p1 &&& (3 : Int32)) = (0 : Int32) then (if (p1 &&& (0 : Int32)) = (p2 &&& (0 : Int32)) then 1 else 0) else if (p1 &&& (3 : Int32)) = (1 : Int32) then (if (p1 &&& (1020 : Int32)) = (p2 &&& (1020 : Int32)) then 1 else 0) else if (p1 &&& (3 : Int32)) = (2 : Int32) then (if (p1 &&& (262140 : Int32)) = (p2 &&& (262140 : Int32)) then 1 else 0) else (if (p1 &&& (67108860 : Int32)) = (p2 &&& (67108860 : Int32)) then 1 else 0)) else 0
def own_eq2 (cs ds es gs : List Int32) : Int32 := if cs = ds then (if es = gs then 1 else 0) else 0
theorem own_eq2_comm (cs ds es gs : List Int32) : own_eq2 ds cs gs es = own_eq2 cs ds es gs := by
  unfold own_eq2; simp only [eq_comm (a := ds) (b := cs), eq_comm (a := gs) (b := es)]
theorem own_low (x : Int32) : (x &&& 3) = 0 ∨ (x &&& 3) = 1 ∨ (x &&& 3) = 2 ∨ (x &&& 3) = 3 := by
  have h : (x &&& 3).toBitVec.toNat < 4 := by
    simp only [Int32.toBitVec_and, BitVec.toNat_and]
    exact Nat.lt_succ_of_le Nat.and_le_right
  have e : ∀ k : Fin 4, (x &&& 3).toBitVec.toNat = k.val → (x &&& 3) = Int32.ofNat k.val := fun k hk => by
    apply Int32.toBitVec_inj.mp
    apply BitVec.eq_of_toNat_eq
    rw [hk]; clear hk; revert k; decide
  have h4 : (x &&& 3).toBitVec.toNat = 0 ∨ (x &&& 3).toBitVec.toNat = 1 ∨ (x &&& 3).toBitVec.toNat = 2 ∨ (x &&& 3).toBitVec.toNat = 3 := by omega
  rcases h4 with q | q | q | q
  · exact Or.inl (e 0 q)
  · exact Or.inr (Or.inl (e 1 q))
  · exact Or.inr (Or.inr (Or.inl (e 2 q)))
  · exact Or.inr (Or.inr (Or.inr (e 3 q)))
theorem own_mask (n k : Nat) : n &&& ((2 ^ k - 1) <<< 2) = ((n >>> 2) % 2 ^ k) <<< 2 := by
  apply Nat.eq_of_testBit_eq
  intro j
  rw [Nat.testBit_and, Nat.testBit_shiftLeft, Nat.testBit_shiftLeft, Nat.testBit_two_pow_sub_one, Nat.testBit_mod_two_pow, Nat.testBit_shiftRight]
  by_cases h : 2 ≤ j
  · rw [show 2 + (j - 2) = j from by omega]; simp [h, Bool.and_comm]
  · simp [h]
theorem own_nat_inj {a b : Int32} : a = b ↔ a.toBitVec.toNat = b.toBitVec.toNat :=
  ⟨fun h => by rw [h], fun h => Int32.toBitVec_inj.mp (BitVec.eq_of_toNat_eq h)⟩
theorem own_andM (x y M : Int32) (k : Nat) (hM : M.toBitVec.toNat = (2 ^ k - 1) <<< 2) : (x &&& M) = (y &&& M) ↔ (x.toBitVec.toNat / 4) % 2 ^ k = (y.toBitVec.toNat / 4) % 2 ^ k := by
  rw [own_nat_inj]
  simp only [Int32.toBitVec_and, BitVec.toNat_and, hM, own_mask]
  simp only [Nat.shiftLeft_eq, Nat.shiftRight_eq_div_pow]
  constructor
  · intro h; have := Nat.eq_of_mul_eq_mul_right (by decide : 0 < 2 ^ 2) h; simpa using this
  · intro h; rw [show (2 ^ 2 : Nat) = 4 from rfl, h]
theorem own_chN (x : Int32) (c : Int32) (k : Nat) (hc : (c &&& 31).toUInt32.toNat % 32 = k) : (own_ch ((x.toUInt32 >>> (c &&& 31).toUInt32).toInt32)).toBitVec.toNat = (x.toBitVec.toNat / 2 ^ k) % 256 := by
  rw [own_ch_eq]
  simp only [Int32.toBitVec_and, BitVec.toNat_and]
  rw [show (255 : Int32).toBitVec.toNat = 2 ^ 8 - 1 from rfl, Nat.and_two_pow_sub_one_eq_mod]
  rw [show ((x.toUInt32 >>> (c &&& 31).toUInt32).toInt32).toBitVec.toNat = (x.toUInt32 >>> (c &&& 31).toUInt32).toNat from rfl, UInt32.toNat_shiftRight, hc, Nat.shiftRight_eq_div_pow]
  rfl
theorem own_chE (x y : Int32) (c : Int32) (k : Nat) (hc : (c &&& 31).toUInt32.toNat % 32 = k) : own_ch ((x.toUInt32 >>> (c &&& 31).toUInt32).toInt32) = own_ch ((y.toUInt32 >>> (c &&& 31).toUInt32).toInt32) ↔ (x.toBitVec.toNat / 2 ^ k) % 256 = (y.toBitVec.toNat / 2 ^ k) % 256 := by
  rw [own_nat_inj, own_chN x c k hc, own_chN y c k hc]
theorem own_b2 (n m : Nat) : (n / 4) % 2 ^ 16 = (m / 4) % 2 ^ 16 ↔ (n / 2 ^ 2) % 256 = (m / 2 ^ 2) % 256 ∧ (n / 2 ^ 10) % 256 = (m / 2 ^ 10) % 256 := by
  simp only [Nat.reducePow]; constructor <;> intro h <;> omega
theorem own_b3 (n m : Nat) : (n / 4) % 2 ^ 24 = (m / 4) % 2 ^ 24 ↔ (n / 2 ^ 2) % 256 = (m / 2 ^ 2) % 256 ∧ (n / 2 ^ 10) % 256 = (m / 2 ^ 10) % 256 ∧ (n / 2 ^ 18) % 256 = (m / 2 ^ 18) % 256 := by
  simp only [Nat.reducePow]; constructor <;> intro h <;> omega
theorem own_if10 {P : Prop} [Decidable P] : ¬ (if P then (1 : Int32) else 0) = 0 ↔ P := by
  by_cases h : P <;> simp [h]
theorem own_plain (x y : Int32) : own_cs x = own_cs y ↔ ¬ own_same x y = 0 := by
  have z1 : ¬ (1 : Int32) = 0 := by decide
  have z2 : ¬ (2 : Int32) = 0 := by decide
  have z3 : ¬ (3 : Int32) = 0 := by decide
  have z4 : ¬ (2 : Int32) = 1 := by decide
  have z5 : ¬ (3 : Int32) = 1 := by decide
  have z6 : ¬ (3 : Int32) = 2 := by decide
  have z7 : ¬ (0 : Int32) = 1 := by decide
  have z8 : ¬ (0 : Int32) = 2 := by decide
  have z9 : ¬ (0 : Int32) = 3 := by decide
  have z10 : ¬ (1 : Int32) = 2 := by decide
  have z11 : ¬ (1 : Int32) = 3 := by decide
  have z12 : ¬ (2 : Int32) = 3 := by decide
  have m0 : (x &&& (0 : Int32)) = (y &&& (0 : Int32)) := by rw [Int32.and_zero, Int32.and_zero]
  rcases own_low x with a | a | a | a <;> rcases own_low y with b | b | b | b <;> simp only [own_cs, own_same, a, b, z1, z2, z3, z4, z5, z6, z7, z8, z9, z10, z11, z12, m0, if_true, if_false, own_if10, List.cons.injEq, and_true, reduceCtorEq, not_true_eq_false, and_false, not_false_eq_true]
  · rw [own_chE x y 2 2 rfl, own_andM x y 1020 8 rfl]
  · rw [own_chE x y 2 2 rfl, own_chE x y 10 10 rfl, own_andM x y 262140 16 rfl, own_b2]
  · rw [own_chE x y 2 2 rfl, own_chE x y 10 10 rfl, own_chE x y 18 18 rfl, own_andM x y 67108860 24 rfl, own_b3]
theorem own_eqA {x y : Int32} {es gs : List Int32} (h : own_same x y = 0) : own_eq2 (own_cs x) (own_cs y) es gs = 0 := by
  unfold own_eq2; rw [if_neg (fun q => (own_plain x y).mp q h)]
theorem own_eqB {x y : Int32} {cs ds : List Int32} (h : own_same x y = 0) : own_eq2 cs ds (own_cs x) (own_cs y) = 0 := by
  unfold own_eq2; rw [if_neg (fun q => (own_plain x y).mp q h)]; split <;> rfl
theorem own_eqC {x y z w : Int32} (h1 : ¬ own_same x y = 0) (h2 : ¬ own_same z w = 0) : own_eq2 (own_cs x) (own_cs y) (own_cs z) (own_cs w) = 1 := by
  unfold own_eq2; rw [if_pos ((own_plain x y).mpr h1), if_pos ((own_plain z w).mpr h2)]
theorem own_words : ∀ d ∈ StrChars.Road.words, d ∈ tables_1 := by decide +kernel
theorem own_wordsEq : ∀ d ∈ StrChars.Road.wordsEq, d ∈ tables_1 := by decide +kernel
theorem d1_0 : decode method_2_code 0 = .ok (.iload_n 0, 1) := by decide +kernel
theorem d1_1 : decode method_2_code 1 = .ok (.iconst 3, 1) := by decide +kernel
theorem d1_2 : decode method_2_code 2 = .ok (.iand, 1) := by decide +kernel
theorem d1_3 : decode method_2_code 3 = .ok (.istore_n 1, 1) := by decide +kernel
theorem d1_4 : decode method_2_code 4 = .ok (.iload_n 0, 1) := by decide +kernel
theorem d1_5 : decode method_2_code 5 = .ok (.iconst 2, 1) := by decide +kernel
theorem d1_6 : decode method_2_code 6 = .ok (.iushr, 1) := by decide +kernel
theorem d1_7 : decode method_2_code 7 = .ok (.sipush 255, 3) := by decide +kernel
theorem d1_10 : decode method_2_code 10 = .ok (.iand, 1) := by decide +kernel
theorem d1_11 : decode method_2_code 11 = .ok (.i2c, 1) := by decide +kernel
theorem d1_12 : decode method_2_code 12 = .ok (.istore_n 2, 1) := by decide +kernel
theorem d1_13 : decode method_2_code 13 = .ok (.iload_n 0, 1) := by decide +kernel
theorem d1_14 : decode method_2_code 14 = .ok (.bipush 10, 2) := by decide +kernel
theorem d1_16 : decode method_2_code 16 = .ok (.iushr, 1) := by decide +kernel
theorem d1_17 : decode method_2_code 17 = .ok (.sipush 255, 3) := by decide +kernel
theorem d1_20 : decode method_2_code 20 = .ok (.iand, 1) := by decide +kernel
theorem d1_21 : decode method_2_code 21 = .ok (.i2c, 1) := by decide +kernel
theorem d1_22 : decode method_2_code 22 = .ok (.istore_n 3, 1) := by decide +kernel
theorem d1_23 : decode method_2_code 23 = .ok (.iload_n 0, 1) := by decide +kernel
theorem d1_24 : decode method_2_code 24 = .ok (.bipush 18, 2) := by decide +kernel
theorem d1_26 : decode method_2_code 26 = .ok (.iushr, 1) := by decide +kernel
theorem d1_27 : decode method_2_code 27 = .ok (.sipush 255, 3) := by decide +kernel
theorem d1_30 : decode method_2_code 30 = .ok (.iand, 1) := by decide +kernel
theorem d1_31 : decode method_2_code 31 = .ok (.i2c, 1) := by decide +kernel
theorem d1_32 : decode method_2_code 32 = .ok (.istore 4, 2) := by decide +kernel
theorem d1_34 : decode method_2_code 34 = .ok (.iload_n 1, 1) := by decide +kernel
theorem d1_35 : decode method_2_code 35 = .ok (.ifCond .ne 14, 3) := by decide +kernel
theorem d1_38 : decode method_2_code 38 = .ok (.new 7, 3) := by decide +kernel
theorem d1_41 : decode method_2_code 41 = .ok (.dup, 1) := by decide +kernel
theorem d1_42 : decode method_2_code 42 = .ok (.iconst 0, 1) := by decide +kernel
theorem d1_43 : decode method_2_code 43 = .ok (.newarray .char, 2) := by decide +kernel
theorem d1_45 : decode method_2_code 45 = .ok (.invokespecial 9, 3) := by decide +kernel
theorem d1_48 : decode method_2_code 48 = .ok (.areturn, 1) := by decide +kernel
theorem d1_49 : decode method_2_code 49 = .ok (.iload_n 1, 1) := by decide +kernel
theorem d1_50 : decode method_2_code 50 = .ok (.iconst 1, 1) := by decide +kernel
theorem d1_51 : decode method_2_code 51 = .ok (.if_icmp .ne 18, 3) := by decide +kernel
theorem d1_54 : decode method_2_code 54 = .ok (.new 7, 3) := by decide +kernel
theorem d1_57 : decode method_2_code 57 = .ok (.dup, 1) := by decide +kernel
theorem d1_58 : decode method_2_code 58 = .ok (.iconst 1, 1) := by decide +kernel
theorem d1_59 : decode method_2_code 59 = .ok (.newarray .char, 2) := by decide +kernel
theorem d1_61 : decode method_2_code 61 = .ok (.dup, 1) := by decide +kernel
theorem d1_62 : decode method_2_code 62 = .ok (.iconst 0, 1) := by decide +kernel
theorem d1_63 : decode method_2_code 63 = .ok (.iload_n 2, 1) := by decide +kernel
theorem d1_64 : decode method_2_code 64 = .ok (.castore, 1) := by decide +kernel
theorem d1_65 : decode method_2_code 65 = .ok (.invokespecial 9, 3) := by decide +kernel
theorem d1_68 : decode method_2_code 68 = .ok (.areturn, 1) := by decide +kernel
theorem d1_69 : decode method_2_code 69 = .ok (.iload_n 1, 1) := by decide +kernel
theorem d1_70 : decode method_2_code 70 = .ok (.iconst 2, 1) := by decide +kernel
theorem d1_71 : decode method_2_code 71 = .ok (.if_icmp .ne 22, 3) := by decide +kernel
theorem d1_74 : decode method_2_code 74 = .ok (.new 7, 3) := by decide +kernel
theorem d1_77 : decode method_2_code 77 = .ok (.dup, 1) := by decide +kernel
theorem d1_78 : decode method_2_code 78 = .ok (.iconst 2, 1) := by decide +kernel
theorem d1_79 : decode method_2_code 79 = .ok (.newarray .char, 2) := by decide +kernel
theorem d1_81 : decode method_2_code 81 = .ok (.dup, 1) := by decide +kernel
theorem d1_82 : decode method_2_code 82 = .ok (.iconst 0, 1) := by decide +kernel
theorem d1_83 : decode method_2_code 83 = .ok (.iload_n 2, 1) := by decide +kernel
theorem d1_84 : decode method_2_code 84 = .ok (.castore, 1) := by decide +kernel
theorem d1_85 : decode method_2_code 85 = .ok (.dup, 1) := by decide +kernel
theorem d1_86 : decode method_2_code 86 = .ok (.iconst 1, 1) := by decide +kernel
theorem d1_87 : decode method_2_code 87 = .ok (.iload_n 3, 1) := by decide +kernel
theorem d1_88 : decode method_2_code 88 = .ok (.castore, 1) := by decide +kernel
theorem d1_89 : decode method_2_code 89 = .ok (.invokespecial 9, 3) := by decide +kernel
theorem d1_92 : decode method_2_code 92 = .ok (.areturn, 1) := by decide +kernel
theorem d1_93 : decode method_2_code 93 = .ok (.new 7, 3) := by decide +kernel
theorem d1_96 : decode method_2_code 96 = .ok (.dup, 1) := by decide +kernel
theorem d1_97 : decode method_2_code 97 = .ok (.iconst 3, 1) := by decide +kernel
theorem d1_98 : decode method_2_code 98 = .ok (.newarray .char, 2) := by decide +kernel
theorem d1_100 : decode method_2_code 100 = .ok (.dup, 1) := by decide +kernel
theorem d1_101 : decode method_2_code 101 = .ok (.iconst 0, 1) := by decide +kernel
theorem d1_102 : decode method_2_code 102 = .ok (.iload_n 2, 1) := by decide +kernel
theorem d1_103 : decode method_2_code 103 = .ok (.castore, 1) := by decide +kernel
theorem d1_104 : decode method_2_code 104 = .ok (.dup, 1) := by decide +kernel
theorem d1_105 : decode method_2_code 105 = .ok (.iconst 1, 1) := by decide +kernel
theorem d1_106 : decode method_2_code 106 = .ok (.iload_n 3, 1) := by decide +kernel
theorem d1_107 : decode method_2_code 107 = .ok (.castore, 1) := by decide +kernel
theorem d1_108 : decode method_2_code 108 = .ok (.dup, 1) := by decide +kernel
theorem d1_109 : decode method_2_code 109 = .ok (.iconst 2, 1) := by decide +kernel
theorem d1_110 : decode method_2_code 110 = .ok (.iload 4, 2) := by decide +kernel
theorem d1_112 : decode method_2_code 112 = .ok (.castore, 1) := by decide +kernel
theorem d1_113 : decode method_2_code 113 = .ok (.invokespecial 9, 3) := by decide +kernel
theorem d1_116 : decode method_2_code 116 = .ok (.areturn, 1) := by decide +kernel
theorem d2_0 : decode jdk_42_method_3_code 0 = .ok (.aload_n 0, 1) := by decide +kernel
theorem d2_1 : decode jdk_42_method_3_code 1 = .ok (.aload_n 1, 1) := by decide +kernel
theorem d2_2 : decode jdk_42_method_3_code 2 = .ok (.iconst 0, 1) := by decide +kernel
theorem d2_3 : decode jdk_42_method_3_code 3 = .ok (.aload_n 1, 1) := by decide +kernel
theorem d2_4 : decode jdk_42_method_3_code 4 = .ok (.arraylength, 1) := by decide +kernel
theorem d2_5 : decode jdk_42_method_3_code 5 = .ok (.aconst_null, 1) := by decide +kernel
theorem d2_6 : decode jdk_42_method_3_code 6 = .ok (.invokespecial 27, 3) := by decide +kernel
theorem d2_9 : decode jdk_42_method_3_code 9 = .ok (.return_, 1) := by decide +kernel
theorem d3_0 : decode jdk_42_method_149_code 0 = .ok (.aload_n 0, 1) := by decide +kernel
theorem d3_1 : decode jdk_42_method_149_code 1 = .ok (.invokespecial 1, 3) := by decide +kernel
theorem d3_4 : decode jdk_42_method_149_code 4 = .ok (.iload_n 3, 1) := by decide +kernel
theorem d3_5 : decode jdk_42_method_149_code 5 = .ok (.ifCond .ne 22, 3) := by decide +kernel
theorem d3_8 : decode jdk_42_method_149_code 8 = .ok (.aload_n 0, 1) := by decide +kernel
theorem d3_9 : decode jdk_42_method_149_code 9 = .ok (.ldc 7, 2) := by decide +kernel
theorem d3_11 : decode jdk_42_method_149_code 11 = .ok (.getfield 9, 3) := by decide +kernel
theorem d3_14 : decode jdk_42_method_149_code 14 = .ok (.putfield 9, 3) := by decide +kernel
theorem d3_17 : decode jdk_42_method_149_code 17 = .ok (.aload_n 0, 1) := by decide +kernel
theorem d3_18 : decode jdk_42_method_149_code 18 = .ok (.ldc 7, 2) := by decide +kernel
theorem d3_20 : decode jdk_42_method_149_code 20 = .ok (.getfield 15, 3) := by decide +kernel
theorem d3_23 : decode jdk_42_method_149_code 23 = .ok (.putfield 15, 3) := by decide +kernel
theorem d3_26 : decode jdk_42_method_149_code 26 = .ok (.return_, 1) := by decide +kernel
theorem d8_0 : decode prog_23_method_1_code 0 = .ok (.aload_n 0, 1) := by decide +kernel
theorem d8_1 : decode prog_23_method_1_code 1 = .ok (.invokespecial 1, 3) := by decide +kernel
theorem d8_4 : decode prog_23_method_1_code 4 = .ok (.aload_n 1, 1) := by decide +kernel
theorem d8_5 : decode prog_23_method_1_code 5 = .ok (.ldc 7, 2) := by decide +kernel
theorem d8_7 : decode prog_23_method_1_code 7 = .ok (.invokestatic 9, 3) := by decide +kernel
theorem d8_10 : decode prog_23_method_1_code 10 = .ok (.pop, 1) := by decide +kernel
theorem d8_11 : decode prog_23_method_1_code 11 = .ok (.aload_n 2, 1) := by decide +kernel
theorem d8_12 : decode prog_23_method_1_code 12 = .ok (.ldc 15, 2) := by decide +kernel
theorem d8_14 : decode prog_23_method_1_code 14 = .ok (.invokestatic 9, 3) := by decide +kernel
theorem d8_17 : decode prog_23_method_1_code 17 = .ok (.pop, 1) := by decide +kernel
theorem d8_18 : decode prog_23_method_1_code 18 = .ok (.aload_n 0, 1) := by decide +kernel
theorem d8_19 : decode prog_23_method_1_code 19 = .ok (.aload_n 1, 1) := by decide +kernel
theorem d8_20 : decode prog_23_method_1_code 20 = .ok (.putfield 17, 3) := by decide +kernel
theorem d8_23 : decode prog_23_method_1_code 23 = .ok (.aload_n 0, 1) := by decide +kernel
theorem d8_24 : decode prog_23_method_1_code 24 = .ok (.aload_n 2, 1) := by decide +kernel
theorem d8_25 : decode prog_23_method_1_code 25 = .ok (.putfield 22, 3) := by decide +kernel
theorem d8_28 : decode prog_23_method_1_code 28 = .ok (.return_, 1) := by decide +kernel
theorem d9_0 : decode jdk_30_method_1_code 0 = .ok (.aload_n 0, 1) := by decide +kernel
theorem d9_1 : decode jdk_30_method_1_code 1 = .ok (.invokespecial 1, 3) := by decide +kernel
theorem d9_4 : decode jdk_30_method_1_code 4 = .ok (.return_, 1) := by decide +kernel
theorem d10_0 : decode jdk_31_method_11_code 0 = .ok (.aload_n 0, 1) := by decide +kernel
theorem d10_1 : decode jdk_31_method_11_code 1 = .ok (.ifnonnull 12, 3) := by decide +kernel
theorem d10_13 : decode jdk_31_method_11_code 13 = .ok (.aload_n 0, 1) := by decide +kernel
theorem d10_14 : decode jdk_31_method_11_code 14 = .ok (.areturn, 1) := by decide +kernel
theorem d11_0 : decode method_3_code 0 = .ok (.iload_n 0, 1) := by decide +kernel
theorem d11_1 : decode method_3_code 1 = .ok (.iconst 3, 1) := by decide +kernel
theorem d11_2 : decode method_3_code 2 = .ok (.iand, 1) := by decide +kernel
theorem d11_3 : decode method_3_code 3 = .ok (.istore_n 2, 1) := by decide +kernel
theorem d11_4 : decode method_3_code 4 = .ok (.iload_n 2, 1) := by decide +kernel
theorem d11_5 : decode method_3_code 5 = .ok (.iload_n 1, 1) := by decide +kernel
theorem d11_6 : decode method_3_code 6 = .ok (.iconst 3, 1) := by decide +kernel
theorem d11_7 : decode method_3_code 7 = .ok (.iand, 1) := by decide +kernel
theorem d11_8 : decode method_3_code 8 = .ok (.if_icmp .eq 5, 3) := by decide +kernel
theorem d11_11 : decode method_3_code 11 = .ok (.iconst 0, 1) := by decide +kernel
theorem d11_12 : decode method_3_code 12 = .ok (.ireturn, 1) := by decide +kernel
theorem d11_13 : decode method_3_code 13 = .ok (.iload_n 2, 1) := by decide +kernel
theorem d11_14 : decode method_3_code 14 = .ok (.ifCond .ne 7, 3) := by decide +kernel
theorem d11_17 : decode method_3_code 17 = .ok (.iconst 0, 1) := by decide +kernel
theorem d11_18 : decode method_3_code 18 = .ok (.goto 26, 3) := by decide +kernel
theorem d11_21 : decode method_3_code 21 = .ok (.iload_n 2, 1) := by decide +kernel
theorem d11_22 : decode method_3_code 22 = .ok (.iconst 1, 1) := by decide +kernel
theorem d11_23 : decode method_3_code 23 = .ok (.if_icmp .ne 9, 3) := by decide +kernel
theorem d11_26 : decode method_3_code 26 = .ok (.sipush 1020, 3) := by decide +kernel
theorem d11_29 : decode method_3_code 29 = .ok (.goto 15, 3) := by decide +kernel
theorem d11_32 : decode method_3_code 32 = .ok (.iload_n 2, 1) := by decide +kernel
theorem d11_33 : decode method_3_code 33 = .ok (.iconst 2, 1) := by decide +kernel
theorem d11_34 : decode method_3_code 34 = .ok (.if_icmp .ne 8, 3) := by decide +kernel
theorem d11_37 : decode method_3_code 37 = .ok (.ldc 12, 2) := by decide +kernel
theorem d11_39 : decode method_3_code 39 = .ok (.goto 5, 3) := by decide +kernel
theorem d11_42 : decode method_3_code 42 = .ok (.ldc 13, 2) := by decide +kernel
theorem d11_44 : decode method_3_code 44 = .ok (.istore_n 3, 1) := by decide +kernel
theorem d11_45 : decode method_3_code 45 = .ok (.iload_n 0, 1) := by decide +kernel
theorem d11_46 : decode method_3_code 46 = .ok (.iload_n 3, 1) := by decide +kernel
theorem d11_47 : decode method_3_code 47 = .ok (.iand, 1) := by decide +kernel
theorem d11_48 : decode method_3_code 48 = .ok (.iload_n 1, 1) := by decide +kernel
theorem d11_49 : decode method_3_code 49 = .ok (.iload_n 3, 1) := by decide +kernel
theorem d11_50 : decode method_3_code 50 = .ok (.iand, 1) := by decide +kernel
theorem d11_51 : decode method_3_code 51 = .ok (.if_icmp .ne 7, 3) := by decide +kernel
theorem d11_54 : decode method_3_code 54 = .ok (.iconst 1, 1) := by decide +kernel
theorem d11_55 : decode method_3_code 55 = .ok (.goto 4, 3) := by decide +kernel
theorem d11_58 : decode method_3_code 58 = .ok (.iconst 0, 1) := by decide +kernel
theorem d11_59 : decode method_3_code 59 = .ok (.ireturn, 1) := by decide +kernel
theorem d12_0 : decode prog_23_method_2_code 0 = .ok (.aload_n 1, 1) := by decide +kernel
theorem d12_1 : decode prog_23_method_2_code 1 = .ok (.instanceof 18, 3) := by decide +kernel
theorem d12_4 : decode prog_23_method_2_code 4 = .ok (.ifCond .eq 40, 3) := by decide +kernel
theorem d12_7 : decode prog_23_method_2_code 7 = .ok (.aload_n 1, 1) := by decide +kernel
theorem d12_8 : decode prog_23_method_2_code 8 = .ok (.checkcast 18, 3) := by decide +kernel
theorem d12_11 : decode prog_23_method_2_code 11 = .ok (.astore_n 2, 1) := by decide +kernel
theorem d12_12 : decode prog_23_method_2_code 12 = .ok (.aload_n 0, 1) := by decide +kernel
theorem d12_13 : decode prog_23_method_2_code 13 = .ok (.getfield 17, 3) := by decide +kernel
theorem d12_16 : decode prog_23_method_2_code 16 = .ok (.aload_n 2, 1) := by decide +kernel
theorem d12_17 : decode prog_23_method_2_code 17 = .ok (.getfield 17, 3) := by decide +kernel
theorem d12_20 : decode prog_23_method_2_code 20 = .ok (.invokevirtual 24, 3) := by decide +kernel
theorem d12_23 : decode prog_23_method_2_code 23 = .ok (.ifCond .eq 21, 3) := by decide +kernel
theorem d12_26 : decode prog_23_method_2_code 26 = .ok (.aload_n 0, 1) := by decide +kernel
theorem d12_27 : decode prog_23_method_2_code 27 = .ok (.getfield 22, 3) := by decide +kernel
theorem d12_30 : decode prog_23_method_2_code 30 = .ok (.aload_n 2, 1) := by decide +kernel
theorem d12_31 : decode prog_23_method_2_code 31 = .ok (.getfield 22, 3) := by decide +kernel
theorem d12_34 : decode prog_23_method_2_code 34 = .ok (.invokevirtual 24, 3) := by decide +kernel
theorem d12_37 : decode prog_23_method_2_code 37 = .ok (.ifCond .eq 7, 3) := by decide +kernel
theorem d12_40 : decode prog_23_method_2_code 40 = .ok (.iconst 1, 1) := by decide +kernel
theorem d12_41 : decode prog_23_method_2_code 41 = .ok (.goto 4, 3) := by decide +kernel
theorem d12_44 : decode prog_23_method_2_code 44 = .ok (.iconst 0, 1) := by decide +kernel
theorem d12_45 : decode prog_23_method_2_code 45 = .ok (.ireturn, 1) := by decide +kernel
theorem pn_0 : plainName "dev/resolvent/model/StateKeyEqualsPinLaw" = true := by first | (simp [plainName, overriddenIn]; done) | decide +kernel
theorem pn_1 : plainName "dev/resolvent/model/StateKeyEqualsPinLaw" = true := by first | (simp [plainName, overriddenIn]; done) | decide +kernel
theorem pn_2 : plainName "java/lang/String" = true := by first | (simp [plainName, overriddenIn]; done) | decide +kernel
theorem pn_3 : plainName "java/lang/String" = true := by first | (simp [plainName, overriddenIn]; done) | decide +kernel
theorem pn_5 : plainName "java/lang/StringUTF16" = true := by first | (simp [plainName, overriddenIn]; done) | decide +kernel
theorem pn_6 : plainName "java/lang/StringUTF16" = true := by first | (simp [plainName, overriddenIn]; done) | decide +kernel
theorem pn_7 : plainName "java/lang/StringUTF16" = true := by first | (simp [plainName, overriddenIn]; done) | decide +kernel
theorem pn_8 : plainName "dev/resolvent/model/StateKey" = true := by first | (simp [plainName, overriddenIn]; done) | decide +kernel
theorem pn_9 : plainName "java/lang/Record" = true := by first | (simp [plainName, overriddenIn]; done) | decide +kernel
theorem pn_10 : plainName "java/util/Objects" = true := by first | (simp [plainName, overriddenIn]; done) | decide +kernel
theorem pn_11 : plainName "dev/resolvent/model/StateKeyEqualsPinLaw" = true := by first | (simp [plainName, overriddenIn]; done) | decide +kernel
theorem pn_12 : plainName "dev/resolvent/model/StateKey" = true := by first | (simp [plainName, overriddenIn]; done) | decide +kernel
theorem pn_13 : plainName "java/lang/String" = true := by first | (simp [plainName, overriddenIn]; done) | decide +kernel
theorem pn_14 : plainName "java/lang/StringLatin1" = true := by first | (simp [plainName, overriddenIn]; done) | decide +kernel
theorem pd_0 : parseMethodDescriptor "([CIILjava/lang/Void;)V" = some ⟨[(.array .char), .int, .int, (.object "java/lang/Void")], none⟩ := by decide +kernel
theorem pd_1 : parseMethodDescriptor "([C)V" = some ⟨[(.array .char)], none⟩ := by decide +kernel
theorem pd_2 : parseMethodDescriptor "()V" = some ⟨[], none⟩ := by decide +kernel
theorem pd_3 : parseMethodDescriptor "(Ljava/lang/Object;Ljava/lang/String;)Ljava/lang/Object;" = some ⟨[(.object "java/lang/Object"), (.object "java/lang/String")], some (.object "java/lang/Object")⟩ := by decide +kernel
theorem pd_4 : parseMethodDescriptor "(Ljava/lang/Object;)Z" = some ⟨[(.object "java/lang/Object")], some .boolean⟩ := by decide +kernel
theorem pd_5 : parseMethodDescriptor "(I)Ljava/lang/String;" = some ⟨[.int], some (.object "java/lang/String")⟩ := by decide +kernel
theorem pd_6 : parseMethodDescriptor "(Ljava/lang/String;Ljava/lang/String;)V" = some ⟨[(.object "java/lang/String"), (.object "java/lang/String")], none⟩ := by decide +kernel
theorem pd_7 : parseMethodDescriptor "(II)Z" = some ⟨[.int, .int], some .boolean⟩ := by decide +kernel
theorem ef_3 (m : MethodId) (x0 : Addr) (x1 : Addr) (x2 : Int32) (x3 : Int32) : entryFrame m #[(.ref x0), (.ref x1), (.int x2), (.int x3), .null] 6 = mkF m 0 #[.val (.ref x0), .val (.ref x1), .val (.int x2), .val (.int x3), .val .null, .unset] [] := by first | (simp [entryFrame, mkF, argsToLocals, Value.category]; done) | rfl
theorem ef_2 (m : MethodId) (x0 : Addr) (x1 : Addr) : entryFrame m #[(.ref x0), (.ref x1)] 2 = mkF m 0 #[.val (.ref x0), .val (.ref x1)] [] := by first | (simp [entryFrame, mkF, argsToLocals, Value.category]; done) | rfl
theorem ef_1 (m : MethodId) (x0 : Int32) : entryFrame m #[(.int x0)] 5 = mkF m 0 #[.val (.int x0), .unset, .unset, .unset, .unset] [] := by first | (simp [entryFrame, mkF, argsToLocals, Value.category]; done) | rfl
theorem ef_9 (m : MethodId) (x0 : Addr) : entryFrame m #[(.ref x0)] 1 = mkF m 0 #[.val (.ref x0)] [] := by first | (simp [entryFrame, mkF, argsToLocals, Value.category]; done) | rfl
theorem ef_10 (m : MethodId) (x0 : Addr) (x1 : Addr) : entryFrame m #[(.ref x0), (.ref x1)] 2 = mkF m 0 #[.val (.ref x0), .val (.ref x1)] [] := by first | (simp [entryFrame, mkF, argsToLocals, Value.category]; done) | rfl
theorem ef_8 (m : MethodId) (x0 : Addr) (x1 : Addr) (x2 : Addr) : entryFrame m #[(.ref x0), (.ref x1), (.ref x2)] 3 = mkF m 0 #[.val (.ref x0), .val (.ref x1), .val (.ref x2)] [] := by first | (simp [entryFrame, mkF, argsToLocals, Value.category]; done) | rfl
theorem ef_11 (m : MethodId) (x0 : Int32) (x1 : Int32) : entryFrame m #[(.int x0), (.int x1)] 4 = mkF m 0 #[.val (.int x0), .val (.int x1), .unset, .unset] [] := by first | (simp [entryFrame, mkF, argsToLocals, Value.category]; done) | rfl
theorem ef_null (m : MethodId) (x0 : Addr) : entryFrame m #[(.ref x0), .null] 3 = mkF m 0 #[.val (.ref x0), .val .null, .unset] [] := by first | (simp [entryFrame, mkF, argsToLocals, Value.category]; done) | rfl
theorem ef_12 (m : MethodId) (x0 : Addr) (x1 : Addr) : entryFrame m #[(.ref x0), (.ref x1)] 3 = mkF m 0 #[.val (.ref x0), .val (.ref x1), .unset] [] := by first | (simp [entryFrame, mkF, argsToLocals, Value.category]; done) | rfl
theorem ef_0 (m : MethodId) (x0 : Int32) (x1 : Int32) (x2 : Int32) (x3 : Int32) (x4 : Int32) : entryFrame m #[(.int x0), (.int x1), (.int x2), (.int x3), (.int x4)] maxLocals = mkF m 0 #[.val (.int x0), .val (.int x1), .val (.int x2), .val (.int x3), .val (.int x4), .unset, .unset, .unset, .unset, .unset, .unset] [] := by first | (simp [entryFrame, mkF, argsToLocals, Value.category, maxLocals]; done) | rfl
def Q_rm_sA (Z : State) (h0 : Heap) (n0 : Nat) (a1 : Addr) (v : Option Value) (h : Heap) (L : List Loc) (vm : Vm) : Prop := v = none ∧ Fr n0 L ∧ n0 ≤ h.size ∧ Keep h0 h [a1] ∧ own_Str2 Z h a1 [] ∧ own_VM Z h vm
set_option maxRecDepth 65536 in
set_option maxHeartbeats 40000000 in
theorem rm_sA (l : Launch) (Z : State) (a0 : Array Value) (hw : ∀ d ∈ tables_1, d.before a0 Z = true) (ws : List Jvm.Cond) (a1 a2 : Addr) (h0 : Heap) (n0 : Nat) (Z0 : n0 ≤ h0.size) (Od0 : Old Z n0 h0) (CH : Jvm.Lit.constsHeld consts_1 Z) (hcw : Jvm.Lit.compactW.before a0 Z = true) (E_a1 : Exa Z h0 a1 "java/lang/String") (F_v : Fld Z h0 a1 "java/lang/String" "value" "[B" .null) (F_c : Fld Z h0 a1 "java/lang/String" "coder" "B" (.int (0 : Int32))) (lo_a1 : n0 ≤ a1) :
    MetFree l (⟨"java/lang/String", "<init>", "([CIILjava/lang/Void;)V"⟩ : MethodName) (head1 (Jvm.Cond.code (⟨"java/lang/String", "<init>", "([CIILjava/lang/Void;)V"⟩ : MethodName) jdk_42_method_149_code 6 none :: ws) ({ frames := 1, cells := 2, slots := 4, locals := 12 } : Room)) (fun a U => a = #[(.ref a1), (.ref a2), (.int (0 : Int32)), (.int (0 : Int32)), .null] ∧ Z.Warmed39 U.vm ∧ U.heap = h0 ∧ own_VM Z h0 U.vm) (fun _ _ _ _ _ => True) (fun _ U o U' => ∃ rv rL, o = .returned rv ∧ Q_rm_sA Z h0 n0 a1 rv U'.heap rL U'.vm ∧ ReturnedEndW U o U' rL ({ frames := 1, cells := 2, slots := 4, locals := 12 } : Room).cells ({ frames := 1, cells := 2, slots := 4, locals := 12 } : Room).slots) := by
  refine own_metW (VP := own_VM Z h0) (y := (⟨"java/lang/String", "<init>", "([CIILjava/lang/Void;)V"⟩ : MethodName)) (Q := Q_rm_sA Z h0 n0 a1) (own := "java/lang/String") rfl (plainFor_of_name pn_3) ?_
  intro p e s m below meth c s₁ C e0 hh0 VM0 hS0 X0
  obtain ⟨hx, hby, hml, hown, hnm, hret, hlk, hZ⟩ := C
  have N0 := Fr.nil n0
  have hk0 : 0 ≤ h0.size := Nat.zero_le _
  rw [ef_3]
  have Kp0 : Keep h0 h0 [a1] := Keep.refl h0 _
  show own_GoesW _ _ _ _ _ _ _ s₁ (mkF m 0 #[.val (.ref a1), .val (.ref a2), .val (.int (0 : Int32)), .val (.int (0 : Int32)), .val .null, .unset] [])
  refine own_goW (fun _ k => XS.aloadN X0.here hx rfl (hb hby d3_0) rfl rfl k) ?_
  show own_GoesW _ _ _ _ _ _ _ s₁ (mkF m 1 #[.val (.ref a1), .val (.ref a2), .val (.int (0 : Int32)), .val (.int (0 : Int32)), .val .null, .unset] [(.ref a1)])
  obtain ⟨T1, X1, e1, st1⟩ := initO X0 hx hZ hown (hw _ (List.mem_of_getElem? (i := 18) rfl)) (hw _ (List.mem_of_getElem? (i := 19) rfl)) (hw _ (List.mem_of_getElem? (i := 20) rfl)) e0 (g := (mkF m 1 #[.val (.ref a1), .val (.ref a2), .val (.int (0 : Int32)), .val (.int (0 : Int32)), .val .null, .unset] [(.ref a1)])) rfl (by rw [hml]; rfl) rfl (hb hby d3_1) (by decide) (W := 0) (by show 2 * 0 + _ ≤ _; exact Nat.le_of_eq rfl) (by decide)
  refine own_goW st1 ?_
  show own_GoesW _ _ _ _ _ _ _ T1 (mkF m 4 #[.val (.ref a1), .val (.ref a2), .val (.int (0 : Int32)), .val (.int (0 : Int32)), .val .null, .unset] [])
  refine own_goW (fun _ k => XS.iloadN X1.here hx rfl (hb hby d3_4) rfl k) ?_
  show own_GoesW _ _ _ _ _ _ _ T1 (mkF m 5 #[.val (.ref a1), .val (.ref a2), .val (.int (0 : Int32)), .val (.int (0 : Int32)), .val .null, .unset] [(.int (0 : Int32))])
  refine own_goW (fun _ k => XS.ifNo X1.here hx rfl (hb hby d3_5) rfl ((if0 _ _).trans (teq (by decide : (0 : Int32) = (0 : Int32))).2) k) ?_
  show own_GoesW _ _ _ _ _ _ _ T1 (mkF m 8 #[.val (.ref a1), .val (.ref a2), .val (.int (0 : Int32)), .val (.int (0 : Int32)), .val .null, .unset] [])
  refine own_goW (fun _ k => XS.aloadN X1.here hx rfl (hb hby d3_8) rfl rfl k) ?_
  show own_GoesW _ _ _ _ _ _ _ T1 (mkF m 9 #[.val (.ref a1), .val (.ref a2), .val (.int (0 : Int32)), .val (.int (0 : Int32)), .val .null, .unset] [(.ref a1)])
  obtain ⟨al2, T2, h2, kk2, vm2, bl2, kb2, X2, e2, E2, hS2, hk2, hZ, hown, EA2, FC2, FV2, AV2, VMa2, st2⟩ := own_ldc_e hw X1 hx hZ hown e1 hS0 hk0 (Fr.nil _) (by rw [hh0]; exact Od0.2) VM0 CH hcw (g := (mkF m 9 #[.val (.ref a1), .val (.ref a2), .val (.int (0 : Int32)), .val (.int (0 : Int32)), .val .null, .unset] [(.ref a1)])) rfl (hb hby d3_9) (by decide) (by decide)
  have E_a1_2 : Exa Z h2 a1 "java/lang/String" := E_a1.ext E2
  have F_v_2 : Fld Z h2 a1 "java/lang/String" "value" "[B" .null := F_v.ext E2
  have F_c_2 : Fld Z h2 a1 "java/lang/String" "coder" "B" (.int (0 : Int32)) := F_c.ext E2
  have Zs2 : n0 ≤ h2.size := Nat.le_trans Z0 E2.1
  have Kp2 : Keep h0 h2 [a1] := Kp0.ext E2
  refine own_goW st2 ?_
  show own_GoesW _ _ _ _ _ _ _ T2 (mkF m 11 #[.val (.ref a1), .val (.ref a2), .val (.int (0 : Int32)), .val (.int (0 : Int32)), .val .null, .unset] [(.ref al2), (.ref a1)])
  have ne_c : al2 ≠ a1 := FV2.ne F_v_2 nofun
  have ne_b : bl2 ≠ a1 := Ne.symm (E_a1_2.neArv AV2 (hw _ (List.mem_of_getElem? (i := 8) rfl)))
  obtain ⟨T3, X3, e3, st3⟩ := getF X2 hx hZ hown (host := "") (Or.inl (hw _ (List.mem_of_getElem? (i := 27) rfl))) Via.refl e2 FV2 (g := (mkF m 11 #[.val (.ref a1), .val (.ref a2), .val (.int (0 : Int32)), .val (.int (0 : Int32)), .val .null, .unset] [(.ref al2), (.ref a1)])) rfl rfl (hb hby d3_11)
  refine own_goW st3 ?_
  show own_GoesW _ _ _ _ _ _ _ T3 (mkF m 14 #[.val (.ref a1), .val (.ref a2), .val (.int (0 : Int32)), .val (.int (0 : Int32)), .val .null, .unset] [(.ref bl2), (.ref a1)])
  obtain ⟨T4, h4, X4, e4, W4, st4⟩ := putF X3 hx hZ hown (host := "") (Or.inl (hw _ (List.mem_of_getElem? (i := 27) rfl))) Via.refl e3 F_v_2 E_a1_2 (Or.inr ⟨(hw _ (List.mem_of_getElem? (i := 23) rfl)), rfl, hnm⟩) (hw _ (List.mem_of_getElem? (i := 8) rfl)) (ty := (.array .byte)) (by decide) rfl rfl (g := (mkF m 14 #[.val (.ref a1), .val (.ref a2), .val (.int (0 : Int32)), .val (.int (0 : Int32)), .val .null, .unset] [(.ref bl2), (.ref a1)])) rfl rfl (hb hby d3_14)
  have F_v_4 : Fld Z h4 a1 "java/lang/String" "value" "[B" (.ref bl2) := F_v_2.same W4
  have N4 := Fr.snoc X4 N0 lo_a1
  have E_a1_4 : Exa Z h4 a1 "java/lang/String" := E_a1_2.wr W4
  have F_c_4 : Fld Z h4 a1 "java/lang/String" "coder" "B" (.int (0 : Int32)) := F_c_2.other W4 (Or.inr (slot_ne (Or.inr (hw _ (List.mem_of_getElem? (i := 24) rfl))) (Or.inr (hw _ (List.mem_of_getElem? (i := 23) rfl))) (by decide) (t := .byte) (t' := (.array .byte)) (by decide) (by decide)))
  have EA_4 : Exa Z h4 al2 "java/lang/String" := EA2.wr W4
  have FC_4 : Fld Z h4 al2 "java/lang/String" "coder" "B" (.int (0 : Int32)) := FC2.other W4 (Or.inl ne_c)
  have FV_4 : Fld Z h4 al2 "java/lang/String" "value" "[B" (.ref bl2) := FV2.other W4 (Or.inl ne_c)
  have AV_4 : Arv Z h4 bl2 kb2 .byte (0 : Int32) [] (.int 0) := AV2.other W4 ne_b
  have hk4 : _ ≤ h4.size := Nat.le_trans hk2 (Keep.of_wr W4).1
  have Zs4 : n0 ≤ h4.size := Nat.le_trans Zs2 (Keep.of_wr W4).1
  have Kp4 : Keep h0 h4 [a1] := Kp2.wr W4 (Or.inl (by simp))
  refine own_goW st4 ?_
  show own_GoesW _ _ _ _ _ _ _ T4 (mkF m 17 #[.val (.ref a1), .val (.ref a2), .val (.int (0 : Int32)), .val (.int (0 : Int32)), .val .null, .unset] [])
  refine own_goW (fun _ k => XS.aloadN X4.here hx rfl (hb hby d3_17) rfl rfl k) ?_
  show own_GoesW _ _ _ _ _ _ _ T4 (mkF m 18 #[.val (.ref a1), .val (.ref a2), .val (.int (0 : Int32)), .val (.int (0 : Int32)), .val .null, .unset] [(.ref a1)])
  obtain ⟨Ts5, I5, Li5, -⟩ := id VMa2
  refine own_goW (ldcAgain X4 hx hZ hown (hw _ (List.mem_of_getElem? (i := 21) rfl)) Li5 (g := (mkF m 18 #[.val (.ref a1), .val (.ref a2), .val (.int (0 : Int32)), .val (.int (0 : Int32)), .val .null, .unset] [(.ref a1)])) rfl (hb hby d3_18)) ?_
  show own_GoesW _ _ _ _ _ _ _ T4 (mkF m 20 #[.val (.ref a1), .val (.ref a2), .val (.int (0 : Int32)), .val (.int (0 : Int32)), .val .null, .unset] [(.ref al2), (.ref a1)])
  obtain ⟨T6, X6, e6, st6⟩ := getF X4 hx hZ hown (host := "") (Or.inl (hw _ (List.mem_of_getElem? (i := 28) rfl))) Via.refl e4 FC_4 (g := (mkF m 20 #[.val (.ref a1), .val (.ref a2), .val (.int (0 : Int32)), .val (.int (0 : Int32)), .val .null, .unset] [(.ref al2), (.ref a1)])) rfl rfl (hb hby d3_20)
  refine own_goW st6 ?_
  show own_GoesW _ _ _ _ _ _ _ T6 (mkF m 23 #[.val (.ref a1), .val (.ref a2), .val (.int (0 : Int32)), .val (.int (0 : Int32)), .val .null, .unset] [(.int (0 : Int32)), (.ref a1)])
  obtain ⟨T7, h7, X7, e7, W7, st7⟩ := putFN X6 hx hZ hown (hw _ (List.mem_of_getElem? (i := 28) rfl)) Via.refl e6 F_c_4 E_a1_4 (Or.inr ⟨(hw _ (List.mem_of_getElem? (i := 24) rfl)), rfl, hnm⟩) (hw _ (List.mem_of_getElem? (i := 8) rfl)) (ty := .byte) (v' := (.int (nar .byte (0 : Int32)))) (by decide) rfl (fits_nar_byte _) (g := (mkF m 23 #[.val (.ref a1), .val (.ref a2), .val (.int (0 : Int32)), .val (.int (0 : Int32)), .val .null, .unset] [(.int (0 : Int32)), (.ref a1)])) rfl rfl (hb hby d3_23)
  have F_c_7 : Fld Z h7 a1 "java/lang/String" "coder" "B" (.int (nar .byte (0 : Int32))) := F_c_4.same W7
  have N7 := Fr.snoc X7 N4 lo_a1
  have E_a1_7 : Exa Z h7 a1 "java/lang/String" := E_a1_4.wr W7
  have EA_7 : Exa Z h7 al2 "java/lang/String" := EA_4.wr W7
  have FC_7 : Fld Z h7 al2 "java/lang/String" "coder" "B" (.int (0 : Int32)) := FC_4.other W7 (Or.inl ne_c)
  have FV_7 : Fld Z h7 al2 "java/lang/String" "value" "[B" (.ref bl2) := FV_4.other W7 (Or.inl ne_c)
  have AV_7 : Arv Z h7 bl2 kb2 .byte (0 : Int32) [] (.int 0) := AV_4.other W7 ne_b
  have F_v_7 : Fld Z h7 a1 "java/lang/String" "value" "[B" (.ref bl2) := F_v_4.other W7 (Or.inr (slot_ne (Or.inr (hw _ (List.mem_of_getElem? (i := 23) rfl))) (Or.inr (hw _ (List.mem_of_getElem? (i := 24) rfl))) (by decide) (t := (.array .byte)) (t' := .byte) (by decide) (by decide)))
  have hk7 : _ ≤ h7.size := Nat.le_trans hk4 (Keep.of_wr W7).1
  have Zs7 : n0 ≤ h7.size := Nat.le_trans Zs4 (Keep.of_wr W7).1
  have Kp7 : Keep h0 h7 [a1] := Kp4.wr W7 (Or.inl (by simp))
  refine own_goW st7 ?_
  show own_GoesW _ _ _ _ _ _ _ T7 (mkF m 26 #[.val (.ref a1), .val (.ref a2), .val (.int (0 : Int32)), .val (.int (0 : Int32)), .val .null, .unset] [])
  have S1 := (⟨E_a1_7, F_c_7, by simp, Nat.zero_le _, _, _, F_v_7, AV_7⟩ : own_Str2 Z h7 a1 [])
  have VMf := own_VM.of (VMa2.warm X7.warmed) (⟨EA_7, FC_7, by simp, Nat.zero_le _, _, _, FV_7, AV_7⟩ : own_Str2 Z h7 al2 [])
  exact own_retVW X7 hx hS2 (by rw [e7]; exact hk7) hlk hret (hb hby d3_26) (by decide) (by decide) (by rw [e7]; exact ⟨rfl, N7, Zs7, Kp7, S1, VMf⟩)
def Q_rm_sB (Z : State) (h0 : Heap) (n0 : Nat) (a1 : Addr) (v : Option Value) (h : Heap) (L : List Loc) (vm : Vm) : Prop := v = none ∧ Fr n0 L ∧ n0 ≤ h.size ∧ Keep h0 h [a1] ∧ own_Str2 Z h a1 [] ∧ own_VM Z h vm
set_option maxRecDepth 65536 in
set_option maxHeartbeats 40000000 in
theorem rm_sB (l : Launch) (Z : State) (a0 : Array Value) (hw : ∀ d ∈ tables_1, d.before a0 Z = true) (ws : List Jvm.Cond) (a1 a2 : Addr) (cl : Cell) (h0 : Heap) (n0 : Nat) (Z0 : n0 ≤ h0.size) (Od0 : Old Z n0 h0) (CH : Jvm.Lit.constsHeld consts_1 Z) (hcw : Jvm.Lit.compactW.before a0 Z = true) (E_a1 : Exa Z h0 a1 "java/lang/String") (F_v : Fld Z h0 a1 "java/lang/String" "value" "[B" .null) (F_c : Fld Z h0 a1 "java/lang/String" "coder" "B" (.int (0 : Int32))) (A2 : Arr Z h0 a2 cl .char) (lo_a1 : n0 ≤ a1) (SN : cl.slots.size = 0) :
    MetFree l (⟨"java/lang/String", "<init>", "([C)V"⟩ : MethodName) (head1 (Jvm.Cond.code (⟨"java/lang/String", "<init>", "([C)V"⟩ : MethodName) jdk_42_method_3_code 2 none :: ws) ({ frames := 2, cells := 2, slots := 4, locals := 29 } : Room)) (fun a U => a = #[(.ref a1), (.ref a2)] ∧ Z.Warmed39 U.vm ∧ U.heap = h0 ∧ own_VM Z h0 U.vm) (fun _ _ _ _ _ => True) (fun _ U o U' => ∃ rv rL, o = .returned rv ∧ Q_rm_sB Z h0 n0 a1 rv U'.heap rL U'.vm ∧ ReturnedEndW U o U' rL ({ frames := 2, cells := 2, slots := 4, locals := 29 } : Room).cells ({ frames := 2, cells := 2, slots := 4, locals := 29 } : Room).slots) := by
  refine own_metW (VP := own_VM Z h0) (y := (⟨"java/lang/String", "<init>", "([C)V"⟩ : MethodName)) (Q := Q_rm_sB Z h0 n0 a1) (own := "java/lang/String") rfl (plainFor_of_name pn_2) ?_
  intro p e s m below meth c s₁ C e0 hh0 VM0 hS0 X0
  obtain ⟨hx, hby, hml, hown, hnm, hret, hlk, hZ⟩ := C
  have N0 := Fr.nil n0
  have hk0 : 0 ≤ h0.size := Nat.zero_le _
  rw [ef_2]
  have Kp0 : Keep h0 h0 [a1] := Keep.refl h0 _
  show own_GoesW _ _ _ _ _ _ _ s₁ (mkF m 0 #[.val (.ref a1), .val (.ref a2)] [])
  refine own_goW (fun _ k => XS.aloadN X0.here hx rfl (hb hby d2_0) rfl rfl k) ?_
  show own_GoesW _ _ _ _ _ _ _ s₁ (mkF m 1 #[.val (.ref a1), .val (.ref a2)] [(.ref a1)])
  refine own_goW (fun _ k => XS.aloadN X0.here hx rfl (hb hby d2_1) rfl rfl k) ?_
  show own_GoesW _ _ _ _ _ _ _ s₁ (mkF m 2 #[.val (.ref a1), .val (.ref a2)] [(.ref a2), (.ref a1)])
  refine own_goW (fun _ k => XS.iconst X0.here hx rfl (hb hby d2_2) k) ?_
  show own_GoesW _ _ _ _ _ _ _ s₁ (mkF m 3 #[.val (.ref a1), .val (.ref a2)] [(.int (0 : Int32)), (.ref a2), (.ref a1)])
  refine own_goW (fun _ k => XS.aloadN X0.here hx rfl (hb hby d2_3) rfl rfl k) ?_
  show own_GoesW _ _ _ _ _ _ _ s₁ (mkF m 4 #[.val (.ref a1), .val (.ref a2)] [(.ref a2), (.int (0 : Int32)), (.ref a2), (.ref a1)])
  refine own_goW (fun t k => X0.arraylength hx (by rw [e0]; exact A2.1) (State.isArrayOf_alike hZ.alike A2.2.1) (g := (mkF m 4 #[.val (.ref a1), .val (.ref a2)] [(.ref a2), (.int (0 : Int32)), (.ref a2), (.ref a1)])) rfl rfl (hb hby d2_4) t k) ?_
  rw [show cl.slots.size.toInt32 = (0 : Int32) from (by rw [SN]; rfl)]
  show own_GoesW _ _ _ _ _ _ _ s₁ (mkF m 5 #[.val (.ref a1), .val (.ref a2)] [(.int (0 : Int32)), (.int (0 : Int32)), (.ref a2), (.ref a1)])
  refine own_goW (fun _ k => XS.aconstNull X0.here hx rfl (hb hby d2_5) k) ?_
  show own_GoesW _ _ _ _ _ _ _ s₁ (mkF m 6 #[.val (.ref a1), .val (.ref a2)] [.null, (.int (0 : Int32)), (.int (0 : Int32)), (.ref a2), (.ref a1)])
  obtain ⟨_, _, ⟨T1, L1, k1, n1⟩, -, X1, hS1, hg1, ⟨Lc1, hQ1, l1, y1, z1⟩, st1⟩ := X0.specialBackS hx (y := (⟨"java/lang/String", "<init>", "([CIILjava/lang/Void;)V"⟩ : MethodName)) rfl hown (mvT hZ (hw _ (List.mem_of_getElem? (i := 14) rfl))) (mvT hZ (hw _ (List.mem_of_getElem? (i := 15) rfl))) (mvT hZ (hw _ (List.mem_of_getElem? (i := 17) rfl))) (by decide) (own_backW (W := 0) (rm_sA l Z a0 hw [] a1 a2 h0 n0 Z0 Od0 CH hcw E_a1 F_v F_c lo_a1) hZ (fun vm' q => VM0.warm q) (hw _ (List.mem_of_getElem? (i := 17) rfl)) (hw _ (List.mem_of_getElem? (i := 9) rfl)) (by decide) (by decide)) (g := (mkF m 6 #[.val (.ref a1), .val (.ref a2)] [.null, (.int (0 : Int32)), (.int (0 : Int32)), (.ref a2), (.ref a1)])) rfl (by rw [hml]; rfl) (Steps.refl _) (a := a1) (argsL := [(.ref a2), (.int (0 : Int32)), (.int (0 : Int32)), .null]) (rest := []) (lenOf pd_0 rfl) rfl (by show 2 * 0 + _ ≤ _; exact Nat.le_of_eq rfl) (hb hby d2_6) (fun _ _ => ⟨rfl, e0, (by decide : 0 + 2 ≤ _), (by decide : 0 + 4 ≤ _)⟩)
  dsimp only [Pt.U, Pt.locs, Pt.cells, Pt.slots] at X1 l1 y1 z1 st1 hQ1 hS1 hg1
  subst l1 y1 z1
  obtain ⟨rfl, N1q, Zs1, K1, S1, VM1⟩ := hQ1
  have N1 := Fr.app N0 N1q
  obtain ⟨X1, hS1, hZ, hown⟩ := rebS hS0 (by rw [e0]; exact hk0) X1 hS1 hg1 hZ hown
  have hk1 : T1.heap.size ≤ T1.heap.size := Nat.le_refl _
  refine own_goSW st1 ?_
  show own_GoesW _ _ _ _ _ _ _ T1 (mkF m 9 #[.val (.ref a1), .val (.ref a2)] [])
  exact own_retVW X1 hx hS1 hk1 hlk hret (hb hby d2_9) (by decide) (by decide) ⟨rfl, N1, Zs1, K1, S1, (VM1.warm X1.warmed)⟩
def Q_rm_str (Z : State) (h0 : Heap) (n0 : Nat) (p1 : Int32) (v : Option Value) (h : Heap) (L : List Loc) (vm : Vm) : Prop := ∃ a, v = some (.ref a) ∧ Fr n0 L ∧ n0 ≤ h.size ∧ Keep h0 h [] ∧ own_Str2 Z h a (own_cs p1) ∧ own_VM Z h vm
set_option maxRecDepth 65536 in
set_option maxHeartbeats 40000000 in
theorem rm_str (l : Launch) (Z : State) (a0 : Array Value) (hw : ∀ d ∈ tables_1, d.before a0 Z = true) (ws : List Jvm.Cond) (p1 : Int32) (h0 : Heap) (n0 : Nat) (Z0 : n0 ≤ h0.size) (Od0 : Old Z n0 h0) (CH : Jvm.Lit.constsHeld consts_1 Z) (hcw : Jvm.Lit.compactW.before a0 Z = true) (G1 : Int32) (O2 : Sta Z Z.heap "java/lang/String" "COMPACT_STRINGS" "Z" (.int G1)) (P5 : ¬ (G1 = (0 : Int32))) :
    MetFree l (⟨"dev/resolvent/model/StateKeyEqualsPinLaw", "str", "(I)Ljava/lang/String;"⟩ : MethodName) (head1 (Jvm.Cond.code (⟨"dev/resolvent/model/StateKeyEqualsPinLaw", "str", "(I)Ljava/lang/String;"⟩ : MethodName) method_2_code 5 (some (.object "java/lang/String")) :: ws) ({ frames := 4, cells := 4, slots := 10, locals := 66 } : Room)) (fun a U => a = #[(.int p1)] ∧ Z.Warmed39 U.vm ∧ U.heap = h0 ∧ own_VM Z h0 U.vm) (fun _ _ _ _ _ => True) (fun _ U o U' => ∃ rv rL, o = .returned rv ∧ Q_rm_str Z h0 n0 p1 rv U'.heap rL U'.vm ∧ ReturnedEndW U o U' rL ({ frames := 4, cells := 4, slots := 10, locals := 66 } : Room).cells ({ frames := 4, cells := 4, slots := 10, locals := 66 } : Room).slots) := by
  refine own_metW (VP := own_VM Z h0) (y := (⟨"dev/resolvent/model/StateKeyEqualsPinLaw", "str", "(I)Ljava/lang/String;"⟩ : MethodName)) (Q := Q_rm_str Z h0 n0 p1) (own := "dev/resolvent/model/StateKeyEqualsPinLaw") rfl (plainFor_of_name pn_1) ?_
  intro p e s m below meth c s₁ C e0 hh0 VM0 hS0 X0
  obtain ⟨hx, hby, hml, hown, hnm, hret, hlk, hZ⟩ := C
  have N0 := Fr.nil n0
  have hk0 : 0 ≤ h0.size := Nat.zero_le _
  rw [ef_1]
  have Kp0 : Keep h0 h0 [] := Keep.refl h0 _
  show own_GoesW _ _ _ _ _ _ _ s₁ (mkF m 0 #[.val (.int p1), .unset, .unset, .unset, .unset] [])
  refine own_goW (fun _ k => XS.iloadN X0.here hx rfl (hb hby d1_0) rfl k) ?_
  show own_GoesW _ _ _ _ _ _ _ s₁ (mkF m 1 #[.val (.int p1), .unset, .unset, .unset, .unset] [(.int p1)])
  refine own_goW (fun _ k => XS.iconst X0.here hx rfl (hb hby d1_1) k) ?_
  show own_GoesW _ _ _ _ _ _ _ s₁ (mkF m 2 #[.val (.int p1), .unset, .unset, .unset, .unset] [(.int (3 : Int32)), (.int p1)])
  refine own_goW (fun _ k => XS.iand X0.here hx rfl (hb hby d1_2) rfl k) ?_
  show own_GoesW _ _ _ _ _ _ _ s₁ (mkF m 3 #[.val (.int p1), .unset, .unset, .unset, .unset] [(.int (p1 &&& (3 : Int32)))])
  refine own_goW (fun _ k => XS.istoreN X0.here hx rfl (hb hby d1_3) rfl (l' := #[.val (.int p1), .val (.int (p1 &&& (3 : Int32))), .unset, .unset, .unset]) rfl k) ?_
  show own_GoesW _ _ _ _ _ _ _ s₁ (mkF m 4 #[.val (.int p1), .val (.int (p1 &&& (3 : Int32))), .unset, .unset, .unset] [])
  refine own_goW (fun _ k => XS.iloadN X0.here hx rfl (hb hby d1_4) rfl k) ?_
  show own_GoesW _ _ _ _ _ _ _ s₁ (mkF m 5 #[.val (.int p1), .val (.int (p1 &&& (3 : Int32))), .unset, .unset, .unset] [(.int p1)])
  refine own_goW (fun _ k => XS.iconst X0.here hx rfl (hb hby d1_5) k) ?_
  show own_GoesW _ _ _ _ _ _ _ s₁ (mkF m 6 #[.val (.int p1), .val (.int (p1 &&& (3 : Int32))), .unset, .unset, .unset] [(.int (2 : Int32)), (.int p1)])
  refine own_goW (fun _ k => XS.iushr X0.here hx rfl (hb hby d1_6) rfl k) ?_
  show own_GoesW _ _ _ _ _ _ _ s₁ (mkF m 7 #[.val (.int p1), .val (.int (p1 &&& (3 : Int32))), .unset, .unset, .unset] [(.int ((p1.toUInt32 >>> ((2 : Int32) &&& 31).toUInt32).toInt32))])
  refine own_goW (fun _ k => XS.sipush X0.here hx rfl (hb hby d1_7) k) ?_
  show own_GoesW _ _ _ _ _ _ _ s₁ (mkF m 10 #[.val (.int p1), .val (.int (p1 &&& (3 : Int32))), .unset, .unset, .unset] [(.int (255 : Int32)), (.int ((p1.toUInt32 >>> ((2 : Int32) &&& 31).toUInt32).toInt32))])
  refine own_goW (fun _ k => XS.iand X0.here hx rfl (hb hby d1_10) rfl k) ?_
  show own_GoesW _ _ _ _ _ _ _ s₁ (mkF m 11 #[.val (.int p1), .val (.int (p1 &&& (3 : Int32))), .unset, .unset, .unset] [(.int (((p1.toUInt32 >>> ((2 : Int32) &&& 31).toUInt32).toInt32) &&& (255 : Int32)))])
  refine own_goW (fun _ k => XS.i2c X0.here hx rfl (hb hby d1_11) rfl k) ?_
  show own_GoesW _ _ _ _ _ _ _ s₁ (mkF m 12 #[.val (.int p1), .val (.int (p1 &&& (3 : Int32))), .unset, .unset, .unset] [(.int ((((p1.toUInt32 >>> ((2 : Int32) &&& 31).toUInt32).toInt32) &&& (255 : Int32)).toUInt32.toUInt16.toUInt32.toInt32))])
  refine own_goW (fun _ k => XS.istoreN X0.here hx rfl (hb hby d1_12) rfl (l' := #[.val (.int p1), .val (.int (p1 &&& (3 : Int32))), .val (.int ((((p1.toUInt32 >>> ((2 : Int32) &&& 31).toUInt32).toInt32) &&& (255 : Int32)).toUInt32.toUInt16.toUInt32.toInt32)), .unset, .unset]) rfl k) ?_
  show own_GoesW _ _ _ _ _ _ _ s₁ (mkF m 13 #[.val (.int p1), .val (.int (p1 &&& (3 : Int32))), .val (.int ((((p1.toUInt32 >>> ((2 : Int32) &&& 31).toUInt32).toInt32) &&& (255 : Int32)).toUInt32.toUInt16.toUInt32.toInt32)), .unset, .unset] [])
  refine own_goW (fun _ k => XS.iloadN X0.here hx rfl (hb hby d1_13) rfl k) ?_
  show own_GoesW _ _ _ _ _ _ _ s₁ (mkF m 14 #[.val (.int p1), .val (.int (p1 &&& (3 : Int32))), .val (.int ((((p1.toUInt32 >>> ((2 : Int32) &&& 31).toUInt32).toInt32) &&& (255 : Int32)).toUInt32.toUInt16.toUInt32.toInt32)), .unset, .unset] [(.int p1)])
  refine own_goW (fun _ k => XS.bipush X0.here hx rfl (hb hby d1_14) k) ?_
  show own_GoesW _ _ _ _ _ _ _ s₁ (mkF m 16 #[.val (.int p1), .val (.int (p1 &&& (3 : Int32))), .val (.int ((((p1.toUInt32 >>> ((2 : Int32) &&& 31).toUInt32).toInt32) &&& (255 : Int32)).toUInt32.toUInt16.toUInt32.toInt32)), .unset, .unset] [(.int (10 : Int32)), (.int p1)])
  refine own_goW (fun _ k => XS.iushr X0.here hx rfl (hb hby d1_16) rfl k) ?_
  show own_GoesW _ _ _ _ _ _ _ s₁ (mkF m 17 #[.val (.int p1), .val (.int (p1 &&& (3 : Int32))), .val (.int ((((p1.toUInt32 >>> ((2 : Int32) &&& 31).toUInt32).toInt32) &&& (255 : Int32)).toUInt32.toUInt16.toUInt32.toInt32)), .unset, .unset] [(.int ((p1.toUInt32 >>> ((10 : Int32) &&& 31).toUInt32).toInt32))])
  refine own_goW (fun _ k => XS.sipush X0.here hx rfl (hb hby d1_17) k) ?_
  show own_GoesW _ _ _ _ _ _ _ s₁ (mkF m 20 #[.val (.int p1), .val (.int (p1 &&& (3 : Int32))), .val (.int ((((p1.toUInt32 >>> ((2 : Int32) &&& 31).toUInt32).toInt32) &&& (255 : Int32)).toUInt32.toUInt16.toUInt32.toInt32)), .unset, .unset] [(.int (255 : Int32)), (.int ((p1.toUInt32 >>> ((10 : Int32) &&& 31).toUInt32).toInt32))])
  refine own_goW (fun _ k => XS.iand X0.here hx rfl (hb hby d1_20) rfl k) ?_
  show own_GoesW _ _ _ _ _ _ _ s₁ (mkF m 21 #[.val (.int p1), .val (.int (p1 &&& (3 : Int32))), .val (.int ((((p1.toUInt32 >>> ((2 : Int32) &&& 31).toUInt32).toInt32) &&& (255 : Int32)).toUInt32.toUInt16.toUInt32.toInt32)), .unset, .unset] [(.int (((p1.toUInt32 >>> ((10 : Int32) &&& 31).toUInt32).toInt32) &&& (255 : Int32)))])
  refine own_goW (fun _ k => XS.i2c X0.here hx rfl (hb hby d1_21) rfl k) ?_
  show own_GoesW _ _ _ _ _ _ _ s₁ (mkF m 22 #[.val (.int p1), .val (.int (p1 &&& (3 : Int32))), .val (.int ((((p1.toUInt32 >>> ((2 : Int32) &&& 31).toUInt32).toInt32) &&& (255 : Int32)).toUInt32.toUInt16.toUInt32.toInt32)), .unset, .unset] [(.int ((((p1.toUInt32 >>> ((10 : Int32) &&& 31).toUInt32).toInt32) &&& (255 : Int32)).toUInt32.toUInt16.toUInt32.toInt32))])
  refine own_goW (fun _ k => XS.istoreN X0.here hx rfl (hb hby d1_22) rfl (l' := #[.val (.int p1), .val (.int (p1 &&& (3 : Int32))), .val (.int ((((p1.toUInt32 >>> ((2 : Int32) &&& 31).toUInt32).toInt32) &&& (255 : Int32)).toUInt32.toUInt16.toUInt32.toInt32)), .val (.int ((((p1.toUInt32 >>> ((10 : Int32) &&& 31).toUInt32).toInt32) &&& (255 : Int32)).toUInt32.toUInt16.toUInt32.toInt32)), .unset]) rfl k) ?_
  show own_GoesW _ _ _ _ _ _ _ s₁ (mkF m 23 #[.val (.int p1), .val (.int (p1 &&& (3 : Int32))), .val (.int ((((p1.toUInt32 >>> ((2 : Int32) &&& 31).toUInt32).toInt32) &&& (255 : Int32)).toUInt32.toUInt16.toUInt32.toInt32)), .val (.int ((((p1.toUInt32 >>> ((10 : Int32) &&& 31).toUInt32).toInt32) &&& (255 : Int32)).toUInt32.toUInt16.toUInt32.toInt32)), .unset] [])
  refine own_goW (fun _ k => XS.iloadN X0.here hx rfl (hb hby d1_23) rfl k) ?_
  show own_GoesW _ _ _ _ _ _ _ s₁ (mkF m 24 #[.val (.int p1), .val (.int (p1 &&& (3 : Int32))), .val (.int ((((p1.toUInt32 >>> ((2 : Int32) &&& 31).toUInt32).toInt32) &&& (255 : Int32)).toUInt32.toUInt16.toUInt32.toInt32)), .val (.int ((((p1.toUInt32 >>> ((10 : Int32) &&& 31).toUInt32).toInt32) &&& (255 : Int32)).toUInt32.toUInt16.toUInt32.toInt32)), .unset] [(.int p1)])
  refine own_goW (fun _ k => XS.bipush X0.here hx rfl (hb hby d1_24) k) ?_
  show own_GoesW _ _ _ _ _ _ _ s₁ (mkF m 26 #[.val (.int p1), .val (.int (p1 &&& (3 : Int32))), .val (.int ((((p1.toUInt32 >>> ((2 : Int32) &&& 31).toUInt32).toInt32) &&& (255 : Int32)).toUInt32.toUInt16.toUInt32.toInt32)), .val (.int ((((p1.toUInt32 >>> ((10 : Int32) &&& 31).toUInt32).toInt32) &&& (255 : Int32)).toUInt32.toUInt16.toUInt32.toInt32)), .unset] [(.int (18 : Int32)), (.int p1)])
  refine own_goW (fun _ k => XS.iushr X0.here hx rfl (hb hby d1_26) rfl k) ?_
  show own_GoesW _ _ _ _ _ _ _ s₁ (mkF m 27 #[.val (.int p1), .val (.int (p1 &&& (3 : Int32))), .val (.int ((((p1.toUInt32 >>> ((2 : Int32) &&& 31).toUInt32).toInt32) &&& (255 : Int32)).toUInt32.toUInt16.toUInt32.toInt32)), .val (.int ((((p1.toUInt32 >>> ((10 : Int32) &&& 31).toUInt32).toInt32) &&& (255 : Int32)).toUInt32.toUInt16.toUInt32.toInt32)), .unset] [(.int ((p1.toUInt32 >>> ((18 : Int32) &&& 31).toUInt32).toInt32))])
  refine own_goW (fun _ k => XS.sipush X0.here hx rfl (hb hby d1_27) k) ?_
  show own_GoesW _ _ _ _ _ _ _ s₁ (mkF m 30 #[.val (.int p1), .val (.int (p1 &&& (3 : Int32))), .val (.int ((((p1.toUInt32 >>> ((2 : Int32) &&& 31).toUInt32).toInt32) &&& (255 : Int32)).toUInt32.toUInt16.toUInt32.toInt32)), .val (.int ((((p1.toUInt32 >>> ((10 : Int32) &&& 31).toUInt32).toInt32) &&& (255 : Int32)).toUInt32.toUInt16.toUInt32.toInt32)), .unset] [(.int (255 : Int32)), (.int ((p1.toUInt32 >>> ((18 : Int32) &&& 31).toUInt32).toInt32))])
  refine own_goW (fun _ k => XS.iand X0.here hx rfl (hb hby d1_30) rfl k) ?_
  show own_GoesW _ _ _ _ _ _ _ s₁ (mkF m 31 #[.val (.int p1), .val (.int (p1 &&& (3 : Int32))), .val (.int ((((p1.toUInt32 >>> ((2 : Int32) &&& 31).toUInt32).toInt32) &&& (255 : Int32)).toUInt32.toUInt16.toUInt32.toInt32)), .val (.int ((((p1.toUInt32 >>> ((10 : Int32) &&& 31).toUInt32).toInt32) &&& (255 : Int32)).toUInt32.toUInt16.toUInt32.toInt32)), .unset] [(.int (((p1.toUInt32 >>> ((18 : Int32) &&& 31).toUInt32).toInt32) &&& (255 : Int32)))])
  refine own_goW (fun _ k => XS.i2c X0.here hx rfl (hb hby d1_31) rfl k) ?_
  show own_GoesW _ _ _ _ _ _ _ s₁ (mkF m 32 #[.val (.int p1), .val (.int (p1 &&& (3 : Int32))), .val (.int ((((p1.toUInt32 >>> ((2 : Int32) &&& 31).toUInt32).toInt32) &&& (255 : Int32)).toUInt32.toUInt16.toUInt32.toInt32)), .val (.int ((((p1.toUInt32 >>> ((10 : Int32) &&& 31).toUInt32).toInt32) &&& (255 : Int32)).toUInt32.toUInt16.toUInt32.toInt32)), .unset] [(.int ((((p1.toUInt32 >>> ((18 : Int32) &&& 31).toUInt32).toInt32) &&& (255 : Int32)).toUInt32.toUInt16.toUInt32.toInt32))])
  refine own_goW (fun _ k => XS.istore X0.here hx rfl (hb hby d1_32) rfl (l' := #[.val (.int p1), .val (.int (p1 &&& (3 : Int32))), .val (.int ((((p1.toUInt32 >>> ((2 : Int32) &&& 31).toUInt32).toInt32) &&& (255 : Int32)).toUInt32.toUInt16.toUInt32.toInt32)), .val (.int ((((p1.toUInt32 >>> ((10 : Int32) &&& 31).toUInt32).toInt32) &&& (255 : Int32)).toUInt32.toUInt16.toUInt32.toInt32)), .val (.int ((((p1.toUInt32 >>> ((18 : Int32) &&& 31).toUInt32).toInt32) &&& (255 : Int32)).toUInt32.toUInt16.toUInt32.toInt32))]) rfl k) ?_
  show own_GoesW _ _ _ _ _ _ _ s₁ (mkF m 34 #[.val (.int p1), .val (.int (p1 &&& (3 : Int32))), .val (.int ((((p1.toUInt32 >>> ((2 : Int32) &&& 31).toUInt32).toInt32) &&& (255 : Int32)).toUInt32.toUInt16.toUInt32.toInt32)), .val (.int ((((p1.toUInt32 >>> ((10 : Int32) &&& 31).toUInt32).toInt32) &&& (255 : Int32)).toUInt32.toUInt16.toUInt32.toInt32)), .val (.int ((((p1.toUInt32 >>> ((18 : Int32) &&& 31).toUInt32).toInt32) &&& (255 : Int32)).toUInt32.toUInt16.toUInt32.toInt32))] [])
  refine own_goW (fun _ k => XS.iloadN X0.here hx rfl (hb hby d1_34) rfl k) ?_
  show own_GoesW _ _ _ _ _ _ _ s₁ (mkF m 35 #[.val (.int p1), .val (.int (p1 &&& (3 : Int32))), .val (.int ((((p1.toUInt32 >>> ((2 : Int32) &&& 31).toUInt32).toInt32) &&& (255 : Int32)).toUInt32.toUInt16.toUInt32.toInt32)), .val (.int ((((p1.toUInt32 >>> ((10 : Int32) &&& 31).toUInt32).toInt32) &&& (255 : Int32)).toUInt32.toUInt16.toUInt32.toInt32)), .val (.int ((((p1.toUInt32 >>> ((18 : Int32) &&& 31).toUInt32).toInt32) &&& (255 : Int32)).toUInt32.toUInt16.toUInt32.toInt32))] [(.int (p1 &&& (3 : Int32)))])
  by_cases hc35 : (p1 &&& (3 : Int32)) = (0 : Int32)
  · refine own_goW (fun _ k => XS.ifNo X0.here hx rfl (hb hby d1_35) rfl ((if0 _ _).trans (teq hc35).2) k) ?_
    show own_GoesW _ _ _ _ _ _ _ s₁ (mkF m 38 #[.val (.int p1), .val (.int (p1 &&& (3 : Int32))), .val (.int ((((p1.toUInt32 >>> ((2 : Int32) &&& 31).toUInt32).toInt32) &&& (255 : Int32)).toUInt32.toUInt16.toUInt32.toInt32)), .val (.int ((((p1.toUInt32 >>> ((10 : Int32) &&& 31).toUInt32).toInt32) &&& (255 : Int32)).toUInt32.toUInt16.toUInt32.toInt32)), .val (.int ((((p1.toUInt32 >>> ((18 : Int32) &&& 31).toUInt32).toInt32) &&& (255 : Int32)).toUInt32.toUInt16.toUInt32.toInt32))] [])
    obtain ⟨T1, h1, X1, e1, E1, A1, D1, -, st1⟩ := newO X0 hx hZ hown (hw _ (List.mem_of_getElem? (i := 7) rfl)) (hw _ (List.mem_of_getElem? (i := 8) rfl)) (hw _ (List.mem_of_getElem? (i := 9) rfl)) e0 (g := (mkF m 38 #[.val (.int p1), .val (.int (p1 &&& (3 : Int32))), .val (.int ((((p1.toUInt32 >>> ((2 : Int32) &&& 31).toUInt32).toInt32) &&& (255 : Int32)).toUInt32.toUInt16.toUInt32.toInt32)), .val (.int ((((p1.toUInt32 >>> ((10 : Int32) &&& 31).toUInt32).toInt32) &&& (255 : Int32)).toUInt32.toUInt16.toUInt32.toInt32)), .val (.int ((((p1.toUInt32 >>> ((18 : Int32) &&& 31).toUInt32).toInt32) &&& (255 : Int32)).toUInt32.toUInt16.toUInt32.toInt32))] [])) rfl (hb hby d1_38) (by decide) (by decide)
    obtain ⟨b1, g1⟩ : ∃ z, z = h0.size := ⟨_, rfl⟩
    rw [← g1] at A1 D1 st1
    have lo_b1 : n0 ≤ b1 := Nat.le_trans Z0 (Nat.le_of_eq g1.symm)
    have bo_b1 : h0.size ≤ b1 := Nat.le_trans Kp0.1 (Nat.le_of_eq g1.symm)
    have hk1 : _ ≤ h1.size := Nat.le_trans hk0 E1.1
    have Zs1 : n0 ≤ h1.size := Nat.le_trans Z0 E1.1
    have Kp1 : Keep h0 h1 [] := Kp0.ext E1
    have Od1 : Old Z n0 h1 := Od0.ext E1
    have F_value_b1 : Fld Z h1 b1 "java/lang/String" "value" "[B" .null := D1 (Or.inr (hw _ (List.mem_of_getElem? (i := 23) rfl))) (ty := (.array .byte)) (by decide)
    have F_coder_b1 : Fld Z h1 b1 "java/lang/String" "coder" "B" (.int (0 : Int32)) := D1 (Or.inr (hw _ (List.mem_of_getElem? (i := 24) rfl))) (ty := .byte) (by decide)
    refine own_goW st1 ?_
    show own_GoesW _ _ _ _ _ _ _ T1 (mkF m 41 #[.val (.int p1), .val (.int (p1 &&& (3 : Int32))), .val (.int ((((p1.toUInt32 >>> ((2 : Int32) &&& 31).toUInt32).toInt32) &&& (255 : Int32)).toUInt32.toUInt16.toUInt32.toInt32)), .val (.int ((((p1.toUInt32 >>> ((10 : Int32) &&& 31).toUInt32).toInt32) &&& (255 : Int32)).toUInt32.toUInt16.toUInt32.toInt32)), .val (.int ((((p1.toUInt32 >>> ((18 : Int32) &&& 31).toUInt32).toInt32) &&& (255 : Int32)).toUInt32.toUInt16.toUInt32.toInt32))] [(.ref b1)])
    refine own_goW (fun _ k => XS.dup X1.here hx rfl (hb hby d1_41) rfl rfl k) ?_
    show own_GoesW _ _ _ _ _ _ _ T1 (mkF m 42 #[.val (.int p1), .val (.int (p1 &&& (3 : Int32))), .val (.int ((((p1.toUInt32 >>> ((2 : Int32) &&& 31).toUInt32).toInt32) &&& (255 : Int32)).toUInt32.toUInt16.toUInt32.toInt32)), .val (.int ((((p1.toUInt32 >>> ((10 : Int32) &&& 31).toUInt32).toInt32) &&& (255 : Int32)).toUInt32.toUInt16.toUInt32.toInt32)), .val (.int ((((p1.toUInt32 >>> ((18 : Int32) &&& 31).toUInt32).toInt32) &&& (255 : Int32)).toUInt32.toUInt16.toUInt32.toInt32))] [(.ref b1), (.ref b1)])
    refine own_goW (fun _ k => XS.iconst X1.here hx rfl (hb hby d1_42) k) ?_
    show own_GoesW _ _ _ _ _ _ _ T1 (mkF m 43 #[.val (.int p1), .val (.int (p1 &&& (3 : Int32))), .val (.int ((((p1.toUInt32 >>> ((2 : Int32) &&& 31).toUInt32).toInt32) &&& (255 : Int32)).toUInt32.toUInt16.toUInt32.toInt32)), .val (.int ((((p1.toUInt32 >>> ((10 : Int32) &&& 31).toUInt32).toInt32) &&& (255 : Int32)).toUInt32.toUInt16.toUInt32.toInt32)), .val (.int ((((p1.toUInt32 >>> ((18 : Int32) &&& 31).toUInt32).toInt32) &&& (255 : Int32)).toUInt32.toUInt16.toUInt32.toInt32))] [(.int (0 : Int32)), (.ref b1), (.ref b1)])
    obtain ⟨T2, h2, k2, X2, e2, E2, A2, st2⟩ := newP X1 hx hZ (hw _ (List.mem_of_getElem? (i := 10) rfl)) e1 (g := (mkF m 43 #[.val (.int p1), .val (.int (p1 &&& (3 : Int32))), .val (.int ((((p1.toUInt32 >>> ((2 : Int32) &&& 31).toUInt32).toInt32) &&& (255 : Int32)).toUInt32.toUInt16.toUInt32.toInt32)), .val (.int ((((p1.toUInt32 >>> ((10 : Int32) &&& 31).toUInt32).toInt32) &&& (255 : Int32)).toUInt32.toUInt16.toUInt32.toInt32)), .val (.int ((((p1.toUInt32 >>> ((18 : Int32) &&& 31).toUInt32).toInt32) &&& (255 : Int32)).toUInt32.toUInt16.toUInt32.toInt32))] [(.int (0 : Int32)), (.ref b1), (.ref b1)])) rfl (hb hby d1_43) rfl (by decide) (cap := 0) (by decide) (by decide) (by decide) (by decide)
    obtain ⟨b2, g2⟩ : ∃ z, z = h1.size := ⟨_, rfl⟩
    rw [← g2] at A2 st2
    have lo_b2 : n0 ≤ b2 := Nat.le_trans Zs1 (Nat.le_of_eq g2.symm)
    have bo_b2 : h0.size ≤ b2 := Nat.le_trans Kp1.1 (Nat.le_of_eq g2.symm)
    have ne_b1_b2 : b1 ≠ b2 := Nat.ne_of_lt (Nat.lt_of_lt_of_le A1.lt (Nat.le_of_eq g2.symm))
    have E_b1_2 : Exa Z h2 b1 "java/lang/String" := A1.ext E2
    have F_value_b1_2 : Fld Z h2 b1 "java/lang/String" "value" "[B" .null := F_value_b1.ext E2
    have F_coder_b1_2 : Fld Z h2 b1 "java/lang/String" "coder" "B" (.int (0 : Int32)) := F_coder_b1.ext E2
    have hk2 : _ ≤ h2.size := Nat.le_trans hk1 E2.1
    have Zs2 : n0 ≤ h2.size := Nat.le_trans Zs1 E2.1
    have Kp2 : Keep h0 h2 [] := Kp1.ext E2
    have Od2 : Old Z n0 h2 := Od1.ext E2
    refine own_goW st2 ?_
    show own_GoesW _ _ _ _ _ _ _ T2 (mkF m 45 #[.val (.int p1), .val (.int (p1 &&& (3 : Int32))), .val (.int ((((p1.toUInt32 >>> ((2 : Int32) &&& 31).toUInt32).toInt32) &&& (255 : Int32)).toUInt32.toUInt16.toUInt32.toInt32)), .val (.int ((((p1.toUInt32 >>> ((10 : Int32) &&& 31).toUInt32).toInt32) &&& (255 : Int32)).toUInt32.toUInt16.toUInt32.toInt32)), .val (.int ((((p1.toUInt32 >>> ((18 : Int32) &&& 31).toUInt32).toInt32) &&& (255 : Int32)).toUInt32.toUInt16.toUInt32.toInt32))] [(.ref b2), (.ref b1), (.ref b1)])
    have VMx : own_VM Z h2 s.vm := VM0.map (fun _ q => q.keep0 Kp2)
    obtain ⟨_, _, ⟨T3, L3, k3, n3⟩, -, X3, hS3, hg3, ⟨Lc3, hQ3, l3, y3, z3⟩, st3⟩ := X2.specialBackS hx (y := (⟨"java/lang/String", "<init>", "([C)V"⟩ : MethodName)) rfl hown (mvT hZ (hw _ (List.mem_of_getElem? (i := 11) rfl))) (mvT hZ (hw _ (List.mem_of_getElem? (i := 12) rfl))) (mvT hZ (hw _ (List.mem_of_getElem? (i := 13) rfl))) (by decide) (own_backW (W := 1) (rm_sB l Z a0 hw [] b1 b2 (newA k2 .char (0 : Int32)) h2 n0 Zs2 Od2 CH hcw E_b1_2 F_value_b1_2 F_coder_b1_2 A2 lo_b1 (by rfl)) hZ (fun vm' q => VMx.warm q) (hw _ (List.mem_of_getElem? (i := 13) rfl)) (hw _ (List.mem_of_getElem? (i := 9) rfl)) (by decide) (by decide)) (g := (mkF m 45 #[.val (.int p1), .val (.int (p1 &&& (3 : Int32))), .val (.int ((((p1.toUInt32 >>> ((2 : Int32) &&& 31).toUInt32).toInt32) &&& (255 : Int32)).toUInt32.toUInt16.toUInt32.toInt32)), .val (.int ((((p1.toUInt32 >>> ((10 : Int32) &&& 31).toUInt32).toInt32) &&& (255 : Int32)).toUInt32.toUInt16.toUInt32.toInt32)), .val (.int ((((p1.toUInt32 >>> ((18 : Int32) &&& 31).toUInt32).toInt32) &&& (255 : Int32)).toUInt32.toUInt16.toUInt32.toInt32))] [(.ref b2), (.ref b1), (.ref b1)])) rfl (by rw [hml]; rfl) (Steps.refl _) (a := b1) (argsL := [(.ref b2)]) (rest := [(.ref b1)]) (lenOf pd_1 rfl) rfl (by show 2 * 0 + _ ≤ _; exact Nat.le_of_eq rfl) (hb hby d1_45) (fun _ _ => ⟨rfl, e2, (by decide : 0 + 1 + 1 + 2 ≤ _), (by decide : 0 + 4 + 0 + 4 ≤ _)⟩)
    dsimp only [Pt.U, Pt.locs, Pt.cells, Pt.slots] at X3 l3 y3 z3 st3 hQ3 hS3 hg3
    subst l3 y3 z3
    obtain ⟨rfl, N3q, Zs3, K3, S3, VM3⟩ := hQ3
    have N3 := Fr.app N0 N3q
    obtain ⟨X3, hS3, hZ, hown⟩ := rebS hS0 (by rw [e2]; exact hk2) X3 hS3 hg3 hZ hown
    have hk3 : T3.heap.size ≤ T3.heap.size := Nat.le_refl _
    refine own_goSW st3 ?_
    show own_GoesW _ _ _ _ _ _ _ T3 (mkF m 48 #[.val (.int p1), .val (.int (p1 &&& (3 : Int32))), .val (.int ((((p1.toUInt32 >>> ((2 : Int32) &&& 31).toUInt32).toInt32) &&& (255 : Int32)).toUInt32.toUInt16.toUInt32.toInt32)), .val (.int ((((p1.toUInt32 >>> ((10 : Int32) &&& 31).toUInt32).toInt32) &&& (255 : Int32)).toUInt32.toUInt16.toUInt32.toInt32)), .val (.int ((((p1.toUInt32 >>> ((18 : Int32) &&& 31).toUInt32).toInt32) &&& (255 : Int32)).toUInt32.toUInt16.toUInt32.toInt32))] [(.ref b1)])
    have E_b1_3 : Exa Z T3.heap b1 "java/lang/String" := E_b1_2.keep K3
    have Zs3 : n0 ≤ T3.heap.size := Nat.le_trans Zs2 K3.1
    have Kp3 : Keep h0 T3.heap [] := Kp2.trans K3 (allS (Or.inr bo_b1) all0)
    have Od3 : Old Z n0 T3.heap := Od2.keep K3 (allS lo_b1 all0)
    have ec : own_cs p1 = ([] : List Int32) := by rw [own_cs, if_pos hc35]
    have Sf := S3
    rw [← ec] at Sf
    exact own_retAW X3 hx hS3 hk3 hlk hret rfl rfl (hb hby d1_48) (by decide) (by decide) ⟨_, rfl, N3, Zs3, Kp3, Sf, (VM3.warm X3.warmed)⟩
  · refine own_goW (fun _ k => XS.ifYes X0.here hx rfl (pc0 := 35) (pc' := 49) rfl (hb hby d1_35) rfl ((if0 _ _).trans (feq hc35).2) (by decide) (by decide) k) ?_
    show own_GoesW _ _ _ _ _ _ _ s₁ (mkF m 49 #[.val (.int p1), .val (.int (p1 &&& (3 : Int32))), .val (.int ((((p1.toUInt32 >>> ((2 : Int32) &&& 31).toUInt32).toInt32) &&& (255 : Int32)).toUInt32.toUInt16.toUInt32.toInt32)), .val (.int ((((p1.toUInt32 >>> ((10 : Int32) &&& 31).toUInt32).toInt32) &&& (255 : Int32)).toUInt32.toUInt16.toUInt32.toInt32)), .val (.int ((((p1.toUInt32 >>> ((18 : Int32) &&& 31).toUInt32).toInt32) &&& (255 : Int32)).toUInt32.toUInt16.toUInt32.toInt32))] [])
    refine own_goW (fun _ k => XS.iloadN X0.here hx rfl (hb hby d1_49) rfl k) ?_
    show own_GoesW _ _ _ _ _ _ _ s₁ (mkF m 50 #[.val (.int p1), .val (.int (p1 &&& (3 : Int32))), .val (.int ((((p1.toUInt32 >>> ((2 : Int32) &&& 31).toUInt32).toInt32) &&& (255 : Int32)).toUInt32.toUInt16.toUInt32.toInt32)), .val (.int ((((p1.toUInt32 >>> ((10 : Int32) &&& 31).toUInt32).toInt32) &&& (255 : Int32)).toUInt32.toUInt16.toUInt32.toInt32)), .val (.int ((((p1.toUInt32 >>> ((18 : Int32) &&& 31).toUInt32).toInt32) &&& (255 : Int32)).toUInt32.toUInt16.toUInt32.toInt32))] [(.int (p1 &&& (3 : Int32)))])
    refine own_goW (fun _ k => XS.iconst X0.here hx rfl (hb hby d1_50) k) ?_
    show own_GoesW _ _ _ _ _ _ _ s₁ (mkF m 51 #[.val (.int p1), .val (.int (p1 &&& (3 : Int32))), .val (.int ((((p1.toUInt32 >>> ((2 : Int32) &&& 31).toUInt32).toInt32) &&& (255 : Int32)).toUInt32.toUInt16.toUInt32.toInt32)), .val (.int ((((p1.toUInt32 >>> ((10 : Int32) &&& 31).toUInt32).toInt32) &&& (255 : Int32)).toUInt32.toUInt16.toUInt32.toInt32)), .val (.int ((((p1.toUInt32 >>> ((18 : Int32) &&& 31).toUInt32).toInt32) &&& (255 : Int32)).toUInt32.toUInt16.toUInt32.toInt32))] [(.int (1 : Int32)), (.int (p1 &&& (3 : Int32)))])
    by_cases hc51 : (p1 &&& (3 : Int32)) = (1 : Int32)
    · refine own_goW (fun _ k => XS.icmpNo X0.here hx rfl (hb hby d1_51) rfl (teq hc51).2 k) ?_
      show own_GoesW _ _ _ _ _ _ _ s₁ (mkF m 54 #[.val (.int p1), .val (.int (p1 &&& (3 : Int32))), .val (.int ((((p1.toUInt32 >>> ((2 : Int32) &&& 31).toUInt32).toInt32) &&& (255 : Int32)).toUInt32.toUInt16.toUInt32.toInt32)), .val (.int ((((p1.toUInt32 >>> ((10 : Int32) &&& 31).toUInt32).toInt32) &&& (255 : Int32)).toUInt32.toUInt16.toUInt32.toInt32)), .val (.int ((((p1.toUInt32 >>> ((18 : Int32) &&& 31).toUInt32).toInt32) &&& (255 : Int32)).toUInt32.toUInt16.toUInt32.toInt32))] [])
      obtain ⟨T4, h4, X4, e4, E4, A4, D4, -, st4⟩ := newO X0 hx hZ hown (hw _ (List.mem_of_getElem? (i := 7) rfl)) (hw _ (List.mem_of_getElem? (i := 8) rfl)) (hw _ (List.mem_of_getElem? (i := 9) rfl)) e0 (g := (mkF m 54 #[.val (.int p1), .val (.int (p1 &&& (3 : Int32))), .val (.int ((((p1.toUInt32 >>> ((2 : Int32) &&& 31).toUInt32).toInt32) &&& (255 : Int32)).toUInt32.toUInt16.toUInt32.toInt32)), .val (.int ((((p1.toUInt32 >>> ((10 : Int32) &&& 31).toUInt32).toInt32) &&& (255 : Int32)).toUInt32.toUInt16.toUInt32.toInt32)), .val (.int ((((p1.toUInt32 >>> ((18 : Int32) &&& 31).toUInt32).toInt32) &&& (255 : Int32)).toUInt32.toUInt16.toUInt32.toInt32))] [])) rfl (hb hby d1_54) (by decide) (by decide)
      obtain ⟨b4, g4⟩ : ∃ z, z = h0.size := ⟨_, rfl⟩
      rw [← g4] at A4 D4 st4
      have lo_b4 : n0 ≤ b4 := Nat.le_trans Z0 (Nat.le_of_eq g4.symm)
      have bo_b4 : h0.size ≤ b4 := Nat.le_trans Kp0.1 (Nat.le_of_eq g4.symm)
      have hk4 : _ ≤ h4.size := Nat.le_trans hk0 E4.1
      have Zs4 : n0 ≤ h4.size := Nat.le_trans Z0 E4.1
      have Kp4 : Keep h0 h4 [] := Kp0.ext E4
      have Od4 : Old Z n0 h4 := Od0.ext E4
      have F_value_b4 : Fld Z h4 b4 "java/lang/String" "value" "[B" .null := D4 (Or.inr (hw _ (List.mem_of_getElem? (i := 23) rfl))) (ty := (.array .byte)) (by decide)
      have F_coder_b4 : Fld Z h4 b4 "java/lang/String" "coder" "B" (.int (0 : Int32)) := D4 (Or.inr (hw _ (List.mem_of_getElem? (i := 24) rfl))) (ty := .byte) (by decide)
      refine own_goW st4 ?_
      show own_GoesW _ _ _ _ _ _ _ T4 (mkF m 57 #[.val (.int p1), .val (.int (p1 &&& (3 : Int32))), .val (.int ((((p1.toUInt32 >>> ((2 : Int32) &&& 31).toUInt32).toInt32) &&& (255 : Int32)).toUInt32.toUInt16.toUInt32.toInt32)), .val (.int ((((p1.toUInt32 >>> ((10 : Int32) &&& 31).toUInt32).toInt32) &&& (255 : Int32)).toUInt32.toUInt16.toUInt32.toInt32)), .val (.int ((((p1.toUInt32 >>> ((18 : Int32) &&& 31).toUInt32).toInt32) &&& (255 : Int32)).toUInt32.toUInt16.toUInt32.toInt32))] [(.ref b4)])
      refine own_goW (fun _ k => XS.dup X4.here hx rfl (hb hby d1_57) rfl rfl k) ?_
      show own_GoesW _ _ _ _ _ _ _ T4 (mkF m 58 #[.val (.int p1), .val (.int (p1 &&& (3 : Int32))), .val (.int ((((p1.toUInt32 >>> ((2 : Int32) &&& 31).toUInt32).toInt32) &&& (255 : Int32)).toUInt32.toUInt16.toUInt32.toInt32)), .val (.int ((((p1.toUInt32 >>> ((10 : Int32) &&& 31).toUInt32).toInt32) &&& (255 : Int32)).toUInt32.toUInt16.toUInt32.toInt32)), .val (.int ((((p1.toUInt32 >>> ((18 : Int32) &&& 31).toUInt32).toInt32) &&& (255 : Int32)).toUInt32.toUInt16.toUInt32.toInt32))] [(.ref b4), (.ref b4)])
      refine own_goW (fun _ k => XS.iconst X4.here hx rfl (hb hby d1_58) k) ?_
      show own_GoesW _ _ _ _ _ _ _ T4 (mkF m 59 #[.val (.int p1), .val (.int (p1 &&& (3 : Int32))), .val (.int ((((p1.toUInt32 >>> ((2 : Int32) &&& 31).toUInt32).toInt32) &&& (255 : Int32)).toUInt32.toUInt16.toUInt32.toInt32)), .val (.int ((((p1.toUInt32 >>> ((10 : Int32) &&& 31).toUInt32).toInt32) &&& (255 : Int32)).toUInt32.toUInt16.toUInt32.toInt32)), .val (.int ((((p1.toUInt32 >>> ((18 : Int32) &&& 31).toUInt32).toInt32) &&& (255 : Int32)).toUInt32.toUInt16.toUInt32.toInt32))] [(.int (1 : Int32)), (.ref b4), (.ref b4)])
      obtain ⟨T5, h5, k5, X5, e5, E5, A5, st5⟩ := newP X4 hx hZ (hw _ (List.mem_of_getElem? (i := 10) rfl)) e4 (g := (mkF m 59 #[.val (.int p1), .val (.int (p1 &&& (3 : Int32))), .val (.int ((((p1.toUInt32 >>> ((2 : Int32) &&& 31).toUInt32).toInt32) &&& (255 : Int32)).toUInt32.toUInt16.toUInt32.toInt32)), .val (.int ((((p1.toUInt32 >>> ((10 : Int32) &&& 31).toUInt32).toInt32) &&& (255 : Int32)).toUInt32.toUInt16.toUInt32.toInt32)), .val (.int ((((p1.toUInt32 >>> ((18 : Int32) &&& 31).toUInt32).toInt32) &&& (255 : Int32)).toUInt32.toUInt16.toUInt32.toInt32))] [(.int (1 : Int32)), (.ref b4), (.ref b4)])) rfl (hb hby d1_59) rfl (by decide) (cap := 1) (by decide) (by decide) (by decide) (by decide)
      obtain ⟨b5, g5⟩ : ∃ z, z = h4.size := ⟨_, rfl⟩
      rw [← g5] at A5 st5
      have lo_b5 : n0 ≤ b5 := Nat.le_trans Zs4 (Nat.le_of_eq g5.symm)
      have bo_b5 : h0.size ≤ b5 := Nat.le_trans Kp4.1 (Nat.le_of_eq g5.symm)
      have ne_b4_b5 : b4 ≠ b5 := Nat.ne_of_lt (Nat.lt_of_lt_of_le A4.lt (Nat.le_of_eq g5.symm))
      have E_b4_5 : Exa Z h5 b4 "java/lang/String" := A4.ext E5
      have F_value_b4_5 : Fld Z h5 b4 "java/lang/String" "value" "[B" .null := F_value_b4.ext E5
      have F_coder_b4_5 : Fld Z h5 b4 "java/lang/String" "coder" "B" (.int (0 : Int32)) := F_coder_b4.ext E5
      have hk5 : _ ≤ h5.size := Nat.le_trans hk4 E5.1
      have Zs5 : n0 ≤ h5.size := Nat.le_trans Zs4 E5.1
      have Kp5 : Keep h0 h5 [] := Kp4.ext E5
      have Od5 : Old Z n0 h5 := Od4.ext E5
      refine own_goW st5 ?_
      show own_GoesW _ _ _ _ _ _ _ T5 (mkF m 61 #[.val (.int p1), .val (.int (p1 &&& (3 : Int32))), .val (.int ((((p1.toUInt32 >>> ((2 : Int32) &&& 31).toUInt32).toInt32) &&& (255 : Int32)).toUInt32.toUInt16.toUInt32.toInt32)), .val (.int ((((p1.toUInt32 >>> ((10 : Int32) &&& 31).toUInt32).toInt32) &&& (255 : Int32)).toUInt32.toUInt16.toUInt32.toInt32)), .val (.int ((((p1.toUInt32 >>> ((18 : Int32) &&& 31).toUInt32).toInt32) &&& (255 : Int32)).toUInt32.toUInt16.toUInt32.toInt32))] [(.ref b5), (.ref b4), (.ref b4)])
      refine own_goW (fun _ k => XS.dup X5.here hx rfl (hb hby d1_61) rfl rfl k) ?_
      show own_GoesW _ _ _ _ _ _ _ T5 (mkF m 62 #[.val (.int p1), .val (.int (p1 &&& (3 : Int32))), .val (.int ((((p1.toUInt32 >>> ((2 : Int32) &&& 31).toUInt32).toInt32) &&& (255 : Int32)).toUInt32.toUInt16.toUInt32.toInt32)), .val (.int ((((p1.toUInt32 >>> ((10 : Int32) &&& 31).toUInt32).toInt32) &&& (255 : Int32)).toUInt32.toUInt16.toUInt32.toInt32)), .val (.int ((((p1.toUInt32 >>> ((18 : Int32) &&& 31).toUInt32).toInt32) &&& (255 : Int32)).toUInt32.toUInt16.toUInt32.toInt32))] [(.ref b5), (.ref b5), (.ref b4), (.ref b4)])
      refine own_goW (fun _ k => XS.iconst X5.here hx rfl (hb hby d1_62) k) ?_
      show own_GoesW _ _ _ _ _ _ _ T5 (mkF m 63 #[.val (.int p1), .val (.int (p1 &&& (3 : Int32))), .val (.int ((((p1.toUInt32 >>> ((2 : Int32) &&& 31).toUInt32).toInt32) &&& (255 : Int32)).toUInt32.toUInt16.toUInt32.toInt32)), .val (.int ((((p1.toUInt32 >>> ((10 : Int32) &&& 31).toUInt32).toInt32) &&& (255 : Int32)).toUInt32.toUInt16.toUInt32.toInt32)), .val (.int ((((p1.toUInt32 >>> ((18 : Int32) &&& 31).toUInt32).toInt32) &&& (255 : Int32)).toUInt32.toUInt16.toUInt32.toInt32))] [(.int (0 : Int32)), (.ref b5), (.ref b5), (.ref b4), (.ref b4)])
      refine own_goW (fun _ k => XS.iloadN X5.here hx rfl (hb hby d1_63) rfl k) ?_
      show own_GoesW _ _ _ _ _ _ _ T5 (mkF m 64 #[.val (.int p1), .val (.int (p1 &&& (3 : Int32))), .val (.int ((((p1.toUInt32 >>> ((2 : Int32) &&& 31).toUInt32).toInt32) &&& (255 : Int32)).toUInt32.toUInt16.toUInt32.toInt32)), .val (.int ((((p1.toUInt32 >>> ((10 : Int32) &&& 31).toUInt32).toInt32) &&& (255 : Int32)).toUInt32.toUInt16.toUInt32.toInt32)), .val (.int ((((p1.toUInt32 >>> ((18 : Int32) &&& 31).toUInt32).toInt32) &&& (255 : Int32)).toUInt32.toUInt16.toUInt32.toInt32))] [(.int ((((p1.toUInt32 >>> ((2 : Int32) &&& 31).toUInt32).toInt32) &&& (255 : Int32)).toUInt32.toUInt16.toUInt32.toInt32)), (.int (0 : Int32)), (.ref b5), (.ref b5), (.ref b4), (.ref b4)])
      obtain ⟨T6, h6, X6, e6, W6, st6⟩ := stC X5 hx hZ e5 A5 (j := (0 : Int32)) (by show ¬ ((0 : Int32) < 0 ∨ 1 ≤ Int32.toNatClampNeg (0 : Int32)); decide) (g := (mkF m 64 #[.val (.int p1), .val (.int (p1 &&& (3 : Int32))), .val (.int ((((p1.toUInt32 >>> ((2 : Int32) &&& 31).toUInt32).toInt32) &&& (255 : Int32)).toUInt32.toUInt16.toUInt32.toInt32)), .val (.int ((((p1.toUInt32 >>> ((10 : Int32) &&& 31).toUInt32).toInt32) &&& (255 : Int32)).toUInt32.toUInt16.toUInt32.toInt32)), .val (.int ((((p1.toUInt32 >>> ((18 : Int32) &&& 31).toUInt32).toInt32) &&& (255 : Int32)).toUInt32.toUInt16.toUInt32.toInt32))] [(.int ((((p1.toUInt32 >>> ((2 : Int32) &&& 31).toUInt32).toInt32) &&& (255 : Int32)).toUInt32.toUInt16.toUInt32.toInt32)), (.int (0 : Int32)), (.ref b5), (.ref b5), (.ref b4), (.ref b4)])) rfl rfl (hb hby d1_64)
      have N6 := Fr.snoc X6 N0 lo_b5
      have E_b4_6 : Exa Z h6 b4 "java/lang/String" := E_b4_5.wr W6
      have F_value_b4_6 : Fld Z h6 b4 "java/lang/String" "value" "[B" .null := F_value_b4_5.other W6 (Or.inl ne_b4_b5)
      have F_coder_b4_6 : Fld Z h6 b4 "java/lang/String" "coder" "B" (.int (0 : Int32)) := F_coder_b4_5.other W6 (Or.inl ne_b4_b5)
      have hk6 : _ ≤ h6.size := Nat.le_trans hk5 (Keep.of_wr W6).1
      have Zs6 : n0 ≤ h6.size := Nat.le_trans Zs5 (Keep.of_wr W6).1
      have Kp6 : Keep h0 h6 [] := Kp5.wr W6 (Or.inr bo_b5)
      have Od6 : Old Z n0 h6 := Od5.wr W6 lo_b5
      have V_b5_6 : Arr Z h6 b5 ((newA k5 .char (1 : Int32)).setSlot ((0 : Int32)).toNatClampNeg (.int (nar .char ((((p1.toUInt32 >>> ((2 : Int32) &&& 31).toUInt32).toInt32) &&& (255 : Int32)).toUInt32.toUInt16.toUInt32.toInt32)))) .char := A5.same W6
      refine own_goW st6 ?_
      show own_GoesW _ _ _ _ _ _ _ T6 (mkF m 65 #[.val (.int p1), .val (.int (p1 &&& (3 : Int32))), .val (.int ((((p1.toUInt32 >>> ((2 : Int32) &&& 31).toUInt32).toInt32) &&& (255 : Int32)).toUInt32.toUInt16.toUInt32.toInt32)), .val (.int ((((p1.toUInt32 >>> ((10 : Int32) &&& 31).toUInt32).toInt32) &&& (255 : Int32)).toUInt32.toUInt16.toUInt32.toInt32)), .val (.int ((((p1.toUInt32 >>> ((18 : Int32) &&& 31).toUInt32).toInt32) &&& (255 : Int32)).toUInt32.toUInt16.toUInt32.toInt32))] [(.ref b5), (.ref b4), (.ref b4)])
      have V7 : Arv Z h6 b5 k5 .char 1 [.int (own_ch ((p1.toUInt32 >>> ((2 : Int32) &&& 31).toUInt32).toInt32))] (.int (0 : Int32)) := own_arv1 V_b5_6 (fits_nar_char _) 
      have hp7 : ∀ c ∈ ([own_ch ((p1.toUInt32 >>> ((2 : Int32) &&& 31).toUInt32).toInt32)] : List Int32), ¬ c < 0 ∧ ¬ (255 : Int32) < c := by
        intro c hc
        simp only [List.mem_cons, List.not_mem_nil, or_false] at hc
        rcases hc with rfl
        · exact own_ch_in _
      obtain ⟨_, _, ⟨T8, L8, k8, n8⟩, -, X8, ⟨Lc8, hQ8, l8, y8, z8⟩, st8⟩ := X6.specialBack hx (y := (⟨"java/lang/String", "<init>", "([C)V"⟩ : MethodName)) rfl hown (mvT hZ (hw _ (List.mem_of_getElem? (i := 11) rfl))) (mvT hZ (hw _ (List.mem_of_getElem? (i := 12) rfl))) (mvT hZ (hw _ (List.mem_of_getElem? (i := 13) rfl))) (by decide) (StrChars.Road.backV (W := 1) hZ (fun d hd => hw d (own_words d hd)) (kI := 4) (hw _ (List.mem_of_getElem? (i := 8) rfl)) (cs := ([own_ch ((p1.toUInt32 >>> ((2 : Int32) &&& 31).toUInt32).toInt32)] : List Int32)) (bs := ([own_ch ((p1.toUInt32 >>> ((2 : Int32) &&& 31).toUInt32).toInt32)] : List Int32).map (fun c => c.toInt8.toInt32)) (n := 1) lo_b4 Zs6 E_b4_6 F_value_b4_6 F_coder_b4_6 V7 (O2.ext Od6.2) P5 rfl rfl (by decide) (by decide) hp7 rfl (by decide) (by decide)) (g := (mkF m 65 #[.val (.int p1), .val (.int (p1 &&& (3 : Int32))), .val (.int ((((p1.toUInt32 >>> ((2 : Int32) &&& 31).toUInt32).toInt32) &&& (255 : Int32)).toUInt32.toUInt16.toUInt32.toInt32)), .val (.int ((((p1.toUInt32 >>> ((10 : Int32) &&& 31).toUInt32).toInt32) &&& (255 : Int32)).toUInt32.toUInt16.toUInt32.toInt32)), .val (.int ((((p1.toUInt32 >>> ((18 : Int32) &&& 31).toUInt32).toInt32) &&& (255 : Int32)).toUInt32.toUInt16.toUInt32.toInt32))] [(.ref b5), (.ref b4), (.ref b4)])) rfl (by rw [hml]; rfl) (Steps.refl _) (a := b4) (argsL := [(.ref b5)]) (rest := [(.ref b4)]) (lenOf pd_1 rfl) rfl (by show 2 * 0 + _ ≤ _; exact Nat.le_of_eq rfl) (hb hby d1_65) (fun _ _ => ⟨rfl, e6, (by decide : 0 + 1 + 1 + 1 ≤ _), (by decide : 0 + 4 + 1 + 1 ≤ _)⟩)
      dsimp only [Pt.U, Pt.locs, Pt.cells, Pt.slots] at X8 l8 y8 z8 st8 hQ8
      subst l8 y8 z8
      obtain ⟨rfl, N8q, K8, gE8, gC8, t8, kb8, gt8, gs8, gn8, gV8, gA8⟩ := hQ8
      have N8 := Fr.app N6 N8q
      refine own_goSW st8 ?_
      show own_GoesW _ _ _ _ _ _ _ T8 (mkF m 68 #[.val (.int p1), .val (.int (p1 &&& (3 : Int32))), .val (.int ((((p1.toUInt32 >>> ((2 : Int32) &&& 31).toUInt32).toInt32) &&& (255 : Int32)).toUInt32.toUInt16.toUInt32.toInt32)), .val (.int ((((p1.toUInt32 >>> ((10 : Int32) &&& 31).toUInt32).toInt32) &&& (255 : Int32)).toUInt32.toUInt16.toUInt32.toInt32)), .val (.int ((((p1.toUInt32 >>> ((18 : Int32) &&& 31).toUInt32).toInt32) &&& (255 : Int32)).toUInt32.toUInt16.toUInt32.toInt32))] [(.ref b4)])
      have E_b4_8 : Exa Z T8.heap b4 "java/lang/String" := E_b4_6.keep K8
      have hk8 : _ ≤ T8.heap.size := Nat.le_trans hk6 K8.1
      have Zs8 : n0 ≤ T8.heap.size := Nat.le_trans Zs6 K8.1
      have Kp8 : Keep h0 T8.heap [] := Kp6.trans K8 (allS (Or.inr bo_b4) all0)
      have Od8 : Old Z n0 T8.heap := Od6.keep K8 (allS lo_b4 all0)
      have S8 : own_Str2 Z T8.heap b4 [own_ch ((p1.toUInt32 >>> ((2 : Int32) &&& 31).toUInt32).toInt32)] := ⟨gE8, gC8, hp7, Nat.le_of_ble_eq_true rfl, _, _, gV8, gA8⟩
      have ec : own_cs p1 = [own_ch ((p1.toUInt32 >>> ((2 : Int32) &&& 31).toUInt32).toInt32)] := by rw [own_cs, if_neg hc35, if_pos hc51]
      have Sf := S8
      rw [← ec] at Sf
      have VMx : own_VM Z T8.heap s.vm := VM0.map (fun _ q => q.keep0 Kp8)
      exact own_retAW X8 hx hS0 hk8 hlk hret rfl rfl (hb hby d1_68) (by decide) (by decide) ⟨_, rfl, N8, Zs8, Kp8, Sf, (VMx.warm X8.warmed)⟩
    · refine own_goW (fun _ k => XS.icmpYes X0.here hx rfl (pc0 := 51) (pc' := 69) rfl (hb hby d1_51) rfl (feq hc51).2 (by decide) (by decide) k) ?_
      show own_GoesW _ _ _ _ _ _ _ s₁ (mkF m 69 #[.val (.int p1), .val (.int (p1 &&& (3 : Int32))), .val (.int ((((p1.toUInt32 >>> ((2 : Int32) &&& 31).toUInt32).toInt32) &&& (255 : Int32)).toUInt32.toUInt16.toUInt32.toInt32)), .val (.int ((((p1.toUInt32 >>> ((10 : Int32) &&& 31).toUInt32).toInt32) &&& (255 : Int32)).toUInt32.toUInt16.toUInt32.toInt32)), .val (.int ((((p1.toUInt32 >>> ((18 : Int32) &&& 31).toUInt32).toInt32) &&& (255 : Int32)).toUInt32.toUInt16.toUInt32.toInt32))] [])
      refine own_goW (fun _ k => XS.iloadN X0.here hx rfl (hb hby d1_69) rfl k) ?_
      show own_GoesW _ _ _ _ _ _ _ s₁ (mkF m 70 #[.val (.int p1), .val (.int (p1 &&& (3 : Int32))), .val (.int ((((p1.toUInt32 >>> ((2 : Int32) &&& 31).toUInt32).toInt32) &&& (255 : Int32)).toUInt32.toUInt16.toUInt32.toInt32)), .val (.int ((((p1.toUInt32 >>> ((10 : Int32) &&& 31).toUInt32).toInt32) &&& (255 : Int32)).toUInt32.toUInt16.toUInt32.toInt32)), .val (.int ((((p1.toUInt32 >>> ((18 : Int32) &&& 31).toUInt32).toInt32) &&& (255 : Int32)).toUInt32.toUInt16.toUInt32.toInt32))] [(.int (p1 &&& (3 : Int32)))])
      refine own_goW (fun _ k => XS.iconst X0.here hx rfl (hb hby d1_70) k) ?_
      show own_GoesW _ _ _ _ _ _ _ s₁ (mkF m 71 #[.val (.int p1), .val (.int (p1 &&& (3 : Int32))), .val (.int ((((p1.toUInt32 >>> ((2 : Int32) &&& 31).toUInt32).toInt32) &&& (255 : Int32)).toUInt32.toUInt16.toUInt32.toInt32)), .val (.int ((((p1.toUInt32 >>> ((10 : Int32) &&& 31).toUInt32).toInt32) &&& (255 : Int32)).toUInt32.toUInt16.toUInt32.toInt32)), .val (.int ((((p1.toUInt32 >>> ((18 : Int32) &&& 31).toUInt32).toInt32) &&& (255 : Int32)).toUInt32.toUInt16.toUInt32.toInt32))] [(.int (2 : Int32)), (.int (p1 &&& (3 : Int32)))])
      by_cases hc71 : (p1 &&& (3 : Int32)) = (2 : Int32)
      · refine own_goW (fun _ k => XS.icmpNo X0.here hx rfl (hb hby d1_71) rfl (teq hc71).2 k) ?_
        show own_GoesW _ _ _ _ _ _ _ s₁ (mkF m 74 #[.val (.int p1), .val (.int (p1 &&& (3 : Int32))), .val (.int ((((p1.toUInt32 >>> ((2 : Int32) &&& 31).toUInt32).toInt32) &&& (255 : Int32)).toUInt32.toUInt16.toUInt32.toInt32)), .val (.int ((((p1.toUInt32 >>> ((10 : Int32) &&& 31).toUInt32).toInt32) &&& (255 : Int32)).toUInt32.toUInt16.toUInt32.toInt32)), .val (.int ((((p1.toUInt32 >>> ((18 : Int32) &&& 31).toUInt32).toInt32) &&& (255 : Int32)).toUInt32.toUInt16.toUInt32.toInt32))] [])
        obtain ⟨T9, h9, X9, e9, E9, A9, D9, -, st9⟩ := newO X0 hx hZ hown (hw _ (List.mem_of_getElem? (i := 7) rfl)) (hw _ (List.mem_of_getElem? (i := 8) rfl)) (hw _ (List.mem_of_getElem? (i := 9) rfl)) e0 (g := (mkF m 74 #[.val (.int p1), .val (.int (p1 &&& (3 : Int32))), .val (.int ((((p1.toUInt32 >>> ((2 : Int32) &&& 31).toUInt32).toInt32) &&& (255 : Int32)).toUInt32.toUInt16.toUInt32.toInt32)), .val (.int ((((p1.toUInt32 >>> ((10 : Int32) &&& 31).toUInt32).toInt32) &&& (255 : Int32)).toUInt32.toUInt16.toUInt32.toInt32)), .val (.int ((((p1.toUInt32 >>> ((18 : Int32) &&& 31).toUInt32).toInt32) &&& (255 : Int32)).toUInt32.toUInt16.toUInt32.toInt32))] [])) rfl (hb hby d1_74) (by decide) (by decide)
        obtain ⟨b9, g9⟩ : ∃ z, z = h0.size := ⟨_, rfl⟩
        rw [← g9] at A9 D9 st9
        have lo_b9 : n0 ≤ b9 := Nat.le_trans Z0 (Nat.le_of_eq g9.symm)
        have bo_b9 : h0.size ≤ b9 := Nat.le_trans Kp0.1 (Nat.le_of_eq g9.symm)
        have hk9 : _ ≤ h9.size := Nat.le_trans hk0 E9.1
        have Zs9 : n0 ≤ h9.size := Nat.le_trans Z0 E9.1
        have Kp9 : Keep h0 h9 [] := Kp0.ext E9
        have Od9 : Old Z n0 h9 := Od0.ext E9
        have F_value_b9 : Fld Z h9 b9 "java/lang/String" "value" "[B" .null := D9 (Or.inr (hw _ (List.mem_of_getElem? (i := 23) rfl))) (ty := (.array .byte)) (by decide)
        have F_coder_b9 : Fld Z h9 b9 "java/lang/String" "coder" "B" (.int (0 : Int32)) := D9 (Or.inr (hw _ (List.mem_of_getElem? (i := 24) rfl))) (ty := .byte) (by decide)
        refine own_goW st9 ?_
        show own_GoesW _ _ _ _ _ _ _ T9 (mkF m 77 #[.val (.int p1), .val (.int (p1 &&& (3 : Int32))), .val (.int ((((p1.toUInt32 >>> ((2 : Int32) &&& 31).toUInt32).toInt32) &&& (255 : Int32)).toUInt32.toUInt16.toUInt32.toInt32)), .val (.int ((((p1.toUInt32 >>> ((10 : Int32) &&& 31).toUInt32).toInt32) &&& (255 : Int32)).toUInt32.toUInt16.toUInt32.toInt32)), .val (.int ((((p1.toUInt32 >>> ((18 : Int32) &&& 31).toUInt32).toInt32) &&& (255 : Int32)).toUInt32.toUInt16.toUInt32.toInt32))] [(.ref b9)])
        refine own_goW (fun _ k => XS.dup X9.here hx rfl (hb hby d1_77) rfl rfl k) ?_
        show own_GoesW _ _ _ _ _ _ _ T9 (mkF m 78 #[.val (.int p1), .val (.int (p1 &&& (3 : Int32))), .val (.int ((((p1.toUInt32 >>> ((2 : Int32) &&& 31).toUInt32).toInt32) &&& (255 : Int32)).toUInt32.toUInt16.toUInt32.toInt32)), .val (.int ((((p1.toUInt32 >>> ((10 : Int32) &&& 31).toUInt32).toInt32) &&& (255 : Int32)).toUInt32.toUInt16.toUInt32.toInt32)), .val (.int ((((p1.toUInt32 >>> ((18 : Int32) &&& 31).toUInt32).toInt32) &&& (255 : Int32)).toUInt32.toUInt16.toUInt32.toInt32))] [(.ref b9), (.ref b9)])
        refine own_goW (fun _ k => XS.iconst X9.here hx rfl (hb hby d1_78) k) ?_
        show own_GoesW _ _ _ _ _ _ _ T9 (mkF m 79 #[.val (.int p1), .val (.int (p1 &&& (3 : Int32))), .val (.int ((((p1.toUInt32 >>> ((2 : Int32) &&& 31).toUInt32).toInt32) &&& (255 : Int32)).toUInt32.toUInt16.toUInt32.toInt32)), .val (.int ((((p1.toUInt32 >>> ((10 : Int32) &&& 31).toUInt32).toInt32) &&& (255 : Int32)).toUInt32.toUInt16.toUInt32.toInt32)), .val (.int ((((p1.toUInt32 >>> ((18 : Int32) &&& 31).toUInt32).toInt32) &&& (255 : Int32)).toUInt32.toUInt16.toUInt32.toInt32))] [(.int (2 : Int32)), (.ref b9), (.ref b9)])
        obtain ⟨T10, h10, k10, X10, e10, E10, A10, st10⟩ := newP X9 hx hZ (hw _ (List.mem_of_getElem? (i := 10) rfl)) e9 (g := (mkF m 79 #[.val (.int p1), .val (.int (p1 &&& (3 : Int32))), .val (.int ((((p1.toUInt32 >>> ((2 : Int32) &&& 31).toUInt32).toInt32) &&& (255 : Int32)).toUInt32.toUInt16.toUInt32.toInt32)), .val (.int ((((p1.toUInt32 >>> ((10 : Int32) &&& 31).toUInt32).toInt32) &&& (255 : Int32)).toUInt32.toUInt16.toUInt32.toInt32)), .val (.int ((((p1.toUInt32 >>> ((18 : Int32) &&& 31).toUInt32).toInt32) &&& (255 : Int32)).toUInt32.toUInt16.toUInt32.toInt32))] [(.int (2 : Int32)), (.ref b9), (.ref b9)])) rfl (hb hby d1_79) rfl (by decide) (cap := 2) (by decide) (by decide) (by decide) (by decide)
        obtain ⟨b10, g10⟩ : ∃ z, z = h9.size := ⟨_, rfl⟩
        rw [← g10] at A10 st10
        have lo_b10 : n0 ≤ b10 := Nat.le_trans Zs9 (Nat.le_of_eq g10.symm)
        have bo_b10 : h0.size ≤ b10 := Nat.le_trans Kp9.1 (Nat.le_of_eq g10.symm)
        have ne_b9_b10 : b9 ≠ b10 := Nat.ne_of_lt (Nat.lt_of_lt_of_le A9.lt (Nat.le_of_eq g10.symm))
        have E_b9_10 : Exa Z h10 b9 "java/lang/String" := A9.ext E10
        have F_value_b9_10 : Fld Z h10 b9 "java/lang/String" "value" "[B" .null := F_value_b9.ext E10
        have F_coder_b9_10 : Fld Z h10 b9 "java/lang/String" "coder" "B" (.int (0 : Int32)) := F_coder_b9.ext E10
        have hk10 : _ ≤ h10.size := Nat.le_trans hk9 E10.1
        have Zs10 : n0 ≤ h10.size := Nat.le_trans Zs9 E10.1
        have Kp10 : Keep h0 h10 [] := Kp9.ext E10
        have Od10 : Old Z n0 h10 := Od9.ext E10
        refine own_goW st10 ?_
        show own_GoesW _ _ _ _ _ _ _ T10 (mkF m 81 #[.val (.int p1), .val (.int (p1 &&& (3 : Int32))), .val (.int ((((p1.toUInt32 >>> ((2 : Int32) &&& 31).toUInt32).toInt32) &&& (255 : Int32)).toUInt32.toUInt16.toUInt32.toInt32)), .val (.int ((((p1.toUInt32 >>> ((10 : Int32) &&& 31).toUInt32).toInt32) &&& (255 : Int32)).toUInt32.toUInt16.toUInt32.toInt32)), .val (.int ((((p1.toUInt32 >>> ((18 : Int32) &&& 31).toUInt32).toInt32) &&& (255 : Int32)).toUInt32.toUInt16.toUInt32.toInt32))] [(.ref b10), (.ref b9), (.ref b9)])
        refine own_goW (fun _ k => XS.dup X10.here hx rfl (hb hby d1_81) rfl rfl k) ?_
        show own_GoesW _ _ _ _ _ _ _ T10 (mkF m 82 #[.val (.int p1), .val (.int (p1 &&& (3 : Int32))), .val (.int ((((p1.toUInt32 >>> ((2 : Int32) &&& 31).toUInt32).toInt32) &&& (255 : Int32)).toUInt32.toUInt16.toUInt32.toInt32)), .val (.int ((((p1.toUInt32 >>> ((10 : Int32) &&& 31).toUInt32).toInt32) &&& (255 : Int32)).toUInt32.toUInt16.toUInt32.toInt32)), .val (.int ((((p1.toUInt32 >>> ((18 : Int32) &&& 31).toUInt32).toInt32) &&& (255 : Int32)).toUInt32.toUInt16.toUInt32.toInt32))] [(.ref b10), (.ref b10), (.ref b9), (.ref b9)])
        refine own_goW (fun _ k => XS.iconst X10.here hx rfl (hb hby d1_82) k) ?_
        show own_GoesW _ _ _ _ _ _ _ T10 (mkF m 83 #[.val (.int p1), .val (.int (p1 &&& (3 : Int32))), .val (.int ((((p1.toUInt32 >>> ((2 : Int32) &&& 31).toUInt32).toInt32) &&& (255 : Int32)).toUInt32.toUInt16.toUInt32.toInt32)), .val (.int ((((p1.toUInt32 >>> ((10 : Int32) &&& 31).toUInt32).toInt32) &&& (255 : Int32)).toUInt32.toUInt16.toUInt32.toInt32)), .val (.int ((((p1.toUInt32 >>> ((18 : Int32) &&& 31).toUInt32).toInt32) &&& (255 : Int32)).toUInt32.toUInt16.toUInt32.toInt32))] [(.int (0 : Int32)), (.ref b10), (.ref b10), (.ref b9), (.ref b9)])
        refine own_goW (fun _ k => XS.iloadN X10.here hx rfl (hb hby d1_83) rfl k) ?_
        show own_GoesW _ _ _ _ _ _ _ T10 (mkF m 84 #[.val (.int p1), .val (.int (p1 &&& (3 : Int32))), .val (.int ((((p1.toUInt32 >>> ((2 : Int32) &&& 31).toUInt32).toInt32) &&& (255 : Int32)).toUInt32.toUInt16.toUInt32.toInt32)), .val (.int ((((p1.toUInt32 >>> ((10 : Int32) &&& 31).toUInt32).toInt32) &&& (255 : Int32)).toUInt32.toUInt16.toUInt32.toInt32)), .val (.int ((((p1.toUInt32 >>> ((18 : Int32) &&& 31).toUInt32).toInt32) &&& (255 : Int32)).toUInt32.toUInt16.toUInt32.toInt32))] [(.int ((((p1.toUInt32 >>> ((2 : Int32) &&& 31).toUInt32).toInt32) &&& (255 : Int32)).toUInt32.toUInt16.toUInt32.toInt32)), (.int (0 : Int32)), (.ref b10), (.ref b10), (.ref b9), (.ref b9)])
        obtain ⟨T11, h11, X11, e11, W11, st11⟩ := stC X10 hx hZ e10 A10 (j := (0 : Int32)) (by show ¬ ((0 : Int32) < 0 ∨ 2 ≤ Int32.toNatClampNeg (0 : Int32)); decide) (g := (mkF m 84 #[.val (.int p1), .val (.int (p1 &&& (3 : Int32))), .val (.int ((((p1.toUInt32 >>> ((2 : Int32) &&& 31).toUInt32).toInt32) &&& (255 : Int32)).toUInt32.toUInt16.toUInt32.toInt32)), .val (.int ((((p1.toUInt32 >>> ((10 : Int32) &&& 31).toUInt32).toInt32) &&& (255 : Int32)).toUInt32.toUInt16.toUInt32.toInt32)), .val (.int ((((p1.toUInt32 >>> ((18 : Int32) &&& 31).toUInt32).toInt32) &&& (255 : Int32)).toUInt32.toUInt16.toUInt32.toInt32))] [(.int ((((p1.toUInt32 >>> ((2 : Int32) &&& 31).toUInt32).toInt32) &&& (255 : Int32)).toUInt32.toUInt16.toUInt32.toInt32)), (.int (0 : Int32)), (.ref b10), (.ref b10), (.ref b9), (.ref b9)])) rfl rfl (hb hby d1_84)
        have N11 := Fr.snoc X11 N0 lo_b10
        have E_b9_11 : Exa Z h11 b9 "java/lang/String" := E_b9_10.wr W11
        have F_value_b9_11 : Fld Z h11 b9 "java/lang/String" "value" "[B" .null := F_value_b9_10.other W11 (Or.inl ne_b9_b10)
        have F_coder_b9_11 : Fld Z h11 b9 "java/lang/String" "coder" "B" (.int (0 : Int32)) := F_coder_b9_10.other W11 (Or.inl ne_b9_b10)
        have hk11 : _ ≤ h11.size := Nat.le_trans hk10 (Keep.of_wr W11).1
        have Zs11 : n0 ≤ h11.size := Nat.le_trans Zs10 (Keep.of_wr W11).1
        have Kp11 : Keep h0 h11 [] := Kp10.wr W11 (Or.inr bo_b10)
        have Od11 : Old Z n0 h11 := Od10.wr W11 lo_b10
        have V_b10_11 : Arr Z h11 b10 ((newA k10 .char (2 : Int32)).setSlot ((0 : Int32)).toNatClampNeg (.int (nar .char ((((p1.toUInt32 >>> ((2 : Int32) &&& 31).toUInt32).toInt32) &&& (255 : Int32)).toUInt32.toUInt16.toUInt32.toInt32)))) .char := A10.same W11
        refine own_goW st11 ?_
        show own_GoesW _ _ _ _ _ _ _ T11 (mkF m 85 #[.val (.int p1), .val (.int (p1 &&& (3 : Int32))), .val (.int ((((p1.toUInt32 >>> ((2 : Int32) &&& 31).toUInt32).toInt32) &&& (255 : Int32)).toUInt32.toUInt16.toUInt32.toInt32)), .val (.int ((((p1.toUInt32 >>> ((10 : Int32) &&& 31).toUInt32).toInt32) &&& (255 : Int32)).toUInt32.toUInt16.toUInt32.toInt32)), .val (.int ((((p1.toUInt32 >>> ((18 : Int32) &&& 31).toUInt32).toInt32) &&& (255 : Int32)).toUInt32.toUInt16.toUInt32.toInt32))] [(.ref b10), (.ref b9), (.ref b9)])
        refine own_goW (fun _ k => XS.dup X11.here hx rfl (hb hby d1_85) rfl rfl k) ?_
        show own_GoesW _ _ _ _ _ _ _ T11 (mkF m 86 #[.val (.int p1), .val (.int (p1 &&& (3 : Int32))), .val (.int ((((p1.toUInt32 >>> ((2 : Int32) &&& 31).toUInt32).toInt32) &&& (255 : Int32)).toUInt32.toUInt16.toUInt32.toInt32)), .val (.int ((((p1.toUInt32 >>> ((10 : Int32) &&& 31).toUInt32).toInt32) &&& (255 : Int32)).toUInt32.toUInt16.toUInt32.toInt32)), .val (.int ((((p1.toUInt32 >>> ((18 : Int32) &&& 31).toUInt32).toInt32) &&& (255 : Int32)).toUInt32.toUInt16.toUInt32.toInt32))] [(.ref b10), (.ref b10), (.ref b9), (.ref b9)])
        refine own_goW (fun _ k => XS.iconst X11.here hx rfl (hb hby d1_86) k) ?_
        show own_GoesW _ _ _ _ _ _ _ T11 (mkF m 87 #[.val (.int p1), .val (.int (p1 &&& (3 : Int32))), .val (.int ((((p1.toUInt32 >>> ((2 : Int32) &&& 31).toUInt32).toInt32) &&& (255 : Int32)).toUInt32.toUInt16.toUInt32.toInt32)), .val (.int ((((p1.toUInt32 >>> ((10 : Int32) &&& 31).toUInt32).toInt32) &&& (255 : Int32)).toUInt32.toUInt16.toUInt32.toInt32)), .val (.int ((((p1.toUInt32 >>> ((18 : Int32) &&& 31).toUInt32).toInt32) &&& (255 : Int32)).toUInt32.toUInt16.toUInt32.toInt32))] [(.int (1 : Int32)), (.ref b10), (.ref b10), (.ref b9), (.ref b9)])
        refine own_goW (fun _ k => XS.iloadN X11.here hx rfl (hb hby d1_87) rfl k) ?_
        show own_GoesW _ _ _ _ _ _ _ T11 (mkF m 88 #[.val (.int p1), .val (.int (p1 &&& (3 : Int32))), .val (.int ((((p1.toUInt32 >>> ((2 : Int32) &&& 31).toUInt32).toInt32) &&& (255 : Int32)).toUInt32.toUInt16.toUInt32.toInt32)), .val (.int ((((p1.toUInt32 >>> ((10 : Int32) &&& 31).toUInt32).toInt32) &&& (255 : Int32)).toUInt32.toUInt16.toUInt32.toInt32)), .val (.int ((((p1.toUInt32 >>> ((18 : Int32) &&& 31).toUInt32).toInt32) &&& (255 : Int32)).toUInt32.toUInt16.toUInt32.toInt32))] [(.int ((((p1.toUInt32 >>> ((10 : Int32) &&& 31).toUInt32).toInt32) &&& (255 : Int32)).toUInt32.toUInt16.toUInt32.toInt32)), (.int (1 : Int32)), (.ref b10), (.ref b10), (.ref b9), (.ref b9)])
        obtain ⟨T12, h12, X12, e12, W12, st12⟩ := stC X11 hx hZ e11 V_b10_11 (j := (1 : Int32)) (by show ¬ ((1 : Int32) < 0 ∨ 2 ≤ Int32.toNatClampNeg (1 : Int32)); decide) (g := (mkF m 88 #[.val (.int p1), .val (.int (p1 &&& (3 : Int32))), .val (.int ((((p1.toUInt32 >>> ((2 : Int32) &&& 31).toUInt32).toInt32) &&& (255 : Int32)).toUInt32.toUInt16.toUInt32.toInt32)), .val (.int ((((p1.toUInt32 >>> ((10 : Int32) &&& 31).toUInt32).toInt32) &&& (255 : Int32)).toUInt32.toUInt16.toUInt32.toInt32)), .val (.int ((((p1.toUInt32 >>> ((18 : Int32) &&& 31).toUInt32).toInt32) &&& (255 : Int32)).toUInt32.toUInt16.toUInt32.toInt32))] [(.int ((((p1.toUInt32 >>> ((10 : Int32) &&& 31).toUInt32).toInt32) &&& (255 : Int32)).toUInt32.toUInt16.toUInt32.toInt32)), (.int (1 : Int32)), (.ref b10), (.ref b10), (.ref b9), (.ref b9)])) rfl rfl (hb hby d1_88)
        have N12 := Fr.snoc X12 N11 lo_b10
        have E_b9_12 : Exa Z h12 b9 "java/lang/String" := E_b9_11.wr W12
        have F_value_b9_12 : Fld Z h12 b9 "java/lang/String" "value" "[B" .null := F_value_b9_11.other W12 (Or.inl ne_b9_b10)
        have F_coder_b9_12 : Fld Z h12 b9 "java/lang/String" "coder" "B" (.int (0 : Int32)) := F_coder_b9_11.other W12 (Or.inl ne_b9_b10)
        have hk12 : _ ≤ h12.size := Nat.le_trans hk11 (Keep.of_wr W12).1
        have Zs12 : n0 ≤ h12.size := Nat.le_trans Zs11 (Keep.of_wr W12).1
        have Kp12 : Keep h0 h12 [] := Kp11.wr W12 (Or.inr bo_b10)
        have Od12 : Old Z n0 h12 := Od11.wr W12 lo_b10
        have V_b10_12 : Arr Z h12 b10 (((newA k10 .char (2 : Int32)).setSlot ((0 : Int32)).toNatClampNeg (.int (nar .char ((((p1.toUInt32 >>> ((2 : Int32) &&& 31).toUInt32).toInt32) &&& (255 : Int32)).toUInt32.toUInt16.toUInt32.toInt32)))).setSlot ((1 : Int32)).toNatClampNeg (.int (nar .char ((((p1.toUInt32 >>> ((10 : Int32) &&& 31).toUInt32).toInt32) &&& (255 : Int32)).toUInt32.toUInt16.toUInt32.toInt32)))) .char := V_b10_11.same W12
        refine own_goW st12 ?_
        show own_GoesW _ _ _ _ _ _ _ T12 (mkF m 89 #[.val (.int p1), .val (.int (p1 &&& (3 : Int32))), .val (.int ((((p1.toUInt32 >>> ((2 : Int32) &&& 31).toUInt32).toInt32) &&& (255 : Int32)).toUInt32.toUInt16.toUInt32.toInt32)), .val (.int ((((p1.toUInt32 >>> ((10 : Int32) &&& 31).toUInt32).toInt32) &&& (255 : Int32)).toUInt32.toUInt16.toUInt32.toInt32)), .val (.int ((((p1.toUInt32 >>> ((18 : Int32) &&& 31).toUInt32).toInt32) &&& (255 : Int32)).toUInt32.toUInt16.toUInt32.toInt32))] [(.ref b10), (.ref b9), (.ref b9)])
        have V13 : Arv Z h12 b10 k10 .char 2 [.int (own_ch ((p1.toUInt32 >>> ((2 : Int32) &&& 31).toUInt32).toInt32)), .int (own_ch ((p1.toUInt32 >>> ((10 : Int32) &&& 31).toUInt32).toInt32))] (.int (0 : Int32)) := own_arv2 V_b10_12 (fits_nar_char _) (fits_nar_char _) 
        have hp13 : ∀ c ∈ ([own_ch ((p1.toUInt32 >>> ((2 : Int32) &&& 31).toUInt32).toInt32), own_ch ((p1.toUInt32 >>> ((10 : Int32) &&& 31).toUInt32).toInt32)] : List Int32), ¬ c < 0 ∧ ¬ (255 : Int32) < c := by
          intro c hc
          simp only [List.mem_cons, List.not_mem_nil, or_false] at hc
          rcases hc with rfl | rfl
          · exact own_ch_in _
          · exact own_ch_in _
        obtain ⟨_, _, ⟨T14, L14, k14, n14⟩, -, X14, ⟨Lc14, hQ14, l14, y14, z14⟩, st14⟩ := X12.specialBack hx (y := (⟨"java/lang/String", "<init>", "([C)V"⟩ : MethodName)) rfl hown (mvT hZ (hw _ (List.mem_of_getElem? (i := 11) rfl))) (mvT hZ (hw _ (List.mem_of_getElem? (i := 12) rfl))) (mvT hZ (hw _ (List.mem_of_getElem? (i := 13) rfl))) (by decide) (StrChars.Road.backV (W := 1) hZ (fun d hd => hw d (own_words d hd)) (kI := 4) (hw _ (List.mem_of_getElem? (i := 8) rfl)) (cs := ([own_ch ((p1.toUInt32 >>> ((2 : Int32) &&& 31).toUInt32).toInt32), own_ch ((p1.toUInt32 >>> ((10 : Int32) &&& 31).toUInt32).toInt32)] : List Int32)) (bs := ([own_ch ((p1.toUInt32 >>> ((2 : Int32) &&& 31).toUInt32).toInt32), own_ch ((p1.toUInt32 >>> ((10 : Int32) &&& 31).toUInt32).toInt32)] : List Int32).map (fun c => c.toInt8.toInt32)) (n := 2) lo_b9 Zs12 E_b9_12 F_value_b9_12 F_coder_b9_12 V13 (O2.ext Od12.2) P5 rfl rfl (by decide) (by decide) hp13 rfl (by decide) (by decide)) (g := (mkF m 89 #[.val (.int p1), .val (.int (p1 &&& (3 : Int32))), .val (.int ((((p1.toUInt32 >>> ((2 : Int32) &&& 31).toUInt32).toInt32) &&& (255 : Int32)).toUInt32.toUInt16.toUInt32.toInt32)), .val (.int ((((p1.toUInt32 >>> ((10 : Int32) &&& 31).toUInt32).toInt32) &&& (255 : Int32)).toUInt32.toUInt16.toUInt32.toInt32)), .val (.int ((((p1.toUInt32 >>> ((18 : Int32) &&& 31).toUInt32).toInt32) &&& (255 : Int32)).toUInt32.toUInt16.toUInt32.toInt32))] [(.ref b10), (.ref b9), (.ref b9)])) rfl (by rw [hml]; rfl) (Steps.refl _) (a := b9) (argsL := [(.ref b10)]) (rest := [(.ref b9)]) (lenOf pd_1 rfl) rfl (by show 2 * 0 + _ ≤ _; exact Nat.le_of_eq rfl) (hb hby d1_89) (fun _ _ => ⟨rfl, e12, (by decide : 0 + 1 + 1 + 1 ≤ _), (by decide : 0 + 4 + 2 + 2 ≤ _)⟩)
        dsimp only [Pt.U, Pt.locs, Pt.cells, Pt.slots] at X14 l14 y14 z14 st14 hQ14
        subst l14 y14 z14
        obtain ⟨rfl, N14q, K14, gE14, gC14, t14, kb14, gt14, gs14, gn14, gV14, gA14⟩ := hQ14
        have N14 := Fr.app N12 N14q
        refine own_goSW st14 ?_
        show own_GoesW _ _ _ _ _ _ _ T14 (mkF m 92 #[.val (.int p1), .val (.int (p1 &&& (3 : Int32))), .val (.int ((((p1.toUInt32 >>> ((2 : Int32) &&& 31).toUInt32).toInt32) &&& (255 : Int32)).toUInt32.toUInt16.toUInt32.toInt32)), .val (.int ((((p1.toUInt32 >>> ((10 : Int32) &&& 31).toUInt32).toInt32) &&& (255 : Int32)).toUInt32.toUInt16.toUInt32.toInt32)), .val (.int ((((p1.toUInt32 >>> ((18 : Int32) &&& 31).toUInt32).toInt32) &&& (255 : Int32)).toUInt32.toUInt16.toUInt32.toInt32))] [(.ref b9)])
        have E_b9_14 : Exa Z T14.heap b9 "java/lang/String" := E_b9_12.keep K14
        have hk14 : _ ≤ T14.heap.size := Nat.le_trans hk12 K14.1
        have Zs14 : n0 ≤ T14.heap.size := Nat.le_trans Zs12 K14.1
        have Kp14 : Keep h0 T14.heap [] := Kp12.trans K14 (allS (Or.inr bo_b9) all0)
        have Od14 : Old Z n0 T14.heap := Od12.keep K14 (allS lo_b9 all0)
        have S14 : own_Str2 Z T14.heap b9 [own_ch ((p1.toUInt32 >>> ((2 : Int32) &&& 31).toUInt32).toInt32), own_ch ((p1.toUInt32 >>> ((10 : Int32) &&& 31).toUInt32).toInt32)] := ⟨gE14, gC14, hp13, Nat.le_of_ble_eq_true rfl, _, _, gV14, gA14⟩
        have ec : own_cs p1 = [own_ch ((p1.toUInt32 >>> ((2 : Int32) &&& 31).toUInt32).toInt32), own_ch ((p1.toUInt32 >>> ((10 : Int32) &&& 31).toUInt32).toInt32)] := by rw [own_cs, if_neg hc35, if_neg hc51, if_pos hc71]
        have Sf := S14
        rw [← ec] at Sf
        have VMx : own_VM Z T14.heap s.vm := VM0.map (fun _ q => q.keep0 Kp14)
        exact own_retAW X14 hx hS0 hk14 hlk hret rfl rfl (hb hby d1_92) (by decide) (by decide) ⟨_, rfl, N14, Zs14, Kp14, Sf, (VMx.warm X14.warmed)⟩
      · refine own_goW (fun _ k => XS.icmpYes X0.here hx rfl (pc0 := 71) (pc' := 93) rfl (hb hby d1_71) rfl (feq hc71).2 (by decide) (by decide) k) ?_
        show own_GoesW _ _ _ _ _ _ _ s₁ (mkF m 93 #[.val (.int p1), .val (.int (p1 &&& (3 : Int32))), .val (.int ((((p1.toUInt32 >>> ((2 : Int32) &&& 31).toUInt32).toInt32) &&& (255 : Int32)).toUInt32.toUInt16.toUInt32.toInt32)), .val (.int ((((p1.toUInt32 >>> ((10 : Int32) &&& 31).toUInt32).toInt32) &&& (255 : Int32)).toUInt32.toUInt16.toUInt32.toInt32)), .val (.int ((((p1.toUInt32 >>> ((18 : Int32) &&& 31).toUInt32).toInt32) &&& (255 : Int32)).toUInt32.toUInt16.toUInt32.toInt32))] [])
        obtain ⟨T15, h15, X15, e15, E15, A15, D15, -, st15⟩ := newO X0 hx hZ hown (hw _ (List.mem_of_getElem? (i := 7) rfl)) (hw _ (List.mem_of_getElem? (i := 8) rfl)) (hw _ (List.mem_of_getElem? (i := 9) rfl)) e0 (g := (mkF m 93 #[.val (.int p1), .val (.int (p1 &&& (3 : Int32))), .val (.int ((((p1.toUInt32 >>> ((2 : Int32) &&& 31).toUInt32).toInt32) &&& (255 : Int32)).toUInt32.toUInt16.toUInt32.toInt32)), .val (.int ((((p1.toUInt32 >>> ((10 : Int32) &&& 31).toUInt32).toInt32) &&& (255 : Int32)).toUInt32.toUInt16.toUInt32.toInt32)), .val (.int ((((p1.toUInt32 >>> ((18 : Int32) &&& 31).toUInt32).toInt32) &&& (255 : Int32)).toUInt32.toUInt16.toUInt32.toInt32))] [])) rfl (hb hby d1_93) (by decide) (by decide)
        obtain ⟨b15, g15⟩ : ∃ z, z = h0.size := ⟨_, rfl⟩
        rw [← g15] at A15 D15 st15
        have lo_b15 : n0 ≤ b15 := Nat.le_trans Z0 (Nat.le_of_eq g15.symm)
        have bo_b15 : h0.size ≤ b15 := Nat.le_trans Kp0.1 (Nat.le_of_eq g15.symm)
        have hk15 : _ ≤ h15.size := Nat.le_trans hk0 E15.1
        have Zs15 : n0 ≤ h15.size := Nat.le_trans Z0 E15.1
        have Kp15 : Keep h0 h15 [] := Kp0.ext E15
        have Od15 : Old Z n0 h15 := Od0.ext E15
        have F_value_b15 : Fld Z h15 b15 "java/lang/String" "value" "[B" .null := D15 (Or.inr (hw _ (List.mem_of_getElem? (i := 23) rfl))) (ty := (.array .byte)) (by decide)
        have F_coder_b15 : Fld Z h15 b15 "java/lang/String" "coder" "B" (.int (0 : Int32)) := D15 (Or.inr (hw _ (List.mem_of_getElem? (i := 24) rfl))) (ty := .byte) (by decide)
        refine own_goW st15 ?_
        show own_GoesW _ _ _ _ _ _ _ T15 (mkF m 96 #[.val (.int p1), .val (.int (p1 &&& (3 : Int32))), .val (.int ((((p1.toUInt32 >>> ((2 : Int32) &&& 31).toUInt32).toInt32) &&& (255 : Int32)).toUInt32.toUInt16.toUInt32.toInt32)), .val (.int ((((p1.toUInt32 >>> ((10 : Int32) &&& 31).toUInt32).toInt32) &&& (255 : Int32)).toUInt32.toUInt16.toUInt32.toInt32)), .val (.int ((((p1.toUInt32 >>> ((18 : Int32) &&& 31).toUInt32).toInt32) &&& (255 : Int32)).toUInt32.toUInt16.toUInt32.toInt32))] [(.ref b15)])
        refine own_goW (fun _ k => XS.dup X15.here hx rfl (hb hby d1_96) rfl rfl k) ?_
        show own_GoesW _ _ _ _ _ _ _ T15 (mkF m 97 #[.val (.int p1), .val (.int (p1 &&& (3 : Int32))), .val (.int ((((p1.toUInt32 >>> ((2 : Int32) &&& 31).toUInt32).toInt32) &&& (255 : Int32)).toUInt32.toUInt16.toUInt32.toInt32)), .val (.int ((((p1.toUInt32 >>> ((10 : Int32) &&& 31).toUInt32).toInt32) &&& (255 : Int32)).toUInt32.toUInt16.toUInt32.toInt32)), .val (.int ((((p1.toUInt32 >>> ((18 : Int32) &&& 31).toUInt32).toInt32) &&& (255 : Int32)).toUInt32.toUInt16.toUInt32.toInt32))] [(.ref b15), (.ref b15)])
        refine own_goW (fun _ k => XS.iconst X15.here hx rfl (hb hby d1_97) k) ?_
        show own_GoesW _ _ _ _ _ _ _ T15 (mkF m 98 #[.val (.int p1), .val (.int (p1 &&& (3 : Int32))), .val (.int ((((p1.toUInt32 >>> ((2 : Int32) &&& 31).toUInt32).toInt32) &&& (255 : Int32)).toUInt32.toUInt16.toUInt32.toInt32)), .val (.int ((((p1.toUInt32 >>> ((10 : Int32) &&& 31).toUInt32).toInt32) &&& (255 : Int32)).toUInt32.toUInt16.toUInt32.toInt32)), .val (.int ((((p1.toUInt32 >>> ((18 : Int32) &&& 31).toUInt32).toInt32) &&& (255 : Int32)).toUInt32.toUInt16.toUInt32.toInt32))] [(.int (3 : Int32)), (.ref b15), (.ref b15)])
        obtain ⟨T16, h16, k16, X16, e16, E16, A16, st16⟩ := newP X15 hx hZ (hw _ (List.mem_of_getElem? (i := 10) rfl)) e15 (g := (mkF m 98 #[.val (.int p1), .val (.int (p1 &&& (3 : Int32))), .val (.int ((((p1.toUInt32 >>> ((2 : Int32) &&& 31).toUInt32).toInt32) &&& (255 : Int32)).toUInt32.toUInt16.toUInt32.toInt32)), .val (.int ((((p1.toUInt32 >>> ((10 : Int32) &&& 31).toUInt32).toInt32) &&& (255 : Int32)).toUInt32.toUInt16.toUInt32.toInt32)), .val (.int ((((p1.toUInt32 >>> ((18 : Int32) &&& 31).toUInt32).toInt32) &&& (255 : Int32)).toUInt32.toUInt16.toUInt32.toInt32))] [(.int (3 : Int32)), (.ref b15), (.ref b15)])) rfl (hb hby d1_98) rfl (by decide) (cap := 3) (by decide) (by decide) (by decide) (by decide)
        obtain ⟨b16, g16⟩ : ∃ z, z = h15.size := ⟨_, rfl⟩
        rw [← g16] at A16 st16
        have lo_b16 : n0 ≤ b16 := Nat.le_trans Zs15 (Nat.le_of_eq g16.symm)
        have bo_b16 : h0.size ≤ b16 := Nat.le_trans Kp15.1 (Nat.le_of_eq g16.symm)
        have ne_b15_b16 : b15 ≠ b16 := Nat.ne_of_lt (Nat.lt_of_lt_of_le A15.lt (Nat.le_of_eq g16.symm))
        have E_b15_16 : Exa Z h16 b15 "java/lang/String" := A15.ext E16
        have F_value_b15_16 : Fld Z h16 b15 "java/lang/String" "value" "[B" .null := F_value_b15.ext E16
        have F_coder_b15_16 : Fld Z h16 b15 "java/lang/String" "coder" "B" (.int (0 : Int32)) := F_coder_b15.ext E16
        have hk16 : _ ≤ h16.size := Nat.le_trans hk15 E16.1
        have Zs16 : n0 ≤ h16.size := Nat.le_trans Zs15 E16.1
        have Kp16 : Keep h0 h16 [] := Kp15.ext E16
        have Od16 : Old Z n0 h16 := Od15.ext E16
        refine own_goW st16 ?_
        show own_GoesW _ _ _ _ _ _ _ T16 (mkF m 100 #[.val (.int p1), .val (.int (p1 &&& (3 : Int32))), .val (.int ((((p1.toUInt32 >>> ((2 : Int32) &&& 31).toUInt32).toInt32) &&& (255 : Int32)).toUInt32.toUInt16.toUInt32.toInt32)), .val (.int ((((p1.toUInt32 >>> ((10 : Int32) &&& 31).toUInt32).toInt32) &&& (255 : Int32)).toUInt32.toUInt16.toUInt32.toInt32)), .val (.int ((((p1.toUInt32 >>> ((18 : Int32) &&& 31).toUInt32).toInt32) &&& (255 : Int32)).toUInt32.toUInt16.toUInt32.toInt32))] [(.ref b16), (.ref b15), (.ref b15)])
        refine own_goW (fun _ k => XS.dup X16.here hx rfl (hb hby d1_100) rfl rfl k) ?_
        show own_GoesW _ _ _ _ _ _ _ T16 (mkF m 101 #[.val (.int p1), .val (.int (p1 &&& (3 : Int32))), .val (.int ((((p1.toUInt32 >>> ((2 : Int32) &&& 31).toUInt32).toInt32) &&& (255 : Int32)).toUInt32.toUInt16.toUInt32.toInt32)), .val (.int ((((p1.toUInt32 >>> ((10 : Int32) &&& 31).toUInt32).toInt32) &&& (255 : Int32)).toUInt32.toUInt16.toUInt32.toInt32)), .val (.int ((((p1.toUInt32 >>> ((18 : Int32) &&& 31).toUInt32).toInt32) &&& (255 : Int32)).toUInt32.toUInt16.toUInt32.toInt32))] [(.ref b16), (.ref b16), (.ref b15), (.ref b15)])
        refine own_goW (fun _ k => XS.iconst X16.here hx rfl (hb hby d1_101) k) ?_
        show own_GoesW _ _ _ _ _ _ _ T16 (mkF m 102 #[.val (.int p1), .val (.int (p1 &&& (3 : Int32))), .val (.int ((((p1.toUInt32 >>> ((2 : Int32) &&& 31).toUInt32).toInt32) &&& (255 : Int32)).toUInt32.toUInt16.toUInt32.toInt32)), .val (.int ((((p1.toUInt32 >>> ((10 : Int32) &&& 31).toUInt32).toInt32) &&& (255 : Int32)).toUInt32.toUInt16.toUInt32.toInt32)), .val (.int ((((p1.toUInt32 >>> ((18 : Int32) &&& 31).toUInt32).toInt32) &&& (255 : Int32)).toUInt32.toUInt16.toUInt32.toInt32))] [(.int (0 : Int32)), (.ref b16), (.ref b16), (.ref b15), (.ref b15)])
        refine own_goW (fun _ k => XS.iloadN X16.here hx rfl (hb hby d1_102) rfl k) ?_
        show own_GoesW _ _ _ _ _ _ _ T16 (mkF m 103 #[.val (.int p1), .val (.int (p1 &&& (3 : Int32))), .val (.int ((((p1.toUInt32 >>> ((2 : Int32) &&& 31).toUInt32).toInt32) &&& (255 : Int32)).toUInt32.toUInt16.toUInt32.toInt32)), .val (.int ((((p1.toUInt32 >>> ((10 : Int32) &&& 31).toUInt32).toInt32) &&& (255 : Int32)).toUInt32.toUInt16.toUInt32.toInt32)), .val (.int ((((p1.toUInt32 >>> ((18 : Int32) &&& 31).toUInt32).toInt32) &&& (255 : Int32)).toUInt32.toUInt16.toUInt32.toInt32))] [(.int ((((p1.toUInt32 >>> ((2 : Int32) &&& 31).toUInt32).toInt32) &&& (255 : Int32)).toUInt32.toUInt16.toUInt32.toInt32)), (.int (0 : Int32)), (.ref b16), (.ref b16), (.ref b15), (.ref b15)])
        obtain ⟨T17, h17, X17, e17, W17, st17⟩ := stC X16 hx hZ e16 A16 (j := (0 : Int32)) (by show ¬ ((0 : Int32) < 0 ∨ 3 ≤ Int32.toNatClampNeg (0 : Int32)); decide) (g := (mkF m 103 #[.val (.int p1), .val (.int (p1 &&& (3 : Int32))), .val (.int ((((p1.toUInt32 >>> ((2 : Int32) &&& 31).toUInt32).toInt32) &&& (255 : Int32)).toUInt32.toUInt16.toUInt32.toInt32)), .val (.int ((((p1.toUInt32 >>> ((10 : Int32) &&& 31).toUInt32).toInt32) &&& (255 : Int32)).toUInt32.toUInt16.toUInt32.toInt32)), .val (.int ((((p1.toUInt32 >>> ((18 : Int32) &&& 31).toUInt32).toInt32) &&& (255 : Int32)).toUInt32.toUInt16.toUInt32.toInt32))] [(.int ((((p1.toUInt32 >>> ((2 : Int32) &&& 31).toUInt32).toInt32) &&& (255 : Int32)).toUInt32.toUInt16.toUInt32.toInt32)), (.int (0 : Int32)), (.ref b16), (.ref b16), (.ref b15), (.ref b15)])) rfl rfl (hb hby d1_103)
        have N17 := Fr.snoc X17 N0 lo_b16
        have E_b15_17 : Exa Z h17 b15 "java/lang/String" := E_b15_16.wr W17
        have F_value_b15_17 : Fld Z h17 b15 "java/lang/String" "value" "[B" .null := F_value_b15_16.other W17 (Or.inl ne_b15_b16)
        have F_coder_b15_17 : Fld Z h17 b15 "java/lang/String" "coder" "B" (.int (0 : Int32)) := F_coder_b15_16.other W17 (Or.inl ne_b15_b16)
        have hk17 : _ ≤ h17.size := Nat.le_trans hk16 (Keep.of_wr W17).1
        have Zs17 : n0 ≤ h17.size := Nat.le_trans Zs16 (Keep.of_wr W17).1
        have Kp17 : Keep h0 h17 [] := Kp16.wr W17 (Or.inr bo_b16)
        have Od17 : Old Z n0 h17 := Od16.wr W17 lo_b16
        have V_b16_17 : Arr Z h17 b16 ((newA k16 .char (3 : Int32)).setSlot ((0 : Int32)).toNatClampNeg (.int (nar .char ((((p1.toUInt32 >>> ((2 : Int32) &&& 31).toUInt32).toInt32) &&& (255 : Int32)).toUInt32.toUInt16.toUInt32.toInt32)))) .char := A16.same W17
        refine own_goW st17 ?_
        show own_GoesW _ _ _ _ _ _ _ T17 (mkF m 104 #[.val (.int p1), .val (.int (p1 &&& (3 : Int32))), .val (.int ((((p1.toUInt32 >>> ((2 : Int32) &&& 31).toUInt32).toInt32) &&& (255 : Int32)).toUInt32.toUInt16.toUInt32.toInt32)), .val (.int ((((p1.toUInt32 >>> ((10 : Int32) &&& 31).toUInt32).toInt32) &&& (255 : Int32)).toUInt32.toUInt16.toUInt32.toInt32)), .val (.int ((((p1.toUInt32 >>> ((18 : Int32) &&& 31).toUInt32).toInt32) &&& (255 : Int32)).toUInt32.toUInt16.toUInt32.toInt32))] [(.ref b16), (.ref b15), (.ref b15)])
        refine own_goW (fun _ k => XS.dup X17.here hx rfl (hb hby d1_104) rfl rfl k) ?_
        show own_GoesW _ _ _ _ _ _ _ T17 (mkF m 105 #[.val (.int p1), .val (.int (p1 &&& (3 : Int32))), .val (.int ((((p1.toUInt32 >>> ((2 : Int32) &&& 31).toUInt32).toInt32) &&& (255 : Int32)).toUInt32.toUInt16.toUInt32.toInt32)), .val (.int ((((p1.toUInt32 >>> ((10 : Int32) &&& 31).toUInt32).toInt32) &&& (255 : Int32)).toUInt32.toUInt16.toUInt32.toInt32)), .val (.int ((((p1.toUInt32 >>> ((18 : Int32) &&& 31).toUInt32).toInt32) &&& (255 : Int32)).toUInt32.toUInt16.toUInt32.toInt32))] [(.ref b16), (.ref b16), (.ref b15), (.ref b15)])
        refine own_goW (fun _ k => XS.iconst X17.here hx rfl (hb hby d1_105) k) ?_
        show own_GoesW _ _ _ _ _ _ _ T17 (mkF m 106 #[.val (.int p1), .val (.int (p1 &&& (3 : Int32))), .val (.int ((((p1.toUInt32 >>> ((2 : Int32) &&& 31).toUInt32).toInt32) &&& (255 : Int32)).toUInt32.toUInt16.toUInt32.toInt32)), .val (.int ((((p1.toUInt32 >>> ((10 : Int32) &&& 31).toUInt32).toInt32) &&& (255 : Int32)).toUInt32.toUInt16.toUInt32.toInt32)), .val (.int ((((p1.toUInt32 >>> ((18 : Int32) &&& 31).toUInt32).toInt32) &&& (255 : Int32)).toUInt32.toUInt16.toUInt32.toInt32))] [(.int (1 : Int32)), (.ref b16), (.ref b16), (.ref b15), (.ref b15)])
        refine own_goW (fun _ k => XS.iloadN X17.here hx rfl (hb hby d1_106) rfl k) ?_
        show own_GoesW _ _ _ _ _ _ _ T17 (mkF m 107 #[.val (.int p1), .val (.int (p1 &&& (3 : Int32))), .val (.int ((((p1.toUInt32 >>> ((2 : Int32) &&& 31).toUInt32).toInt32) &&& (255 : Int32)).toUInt32.toUInt16.toUInt32.toInt32)), .val (.int ((((p1.toUInt32 >>> ((10 : Int32) &&& 31).toUInt32).toInt32) &&& (255 : Int32)).toUInt32.toUInt16.toUInt32.toInt32)), .val (.int ((((p1.toUInt32 >>> ((18 : Int32) &&& 31).toUInt32).toInt32) &&& (255 : Int32)).toUInt32.toUInt16.toUInt32.toInt32))] [(.int ((((p1.toUInt32 >>> ((10 : Int32) &&& 31).toUInt32).toInt32) &&& (255 : Int32)).toUInt32.toUInt16.toUInt32.toInt32)), (.int (1 : Int32)), (.ref b16), (.ref b16), (.ref b15), (.ref b15)])
        obtain ⟨T18, h18, X18, e18, W18, st18⟩ := stC X17 hx hZ e17 V_b16_17 (j := (1 : Int32)) (by show ¬ ((1 : Int32) < 0 ∨ 3 ≤ Int32.toNatClampNeg (1 : Int32)); decide) (g := (mkF m 107 #[.val (.int p1), .val (.int (p1 &&& (3 : Int32))), .val (.int ((((p1.toUInt32 >>> ((2 : Int32) &&& 31).toUInt32).toInt32) &&& (255 : Int32)).toUInt32.toUInt16.toUInt32.toInt32)), .val (.int ((((p1.toUInt32 >>> ((10 : Int32) &&& 31).toUInt32).toInt32) &&& (255 : Int32)).toUInt32.toUInt16.toUInt32.toInt32)), .val (.int ((((p1.toUInt32 >>> ((18 : Int32) &&& 31).toUInt32).toInt32) &&& (255 : Int32)).toUInt32.toUInt16.toUInt32.toInt32))] [(.int ((((p1.toUInt32 >>> ((10 : Int32) &&& 31).toUInt32).toInt32) &&& (255 : Int32)).toUInt32.toUInt16.toUInt32.toInt32)), (.int (1 : Int32)), (.ref b16), (.ref b16), (.ref b15), (.ref b15)])) rfl rfl (hb hby d1_107)
        have N18 := Fr.snoc X18 N17 lo_b16
        have E_b15_18 : Exa Z h18 b15 "java/lang/String" := E_b15_17.wr W18
        have F_value_b15_18 : Fld Z h18 b15 "java/lang/String" "value" "[B" .null := F_value_b15_17.other W18 (Or.inl ne_b15_b16)
        have F_coder_b15_18 : Fld Z h18 b15 "java/lang/String" "coder" "B" (.int (0 : Int32)) := F_coder_b15_17.other W18 (Or.inl ne_b15_b16)
        have hk18 : _ ≤ h18.size := Nat.le_trans hk17 (Keep.of_wr W18).1
        have Zs18 : n0 ≤ h18.size := Nat.le_trans Zs17 (Keep.of_wr W18).1
        have Kp18 : Keep h0 h18 [] := Kp17.wr W18 (Or.inr bo_b16)
        have Od18 : Old Z n0 h18 := Od17.wr W18 lo_b16
        have V_b16_18 : Arr Z h18 b16 (((newA k16 .char (3 : Int32)).setSlot ((0 : Int32)).toNatClampNeg (.int (nar .char ((((p1.toUInt32 >>> ((2 : Int32) &&& 31).toUInt32).toInt32) &&& (255 : Int32)).toUInt32.toUInt16.toUInt32.toInt32)))).setSlot ((1 : Int32)).toNatClampNeg (.int (nar .char ((((p1.toUInt32 >>> ((10 : Int32) &&& 31).toUInt32).toInt32) &&& (255 : Int32)).toUInt32.toUInt16.toUInt32.toInt32)))) .char := V_b16_17.same W18
        refine own_goW st18 ?_
        show own_GoesW _ _ _ _ _ _ _ T18 (mkF m 108 #[.val (.int p1), .val (.int (p1 &&& (3 : Int32))), .val (.int ((((p1.toUInt32 >>> ((2 : Int32) &&& 31).toUInt32).toInt32) &&& (255 : Int32)).toUInt32.toUInt16.toUInt32.toInt32)), .val (.int ((((p1.toUInt32 >>> ((10 : Int32) &&& 31).toUInt32).toInt32) &&& (255 : Int32)).toUInt32.toUInt16.toUInt32.toInt32)), .val (.int ((((p1.toUInt32 >>> ((18 : Int32) &&& 31).toUInt32).toInt32) &&& (255 : Int32)).toUInt32.toUInt16.toUInt32.toInt32))] [(.ref b16), (.ref b15), (.ref b15)])
        refine own_goW (fun _ k => XS.dup X18.here hx rfl (hb hby d1_108) rfl rfl k) ?_
        show own_GoesW _ _ _ _ _ _ _ T18 (mkF m 109 #[.val (.int p1), .val (.int (p1 &&& (3 : Int32))), .val (.int ((((p1.toUInt32 >>> ((2 : Int32) &&& 31).toUInt32).toInt32) &&& (255 : Int32)).toUInt32.toUInt16.toUInt32.toInt32)), .val (.int ((((p1.toUInt32 >>> ((10 : Int32) &&& 31).toUInt32).toInt32) &&& (255 : Int32)).toUInt32.toUInt16.toUInt32.toInt32)), .val (.int ((((p1.toUInt32 >>> ((18 : Int32) &&& 31).toUInt32).toInt32) &&& (255 : Int32)).toUInt32.toUInt16.toUInt32.toInt32))] [(.ref b16), (.ref b16), (.ref b15), (.ref b15)])
        refine own_goW (fun _ k => XS.iconst X18.here hx rfl (hb hby d1_109) k) ?_
        show own_GoesW _ _ _ _ _ _ _ T18 (mkF m 110 #[.val (.int p1), .val (.int (p1 &&& (3 : Int32))), .val (.int ((((p1.toUInt32 >>> ((2 : Int32) &&& 31).toUInt32).toInt32) &&& (255 : Int32)).toUInt32.toUInt16.toUInt32.toInt32)), .val (.int ((((p1.toUInt32 >>> ((10 : Int32) &&& 31).toUInt32).toInt32) &&& (255 : Int32)).toUInt32.toUInt16.toUInt32.toInt32)), .val (.int ((((p1.toUInt32 >>> ((18 : Int32) &&& 31).toUInt32).toInt32) &&& (255 : Int32)).toUInt32.toUInt16.toUInt32.toInt32))] [(.int (2 : Int32)), (.ref b16), (.ref b16), (.ref b15), (.ref b15)])
        refine own_goW (fun _ k => XS.iload X18.here hx rfl (hb hby d1_110) rfl k) ?_
        show own_GoesW _ _ _ _ _ _ _ T18 (mkF m 112 #[.val (.int p1), .val (.int (p1 &&& (3 : Int32))), .val (.int ((((p1.toUInt32 >>> ((2 : Int32) &&& 31).toUInt32).toInt32) &&& (255 : Int32)).toUInt32.toUInt16.toUInt32.toInt32)), .val (.int ((((p1.toUInt32 >>> ((10 : Int32) &&& 31).toUInt32).toInt32) &&& (255 : Int32)).toUInt32.toUInt16.toUInt32.toInt32)), .val (.int ((((p1.toUInt32 >>> ((18 : Int32) &&& 31).toUInt32).toInt32) &&& (255 : Int32)).toUInt32.toUInt16.toUInt32.toInt32))] [(.int ((((p1.toUInt32 >>> ((18 : Int32) &&& 31).toUInt32).toInt32) &&& (255 : Int32)).toUInt32.toUInt16.toUInt32.toInt32)), (.int (2 : Int32)), (.ref b16), (.ref b16), (.ref b15), (.ref b15)])
        obtain ⟨T19, h19, X19, e19, W19, st19⟩ := stC X18 hx hZ e18 V_b16_18 (j := (2 : Int32)) (by show ¬ ((2 : Int32) < 0 ∨ 3 ≤ Int32.toNatClampNeg (2 : Int32)); decide) (g := (mkF m 112 #[.val (.int p1), .val (.int (p1 &&& (3 : Int32))), .val (.int ((((p1.toUInt32 >>> ((2 : Int32) &&& 31).toUInt32).toInt32) &&& (255 : Int32)).toUInt32.toUInt16.toUInt32.toInt32)), .val (.int ((((p1.toUInt32 >>> ((10 : Int32) &&& 31).toUInt32).toInt32) &&& (255 : Int32)).toUInt32.toUInt16.toUInt32.toInt32)), .val (.int ((((p1.toUInt32 >>> ((18 : Int32) &&& 31).toUInt32).toInt32) &&& (255 : Int32)).toUInt32.toUInt16.toUInt32.toInt32))] [(.int ((((p1.toUInt32 >>> ((18 : Int32) &&& 31).toUInt32).toInt32) &&& (255 : Int32)).toUInt32.toUInt16.toUInt32.toInt32)), (.int (2 : Int32)), (.ref b16), (.ref b16), (.ref b15), (.ref b15)])) rfl rfl (hb hby d1_112)
        have N19 := Fr.snoc X19 N18 lo_b16
        have E_b15_19 : Exa Z h19 b15 "java/lang/String" := E_b15_18.wr W19
        have F_value_b15_19 : Fld Z h19 b15 "java/lang/String" "value" "[B" .null := F_value_b15_18.other W19 (Or.inl ne_b15_b16)
        have F_coder_b15_19 : Fld Z h19 b15 "java/lang/String" "coder" "B" (.int (0 : Int32)) := F_coder_b15_18.other W19 (Or.inl ne_b15_b16)
        have hk19 : _ ≤ h19.size := Nat.le_trans hk18 (Keep.of_wr W19).1
        have Zs19 : n0 ≤ h19.size := Nat.le_trans Zs18 (Keep.of_wr W19).1
        have Kp19 : Keep h0 h19 [] := Kp18.wr W19 (Or.inr bo_b16)
        have Od19 : Old Z n0 h19 := Od18.wr W19 lo_b16
        have V_b16_19 : Arr Z h19 b16 ((((newA k16 .char (3 : Int32)).setSlot ((0 : Int32)).toNatClampNeg (.int (nar .char ((((p1.toUInt32 >>> ((2 : Int32) &&& 31).toUInt32).toInt32) &&& (255 : Int32)).toUInt32.toUInt16.toUInt32.toInt32)))).setSlot ((1 : Int32)).toNatClampNeg (.int (nar .char ((((p1.toUInt32 >>> ((10 : Int32) &&& 31).toUInt32).toInt32) &&& (255 : Int32)).toUInt32.toUInt16.toUInt32.toInt32)))).setSlot ((2 : Int32)).toNatClampNeg (.int (nar .char ((((p1.toUInt32 >>> ((18 : Int32) &&& 31).toUInt32).toInt32) &&& (255 : Int32)).toUInt32.toUInt16.toUInt32.toInt32)))) .char := V_b16_18.same W19
        refine own_goW st19 ?_
        show own_GoesW _ _ _ _ _ _ _ T19 (mkF m 113 #[.val (.int p1), .val (.int (p1 &&& (3 : Int32))), .val (.int ((((p1.toUInt32 >>> ((2 : Int32) &&& 31).toUInt32).toInt32) &&& (255 : Int32)).toUInt32.toUInt16.toUInt32.toInt32)), .val (.int ((((p1.toUInt32 >>> ((10 : Int32) &&& 31).toUInt32).toInt32) &&& (255 : Int32)).toUInt32.toUInt16.toUInt32.toInt32)), .val (.int ((((p1.toUInt32 >>> ((18 : Int32) &&& 31).toUInt32).toInt32) &&& (255 : Int32)).toUInt32.toUInt16.toUInt32.toInt32))] [(.ref b16), (.ref b15), (.ref b15)])
        have V20 : Arv Z h19 b16 k16 .char 3 [.int (own_ch ((p1.toUInt32 >>> ((2 : Int32) &&& 31).toUInt32).toInt32)), .int (own_ch ((p1.toUInt32 >>> ((10 : Int32) &&& 31).toUInt32).toInt32)), .int (own_ch ((p1.toUInt32 >>> ((18 : Int32) &&& 31).toUInt32).toInt32))] (.int (0 : Int32)) := own_arv3 V_b16_19 (fits_nar_char _) (fits_nar_char _) (fits_nar_char _) 
        have hp20 : ∀ c ∈ ([own_ch ((p1.toUInt32 >>> ((2 : Int32) &&& 31).toUInt32).toInt32), own_ch ((p1.toUInt32 >>> ((10 : Int32) &&& 31).toUInt32).toInt32), own_ch ((p1.toUInt32 >>> ((18 : Int32) &&& 31).toUInt32).toInt32)] : List Int32), ¬ c < 0 ∧ ¬ (255 : Int32) < c := by
          intro c hc
          simp only [List.mem_cons, List.not_mem_nil, or_false] at hc
          rcases hc with rfl | rfl | rfl
          · exact own_ch_in _
          · exact own_ch_in _
          · exact own_ch_in _
        obtain ⟨_, _, ⟨T21, L21, k21, n21⟩, -, X21, ⟨Lc21, hQ21, l21, y21, z21⟩, st21⟩ := X19.specialBack hx (y := (⟨"java/lang/String", "<init>", "([C)V"⟩ : MethodName)) rfl hown (mvT hZ (hw _ (List.mem_of_getElem? (i := 11) rfl))) (mvT hZ (hw _ (List.mem_of_getElem? (i := 12) rfl))) (mvT hZ (hw _ (List.mem_of_getElem? (i := 13) rfl))) (by decide) (StrChars.Road.backV (W := 1) hZ (fun d hd => hw d (own_words d hd)) (kI := 4) (hw _ (List.mem_of_getElem? (i := 8) rfl)) (cs := ([own_ch ((p1.toUInt32 >>> ((2 : Int32) &&& 31).toUInt32).toInt32), own_ch ((p1.toUInt32 >>> ((10 : Int32) &&& 31).toUInt32).toInt32), own_ch ((p1.toUInt32 >>> ((18 : Int32) &&& 31).toUInt32).toInt32)] : List Int32)) (bs := ([own_ch ((p1.toUInt32 >>> ((2 : Int32) &&& 31).toUInt32).toInt32), own_ch ((p1.toUInt32 >>> ((10 : Int32) &&& 31).toUInt32).toInt32), own_ch ((p1.toUInt32 >>> ((18 : Int32) &&& 31).toUInt32).toInt32)] : List Int32).map (fun c => c.toInt8.toInt32)) (n := 3) lo_b15 Zs19 E_b15_19 F_value_b15_19 F_coder_b15_19 V20 (O2.ext Od19.2) P5 rfl rfl (by decide) (by decide) hp20 rfl (by decide) (by decide)) (g := (mkF m 113 #[.val (.int p1), .val (.int (p1 &&& (3 : Int32))), .val (.int ((((p1.toUInt32 >>> ((2 : Int32) &&& 31).toUInt32).toInt32) &&& (255 : Int32)).toUInt32.toUInt16.toUInt32.toInt32)), .val (.int ((((p1.toUInt32 >>> ((10 : Int32) &&& 31).toUInt32).toInt32) &&& (255 : Int32)).toUInt32.toUInt16.toUInt32.toInt32)), .val (.int ((((p1.toUInt32 >>> ((18 : Int32) &&& 31).toUInt32).toInt32) &&& (255 : Int32)).toUInt32.toUInt16.toUInt32.toInt32))] [(.ref b16), (.ref b15), (.ref b15)])) rfl (by rw [hml]; rfl) (Steps.refl _) (a := b15) (argsL := [(.ref b16)]) (rest := [(.ref b15)]) (lenOf pd_1 rfl) rfl (by show 2 * 0 + _ ≤ _; exact Nat.le_of_eq rfl) (hb hby d1_113) (fun _ _ => ⟨rfl, e19, (by decide : 0 + 1 + 1 + 1 ≤ _), (by decide : 0 + 4 + 3 + 3 ≤ _)⟩)
        dsimp only [Pt.U, Pt.locs, Pt.cells, Pt.slots] at X21 l21 y21 z21 st21 hQ21
        subst l21 y21 z21
        obtain ⟨rfl, N21q, K21, gE21, gC21, t21, kb21, gt21, gs21, gn21, gV21, gA21⟩ := hQ21
        have N21 := Fr.app N19 N21q
        refine own_goSW st21 ?_
        show own_GoesW _ _ _ _ _ _ _ T21 (mkF m 116 #[.val (.int p1), .val (.int (p1 &&& (3 : Int32))), .val (.int ((((p1.toUInt32 >>> ((2 : Int32) &&& 31).toUInt32).toInt32) &&& (255 : Int32)).toUInt32.toUInt16.toUInt32.toInt32)), .val (.int ((((p1.toUInt32 >>> ((10 : Int32) &&& 31).toUInt32).toInt32) &&& (255 : Int32)).toUInt32.toUInt16.toUInt32.toInt32)), .val (.int ((((p1.toUInt32 >>> ((18 : Int32) &&& 31).toUInt32).toInt32) &&& (255 : Int32)).toUInt32.toUInt16.toUInt32.toInt32))] [(.ref b15)])
        have E_b15_21 : Exa Z T21.heap b15 "java/lang/String" := E_b15_19.keep K21
        have hk21 : _ ≤ T21.heap.size := Nat.le_trans hk19 K21.1
        have Zs21 : n0 ≤ T21.heap.size := Nat.le_trans Zs19 K21.1
        have Kp21 : Keep h0 T21.heap [] := Kp19.trans K21 (allS (Or.inr bo_b15) all0)
        have Od21 : Old Z n0 T21.heap := Od19.keep K21 (allS lo_b15 all0)
        have S21 : own_Str2 Z T21.heap b15 [own_ch ((p1.toUInt32 >>> ((2 : Int32) &&& 31).toUInt32).toInt32), own_ch ((p1.toUInt32 >>> ((10 : Int32) &&& 31).toUInt32).toInt32), own_ch ((p1.toUInt32 >>> ((18 : Int32) &&& 31).toUInt32).toInt32)] := ⟨gE21, gC21, hp20, Nat.le_of_ble_eq_true rfl, _, _, gV21, gA21⟩
        have ec : own_cs p1 = [own_ch ((p1.toUInt32 >>> ((2 : Int32) &&& 31).toUInt32).toInt32), own_ch ((p1.toUInt32 >>> ((10 : Int32) &&& 31).toUInt32).toInt32), own_ch ((p1.toUInt32 >>> ((18 : Int32) &&& 31).toUInt32).toInt32)] := by rw [own_cs, if_neg hc35, if_neg hc51, if_neg hc71]
        have Sf := S21
        rw [← ec] at Sf
        have VMx : own_VM Z T21.heap s.vm := VM0.map (fun _ q => q.keep0 Kp21)
        exact own_retAW X21 hx hS0 hk21 hlk hret rfl rfl (hb hby d1_116) (by decide) (by decide) ⟨_, rfl, N21, Zs21, Kp21, Sf, (VMx.warm X21.warmed)⟩
def Q_rm_rec (Z : State) (h0 : Heap) (n0 : Nat)  (v : Option Value) (h : Heap) (L : List Loc) : Prop := v = none ∧ Fr n0 L ∧ h = h0
set_option maxRecDepth 65536 in
set_option maxHeartbeats 40000000 in
theorem rm_rec (l : Launch) (Z : State) (a0 : Array Value) (hw : ∀ d ∈ tables_1, d.before a0 Z = true) (ws : List Jvm.Cond) (a1 : Addr) (h0 : Heap) (n0 : Nat) (Z0 : n0 ≤ h0.size) :
    MetFree l (⟨"java/lang/Record", "<init>", "()V"⟩ : MethodName) (head1 (Jvm.Cond.code (⟨"java/lang/Record", "<init>", "()V"⟩ : MethodName) jdk_30_method_1_code 1 none :: ws) ({ frames := 1, cells := 0, slots := 0, locals := 12 } : Room)) (fun a U => a = #[(.ref a1)] ∧ Z.Warmed39 U.vm ∧ U.heap = h0) (fun _ _ _ _ _ => True) (fun _ U o U' => ∃ rv rL, o = .returned rv ∧ Q_rm_rec Z h0 n0  rv U'.heap rL ∧ FrameEnd U o U' rL ({ frames := 1, cells := 0, slots := 0, locals := 12 } : Room).cells ({ frames := 1, cells := 0, slots := 0, locals := 12 } : Room).slots) := by
  refine own_met (y := (⟨"java/lang/Record", "<init>", "()V"⟩ : MethodName)) (Q := Q_rm_rec Z h0 n0 ) (own := "java/lang/Record") rfl (plainFor_of_name pn_9) ?_
  intro p e s m below meth c s₁ C e0 X0
  obtain ⟨hx, hby, hml, hown, hnm, hret, hlk, hZ⟩ := C
  have N0 := Fr.nil n0
  rw [ef_9]
  show own_Goes _ _ _ _ _ _ _ s₁ (mkF m 0 #[.val (.ref a1)] [])
  refine own_go (fun _ k => XS.aloadN X0.here hx rfl (hb hby d9_0) rfl rfl k) ?_
  show own_Goes _ _ _ _ _ _ _ s₁ (mkF m 1 #[.val (.ref a1)] [(.ref a1)])
  obtain ⟨T1, X1, e1, st1⟩ := initO X0 hx hZ hown (hw _ (List.mem_of_getElem? (i := 48) rfl)) (hw _ (List.mem_of_getElem? (i := 19) rfl)) (hw _ (List.mem_of_getElem? (i := 20) rfl)) e0 (g := (mkF m 1 #[.val (.ref a1)] [(.ref a1)])) rfl (by rw [hml]; rfl) rfl (hb hby d9_1) (by decide) (W := 0) (by show 2 * 0 + _ ≤ _; exact Nat.le_of_eq rfl) (by decide)
  refine own_go st1 ?_
  show own_Goes _ _ _ _ _ _ _ T1 (mkF m 4 #[.val (.ref a1)] [])
  exact own_retV X1 hx hlk hret (hb hby d9_4) (by decide) (by decide) (by rw [e1]; exact ⟨rfl, N0, rfl⟩)
def Q_rm_rnn (Z : State) (h0 : Heap) (n0 : Nat) (a1 : Addr) (v : Option Value) (h : Heap) (L : List Loc) : Prop := v = some (.ref a1) ∧ Fr n0 L ∧ h = h0
set_option maxRecDepth 65536 in
set_option maxHeartbeats 40000000 in
theorem rm_rnn (l : Launch) (Z : State) (a0 : Array Value) (hw : ∀ d ∈ tables_1, d.before a0 Z = true) (ws : List Jvm.Cond) (a1 a2 : Addr) (h0 : Heap) (n0 : Nat) (Z0 : n0 ≤ h0.size) :
    MetFree l (⟨"java/util/Objects", "requireNonNull", "(Ljava/lang/Object;Ljava/lang/String;)Ljava/lang/Object;"⟩ : MethodName) (head1 (Jvm.Cond.code (⟨"java/util/Objects", "requireNonNull", "(Ljava/lang/Object;Ljava/lang/String;)Ljava/lang/Object;"⟩ : MethodName) jdk_31_method_11_code 2 (some (.object "java/lang/Object")) :: ws) ({ frames := 0, cells := 0, slots := 0, locals := 0 } : Room)) (fun a U => a = #[(.ref a1), (.ref a2)] ∧ Z.Warmed39 U.vm ∧ U.heap = h0) (fun _ _ _ _ _ => True) (fun _ U o U' => ∃ rv rL, o = .returned rv ∧ Q_rm_rnn Z h0 n0 a1 rv U'.heap rL ∧ FrameEnd U o U' rL ({ frames := 0, cells := 0, slots := 0, locals := 0 } : Room).cells ({ frames := 0, cells := 0, slots := 0, locals := 0 } : Room).slots) := by
  refine own_met (y := (⟨"java/util/Objects", "requireNonNull", "(Ljava/lang/Object;Ljava/lang/String;)Ljava/lang/Object;"⟩ : MethodName)) (Q := Q_rm_rnn Z h0 n0 a1) (own := "java/util/Objects") rfl (plainFor_of_name pn_10) ?_
  intro p e s m below meth c s₁ C e0 X0
  obtain ⟨hx, hby, hml, hown, hnm, hret, hlk, hZ⟩ := C
  have N0 := Fr.nil n0
  rw [ef_10]
  show own_Goes _ _ _ _ _ _ _ s₁ (mkF m 0 #[.val (.ref a1), .val (.ref a2)] [])
  refine own_go (fun _ k => XS.aloadN X0.here hx rfl (hb hby d10_0) rfl rfl k) ?_
  show own_Goes _ _ _ _ _ _ _ s₁ (mkF m 1 #[.val (.ref a1), .val (.ref a2)] [(.ref a1)])
  refine own_go (fun _ k => XS.ifnonnullYes X0.here hx rfl (pc0 := 1) (pc' := 13) rfl (hb hby d10_1) rfl (by decide) (by decide) k) ?_
  show own_Goes _ _ _ _ _ _ _ s₁ (mkF m 13 #[.val (.ref a1), .val (.ref a2)] [])
  refine own_go (fun _ k => XS.aloadN X0.here hx rfl (hb hby d10_13) rfl rfl k) ?_
  show own_Goes _ _ _ _ _ _ _ s₁ (mkF m 14 #[.val (.ref a1), .val (.ref a2)] [(.ref a1)])
  exact own_retA X0 hx hlk hret rfl rfl (hb hby d10_14) (by decide) (by decide) (by rw [e0]; exact ⟨rfl, N0, rfl⟩)
def Q_rm_sk (Z : State) (h0 : Heap) (n0 : Nat) (a1 a2 a3 : Addr) (v : Option Value) (h : Heap) (L : List Loc) (vm : Vm) : Prop := v = none ∧ Fr n0 L ∧ n0 ≤ h.size ∧ Keep h0 h [a1] ∧ Fld Z h a1 "dev/resolvent/model/StateKey" "type" "Ljava/lang/String;" (.ref a2) ∧ Fld Z h a1 "dev/resolvent/model/StateKey" "stateKey" "Ljava/lang/String;" (.ref a3) ∧ own_VM Z h vm
set_option maxRecDepth 65536 in
set_option maxHeartbeats 40000000 in
theorem rm_sk (l : Launch) (Z : State) (a0 : Array Value) (hw : ∀ d ∈ tables_1, d.before a0 Z = true) (ws : List Jvm.Cond) (a1 a2 a3 : Addr) (h0 : Heap) (n0 : Nat) (Z0 : n0 ≤ h0.size) (Od0 : Old Z n0 h0) (CH : Jvm.Lit.constsHeld consts_1 Z) (hcw : Jvm.Lit.compactW.before a0 Z = true) (E_a1 : Exa Z h0 a1 "dev/resolvent/model/StateKey") (F_t : Fld Z h0 a1 "dev/resolvent/model/StateKey" "type" "Ljava/lang/String;" .null) (F_k : Fld Z h0 a1 "dev/resolvent/model/StateKey" "stateKey" "Ljava/lang/String;" .null) (lo_a1 : n0 ≤ a1) :
    MetFree l (⟨"dev/resolvent/model/StateKey", "<init>", "(Ljava/lang/String;Ljava/lang/String;)V"⟩ : MethodName) (head1 (Jvm.Cond.code (⟨"dev/resolvent/model/StateKey", "<init>", "(Ljava/lang/String;Ljava/lang/String;)V"⟩ : MethodName) prog_23_method_1_code 3 none :: ws) ({ frames := 2, cells := 4, slots := 56, locals := 24 } : Room)) (fun a U => a = #[(.ref a1), (.ref a2), (.ref a3)] ∧ Z.Warmed39 U.vm ∧ U.heap = h0 ∧ own_VM Z h0 U.vm) (fun _ _ _ _ _ => True) (fun _ U o U' => ∃ rv rL, o = .returned rv ∧ Q_rm_sk Z h0 n0 a1 a2 a3 rv U'.heap rL U'.vm ∧ ReturnedEndW U o U' rL ({ frames := 2, cells := 4, slots := 56, locals := 24 } : Room).cells ({ frames := 2, cells := 4, slots := 56, locals := 24 } : Room).slots) := by
  refine own_metW (VP := own_VM Z h0) (y := (⟨"dev/resolvent/model/StateKey", "<init>", "(Ljava/lang/String;Ljava/lang/String;)V"⟩ : MethodName)) (Q := Q_rm_sk Z h0 n0 a1 a2 a3) (own := "dev/resolvent/model/StateKey") rfl (plainFor_of_name pn_8) ?_
  intro p e s m below meth c s₁ C e0 hh0 VM0 hS0 X0
  obtain ⟨hx, hby, hml, hown, hnm, hret, hlk, hZ⟩ := C
  have N0 := Fr.nil n0
  have hk0 : 0 ≤ h0.size := Nat.zero_le _
  rw [ef_8]
  have Kp0 : Keep h0 h0 [a1] := Keep.refl h0 _
  have Nh := Fr.nil h0.size
  show own_GoesW _ _ _ _ _ _ _ s₁ (mkF m 0 #[.val (.ref a1), .val (.ref a2), .val (.ref a3)] [])
  refine own_goW (fun _ k => XS.aloadN X0.here hx rfl (hb hby d8_0) rfl rfl k) ?_
  show own_GoesW _ _ _ _ _ _ _ s₁ (mkF m 1 #[.val (.ref a1), .val (.ref a2), .val (.ref a3)] [(.ref a1)])
  obtain ⟨_, _, ⟨T1, L1, k1, n1⟩, -, X1, ⟨Lc1, hQ1, l1, y1, z1⟩, st1⟩ := X0.specialBack hx (y := (⟨"java/lang/Record", "<init>", "()V"⟩ : MethodName)) rfl hown (mvT hZ (hw _ (List.mem_of_getElem? (i := 43) rfl))) (mvT hZ (hw _ (List.mem_of_getElem? (i := 44) rfl))) (mvT hZ (hw _ (List.mem_of_getElem? (i := 47) rfl))) (by decide) (backOf (W := 0) (rm_rec l Z a0 hw [] a1 h0 h0.size (Nat.le_refl _)) hZ (hw _ (List.mem_of_getElem? (i := 47) rfl)) (hw _ (List.mem_of_getElem? (i := 46) rfl)) (by decide) (by decide)) (g := (mkF m 1 #[.val (.ref a1), .val (.ref a2), .val (.ref a3)] [(.ref a1)])) rfl (by rw [hml]; rfl) (Steps.refl _) (a := a1) (argsL := []) (rest := []) (lenOf pd_2 rfl) rfl (by show 2 * 0 + _ ≤ _; exact Nat.le_of_eq rfl) (hb hby d8_1) (fun _ _ => ⟨rfl, e0, (by decide : 0 + 0 ≤ _), (by decide : 0 + 0 ≤ _)⟩)
  dsimp only [Pt.U, Pt.locs, Pt.cells, Pt.slots] at X1 l1 y1 z1 st1 hQ1
  subst l1 y1 z1
  obtain ⟨rfl, N1q, e1⟩ := hQ1
  have N1 := Fr.app Nh N1q
  refine own_goSW st1 ?_
  show own_GoesW _ _ _ _ _ _ _ T1 (mkF m 4 #[.val (.ref a1), .val (.ref a2), .val (.ref a3)] [])
  refine own_goW (fun _ k => XS.aloadN X1.here hx rfl (hb hby d8_4) rfl rfl k) ?_
  show own_GoesW _ _ _ _ _ _ _ T1 (mkF m 5 #[.val (.ref a1), .val (.ref a2), .val (.ref a3)] [(.ref a2)])
  obtain ⟨al2, T2, h2, kk2, vm2, X2, e2, E2, hS2, hk2, hZ, hown, VM2, st2⟩ := own_ldc_t hw X1 hx hZ hown e1 hS0 hk0 (by rw [hh0]; exact N1) (by rw [hh0]; exact Od0.2) VM0 CH hcw (g := (mkF m 5 #[.val (.ref a1), .val (.ref a2), .val (.ref a3)] [(.ref a2)])) rfl (hb hby d8_5) (by decide) (by decide)
  have E_a1_2 : Exa Z h2 a1 "dev/resolvent/model/StateKey" := E_a1.ext E2
  have F_t_2 : Fld Z h2 a1 "dev/resolvent/model/StateKey" "type" "Ljava/lang/String;" .null := F_t.ext E2
  have F_k_2 : Fld Z h2 a1 "dev/resolvent/model/StateKey" "stateKey" "Ljava/lang/String;" .null := F_k.ext E2
  have Zs2 : n0 ≤ h2.size := Nat.le_trans Z0 E2.1
  have Kp2 : Keep h0 h2 [a1] := Kp0.ext E2
  refine own_goW st2 ?_
  show own_GoesW _ _ _ _ _ _ _ T2 (mkF m 7 #[.val (.ref a1), .val (.ref a2), .val (.ref a3)] [(.ref al2), (.ref a2)])
  obtain ⟨_, _, ⟨T3, L3, k3, n3⟩, -, X3, ⟨Lc3, hQ3, l3, y3, z3⟩, st3⟩ := Jvm.LawKit.callS X2 hx (y := (⟨"java/util/Objects", "requireNonNull", "(Ljava/lang/Object;Ljava/lang/String;)Ljava/lang/Object;"⟩ : MethodName)) hown (mvT hZ (hw _ (List.mem_of_getElem? (i := 50) rfl))) (mvT hZ (hw _ (List.mem_of_getElem? (i := 51) rfl))) (mvT hZ (hw _ (List.mem_of_getElem? (i := 52) rfl))) (mvT hZ (hw _ (List.mem_of_getElem? (i := 53) rfl))) (by decide) (backOf (W := 0) (rm_rnn l Z a0 hw [] a2 al2 h2 h0.size Kp2.1) hZ (hw _ (List.mem_of_getElem? (i := 53) rfl)) (hw _ (List.mem_of_getElem? (i := 52) rfl)) (by decide) (by decide)) (g := (mkF m 7 #[.val (.ref a1), .val (.ref a2), .val (.ref a3)] [(.ref al2), (.ref a2)])) rfl (by rw [hml]; rfl) (argsL := [(.ref a2), (.ref al2)]) (rest := []) (lenOf pd_3 rfl) rfl (by show 2 * 0 + _ ≤ _; exact Nat.le_of_eq rfl) (hb hby d8_7) (fun _ _ => ⟨rfl, e2, (by decide : 0 + 0 + 2 + 0 ≤ _), (by decide : 0 + 0 + 20 + 0 ≤ _)⟩)
  dsimp only [Pt.U, Pt.locs, Pt.cells, Pt.slots] at X3 l3 y3 z3 st3 hQ3
  subst l3 y3 z3
  obtain ⟨rfl, N3q, e3⟩ := hQ3
  have N3 := Fr.app N1 N3q
  refine own_goW st3 ?_
  show own_GoesW _ _ _ _ _ _ _ T3 (mkF m 10 #[.val (.ref a1), .val (.ref a2), .val (.ref a3)] [(.ref a2)])
  refine own_goW (fun _ k => XS.pop X3.here hx rfl (hb hby d8_10) rfl rfl k) ?_
  show own_GoesW _ _ _ _ _ _ _ T3 (mkF m 11 #[.val (.ref a1), .val (.ref a2), .val (.ref a3)] [])
  refine own_goW (fun _ k => XS.aloadN X3.here hx rfl (hb hby d8_11) rfl rfl k) ?_
  show own_GoesW _ _ _ _ _ _ _ T3 (mkF m 12 #[.val (.ref a1), .val (.ref a2), .val (.ref a3)] [(.ref a3)])
  obtain ⟨al4, T4, h4, kk4, vm4, X4, e4, E4, hS4, hk4, hZ, hown, VM4, st4⟩ := own_ldc_k hw X3 hx hZ hown e3 hS2 hk2 (by rw [hh0]; exact N3) (by rw [hh0]; exact Od0.2) VM2 CH hcw (g := (mkF m 12 #[.val (.ref a1), .val (.ref a2), .val (.ref a3)] [(.ref a3)])) rfl (hb hby d8_12) (by decide) (by decide)
  have E_a1_4 : Exa Z h4 a1 "dev/resolvent/model/StateKey" := E_a1_2.ext E4
  have F_t_4 : Fld Z h4 a1 "dev/resolvent/model/StateKey" "type" "Ljava/lang/String;" .null := F_t_2.ext E4
  have F_k_4 : Fld Z h4 a1 "dev/resolvent/model/StateKey" "stateKey" "Ljava/lang/String;" .null := F_k_2.ext E4
  have Zs4 : n0 ≤ h4.size := Nat.le_trans Zs2 E4.1
  have Kp4 : Keep h0 h4 [a1] := Kp2.ext E4
  refine own_goW st4 ?_
  show own_GoesW _ _ _ _ _ _ _ T4 (mkF m 14 #[.val (.ref a1), .val (.ref a2), .val (.ref a3)] [(.ref al4), (.ref a3)])
  obtain ⟨_, _, ⟨T5, L5, k5, n5⟩, -, X5, ⟨Lc5, hQ5, l5, y5, z5⟩, st5⟩ := Jvm.LawKit.callS X4 hx (y := (⟨"java/util/Objects", "requireNonNull", "(Ljava/lang/Object;Ljava/lang/String;)Ljava/lang/Object;"⟩ : MethodName)) hown (mvT hZ (hw _ (List.mem_of_getElem? (i := 50) rfl))) (mvT hZ (hw _ (List.mem_of_getElem? (i := 51) rfl))) (mvT hZ (hw _ (List.mem_of_getElem? (i := 52) rfl))) (mvT hZ (hw _ (List.mem_of_getElem? (i := 53) rfl))) (by decide) (backOf (W := 0) (rm_rnn l Z a0 hw [] a3 al4 h4 h0.size Kp4.1) hZ (hw _ (List.mem_of_getElem? (i := 53) rfl)) (hw _ (List.mem_of_getElem? (i := 52) rfl)) (by decide) (by decide)) (g := (mkF m 14 #[.val (.ref a1), .val (.ref a2), .val (.ref a3)] [(.ref al4), (.ref a3)])) rfl (by rw [hml]; rfl) (argsL := [(.ref a3), (.ref al4)]) (rest := []) (lenOf pd_3 rfl) rfl (by show 2 * 0 + _ ≤ _; exact Nat.le_of_eq rfl) (hb hby d8_14) (fun _ _ => ⟨rfl, e4, (by decide : 0 + 0 + 2 + 0 + 2 + 0 ≤ _), (by decide : 0 + 0 + 20 + 0 + 36 + 0 ≤ _)⟩)
  dsimp only [Pt.U, Pt.locs, Pt.cells, Pt.slots] at X5 l5 y5 z5 st5 hQ5
  subst l5 y5 z5
  obtain ⟨rfl, N5q, e5⟩ := hQ5
  have N5 := Fr.app N3 N5q
  refine own_goW st5 ?_
  show own_GoesW _ _ _ _ _ _ _ T5 (mkF m 17 #[.val (.ref a1), .val (.ref a2), .val (.ref a3)] [(.ref a3)])
  refine own_goW (fun _ k => XS.pop X5.here hx rfl (hb hby d8_17) rfl rfl k) ?_
  show own_GoesW _ _ _ _ _ _ _ T5 (mkF m 18 #[.val (.ref a1), .val (.ref a2), .val (.ref a3)] [])
  refine own_goW (fun _ k => XS.aloadN X5.here hx rfl (hb hby d8_18) rfl rfl k) ?_
  show own_GoesW _ _ _ _ _ _ _ T5 (mkF m 19 #[.val (.ref a1), .val (.ref a2), .val (.ref a3)] [(.ref a1)])
  refine own_goW (fun _ k => XS.aloadN X5.here hx rfl (hb hby d8_19) rfl rfl k) ?_
  show own_GoesW _ _ _ _ _ _ _ T5 (mkF m 20 #[.val (.ref a1), .val (.ref a2), .val (.ref a3)] [(.ref a2), (.ref a1)])
  have Nz : Fr n0 _ := fun y q => Nat.le_trans Z0 (N5 y q)
  obtain ⟨T6, h6, X6, e6, W6, st6⟩ := putF X5 hx hZ hown (host := "") (Or.inl (hw _ (List.mem_of_getElem? (i := 55) rfl))) Via.refl e5 F_t_4 E_a1_4 (Or.inr ⟨(hw _ (List.mem_of_getElem? (i := 56) rfl)), rfl, hnm⟩) (hw _ (List.mem_of_getElem? (i := 1) rfl)) (ty := (.object "java/lang/String")) (by decide) rfl rfl (g := (mkF m 20 #[.val (.ref a1), .val (.ref a2), .val (.ref a3)] [(.ref a2), (.ref a1)])) rfl rfl (hb hby d8_20)
  have F_t_6 : Fld Z h6 a1 "dev/resolvent/model/StateKey" "type" "Ljava/lang/String;" (.ref a2) := F_t_4.same W6
  have N6 := Fr.snoc X6 Nz lo_a1
  have E_a1_6 : Exa Z h6 a1 "dev/resolvent/model/StateKey" := E_a1_4.wr W6
  have F_k_6 : Fld Z h6 a1 "dev/resolvent/model/StateKey" "stateKey" "Ljava/lang/String;" .null := F_k_4.other W6 (Or.inr (slot_ne (Or.inr (hw _ (List.mem_of_getElem? (i := 58) rfl))) (Or.inr (hw _ (List.mem_of_getElem? (i := 56) rfl))) (by decide) (t := (.object "java/lang/String")) (t' := (.object "java/lang/String")) (by decide) (by decide)))
  have VM_6 : own_VM Z h6 vm4 := VM4.map (fun _ q => q.keepX (Keep.of_wr W6) E_a1_4 (by decide) (hw _ (List.mem_of_getElem? (i := 1) rfl)))
  have hk6 : _ ≤ h6.size := Nat.le_trans hk4 (Keep.of_wr W6).1
  have Zs6 : n0 ≤ h6.size := Nat.le_trans Zs4 (Keep.of_wr W6).1
  have Kp6 : Keep h0 h6 [a1] := Kp4.wr W6 (Or.inl (by simp))
  refine own_goW st6 ?_
  show own_GoesW _ _ _ _ _ _ _ T6 (mkF m 23 #[.val (.ref a1), .val (.ref a2), .val (.ref a3)] [])
  refine own_goW (fun _ k => XS.aloadN X6.here hx rfl (hb hby d8_23) rfl rfl k) ?_
  show own_GoesW _ _ _ _ _ _ _ T6 (mkF m 24 #[.val (.ref a1), .val (.ref a2), .val (.ref a3)] [(.ref a1)])
  refine own_goW (fun _ k => XS.aloadN X6.here hx rfl (hb hby d8_24) rfl rfl k) ?_
  show own_GoesW _ _ _ _ _ _ _ T6 (mkF m 25 #[.val (.ref a1), .val (.ref a2), .val (.ref a3)] [(.ref a3), (.ref a1)])
  obtain ⟨T7, h7, X7, e7, W7, st7⟩ := putF X6 hx hZ hown (host := "") (Or.inl (hw _ (List.mem_of_getElem? (i := 57) rfl))) Via.refl e6 F_k_6 E_a1_6 (Or.inr ⟨(hw _ (List.mem_of_getElem? (i := 58) rfl)), rfl, hnm⟩) (hw _ (List.mem_of_getElem? (i := 1) rfl)) (ty := (.object "java/lang/String")) (by decide) rfl rfl (g := (mkF m 25 #[.val (.ref a1), .val (.ref a2), .val (.ref a3)] [(.ref a3), (.ref a1)])) rfl rfl (hb hby d8_25)
  have F_k_7 : Fld Z h7 a1 "dev/resolvent/model/StateKey" "stateKey" "Ljava/lang/String;" (.ref a3) := F_k_6.same W7
  have N7 := Fr.snoc X7 N6 lo_a1
  have E_a1_7 : Exa Z h7 a1 "dev/resolvent/model/StateKey" := E_a1_6.wr W7
  have VM_7 : own_VM Z h7 vm4 := VM_6.map (fun _ q => q.keepX (Keep.of_wr W7) E_a1_6 (by decide) (hw _ (List.mem_of_getElem? (i := 1) rfl)))
  have F_t_7 : Fld Z h7 a1 "dev/resolvent/model/StateKey" "type" "Ljava/lang/String;" (.ref a2) := F_t_6.other W7 (Or.inr (slot_ne (Or.inr (hw _ (List.mem_of_getElem? (i := 56) rfl))) (Or.inr (hw _ (List.mem_of_getElem? (i := 58) rfl))) (by decide) (t := (.object "java/lang/String")) (t' := (.object "java/lang/String")) (by decide) (by decide)))
  have hk7 : _ ≤ h7.size := Nat.le_trans hk6 (Keep.of_wr W7).1
  have Zs7 : n0 ≤ h7.size := Nat.le_trans Zs6 (Keep.of_wr W7).1
  have Kp7 : Keep h0 h7 [a1] := Kp6.wr W7 (Or.inl (by simp))
  refine own_goW st7 ?_
  show own_GoesW _ _ _ _ _ _ _ T7 (mkF m 28 #[.val (.ref a1), .val (.ref a2), .val (.ref a3)] [])
  exact own_retVW X7 hx hS4 (by rw [e7]; exact hk7) hlk hret (hb hby d8_28) (by decide) (by decide) (by rw [e7]; exact ⟨rfl, N7, Zs7, Kp7, F_t_7, F_k_7, (VM_7.warm X7.warmed)⟩)
def Q_rm_same (Z : State) (h0 : Heap) (n0 : Nat) (p1 p2 : Int32) (v : Option Value) (h : Heap) (L : List Loc) : Prop := v = some (.int (own_same p1 p2)) ∧ Fr n0 L ∧ h = h0
set_option maxRecDepth 65536 in
set_option maxHeartbeats 40000000 in
theorem rm_same (l : Launch) (Z : State) (a0 : Array Value) (hw : ∀ d ∈ tables_1, d.before a0 Z = true) (ws : List Jvm.Cond) (p1 p2 : Int32) (h0 : Heap) (n0 : Nat) (Z0 : n0 ≤ h0.size) :
    MetFree l (⟨"dev/resolvent/model/StateKeyEqualsPinLaw", "sameCode", "(II)Z"⟩ : MethodName) (head1 (Jvm.Cond.code (⟨"dev/resolvent/model/StateKeyEqualsPinLaw", "sameCode", "(II)Z"⟩ : MethodName) method_3_code 4 (some .boolean) :: ws) ({ frames := 0, cells := 0, slots := 0, locals := 0 } : Room)) (fun a U => a = #[(.int p1), (.int p2)] ∧ Z.Warmed39 U.vm ∧ U.heap = h0) (fun _ _ _ _ _ => True) (fun _ U o U' => ∃ rv rL, o = .returned rv ∧ Q_rm_same Z h0 n0 p1 p2 rv U'.heap rL ∧ FrameEnd U o U' rL ({ frames := 0, cells := 0, slots := 0, locals := 0 } : Room).cells ({ frames := 0, cells := 0, slots := 0, locals := 0 } : Room).slots) := by
  refine own_met (y := (⟨"dev/resolvent/model/StateKeyEqualsPinLaw", "sameCode", "(II)Z"⟩ : MethodName)) (Q := Q_rm_same Z h0 n0 p1 p2) (own := "dev/resolvent/model/StateKeyEqualsPinLaw") rfl (plainFor_of_name pn_11) ?_
  intro p e s m below meth c s₁ C e0 X0
  obtain ⟨hx, hby, hml, hown, hnm, hret, hlk, hZ⟩ := C
  have N0 := Fr.nil n0
  rw [ef_11]
  show own_Goes _ _ _ _ _ _ _ s₁ (mkF m 0 #[.val (.int p1), .val (.int p2), .unset, .unset] [])
  refine own_go (fun _ k => XS.iloadN X0.here hx rfl (hb hby d11_0) rfl k) ?_
  show own_Goes _ _ _ _ _ _ _ s₁ (mkF m 1 #[.val (.int p1), .val (.int p2), .unset, .unset] [(.int p1)])
  refine own_go (fun _ k => XS.iconst X0.here hx rfl (hb hby d11_1) k) ?_
  show own_Goes _ _ _ _ _ _ _ s₁ (mkF m 2 #[.val (.int p1), .val (.int p2), .unset, .unset] [(.int (3 : Int32)), (.int p1)])
  refine own_go (fun _ k => XS.iand X0.here hx rfl (hb hby d11_2) rfl k) ?_
  show own_Goes _ _ _ _ _ _ _ s₁ (mkF m 3 #[.val (.int p1), .val (.int p2), .unset, .unset] [(.int (p1 &&& (3 : Int32)))])
  refine own_go (fun _ k => XS.istoreN X0.here hx rfl (hb hby d11_3) rfl (l' := #[.val (.int p1), .val (.int p2), .val (.int (p1 &&& (3 : Int32))), .unset]) rfl k) ?_
  show own_Goes _ _ _ _ _ _ _ s₁ (mkF m 4 #[.val (.int p1), .val (.int p2), .val (.int (p1 &&& (3 : Int32))), .unset] [])
  refine own_go (fun _ k => XS.iloadN X0.here hx rfl (hb hby d11_4) rfl k) ?_
  show own_Goes _ _ _ _ _ _ _ s₁ (mkF m 5 #[.val (.int p1), .val (.int p2), .val (.int (p1 &&& (3 : Int32))), .unset] [(.int (p1 &&& (3 : Int32)))])
  refine own_go (fun _ k => XS.iloadN X0.here hx rfl (hb hby d11_5) rfl k) ?_
  show own_Goes _ _ _ _ _ _ _ s₁ (mkF m 6 #[.val (.int p1), .val (.int p2), .val (.int (p1 &&& (3 : Int32))), .unset] [(.int p2), (.int (p1 &&& (3 : Int32)))])
  refine own_go (fun _ k => XS.iconst X0.here hx rfl (hb hby d11_6) k) ?_
  show own_Goes _ _ _ _ _ _ _ s₁ (mkF m 7 #[.val (.int p1), .val (.int p2), .val (.int (p1 &&& (3 : Int32))), .unset] [(.int (3 : Int32)), (.int p2), (.int (p1 &&& (3 : Int32)))])
  refine own_go (fun _ k => XS.iand X0.here hx rfl (hb hby d11_7) rfl k) ?_
  show own_Goes _ _ _ _ _ _ _ s₁ (mkF m 8 #[.val (.int p1), .val (.int p2), .val (.int (p1 &&& (3 : Int32))), .unset] [(.int (p2 &&& (3 : Int32))), (.int (p1 &&& (3 : Int32)))])
  by_cases hc8 : (p1 &&& (3 : Int32)) = (p2 &&& (3 : Int32))
  · refine own_go (fun _ k => XS.icmpYes X0.here hx rfl (pc0 := 8) (pc' := 13) rfl (hb hby d11_8) rfl (teq hc8).1 (by decide) (by decide) k) ?_
    show own_Goes _ _ _ _ _ _ _ s₁ (mkF m 13 #[.val (.int p1), .val (.int p2), .val (.int (p1 &&& (3 : Int32))), .unset] [])
    refine own_go (fun _ k => XS.iloadN X0.here hx rfl (hb hby d11_13) rfl k) ?_
    show own_Goes _ _ _ _ _ _ _ s₁ (mkF m 14 #[.val (.int p1), .val (.int p2), .val (.int (p1 &&& (3 : Int32))), .unset] [(.int (p1 &&& (3 : Int32)))])
    by_cases hc14 : (p1 &&& (3 : Int32)) = (0 : Int32)
    · refine own_go (fun _ k => XS.ifNo X0.here hx rfl (hb hby d11_14) rfl ((if0 _ _).trans (teq hc14).2) k) ?_
      show own_Goes _ _ _ _ _ _ _ s₁ (mkF m 17 #[.val (.int p1), .val (.int p2), .val (.int (p1 &&& (3 : Int32))), .unset] [])
      refine own_go (fun _ k => XS.iconst X0.here hx rfl (hb hby d11_17) k) ?_
      show own_Goes _ _ _ _ _ _ _ s₁ (mkF m 18 #[.val (.int p1), .val (.int p2), .val (.int (p1 &&& (3 : Int32))), .unset] [(.int (0 : Int32))])
      refine own_go (fun _ k => XS.goto X0.here hx rfl (pc0 := 18) (pc' := 44) rfl (hb hby d11_18) (by decide) (by decide) k) ?_
      show own_Goes _ _ _ _ _ _ _ s₁ (mkF m 44 #[.val (.int p1), .val (.int p2), .val (.int (p1 &&& (3 : Int32))), .unset] [(.int (0 : Int32))])
      refine own_go (fun _ k => XS.istoreN X0.here hx rfl (hb hby d11_44) rfl (l' := #[.val (.int p1), .val (.int p2), .val (.int (p1 &&& (3 : Int32))), .val (.int (0 : Int32))]) rfl k) ?_
      show own_Goes _ _ _ _ _ _ _ s₁ (mkF m 45 #[.val (.int p1), .val (.int p2), .val (.int (p1 &&& (3 : Int32))), .val (.int (0 : Int32))] [])
      refine own_go (fun _ k => XS.iloadN X0.here hx rfl (hb hby d11_45) rfl k) ?_
      show own_Goes _ _ _ _ _ _ _ s₁ (mkF m 46 #[.val (.int p1), .val (.int p2), .val (.int (p1 &&& (3 : Int32))), .val (.int (0 : Int32))] [(.int p1)])
      refine own_go (fun _ k => XS.iloadN X0.here hx rfl (hb hby d11_46) rfl k) ?_
      show own_Goes _ _ _ _ _ _ _ s₁ (mkF m 47 #[.val (.int p1), .val (.int p2), .val (.int (p1 &&& (3 : Int32))), .val (.int (0 : Int32))] [(.int (0 : Int32)), (.int p1)])
      refine own_go (fun _ k => XS.iand X0.here hx rfl (hb hby d11_47) rfl k) ?_
      show own_Goes _ _ _ _ _ _ _ s₁ (mkF m 48 #[.val (.int p1), .val (.int p2), .val (.int (p1 &&& (3 : Int32))), .val (.int (0 : Int32))] [(.int (p1 &&& (0 : Int32)))])
      refine own_go (fun _ k => XS.iloadN X0.here hx rfl (hb hby d11_48) rfl k) ?_
      show own_Goes _ _ _ _ _ _ _ s₁ (mkF m 49 #[.val (.int p1), .val (.int p2), .val (.int (p1 &&& (3 : Int32))), .val (.int (0 : Int32))] [(.int p2), (.int (p1 &&& (0 : Int32)))])
      refine own_go (fun _ k => XS.iloadN X0.here hx rfl (hb hby d11_49) rfl k) ?_
      show own_Goes _ _ _ _ _ _ _ s₁ (mkF m 50 #[.val (.int p1), .val (.int p2), .val (.int (p1 &&& (3 : Int32))), .val (.int (0 : Int32))] [(.int (0 : Int32)), (.int p2), (.int (p1 &&& (0 : Int32)))])
      refine own_go (fun _ k => XS.iand X0.here hx rfl (hb hby d11_50) rfl k) ?_
      show own_Goes _ _ _ _ _ _ _ s₁ (mkF m 51 #[.val (.int p1), .val (.int p2), .val (.int (p1 &&& (3 : Int32))), .val (.int (0 : Int32))] [(.int (p2 &&& (0 : Int32))), (.int (p1 &&& (0 : Int32)))])
      by_cases hc51 : (p1 &&& (0 : Int32)) = (p2 &&& (0 : Int32))
      · refine own_go (fun _ k => XS.icmpNo X0.here hx rfl (hb hby d11_51) rfl (teq hc51).2 k) ?_
        show own_Goes _ _ _ _ _ _ _ s₁ (mkF m 54 #[.val (.int p1), .val (.int p2), .val (.int (p1 &&& (3 : Int32))), .val (.int (0 : Int32))] [])
        refine own_go (fun _ k => XS.iconst X0.here hx rfl (hb hby d11_54) k) ?_
        show own_Goes _ _ _ _ _ _ _ s₁ (mkF m 55 #[.val (.int p1), .val (.int p2), .val (.int (p1 &&& (3 : Int32))), .val (.int (0 : Int32))] [(.int (1 : Int32))])
        refine own_go (fun _ k => XS.goto X0.here hx rfl (pc0 := 55) (pc' := 59) rfl (hb hby d11_55) (by decide) (by decide) k) ?_
        show own_Goes _ _ _ _ _ _ _ s₁ (mkF m 59 #[.val (.int p1), .val (.int p2), .val (.int (p1 &&& (3 : Int32))), .val (.int (0 : Int32))] [(.int (1 : Int32))])
        exact own_retN X0 hx (t := .boolean) hlk hret (by simp) (hb hby d11_59) (by decide) (by decide) (by rw [e0]; exact ⟨by rw [own_same, if_pos hc8, if_pos hc14, if_pos hc51] <;> rfl, N0, rfl⟩)
      · refine own_go (fun _ k => XS.icmpYes X0.here hx rfl (pc0 := 51) (pc' := 58) rfl (hb hby d11_51) rfl (feq hc51).2 (by decide) (by decide) k) ?_
        show own_Goes _ _ _ _ _ _ _ s₁ (mkF m 58 #[.val (.int p1), .val (.int p2), .val (.int (p1 &&& (3 : Int32))), .val (.int (0 : Int32))] [])
        refine own_go (fun _ k => XS.iconst X0.here hx rfl (hb hby d11_58) k) ?_
        show own_Goes _ _ _ _ _ _ _ s₁ (mkF m 59 #[.val (.int p1), .val (.int p2), .val (.int (p1 &&& (3 : Int32))), .val (.int (0 : Int32))] [(.int (0 : Int32))])
        exact own_retN X0 hx (t := .boolean) hlk hret (by simp) (hb hby d11_59) (by decide) (by decide) (by rw [e0]; exact ⟨by rw [own_same, if_pos hc8, if_pos hc14, if_neg hc51] <;> rfl, N0, rfl⟩)
    · refine own_go (fun _ k => XS.ifYes X0.here hx rfl (pc0 := 14) (pc' := 21) rfl (hb hby d11_14) rfl ((if0 _ _).trans (feq hc14).2) (by decide) (by decide) k) ?_
      show own_Goes _ _ _ _ _ _ _ s₁ (mkF m 21 #[.val (.int p1), .val (.int p2), .val (.int (p1 &&& (3 : Int32))), .unset] [])
      refine own_go (fun _ k => XS.iloadN X0.here hx rfl (hb hby d11_21) rfl k) ?_
      show own_Goes _ _ _ _ _ _ _ s₁ (mkF m 22 #[.val (.int p1), .val (.int p2), .val (.int (p1 &&& (3 : Int32))), .unset] [(.int (p1 &&& (3 : Int32)))])
      refine own_go (fun _ k => XS.iconst X0.here hx rfl (hb hby d11_22) k) ?_
      show own_Goes _ _ _ _ _ _ _ s₁ (mkF m 23 #[.val (.int p1), .val (.int p2), .val (.int (p1 &&& (3 : Int32))), .unset] [(.int (1 : Int32)), (.int (p1 &&& (3 : Int32)))])
      by_cases hc23 : (p1 &&& (3 : Int32)) = (1 : Int32)
      · refine own_go (fun _ k => XS.icmpNo X0.here hx rfl (hb hby d11_23) rfl (teq hc23).2 k) ?_
        show own_Goes _ _ _ _ _ _ _ s₁ (mkF m 26 #[.val (.int p1), .val (.int p2), .val (.int (p1 &&& (3 : Int32))), .unset] [])
        refine own_go (fun _ k => XS.sipush X0.here hx rfl (hb hby d11_26) k) ?_
        show own_Goes _ _ _ _ _ _ _ s₁ (mkF m 29 #[.val (.int p1), .val (.int p2), .val (.int (p1 &&& (3 : Int32))), .unset] [(.int (1020 : Int32))])
        refine own_go (fun _ k => XS.goto X0.here hx rfl (pc0 := 29) (pc' := 44) rfl (hb hby d11_29) (by decide) (by decide) k) ?_
        show own_Goes _ _ _ _ _ _ _ s₁ (mkF m 44 #[.val (.int p1), .val (.int p2), .val (.int (p1 &&& (3 : Int32))), .unset] [(.int (1020 : Int32))])
        refine own_go (fun _ k => XS.istoreN X0.here hx rfl (hb hby d11_44) rfl (l' := #[.val (.int p1), .val (.int p2), .val (.int (p1 &&& (3 : Int32))), .val (.int (1020 : Int32))]) rfl k) ?_
        show own_Goes _ _ _ _ _ _ _ s₁ (mkF m 45 #[.val (.int p1), .val (.int p2), .val (.int (p1 &&& (3 : Int32))), .val (.int (1020 : Int32))] [])
        refine own_go (fun _ k => XS.iloadN X0.here hx rfl (hb hby d11_45) rfl k) ?_
        show own_Goes _ _ _ _ _ _ _ s₁ (mkF m 46 #[.val (.int p1), .val (.int p2), .val (.int (p1 &&& (3 : Int32))), .val (.int (1020 : Int32))] [(.int p1)])
        refine own_go (fun _ k => XS.iloadN X0.here hx rfl (hb hby d11_46) rfl k) ?_
        show own_Goes _ _ _ _ _ _ _ s₁ (mkF m 47 #[.val (.int p1), .val (.int p2), .val (.int (p1 &&& (3 : Int32))), .val (.int (1020 : Int32))] [(.int (1020 : Int32)), (.int p1)])
        refine own_go (fun _ k => XS.iand X0.here hx rfl (hb hby d11_47) rfl k) ?_
        show own_Goes _ _ _ _ _ _ _ s₁ (mkF m 48 #[.val (.int p1), .val (.int p2), .val (.int (p1 &&& (3 : Int32))), .val (.int (1020 : Int32))] [(.int (p1 &&& (1020 : Int32)))])
        refine own_go (fun _ k => XS.iloadN X0.here hx rfl (hb hby d11_48) rfl k) ?_
        show own_Goes _ _ _ _ _ _ _ s₁ (mkF m 49 #[.val (.int p1), .val (.int p2), .val (.int (p1 &&& (3 : Int32))), .val (.int (1020 : Int32))] [(.int p2), (.int (p1 &&& (1020 : Int32)))])
        refine own_go (fun _ k => XS.iloadN X0.here hx rfl (hb hby d11_49) rfl k) ?_
        show own_Goes _ _ _ _ _ _ _ s₁ (mkF m 50 #[.val (.int p1), .val (.int p2), .val (.int (p1 &&& (3 : Int32))), .val (.int (1020 : Int32))] [(.int (1020 : Int32)), (.int p2), (.int (p1 &&& (1020 : Int32)))])
        refine own_go (fun _ k => XS.iand X0.here hx rfl (hb hby d11_50) rfl k) ?_
        show own_Goes _ _ _ _ _ _ _ s₁ (mkF m 51 #[.val (.int p1), .val (.int p2), .val (.int (p1 &&& (3 : Int32))), .val (.int (1020 : Int32))] [(.int (p2 &&& (1020 : Int32))), (.int (p1 &&& (1020 : Int32)))])
        by_cases hc51 : (p1 &&& (1020 : Int32)) = (p2 &&& (1020 : Int32))
        · refine own_go (fun _ k => XS.icmpNo X0.here hx rfl (hb hby d11_51) rfl (teq hc51).2 k) ?_
          show own_Goes _ _ _ _ _ _ _ s₁ (mkF m 54 #[.val (.int p1), .val (.int p2), .val (.int (p1 &&& (3 : Int32))), .val (.int (1020 : Int32))] [])
          refine own_go (fun _ k => XS.iconst X0.here hx rfl (hb hby d11_54) k) ?_
          show own_Goes _ _ _ _ _ _ _ s₁ (mkF m 55 #[.val (.int p1), .val (.int p2), .val (.int (p1 &&& (3 : Int32))), .val (.int (1020 : Int32))] [(.int (1 : Int32))])
          refine own_go (fun _ k => XS.goto X0.here hx rfl (pc0 := 55) (pc' := 59) rfl (hb hby d11_55) (by decide) (by decide) k) ?_
          show own_Goes _ _ _ _ _ _ _ s₁ (mkF m 59 #[.val (.int p1), .val (.int p2), .val (.int (p1 &&& (3 : Int32))), .val (.int (1020 : Int32))] [(.int (1 : Int32))])
          exact own_retN X0 hx (t := .boolean) hlk hret (by simp) (hb hby d11_59) (by decide) (by decide) (by rw [e0]; exact ⟨by rw [own_same, if_pos hc8, if_neg hc14, if_pos hc23, if_pos hc51] <;> rfl, N0, rfl⟩)
        · refine own_go (fun _ k => XS.icmpYes X0.here hx rfl (pc0 := 51) (pc' := 58) rfl (hb hby d11_51) rfl (feq hc51).2 (by decide) (by decide) k) ?_
          show own_Goes _ _ _ _ _ _ _ s₁ (mkF m 58 #[.val (.int p1), .val (.int p2), .val (.int (p1 &&& (3 : Int32))), .val (.int (1020 : Int32))] [])
          refine own_go (fun _ k => XS.iconst X0.here hx rfl (hb hby d11_58) k) ?_
          show own_Goes _ _ _ _ _ _ _ s₁ (mkF m 59 #[.val (.int p1), .val (.int p2), .val (.int (p1 &&& (3 : Int32))), .val (.int (1020 : Int32))] [(.int (0 : Int32))])
          exact own_retN X0 hx (t := .boolean) hlk hret (by simp) (hb hby d11_59) (by decide) (by decide) (by rw [e0]; exact ⟨by rw [own_same, if_pos hc8, if_neg hc14, if_pos hc23, if_neg hc51] <;> rfl, N0, rfl⟩)
      · refine own_go (fun _ k => XS.icmpYes X0.here hx rfl (pc0 := 23) (pc' := 32) rfl (hb hby d11_23) rfl (feq hc23).2 (by decide) (by decide) k) ?_
        show own_Goes _ _ _ _ _ _ _ s₁ (mkF m 32 #[.val (.int p1), .val (.int p2), .val (.int (p1 &&& (3 : Int32))), .unset] [])
        refine own_go (fun _ k => XS.iloadN X0.here hx rfl (hb hby d11_32) rfl k) ?_
        show own_Goes _ _ _ _ _ _ _ s₁ (mkF m 33 #[.val (.int p1), .val (.int p2), .val (.int (p1 &&& (3 : Int32))), .unset] [(.int (p1 &&& (3 : Int32)))])
        refine own_go (fun _ k => XS.iconst X0.here hx rfl (hb hby d11_33) k) ?_
        show own_Goes _ _ _ _ _ _ _ s₁ (mkF m 34 #[.val (.int p1), .val (.int p2), .val (.int (p1 &&& (3 : Int32))), .unset] [(.int (2 : Int32)), (.int (p1 &&& (3 : Int32)))])
        by_cases hc34 : (p1 &&& (3 : Int32)) = (2 : Int32)
        · refine own_go (fun _ k => XS.icmpNo X0.here hx rfl (hb hby d11_34) rfl (teq hc34).2 k) ?_
          show own_Goes _ _ _ _ _ _ _ s₁ (mkF m 37 #[.val (.int p1), .val (.int p2), .val (.int (p1 &&& (3 : Int32))), .unset] [])
          refine own_go (fun t k => X0.ldcInt hx hown (mvT hZ (hw _ (List.mem_of_getElem? (i := 82) rfl))) (g := (mkF m 37 #[.val (.int p1), .val (.int p2), .val (.int (p1 &&& (3 : Int32))), .unset] [])) rfl (hb hby d11_37) t k) ?_
          show own_Goes _ _ _ _ _ _ _ s₁ (mkF m 39 #[.val (.int p1), .val (.int p2), .val (.int (p1 &&& (3 : Int32))), .unset] [(.int (262140 : Int32))])
          refine own_go (fun _ k => XS.goto X0.here hx rfl (pc0 := 39) (pc' := 44) rfl (hb hby d11_39) (by decide) (by decide) k) ?_
          show own_Goes _ _ _ _ _ _ _ s₁ (mkF m 44 #[.val (.int p1), .val (.int p2), .val (.int (p1 &&& (3 : Int32))), .unset] [(.int (262140 : Int32))])
          refine own_go (fun _ k => XS.istoreN X0.here hx rfl (hb hby d11_44) rfl (l' := #[.val (.int p1), .val (.int p2), .val (.int (p1 &&& (3 : Int32))), .val (.int (262140 : Int32))]) rfl k) ?_
          show own_Goes _ _ _ _ _ _ _ s₁ (mkF m 45 #[.val (.int p1), .val (.int p2), .val (.int (p1 &&& (3 : Int32))), .val (.int (262140 : Int32))] [])
          refine own_go (fun _ k => XS.iloadN X0.here hx rfl (hb hby d11_45) rfl k) ?_
          show own_Goes _ _ _ _ _ _ _ s₁ (mkF m 46 #[.val (.int p1), .val (.int p2), .val (.int (p1 &&& (3 : Int32))), .val (.int (262140 : Int32))] [(.int p1)])
          refine own_go (fun _ k => XS.iloadN X0.here hx rfl (hb hby d11_46) rfl k) ?_
          show own_Goes _ _ _ _ _ _ _ s₁ (mkF m 47 #[.val (.int p1), .val (.int p2), .val (.int (p1 &&& (3 : Int32))), .val (.int (262140 : Int32))] [(.int (262140 : Int32)), (.int p1)])
          refine own_go (fun _ k => XS.iand X0.here hx rfl (hb hby d11_47) rfl k) ?_
          show own_Goes _ _ _ _ _ _ _ s₁ (mkF m 48 #[.val (.int p1), .val (.int p2), .val (.int (p1 &&& (3 : Int32))), .val (.int (262140 : Int32))] [(.int (p1 &&& (262140 : Int32)))])
          refine own_go (fun _ k => XS.iloadN X0.here hx rfl (hb hby d11_48) rfl k) ?_
          show own_Goes _ _ _ _ _ _ _ s₁ (mkF m 49 #[.val (.int p1), .val (.int p2), .val (.int (p1 &&& (3 : Int32))), .val (.int (262140 : Int32))] [(.int p2), (.int (p1 &&& (262140 : Int32)))])
          refine own_go (fun _ k => XS.iloadN X0.here hx rfl (hb hby d11_49) rfl k) ?_
          show own_Goes _ _ _ _ _ _ _ s₁ (mkF m 50 #[.val (.int p1), .val (.int p2), .val (.int (p1 &&& (3 : Int32))), .val (.int (262140 : Int32))] [(.int (262140 : Int32)), (.int p2), (.int (p1 &&& (262140 : Int32)))])
          refine own_go (fun _ k => XS.iand X0.here hx rfl (hb hby d11_50) rfl k) ?_
          show own_Goes _ _ _ _ _ _ _ s₁ (mkF m 51 #[.val (.int p1), .val (.int p2), .val (.int (p1 &&& (3 : Int32))), .val (.int (262140 : Int32))] [(.int (p2 &&& (262140 : Int32))), (.int (p1 &&& (262140 : Int32)))])
          by_cases hc51 : (p1 &&& (262140 : Int32)) = (p2 &&& (262140 : Int32))
          · refine own_go (fun _ k => XS.icmpNo X0.here hx rfl (hb hby d11_51) rfl (teq hc51).2 k) ?_
            show own_Goes _ _ _ _ _ _ _ s₁ (mkF m 54 #[.val (.int p1), .val (.int p2), .val (.int (p1 &&& (3 : Int32))), .val (.int (262140 : Int32))] [])
            refine own_go (fun _ k => XS.iconst X0.here hx rfl (hb hby d11_54) k) ?_
            show own_Goes _ _ _ _ _ _ _ s₁ (mkF m 55 #[.val (.int p1), .val (.int p2), .val (.int (p1 &&& (3 : Int32))), .val (.int (262140 : Int32))] [(.int (1 : Int32))])
            refine own_go (fun _ k => XS.goto X0.here hx rfl (pc0 := 55) (pc' := 59) rfl (hb hby d11_55) (by decide) (by decide) k) ?_
            show own_Goes _ _ _ _ _ _ _ s₁ (mkF m 59 #[.val (.int p1), .val (.int p2), .val (.int (p1 &&& (3 : Int32))), .val (.int (262140 : Int32))] [(.int (1 : Int32))])
            exact own_retN X0 hx (t := .boolean) hlk hret (by simp) (hb hby d11_59) (by decide) (by decide) (by rw [e0]; exact ⟨by rw [own_same, if_pos hc8, if_neg hc14, if_neg hc23, if_pos hc34, if_pos hc51] <;> rfl, N0, rfl⟩)
          · refine own_go (fun _ k => XS.icmpYes X0.here hx rfl (pc0 := 51) (pc' := 58) rfl (hb hby d11_51) rfl (feq hc51).2 (by decide) (by decide) k) ?_
            show own_Goes _ _ _ _ _ _ _ s₁ (mkF m 58 #[.val (.int p1), .val (.int p2), .val (.int (p1 &&& (3 : Int32))), .val (.int (262140 : Int32))] [])
            refine own_go (fun _ k => XS.iconst X0.here hx rfl (hb hby d11_58) k) ?_
            show own_Goes _ _ _ _ _ _ _ s₁ (mkF m 59 #[.val (.int p1), .val (.int p2), .val (.int (p1 &&& (3 : Int32))), .val (.int (262140 : Int32))] [(.int (0 : Int32))])
            exact own_retN X0 hx (t := .boolean) hlk hret (by simp) (hb hby d11_59) (by decide) (by decide) (by rw [e0]; exact ⟨by rw [own_same, if_pos hc8, if_neg hc14, if_neg hc23, if_pos hc34, if_neg hc51] <;> rfl, N0, rfl⟩)
        · refine own_go (fun _ k => XS.icmpYes X0.here hx rfl (pc0 := 34) (pc' := 42) rfl (hb hby d11_34) rfl (feq hc34).2 (by decide) (by decide) k) ?_
          show own_Goes _ _ _ _ _ _ _ s₁ (mkF m 42 #[.val (.int p1), .val (.int p2), .val (.int (p1 &&& (3 : Int32))), .unset] [])
          refine own_go (fun t k => X0.ldcInt hx hown (mvT hZ (hw _ (List.mem_of_getElem? (i := 81) rfl))) (g := (mkF m 42 #[.val (.int p1), .val (.int p2), .val (.int (p1 &&& (3 : Int32))), .unset] [])) rfl (hb hby d11_42) t k) ?_
          show own_Goes _ _ _ _ _ _ _ s₁ (mkF m 44 #[.val (.int p1), .val (.int p2), .val (.int (p1 &&& (3 : Int32))), .unset] [(.int (67108860 : Int32))])
          refine own_go (fun _ k => XS.istoreN X0.here hx rfl (hb hby d11_44) rfl (l' := #[.val (.int p1), .val (.int p2), .val (.int (p1 &&& (3 : Int32))), .val (.int (67108860 : Int32))]) rfl k) ?_
          show own_Goes _ _ _ _ _ _ _ s₁ (mkF m 45 #[.val (.int p1), .val (.int p2), .val (.int (p1 &&& (3 : Int32))), .val (.int (67108860 : Int32))] [])
          refine own_go (fun _ k => XS.iloadN X0.here hx rfl (hb hby d11_45) rfl k) ?_
          show own_Goes _ _ _ _ _ _ _ s₁ (mkF m 46 #[.val (.int p1), .val (.int p2), .val (.int (p1 &&& (3 : Int32))), .val (.int (67108860 : Int32))] [(.int p1)])
          refine own_go (fun _ k => XS.iloadN X0.here hx rfl (hb hby d11_46) rfl k) ?_
          show own_Goes _ _ _ _ _ _ _ s₁ (mkF m 47 #[.val (.int p1), .val (.int p2), .val (.int (p1 &&& (3 : Int32))), .val (.int (67108860 : Int32))] [(.int (67108860 : Int32)), (.int p1)])
          refine own_go (fun _ k => XS.iand X0.here hx rfl (hb hby d11_47) rfl k) ?_
          show own_Goes _ _ _ _ _ _ _ s₁ (mkF m 48 #[.val (.int p1), .val (.int p2), .val (.int (p1 &&& (3 : Int32))), .val (.int (67108860 : Int32))] [(.int (p1 &&& (67108860 : Int32)))])
          refine own_go (fun _ k => XS.iloadN X0.here hx rfl (hb hby d11_48) rfl k) ?_
          show own_Goes _ _ _ _ _ _ _ s₁ (mkF m 49 #[.val (.int p1), .val (.int p2), .val (.int (p1 &&& (3 : Int32))), .val (.int (67108860 : Int32))] [(.int p2), (.int (p1 &&& (67108860 : Int32)))])
          refine own_go (fun _ k => XS.iloadN X0.here hx rfl (hb hby d11_49) rfl k) ?_
          show own_Goes _ _ _ _ _ _ _ s₁ (mkF m 50 #[.val (.int p1), .val (.int p2), .val (.int (p1 &&& (3 : Int32))), .val (.int (67108860 : Int32))] [(.int (67108860 : Int32)), (.int p2), (.int (p1 &&& (67108860 : Int32)))])
          refine own_go (fun _ k => XS.iand X0.here hx rfl (hb hby d11_50) rfl k) ?_
          show own_Goes _ _ _ _ _ _ _ s₁ (mkF m 51 #[.val (.int p1), .val (.int p2), .val (.int (p1 &&& (3 : Int32))), .val (.int (67108860 : Int32))] [(.int (p2 &&& (67108860 : Int32))), (.int (p1 &&& (67108860 : Int32)))])
          by_cases hc51 : (p1 &&& (67108860 : Int32)) = (p2 &&& (67108860 : Int32))
          · refine own_go (fun _ k => XS.icmpNo X0.here hx rfl (hb hby d11_51) rfl (teq hc51).2 k) ?_
            show own_Goes _ _ _ _ _ _ _ s₁ (mkF m 54 #[.val (.int p1), .val (.int p2), .val (.int (p1 &&& (3 : Int32))), .val (.int (67108860 : Int32))] [])
            refine own_go (fun _ k => XS.iconst X0.here hx rfl (hb hby d11_54) k) ?_
            show own_Goes _ _ _ _ _ _ _ s₁ (mkF m 55 #[.val (.int p1), .val (.int p2), .val (.int (p1 &&& (3 : Int32))), .val (.int (67108860 : Int32))] [(.int (1 : Int32))])
            refine own_go (fun _ k => XS.goto X0.here hx rfl (pc0 := 55) (pc' := 59) rfl (hb hby d11_55) (by decide) (by decide) k) ?_
            show own_Goes _ _ _ _ _ _ _ s₁ (mkF m 59 #[.val (.int p1), .val (.int p2), .val (.int (p1 &&& (3 : Int32))), .val (.int (67108860 : Int32))] [(.int (1 : Int32))])
            exact own_retN X0 hx (t := .boolean) hlk hret (by simp) (hb hby d11_59) (by decide) (by decide) (by rw [e0]; exact ⟨by rw [own_same, if_pos hc8, if_neg hc14, if_neg hc23, if_neg hc34, if_pos hc51] <;> rfl, N0, rfl⟩)
          · refine own_go (fun _ k => XS.icmpYes X0.here hx rfl (pc0 := 51) (pc' := 58) rfl (hb hby d11_51) rfl (feq hc51).2 (by decide) (by decide) k) ?_
            show own_Goes _ _ _ _ _ _ _ s₁ (mkF m 58 #[.val (.int p1), .val (.int p2), .val (.int (p1 &&& (3 : Int32))), .val (.int (67108860 : Int32))] [])
            refine own_go (fun _ k => XS.iconst X0.here hx rfl (hb hby d11_58) k) ?_
            show own_Goes _ _ _ _ _ _ _ s₁ (mkF m 59 #[.val (.int p1), .val (.int p2), .val (.int (p1 &&& (3 : Int32))), .val (.int (67108860 : Int32))] [(.int (0 : Int32))])
            exact own_retN X0 hx (t := .boolean) hlk hret (by simp) (hb hby d11_59) (by decide) (by decide) (by rw [e0]; exact ⟨by rw [own_same, if_pos hc8, if_neg hc14, if_neg hc23, if_neg hc34, if_neg hc51] <;> rfl, N0, rfl⟩)
  · refine own_go (fun _ k => XS.icmpNo X0.here hx rfl (hb hby d11_8) rfl (feq hc8).1 k) ?_
    show own_Goes _ _ _ _ _ _ _ s₁ (mkF m 11 #[.val (.int p1), .val (.int p2), .val (.int (p1 &&& (3 : Int32))), .unset] [])
    refine own_go (fun _ k => XS.iconst X0.here hx rfl (hb hby d11_11) k) ?_
    show own_Goes _ _ _ _ _ _ _ s₁ (mkF m 12 #[.val (.int p1), .val (.int p2), .val (.int (p1 &&& (3 : Int32))), .unset] [(.int (0 : Int32))])
    exact own_retN X0 hx (t := .boolean) hlk hret (by simp) (hb hby d11_12) (by decide) (by decide) (by rw [e0]; exact ⟨by rw [own_same, if_neg hc8] <;> rfl, N0, rfl⟩)
def Q_rm_eqN (Z : State) (h0 : Heap) (n0 : Nat)  (v : Option Value) (h : Heap) (L : List Loc) : Prop := v = some (.int 0) ∧ Fr n0 L ∧ h = h0
set_option maxRecDepth 65536 in
set_option maxHeartbeats 40000000 in
theorem rm_eqN (l : Launch) (Z : State) (a0 : Array Value) (hw : ∀ d ∈ tables_1, d.before a0 Z = true) (ws : List Jvm.Cond) (a1 : Addr) (h0 : Heap) (n0 : Nat) (Z0 : n0 ≤ h0.size) :
    MetFree l (⟨"dev/resolvent/model/StateKey", "equals", "(Ljava/lang/Object;)Z"⟩ : MethodName) (head1 (Jvm.Cond.code (⟨"dev/resolvent/model/StateKey", "equals", "(Ljava/lang/Object;)Z"⟩ : MethodName) prog_23_method_2_code 3 (some .boolean) :: ws) ({ frames := 0, cells := 0, slots := 0, locals := 0 } : Room)) (fun a U => a = #[(.ref a1), .null] ∧ Z.Warmed39 U.vm ∧ U.heap = h0) (fun _ _ _ _ _ => True) (fun _ U o U' => ∃ rv rL, o = .returned rv ∧ Q_rm_eqN Z h0 n0  rv U'.heap rL ∧ FrameEnd U o U' rL ({ frames := 0, cells := 0, slots := 0, locals := 0 } : Room).cells ({ frames := 0, cells := 0, slots := 0, locals := 0 } : Room).slots) := by
  refine own_met (y := (⟨"dev/resolvent/model/StateKey", "equals", "(Ljava/lang/Object;)Z"⟩ : MethodName)) (Q := Q_rm_eqN Z h0 n0 ) (own := "dev/resolvent/model/StateKey") rfl (plainFor_of_name pn_12) ?_
  intro p e s m below meth c s₁ C e0 X0
  obtain ⟨hx, hby, hml, hown, hnm, hret, hlk, hZ⟩ := C
  have N0 := Fr.nil n0
  rw [ef_null]
  show own_Goes _ _ _ _ _ _ _ s₁ (mkF m 0 #[.val (.ref a1), .val .null, .unset] [])
  refine own_go (fun _ k => XS.aloadN X0.here hx rfl (hb hby d12_0) rfl rfl k) ?_
  show own_Goes _ _ _ _ _ _ _ s₁ (mkF m 1 #[.val (.ref a1), .val .null, .unset] [.null])
  refine own_go (fun t k => X0.instanceofNull hx (g := (mkF m 1 #[.val (.ref a1), .val .null, .unset] [.null])) rfl rfl (hb hby d12_1) t k) ?_
  show own_Goes _ _ _ _ _ _ _ s₁ (mkF m 4 #[.val (.ref a1), .val .null, .unset] [(.int (0 : Int32))])
  refine own_go (fun _ k => XS.ifYes X0.here hx rfl (pc0 := 4) (pc' := 44) rfl (hb hby d12_4) rfl ((if0 _ _).trans (teq (by decide : (0 : Int32) = (0 : Int32))).1) (by decide) (by decide) k) ?_
  show own_Goes _ _ _ _ _ _ _ s₁ (mkF m 44 #[.val (.ref a1), .val .null, .unset] [])
  refine own_go (fun _ k => XS.iconst X0.here hx rfl (hb hby d12_44) k) ?_
  show own_Goes _ _ _ _ _ _ _ s₁ (mkF m 45 #[.val (.ref a1), .val .null, .unset] [(.int (0 : Int32))])
  exact own_retN X0 hx (t := .boolean) hlk hret (by simp) (hb hby d12_45) (by decide) (by decide) (by rw [e0]; exact ⟨rfl, N0, rfl⟩)
def Q_rm_eqS (Z : State) (h0 : Heap) (n0 : Nat)  (v : Option Value) (h : Heap) (L : List Loc) : Prop := v = some (.int 0) ∧ Fr n0 L ∧ h = h0
set_option maxRecDepth 65536 in
set_option maxHeartbeats 40000000 in
theorem rm_eqS (l : Launch) (Z : State) (a0 : Array Value) (hw : ∀ d ∈ tables_1, d.before a0 Z = true) (ws : List Jvm.Cond) (a1 a2 : Addr) (h0 : Heap) (n0 : Nat) (Z0 : n0 ≤ h0.size) (E_a2 : Exa Z h0 a2 "java/lang/String") :
    MetFree l (⟨"dev/resolvent/model/StateKey", "equals", "(Ljava/lang/Object;)Z"⟩ : MethodName) (head1 (Jvm.Cond.code (⟨"dev/resolvent/model/StateKey", "equals", "(Ljava/lang/Object;)Z"⟩ : MethodName) prog_23_method_2_code 3 (some .boolean) :: ws) ({ frames := 0, cells := 0, slots := 0, locals := 0 } : Room)) (fun a U => a = #[(.ref a1), (.ref a2)] ∧ Z.Warmed39 U.vm ∧ U.heap = h0) (fun _ _ _ _ _ => True) (fun _ U o U' => ∃ rv rL, o = .returned rv ∧ Q_rm_eqS Z h0 n0  rv U'.heap rL ∧ FrameEnd U o U' rL ({ frames := 0, cells := 0, slots := 0, locals := 0 } : Room).cells ({ frames := 0, cells := 0, slots := 0, locals := 0 } : Room).slots) := by
  refine own_met (y := (⟨"dev/resolvent/model/StateKey", "equals", "(Ljava/lang/Object;)Z"⟩ : MethodName)) (Q := Q_rm_eqS Z h0 n0 ) (own := "dev/resolvent/model/StateKey") rfl (plainFor_of_name pn_12) ?_
  intro p e s m below meth c s₁ C e0 X0
  obtain ⟨hx, hby, hml, hown, hnm, hret, hlk, hZ⟩ := C
  have N0 := Fr.nil n0
  rw [ef_12]
  show own_Goes _ _ _ _ _ _ _ s₁ (mkF m 0 #[.val (.ref a1), .val (.ref a2), .unset] [])
  refine own_go (fun _ k => XS.aloadN X0.here hx rfl (hb hby d12_0) rfl rfl k) ?_
  show own_Goes _ _ _ _ _ _ _ s₁ (mkF m 1 #[.val (.ref a1), .val (.ref a2), .unset] [(.ref a2)])
  obtain ⟨T1, X1, e1, st1⟩ := instNo X0 hx hZ hown (hw _ (List.mem_of_getElem? (i := 67) rfl)) e0 E_a2 (own_nas (hw _ (List.mem_of_getElem? (i := 79) rfl)) (hw _ (List.mem_of_getElem? (i := 80) rfl)) (hw _ (List.mem_of_getElem? (i := 1) rfl)) (by decide) (by decide)) (g := (mkF m 1 #[.val (.ref a1), .val (.ref a2), .unset] [(.ref a2)])) rfl rfl (hb hby d12_1)
  refine own_go st1 ?_
  show own_Goes _ _ _ _ _ _ _ T1 (mkF m 4 #[.val (.ref a1), .val (.ref a2), .unset] [(.int (0 : Int32))])
  refine own_go (fun _ k => XS.ifYes X1.here hx rfl (pc0 := 4) (pc' := 44) rfl (hb hby d12_4) rfl ((if0 _ _).trans (teq (by decide : (0 : Int32) = (0 : Int32))).1) (by decide) (by decide) k) ?_
  show own_Goes _ _ _ _ _ _ _ T1 (mkF m 44 #[.val (.ref a1), .val (.ref a2), .unset] [])
  refine own_go (fun _ k => XS.iconst X1.here hx rfl (hb hby d12_44) k) ?_
  show own_Goes _ _ _ _ _ _ _ T1 (mkF m 45 #[.val (.ref a1), .val (.ref a2), .unset] [(.int (0 : Int32))])
  exact own_retN X1 hx (t := .boolean) hlk hret (by simp) (hb hby d12_45) (by decide) (by decide) (by rw [e1]; exact ⟨rfl, N0, rfl⟩)
def Q_rm_eq (Z : State) (h0 : Heap) (n0 : Nat) (cs ds es gs : List Int32) (v : Option Value) (h : Heap) (L : List Loc) : Prop := v = some (.int (own_eq2 cs ds es gs)) ∧ Fr n0 L ∧ h = h0
set_option maxRecDepth 65536 in
set_option maxHeartbeats 40000000 in
theorem rm_eq (l : Launch) (Z : State) (a0 : Array Value) (hw : ∀ d ∈ tables_1, d.before a0 Z = true) (ws : List Jvm.Cond) (a1 a2 t1 t2 r1 r2 : Addr) (cs ds es gs : List Int32) (h0 : Heap) (n0 : Nat) (Z0 : n0 ≤ h0.size) (E_a2 : Exa Z h0 a2 "dev/resolvent/model/StateKey") (Ft1 : Fld Z h0 a1 "dev/resolvent/model/StateKey" "type" "Ljava/lang/String;" (.ref t1)) (Ft2 : Fld Z h0 a2 "dev/resolvent/model/StateKey" "type" "Ljava/lang/String;" (.ref t2)) (Fr1 : Fld Z h0 a1 "dev/resolvent/model/StateKey" "stateKey" "Ljava/lang/String;" (.ref r1)) (Fr2 : Fld Z h0 a2 "dev/resolvent/model/StateKey" "stateKey" "Ljava/lang/String;" (.ref r2)) (Sp1 : own_Str2 Z h0 t1 cs) (Sp2 : own_Str2 Z h0 t2 ds) (Sp3 : own_Str2 Z h0 r1 es) (Sp4 : own_Str2 Z h0 r2 gs) (Od0 : Old Z n0 h0) (G1 : Int32) (O2 : Sta Z Z.heap "java/lang/String" "COMPACT_STRINGS" "Z" (.int G1)) (P5 : ¬ (G1 = (0 : Int32))) :
    MetFree l (⟨"dev/resolvent/model/StateKey", "equals", "(Ljava/lang/Object;)Z"⟩ : MethodName) (head1 (Jvm.Cond.code (⟨"dev/resolvent/model/StateKey", "equals", "(Ljava/lang/Object;)Z"⟩ : MethodName) prog_23_method_2_code 3 (some .boolean) :: ws) ({ frames := 2, cells := 0, slots := 0, locals := 28 } : Room)) (fun a U => a = #[(.ref a1), (.ref a2)] ∧ Z.Warmed39 U.vm ∧ U.heap = h0) (fun _ _ _ _ _ => True) (fun _ U o U' => ∃ rv rL, o = .returned rv ∧ Q_rm_eq Z h0 n0 cs ds es gs rv U'.heap rL ∧ FrameEnd U o U' rL ({ frames := 2, cells := 0, slots := 0, locals := 28 } : Room).cells ({ frames := 2, cells := 0, slots := 0, locals := 28 } : Room).slots) := by
  refine own_met (y := (⟨"dev/resolvent/model/StateKey", "equals", "(Ljava/lang/Object;)Z"⟩ : MethodName)) (Q := Q_rm_eq Z h0 n0 cs ds es gs) (own := "dev/resolvent/model/StateKey") rfl (plainFor_of_name pn_12) ?_
  intro p e s m below meth c s₁ C e0 X0
  obtain ⟨hx, hby, hml, hown, hnm, hret, hlk, hZ⟩ := C
  have N0 := Fr.nil n0
  rw [ef_12]
  show own_Goes _ _ _ _ _ _ _ s₁ (mkF m 0 #[.val (.ref a1), .val (.ref a2), .unset] [])
  refine own_go (fun _ k => XS.aloadN X0.here hx rfl (hb hby d12_0) rfl rfl k) ?_
  show own_Goes _ _ _ _ _ _ _ s₁ (mkF m 1 #[.val (.ref a1), .val (.ref a2), .unset] [(.ref a2)])
  obtain ⟨T1, X1, e1, st1⟩ := instY X0 hx hZ hown (hw _ (List.mem_of_getElem? (i := 67) rfl)) e0 (Ins.self E_a2) (g := (mkF m 1 #[.val (.ref a1), .val (.ref a2), .unset] [(.ref a2)])) rfl rfl (hb hby d12_1)
  refine own_go st1 ?_
  show own_Goes _ _ _ _ _ _ _ T1 (mkF m 4 #[.val (.ref a1), .val (.ref a2), .unset] [(.int (1 : Int32))])
  refine own_go (fun _ k => XS.ifNo X1.here hx rfl (hb hby d12_4) rfl ((if0 _ _).trans (feq (by decide : ¬ ((1 : Int32) = (0 : Int32)))).1) k) ?_
  show own_Goes _ _ _ _ _ _ _ T1 (mkF m 7 #[.val (.ref a1), .val (.ref a2), .unset] [])
  refine own_go (fun _ k => XS.aloadN X1.here hx rfl (hb hby d12_7) rfl rfl k) ?_
  show own_Goes _ _ _ _ _ _ _ T1 (mkF m 8 #[.val (.ref a1), .val (.ref a2), .unset] [(.ref a2)])
  obtain ⟨T2, X2, e2, st2⟩ := castY X1 hx hZ hown (hw _ (List.mem_of_getElem? (i := 67) rfl)) e1 (Ins.self E_a2) (g := (mkF m 8 #[.val (.ref a1), .val (.ref a2), .unset] [(.ref a2)])) rfl rfl (hb hby d12_8)
  refine own_go st2 ?_
  show own_Goes _ _ _ _ _ _ _ T2 (mkF m 11 #[.val (.ref a1), .val (.ref a2), .unset] [(.ref a2)])
  refine own_go (fun _ k => XS.astoreN X2.here hx rfl (hb hby d12_11) rfl rfl (l' := #[.val (.ref a1), .val (.ref a2), .val (.ref a2)]) rfl k) ?_
  show own_Goes _ _ _ _ _ _ _ T2 (mkF m 12 #[.val (.ref a1), .val (.ref a2), .val (.ref a2)] [])
  refine own_go (fun _ k => XS.aloadN X2.here hx rfl (hb hby d12_12) rfl rfl k) ?_
  show own_Goes _ _ _ _ _ _ _ T2 (mkF m 13 #[.val (.ref a1), .val (.ref a2), .val (.ref a2)] [(.ref a1)])
  obtain ⟨T3, X3, e3, st3⟩ := getF X2 hx hZ hown (host := "") (Or.inl (hw _ (List.mem_of_getElem? (i := 55) rfl))) Via.refl e2 Ft1 (g := (mkF m 13 #[.val (.ref a1), .val (.ref a2), .val (.ref a2)] [(.ref a1)])) rfl rfl (hb hby d12_13)
  refine own_go st3 ?_
  show own_Goes _ _ _ _ _ _ _ T3 (mkF m 16 #[.val (.ref a1), .val (.ref a2), .val (.ref a2)] [(.ref t1)])
  refine own_go (fun _ k => XS.aloadN X3.here hx rfl (hb hby d12_16) rfl rfl k) ?_
  show own_Goes _ _ _ _ _ _ _ T3 (mkF m 17 #[.val (.ref a1), .val (.ref a2), .val (.ref a2)] [(.ref a2), (.ref t1)])
  obtain ⟨T4, X4, e4, st4⟩ := getF X3 hx hZ hown (host := "") (Or.inl (hw _ (List.mem_of_getElem? (i := 55) rfl))) Via.refl e3 Ft2 (g := (mkF m 17 #[.val (.ref a1), .val (.ref a2), .val (.ref a2)] [(.ref a2), (.ref t1)])) rfl rfl (hb hby d12_17)
  refine own_go st4 ?_
  show own_Goes _ _ _ _ _ _ _ T4 (mkF m 20 #[.val (.ref a1), .val (.ref a2), .val (.ref a2)] [(.ref t2), (.ref t1)])
  obtain ⟨x51, x52, x54, x55, x5t, x5k, x57, x58⟩ := id Sp1
  obtain ⟨y51, y52, y54, y55, y5t, y5k, y57, y58⟩ := id Sp2
  obtain ⟨cq6, kq6, zq6a, zq6b, zq6c⟩ := isOf hZ e4 x51
  obtain ⟨_, _, ⟨T6, L6, k6, n6⟩, -, X6, ⟨Lc6, hQ6, l6, y6, z6⟩, st6⟩ := X4.virtualBack hx (y := (⟨"java/lang/String", "equals", "(Ljava/lang/Object;)Z"⟩ : MethodName)) (z := (⟨"java/lang/String", "equals", "(Ljava/lang/Object;)Z"⟩ : MethodName)) hown (mvT hZ (hw _ (List.mem_of_getElem? (i := 69) rfl))) (mvT hZ (hw _ (List.mem_of_getElem? (i := 70) rfl))) (notFace_of_selects (args := #[]) (mvT hZ (hw _ (List.mem_of_getElem? (i := 72) rfl)))) (mvT hZ (hw _ (List.mem_of_getElem? (i := 72) rfl))) (mvT hZ (hw _ (List.mem_of_getElem? (i := 71) rfl))) (by decide) (StrChars.Road.eqW (W := 0) hZ (fun d hd => hw d (own_wordsEq d hd)) (kI := 4) (hw _ (List.mem_of_getElem? (i := 8) rfl)) x51 x57 x52 x58 (own_cod x54) (own_up _ x54) x55 y51 y57 y52 y58 (own_cod y54) (own_up _ y54) y55 (O2.ext Od0.2) P5 (by decide) (by decide)) zq6a zq6c (g := (mkF m 20 #[.val (.ref a1), .val (.ref a2), .val (.ref a2)] [(.ref t2), (.ref t1)])) rfl (by rw [hml]; rfl) (Steps.refl _) (argsL := [(.ref t2)]) (rest := []) (lenOf pd_4 rfl) rfl (by show 2 * 0 + _ ≤ _; exact Nat.le_of_eq rfl) (hb hby d12_20) (fun _ _ => ⟨rfl, e4, (by decide : 0 + 0 ≤ _), (by decide : 0 + 0 ≤ _)⟩)
  dsimp only [Pt.U, Pt.locs, Pt.cells, Pt.slots] at X6 l6 y6 z6 st6 hQ6
  subst l6 y6 z6
  obtain ⟨hcase6, rfl, e6⟩ := hQ6
  have N6 := Fr.app N0 (Fr.nil n0)
  rcases hcase6 with ⟨rfl, hq6⟩ | ⟨rfl, hq6⟩
  · refine own_goS st6 ?_
    show own_Goes _ _ _ _ _ _ _ T6 (mkF m 23 #[.val (.ref a1), .val (.ref a2), .val (.ref a2)] [(.int (1 : Int32))])
    refine own_go (fun _ k => XS.ifNo X6.here hx rfl (hb hby d12_23) rfl ((if0 _ _).trans (feq (by decide : ¬ ((1 : Int32) = (0 : Int32)))).1) k) ?_
    show own_Goes _ _ _ _ _ _ _ T6 (mkF m 26 #[.val (.ref a1), .val (.ref a2), .val (.ref a2)] [])
    refine own_go (fun _ k => XS.aloadN X6.here hx rfl (hb hby d12_26) rfl rfl k) ?_
    show own_Goes _ _ _ _ _ _ _ T6 (mkF m 27 #[.val (.ref a1), .val (.ref a2), .val (.ref a2)] [(.ref a1)])
    obtain ⟨T7, X7, e7, st7⟩ := getF X6 hx hZ hown (host := "") (Or.inl (hw _ (List.mem_of_getElem? (i := 57) rfl))) Via.refl e6 Fr1 (g := (mkF m 27 #[.val (.ref a1), .val (.ref a2), .val (.ref a2)] [(.ref a1)])) rfl rfl (hb hby d12_27)
    refine own_go st7 ?_
    show own_Goes _ _ _ _ _ _ _ T7 (mkF m 30 #[.val (.ref a1), .val (.ref a2), .val (.ref a2)] [(.ref r1)])
    refine own_go (fun _ k => XS.aloadN X7.here hx rfl (hb hby d12_30) rfl rfl k) ?_
    show own_Goes _ _ _ _ _ _ _ T7 (mkF m 31 #[.val (.ref a1), .val (.ref a2), .val (.ref a2)] [(.ref a2), (.ref r1)])
    obtain ⟨T8, X8, e8, st8⟩ := getF X7 hx hZ hown (host := "") (Or.inl (hw _ (List.mem_of_getElem? (i := 57) rfl))) Via.refl e7 Fr2 (g := (mkF m 31 #[.val (.ref a1), .val (.ref a2), .val (.ref a2)] [(.ref a2), (.ref r1)])) rfl rfl (hb hby d12_31)
    refine own_go st8 ?_
    show own_Goes _ _ _ _ _ _ _ T8 (mkF m 34 #[.val (.ref a1), .val (.ref a2), .val (.ref a2)] [(.ref r2), (.ref r1)])
    obtain ⟨x91, x92, x94, x95, x9t, x9k, x97, x98⟩ := id Sp3
    obtain ⟨y91, y92, y94, y95, y9t, y9k, y97, y98⟩ := id Sp4
    obtain ⟨cq10, kq10, zq10a, zq10b, zq10c⟩ := isOf hZ e8 x91
    obtain ⟨_, _, ⟨T10, L10, k10, n10⟩, -, X10, ⟨Lc10, hQ10, l10, y10, z10⟩, st10⟩ := X8.virtualBack hx (y := (⟨"java/lang/String", "equals", "(Ljava/lang/Object;)Z"⟩ : MethodName)) (z := (⟨"java/lang/String", "equals", "(Ljava/lang/Object;)Z"⟩ : MethodName)) hown (mvT hZ (hw _ (List.mem_of_getElem? (i := 69) rfl))) (mvT hZ (hw _ (List.mem_of_getElem? (i := 70) rfl))) (notFace_of_selects (args := #[]) (mvT hZ (hw _ (List.mem_of_getElem? (i := 72) rfl)))) (mvT hZ (hw _ (List.mem_of_getElem? (i := 72) rfl))) (mvT hZ (hw _ (List.mem_of_getElem? (i := 71) rfl))) (by decide) (StrChars.Road.eqW (W := 0) hZ (fun d hd => hw d (own_wordsEq d hd)) (kI := 4) (hw _ (List.mem_of_getElem? (i := 8) rfl)) x91 x97 x92 x98 (own_cod x94) (own_up _ x94) x95 y91 y97 y92 y98 (own_cod y94) (own_up _ y94) y95 (O2.ext Od0.2) P5 (by decide) (by decide)) zq10a zq10c (g := (mkF m 34 #[.val (.ref a1), .val (.ref a2), .val (.ref a2)] [(.ref r2), (.ref r1)])) rfl (by rw [hml]; rfl) (Steps.refl _) (argsL := [(.ref r2)]) (rest := []) (lenOf pd_4 rfl) rfl (by show 2 * 0 + _ ≤ _; exact Nat.le_of_eq rfl) (hb hby d12_34) (fun _ _ => ⟨rfl, e8, (by decide : 0 + 0 + 0 ≤ _), (by decide : 0 + 0 + 0 ≤ _)⟩)
    dsimp only [Pt.U, Pt.locs, Pt.cells, Pt.slots] at X10 l10 y10 z10 st10 hQ10
    subst l10 y10 z10
    obtain ⟨hcase10, rfl, e10⟩ := hQ10
    have N10 := Fr.app N6 (Fr.nil n0)
    rcases hcase10 with ⟨rfl, hq10⟩ | ⟨rfl, hq10⟩
    · refine own_goS st10 ?_
      show own_Goes _ _ _ _ _ _ _ T10 (mkF m 37 #[.val (.ref a1), .val (.ref a2), .val (.ref a2)] [(.int (1 : Int32))])
      refine own_go (fun _ k => XS.ifNo X10.here hx rfl (hb hby d12_37) rfl ((if0 _ _).trans (feq (by decide : ¬ ((1 : Int32) = (0 : Int32)))).1) k) ?_
      show own_Goes _ _ _ _ _ _ _ T10 (mkF m 40 #[.val (.ref a1), .val (.ref a2), .val (.ref a2)] [])
      refine own_go (fun _ k => XS.iconst X10.here hx rfl (hb hby d12_40) k) ?_
      show own_Goes _ _ _ _ _ _ _ T10 (mkF m 41 #[.val (.ref a1), .val (.ref a2), .val (.ref a2)] [(.int (1 : Int32))])
      refine own_go (fun _ k => XS.goto X10.here hx rfl (pc0 := 41) (pc' := 45) rfl (hb hby d12_41) (by decide) (by decide) k) ?_
      show own_Goes _ _ _ _ _ _ _ T10 (mkF m 45 #[.val (.ref a1), .val (.ref a2), .val (.ref a2)] [(.int (1 : Int32))])
      exact own_retN X10 hx (t := .boolean) hlk hret (by simp) (hb hby d12_45) (by decide) (by decide) (by rw [e10]; exact ⟨by rw [own_eq2, if_pos hq6, if_pos hq10] <;> rfl, N10, rfl⟩)
    · refine own_goS st10 ?_
      show own_Goes _ _ _ _ _ _ _ T10 (mkF m 37 #[.val (.ref a1), .val (.ref a2), .val (.ref a2)] [(.int (0 : Int32))])
      refine own_go (fun _ k => XS.ifYes X10.here hx rfl (pc0 := 37) (pc' := 44) rfl (hb hby d12_37) rfl ((if0 _ _).trans (teq (by decide : (0 : Int32) = (0 : Int32))).1) (by decide) (by decide) k) ?_
      show own_Goes _ _ _ _ _ _ _ T10 (mkF m 44 #[.val (.ref a1), .val (.ref a2), .val (.ref a2)] [])
      refine own_go (fun _ k => XS.iconst X10.here hx rfl (hb hby d12_44) k) ?_
      show own_Goes _ _ _ _ _ _ _ T10 (mkF m 45 #[.val (.ref a1), .val (.ref a2), .val (.ref a2)] [(.int (0 : Int32))])
      exact own_retN X10 hx (t := .boolean) hlk hret (by simp) (hb hby d12_45) (by decide) (by decide) (by rw [e10]; exact ⟨by rw [own_eq2, if_pos hq6, if_neg hq10] <;> rfl, N10, rfl⟩)
  · refine own_goS st6 ?_
    show own_Goes _ _ _ _ _ _ _ T6 (mkF m 23 #[.val (.ref a1), .val (.ref a2), .val (.ref a2)] [(.int (0 : Int32))])
    refine own_go (fun _ k => XS.ifYes X6.here hx rfl (pc0 := 23) (pc' := 44) rfl (hb hby d12_23) rfl ((if0 _ _).trans (teq (by decide : (0 : Int32) = (0 : Int32))).1) (by decide) (by decide) k) ?_
    show own_Goes _ _ _ _ _ _ _ T6 (mkF m 44 #[.val (.ref a1), .val (.ref a2), .val (.ref a2)] [])
    refine own_go (fun _ k => XS.iconst X6.here hx rfl (hb hby d12_44) k) ?_
    show own_Goes _ _ _ _ _ _ _ T6 (mkF m 45 #[.val (.ref a1), .val (.ref a2), .val (.ref a2)] [(.int (0 : Int32))])
    exact own_retN X6 hx (t := .boolean) hlk hret (by simp) (hb hby d12_45) (by decide) (by decide) (by rw [e6]; exact ⟨by rw [own_eq2, if_neg hq6] <;> rfl, N6, rfl⟩)
set_option maxRecDepth 65536 in
set_option maxHeartbeats 40000000 in
theorem seg28 {p : Program} {l : Launch} {e : Env} {s : State} {vm0 : Vm} {k0 : Nat} {m : MethodId} {args : Array Value} {below : List Frame} {meth : Method} {c : Code} {s₁ : State} {locs : List Loc} {Z : State} {a0 : Array Value} {h0 : Heap} (p0 p1 p2 p3 p4 i5 i6 : Int32)
    (hw : ∀ d ∈ tables_1, d.before a0 Z = true) (C : own_Ctx Z x "dev/resolvent/model/StateKeyEqualsPinLaw" code maxLocals ret p (s.setVm vm0) m meth c) (X0 : Stand p l e room_1 (s.setVm vm0) m args below meth c s₁ locs 0 0) (e0 : s₁.heap = h0) (hS0 : s.Since vm0 k0) (hk0 : k0 ≤ h0.size) (VM0 : own_VM Z h0 vm0) (n0 : Nat) (Z0 : n0 ≤ h0.size) (N0 : Fr n0 locs) (Od0 : Old Z n0 h0) (CH : Jvm.Lit.constsHeld consts_1 Z) (hcw : Jvm.Lit.compactW.before a0 Z = true) (G1 : Int32) (O2 : Sta Z Z.heap "java/lang/String" "COMPACT_STRINGS" "Z" (.int G1)) (P5 : ¬ (G1 = (0 : Int32))) :
    own_GoesW p e below s (fun v h L vm => v = some (.int 1) ∧ Fr n0 L) room_1.cells room_1.slots s₁ (mkF m 28 #[.val (.int p0), .val (.int p1), .val (.int p2), .val (.int p3), .val (.int p4), .val (.int i5), .val (.int i6), .unset, .unset, .unset, .unset] []) := by
  obtain ⟨hx, hby, hml, hown, hnm, hret, hlk, hZ⟩ := C
  refine own_goW (fun _ k => XS.iload X0.here hx rfl (hb hby at_28) rfl k) ?_
  show own_GoesW _ _ _ _ _ _ _ s₁ (mkF m 30 #[.val (.int p0), .val (.int p1), .val (.int p2), .val (.int p3), .val (.int p4), .val (.int i5), .val (.int i6), .unset, .unset, .unset, .unset] [(.int p4)])
  refine own_goW (fun _ k => XS.iconst X0.here hx rfl (hb hby at_30) k) ?_
  show own_GoesW _ _ _ _ _ _ _ s₁ (mkF m 31 #[.val (.int p0), .val (.int p1), .val (.int p2), .val (.int p3), .val (.int p4), .val (.int i5), .val (.int i6), .unset, .unset, .unset, .unset] [(.int (2 : Int32)), (.int p4)])
  refine own_goW (fun _ k => XS.iushr X0.here hx rfl (hb hby at_31) rfl k) ?_
  show own_GoesW _ _ _ _ _ _ _ s₁ (mkF m 32 #[.val (.int p0), .val (.int p1), .val (.int p2), .val (.int p3), .val (.int p4), .val (.int i5), .val (.int i6), .unset, .unset, .unset, .unset] [(.int ((p4.toUInt32 >>> ((2 : Int32) &&& 31).toUInt32).toInt32))])
  refine own_goW (fun _ k => XS.iconst X0.here hx rfl (hb hby at_32) k) ?_
  show own_GoesW _ _ _ _ _ _ _ s₁ (mkF m 33 #[.val (.int p0), .val (.int p1), .val (.int p2), .val (.int p3), .val (.int p4), .val (.int i5), .val (.int i6), .unset, .unset, .unset, .unset] [(.int (3 : Int32)), (.int ((p4.toUInt32 >>> ((2 : Int32) &&& 31).toUInt32).toInt32))])
  refine own_goW (fun _ k => XS.iand X0.here hx rfl (hb hby at_33) rfl k) ?_
  show own_GoesW _ _ _ _ _ _ _ s₁ (mkF m 34 #[.val (.int p0), .val (.int p1), .val (.int p2), .val (.int p3), .val (.int p4), .val (.int i5), .val (.int i6), .unset, .unset, .unset, .unset] [(.int (((p4.toUInt32 >>> ((2 : Int32) &&& 31).toUInt32).toInt32) &&& (3 : Int32)))])
  refine own_goW (fun _ k => XS.istore X0.here hx rfl (hb hby at_34) rfl (l' := #[.val (.int p0), .val (.int p1), .val (.int p2), .val (.int p3), .val (.int p4), .val (.int i5), .val (.int i6), .val (.int (((p4.toUInt32 >>> ((2 : Int32) &&& 31).toUInt32).toInt32) &&& (3 : Int32))), .unset, .unset, .unset]) rfl k) ?_
  show own_GoesW _ _ _ _ _ _ _ s₁ (mkF m 36 #[.val (.int p0), .val (.int p1), .val (.int p2), .val (.int p3), .val (.int p4), .val (.int i5), .val (.int i6), .val (.int (((p4.toUInt32 >>> ((2 : Int32) &&& 31).toUInt32).toInt32) &&& (3 : Int32))), .unset, .unset, .unset] [])
  obtain ⟨T1, h1, X1, e1, E1, A1, D1, -, st1⟩ := newO X0 hx hZ hown (hw _ (List.mem_of_getElem? (i := 0) rfl)) (hw _ (List.mem_of_getElem? (i := 1) rfl)) (hw _ (List.mem_of_getElem? (i := 2) rfl)) e0 (g := (mkF m 36 #[.val (.int p0), .val (.int p1), .val (.int p2), .val (.int p3), .val (.int p4), .val (.int i5), .val (.int i6), .val (.int (((p4.toUInt32 >>> ((2 : Int32) &&& 31).toUInt32).toInt32) &&& (3 : Int32))), .unset, .unset, .unset] [])) rfl (hb hby at_36) (by decide) (by decide)
  obtain ⟨b1, g1⟩ : ∃ z, z = h0.size := ⟨_, rfl⟩
  rw [← g1] at A1 D1 st1
  have lo_b1 : n0 ≤ b1 := Nat.le_trans Z0 (Nat.le_of_eq g1.symm)
  have VM_1 : own_VM Z h1 vm0 := VM0.map (fun _ q => q.ext E1)
  have hk1 : _ ≤ h1.size := Nat.le_trans hk0 E1.1
  have Zs1 : n0 ≤ h1.size := Nat.le_trans Z0 E1.1
  have Od1 : Old Z n0 h1 := Od0.ext E1
  have F_type_b1 : Fld Z h1 b1 "dev/resolvent/model/StateKey" "type" "Ljava/lang/String;" .null := D1 (Or.inr (hw _ (List.mem_of_getElem? (i := 56) rfl))) (ty := (.object "java/lang/String")) (by decide)
  have F_stateKey_b1 : Fld Z h1 b1 "dev/resolvent/model/StateKey" "stateKey" "Ljava/lang/String;" .null := D1 (Or.inr (hw _ (List.mem_of_getElem? (i := 58) rfl))) (ty := (.object "java/lang/String")) (by decide)
  refine own_goW st1 ?_
  show own_GoesW _ _ _ _ _ _ _ T1 (mkF m 39 #[.val (.int p0), .val (.int p1), .val (.int p2), .val (.int p3), .val (.int p4), .val (.int i5), .val (.int i6), .val (.int (((p4.toUInt32 >>> ((2 : Int32) &&& 31).toUInt32).toInt32) &&& (3 : Int32))), .unset, .unset, .unset] [(.ref b1)])
  refine own_goW (fun _ k => XS.dup X1.here hx rfl (hb hby at_39) rfl rfl k) ?_
  show own_GoesW _ _ _ _ _ _ _ T1 (mkF m 40 #[.val (.int p0), .val (.int p1), .val (.int p2), .val (.int p3), .val (.int p4), .val (.int i5), .val (.int i6), .val (.int (((p4.toUInt32 >>> ((2 : Int32) &&& 31).toUInt32).toInt32) &&& (3 : Int32))), .unset, .unset, .unset] [(.ref b1), (.ref b1)])
  refine own_goW (fun _ k => XS.iloadN X1.here hx rfl (hb hby at_40) rfl k) ?_
  show own_GoesW _ _ _ _ _ _ _ T1 (mkF m 41 #[.val (.int p0), .val (.int p1), .val (.int p2), .val (.int p3), .val (.int p4), .val (.int i5), .val (.int i6), .val (.int (((p4.toUInt32 >>> ((2 : Int32) &&& 31).toUInt32).toInt32) &&& (3 : Int32))), .unset, .unset, .unset] [(.int p0), (.ref b1), (.ref b1)])
  obtain ⟨_, _, ⟨T2, L2, k2, n2⟩, -, X2, hS2, hg2, ⟨Lc2, hQ2, l2, y2, z2⟩, st2⟩ := Jvm.RoadKit.callSS X1 hx (y := (⟨"dev/resolvent/model/StateKeyEqualsPinLaw", "str", "(I)Ljava/lang/String;"⟩ : MethodName)) hown (mvT hZ (hw _ (List.mem_of_getElem? (i := 3) rfl))) (mvT hZ (hw _ (List.mem_of_getElem? (i := 4) rfl))) (mvT hZ (hw _ (List.mem_of_getElem? (i := 5) rfl))) (mvT hZ (hw _ (List.mem_of_getElem? (i := 6) rfl))) (by decide) (own_backW (W := 2) (rm_str l Z a0 hw [] p0 h1 n0 Zs1 Od1 CH hcw G1 O2 P5) hZ (fun vm' q => VM_1.warm q) (hw _ (List.mem_of_getElem? (i := 6) rfl)) (hw _ (List.mem_of_getElem? (i := 5) rfl)) (by decide) (by decide)) (g := (mkF m 41 #[.val (.int p0), .val (.int p1), .val (.int p2), .val (.int p3), .val (.int p4), .val (.int i5), .val (.int i6), .val (.int (((p4.toUInt32 >>> ((2 : Int32) &&& 31).toUInt32).toInt32) &&& (3 : Int32))), .unset, .unset, .unset] [(.int p0), (.ref b1), (.ref b1)])) rfl (by rw [hml]; rfl) (argsL := [(.int p0)]) (rest := [(.ref b1), (.ref b1)]) (lenOf pd_5 rfl) rfl (by show 2 * 0 + _ ≤ _; exact Nat.le_of_eq rfl) (hb hby at_41) (fun _ _ => ⟨rfl, e1, (by decide : 0 + 1 + 4 ≤ _), (by decide : 0 + 2 + 10 ≤ _)⟩)
  dsimp only [Pt.U, Pt.locs, Pt.cells, Pt.slots] at X2 l2 y2 z2 st2 hQ2 hS2 hg2
  subst l2 y2 z2
  obtain ⟨sa2, rfl, N2q, Zs2, K2, S2, VM2⟩ := hQ2
  have N2 := Fr.app N0 N2q
  obtain ⟨X2, hS2, hZ, hown⟩ := rebS hS0 (by rw [e1]; exact hk1) X2 hS2 hg2 hZ hown
  have hk2 : T2.heap.size ≤ T2.heap.size := Nat.le_refl _
  refine own_goSW st2 ?_
  show own_GoesW _ _ _ _ _ _ _ T2 (mkF m 44 #[.val (.int p0), .val (.int p1), .val (.int p2), .val (.int p3), .val (.int p4), .val (.int i5), .val (.int i6), .val (.int (((p4.toUInt32 >>> ((2 : Int32) &&& 31).toUInt32).toInt32) &&& (3 : Int32))), .unset, .unset, .unset] [(.ref sa2), (.ref b1), (.ref b1)])
  have E_b1_2 : Exa Z T2.heap b1 "dev/resolvent/model/StateKey" := A1.keep K2
  have F_type_b1_2 : Fld Z T2.heap b1 "dev/resolvent/model/StateKey" "type" "Ljava/lang/String;" .null := F_type_b1.keep K2 nin0
  have F_stateKey_b1_2 : Fld Z T2.heap b1 "dev/resolvent/model/StateKey" "stateKey" "Ljava/lang/String;" .null := F_stateKey_b1.keep K2 nin0
  have Zs2 : n0 ≤ T2.heap.size := Nat.le_trans Zs1 K2.1
  have Od2 : Old Z n0 T2.heap := Od1.keep K2 all0
  refine own_goW (fun _ k => XS.iloadN X2.here hx rfl (hb hby at_44) rfl k) ?_
  show own_GoesW _ _ _ _ _ _ _ T2 (mkF m 45 #[.val (.int p0), .val (.int p1), .val (.int p2), .val (.int p3), .val (.int p4), .val (.int i5), .val (.int i6), .val (.int (((p4.toUInt32 >>> ((2 : Int32) &&& 31).toUInt32).toInt32) &&& (3 : Int32))), .unset, .unset, .unset] [(.int p1), (.ref sa2), (.ref b1), (.ref b1)])
  obtain ⟨_, _, ⟨T3, L3, k3, n3⟩, -, X3, hS3, hg3, ⟨Lc3, hQ3, l3, y3, z3⟩, st3⟩ := Jvm.RoadKit.callSS X2 hx (y := (⟨"dev/resolvent/model/StateKeyEqualsPinLaw", "str", "(I)Ljava/lang/String;"⟩ : MethodName)) hown (mvT hZ (hw _ (List.mem_of_getElem? (i := 3) rfl))) (mvT hZ (hw _ (List.mem_of_getElem? (i := 4) rfl))) (mvT hZ (hw _ (List.mem_of_getElem? (i := 5) rfl))) (mvT hZ (hw _ (List.mem_of_getElem? (i := 6) rfl))) (by decide) (own_backW (W := 3) (rm_str l Z a0 hw [] p1 T2.heap n0 Zs2 Od2 CH hcw G1 O2 P5) hZ (fun vm' q => VM2.warm q) (hw _ (List.mem_of_getElem? (i := 6) rfl)) (hw _ (List.mem_of_getElem? (i := 5) rfl)) (by decide) (by decide)) (g := (mkF m 45 #[.val (.int p0), .val (.int p1), .val (.int p2), .val (.int p3), .val (.int p4), .val (.int i5), .val (.int i6), .val (.int (((p4.toUInt32 >>> ((2 : Int32) &&& 31).toUInt32).toInt32) &&& (3 : Int32))), .unset, .unset, .unset] [(.int p1), (.ref sa2), (.ref b1), (.ref b1)])) rfl (by rw [hml]; rfl) (argsL := [(.int p1)]) (rest := [(.ref sa2), (.ref b1), (.ref b1)]) (lenOf pd_5 rfl) rfl (by show 2 * 0 + _ ≤ _; exact Nat.le_of_eq rfl) (hb hby at_45) (fun _ _ => ⟨rfl, rfl, (by decide : 0 + 1 + 4 + 4 ≤ _), (by decide : 0 + 2 + 10 + 10 ≤ _)⟩)
  dsimp only [Pt.U, Pt.locs, Pt.cells, Pt.slots] at X3 l3 y3 z3 st3 hQ3 hS3 hg3
  subst l3 y3 z3
  obtain ⟨sa3, rfl, N3q, Zs3, K3, S3, VM3⟩ := hQ3
  have N3 := Fr.app N2 N3q
  obtain ⟨X3, hS3, hZ, hown⟩ := rebS hS2 hk2 X3 hS3 hg3 hZ hown
  have hk3 : T3.heap.size ≤ T3.heap.size := Nat.le_refl _
  refine own_goSW st3 ?_
  show own_GoesW _ _ _ _ _ _ _ T3 (mkF m 48 #[.val (.int p0), .val (.int p1), .val (.int p2), .val (.int p3), .val (.int p4), .val (.int i5), .val (.int i6), .val (.int (((p4.toUInt32 >>> ((2 : Int32) &&& 31).toUInt32).toInt32) &&& (3 : Int32))), .unset, .unset, .unset] [(.ref sa3), (.ref sa2), (.ref b1), (.ref b1)])
  have E_b1_3 : Exa Z T3.heap b1 "dev/resolvent/model/StateKey" := E_b1_2.keep K3
  have F_type_b1_3 : Fld Z T3.heap b1 "dev/resolvent/model/StateKey" "type" "Ljava/lang/String;" .null := F_type_b1_2.keep K3 nin0
  have F_stateKey_b1_3 : Fld Z T3.heap b1 "dev/resolvent/model/StateKey" "stateKey" "Ljava/lang/String;" .null := F_stateKey_b1_2.keep K3 nin0
  have S_sa2_3 : own_Str2 Z T3.heap sa2 (own_cs p0) := S2.keep0 K3
  have Zs3 : n0 ≤ T3.heap.size := Nat.le_trans Zs2 K3.1
  have Od3 : Old Z n0 T3.heap := Od2.keep K3 all0
  obtain ⟨_, _, ⟨T4, L4, k4, n4⟩, -, X4, hS4, hg4, ⟨Lc4, hQ4, l4, y4, z4⟩, st4⟩ := X3.specialBackS hx (y := (⟨"dev/resolvent/model/StateKey", "<init>", "(Ljava/lang/String;Ljava/lang/String;)V"⟩ : MethodName)) rfl hown (mvT hZ (hw _ (List.mem_of_getElem? (i := 40) rfl))) (mvT hZ (hw _ (List.mem_of_getElem? (i := 41) rfl))) (mvT hZ (hw _ (List.mem_of_getElem? (i := 42) rfl))) (by decide) (own_backW (W := 1) (rm_sk l Z a0 hw [] b1 sa2 sa3 T3.heap n0 Zs3 Od3 CH hcw E_b1_3 F_type_b1_3 F_stateKey_b1_3 lo_b1) hZ (fun vm' q => VM3.warm q) (hw _ (List.mem_of_getElem? (i := 42) rfl)) (hw _ (List.mem_of_getElem? (i := 2) rfl)) (by decide) (by decide)) (g := (mkF m 48 #[.val (.int p0), .val (.int p1), .val (.int p2), .val (.int p3), .val (.int p4), .val (.int i5), .val (.int i6), .val (.int (((p4.toUInt32 >>> ((2 : Int32) &&& 31).toUInt32).toInt32) &&& (3 : Int32))), .unset, .unset, .unset] [(.ref sa3), (.ref sa2), (.ref b1), (.ref b1)])) rfl (by rw [hml]; rfl) (Steps.refl _) (a := b1) (argsL := [(.ref sa2), (.ref sa3)]) (rest := [(.ref b1)]) (lenOf pd_6 rfl) rfl (by show 2 * 0 + _ ≤ _; exact Nat.le_of_eq rfl) (hb hby at_48) (fun _ _ => ⟨rfl, rfl, (by decide : 0 + 1 + 4 + 4 + 4 ≤ _), (by decide : 0 + 2 + 10 + 10 + 56 ≤ _)⟩)
  dsimp only [Pt.U, Pt.locs, Pt.cells, Pt.slots] at X4 l4 y4 z4 st4 hQ4 hS4 hg4
  subst l4 y4 z4
  obtain ⟨rfl, N4q, Zs4, K4, Ft4, Fk4, VM4⟩ := hQ4
  have N4 := Fr.app N3 N4q
  obtain ⟨X4, hS4, hZ, hown⟩ := rebS hS3 hk3 X4 hS4 hg4 hZ hown
  have hk4 : T4.heap.size ≤ T4.heap.size := Nat.le_refl _
  refine own_goSW st4 ?_
  show own_GoesW _ _ _ _ _ _ _ T4 (mkF m 51 #[.val (.int p0), .val (.int p1), .val (.int p2), .val (.int p3), .val (.int p4), .val (.int i5), .val (.int i6), .val (.int (((p4.toUInt32 >>> ((2 : Int32) &&& 31).toUInt32).toInt32) &&& (3 : Int32))), .unset, .unset, .unset] [(.ref b1)])
  have E_b1_4 : Exa Z T4.heap b1 "dev/resolvent/model/StateKey" := E_b1_3.keep K4
  have S_sa2_4 : own_Str2 Z T4.heap sa2 (own_cs p0) := S_sa2_3.keepX K4 E_b1_3 (by decide) (hw _ (List.mem_of_getElem? (i := 1) rfl))
  have S_sa3_4 : own_Str2 Z T4.heap sa3 (own_cs p1) := S3.keepX K4 E_b1_3 (by decide) (hw _ (List.mem_of_getElem? (i := 1) rfl))
  have Zs4 : n0 ≤ T4.heap.size := Nat.le_trans Zs3 K4.1
  have Od4 : Old Z n0 T4.heap := Od3.keep K4 (allS lo_b1 all0)
  refine own_goW (fun _ k => XS.astore X4.here hx rfl (hb hby at_51) rfl rfl (l' := #[.val (.int p0), .val (.int p1), .val (.int p2), .val (.int p3), .val (.int p4), .val (.int i5), .val (.int i6), .val (.int (((p4.toUInt32 >>> ((2 : Int32) &&& 31).toUInt32).toInt32) &&& (3 : Int32))), .val (.ref b1), .unset, .unset]) rfl k) ?_
  show own_GoesW _ _ _ _ _ _ _ T4 (mkF m 53 #[.val (.int p0), .val (.int p1), .val (.int p2), .val (.int p3), .val (.int p4), .val (.int i5), .val (.int i6), .val (.int (((p4.toUInt32 >>> ((2 : Int32) &&& 31).toUInt32).toInt32) &&& (3 : Int32))), .val (.ref b1), .unset, .unset] [])
  refine own_goW (fun _ k => XS.iload X4.here hx rfl (hb hby at_53) rfl k) ?_
  show own_GoesW _ _ _ _ _ _ _ T4 (mkF m 55 #[.val (.int p0), .val (.int p1), .val (.int p2), .val (.int p3), .val (.int p4), .val (.int i5), .val (.int i6), .val (.int (((p4.toUInt32 >>> ((2 : Int32) &&& 31).toUInt32).toInt32) &&& (3 : Int32))), .val (.ref b1), .unset, .unset] [(.int (((p4.toUInt32 >>> ((2 : Int32) &&& 31).toUInt32).toInt32) &&& (3 : Int32)))])
  refine own_goW (fun _ k => XS.iconst X4.here hx rfl (hb hby at_55) k) ?_
  show own_GoesW _ _ _ _ _ _ _ T4 (mkF m 56 #[.val (.int p0), .val (.int p1), .val (.int p2), .val (.int p3), .val (.int p4), .val (.int i5), .val (.int i6), .val (.int (((p4.toUInt32 >>> ((2 : Int32) &&& 31).toUInt32).toInt32) &&& (3 : Int32))), .val (.ref b1), .unset, .unset] [(.int (1 : Int32)), (.int (((p4.toUInt32 >>> ((2 : Int32) &&& 31).toUInt32).toInt32) &&& (3 : Int32)))])
  by_cases hc56 : (((p4.toUInt32 >>> ((2 : Int32) &&& 31).toUInt32).toInt32) &&& (3 : Int32)) = (1 : Int32)
  · refine own_goW (fun _ k => XS.icmpNo X4.here hx rfl (hb hby at_56) rfl (teq hc56).2 k) ?_
    show own_GoesW _ _ _ _ _ _ _ T4 (mkF m 59 #[.val (.int p0), .val (.int p1), .val (.int p2), .val (.int p3), .val (.int p4), .val (.int i5), .val (.int i6), .val (.int (((p4.toUInt32 >>> ((2 : Int32) &&& 31).toUInt32).toInt32) &&& (3 : Int32))), .val (.ref b1), .unset, .unset] [])
    refine own_goW (fun _ k => XS.aload X4.here hx rfl (hb hby at_59) rfl rfl k) ?_
    show own_GoesW _ _ _ _ _ _ _ T4 (mkF m 61 #[.val (.int p0), .val (.int p1), .val (.int p2), .val (.int p3), .val (.int p4), .val (.int i5), .val (.int i6), .val (.int (((p4.toUInt32 >>> ((2 : Int32) &&& 31).toUInt32).toInt32) &&& (3 : Int32))), .val (.ref b1), .unset, .unset] [(.ref b1)])
    refine own_goW (fun _ k => XS.aconstNull X4.here hx rfl (hb hby at_61) k) ?_
    show own_GoesW _ _ _ _ _ _ _ T4 (mkF m 62 #[.val (.int p0), .val (.int p1), .val (.int p2), .val (.int p3), .val (.int p4), .val (.int i5), .val (.int i6), .val (.int (((p4.toUInt32 >>> ((2 : Int32) &&& 31).toUInt32).toInt32) &&& (3 : Int32))), .val (.ref b1), .unset, .unset] [.null, (.ref b1)])
    obtain ⟨cq5, kq5, zq5a, zq5b, zq5c⟩ := isOf hZ rfl E_b1_4
    obtain ⟨_, _, ⟨T5, L5, k5, n5⟩, -, X5, ⟨Lc5, hQ5, l5, y5, z5⟩, st5⟩ := X4.virtualBack hx (y := (⟨"dev/resolvent/model/StateKey", "equals", "(Ljava/lang/Object;)Z"⟩ : MethodName)) (z := (⟨"dev/resolvent/model/StateKey", "equals", "(Ljava/lang/Object;)Z"⟩ : MethodName)) hown (mvT hZ (hw _ (List.mem_of_getElem? (i := 62) rfl))) (mvT hZ (hw _ (List.mem_of_getElem? (i := 63) rfl))) (notFace_of_selects (args := #[]) (mvT hZ (hw _ (List.mem_of_getElem? (i := 65) rfl)))) (mvT hZ (hw _ (List.mem_of_getElem? (i := 65) rfl))) (mvT hZ (hw _ (List.mem_of_getElem? (i := 64) rfl))) (by decide) (backOf (W := 0) (rm_eqN l Z a0 hw [] b1 T4.heap n0 Zs4) hZ (hw _ (List.mem_of_getElem? (i := 66) rfl)) (hw _ (List.mem_of_getElem? (i := 2) rfl)) (by decide) (by decide)) zq5a zq5c (g := (mkF m 62 #[.val (.int p0), .val (.int p1), .val (.int p2), .val (.int p3), .val (.int p4), .val (.int i5), .val (.int i6), .val (.int (((p4.toUInt32 >>> ((2 : Int32) &&& 31).toUInt32).toInt32) &&& (3 : Int32))), .val (.ref b1), .unset, .unset] [.null, (.ref b1)])) rfl (by rw [hml]; rfl) (Steps.refl _) (argsL := [.null]) (rest := []) (lenOf pd_4 rfl) rfl (by show 2 * 0 + _ ≤ _; exact Nat.le_of_eq rfl) (hb hby at_62) (fun _ _ => ⟨rfl, rfl, (by decide : 0 + 1 + 4 + 4 + 4 + 0 ≤ _), (by decide : 0 + 2 + 10 + 10 + 56 + 0 ≤ _)⟩)
    dsimp only [Pt.U, Pt.locs, Pt.cells, Pt.slots] at X5 l5 y5 z5 st5 hQ5
    subst l5 y5 z5
    obtain ⟨rfl, N5q, e5⟩ := hQ5
    have N5 := Fr.app N4 N5q
    refine own_goSW st5 ?_
    show own_GoesW _ _ _ _ _ _ _ T5 (mkF m 65 #[.val (.int p0), .val (.int p1), .val (.int p2), .val (.int p3), .val (.int p4), .val (.int i5), .val (.int i6), .val (.int (((p4.toUInt32 >>> ((2 : Int32) &&& 31).toUInt32).toInt32) &&& (3 : Int32))), .val (.ref b1), .unset, .unset] [(.int (0 : Int32))])
    refine own_goW (fun _ k => XS.ifNo X5.here hx rfl (hb hby at_65) rfl ((if0 _ _).trans (teq (by decide : (0 : Int32) = (0 : Int32))).2) k) ?_
    show own_GoesW _ _ _ _ _ _ _ T5 (mkF m 68 #[.val (.int p0), .val (.int p1), .val (.int p2), .val (.int p3), .val (.int p4), .val (.int i5), .val (.int i6), .val (.int (((p4.toUInt32 >>> ((2 : Int32) &&& 31).toUInt32).toInt32) &&& (3 : Int32))), .val (.ref b1), .unset, .unset] [])
    refine own_goW (fun _ k => XS.iconst X5.here hx rfl (hb hby at_68) k) ?_
    show own_GoesW _ _ _ _ _ _ _ T5 (mkF m 69 #[.val (.int p0), .val (.int p1), .val (.int p2), .val (.int p3), .val (.int p4), .val (.int i5), .val (.int i6), .val (.int (((p4.toUInt32 >>> ((2 : Int32) &&& 31).toUInt32).toInt32) &&& (3 : Int32))), .val (.ref b1), .unset, .unset] [(.int (1 : Int32))])
    refine own_goW (fun _ k => XS.goto X5.here hx rfl (pc0 := 69) (pc' := 73) rfl (hb hby at_69) (by decide) (by decide) k) ?_
    show own_GoesW _ _ _ _ _ _ _ T5 (mkF m 73 #[.val (.int p0), .val (.int p1), .val (.int p2), .val (.int p3), .val (.int p4), .val (.int i5), .val (.int i6), .val (.int (((p4.toUInt32 >>> ((2 : Int32) &&& 31).toUInt32).toInt32) &&& (3 : Int32))), .val (.ref b1), .unset, .unset] [(.int (1 : Int32))])
    exact own_retNW X5 hx hS4 (by rw [e5]; exact hk4) (t := .boolean) hlk hret (by simp) (hb hby at_73) (by decide) (by decide) ⟨rfl, N5⟩
  · refine own_goW (fun _ k => XS.icmpYes X4.here hx rfl (pc0 := 56) (pc' := 74) rfl (hb hby at_56) rfl (feq hc56).2 (by decide) (by decide) k) ?_
    show own_GoesW _ _ _ _ _ _ _ T4 (mkF m 74 #[.val (.int p0), .val (.int p1), .val (.int p2), .val (.int p3), .val (.int p4), .val (.int i5), .val (.int i6), .val (.int (((p4.toUInt32 >>> ((2 : Int32) &&& 31).toUInt32).toInt32) &&& (3 : Int32))), .val (.ref b1), .unset, .unset] [])
    refine own_goW (fun _ k => XS.iload X4.here hx rfl (hb hby at_74) rfl k) ?_
    show own_GoesW _ _ _ _ _ _ _ T4 (mkF m 76 #[.val (.int p0), .val (.int p1), .val (.int p2), .val (.int p3), .val (.int p4), .val (.int i5), .val (.int i6), .val (.int (((p4.toUInt32 >>> ((2 : Int32) &&& 31).toUInt32).toInt32) &&& (3 : Int32))), .val (.ref b1), .unset, .unset] [(.int (((p4.toUInt32 >>> ((2 : Int32) &&& 31).toUInt32).toInt32) &&& (3 : Int32)))])
    refine own_goW (fun _ k => XS.iconst X4.here hx rfl (hb hby at_76) k) ?_
    show own_GoesW _ _ _ _ _ _ _ T4 (mkF m 77 #[.val (.int p0), .val (.int p1), .val (.int p2), .val (.int p3), .val (.int p4), .val (.int i5), .val (.int i6), .val (.int (((p4.toUInt32 >>> ((2 : Int32) &&& 31).toUInt32).toInt32) &&& (3 : Int32))), .val (.ref b1), .unset, .unset] [(.int (2 : Int32)), (.int (((p4.toUInt32 >>> ((2 : Int32) &&& 31).toUInt32).toInt32) &&& (3 : Int32)))])
    by_cases hc77 : (((p4.toUInt32 >>> ((2 : Int32) &&& 31).toUInt32).toInt32) &&& (3 : Int32)) = (2 : Int32)
    · refine own_goW (fun _ k => XS.icmpNo X4.here hx rfl (hb hby at_77) rfl (teq hc77).2 k) ?_
      show own_GoesW _ _ _ _ _ _ _ T4 (mkF m 80 #[.val (.int p0), .val (.int p1), .val (.int p2), .val (.int p3), .val (.int p4), .val (.int i5), .val (.int i6), .val (.int (((p4.toUInt32 >>> ((2 : Int32) &&& 31).toUInt32).toInt32) &&& (3 : Int32))), .val (.ref b1), .unset, .unset] [])
      refine own_goW (fun _ k => XS.iloadN X4.here hx rfl (hb hby at_80) rfl k) ?_
      show own_GoesW _ _ _ _ _ _ _ T4 (mkF m 81 #[.val (.int p0), .val (.int p1), .val (.int p2), .val (.int p3), .val (.int p4), .val (.int i5), .val (.int i6), .val (.int (((p4.toUInt32 >>> ((2 : Int32) &&& 31).toUInt32).toInt32) &&& (3 : Int32))), .val (.ref b1), .unset, .unset] [(.int p0)])
      obtain ⟨_, _, ⟨T6, L6, k6, n6⟩, -, X6, hS6, hg6, ⟨Lc6, hQ6, l6, y6, z6⟩, st6⟩ := Jvm.RoadKit.callSS X4 hx (y := (⟨"dev/resolvent/model/StateKeyEqualsPinLaw", "str", "(I)Ljava/lang/String;"⟩ : MethodName)) hown (mvT hZ (hw _ (List.mem_of_getElem? (i := 3) rfl))) (mvT hZ (hw _ (List.mem_of_getElem? (i := 4) rfl))) (mvT hZ (hw _ (List.mem_of_getElem? (i := 5) rfl))) (mvT hZ (hw _ (List.mem_of_getElem? (i := 6) rfl))) (by decide) (own_backW (W := 0) (rm_str l Z a0 hw [] p0 T4.heap n0 Zs4 Od4 CH hcw G1 O2 P5) hZ (fun vm' q => VM4.warm q) (hw _ (List.mem_of_getElem? (i := 6) rfl)) (hw _ (List.mem_of_getElem? (i := 5) rfl)) (by decide) (by decide)) (g := (mkF m 81 #[.val (.int p0), .val (.int p1), .val (.int p2), .val (.int p3), .val (.int p4), .val (.int i5), .val (.int i6), .val (.int (((p4.toUInt32 >>> ((2 : Int32) &&& 31).toUInt32).toInt32) &&& (3 : Int32))), .val (.ref b1), .unset, .unset] [(.int p0)])) rfl (by rw [hml]; rfl) (argsL := [(.int p0)]) (rest := []) (lenOf pd_5 rfl) rfl (by show 2 * 0 + _ ≤ _; exact Nat.le_of_eq rfl) (hb hby at_81) (fun _ _ => ⟨rfl, rfl, (by decide : 0 + 1 + 4 + 4 + 4 + 4 ≤ _), (by decide : 0 + 2 + 10 + 10 + 56 + 10 ≤ _)⟩)
      dsimp only [Pt.U, Pt.locs, Pt.cells, Pt.slots] at X6 l6 y6 z6 st6 hQ6 hS6 hg6
      subst l6 y6 z6
      obtain ⟨sa6, rfl, N6q, Zs6, K6, S6, VM6⟩ := hQ6
      have N6 := Fr.app N4 N6q
      obtain ⟨X6, hS6, hZ, hown⟩ := rebS hS4 hk4 X6 hS6 hg6 hZ hown
      have hk6 : T6.heap.size ≤ T6.heap.size := Nat.le_refl _
      refine own_goSW st6 ?_
      show own_GoesW _ _ _ _ _ _ _ T6 (mkF m 84 #[.val (.int p0), .val (.int p1), .val (.int p2), .val (.int p3), .val (.int p4), .val (.int i5), .val (.int i6), .val (.int (((p4.toUInt32 >>> ((2 : Int32) &&& 31).toUInt32).toInt32) &&& (3 : Int32))), .val (.ref b1), .unset, .unset] [(.ref sa6)])
      have E_b1_6 : Exa Z T6.heap b1 "dev/resolvent/model/StateKey" := E_b1_4.keep K6
      have S_sa2_6 : own_Str2 Z T6.heap sa2 (own_cs p0) := S_sa2_4.keep0 K6
      have S_sa3_6 : own_Str2 Z T6.heap sa3 (own_cs p1) := S_sa3_4.keep0 K6
      have Ft_b1_6 : Fld Z T6.heap b1 "dev/resolvent/model/StateKey" "type" "Ljava/lang/String;" (.ref sa2) := Ft4.keep K6 nin0
      have Fk_b1_6 : Fld Z T6.heap b1 "dev/resolvent/model/StateKey" "stateKey" "Ljava/lang/String;" (.ref sa3) := Fk4.keep K6 nin0
      have Zs6 : n0 ≤ T6.heap.size := Nat.le_trans Zs4 K6.1
      have Od6 : Old Z n0 T6.heap := Od4.keep K6 all0
      refine own_goW (fun _ k => XS.astore X6.here hx rfl (hb hby at_84) rfl rfl (l' := #[.val (.int p0), .val (.int p1), .val (.int p2), .val (.int p3), .val (.int p4), .val (.int i5), .val (.int i6), .val (.int (((p4.toUInt32 >>> ((2 : Int32) &&& 31).toUInt32).toInt32) &&& (3 : Int32))), .val (.ref b1), .val (.ref sa6), .unset]) rfl k) ?_
      show own_GoesW _ _ _ _ _ _ _ T6 (mkF m 86 #[.val (.int p0), .val (.int p1), .val (.int p2), .val (.int p3), .val (.int p4), .val (.int i5), .val (.int i6), .val (.int (((p4.toUInt32 >>> ((2 : Int32) &&& 31).toUInt32).toInt32) &&& (3 : Int32))), .val (.ref b1), .val (.ref sa6), .unset] [])
      refine own_goW (fun _ k => XS.aload X6.here hx rfl (hb hby at_86) rfl rfl k) ?_
      show own_GoesW _ _ _ _ _ _ _ T6 (mkF m 88 #[.val (.int p0), .val (.int p1), .val (.int p2), .val (.int p3), .val (.int p4), .val (.int i5), .val (.int i6), .val (.int (((p4.toUInt32 >>> ((2 : Int32) &&& 31).toUInt32).toInt32) &&& (3 : Int32))), .val (.ref b1), .val (.ref sa6), .unset] [(.ref b1)])
      refine own_goW (fun _ k => XS.aload X6.here hx rfl (hb hby at_88) rfl rfl k) ?_
      show own_GoesW _ _ _ _ _ _ _ T6 (mkF m 90 #[.val (.int p0), .val (.int p1), .val (.int p2), .val (.int p3), .val (.int p4), .val (.int i5), .val (.int i6), .val (.int (((p4.toUInt32 >>> ((2 : Int32) &&& 31).toUInt32).toInt32) &&& (3 : Int32))), .val (.ref b1), .val (.ref sa6), .unset] [(.ref sa6), (.ref b1)])
      obtain ⟨cq7, kq7, zq7a, zq7b, zq7c⟩ := isOf hZ rfl E_b1_6
      obtain ⟨_, _, ⟨T7, L7, k7, n7⟩, -, X7, ⟨Lc7, hQ7, l7, y7, z7⟩, st7⟩ := X6.virtualBack hx (y := (⟨"dev/resolvent/model/StateKey", "equals", "(Ljava/lang/Object;)Z"⟩ : MethodName)) (z := (⟨"dev/resolvent/model/StateKey", "equals", "(Ljava/lang/Object;)Z"⟩ : MethodName)) hown (mvT hZ (hw _ (List.mem_of_getElem? (i := 62) rfl))) (mvT hZ (hw _ (List.mem_of_getElem? (i := 63) rfl))) (notFace_of_selects (args := #[]) (mvT hZ (hw _ (List.mem_of_getElem? (i := 65) rfl)))) (mvT hZ (hw _ (List.mem_of_getElem? (i := 65) rfl))) (mvT hZ (hw _ (List.mem_of_getElem? (i := 64) rfl))) (by decide) (backOf (W := 0) (rm_eqS l Z a0 hw [] b1 sa6 T6.heap n0 Zs6 S6.1) hZ (hw _ (List.mem_of_getElem? (i := 66) rfl)) (hw _ (List.mem_of_getElem? (i := 2) rfl)) (by decide) (by decide)) zq7a zq7c (g := (mkF m 90 #[.val (.int p0), .val (.int p1), .val (.int p2), .val (.int p3), .val (.int p4), .val (.int i5), .val (.int i6), .val (.int (((p4.toUInt32 >>> ((2 : Int32) &&& 31).toUInt32).toInt32) &&& (3 : Int32))), .val (.ref b1), .val (.ref sa6), .unset] [(.ref sa6), (.ref b1)])) rfl (by rw [hml]; rfl) (Steps.refl _) (argsL := [(.ref sa6)]) (rest := []) (lenOf pd_4 rfl) rfl (by show 2 * 0 + _ ≤ _; exact Nat.le_of_eq rfl) (hb hby at_90) (fun _ _ => ⟨rfl, rfl, (by decide : 0 + 1 + 4 + 4 + 4 + 4 + 0 ≤ _), (by decide : 0 + 2 + 10 + 10 + 56 + 10 + 0 ≤ _)⟩)
      dsimp only [Pt.U, Pt.locs, Pt.cells, Pt.slots] at X7 l7 y7 z7 st7 hQ7
      subst l7 y7 z7
      obtain ⟨rfl, N7q, e7⟩ := hQ7
      have N7 := Fr.app N6 N7q
      refine own_goSW st7 ?_
      show own_GoesW _ _ _ _ _ _ _ T7 (mkF m 93 #[.val (.int p0), .val (.int p1), .val (.int p2), .val (.int p3), .val (.int p4), .val (.int i5), .val (.int i6), .val (.int (((p4.toUInt32 >>> ((2 : Int32) &&& 31).toUInt32).toInt32) &&& (3 : Int32))), .val (.ref b1), .val (.ref sa6), .unset] [(.int (0 : Int32))])
      refine own_goW (fun _ k => XS.ifNo X7.here hx rfl (hb hby at_93) rfl ((if0 _ _).trans (teq (by decide : (0 : Int32) = (0 : Int32))).2) k) ?_
      show own_GoesW _ _ _ _ _ _ _ T7 (mkF m 96 #[.val (.int p0), .val (.int p1), .val (.int p2), .val (.int p3), .val (.int p4), .val (.int i5), .val (.int i6), .val (.int (((p4.toUInt32 >>> ((2 : Int32) &&& 31).toUInt32).toInt32) &&& (3 : Int32))), .val (.ref b1), .val (.ref sa6), .unset] [])
      refine own_goW (fun _ k => XS.iconst X7.here hx rfl (hb hby at_96) k) ?_
      show own_GoesW _ _ _ _ _ _ _ T7 (mkF m 97 #[.val (.int p0), .val (.int p1), .val (.int p2), .val (.int p3), .val (.int p4), .val (.int i5), .val (.int i6), .val (.int (((p4.toUInt32 >>> ((2 : Int32) &&& 31).toUInt32).toInt32) &&& (3 : Int32))), .val (.ref b1), .val (.ref sa6), .unset] [(.int (1 : Int32))])
      refine own_goW (fun _ k => XS.goto X7.here hx rfl (pc0 := 97) (pc' := 101) rfl (hb hby at_97) (by decide) (by decide) k) ?_
      show own_GoesW _ _ _ _ _ _ _ T7 (mkF m 101 #[.val (.int p0), .val (.int p1), .val (.int p2), .val (.int p3), .val (.int p4), .val (.int i5), .val (.int i6), .val (.int (((p4.toUInt32 >>> ((2 : Int32) &&& 31).toUInt32).toInt32) &&& (3 : Int32))), .val (.ref b1), .val (.ref sa6), .unset] [(.int (1 : Int32))])
      exact own_retNW X7 hx hS6 (by rw [e7]; exact hk6) (t := .boolean) hlk hret (by simp) (hb hby at_101) (by decide) (by decide) ⟨rfl, N7⟩
    · refine own_goW (fun _ k => XS.icmpYes X4.here hx rfl (pc0 := 77) (pc' := 102) rfl (hb hby at_77) rfl (feq hc77).2 (by decide) (by decide) k) ?_
      show own_GoesW _ _ _ _ _ _ _ T4 (mkF m 102 #[.val (.int p0), .val (.int p1), .val (.int p2), .val (.int p3), .val (.int p4), .val (.int i5), .val (.int i6), .val (.int (((p4.toUInt32 >>> ((2 : Int32) &&& 31).toUInt32).toInt32) &&& (3 : Int32))), .val (.ref b1), .unset, .unset] [])
      refine own_goW (fun _ k => XS.iload X4.here hx rfl (hb hby at_102) rfl k) ?_
      show own_GoesW _ _ _ _ _ _ _ T4 (mkF m 104 #[.val (.int p0), .val (.int p1), .val (.int p2), .val (.int p3), .val (.int p4), .val (.int i5), .val (.int i6), .val (.int (((p4.toUInt32 >>> ((2 : Int32) &&& 31).toUInt32).toInt32) &&& (3 : Int32))), .val (.ref b1), .unset, .unset] [(.int (((p4.toUInt32 >>> ((2 : Int32) &&& 31).toUInt32).toInt32) &&& (3 : Int32)))])
      refine own_goW (fun _ k => XS.iconst X4.here hx rfl (hb hby at_104) k) ?_
      show own_GoesW _ _ _ _ _ _ _ T4 (mkF m 105 #[.val (.int p0), .val (.int p1), .val (.int p2), .val (.int p3), .val (.int p4), .val (.int i5), .val (.int i6), .val (.int (((p4.toUInt32 >>> ((2 : Int32) &&& 31).toUInt32).toInt32) &&& (3 : Int32))), .val (.ref b1), .unset, .unset] [(.int (3 : Int32)), (.int (((p4.toUInt32 >>> ((2 : Int32) &&& 31).toUInt32).toInt32) &&& (3 : Int32)))])
      by_cases hc105 : (((p4.toUInt32 >>> ((2 : Int32) &&& 31).toUInt32).toInt32) &&& (3 : Int32)) = (3 : Int32)
      · refine own_goW (fun _ k => XS.icmpNo X4.here hx rfl (hb hby at_105) rfl (teq hc105).2 k) ?_
        show own_GoesW _ _ _ _ _ _ _ T4 (mkF m 108 #[.val (.int p0), .val (.int p1), .val (.int p2), .val (.int p3), .val (.int p4), .val (.int i5), .val (.int i6), .val (.int (((p4.toUInt32 >>> ((2 : Int32) &&& 31).toUInt32).toInt32) &&& (3 : Int32))), .val (.ref b1), .unset, .unset] [])
        refine own_goW (fun _ k => XS.aload X4.here hx rfl (hb hby at_108) rfl rfl k) ?_
        show own_GoesW _ _ _ _ _ _ _ T4 (mkF m 110 #[.val (.int p0), .val (.int p1), .val (.int p2), .val (.int p3), .val (.int p4), .val (.int i5), .val (.int i6), .val (.int (((p4.toUInt32 >>> ((2 : Int32) &&& 31).toUInt32).toInt32) &&& (3 : Int32))), .val (.ref b1), .unset, .unset] [(.ref b1)])
        refine own_goW (fun _ k => XS.aload X4.here hx rfl (hb hby at_110) rfl rfl k) ?_
        show own_GoesW _ _ _ _ _ _ _ T4 (mkF m 112 #[.val (.int p0), .val (.int p1), .val (.int p2), .val (.int p3), .val (.int p4), .val (.int i5), .val (.int i6), .val (.int (((p4.toUInt32 >>> ((2 : Int32) &&& 31).toUInt32).toInt32) &&& (3 : Int32))), .val (.ref b1), .unset, .unset] [(.ref b1), (.ref b1)])
        obtain ⟨cq8, kq8, zq8a, zq8b, zq8c⟩ := isOf hZ rfl E_b1_4
        obtain ⟨_, _, ⟨T8, L8, k8, n8⟩, -, X8, ⟨Lc8, hQ8, l8, y8, z8⟩, st8⟩ := X4.virtualBack hx (y := (⟨"dev/resolvent/model/StateKey", "equals", "(Ljava/lang/Object;)Z"⟩ : MethodName)) (z := (⟨"dev/resolvent/model/StateKey", "equals", "(Ljava/lang/Object;)Z"⟩ : MethodName)) hown (mvT hZ (hw _ (List.mem_of_getElem? (i := 62) rfl))) (mvT hZ (hw _ (List.mem_of_getElem? (i := 63) rfl))) (notFace_of_selects (args := #[]) (mvT hZ (hw _ (List.mem_of_getElem? (i := 65) rfl)))) (mvT hZ (hw _ (List.mem_of_getElem? (i := 65) rfl))) (mvT hZ (hw _ (List.mem_of_getElem? (i := 64) rfl))) (by decide) (backOf (W := 0) (rm_eq l Z a0 hw [] b1 b1 sa2 sa2 sa3 sa3 (own_cs p0) (own_cs p0) (own_cs p1) (own_cs p1) T4.heap n0 Zs4 E_b1_4 Ft4 Ft4 Fk4 Fk4 S_sa2_4 S_sa2_4 S_sa3_4 S_sa3_4 Od4 G1 O2 P5) hZ (hw _ (List.mem_of_getElem? (i := 66) rfl)) (hw _ (List.mem_of_getElem? (i := 2) rfl)) (by decide) (by decide)) zq8a zq8c (g := (mkF m 112 #[.val (.int p0), .val (.int p1), .val (.int p2), .val (.int p3), .val (.int p4), .val (.int i5), .val (.int i6), .val (.int (((p4.toUInt32 >>> ((2 : Int32) &&& 31).toUInt32).toInt32) &&& (3 : Int32))), .val (.ref b1), .unset, .unset] [(.ref b1), (.ref b1)])) rfl (by rw [hml]; rfl) (Steps.refl _) (argsL := [(.ref b1)]) (rest := []) (lenOf pd_4 rfl) rfl (by show 2 * 0 + _ ≤ _; exact Nat.le_of_eq rfl) (hb hby at_112) (fun _ _ => ⟨rfl, rfl, (by decide : 0 + 1 + 4 + 4 + 4 + 0 ≤ _), (by decide : 0 + 2 + 10 + 10 + 56 + 0 ≤ _)⟩)
        dsimp only [Pt.U, Pt.locs, Pt.cells, Pt.slots] at X8 l8 y8 z8 st8 hQ8
        subst l8 y8 z8
        obtain ⟨rfl, N8q, e8⟩ := hQ8
        have N8 := Fr.app N4 N8q
        refine own_goSW st8 ?_
        show own_GoesW _ _ _ _ _ _ _ T8 (mkF m 115 #[.val (.int p0), .val (.int p1), .val (.int p2), .val (.int p3), .val (.int p4), .val (.int i5), .val (.int i6), .val (.int (((p4.toUInt32 >>> ((2 : Int32) &&& 31).toUInt32).toInt32) &&& (3 : Int32))), .val (.ref b1), .unset, .unset] [(.int (own_eq2 (own_cs p0) (own_cs p0) (own_cs p1) (own_cs p1)))])
        exact own_retNW X8 hx hS4 (by rw [e8]; exact hk4) (t := .boolean) hlk hret (by simp) (hb hby at_115) (by decide) (by decide) ⟨by rw [own_eq2, if_pos rfl, if_pos rfl]; rfl, N8⟩
      · refine own_goW (fun _ k => XS.icmpYes X4.here hx rfl (pc0 := 105) (pc' := 116) rfl (hb hby at_105) rfl (feq hc105).2 (by decide) (by decide) k) ?_
        show own_GoesW _ _ _ _ _ _ _ T4 (mkF m 116 #[.val (.int p0), .val (.int p1), .val (.int p2), .val (.int p3), .val (.int p4), .val (.int i5), .val (.int i6), .val (.int (((p4.toUInt32 >>> ((2 : Int32) &&& 31).toUInt32).toInt32) &&& (3 : Int32))), .val (.ref b1), .unset, .unset] [])
        obtain ⟨T9, h9, X9, e9, E9, A9, D9, -, st9⟩ := newO X4 hx hZ hown (hw _ (List.mem_of_getElem? (i := 0) rfl)) (hw _ (List.mem_of_getElem? (i := 1) rfl)) (hw _ (List.mem_of_getElem? (i := 2) rfl)) rfl (g := (mkF m 116 #[.val (.int p0), .val (.int p1), .val (.int p2), .val (.int p3), .val (.int p4), .val (.int i5), .val (.int i6), .val (.int (((p4.toUInt32 >>> ((2 : Int32) &&& 31).toUInt32).toInt32) &&& (3 : Int32))), .val (.ref b1), .unset, .unset] [])) rfl (hb hby at_116) (by decide) (by decide)
        obtain ⟨b9, g9⟩ : ∃ z, z = T4.heap.size := ⟨_, rfl⟩
        rw [← g9] at A9 D9 st9
        have lo_b9 : n0 ≤ b9 := Nat.le_trans Zs4 (Nat.le_of_eq g9.symm)
        have ne_b1_b9 : b1 ≠ b9 := Nat.ne_of_lt (Nat.lt_of_lt_of_le E_b1_4.lt (Nat.le_of_eq g9.symm))
        have E_b1_9 : Exa Z h9 b1 "dev/resolvent/model/StateKey" := E_b1_4.ext E9
        have S_sa2_9 : own_Str2 Z h9 sa2 (own_cs p0) := S_sa2_4.ext E9
        have S_sa3_9 : own_Str2 Z h9 sa3 (own_cs p1) := S_sa3_4.ext E9
        have VM_9 : own_VM Z h9 T4.vm := VM4.map (fun _ q => q.ext E9)
        have Ft_b1_9 : Fld Z h9 b1 "dev/resolvent/model/StateKey" "type" "Ljava/lang/String;" (.ref sa2) := Ft4.ext E9
        have Fk_b1_9 : Fld Z h9 b1 "dev/resolvent/model/StateKey" "stateKey" "Ljava/lang/String;" (.ref sa3) := Fk4.ext E9
        have hk9 : _ ≤ h9.size := Nat.le_trans hk4 E9.1
        have Zs9 : n0 ≤ h9.size := Nat.le_trans Zs4 E9.1
        have Od9 : Old Z n0 h9 := Od4.ext E9
        have F_type_b9 : Fld Z h9 b9 "dev/resolvent/model/StateKey" "type" "Ljava/lang/String;" .null := D9 (Or.inr (hw _ (List.mem_of_getElem? (i := 56) rfl))) (ty := (.object "java/lang/String")) (by decide)
        have F_stateKey_b9 : Fld Z h9 b9 "dev/resolvent/model/StateKey" "stateKey" "Ljava/lang/String;" .null := D9 (Or.inr (hw _ (List.mem_of_getElem? (i := 58) rfl))) (ty := (.object "java/lang/String")) (by decide)
        refine own_goW st9 ?_
        show own_GoesW _ _ _ _ _ _ _ T9 (mkF m 119 #[.val (.int p0), .val (.int p1), .val (.int p2), .val (.int p3), .val (.int p4), .val (.int i5), .val (.int i6), .val (.int (((p4.toUInt32 >>> ((2 : Int32) &&& 31).toUInt32).toInt32) &&& (3 : Int32))), .val (.ref b1), .unset, .unset] [(.ref b9)])
        refine own_goW (fun _ k => XS.dup X9.here hx rfl (hb hby at_119) rfl rfl k) ?_
        show own_GoesW _ _ _ _ _ _ _ T9 (mkF m 120 #[.val (.int p0), .val (.int p1), .val (.int p2), .val (.int p3), .val (.int p4), .val (.int i5), .val (.int i6), .val (.int (((p4.toUInt32 >>> ((2 : Int32) &&& 31).toUInt32).toInt32) &&& (3 : Int32))), .val (.ref b1), .unset, .unset] [(.ref b9), (.ref b9)])
        refine own_goW (fun _ k => XS.iload X9.here hx rfl (hb hby at_120) rfl k) ?_
        show own_GoesW _ _ _ _ _ _ _ T9 (mkF m 122 #[.val (.int p0), .val (.int p1), .val (.int p2), .val (.int p3), .val (.int p4), .val (.int i5), .val (.int i6), .val (.int (((p4.toUInt32 >>> ((2 : Int32) &&& 31).toUInt32).toInt32) &&& (3 : Int32))), .val (.ref b1), .unset, .unset] [(.int i5), (.ref b9), (.ref b9)])
        obtain ⟨_, _, ⟨T10, L10, k10, n10⟩, -, X10, hS10, hg10, ⟨Lc10, hQ10, l10, y10, z10⟩, st10⟩ := Jvm.RoadKit.callSS X9 hx (y := (⟨"dev/resolvent/model/StateKeyEqualsPinLaw", "str", "(I)Ljava/lang/String;"⟩ : MethodName)) hown (mvT hZ (hw _ (List.mem_of_getElem? (i := 3) rfl))) (mvT hZ (hw _ (List.mem_of_getElem? (i := 4) rfl))) (mvT hZ (hw _ (List.mem_of_getElem? (i := 5) rfl))) (mvT hZ (hw _ (List.mem_of_getElem? (i := 6) rfl))) (by decide) (own_backW (W := 2) (rm_str l Z a0 hw [] i5 h9 n0 Zs9 Od9 CH hcw G1 O2 P5) hZ (fun vm' q => VM_9.warm q) (hw _ (List.mem_of_getElem? (i := 6) rfl)) (hw _ (List.mem_of_getElem? (i := 5) rfl)) (by decide) (by decide)) (g := (mkF m 122 #[.val (.int p0), .val (.int p1), .val (.int p2), .val (.int p3), .val (.int p4), .val (.int i5), .val (.int i6), .val (.int (((p4.toUInt32 >>> ((2 : Int32) &&& 31).toUInt32).toInt32) &&& (3 : Int32))), .val (.ref b1), .unset, .unset] [(.int i5), (.ref b9), (.ref b9)])) rfl (by rw [hml]; rfl) (argsL := [(.int i5)]) (rest := [(.ref b9), (.ref b9)]) (lenOf pd_5 rfl) rfl (by show 2 * 0 + _ ≤ _; exact Nat.le_of_eq rfl) (hb hby at_122) (fun _ _ => ⟨rfl, e9, (by decide : 0 + 1 + 4 + 4 + 4 + 1 + 4 ≤ _), (by decide : 0 + 2 + 10 + 10 + 56 + 2 + 10 ≤ _)⟩)
        dsimp only [Pt.U, Pt.locs, Pt.cells, Pt.slots] at X10 l10 y10 z10 st10 hQ10 hS10 hg10
        subst l10 y10 z10
        obtain ⟨sa10, rfl, N10q, Zs10, K10, S10, VM10⟩ := hQ10
        have N10 := Fr.app N4 N10q
        obtain ⟨X10, hS10, hZ, hown⟩ := rebS hS4 (by rw [e9]; exact hk9) X10 hS10 hg10 hZ hown
        have hk10 : T10.heap.size ≤ T10.heap.size := Nat.le_refl _
        refine own_goSW st10 ?_
        show own_GoesW _ _ _ _ _ _ _ T10 (mkF m 125 #[.val (.int p0), .val (.int p1), .val (.int p2), .val (.int p3), .val (.int p4), .val (.int i5), .val (.int i6), .val (.int (((p4.toUInt32 >>> ((2 : Int32) &&& 31).toUInt32).toInt32) &&& (3 : Int32))), .val (.ref b1), .unset, .unset] [(.ref sa10), (.ref b9), (.ref b9)])
        have E_b1_10 : Exa Z T10.heap b1 "dev/resolvent/model/StateKey" := E_b1_9.keep K10
        have S_sa2_10 : own_Str2 Z T10.heap sa2 (own_cs p0) := S_sa2_9.keep0 K10
        have S_sa3_10 : own_Str2 Z T10.heap sa3 (own_cs p1) := S_sa3_9.keep0 K10
        have Ft_b1_10 : Fld Z T10.heap b1 "dev/resolvent/model/StateKey" "type" "Ljava/lang/String;" (.ref sa2) := Ft_b1_9.keep K10 nin0
        have Fk_b1_10 : Fld Z T10.heap b1 "dev/resolvent/model/StateKey" "stateKey" "Ljava/lang/String;" (.ref sa3) := Fk_b1_9.keep K10 nin0
        have E_b9_10 : Exa Z T10.heap b9 "dev/resolvent/model/StateKey" := A9.keep K10
        have F_type_b9_10 : Fld Z T10.heap b9 "dev/resolvent/model/StateKey" "type" "Ljava/lang/String;" .null := F_type_b9.keep K10 nin0
        have F_stateKey_b9_10 : Fld Z T10.heap b9 "dev/resolvent/model/StateKey" "stateKey" "Ljava/lang/String;" .null := F_stateKey_b9.keep K10 nin0
        have Zs10 : n0 ≤ T10.heap.size := Nat.le_trans Zs9 K10.1
        have Od10 : Old Z n0 T10.heap := Od9.keep K10 all0
        refine own_goW (fun _ k => XS.iload X10.here hx rfl (hb hby at_125) rfl k) ?_
        show own_GoesW _ _ _ _ _ _ _ T10 (mkF m 127 #[.val (.int p0), .val (.int p1), .val (.int p2), .val (.int p3), .val (.int p4), .val (.int i5), .val (.int i6), .val (.int (((p4.toUInt32 >>> ((2 : Int32) &&& 31).toUInt32).toInt32) &&& (3 : Int32))), .val (.ref b1), .unset, .unset] [(.int i6), (.ref sa10), (.ref b9), (.ref b9)])
        obtain ⟨_, _, ⟨T11, L11, k11, n11⟩, -, X11, hS11, hg11, ⟨Lc11, hQ11, l11, y11, z11⟩, st11⟩ := Jvm.RoadKit.callSS X10 hx (y := (⟨"dev/resolvent/model/StateKeyEqualsPinLaw", "str", "(I)Ljava/lang/String;"⟩ : MethodName)) hown (mvT hZ (hw _ (List.mem_of_getElem? (i := 3) rfl))) (mvT hZ (hw _ (List.mem_of_getElem? (i := 4) rfl))) (mvT hZ (hw _ (List.mem_of_getElem? (i := 5) rfl))) (mvT hZ (hw _ (List.mem_of_getElem? (i := 6) rfl))) (by decide) (own_backW (W := 3) (rm_str l Z a0 hw [] i6 T10.heap n0 Zs10 Od10 CH hcw G1 O2 P5) hZ (fun vm' q => VM10.warm q) (hw _ (List.mem_of_getElem? (i := 6) rfl)) (hw _ (List.mem_of_getElem? (i := 5) rfl)) (by decide) (by decide)) (g := (mkF m 127 #[.val (.int p0), .val (.int p1), .val (.int p2), .val (.int p3), .val (.int p4), .val (.int i5), .val (.int i6), .val (.int (((p4.toUInt32 >>> ((2 : Int32) &&& 31).toUInt32).toInt32) &&& (3 : Int32))), .val (.ref b1), .unset, .unset] [(.int i6), (.ref sa10), (.ref b9), (.ref b9)])) rfl (by rw [hml]; rfl) (argsL := [(.int i6)]) (rest := [(.ref sa10), (.ref b9), (.ref b9)]) (lenOf pd_5 rfl) rfl (by show 2 * 0 + _ ≤ _; exact Nat.le_of_eq rfl) (hb hby at_127) (fun _ _ => ⟨rfl, rfl, (by decide : 0 + 1 + 4 + 4 + 4 + 1 + 4 + 4 ≤ _), (by decide : 0 + 2 + 10 + 10 + 56 + 2 + 10 + 10 ≤ _)⟩)
        dsimp only [Pt.U, Pt.locs, Pt.cells, Pt.slots] at X11 l11 y11 z11 st11 hQ11 hS11 hg11
        subst l11 y11 z11
        obtain ⟨sa11, rfl, N11q, Zs11, K11, S11, VM11⟩ := hQ11
        have N11 := Fr.app N10 N11q
        obtain ⟨X11, hS11, hZ, hown⟩ := rebS hS10 hk10 X11 hS11 hg11 hZ hown
        have hk11 : T11.heap.size ≤ T11.heap.size := Nat.le_refl _
        refine own_goSW st11 ?_
        show own_GoesW _ _ _ _ _ _ _ T11 (mkF m 130 #[.val (.int p0), .val (.int p1), .val (.int p2), .val (.int p3), .val (.int p4), .val (.int i5), .val (.int i6), .val (.int (((p4.toUInt32 >>> ((2 : Int32) &&& 31).toUInt32).toInt32) &&& (3 : Int32))), .val (.ref b1), .unset, .unset] [(.ref sa11), (.ref sa10), (.ref b9), (.ref b9)])
        have E_b1_11 : Exa Z T11.heap b1 "dev/resolvent/model/StateKey" := E_b1_10.keep K11
        have S_sa2_11 : own_Str2 Z T11.heap sa2 (own_cs p0) := S_sa2_10.keep0 K11
        have S_sa3_11 : own_Str2 Z T11.heap sa3 (own_cs p1) := S_sa3_10.keep0 K11
        have Ft_b1_11 : Fld Z T11.heap b1 "dev/resolvent/model/StateKey" "type" "Ljava/lang/String;" (.ref sa2) := Ft_b1_10.keep K11 nin0
        have Fk_b1_11 : Fld Z T11.heap b1 "dev/resolvent/model/StateKey" "stateKey" "Ljava/lang/String;" (.ref sa3) := Fk_b1_10.keep K11 nin0
        have E_b9_11 : Exa Z T11.heap b9 "dev/resolvent/model/StateKey" := E_b9_10.keep K11
        have F_type_b9_11 : Fld Z T11.heap b9 "dev/resolvent/model/StateKey" "type" "Ljava/lang/String;" .null := F_type_b9_10.keep K11 nin0
        have F_stateKey_b9_11 : Fld Z T11.heap b9 "dev/resolvent/model/StateKey" "stateKey" "Ljava/lang/String;" .null := F_stateKey_b9_10.keep K11 nin0
        have S_sa10_11 : own_Str2 Z T11.heap sa10 (own_cs i5) := S10.keep0 K11
        have Zs11 : n0 ≤ T11.heap.size := Nat.le_trans Zs10 K11.1
        have Od11 : Old Z n0 T11.heap := Od10.keep K11 all0
        obtain ⟨_, _, ⟨T12, L12, k12, n12⟩, -, X12, hS12, hg12, ⟨Lc12, hQ12, l12, y12, z12⟩, st12⟩ := X11.specialBackS hx (y := (⟨"dev/resolvent/model/StateKey", "<init>", "(Ljava/lang/String;Ljava/lang/String;)V"⟩ : MethodName)) rfl hown (mvT hZ (hw _ (List.mem_of_getElem? (i := 40) rfl))) (mvT hZ (hw _ (List.mem_of_getElem? (i := 41) rfl))) (mvT hZ (hw _ (List.mem_of_getElem? (i := 42) rfl))) (by decide) (own_backW (W := 1) (rm_sk l Z a0 hw [] b9 sa10 sa11 T11.heap n0 Zs11 Od11 CH hcw E_b9_11 F_type_b9_11 F_stateKey_b9_11 lo_b9) hZ (fun vm' q => VM11.warm q) (hw _ (List.mem_of_getElem? (i := 42) rfl)) (hw _ (List.mem_of_getElem? (i := 2) rfl)) (by decide) (by decide)) (g := (mkF m 130 #[.val (.int p0), .val (.int p1), .val (.int p2), .val (.int p3), .val (.int p4), .val (.int i5), .val (.int i6), .val (.int (((p4.toUInt32 >>> ((2 : Int32) &&& 31).toUInt32).toInt32) &&& (3 : Int32))), .val (.ref b1), .unset, .unset] [(.ref sa11), (.ref sa10), (.ref b9), (.ref b9)])) rfl (by rw [hml]; rfl) (Steps.refl _) (a := b9) (argsL := [(.ref sa10), (.ref sa11)]) (rest := [(.ref b9)]) (lenOf pd_6 rfl) rfl (by show 2 * 0 + _ ≤ _; exact Nat.le_of_eq rfl) (hb hby at_130) (fun _ _ => ⟨rfl, rfl, (by decide : 0 + 1 + 4 + 4 + 4 + 1 + 4 + 4 + 4 ≤ _), (by decide : 0 + 2 + 10 + 10 + 56 + 2 + 10 + 10 + 56 ≤ _)⟩)
        dsimp only [Pt.U, Pt.locs, Pt.cells, Pt.slots] at X12 l12 y12 z12 st12 hQ12 hS12 hg12
        subst l12 y12 z12
        obtain ⟨rfl, N12q, Zs12, K12, Ft12, Fk12, VM12⟩ := hQ12
        have N12 := Fr.app N11 N12q
        obtain ⟨X12, hS12, hZ, hown⟩ := rebS hS11 hk11 X12 hS12 hg12 hZ hown
        have hk12 : T12.heap.size ≤ T12.heap.size := Nat.le_refl _
        refine own_goSW st12 ?_
        show own_GoesW _ _ _ _ _ _ _ T12 (mkF m 133 #[.val (.int p0), .val (.int p1), .val (.int p2), .val (.int p3), .val (.int p4), .val (.int i5), .val (.int i6), .val (.int (((p4.toUInt32 >>> ((2 : Int32) &&& 31).toUInt32).toInt32) &&& (3 : Int32))), .val (.ref b1), .unset, .unset] [(.ref b9)])
        have E_b1_12 : Exa Z T12.heap b1 "dev/resolvent/model/StateKey" := E_b1_11.keep K12
        have S_sa2_12 : own_Str2 Z T12.heap sa2 (own_cs p0) := S_sa2_11.keepX K12 E_b9_11 (by decide) (hw _ (List.mem_of_getElem? (i := 1) rfl))
        have S_sa3_12 : own_Str2 Z T12.heap sa3 (own_cs p1) := S_sa3_11.keepX K12 E_b9_11 (by decide) (hw _ (List.mem_of_getElem? (i := 1) rfl))
        have Ft_b1_12 : Fld Z T12.heap b1 "dev/resolvent/model/StateKey" "type" "Ljava/lang/String;" (.ref sa2) := Ft_b1_11.keep K12 (ninS ne_b1_b9 nin0)
        have Fk_b1_12 : Fld Z T12.heap b1 "dev/resolvent/model/StateKey" "stateKey" "Ljava/lang/String;" (.ref sa3) := Fk_b1_11.keep K12 (ninS ne_b1_b9 nin0)
        have E_b9_12 : Exa Z T12.heap b9 "dev/resolvent/model/StateKey" := E_b9_11.keep K12
        have S_sa10_12 : own_Str2 Z T12.heap sa10 (own_cs i5) := S_sa10_11.keepX K12 E_b9_11 (by decide) (hw _ (List.mem_of_getElem? (i := 1) rfl))
        have S_sa11_12 : own_Str2 Z T12.heap sa11 (own_cs i6) := S11.keepX K12 E_b9_11 (by decide) (hw _ (List.mem_of_getElem? (i := 1) rfl))
        have Zs12 : n0 ≤ T12.heap.size := Nat.le_trans Zs11 K12.1
        have Od12 : Old Z n0 T12.heap := Od11.keep K12 (allS lo_b9 all0)
        refine own_goW (fun _ k => XS.astore X12.here hx rfl (hb hby at_133) rfl rfl (l' := #[.val (.int p0), .val (.int p1), .val (.int p2), .val (.int p3), .val (.int p4), .val (.int i5), .val (.int i6), .val (.int (((p4.toUInt32 >>> ((2 : Int32) &&& 31).toUInt32).toInt32) &&& (3 : Int32))), .val (.ref b1), .val (.ref b9), .unset]) rfl k) ?_
        show own_GoesW _ _ _ _ _ _ _ T12 (mkF m 135 #[.val (.int p0), .val (.int p1), .val (.int p2), .val (.int p3), .val (.int p4), .val (.int i5), .val (.int i6), .val (.int (((p4.toUInt32 >>> ((2 : Int32) &&& 31).toUInt32).toInt32) &&& (3 : Int32))), .val (.ref b1), .val (.ref b9), .unset] [])
        refine own_goW (fun _ k => XS.iloadN X12.here hx rfl (hb hby at_135) rfl k) ?_
        show own_GoesW _ _ _ _ _ _ _ T12 (mkF m 136 #[.val (.int p0), .val (.int p1), .val (.int p2), .val (.int p3), .val (.int p4), .val (.int i5), .val (.int i6), .val (.int (((p4.toUInt32 >>> ((2 : Int32) &&& 31).toUInt32).toInt32) &&& (3 : Int32))), .val (.ref b1), .val (.ref b9), .unset] [(.int p0)])
        refine own_goW (fun _ k => XS.iload X12.here hx rfl (hb hby at_136) rfl k) ?_
        show own_GoesW _ _ _ _ _ _ _ T12 (mkF m 138 #[.val (.int p0), .val (.int p1), .val (.int p2), .val (.int p3), .val (.int p4), .val (.int i5), .val (.int i6), .val (.int (((p4.toUInt32 >>> ((2 : Int32) &&& 31).toUInt32).toInt32) &&& (3 : Int32))), .val (.ref b1), .val (.ref b9), .unset] [(.int i5), (.int p0)])
        obtain ⟨_, _, ⟨T13, L13, k13, n13⟩, -, X13, ⟨Lc13, hQ13, l13, y13, z13⟩, st13⟩ := Jvm.LawKit.callS X12 hx (y := (⟨"dev/resolvent/model/StateKeyEqualsPinLaw", "sameCode", "(II)Z"⟩ : MethodName)) hown (mvT hZ (hw _ (List.mem_of_getElem? (i := 59) rfl))) (mvT hZ (hw _ (List.mem_of_getElem? (i := 60) rfl))) (mvT hZ (hw _ (List.mem_of_getElem? (i := 5) rfl))) (mvT hZ (hw _ (List.mem_of_getElem? (i := 61) rfl))) (by decide) (backOf (W := 0) (rm_same l Z a0 hw [] p0 i5 T12.heap n0 Zs12) hZ (hw _ (List.mem_of_getElem? (i := 61) rfl)) (hw _ (List.mem_of_getElem? (i := 5) rfl)) (by decide) (by decide)) (g := (mkF m 138 #[.val (.int p0), .val (.int p1), .val (.int p2), .val (.int p3), .val (.int p4), .val (.int i5), .val (.int i6), .val (.int (((p4.toUInt32 >>> ((2 : Int32) &&& 31).toUInt32).toInt32) &&& (3 : Int32))), .val (.ref b1), .val (.ref b9), .unset] [(.int i5), (.int p0)])) rfl (by rw [hml]; rfl) (argsL := [(.int p0), (.int i5)]) (rest := []) (lenOf pd_7 rfl) rfl (by show 2 * 0 + _ ≤ _; exact Nat.le_of_eq rfl) (hb hby at_138) (fun _ _ => ⟨rfl, rfl, (by decide : 0 + 1 + 4 + 4 + 4 + 1 + 4 + 4 + 4 + 0 ≤ _), (by decide : 0 + 2 + 10 + 10 + 56 + 2 + 10 + 10 + 56 + 0 ≤ _)⟩)
        dsimp only [Pt.U, Pt.locs, Pt.cells, Pt.slots] at X13 l13 y13 z13 st13 hQ13
        subst l13 y13 z13
        obtain ⟨rfl, N13q, e13⟩ := hQ13
        have N13 := Fr.app N12 N13q
        refine own_goW st13 ?_
        show own_GoesW _ _ _ _ _ _ _ T13 (mkF m 141 #[.val (.int p0), .val (.int p1), .val (.int p2), .val (.int p3), .val (.int p4), .val (.int i5), .val (.int i6), .val (.int (((p4.toUInt32 >>> ((2 : Int32) &&& 31).toUInt32).toInt32) &&& (3 : Int32))), .val (.ref b1), .val (.ref b9), .unset] [(.int (own_same p0 i5))])
        by_cases hc141 : (own_same p0 i5) = (0 : Int32)
        · refine own_goW (fun _ k => XS.ifYes X13.here hx rfl (pc0 := 141) (pc' := 157) rfl (hb hby at_141) rfl ((if0 _ _).trans (teq hc141).1) (by decide) (by decide) k) ?_
          show own_GoesW _ _ _ _ _ _ _ T13 (mkF m 157 #[.val (.int p0), .val (.int p1), .val (.int p2), .val (.int p3), .val (.int p4), .val (.int i5), .val (.int i6), .val (.int (((p4.toUInt32 >>> ((2 : Int32) &&& 31).toUInt32).toInt32) &&& (3 : Int32))), .val (.ref b1), .val (.ref b9), .unset] [])
          refine own_goW (fun _ k => XS.iconst X13.here hx rfl (hb hby at_157) k) ?_
          show own_GoesW _ _ _ _ _ _ _ T13 (mkF m 158 #[.val (.int p0), .val (.int p1), .val (.int p2), .val (.int p3), .val (.int p4), .val (.int i5), .val (.int i6), .val (.int (((p4.toUInt32 >>> ((2 : Int32) &&& 31).toUInt32).toInt32) &&& (3 : Int32))), .val (.ref b1), .val (.ref b9), .unset] [(.int (0 : Int32))])
          refine own_goW (fun _ k => XS.istore X13.here hx rfl (hb hby at_158) rfl (l' := #[.val (.int p0), .val (.int p1), .val (.int p2), .val (.int p3), .val (.int p4), .val (.int i5), .val (.int i6), .val (.int (((p4.toUInt32 >>> ((2 : Int32) &&& 31).toUInt32).toInt32) &&& (3 : Int32))), .val (.ref b1), .val (.ref b9), .val (.int (0 : Int32))]) rfl k) ?_
          show own_GoesW _ _ _ _ _ _ _ T13 (mkF m 160 #[.val (.int p0), .val (.int p1), .val (.int p2), .val (.int p3), .val (.int p4), .val (.int i5), .val (.int i6), .val (.int (((p4.toUInt32 >>> ((2 : Int32) &&& 31).toUInt32).toInt32) &&& (3 : Int32))), .val (.ref b1), .val (.ref b9), .val (.int (0 : Int32))] [])
          refine own_goW (fun _ k => XS.aload X13.here hx rfl (hb hby at_160) rfl rfl k) ?_
          show own_GoesW _ _ _ _ _ _ _ T13 (mkF m 162 #[.val (.int p0), .val (.int p1), .val (.int p2), .val (.int p3), .val (.int p4), .val (.int i5), .val (.int i6), .val (.int (((p4.toUInt32 >>> ((2 : Int32) &&& 31).toUInt32).toInt32) &&& (3 : Int32))), .val (.ref b1), .val (.ref b9), .val (.int (0 : Int32))] [(.ref b1)])
          refine own_goW (fun _ k => XS.aload X13.here hx rfl (hb hby at_162) rfl rfl k) ?_
          show own_GoesW _ _ _ _ _ _ _ T13 (mkF m 164 #[.val (.int p0), .val (.int p1), .val (.int p2), .val (.int p3), .val (.int p4), .val (.int i5), .val (.int i6), .val (.int (((p4.toUInt32 >>> ((2 : Int32) &&& 31).toUInt32).toInt32) &&& (3 : Int32))), .val (.ref b1), .val (.ref b9), .val (.int (0 : Int32))] [(.ref b9), (.ref b1)])
          obtain ⟨cq14, kq14, zq14a, zq14b, zq14c⟩ := isOf hZ e13 E_b1_12
          obtain ⟨_, _, ⟨T14, L14, k14, n14⟩, -, X14, ⟨Lc14, hQ14, l14, y14, z14⟩, st14⟩ := X13.virtualBack hx (y := (⟨"dev/resolvent/model/StateKey", "equals", "(Ljava/lang/Object;)Z"⟩ : MethodName)) (z := (⟨"dev/resolvent/model/StateKey", "equals", "(Ljava/lang/Object;)Z"⟩ : MethodName)) hown (mvT hZ (hw _ (List.mem_of_getElem? (i := 62) rfl))) (mvT hZ (hw _ (List.mem_of_getElem? (i := 63) rfl))) (notFace_of_selects (args := #[]) (mvT hZ (hw _ (List.mem_of_getElem? (i := 65) rfl)))) (mvT hZ (hw _ (List.mem_of_getElem? (i := 65) rfl))) (mvT hZ (hw _ (List.mem_of_getElem? (i := 64) rfl))) (by decide) (backOf (W := 0) (rm_eq l Z a0 hw [] b1 b9 sa2 sa10 sa3 sa11 (own_cs p0) (own_cs i5) (own_cs p1) (own_cs i6) T12.heap n0 Zs12 E_b9_12 Ft_b1_12 Ft12 Fk_b1_12 Fk12 S_sa2_12 S_sa10_12 S_sa3_12 S_sa11_12 Od12 G1 O2 P5) hZ (hw _ (List.mem_of_getElem? (i := 66) rfl)) (hw _ (List.mem_of_getElem? (i := 2) rfl)) (by decide) (by decide)) zq14a zq14c (g := (mkF m 164 #[.val (.int p0), .val (.int p1), .val (.int p2), .val (.int p3), .val (.int p4), .val (.int i5), .val (.int i6), .val (.int (((p4.toUInt32 >>> ((2 : Int32) &&& 31).toUInt32).toInt32) &&& (3 : Int32))), .val (.ref b1), .val (.ref b9), .val (.int (0 : Int32))] [(.ref b9), (.ref b1)])) rfl (by rw [hml]; rfl) (Steps.refl _) (argsL := [(.ref b9)]) (rest := []) (lenOf pd_4 rfl) rfl (by show 2 * 0 + _ ≤ _; exact Nat.le_of_eq rfl) (hb hby at_164) (fun _ _ => ⟨rfl, e13, (by decide : 0 + 1 + 4 + 4 + 4 + 1 + 4 + 4 + 4 + 0 + 0 ≤ _), (by decide : 0 + 2 + 10 + 10 + 56 + 2 + 10 + 10 + 56 + 0 + 0 ≤ _)⟩)
          dsimp only [Pt.U, Pt.locs, Pt.cells, Pt.slots] at X14 l14 y14 z14 st14 hQ14
          subst l14 y14 z14
          obtain ⟨rfl, N14q, e14⟩ := hQ14
          have N14 := Fr.app N13 N14q
          refine own_goSW st14 ?_
          show own_GoesW _ _ _ _ _ _ _ T14 (mkF m 167 #[.val (.int p0), .val (.int p1), .val (.int p2), .val (.int p3), .val (.int p4), .val (.int i5), .val (.int i6), .val (.int (((p4.toUInt32 >>> ((2 : Int32) &&& 31).toUInt32).toInt32) &&& (3 : Int32))), .val (.ref b1), .val (.ref b9), .val (.int (0 : Int32))] [(.int (own_eq2 (own_cs p0) (own_cs i5) (own_cs p1) (own_cs i6)))])
          refine own_goW (fun _ k => XS.iload X14.here hx rfl (hb hby at_167) rfl k) ?_
          show own_GoesW _ _ _ _ _ _ _ T14 (mkF m 169 #[.val (.int p0), .val (.int p1), .val (.int p2), .val (.int p3), .val (.int p4), .val (.int i5), .val (.int i6), .val (.int (((p4.toUInt32 >>> ((2 : Int32) &&& 31).toUInt32).toInt32) &&& (3 : Int32))), .val (.ref b1), .val (.ref b9), .val (.int (0 : Int32))] [(.int (0 : Int32)), (.int (own_eq2 (own_cs p0) (own_cs i5) (own_cs p1) (own_cs i6)))])
          refine own_goW (fun _ k => XS.icmpNo X14.here hx rfl (hb hby at_169) rfl (teq (own_eqA hc141 : (own_eq2 (own_cs p0) (own_cs i5) (own_cs p1) (own_cs i6)) = (0 : Int32))).2 k) ?_
          show own_GoesW _ _ _ _ _ _ _ T14 (mkF m 172 #[.val (.int p0), .val (.int p1), .val (.int p2), .val (.int p3), .val (.int p4), .val (.int i5), .val (.int i6), .val (.int (((p4.toUInt32 >>> ((2 : Int32) &&& 31).toUInt32).toInt32) &&& (3 : Int32))), .val (.ref b1), .val (.ref b9), .val (.int (0 : Int32))] [])
          refine own_goW (fun _ k => XS.aload X14.here hx rfl (hb hby at_172) rfl rfl k) ?_
          show own_GoesW _ _ _ _ _ _ _ T14 (mkF m 174 #[.val (.int p0), .val (.int p1), .val (.int p2), .val (.int p3), .val (.int p4), .val (.int i5), .val (.int i6), .val (.int (((p4.toUInt32 >>> ((2 : Int32) &&& 31).toUInt32).toInt32) &&& (3 : Int32))), .val (.ref b1), .val (.ref b9), .val (.int (0 : Int32))] [(.ref b9)])
          refine own_goW (fun _ k => XS.aload X14.here hx rfl (hb hby at_174) rfl rfl k) ?_
          show own_GoesW _ _ _ _ _ _ _ T14 (mkF m 176 #[.val (.int p0), .val (.int p1), .val (.int p2), .val (.int p3), .val (.int p4), .val (.int i5), .val (.int i6), .val (.int (((p4.toUInt32 >>> ((2 : Int32) &&& 31).toUInt32).toInt32) &&& (3 : Int32))), .val (.ref b1), .val (.ref b9), .val (.int (0 : Int32))] [(.ref b1), (.ref b9)])
          obtain ⟨cq15, kq15, zq15a, zq15b, zq15c⟩ := isOf hZ e14 E_b9_12
          obtain ⟨_, _, ⟨T15, L15, k15, n15⟩, -, X15, ⟨Lc15, hQ15, l15, y15, z15⟩, st15⟩ := X14.virtualBack hx (y := (⟨"dev/resolvent/model/StateKey", "equals", "(Ljava/lang/Object;)Z"⟩ : MethodName)) (z := (⟨"dev/resolvent/model/StateKey", "equals", "(Ljava/lang/Object;)Z"⟩ : MethodName)) hown (mvT hZ (hw _ (List.mem_of_getElem? (i := 62) rfl))) (mvT hZ (hw _ (List.mem_of_getElem? (i := 63) rfl))) (notFace_of_selects (args := #[]) (mvT hZ (hw _ (List.mem_of_getElem? (i := 65) rfl)))) (mvT hZ (hw _ (List.mem_of_getElem? (i := 65) rfl))) (mvT hZ (hw _ (List.mem_of_getElem? (i := 64) rfl))) (by decide) (backOf (W := 0) (rm_eq l Z a0 hw [] b9 b1 sa10 sa2 sa11 sa3 (own_cs i5) (own_cs p0) (own_cs i6) (own_cs p1) T12.heap n0 Zs12 E_b1_12 Ft12 Ft_b1_12 Fk12 Fk_b1_12 S_sa10_12 S_sa2_12 S_sa11_12 S_sa3_12 Od12 G1 O2 P5) hZ (hw _ (List.mem_of_getElem? (i := 66) rfl)) (hw _ (List.mem_of_getElem? (i := 2) rfl)) (by decide) (by decide)) zq15a zq15c (g := (mkF m 176 #[.val (.int p0), .val (.int p1), .val (.int p2), .val (.int p3), .val (.int p4), .val (.int i5), .val (.int i6), .val (.int (((p4.toUInt32 >>> ((2 : Int32) &&& 31).toUInt32).toInt32) &&& (3 : Int32))), .val (.ref b1), .val (.ref b9), .val (.int (0 : Int32))] [(.ref b1), (.ref b9)])) rfl (by rw [hml]; rfl) (Steps.refl _) (argsL := [(.ref b1)]) (rest := []) (lenOf pd_4 rfl) rfl (by show 2 * 0 + _ ≤ _; exact Nat.le_of_eq rfl) (hb hby at_176) (fun _ _ => ⟨rfl, e14, (by decide : 0 + 1 + 4 + 4 + 4 + 1 + 4 + 4 + 4 + 0 + 0 + 0 ≤ _), (by decide : 0 + 2 + 10 + 10 + 56 + 2 + 10 + 10 + 56 + 0 + 0 + 0 ≤ _)⟩)
          dsimp only [Pt.U, Pt.locs, Pt.cells, Pt.slots] at X15 l15 y15 z15 st15 hQ15
          subst l15 y15 z15
          obtain ⟨rfl, N15q, e15⟩ := hQ15
          have N15 := Fr.app N14 N15q
          refine own_goSW st15 ?_
          show own_GoesW _ _ _ _ _ _ _ T15 (mkF m 179 #[.val (.int p0), .val (.int p1), .val (.int p2), .val (.int p3), .val (.int p4), .val (.int i5), .val (.int i6), .val (.int (((p4.toUInt32 >>> ((2 : Int32) &&& 31).toUInt32).toInt32) &&& (3 : Int32))), .val (.ref b1), .val (.ref b9), .val (.int (0 : Int32))] [(.int (own_eq2 (own_cs i5) (own_cs p0) (own_cs i6) (own_cs p1)))])
          refine own_goW (fun _ k => XS.iload X15.here hx rfl (hb hby at_179) rfl k) ?_
          show own_GoesW _ _ _ _ _ _ _ T15 (mkF m 181 #[.val (.int p0), .val (.int p1), .val (.int p2), .val (.int p3), .val (.int p4), .val (.int i5), .val (.int i6), .val (.int (((p4.toUInt32 >>> ((2 : Int32) &&& 31).toUInt32).toInt32) &&& (3 : Int32))), .val (.ref b1), .val (.ref b9), .val (.int (0 : Int32))] [(.int (0 : Int32)), (.int (own_eq2 (own_cs i5) (own_cs p0) (own_cs i6) (own_cs p1)))])
          refine own_goW (fun _ k => XS.icmpNo X15.here hx rfl (hb hby at_181) rfl (teq ((own_eq2_comm _ _ _ _).trans (own_eqA hc141) : (own_eq2 (own_cs i5) (own_cs p0) (own_cs i6) (own_cs p1)) = (0 : Int32))).2 k) ?_
          show own_GoesW _ _ _ _ _ _ _ T15 (mkF m 184 #[.val (.int p0), .val (.int p1), .val (.int p2), .val (.int p3), .val (.int p4), .val (.int i5), .val (.int i6), .val (.int (((p4.toUInt32 >>> ((2 : Int32) &&& 31).toUInt32).toInt32) &&& (3 : Int32))), .val (.ref b1), .val (.ref b9), .val (.int (0 : Int32))] [])
          refine own_goW (fun _ k => XS.iconst X15.here hx rfl (hb hby at_184) k) ?_
          show own_GoesW _ _ _ _ _ _ _ T15 (mkF m 185 #[.val (.int p0), .val (.int p1), .val (.int p2), .val (.int p3), .val (.int p4), .val (.int i5), .val (.int i6), .val (.int (((p4.toUInt32 >>> ((2 : Int32) &&& 31).toUInt32).toInt32) &&& (3 : Int32))), .val (.ref b1), .val (.ref b9), .val (.int (0 : Int32))] [(.int (1 : Int32))])
          refine own_goW (fun _ k => XS.goto X15.here hx rfl (pc0 := 185) (pc' := 189) rfl (hb hby at_185) (by decide) (by decide) k) ?_
          show own_GoesW _ _ _ _ _ _ _ T15 (mkF m 189 #[.val (.int p0), .val (.int p1), .val (.int p2), .val (.int p3), .val (.int p4), .val (.int i5), .val (.int i6), .val (.int (((p4.toUInt32 >>> ((2 : Int32) &&& 31).toUInt32).toInt32) &&& (3 : Int32))), .val (.ref b1), .val (.ref b9), .val (.int (0 : Int32))] [(.int (1 : Int32))])
          exact own_retNW X15 hx hS12 (by rw [e15]; exact hk12) (t := .boolean) hlk hret (by simp) (hb hby at_189) (by decide) (by decide) ⟨rfl, N15⟩
        · refine own_goW (fun _ k => XS.ifNo X13.here hx rfl (hb hby at_141) rfl ((if0 _ _).trans (feq hc141).1) k) ?_
          show own_GoesW _ _ _ _ _ _ _ T13 (mkF m 144 #[.val (.int p0), .val (.int p1), .val (.int p2), .val (.int p3), .val (.int p4), .val (.int i5), .val (.int i6), .val (.int (((p4.toUInt32 >>> ((2 : Int32) &&& 31).toUInt32).toInt32) &&& (3 : Int32))), .val (.ref b1), .val (.ref b9), .unset] [])
          refine own_goW (fun _ k => XS.iloadN X13.here hx rfl (hb hby at_144) rfl k) ?_
          show own_GoesW _ _ _ _ _ _ _ T13 (mkF m 145 #[.val (.int p0), .val (.int p1), .val (.int p2), .val (.int p3), .val (.int p4), .val (.int i5), .val (.int i6), .val (.int (((p4.toUInt32 >>> ((2 : Int32) &&& 31).toUInt32).toInt32) &&& (3 : Int32))), .val (.ref b1), .val (.ref b9), .unset] [(.int p1)])
          refine own_goW (fun _ k => XS.iload X13.here hx rfl (hb hby at_145) rfl k) ?_
          show own_GoesW _ _ _ _ _ _ _ T13 (mkF m 147 #[.val (.int p0), .val (.int p1), .val (.int p2), .val (.int p3), .val (.int p4), .val (.int i5), .val (.int i6), .val (.int (((p4.toUInt32 >>> ((2 : Int32) &&& 31).toUInt32).toInt32) &&& (3 : Int32))), .val (.ref b1), .val (.ref b9), .unset] [(.int i6), (.int p1)])
          obtain ⟨_, _, ⟨T16, L16, k16, n16⟩, -, X16, ⟨Lc16, hQ16, l16, y16, z16⟩, st16⟩ := Jvm.LawKit.callS X13 hx (y := (⟨"dev/resolvent/model/StateKeyEqualsPinLaw", "sameCode", "(II)Z"⟩ : MethodName)) hown (mvT hZ (hw _ (List.mem_of_getElem? (i := 59) rfl))) (mvT hZ (hw _ (List.mem_of_getElem? (i := 60) rfl))) (mvT hZ (hw _ (List.mem_of_getElem? (i := 5) rfl))) (mvT hZ (hw _ (List.mem_of_getElem? (i := 61) rfl))) (by decide) (backOf (W := 0) (rm_same l Z a0 hw [] p1 i6 T12.heap n0 Zs12) hZ (hw _ (List.mem_of_getElem? (i := 61) rfl)) (hw _ (List.mem_of_getElem? (i := 5) rfl)) (by decide) (by decide)) (g := (mkF m 147 #[.val (.int p0), .val (.int p1), .val (.int p2), .val (.int p3), .val (.int p4), .val (.int i5), .val (.int i6), .val (.int (((p4.toUInt32 >>> ((2 : Int32) &&& 31).toUInt32).toInt32) &&& (3 : Int32))), .val (.ref b1), .val (.ref b9), .unset] [(.int i6), (.int p1)])) rfl (by rw [hml]; rfl) (argsL := [(.int p1), (.int i6)]) (rest := []) (lenOf pd_7 rfl) rfl (by show 2 * 0 + _ ≤ _; exact Nat.le_of_eq rfl) (hb hby at_147) (fun _ _ => ⟨rfl, e13, (by decide : 0 + 1 + 4 + 4 + 4 + 1 + 4 + 4 + 4 + 0 + 0 ≤ _), (by decide : 0 + 2 + 10 + 10 + 56 + 2 + 10 + 10 + 56 + 0 + 0 ≤ _)⟩)
          dsimp only [Pt.U, Pt.locs, Pt.cells, Pt.slots] at X16 l16 y16 z16 st16 hQ16
          subst l16 y16 z16
          obtain ⟨rfl, N16q, e16⟩ := hQ16
          have N16 := Fr.app N13 N16q
          refine own_goW st16 ?_
          show own_GoesW _ _ _ _ _ _ _ T16 (mkF m 150 #[.val (.int p0), .val (.int p1), .val (.int p2), .val (.int p3), .val (.int p4), .val (.int i5), .val (.int i6), .val (.int (((p4.toUInt32 >>> ((2 : Int32) &&& 31).toUInt32).toInt32) &&& (3 : Int32))), .val (.ref b1), .val (.ref b9), .unset] [(.int (own_same p1 i6))])
          by_cases hc150 : (own_same p1 i6) = (0 : Int32)
          · refine own_goW (fun _ k => XS.ifYes X16.here hx rfl (pc0 := 150) (pc' := 157) rfl (hb hby at_150) rfl ((if0 _ _).trans (teq hc150).1) (by decide) (by decide) k) ?_
            show own_GoesW _ _ _ _ _ _ _ T16 (mkF m 157 #[.val (.int p0), .val (.int p1), .val (.int p2), .val (.int p3), .val (.int p4), .val (.int i5), .val (.int i6), .val (.int (((p4.toUInt32 >>> ((2 : Int32) &&& 31).toUInt32).toInt32) &&& (3 : Int32))), .val (.ref b1), .val (.ref b9), .unset] [])
            refine own_goW (fun _ k => XS.iconst X16.here hx rfl (hb hby at_157) k) ?_
            show own_GoesW _ _ _ _ _ _ _ T16 (mkF m 158 #[.val (.int p0), .val (.int p1), .val (.int p2), .val (.int p3), .val (.int p4), .val (.int i5), .val (.int i6), .val (.int (((p4.toUInt32 >>> ((2 : Int32) &&& 31).toUInt32).toInt32) &&& (3 : Int32))), .val (.ref b1), .val (.ref b9), .unset] [(.int (0 : Int32))])
            refine own_goW (fun _ k => XS.istore X16.here hx rfl (hb hby at_158) rfl (l' := #[.val (.int p0), .val (.int p1), .val (.int p2), .val (.int p3), .val (.int p4), .val (.int i5), .val (.int i6), .val (.int (((p4.toUInt32 >>> ((2 : Int32) &&& 31).toUInt32).toInt32) &&& (3 : Int32))), .val (.ref b1), .val (.ref b9), .val (.int (0 : Int32))]) rfl k) ?_
            show own_GoesW _ _ _ _ _ _ _ T16 (mkF m 160 #[.val (.int p0), .val (.int p1), .val (.int p2), .val (.int p3), .val (.int p4), .val (.int i5), .val (.int i6), .val (.int (((p4.toUInt32 >>> ((2 : Int32) &&& 31).toUInt32).toInt32) &&& (3 : Int32))), .val (.ref b1), .val (.ref b9), .val (.int (0 : Int32))] [])
            refine own_goW (fun _ k => XS.aload X16.here hx rfl (hb hby at_160) rfl rfl k) ?_
            show own_GoesW _ _ _ _ _ _ _ T16 (mkF m 162 #[.val (.int p0), .val (.int p1), .val (.int p2), .val (.int p3), .val (.int p4), .val (.int i5), .val (.int i6), .val (.int (((p4.toUInt32 >>> ((2 : Int32) &&& 31).toUInt32).toInt32) &&& (3 : Int32))), .val (.ref b1), .val (.ref b9), .val (.int (0 : Int32))] [(.ref b1)])
            refine own_goW (fun _ k => XS.aload X16.here hx rfl (hb hby at_162) rfl rfl k) ?_
            show own_GoesW _ _ _ _ _ _ _ T16 (mkF m 164 #[.val (.int p0), .val (.int p1), .val (.int p2), .val (.int p3), .val (.int p4), .val (.int i5), .val (.int i6), .val (.int (((p4.toUInt32 >>> ((2 : Int32) &&& 31).toUInt32).toInt32) &&& (3 : Int32))), .val (.ref b1), .val (.ref b9), .val (.int (0 : Int32))] [(.ref b9), (.ref b1)])
            obtain ⟨cq17, kq17, zq17a, zq17b, zq17c⟩ := isOf hZ e16 E_b1_12
            obtain ⟨_, _, ⟨T17, L17, k17, n17⟩, -, X17, ⟨Lc17, hQ17, l17, y17, z17⟩, st17⟩ := X16.virtualBack hx (y := (⟨"dev/resolvent/model/StateKey", "equals", "(Ljava/lang/Object;)Z"⟩ : MethodName)) (z := (⟨"dev/resolvent/model/StateKey", "equals", "(Ljava/lang/Object;)Z"⟩ : MethodName)) hown (mvT hZ (hw _ (List.mem_of_getElem? (i := 62) rfl))) (mvT hZ (hw _ (List.mem_of_getElem? (i := 63) rfl))) (notFace_of_selects (args := #[]) (mvT hZ (hw _ (List.mem_of_getElem? (i := 65) rfl)))) (mvT hZ (hw _ (List.mem_of_getElem? (i := 65) rfl))) (mvT hZ (hw _ (List.mem_of_getElem? (i := 64) rfl))) (by decide) (backOf (W := 0) (rm_eq l Z a0 hw [] b1 b9 sa2 sa10 sa3 sa11 (own_cs p0) (own_cs i5) (own_cs p1) (own_cs i6) T12.heap n0 Zs12 E_b9_12 Ft_b1_12 Ft12 Fk_b1_12 Fk12 S_sa2_12 S_sa10_12 S_sa3_12 S_sa11_12 Od12 G1 O2 P5) hZ (hw _ (List.mem_of_getElem? (i := 66) rfl)) (hw _ (List.mem_of_getElem? (i := 2) rfl)) (by decide) (by decide)) zq17a zq17c (g := (mkF m 164 #[.val (.int p0), .val (.int p1), .val (.int p2), .val (.int p3), .val (.int p4), .val (.int i5), .val (.int i6), .val (.int (((p4.toUInt32 >>> ((2 : Int32) &&& 31).toUInt32).toInt32) &&& (3 : Int32))), .val (.ref b1), .val (.ref b9), .val (.int (0 : Int32))] [(.ref b9), (.ref b1)])) rfl (by rw [hml]; rfl) (Steps.refl _) (argsL := [(.ref b9)]) (rest := []) (lenOf pd_4 rfl) rfl (by show 2 * 0 + _ ≤ _; exact Nat.le_of_eq rfl) (hb hby at_164) (fun _ _ => ⟨rfl, e16, (by decide : 0 + 1 + 4 + 4 + 4 + 1 + 4 + 4 + 4 + 0 + 0 + 0 ≤ _), (by decide : 0 + 2 + 10 + 10 + 56 + 2 + 10 + 10 + 56 + 0 + 0 + 0 ≤ _)⟩)
            dsimp only [Pt.U, Pt.locs, Pt.cells, Pt.slots] at X17 l17 y17 z17 st17 hQ17
            subst l17 y17 z17
            obtain ⟨rfl, N17q, e17⟩ := hQ17
            have N17 := Fr.app N16 N17q
            refine own_goSW st17 ?_
            show own_GoesW _ _ _ _ _ _ _ T17 (mkF m 167 #[.val (.int p0), .val (.int p1), .val (.int p2), .val (.int p3), .val (.int p4), .val (.int i5), .val (.int i6), .val (.int (((p4.toUInt32 >>> ((2 : Int32) &&& 31).toUInt32).toInt32) &&& (3 : Int32))), .val (.ref b1), .val (.ref b9), .val (.int (0 : Int32))] [(.int (own_eq2 (own_cs p0) (own_cs i5) (own_cs p1) (own_cs i6)))])
            refine own_goW (fun _ k => XS.iload X17.here hx rfl (hb hby at_167) rfl k) ?_
            show own_GoesW _ _ _ _ _ _ _ T17 (mkF m 169 #[.val (.int p0), .val (.int p1), .val (.int p2), .val (.int p3), .val (.int p4), .val (.int i5), .val (.int i6), .val (.int (((p4.toUInt32 >>> ((2 : Int32) &&& 31).toUInt32).toInt32) &&& (3 : Int32))), .val (.ref b1), .val (.ref b9), .val (.int (0 : Int32))] [(.int (0 : Int32)), (.int (own_eq2 (own_cs p0) (own_cs i5) (own_cs p1) (own_cs i6)))])
            refine own_goW (fun _ k => XS.icmpNo X17.here hx rfl (hb hby at_169) rfl (teq (own_eqB hc150 : (own_eq2 (own_cs p0) (own_cs i5) (own_cs p1) (own_cs i6)) = (0 : Int32))).2 k) ?_
            show own_GoesW _ _ _ _ _ _ _ T17 (mkF m 172 #[.val (.int p0), .val (.int p1), .val (.int p2), .val (.int p3), .val (.int p4), .val (.int i5), .val (.int i6), .val (.int (((p4.toUInt32 >>> ((2 : Int32) &&& 31).toUInt32).toInt32) &&& (3 : Int32))), .val (.ref b1), .val (.ref b9), .val (.int (0 : Int32))] [])
            refine own_goW (fun _ k => XS.aload X17.here hx rfl (hb hby at_172) rfl rfl k) ?_
            show own_GoesW _ _ _ _ _ _ _ T17 (mkF m 174 #[.val (.int p0), .val (.int p1), .val (.int p2), .val (.int p3), .val (.int p4), .val (.int i5), .val (.int i6), .val (.int (((p4.toUInt32 >>> ((2 : Int32) &&& 31).toUInt32).toInt32) &&& (3 : Int32))), .val (.ref b1), .val (.ref b9), .val (.int (0 : Int32))] [(.ref b9)])
            refine own_goW (fun _ k => XS.aload X17.here hx rfl (hb hby at_174) rfl rfl k) ?_
            show own_GoesW _ _ _ _ _ _ _ T17 (mkF m 176 #[.val (.int p0), .val (.int p1), .val (.int p2), .val (.int p3), .val (.int p4), .val (.int i5), .val (.int i6), .val (.int (((p4.toUInt32 >>> ((2 : Int32) &&& 31).toUInt32).toInt32) &&& (3 : Int32))), .val (.ref b1), .val (.ref b9), .val (.int (0 : Int32))] [(.ref b1), (.ref b9)])
            obtain ⟨cq18, kq18, zq18a, zq18b, zq18c⟩ := isOf hZ e17 E_b9_12
            obtain ⟨_, _, ⟨T18, L18, k18, n18⟩, -, X18, ⟨Lc18, hQ18, l18, y18, z18⟩, st18⟩ := X17.virtualBack hx (y := (⟨"dev/resolvent/model/StateKey", "equals", "(Ljava/lang/Object;)Z"⟩ : MethodName)) (z := (⟨"dev/resolvent/model/StateKey", "equals", "(Ljava/lang/Object;)Z"⟩ : MethodName)) hown (mvT hZ (hw _ (List.mem_of_getElem? (i := 62) rfl))) (mvT hZ (hw _ (List.mem_of_getElem? (i := 63) rfl))) (notFace_of_selects (args := #[]) (mvT hZ (hw _ (List.mem_of_getElem? (i := 65) rfl)))) (mvT hZ (hw _ (List.mem_of_getElem? (i := 65) rfl))) (mvT hZ (hw _ (List.mem_of_getElem? (i := 64) rfl))) (by decide) (backOf (W := 0) (rm_eq l Z a0 hw [] b9 b1 sa10 sa2 sa11 sa3 (own_cs i5) (own_cs p0) (own_cs i6) (own_cs p1) T12.heap n0 Zs12 E_b1_12 Ft12 Ft_b1_12 Fk12 Fk_b1_12 S_sa10_12 S_sa2_12 S_sa11_12 S_sa3_12 Od12 G1 O2 P5) hZ (hw _ (List.mem_of_getElem? (i := 66) rfl)) (hw _ (List.mem_of_getElem? (i := 2) rfl)) (by decide) (by decide)) zq18a zq18c (g := (mkF m 176 #[.val (.int p0), .val (.int p1), .val (.int p2), .val (.int p3), .val (.int p4), .val (.int i5), .val (.int i6), .val (.int (((p4.toUInt32 >>> ((2 : Int32) &&& 31).toUInt32).toInt32) &&& (3 : Int32))), .val (.ref b1), .val (.ref b9), .val (.int (0 : Int32))] [(.ref b1), (.ref b9)])) rfl (by rw [hml]; rfl) (Steps.refl _) (argsL := [(.ref b1)]) (rest := []) (lenOf pd_4 rfl) rfl (by show 2 * 0 + _ ≤ _; exact Nat.le_of_eq rfl) (hb hby at_176) (fun _ _ => ⟨rfl, e17, (by decide : 0 + 1 + 4 + 4 + 4 + 1 + 4 + 4 + 4 + 0 + 0 + 0 + 0 ≤ _), (by decide : 0 + 2 + 10 + 10 + 56 + 2 + 10 + 10 + 56 + 0 + 0 + 0 + 0 ≤ _)⟩)
            dsimp only [Pt.U, Pt.locs, Pt.cells, Pt.slots] at X18 l18 y18 z18 st18 hQ18
            subst l18 y18 z18
            obtain ⟨rfl, N18q, e18⟩ := hQ18
            have N18 := Fr.app N17 N18q
            refine own_goSW st18 ?_
            show own_GoesW _ _ _ _ _ _ _ T18 (mkF m 179 #[.val (.int p0), .val (.int p1), .val (.int p2), .val (.int p3), .val (.int p4), .val (.int i5), .val (.int i6), .val (.int (((p4.toUInt32 >>> ((2 : Int32) &&& 31).toUInt32).toInt32) &&& (3 : Int32))), .val (.ref b1), .val (.ref b9), .val (.int (0 : Int32))] [(.int (own_eq2 (own_cs i5) (own_cs p0) (own_cs i6) (own_cs p1)))])
            refine own_goW (fun _ k => XS.iload X18.here hx rfl (hb hby at_179) rfl k) ?_
            show own_GoesW _ _ _ _ _ _ _ T18 (mkF m 181 #[.val (.int p0), .val (.int p1), .val (.int p2), .val (.int p3), .val (.int p4), .val (.int i5), .val (.int i6), .val (.int (((p4.toUInt32 >>> ((2 : Int32) &&& 31).toUInt32).toInt32) &&& (3 : Int32))), .val (.ref b1), .val (.ref b9), .val (.int (0 : Int32))] [(.int (0 : Int32)), (.int (own_eq2 (own_cs i5) (own_cs p0) (own_cs i6) (own_cs p1)))])
            refine own_goW (fun _ k => XS.icmpNo X18.here hx rfl (hb hby at_181) rfl (teq ((own_eq2_comm _ _ _ _).trans (own_eqB hc150) : (own_eq2 (own_cs i5) (own_cs p0) (own_cs i6) (own_cs p1)) = (0 : Int32))).2 k) ?_
            show own_GoesW _ _ _ _ _ _ _ T18 (mkF m 184 #[.val (.int p0), .val (.int p1), .val (.int p2), .val (.int p3), .val (.int p4), .val (.int i5), .val (.int i6), .val (.int (((p4.toUInt32 >>> ((2 : Int32) &&& 31).toUInt32).toInt32) &&& (3 : Int32))), .val (.ref b1), .val (.ref b9), .val (.int (0 : Int32))] [])
            refine own_goW (fun _ k => XS.iconst X18.here hx rfl (hb hby at_184) k) ?_
            show own_GoesW _ _ _ _ _ _ _ T18 (mkF m 185 #[.val (.int p0), .val (.int p1), .val (.int p2), .val (.int p3), .val (.int p4), .val (.int i5), .val (.int i6), .val (.int (((p4.toUInt32 >>> ((2 : Int32) &&& 31).toUInt32).toInt32) &&& (3 : Int32))), .val (.ref b1), .val (.ref b9), .val (.int (0 : Int32))] [(.int (1 : Int32))])
            refine own_goW (fun _ k => XS.goto X18.here hx rfl (pc0 := 185) (pc' := 189) rfl (hb hby at_185) (by decide) (by decide) k) ?_
            show own_GoesW _ _ _ _ _ _ _ T18 (mkF m 189 #[.val (.int p0), .val (.int p1), .val (.int p2), .val (.int p3), .val (.int p4), .val (.int i5), .val (.int i6), .val (.int (((p4.toUInt32 >>> ((2 : Int32) &&& 31).toUInt32).toInt32) &&& (3 : Int32))), .val (.ref b1), .val (.ref b9), .val (.int (0 : Int32))] [(.int (1 : Int32))])
            exact own_retNW X18 hx hS12 (by rw [e18]; exact hk12) (t := .boolean) hlk hret (by simp) (hb hby at_189) (by decide) (by decide) ⟨rfl, N18⟩
          · refine own_goW (fun _ k => XS.ifNo X16.here hx rfl (hb hby at_150) rfl ((if0 _ _).trans (feq hc150).1) k) ?_
            show own_GoesW _ _ _ _ _ _ _ T16 (mkF m 153 #[.val (.int p0), .val (.int p1), .val (.int p2), .val (.int p3), .val (.int p4), .val (.int i5), .val (.int i6), .val (.int (((p4.toUInt32 >>> ((2 : Int32) &&& 31).toUInt32).toInt32) &&& (3 : Int32))), .val (.ref b1), .val (.ref b9), .unset] [])
            refine own_goW (fun _ k => XS.iconst X16.here hx rfl (hb hby at_153) k) ?_
            show own_GoesW _ _ _ _ _ _ _ T16 (mkF m 154 #[.val (.int p0), .val (.int p1), .val (.int p2), .val (.int p3), .val (.int p4), .val (.int i5), .val (.int i6), .val (.int (((p4.toUInt32 >>> ((2 : Int32) &&& 31).toUInt32).toInt32) &&& (3 : Int32))), .val (.ref b1), .val (.ref b9), .unset] [(.int (1 : Int32))])
            refine own_goW (fun _ k => XS.goto X16.here hx rfl (pc0 := 154) (pc' := 158) rfl (hb hby at_154) (by decide) (by decide) k) ?_
            show own_GoesW _ _ _ _ _ _ _ T16 (mkF m 158 #[.val (.int p0), .val (.int p1), .val (.int p2), .val (.int p3), .val (.int p4), .val (.int i5), .val (.int i6), .val (.int (((p4.toUInt32 >>> ((2 : Int32) &&& 31).toUInt32).toInt32) &&& (3 : Int32))), .val (.ref b1), .val (.ref b9), .unset] [(.int (1 : Int32))])
            refine own_goW (fun _ k => XS.istore X16.here hx rfl (hb hby at_158) rfl (l' := #[.val (.int p0), .val (.int p1), .val (.int p2), .val (.int p3), .val (.int p4), .val (.int i5), .val (.int i6), .val (.int (((p4.toUInt32 >>> ((2 : Int32) &&& 31).toUInt32).toInt32) &&& (3 : Int32))), .val (.ref b1), .val (.ref b9), .val (.int (1 : Int32))]) rfl k) ?_
            show own_GoesW _ _ _ _ _ _ _ T16 (mkF m 160 #[.val (.int p0), .val (.int p1), .val (.int p2), .val (.int p3), .val (.int p4), .val (.int i5), .val (.int i6), .val (.int (((p4.toUInt32 >>> ((2 : Int32) &&& 31).toUInt32).toInt32) &&& (3 : Int32))), .val (.ref b1), .val (.ref b9), .val (.int (1 : Int32))] [])
            refine own_goW (fun _ k => XS.aload X16.here hx rfl (hb hby at_160) rfl rfl k) ?_
            show own_GoesW _ _ _ _ _ _ _ T16 (mkF m 162 #[.val (.int p0), .val (.int p1), .val (.int p2), .val (.int p3), .val (.int p4), .val (.int i5), .val (.int i6), .val (.int (((p4.toUInt32 >>> ((2 : Int32) &&& 31).toUInt32).toInt32) &&& (3 : Int32))), .val (.ref b1), .val (.ref b9), .val (.int (1 : Int32))] [(.ref b1)])
            refine own_goW (fun _ k => XS.aload X16.here hx rfl (hb hby at_162) rfl rfl k) ?_
            show own_GoesW _ _ _ _ _ _ _ T16 (mkF m 164 #[.val (.int p0), .val (.int p1), .val (.int p2), .val (.int p3), .val (.int p4), .val (.int i5), .val (.int i6), .val (.int (((p4.toUInt32 >>> ((2 : Int32) &&& 31).toUInt32).toInt32) &&& (3 : Int32))), .val (.ref b1), .val (.ref b9), .val (.int (1 : Int32))] [(.ref b9), (.ref b1)])
            obtain ⟨cq19, kq19, zq19a, zq19b, zq19c⟩ := isOf hZ e16 E_b1_12
            obtain ⟨_, _, ⟨T19, L19, k19, n19⟩, -, X19, ⟨Lc19, hQ19, l19, y19, z19⟩, st19⟩ := X16.virtualBack hx (y := (⟨"dev/resolvent/model/StateKey", "equals", "(Ljava/lang/Object;)Z"⟩ : MethodName)) (z := (⟨"dev/resolvent/model/StateKey", "equals", "(Ljava/lang/Object;)Z"⟩ : MethodName)) hown (mvT hZ (hw _ (List.mem_of_getElem? (i := 62) rfl))) (mvT hZ (hw _ (List.mem_of_getElem? (i := 63) rfl))) (notFace_of_selects (args := #[]) (mvT hZ (hw _ (List.mem_of_getElem? (i := 65) rfl)))) (mvT hZ (hw _ (List.mem_of_getElem? (i := 65) rfl))) (mvT hZ (hw _ (List.mem_of_getElem? (i := 64) rfl))) (by decide) (backOf (W := 0) (rm_eq l Z a0 hw [] b1 b9 sa2 sa10 sa3 sa11 (own_cs p0) (own_cs i5) (own_cs p1) (own_cs i6) T12.heap n0 Zs12 E_b9_12 Ft_b1_12 Ft12 Fk_b1_12 Fk12 S_sa2_12 S_sa10_12 S_sa3_12 S_sa11_12 Od12 G1 O2 P5) hZ (hw _ (List.mem_of_getElem? (i := 66) rfl)) (hw _ (List.mem_of_getElem? (i := 2) rfl)) (by decide) (by decide)) zq19a zq19c (g := (mkF m 164 #[.val (.int p0), .val (.int p1), .val (.int p2), .val (.int p3), .val (.int p4), .val (.int i5), .val (.int i6), .val (.int (((p4.toUInt32 >>> ((2 : Int32) &&& 31).toUInt32).toInt32) &&& (3 : Int32))), .val (.ref b1), .val (.ref b9), .val (.int (1 : Int32))] [(.ref b9), (.ref b1)])) rfl (by rw [hml]; rfl) (Steps.refl _) (argsL := [(.ref b9)]) (rest := []) (lenOf pd_4 rfl) rfl (by show 2 * 0 + _ ≤ _; exact Nat.le_of_eq rfl) (hb hby at_164) (fun _ _ => ⟨rfl, e16, (by decide : 0 + 1 + 4 + 4 + 4 + 1 + 4 + 4 + 4 + 0 + 0 + 0 ≤ _), (by decide : 0 + 2 + 10 + 10 + 56 + 2 + 10 + 10 + 56 + 0 + 0 + 0 ≤ _)⟩)
            dsimp only [Pt.U, Pt.locs, Pt.cells, Pt.slots] at X19 l19 y19 z19 st19 hQ19
            subst l19 y19 z19
            obtain ⟨rfl, N19q, e19⟩ := hQ19
            have N19 := Fr.app N16 N19q
            refine own_goSW st19 ?_
            show own_GoesW _ _ _ _ _ _ _ T19 (mkF m 167 #[.val (.int p0), .val (.int p1), .val (.int p2), .val (.int p3), .val (.int p4), .val (.int i5), .val (.int i6), .val (.int (((p4.toUInt32 >>> ((2 : Int32) &&& 31).toUInt32).toInt32) &&& (3 : Int32))), .val (.ref b1), .val (.ref b9), .val (.int (1 : Int32))] [(.int (own_eq2 (own_cs p0) (own_cs i5) (own_cs p1) (own_cs i6)))])
            refine own_goW (fun _ k => XS.iload X19.here hx rfl (hb hby at_167) rfl k) ?_
            show own_GoesW _ _ _ _ _ _ _ T19 (mkF m 169 #[.val (.int p0), .val (.int p1), .val (.int p2), .val (.int p3), .val (.int p4), .val (.int i5), .val (.int i6), .val (.int (((p4.toUInt32 >>> ((2 : Int32) &&& 31).toUInt32).toInt32) &&& (3 : Int32))), .val (.ref b1), .val (.ref b9), .val (.int (1 : Int32))] [(.int (1 : Int32)), (.int (own_eq2 (own_cs p0) (own_cs i5) (own_cs p1) (own_cs i6)))])
            refine own_goW (fun _ k => XS.icmpNo X19.here hx rfl (hb hby at_169) rfl (teq (own_eqC hc141 hc150 : (own_eq2 (own_cs p0) (own_cs i5) (own_cs p1) (own_cs i6)) = (1 : Int32))).2 k) ?_
            show own_GoesW _ _ _ _ _ _ _ T19 (mkF m 172 #[.val (.int p0), .val (.int p1), .val (.int p2), .val (.int p3), .val (.int p4), .val (.int i5), .val (.int i6), .val (.int (((p4.toUInt32 >>> ((2 : Int32) &&& 31).toUInt32).toInt32) &&& (3 : Int32))), .val (.ref b1), .val (.ref b9), .val (.int (1 : Int32))] [])
            refine own_goW (fun _ k => XS.aload X19.here hx rfl (hb hby at_172) rfl rfl k) ?_
            show own_GoesW _ _ _ _ _ _ _ T19 (mkF m 174 #[.val (.int p0), .val (.int p1), .val (.int p2), .val (.int p3), .val (.int p4), .val (.int i5), .val (.int i6), .val (.int (((p4.toUInt32 >>> ((2 : Int32) &&& 31).toUInt32).toInt32) &&& (3 : Int32))), .val (.ref b1), .val (.ref b9), .val (.int (1 : Int32))] [(.ref b9)])
            refine own_goW (fun _ k => XS.aload X19.here hx rfl (hb hby at_174) rfl rfl k) ?_
            show own_GoesW _ _ _ _ _ _ _ T19 (mkF m 176 #[.val (.int p0), .val (.int p1), .val (.int p2), .val (.int p3), .val (.int p4), .val (.int i5), .val (.int i6), .val (.int (((p4.toUInt32 >>> ((2 : Int32) &&& 31).toUInt32).toInt32) &&& (3 : Int32))), .val (.ref b1), .val (.ref b9), .val (.int (1 : Int32))] [(.ref b1), (.ref b9)])
            obtain ⟨cq20, kq20, zq20a, zq20b, zq20c⟩ := isOf hZ e19 E_b9_12
            obtain ⟨_, _, ⟨T20, L20, k20, n20⟩, -, X20, ⟨Lc20, hQ20, l20, y20, z20⟩, st20⟩ := X19.virtualBack hx (y := (⟨"dev/resolvent/model/StateKey", "equals", "(Ljava/lang/Object;)Z"⟩ : MethodName)) (z := (⟨"dev/resolvent/model/StateKey", "equals", "(Ljava/lang/Object;)Z"⟩ : MethodName)) hown (mvT hZ (hw _ (List.mem_of_getElem? (i := 62) rfl))) (mvT hZ (hw _ (List.mem_of_getElem? (i := 63) rfl))) (notFace_of_selects (args := #[]) (mvT hZ (hw _ (List.mem_of_getElem? (i := 65) rfl)))) (mvT hZ (hw _ (List.mem_of_getElem? (i := 65) rfl))) (mvT hZ (hw _ (List.mem_of_getElem? (i := 64) rfl))) (by decide) (backOf (W := 0) (rm_eq l Z a0 hw [] b9 b1 sa10 sa2 sa11 sa3 (own_cs i5) (own_cs p0) (own_cs i6) (own_cs p1) T12.heap n0 Zs12 E_b1_12 Ft12 Ft_b1_12 Fk12 Fk_b1_12 S_sa10_12 S_sa2_12 S_sa11_12 S_sa3_12 Od12 G1 O2 P5) hZ (hw _ (List.mem_of_getElem? (i := 66) rfl)) (hw _ (List.mem_of_getElem? (i := 2) rfl)) (by decide) (by decide)) zq20a zq20c (g := (mkF m 176 #[.val (.int p0), .val (.int p1), .val (.int p2), .val (.int p3), .val (.int p4), .val (.int i5), .val (.int i6), .val (.int (((p4.toUInt32 >>> ((2 : Int32) &&& 31).toUInt32).toInt32) &&& (3 : Int32))), .val (.ref b1), .val (.ref b9), .val (.int (1 : Int32))] [(.ref b1), (.ref b9)])) rfl (by rw [hml]; rfl) (Steps.refl _) (argsL := [(.ref b1)]) (rest := []) (lenOf pd_4 rfl) rfl (by show 2 * 0 + _ ≤ _; exact Nat.le_of_eq rfl) (hb hby at_176) (fun _ _ => ⟨rfl, e19, (by decide : 0 + 1 + 4 + 4 + 4 + 1 + 4 + 4 + 4 + 0 + 0 + 0 + 0 ≤ _), (by decide : 0 + 2 + 10 + 10 + 56 + 2 + 10 + 10 + 56 + 0 + 0 + 0 + 0 ≤ _)⟩)
            dsimp only [Pt.U, Pt.locs, Pt.cells, Pt.slots] at X20 l20 y20 z20 st20 hQ20
            subst l20 y20 z20
            obtain ⟨rfl, N20q, e20⟩ := hQ20
            have N20 := Fr.app N19 N20q
            refine own_goSW st20 ?_
            show own_GoesW _ _ _ _ _ _ _ T20 (mkF m 179 #[.val (.int p0), .val (.int p1), .val (.int p2), .val (.int p3), .val (.int p4), .val (.int i5), .val (.int i6), .val (.int (((p4.toUInt32 >>> ((2 : Int32) &&& 31).toUInt32).toInt32) &&& (3 : Int32))), .val (.ref b1), .val (.ref b9), .val (.int (1 : Int32))] [(.int (own_eq2 (own_cs i5) (own_cs p0) (own_cs i6) (own_cs p1)))])
            refine own_goW (fun _ k => XS.iload X20.here hx rfl (hb hby at_179) rfl k) ?_
            show own_GoesW _ _ _ _ _ _ _ T20 (mkF m 181 #[.val (.int p0), .val (.int p1), .val (.int p2), .val (.int p3), .val (.int p4), .val (.int i5), .val (.int i6), .val (.int (((p4.toUInt32 >>> ((2 : Int32) &&& 31).toUInt32).toInt32) &&& (3 : Int32))), .val (.ref b1), .val (.ref b9), .val (.int (1 : Int32))] [(.int (1 : Int32)), (.int (own_eq2 (own_cs i5) (own_cs p0) (own_cs i6) (own_cs p1)))])
            refine own_goW (fun _ k => XS.icmpNo X20.here hx rfl (hb hby at_181) rfl (teq ((own_eq2_comm _ _ _ _).trans (own_eqC hc141 hc150) : (own_eq2 (own_cs i5) (own_cs p0) (own_cs i6) (own_cs p1)) = (1 : Int32))).2 k) ?_
            show own_GoesW _ _ _ _ _ _ _ T20 (mkF m 184 #[.val (.int p0), .val (.int p1), .val (.int p2), .val (.int p3), .val (.int p4), .val (.int i5), .val (.int i6), .val (.int (((p4.toUInt32 >>> ((2 : Int32) &&& 31).toUInt32).toInt32) &&& (3 : Int32))), .val (.ref b1), .val (.ref b9), .val (.int (1 : Int32))] [])
            refine own_goW (fun _ k => XS.iconst X20.here hx rfl (hb hby at_184) k) ?_
            show own_GoesW _ _ _ _ _ _ _ T20 (mkF m 185 #[.val (.int p0), .val (.int p1), .val (.int p2), .val (.int p3), .val (.int p4), .val (.int i5), .val (.int i6), .val (.int (((p4.toUInt32 >>> ((2 : Int32) &&& 31).toUInt32).toInt32) &&& (3 : Int32))), .val (.ref b1), .val (.ref b9), .val (.int (1 : Int32))] [(.int (1 : Int32))])
            refine own_goW (fun _ k => XS.goto X20.here hx rfl (pc0 := 185) (pc' := 189) rfl (hb hby at_185) (by decide) (by decide) k) ?_
            show own_GoesW _ _ _ _ _ _ _ T20 (mkF m 189 #[.val (.int p0), .val (.int p1), .val (.int p2), .val (.int p3), .val (.int p4), .val (.int i5), .val (.int i6), .val (.int (((p4.toUInt32 >>> ((2 : Int32) &&& 31).toUInt32).toInt32) &&& (3 : Int32))), .val (.ref b1), .val (.ref b9), .val (.int (1 : Int32))] [(.int (1 : Int32))])
            exact own_retNW X20 hx hS12 (by rw [e20]; exact hk12) (t := .boolean) hlk hret (by simp) (hb hby at_189) (by decide) (by decide) ⟨rfl, N20⟩
set_option maxRecDepth 65536 in
set_option maxHeartbeats 40000000 in
theorem seg14 {p : Program} {l : Launch} {e : Env} {s : State} {vm0 : Vm} {k0 : Nat} {m : MethodId} {args : Array Value} {below : List Frame} {meth : Method} {c : Code} {s₁ : State} {locs : List Loc} {Z : State} {a0 : Array Value} {h0 : Heap} (p0 p1 p2 p3 p4 i5 : Int32)
    (hw : ∀ d ∈ tables_1, d.before a0 Z = true) (C : own_Ctx Z x "dev/resolvent/model/StateKeyEqualsPinLaw" code maxLocals ret p (s.setVm vm0) m meth c) (X0 : Stand p l e room_1 (s.setVm vm0) m args below meth c s₁ locs 0 0) (e0 : s₁.heap = h0) (hS0 : s.Since vm0 k0) (hk0 : k0 ≤ h0.size) (VM0 : own_VM Z h0 vm0) (n0 : Nat) (Z0 : n0 ≤ h0.size) (N0 : Fr n0 locs) (Od0 : Old Z n0 h0) (CH : Jvm.Lit.constsHeld consts_1 Z) (hcw : Jvm.Lit.compactW.before a0 Z = true) (G1 : Int32) (O2 : Sta Z Z.heap "java/lang/String" "COMPACT_STRINGS" "Z" (.int G1)) (P5 : ¬ (G1 = (0 : Int32))) :
    own_GoesW p e below s (fun v h L vm => v = some (.int 1) ∧ Fr n0 L) room_1.cells room_1.slots s₁ (mkF m 14 #[.val (.int p0), .val (.int p1), .val (.int p2), .val (.int p3), .val (.int p4), .val (.int i5), .unset, .unset, .unset, .unset, .unset] []) := by
  obtain ⟨hx, hby, hml, hown, hnm, hret, hlk, hZ⟩ := C
  refine own_goW (fun _ k => XS.iload X0.here hx rfl (hb hby at_14) rfl k) ?_
  show own_GoesW _ _ _ _ _ _ _ s₁ (mkF m 16 #[.val (.int p0), .val (.int p1), .val (.int p2), .val (.int p3), .val (.int p4), .val (.int i5), .unset, .unset, .unset, .unset, .unset] [(.int p4)])
  refine own_goW (fun _ k => XS.iconst X0.here hx rfl (hb hby at_16) k) ?_
  show own_GoesW _ _ _ _ _ _ _ s₁ (mkF m 17 #[.val (.int p0), .val (.int p1), .val (.int p2), .val (.int p3), .val (.int p4), .val (.int i5), .unset, .unset, .unset, .unset, .unset] [(.int (2 : Int32)), (.int p4)])
  refine own_goW (fun _ k => XS.iand X0.here hx rfl (hb hby at_17) rfl k) ?_
  show own_GoesW _ _ _ _ _ _ _ s₁ (mkF m 18 #[.val (.int p0), .val (.int p1), .val (.int p2), .val (.int p3), .val (.int p4), .val (.int i5), .unset, .unset, .unset, .unset, .unset] [(.int (p4 &&& (2 : Int32)))])
  by_cases hc18 : (p4 &&& (2 : Int32)) = (0 : Int32)
  · refine own_goW (fun _ k => XS.ifYes X0.here hx rfl (pc0 := 18) (pc' := 25) rfl (hb hby at_18) rfl ((if0 _ _).trans (teq hc18).1) (by decide) (by decide) k) ?_
    show own_GoesW _ _ _ _ _ _ _ s₁ (mkF m 25 #[.val (.int p0), .val (.int p1), .val (.int p2), .val (.int p3), .val (.int p4), .val (.int i5), .unset, .unset, .unset, .unset, .unset] [])
    refine own_goW (fun _ k => XS.iloadN X0.here hx rfl (hb hby at_25) rfl k) ?_
    show own_GoesW _ _ _ _ _ _ _ s₁ (mkF m 26 #[.val (.int p0), .val (.int p1), .val (.int p2), .val (.int p3), .val (.int p4), .val (.int i5), .unset, .unset, .unset, .unset, .unset] [(.int p3)])
    refine own_goW (fun _ k => XS.istore X0.here hx rfl (hb hby at_26) rfl (l' := #[.val (.int p0), .val (.int p1), .val (.int p2), .val (.int p3), .val (.int p4), .val (.int i5), .val (.int p3), .unset, .unset, .unset, .unset]) rfl k) ?_
    show own_GoesW _ _ _ _ _ _ _ s₁ (mkF m 28 #[.val (.int p0), .val (.int p1), .val (.int p2), .val (.int p3), .val (.int p4), .val (.int i5), .val (.int p3), .unset, .unset, .unset, .unset] [])
    exact seg28 p0 p1 p2 p3 p4 i5 p3 hw ⟨hx, hby, hml, hown, hnm, hret, hlk, hZ⟩ X0 e0 hS0 hk0 VM0 n0 Z0 N0 Od0 CH hcw G1 O2 P5
  · refine own_goW (fun _ k => XS.ifNo X0.here hx rfl (hb hby at_18) rfl ((if0 _ _).trans (feq hc18).1) k) ?_
    show own_GoesW _ _ _ _ _ _ _ s₁ (mkF m 21 #[.val (.int p0), .val (.int p1), .val (.int p2), .val (.int p3), .val (.int p4), .val (.int i5), .unset, .unset, .unset, .unset, .unset] [])
    refine own_goW (fun _ k => XS.iloadN X0.here hx rfl (hb hby at_21) rfl k) ?_
    show own_GoesW _ _ _ _ _ _ _ s₁ (mkF m 22 #[.val (.int p0), .val (.int p1), .val (.int p2), .val (.int p3), .val (.int p4), .val (.int i5), .unset, .unset, .unset, .unset, .unset] [(.int p1)])
    refine own_goW (fun _ k => XS.goto X0.here hx rfl (pc0 := 22) (pc' := 26) rfl (hb hby at_22) (by decide) (by decide) k) ?_
    show own_GoesW _ _ _ _ _ _ _ s₁ (mkF m 26 #[.val (.int p0), .val (.int p1), .val (.int p2), .val (.int p3), .val (.int p4), .val (.int i5), .unset, .unset, .unset, .unset, .unset] [(.int p1)])
    refine own_goW (fun _ k => XS.istore X0.here hx rfl (hb hby at_26) rfl (l' := #[.val (.int p0), .val (.int p1), .val (.int p2), .val (.int p3), .val (.int p4), .val (.int i5), .val (.int p1), .unset, .unset, .unset, .unset]) rfl k) ?_
    show own_GoesW _ _ _ _ _ _ _ s₁ (mkF m 28 #[.val (.int p0), .val (.int p1), .val (.int p2), .val (.int p3), .val (.int p4), .val (.int i5), .val (.int p1), .unset, .unset, .unset, .unset] [])
    exact seg28 p0 p1 p2 p3 p4 i5 p1 hw ⟨hx, hby, hml, hown, hnm, hret, hlk, hZ⟩ X0 e0 hS0 hk0 VM0 n0 Z0 N0 Od0 CH hcw G1 O2 P5
def Q_rm0 (Z : State) (h0 : Heap) (n0 : Nat)  (v : Option Value) (h : Heap) (L : List Loc) (vm : Vm) : Prop := v = some (.int 1) ∧ Fr n0 L
set_option maxRecDepth 65536 in
set_option maxHeartbeats 40000000 in
theorem rm0 (l : Launch) (Z : State) (a0 : Array Value) (hw : ∀ d ∈ tables_1, d.before a0 Z = true) (ws : List Jvm.Cond) (p0 p1 p2 p3 p4 : Int32) (h0 : Heap) (n0 : Nat) (Z0 : n0 ≤ h0.size) (Od0 : Old Z n0 h0) (CH : Jvm.Lit.constsHeld consts_1 Z) (hcw : Jvm.Lit.compactW.before a0 Z = true) (G1 : Int32) (O2 : Sta Z Z.heap "java/lang/String" "COMPACT_STRINGS" "Z" (.int G1)) (P5 : ¬ (G1 = (0 : Int32))) :
    MetFree l x (head1 (Jvm.Cond.code x code maxLocals ret :: ws) room_1) (fun a U => a = #[(.int p0), (.int p1), (.int p2), (.int p3), (.int p4)] ∧ Z.Warmed39 U.vm ∧ U.heap = h0 ∧ own_VM Z h0 U.vm) (fun _ _ _ _ _ => True) (fun _ U o U' => ∃ rv rL, o = .returned rv ∧ Q_rm0 Z h0 n0  rv U'.heap rL U'.vm ∧ ReturnedEndW U o U' rL room_1.cells room_1.slots) := by
  refine own_metW (VP := own_VM Z h0) (y := x) (Q := Q_rm0 Z h0 n0 ) (own := "dev/resolvent/model/StateKeyEqualsPinLaw") rfl (plainFor_of_name pn_0) ?_
  intro p e s m below meth c s₁ C e0 hh0 VM0 hS0 X0
  obtain ⟨hx, hby, hml, hown, hnm, hret, hlk, hZ⟩ := C
  have N0 := Fr.nil n0
  have hk0 : 0 ≤ h0.size := Nat.zero_le _
  rw [ef_0]
  show own_GoesW _ _ _ _ _ _ _ s₁ (mkF m 0 #[.val (.int p0), .val (.int p1), .val (.int p2), .val (.int p3), .val (.int p4), .unset, .unset, .unset, .unset, .unset, .unset] [])
  refine own_goW (fun _ k => XS.iload X0.here hx rfl (hb hby at_0) rfl k) ?_
  show own_GoesW _ _ _ _ _ _ _ s₁ (mkF m 2 #[.val (.int p0), .val (.int p1), .val (.int p2), .val (.int p3), .val (.int p4), .unset, .unset, .unset, .unset, .unset, .unset] [(.int p4)])
  refine own_goW (fun _ k => XS.iconst X0.here hx rfl (hb hby at_2) k) ?_
  show own_GoesW _ _ _ _ _ _ _ s₁ (mkF m 3 #[.val (.int p0), .val (.int p1), .val (.int p2), .val (.int p3), .val (.int p4), .unset, .unset, .unset, .unset, .unset, .unset] [(.int (1 : Int32)), (.int p4)])
  refine own_goW (fun _ k => XS.iand X0.here hx rfl (hb hby at_3) rfl k) ?_
  show own_GoesW _ _ _ _ _ _ _ s₁ (mkF m 4 #[.val (.int p0), .val (.int p1), .val (.int p2), .val (.int p3), .val (.int p4), .unset, .unset, .unset, .unset, .unset, .unset] [(.int (p4 &&& (1 : Int32)))])
  by_cases hc4 : (p4 &&& (1 : Int32)) = (0 : Int32)
  · refine own_goW (fun _ k => XS.ifYes X0.here hx rfl (pc0 := 4) (pc' := 11) rfl (hb hby at_4) rfl ((if0 _ _).trans (teq hc4).1) (by decide) (by decide) k) ?_
    show own_GoesW _ _ _ _ _ _ _ s₁ (mkF m 11 #[.val (.int p0), .val (.int p1), .val (.int p2), .val (.int p3), .val (.int p4), .unset, .unset, .unset, .unset, .unset, .unset] [])
    refine own_goW (fun _ k => XS.iloadN X0.here hx rfl (hb hby at_11) rfl k) ?_
    show own_GoesW _ _ _ _ _ _ _ s₁ (mkF m 12 #[.val (.int p0), .val (.int p1), .val (.int p2), .val (.int p3), .val (.int p4), .unset, .unset, .unset, .unset, .unset, .unset] [(.int p2)])
    refine own_goW (fun _ k => XS.istore X0.here hx rfl (hb hby at_12) rfl (l' := #[.val (.int p0), .val (.int p1), .val (.int p2), .val (.int p3), .val (.int p4), .val (.int p2), .unset, .unset, .unset, .unset, .unset]) rfl k) ?_
    show own_GoesW _ _ _ _ _ _ _ s₁ (mkF m 14 #[.val (.int p0), .val (.int p1), .val (.int p2), .val (.int p3), .val (.int p4), .val (.int p2), .unset, .unset, .unset, .unset, .unset] [])
    exact seg14 p0 p1 p2 p3 p4 p2 hw ⟨hx, hby, hml, hown, hnm, hret, hlk, hZ⟩ X0 e0 hS0 hk0 VM0 n0 Z0 N0 Od0 CH hcw G1 O2 P5
  · refine own_goW (fun _ k => XS.ifNo X0.here hx rfl (hb hby at_4) rfl ((if0 _ _).trans (feq hc4).1) k) ?_
    show own_GoesW _ _ _ _ _ _ _ s₁ (mkF m 7 #[.val (.int p0), .val (.int p1), .val (.int p2), .val (.int p3), .val (.int p4), .unset, .unset, .unset, .unset, .unset, .unset] [])
    refine own_goW (fun _ k => XS.iloadN X0.here hx rfl (hb hby at_7) rfl k) ?_
    show own_GoesW _ _ _ _ _ _ _ s₁ (mkF m 8 #[.val (.int p0), .val (.int p1), .val (.int p2), .val (.int p3), .val (.int p4), .unset, .unset, .unset, .unset, .unset, .unset] [(.int p0)])
    refine own_goW (fun _ k => XS.goto X0.here hx rfl (pc0 := 8) (pc' := 12) rfl (hb hby at_8) (by decide) (by decide) k) ?_
    show own_GoesW _ _ _ _ _ _ _ s₁ (mkF m 12 #[.val (.int p0), .val (.int p1), .val (.int p2), .val (.int p3), .val (.int p4), .unset, .unset, .unset, .unset, .unset, .unset] [(.int p0)])
    refine own_goW (fun _ k => XS.istore X0.here hx rfl (hb hby at_12) rfl (l' := #[.val (.int p0), .val (.int p1), .val (.int p2), .val (.int p3), .val (.int p4), .val (.int p0), .unset, .unset, .unset, .unset, .unset]) rfl k) ?_
    show own_GoesW _ _ _ _ _ _ _ s₁ (mkF m 14 #[.val (.int p0), .val (.int p1), .val (.int p2), .val (.int p3), .val (.int p4), .val (.int p0), .unset, .unset, .unset, .unset, .unset] [])
    exact seg14 p0 p1 p2 p3 p4 p0 hw ⟨hx, hby, hml, hown, hnm, hret, hlk, hZ⟩ X0 e0 hS0 hk0 VM0 n0 Z0 N0 Od0 CH hcw G1 O2 P5
set_option maxRecDepth 65536 in
set_option maxHeartbeats 40000000 in
theorem comes_1 {Post : Tables → Env → Array Value → State → Outcome → State → Prop} (hpost : ∀ tb e args s v u, (limb_1_1.after args s (.returned v) u = true ∧ limb_1_2.after args s (.returned v) u = true ∧ True) → Jvm.Pilot.@@N@@.Jvm.D.FramedW s (.returned v) u (Jvm.fieldLocs frame_1_writes args s ++ Jvm.arrayLocs frame_1_arrays args s ++ Jvm.staticLocs frame_1_statics s) 48 3264 → Post tb e args s (.returned v) u) :
    ArmFor flags0 classFile x code maxLocals ret World_1 tables_1 room_1 Calls_1 rest_1 Pre_1 Post := by
  intro l hfl _ _ p e ha hc hk s m args below hf hA hF happ hP
  obtain ⟨hcalls, hrest, hpre⟩ := hP
  obtain ⟨-, -, -, hnamed, -, -, -, hat⟩ := (Spec.applies_iff hf).mp happ
  obtain ⟨hg, hn⟩ := and_e (Cond.before_iff.mp (show (Jvm.Cond.and given_1 narrow_1).before args s = true from hpre))
  obtain ⟨g0, gr0⟩ := and_e hg
  obtain ⟨ga0, gr1⟩ := and_e gr0
  obtain ⟨ga1, gr2⟩ := and_e gr1
  obtain ⟨ga2, gr3⟩ := and_e gr2
  obtain ⟨ga3, gr4⟩ := and_e gr3
  have ga4 := gr4
  obtain ⟨w0, w1, w2, w3, w4, rfl⟩ : ∃ w0 w1 w2 w3 w4 : Value, args = #[w0, w1, w2, w3, w4] := by
    have hs : args.size = 5 := by simpa [Cond.value, given_1] using g0
    obtain ⟨L⟩ := args
    match L, hs with
    | [w0, w1, w2, w3, w4], _ => exact ⟨w0, w1, w2, w3, w4, rfl⟩
  have hw := fun d (hd : d ∈ tables_1) => atoms_spec (ws := Jvm.Cond.code x code maxLocals ret :: tables_1) hat d (List.mem_cons_of_mem _ hd)
  have hfit : Fit s := fun {y c} hc i hi => by
    obtain ⟨ha, rfl⟩ := Array.getElem?_eq_some_iff.mp hc
    have q := List.all_eq_true.mp ((Array.all_eq_true_iff_forall_mem.mp hF) _ (Array.getElem_mem ha)) i (List.mem_range.mpr hi)
    simpa [Array.getElem?_eq_getElem hi] using q
  obtain ⟨i0, ei0⟩ := is_v ga0
  obtain rfl : w0 = (.int i0) := Option.some.inj ei0
  obtain ⟨i1, ei1⟩ := is_v ga1
  obtain rfl : w1 = (.int i1) := Option.some.inj ei1
  obtain ⟨i2, ei2⟩ := is_v ga2
  obtain rfl : w2 = (.int i2) := Option.some.inj ei2
  obtain ⟨i3, ei3⟩ := is_v ga3
  obtain rfl : w3 = (.int i3) := Option.some.inj ei3
  obtain ⟨i4, ei4⟩ := is_v ga4
  obtain rfl : w4 = (.int i4) := Option.some.inj ei4
  obtain ⟨hsets, -⟩ := atoms_of _ (rest_1_c_eq ▸ (show rest_1_c.before _ s = true from hrest))
  have n3 := not_v (Cond.before_iff.mp (hsets _ (List.mem_of_getElem? (i := 2) rfl)))
  obtain ⟨G1, e6⟩ := is_v (Cond.before_iff.mp (hsets _ (List.mem_of_getElem? (i := 1) rfl)))
  have O2 : Sta s s.heap "java/lang/String" "COMPACT_STRINGS" "Z" (.int G1) := Sta.start e6 (Or.inl (hsets _ (List.mem_of_getElem? (i := 0) rfl)))
  have P5 : ¬ (G1 = (0 : Int32)) := gotF (Cond.eq_ints e6 (Term.int_eval (0))) n3
  have CH : Jvm.Lit.constsHeld consts_1 s := hcalls.1
  have hcw := hsets _ (List.mem_of_getElem? (i := 2) rfl)
  obtain ⟨n, o, h1, h2, h3, _, L, rfl, ⟨rfl, N⟩, hq⟩ := rm0 l s _ hw tables_1 i0 i1 i2 i3 i4 s.heap s.heap.size (Nat.le_refl _) (Old.start s) CH hcw G1 O2 P5 p e ha hc hk s m _ below hf ((Spec.applies_iff_loose hf).mp happ).1 ⟨rfl, State.Warmed39.refl s, rfl, own_VM.start⟩ trivial
  refine ⟨n, _, h1, h2, h3, hpost _ _ _ _ _ _ ⟨Cond.after_iff.mpr rfl, Cond.after_iff.mpr (eq_i res_at (Term.int_eval (1)) rfl), trivial⟩ ⟨hq.1, hq.2.1, hq.2.2.1, (hq.2.2.2.sift fun y hy => Or.inr (N y hy)).mono (by decide) (by decide)⟩⟩
theorem main_1_1 : Claimed_1_1 := comes_1 fun _ _ _ _ _ _ h hF => ⟨h.1, hF⟩
theorem main_1_2 : Claimed_1_2 := comes_1 fun _ _ _ _ _ _ h hF => ⟨h.2.1, hF⟩
end Jvm.Pilot.@@N@@
namespace Jvm.Pilot.@@N@@
open Jvm Jvm.ClassFile Sem Op Lib Jvm.Free Jvm.Stand Jvm.Pilot.@@N@@.Jvm.D
/-! MADE BY PROGRAM (witnessworld.py) out of the Statement's table words and the real class files: 22 classes; the members and pool entries that the words name. The judged class is class 1, her method 3. -/
namespace start1
open Jvm.ClassFile
def u (s : String) : CpInfo := .utf8 (stringToUtf16 s)
/-- a pool by its gaps: so many unusable entries, then the entry; so many at the end -/
def gap : Nat → List CpInfo → List CpInfo
  | 0, r => r
  | n + 1, r => .unusable :: gap n r
def poolList (es : List (Nat × CpInfo)) (last : Nat) : List CpInfo := es.foldr (fun e r => gap e.1 (e.2 :: r)) (gap last [])
def pool (es : List (Nat × CpInfo)) (last : Nat) : Array CpInfo := ⟨poolList es last⟩
def fileOf (pool : Array CpInfo) (this : Nat) (attrs : Array Attribute := #[]) (ms : Array MethodInfo := #[]) (fl : Nat := 33) (sup : Nat := 0) (ifs : Array Nat := #[]) (fds : Array FieldInfo := #[]) : ClassFile where
  minorVersion := 0
  majorVersion := 65
  constantPool := pool
  accessFlags := fl
  thisClass := this
  superClass := sup
  interfaces := ifs
  fields := fds
  methods := ms
  attributes := attrs
def plain (name : String) (sup : Option ClassId) : Class where
  name := name
  kind := .ordinary
  loader := none
  accessFlags := 33
  super := sup
  interfaces := #[]
  cf := none
  fields := #[]
  methods := #[]
  instanceTypes := #[]
  staticTypes := #[]
  resolved := #[]
  callSites := []
  init := .initialized
  statics := none
  mirror := none

def pool0 : Array CpInfo := pool [(5, u "<init>"), (0, u "()V"), (1, .class_ 10), (1, u "java/lang/Object")] 113

def k0c0 : Code := { maxStack := 0, maxLocals := 1, code := object_method_1_code, exceptionTable := #[], attributes := #[] }
def k0m0 : Method := { name := "<init>", desc := "()V", sig := { parameters := [], returnType := none }, accessFlags := 1, code := some k0c0 }
/-- java/lang/Object -/
def k0 : Class := { plain "java/lang/Object" none with
  accessFlags := 33
  interfaces := #[]
  cf := some (fileOf pool0 8 #[] #[{ accessFlags := 1, nameIndex := 5, descriptorIndex := 6, attributes := #[] }] 33 0 #[] #[])
  fields := #[]
  methods := #[k0m0]
  instanceTypes := #[]
  staticTypes := #[]
  resolved := Array.replicate 124 none
  statics := none }

def pool1 : Array CpInfo := pool [(2, .class_ 4), (1, u "java/lang/Object"), (0, u "<init>"), (0, u "()V"), (0, .class_ 8), (0, u "java/lang/String"), (0, .methodref 7 10), (0, .nameAndType 5 11), (0, u "([C)V"), (0, .integer 262140), (0, .integer 67108860), (0, .class_ 15), (0, u "dev/resolvent/model/StateKey"), (0, .methodref 17 18), (0, .class_ 19), (0, .nameAndType 20 21), (0, u "dev/resolvent/model/StateKeyEqualsPinLaw"), (0, u "str"), (0, u "(I)Ljava/lang/String;"), (0, .methodref 14 23), (0, .nameAndType 5 24), (0, u "(Ljava/lang/String;Ljava/lang/String;)V"), (0, .methodref 14 26), (0, .nameAndType 27 28), (0, u "equals"), (0, u "(Ljava/lang/Object;)Z"), (0, .methodref 17 30), (0, .nameAndType 31 32), (0, u "sameCode"), (0, u "(II)Z"), (3, u "law"), (0, u "(IIIII)Z")] 2

def k1m0 : Method := { name := "<init>", desc := "()V", sig := { parameters := [], returnType := none }, accessFlags := 2, code := none }
def k1c1 : Code := { maxStack := 6, maxLocals := 5, code := method_2_code, exceptionTable := #[], attributes := #[] }
def k1m1 : Method := { name := "str", desc := "(I)Ljava/lang/String;", sig := { parameters := [.int], returnType := some (.object "java/lang/String") }, accessFlags := 10, code := some k1c1 }
def k1c2 : Code := { maxStack := 3, maxLocals := 4, code := method_3_code, exceptionTable := #[], attributes := #[] }
def k1m2 : Method := { name := "sameCode", desc := "(II)Z", sig := { parameters := [.int, .int], returnType := some .boolean }, accessFlags := 10, code := some k1c2 }
def k1c3 : Code := { maxStack := 4, maxLocals := 11, code := code, exceptionTable := #[], attributes := #[] }
def k1m3 : Method := { name := "law", desc := "(IIIII)Z", sig := { parameters := [.int, .int, .int, .int, .int], returnType := some .boolean }, accessFlags := 9, code := some k1c3 }
/-- dev/resolvent/model/StateKeyEqualsPinLaw -/
def k1 : Class := { plain "dev/resolvent/model/StateKeyEqualsPinLaw" (some 0) with
  accessFlags := 49
  interfaces := #[]
  cf := some (fileOf pool1 17 #[] #[{ accessFlags := 2, nameIndex := 5, descriptorIndex := 6, attributes := #[] }, { accessFlags := 10, nameIndex := 20, descriptorIndex := 21, attributes := #[] }, { accessFlags := 10, nameIndex := 31, descriptorIndex := 32, attributes := #[] }, { accessFlags := 9, nameIndex := 36, descriptorIndex := 37, attributes := #[] }] 49 2 #[] #[])
  fields := #[]
  methods := #[k1m0, k1m1, k1m2, k1m3]
  instanceTypes := #[]
  staticTypes := #[]
  resolved := Array.replicate 40 none
  statics := none }

def pool2 : Array CpInfo := pool [(1, .methodref 2 3), (0, .class_ 4), (0, .nameAndType 5 6), (0, u "java/lang/Object"), (0, u "<init>"), (0, u "()V"), (0, .class_ 8), (0, u "java/lang/Record")] 13

def k2c0 : Code := { maxStack := 1, maxLocals := 1, code := jdk_30_method_1_code, exceptionTable := #[], attributes := #[] }
def k2m0 : Method := { name := "<init>", desc := "()V", sig := { parameters := [], returnType := none }, accessFlags := 4, code := some k2c0 }
/-- java/lang/Record -/
def k2 : Class := { plain "java/lang/Record" (some 0) with
  accessFlags := 1057
  interfaces := #[]
  cf := some (fileOf pool2 7 #[] #[{ accessFlags := 4, nameIndex := 5, descriptorIndex := 6, attributes := #[] }] 1057 2 #[] #[])
  fields := #[]
  methods := #[k2m0]
  instanceTypes := #[]
  staticTypes := #[]
  resolved := Array.replicate 22 none
  statics := none }

def pool3 : Array CpInfo := pool [(1, .class_ 2), (0, u "java/lang/Comparable"), (0, .class_ 4), (0, u "java/lang/Object")] 7

/-- java/lang/Comparable -/
def k3 : Class := { plain "java/lang/Comparable" (some 0) with
  accessFlags := 1537
  interfaces := #[]
  cf := some (fileOf pool3 1 #[] #[] 1537 3 #[] #[])
  fields := #[]
  methods := #[]
  instanceTypes := #[]
  staticTypes := #[]
  resolved := Array.replicate 12 none
  statics := none }

def pool4 : Array CpInfo := pool [(1, .methodref 2 3), (0, .class_ 4), (0, .nameAndType 5 6), (0, u "java/lang/Record"), (0, u "<init>"), (0, u "()V"), (0, .string 8), (0, u "type"), (0, .methodref 10 11), (0, .class_ 12), (0, .nameAndType 13 14), (0, u "java/util/Objects"), (0, u "requireNonNull"), (0, u "(Ljava/lang/Object;Ljava/lang/String;)Ljava/lang/Object;"), (0, .string 16), (0, u "stateKey"), (0, .fieldref 18 19), (0, .class_ 20), (0, .nameAndType 8 21), (0, u "dev/resolvent/model/StateKey"), (0, u "Ljava/lang/String;"), (0, .fieldref 18 23), (0, .nameAndType 16 21), (0, .methodref 25 26), (0, .class_ 27), (0, .nameAndType 28 29), (0, u "java/lang/String"), (0, u "equals"), (0, u "(Ljava/lang/Object;)Z"), (18, .class_ 49), (0, u "java/lang/Comparable"), (0, u "(Ljava/lang/String;Ljava/lang/String;)V")] 29

def k4c0 : Code := { maxStack := 2, maxLocals := 3, code := prog_23_method_1_code, exceptionTable := #[], attributes := #[] }
def k4m0 : Method := { name := "<init>", desc := "(Ljava/lang/String;Ljava/lang/String;)V", sig := { parameters := [(.object "java/lang/String"), (.object "java/lang/String")], returnType := none }, accessFlags := 1, code := some k4c0 }
def k4c1 : Code := { maxStack := 2, maxLocals := 3, code := prog_23_method_2_code, exceptionTable := #[], attributes := #[] }
def k4m1 : Method := { name := "equals", desc := "(Ljava/lang/Object;)Z", sig := { parameters := [(.object "java/lang/Object")], returnType := some .boolean }, accessFlags := 1, code := some k4c1 }
/-- dev/resolvent/model/StateKey -/
def k4 : Class := { plain "dev/resolvent/model/StateKey" (some 2) with
  accessFlags := 49
  interfaces := #[3]
  cf := some (fileOf pool4 18 #[] #[{ accessFlags := 1, nameIndex := 5, descriptorIndex := 50, attributes := #[] }, { accessFlags := 1, nameIndex := 28, descriptorIndex := 29, attributes := #[] }] 49 2 #[48] #[{ accessFlags := 18, nameIndex := 8, descriptorIndex := 21, attributes := #[] }, { accessFlags := 18, nameIndex := 16, descriptorIndex := 21, attributes := #[] }])
  fields := #[{ name := "type", type := (.object "java/lang/String"), accessFlags := 18, slot := 0, constantValue := 0 }, { name := "stateKey", type := (.object "java/lang/String"), accessFlags := 18, slot := 1, constantValue := 0 }]
  methods := #[k4m0, k4m1]
  instanceTypes := #[(.object "java/lang/String"), (.object "java/lang/String")]
  staticTypes := #[]
  resolved := Array.replicate 80 none
  statics := none }

def pool5 : Array CpInfo := pool [(1, .class_ 2), (0, u "java/io/Serializable"), (0, .class_ 4), (0, u "java/lang/Object")] 2

/-- java/io/Serializable -/
def k5 : Class := { plain "java/io/Serializable" (some 0) with
  accessFlags := 1537
  interfaces := #[]
  cf := some (fileOf pool5 1 #[] #[] 1537 3 #[] #[])
  fields := #[]
  methods := #[]
  instanceTypes := #[]
  staticTypes := #[]
  resolved := Array.replicate 7 none
  statics := none }

def pool6 : Array CpInfo := pool [(2, .class_ 4), (1, u "java/lang/CharSequence"), (42, .class_ 48), (0, u "java/lang/CharSequence$1CodePointIterator"), (10, .class_ 60), (0, u "java/lang/CharSequence$1CharIterator"), (5, .class_ 67), (0, u "java/lang/Object")] 63

/-- java/lang/CharSequence -/
def k6 : Class := { plain "java/lang/CharSequence" (some 0) with
  accessFlags := 1537
  interfaces := #[]
  cf := some (fileOf pool6 2 #[.nestMembers #[47, 59]] #[] 1537 66 #[] #[])
  fields := #[]
  methods := #[]
  instanceTypes := #[]
  staticTypes := #[]
  resolved := Array.replicate 131 none
  statics := none }

def pool7 : Array CpInfo := pool [(1, .class_ 2), (0, u "java/lang/constant/Constable"), (0, .class_ 4), (0, u "java/lang/Object")] 6

/-- java/lang/constant/Constable -/
def k7 : Class := { plain "java/lang/constant/Constable" (some 0) with
  accessFlags := 1537
  interfaces := #[]
  cf := some (fileOf pool7 1 #[] #[] 1537 3 #[] #[])
  fields := #[]
  methods := #[]
  instanceTypes := #[]
  staticTypes := #[]
  resolved := Array.replicate 11 none
  statics := none }

def pool8 : Array CpInfo := pool [(1, .class_ 2), (0, u "java/lang/constant/ConstantDesc"), (0, .class_ 4), (0, u "java/lang/Object")] 32

/-- java/lang/constant/ConstantDesc -/
def k8 : Class := { plain "java/lang/constant/ConstantDesc" (some 0) with
  accessFlags := 1537
  interfaces := #[]
  cf := some (fileOf pool8 1 #[] #[] 1537 3 #[] #[])
  fields := #[]
  methods := #[]
  instanceTypes := #[]
  staticTypes := #[]
  resolved := Array.replicate 37 none
  statics := none }

def pool9 : Array CpInfo := pool [(1, .methodref 2 3), (0, .class_ 4), (0, .nameAndType 5 6), (0, u "java/lang/Object"), (0, u "<init>"), (0, u "()V"), (0, .string 8), (0, u ""), (0, .fieldref 10 11), (0, .class_ 12), (0, .nameAndType 13 14), (0, u "java/lang/String"), (0, u "value"), (0, u "[B"), (0, .fieldref 10 16), (0, .nameAndType 17 18), (0, u "coder"), (0, u "B"), (2, u "hash"), (0, u "I"), (2, u "hashIsZero"), (0, u "Z"), (0, .methodref 10 28), (0, .nameAndType 5 29), (0, u "([CIILjava/lang/Void;)V"), (8, .fieldref 10 39), (0, .nameAndType 40 26), (0, u "COMPACT_STRINGS"), (1, .class_ 44), (1, u "java/lang/StringUTF16"), (0, u "compress"), (1, .methodref 42 48), (0, .nameAndType 49 50), (0, u "coderFromArrayLen"), (0, u "([BI)B"), (56, .class_ 109), (1, u "java/lang/StringLatin1"), (67, .methodref 42 178), (0, .nameAndType 45 179), (0, u "([CII)[B"), (361, .methodref 107 542), (0, .nameAndType 543 544), (0, u "equals"), (0, u "([B[B)Z"), (28, u "(Ljava/lang/Object;)Z"), (1, .class_ 576), (0, u "java/lang/CharSequence"), (22, u "CASE_INSENSITIVE_ORDER"), (0, u "Ljava/util/Comparator;"), (409, u "([C)V"), (90, u "serialPersistentFields"), (0, u "[Ljava/io/ObjectStreamField;"), (0, .class_ 1104), (0, u "java/lang/String$CaseInsensitiveComparator"), (1, .class_ 1107), (0, u "java/io/Serializable"), (0, .class_ 1109), (0, u "java/lang/Comparable"), (0, .class_ 1111), (0, u "java/lang/constant/Constable"), (0, .class_ 1113), (0, u "java/lang/constant/ConstantDesc"), (2, u "serialVersionUID"), (0, u "J"), (3, u "REPL"), (0, u "C"), (2, u "LATIN1"), (1, u "UTF16")] 323

def k9m0 : Method := { name := "<init>", desc := "()V", sig := { parameters := [], returnType := none }, accessFlags := 1, code := none }
def k9c1 : Code := { maxStack := 5, maxLocals := 2, code := jdk_42_method_3_code, exceptionTable := #[], attributes := #[] }
def k9m1 : Method := { name := "<init>", desc := "([C)V", sig := { parameters := [(.array .char)], returnType := none }, accessFlags := 1, code := some k9c1 }
def k9c2 : Code := { maxStack := 2, maxLocals := 3, code := jdk_42_method_66_code, exceptionTable := #[], attributes := #[] }
def k9m2 : Method := { name := "equals", desc := "(Ljava/lang/Object;)Z", sig := { parameters := [(.object "java/lang/Object")], returnType := some .boolean }, accessFlags := 1, code := some k9c2 }
def k9c3 : Code := { maxStack := 4, maxLocals := 6, code := jdk_42_method_149_code, exceptionTable := #[], attributes := #[] }
def k9m3 : Method := { name := "<init>", desc := "([CIILjava/lang/Void;)V", sig := { parameters := [(.array .char), .int, .int, (.object "java/lang/Void")], returnType := none }, accessFlags := 2, code := some k9c3 }
/-- java/lang/String -/
def k9 : Class := { plain "java/lang/String" (some 0) with
  accessFlags := 49
  interfaces := #[5, 3, 6, 7, 8]
  cf := some (fileOf pool9 10 #[.nestMembers #[1103]] #[{ accessFlags := 1, nameIndex := 5, descriptorIndex := 6, attributes := #[] }, { accessFlags := 1, nameIndex := 5, descriptorIndex := 1010, attributes := #[] }, { accessFlags := 1, nameIndex := 543, descriptorIndex := 573, attributes := #[] }, { accessFlags := 2, nameIndex := 5, descriptorIndex := 29, attributes := #[] }] 49 2 #[1106, 1108, 575, 1110, 1112] #[{ accessFlags := 18, nameIndex := 13, descriptorIndex := 14, attributes := #[] }, { accessFlags := 18, nameIndex := 17, descriptorIndex := 18, attributes := #[] }, { accessFlags := 2, nameIndex := 21, descriptorIndex := 22, attributes := #[] }, { accessFlags := 2, nameIndex := 25, descriptorIndex := 26, attributes := #[] }, { accessFlags := 26, nameIndex := 1116, descriptorIndex := 1117, attributes := #[] }, { accessFlags := 24, nameIndex := 40, descriptorIndex := 26, attributes := #[] }, { accessFlags := 26, nameIndex := 1101, descriptorIndex := 1102, attributes := #[] }, { accessFlags := 26, nameIndex := 1121, descriptorIndex := 1122, attributes := #[] }, { accessFlags := 25, nameIndex := 599, descriptorIndex := 600, attributes := #[] }, { accessFlags := 24, nameIndex := 1125, descriptorIndex := 18, attributes := #[] }, { accessFlags := 24, nameIndex := 1127, descriptorIndex := 18, attributes := #[] }])
  fields := #[{ name := "value", type := (.array .byte), accessFlags := 18, slot := 0, constantValue := 0 }, { name := "coder", type := .byte, accessFlags := 18, slot := 1, constantValue := 0 }, { name := "hash", type := .int, accessFlags := 2, slot := 2, constantValue := 0 }, { name := "hashIsZero", type := .boolean, accessFlags := 2, slot := 3, constantValue := 0 }, { name := "serialVersionUID", type := .long, accessFlags := 26, slot := 0, constantValue := 0 }, { name := "COMPACT_STRINGS", type := .boolean, accessFlags := 24, slot := 1, constantValue := 0 }, { name := "serialPersistentFields", type := (.array (.object "java/io/ObjectStreamField")), accessFlags := 26, slot := 2, constantValue := 0 }, { name := "REPL", type := .char, accessFlags := 26, slot := 3, constantValue := 0 }, { name := "CASE_INSENSITIVE_ORDER", type := (.object "java/util/Comparator"), accessFlags := 25, slot := 4, constantValue := 0 }, { name := "LATIN1", type := .byte, accessFlags := 24, slot := 5, constantValue := 0 }, { name := "UTF16", type := .byte, accessFlags := 24, slot := 6, constantValue := 0 }]
  methods := #[k9m0, k9m1, k9m2, k9m3]
  instanceTypes := #[(.array .byte), .byte, .int, .boolean]
  staticTypes := #[.long, .boolean, (.array (.object "java/io/ObjectStreamField")), .char, (.object "java/util/Comparator"), .byte, .byte]
  resolved := Array.replicate 1451 none
  statics := some 0 }

def pool10 : Array CpInfo := pool [(6, .class_ 8), (1, u "java/lang/Object"), (0, u "<init>"), (0, u "()V"), (1, .class_ 14), (1, u "java/lang/StringUTF16"), (31, u "$assertionsDisabled"), (0, u "Z"), (13, u "HI_BYTE_SHIFT"), (0, u "I"), (2, u "LO_BYTE_SHIFT"), (49, .methodref 12 116), (0, .nameAndType 117 118), (0, u "compress"), (0, u "([CI[BII)I"), (3, u "([CII)[B"), (138, u "coderFromArrayLen"), (0, u "([BI)B"), (106, .class_ 371), (1, u "java/lang/StringUTF16$LinesSpliterator"), (58, u "MAX_LENGTH"), (196, .class_ 628), (0, u "java/lang/StringUTF16$CodePointsSpliterator"), (0, .class_ 630), (0, u "java/lang/StringUTF16$CharsSpliterator")] 4

def k10m0 : Method := { name := "<init>", desc := "()V", sig := { parameters := [], returnType := none }, accessFlags := 0, code := none }
def k10c1 : Code := { maxStack := 2, maxLocals := 2, code := jdk_52_method_15_code, exceptionTable := #[], attributes := #[] }
def k10m1 : Method := { name := "coderFromArrayLen", desc := "([BI)B", sig := { parameters := [(.array .byte), .int], returnType := some .byte }, accessFlags := 8, code := some k10c1 }
def k10c2 : Code := { maxStack := 5, maxLocals := 6, code := jdk_52_method_16_code, exceptionTable := #[], attributes := #[] }
def k10m2 : Method := { name := "compress", desc := "([CII)[B", sig := { parameters := [(.array .char), .int, .int], returnType := some (.array .byte) }, accessFlags := 9, code := some k10c2 }
def k10c3 : Code := { maxStack := 3, maxLocals := 7, code := jdk_52_method_21_code, exceptionTable := #[], attributes := #[] }
def k10m3 : Method := { name := "compress", desc := "([CI[BII)I", sig := { parameters := [(.array .char), .int, (.array .byte), .int, .int], returnType := some .int }, accessFlags := 9, code := some k10c3 }
/-- java/lang/StringUTF16 -/
def k10 : Class := { plain "java/lang/StringUTF16" (some 0) with
  accessFlags := 48
  interfaces := #[]
  cf := some (fileOf pool10 12 #[.nestMembers #[627, 629, 369]] #[{ accessFlags := 0, nameIndex := 9, descriptorIndex := 10, attributes := #[] }, { accessFlags := 8, nameIndex := 261, descriptorIndex := 262, attributes := #[] }, { accessFlags := 9, nameIndex := 117, descriptorIndex := 122, attributes := #[] }, { accessFlags := 9, nameIndex := 117, descriptorIndex := 118, attributes := #[] }] 48 6 #[] #[{ accessFlags := 26, nameIndex := 61, descriptorIndex := 62, attributes := #[] }, { accessFlags := 26, nameIndex := 65, descriptorIndex := 62, attributes := #[] }, { accessFlags := 24, nameIndex := 430, descriptorIndex := 62, attributes := #[] }, { accessFlags := 4120, nameIndex := 46, descriptorIndex := 47, attributes := #[] }])
  fields := #[{ name := "HI_BYTE_SHIFT", type := .int, accessFlags := 26, slot := 0, constantValue := 0 }, { name := "LO_BYTE_SHIFT", type := .int, accessFlags := 26, slot := 1, constantValue := 0 }, { name := "MAX_LENGTH", type := .int, accessFlags := 24, slot := 2, constantValue := 0 }, { name := "$assertionsDisabled", type := .boolean, accessFlags := 4120, slot := 3, constantValue := 0 }]
  methods := #[k10m0, k10m1, k10m2, k10m3]
  instanceTypes := #[]
  staticTypes := #[.int, .int, .int, .boolean]
  resolved := Array.replicate 635 none
  statics := none }

def pool11 : Array CpInfo := pool [(2, .class_ 4), (1, u "java/lang/Object"), (0, u "<init>"), (0, u "()V"), (35, .class_ 44), (1, u "java/util/Objects"), (0, u "requireNonNull"), (48, u "(Ljava/lang/Object;Ljava/lang/String;)Ljava/lang/Object;")] 89

def k11m0 : Method := { name := "<init>", desc := "()V", sig := { parameters := [], returnType := none }, accessFlags := 2, code := none }
def k11c1 : Code := { maxStack := 3, maxLocals := 2, code := jdk_31_method_11_code, exceptionTable := #[], attributes := #[] }
def k11m1 : Method := { name := "requireNonNull", desc := "(Ljava/lang/Object;Ljava/lang/String;)Ljava/lang/Object;", sig := { parameters := [(.object "java/lang/Object"), (.object "java/lang/String")], returnType := some (.object "java/lang/Object") }, accessFlags := 9, code := some k11c1 }
/-- java/util/Objects -/
def k11 : Class := { plain "java/util/Objects" (some 0) with
  accessFlags := 49
  interfaces := #[]
  cf := some (fileOf pool11 42 #[] #[{ accessFlags := 2, nameIndex := 5, descriptorIndex := 6, attributes := #[] }, { accessFlags := 9, nameIndex := 45, descriptorIndex := 94, attributes := #[] }] 49 2 #[] #[])
  fields := #[]
  methods := #[k11m0, k11m1]
  instanceTypes := #[]
  staticTypes := #[]
  resolved := Array.replicate 184 none
  statics := none }

def pool12 : Array CpInfo := pool [(4, .class_ 6), (1, u "java/lang/Object"), (0, u "<init>"), (0, u "()V"), (5, .class_ 16), (1, u "java/lang/StringLatin1"), (104, u "$assertionsDisabled"), (0, u "Z"), (98, .class_ 223), (1, u "java/lang/StringLatin1$LinesSpliterator"), (57, u "equals"), (0, u "([B[B)Z"), (107, .class_ 391), (0, u "java/lang/StringLatin1$CharsSpliterator")] 3

def k12m0 : Method := { name := "<init>", desc := "()V", sig := { parameters := [], returnType := none }, accessFlags := 0, code := none }
def k12c1 : Code := { maxStack := 3, maxLocals := 3, code := jdk_43_method_13_code, exceptionTable := #[], attributes := #[] }
def k12m1 : Method := { name := "equals", desc := "([B[B)Z", sig := { parameters := [(.array .byte), (.array .byte)], returnType := some .boolean }, accessFlags := 9, code := some k12c1 }
/-- java/lang/StringLatin1 -/
def k12 : Class := { plain "java/lang/StringLatin1" (some 0) with
  accessFlags := 48
  interfaces := #[]
  cf := some (fileOf pool12 14 #[.nestMembers #[390, 221]] #[{ accessFlags := 0, nameIndex := 7, descriptorIndex := 8, attributes := #[] }, { accessFlags := 9, nameIndex := 281, descriptorIndex := 282, attributes := #[] }] 48 4 #[] #[{ accessFlags := 4120, nameIndex := 121, descriptorIndex := 122, attributes := #[] }])
  fields := #[{ name := "$assertionsDisabled", type := .boolean, accessFlags := 4120, slot := 0, constantValue := 0 }]
  methods := #[k12m0, k12m1]
  instanceTypes := #[]
  staticTypes := #[.boolean]
  resolved := Array.replicate 395 none
  statics := none }

def pool13 : Array CpInfo := pool [(2, .class_ 4), (1, u "java/lang/Object"), (0, u "<init>"), (0, u "()V"), (17, .class_ 26), (1, u "jdk/internal/util/Preconditions"), (28, .class_ 56), (0, u "jdk/internal/util/Preconditions$4"), (57, .class_ 115), (0, u "jdk/internal/util/Preconditions$1"), (7, u "SIOOBE_FORMATTER"), (0, u "Ljava/util/function/BiFunction;"), (0, .class_ 126), (0, u "jdk/internal/util/Preconditions$2"), (3, u "AIOOBE_FORMATTER"), (0, .class_ 132), (0, u "jdk/internal/util/Preconditions$3"), (3, u "IOOBE_FORMATTER")] 57

def k13m0 : Method := { name := "<init>", desc := "()V", sig := { parameters := [], returnType := none }, accessFlags := 1, code := none }
/-- jdk/internal/util/Preconditions -/
def k13 : Class := { plain "jdk/internal/util/Preconditions" (some 0) with
  accessFlags := 33
  interfaces := #[]
  cf := some (fileOf pool13 24 #[.nestMembers #[55, 131, 125, 114]] #[{ accessFlags := 1, nameIndex := 5, descriptorIndex := 6, attributes := #[] }] 33 2 #[] #[{ accessFlags := 25, nameIndex := 123, descriptorIndex := 124, attributes := #[] }, { accessFlags := 25, nameIndex := 130, descriptorIndex := 124, attributes := #[] }, { accessFlags := 25, nameIndex := 136, descriptorIndex := 124, attributes := #[] }])
  fields := #[{ name := "SIOOBE_FORMATTER", type := (.object "java/util/function/BiFunction"), accessFlags := 25, slot := 0, constantValue := 0 }, { name := "AIOOBE_FORMATTER", type := (.object "java/util/function/BiFunction"), accessFlags := 25, slot := 1, constantValue := 0 }, { name := "IOOBE_FORMATTER", type := (.object "java/util/function/BiFunction"), accessFlags := 25, slot := 2, constantValue := 0 }]
  methods := #[k13m0]
  instanceTypes := #[]
  staticTypes := #[(.object "java/util/function/BiFunction"), (.object "java/util/function/BiFunction"), (.object "java/util/function/BiFunction")]
  resolved := Array.replicate 194 none
  statics := some 1 }

def pool14 : Array CpInfo := pool [(9, u "<init>"), (6, .class_ 18), (1, u "java/lang/Object"), (0, u "()V"), (1, .class_ 23), (1, u "jdk/internal/util/ArraysSupport"), (0, u "LOG2_ARRAY_LONG_INDEX_SCALE"), (0, u "I"), (2, u "U"), (0, u "Ljdk/internal/misc/Unsafe;"), (8, u "BIG_ENDIAN"), (0, u "Z"), (8, u "LOG2_BYTE_BIT_SIZE"), (4, u "LOG2_ARRAY_INT_INDEX_SCALE"), (54, u "JLA"), (0, u "Ljdk/internal/access/JavaLangAccess;"), (11, u "LOG2_ARRAY_BOOLEAN_INDEX_SCALE"), (9, u "LOG2_ARRAY_BYTE_INDEX_SCALE"), (5, u "LOG2_ARRAY_CHAR_INDEX_SCALE"), (5, u "LOG2_ARRAY_SHORT_INDEX_SCALE"), (18, u "LOG2_ARRAY_FLOAT_INDEX_SCALE"), (24, u "LOG2_ARRAY_DOUBLE_INDEX_SCALE"), (89, u "T_BOOLEAN"), (2, u "T_CHAR"), (1, u "T_FLOAT"), (1, u "T_DOUBLE"), (1, u "T_BYTE"), (1, u "T_SHORT"), (1, u "T_INT"), (1, u "T_LONG"), (1, u "SOFT_MAX_ARRAY_LENGTH")] 83

def k14m0 : Method := { name := "<init>", desc := "()V", sig := { parameters := [], returnType := none }, accessFlags := 2, code := none }
/-- jdk/internal/util/ArraysSupport -/
def k14 : Class := { plain "jdk/internal/util/ArraysSupport" (some 0) with
  accessFlags := 33
  interfaces := #[]
  cf := some (fileOf pool14 21 #[] #[{ accessFlags := 2, nameIndex := 9, descriptorIndex := 19, attributes := #[] }] 33 16 #[] #[{ accessFlags := 24, nameIndex := 28, descriptorIndex := 29, attributes := #[] }, { accessFlags := 26, nameIndex := 38, descriptorIndex := 39, attributes := #[] }, { accessFlags := 25, nameIndex := 121, descriptorIndex := 25, attributes := #[] }, { accessFlags := 25, nameIndex := 131, descriptorIndex := 25, attributes := #[] }, { accessFlags := 25, nameIndex := 137, descriptorIndex := 25, attributes := #[] }, { accessFlags := 25, nameIndex := 143, descriptorIndex := 25, attributes := #[] }, { accessFlags := 25, nameIndex := 53, descriptorIndex := 25, attributes := #[] }, { accessFlags := 25, nameIndex := 24, descriptorIndex := 25, attributes := #[] }, { accessFlags := 25, nameIndex := 162, descriptorIndex := 25, attributes := #[] }, { accessFlags := 25, nameIndex := 187, descriptorIndex := 25, attributes := #[] }, { accessFlags := 26, nameIndex := 48, descriptorIndex := 25, attributes := #[] }, { accessFlags := 25, nameIndex := 277, descriptorIndex := 25, attributes := #[] }, { accessFlags := 25, nameIndex := 280, descriptorIndex := 25, attributes := #[] }, { accessFlags := 25, nameIndex := 282, descriptorIndex := 25, attributes := #[] }, { accessFlags := 25, nameIndex := 284, descriptorIndex := 25, attributes := #[] }, { accessFlags := 25, nameIndex := 286, descriptorIndex := 25, attributes := #[] }, { accessFlags := 25, nameIndex := 288, descriptorIndex := 25, attributes := #[] }, { accessFlags := 25, nameIndex := 290, descriptorIndex := 25, attributes := #[] }, { accessFlags := 25, nameIndex := 292, descriptorIndex := 25, attributes := #[] }, { accessFlags := 26, nameIndex := 108, descriptorIndex := 109, attributes := #[] }, { accessFlags := 25, nameIndex := 294, descriptorIndex := 25, attributes := #[] }])
  fields := #[{ name := "U", type := (.object "jdk/internal/misc/Unsafe"), accessFlags := 24, slot := 0, constantValue := 0 }, { name := "BIG_ENDIAN", type := .boolean, accessFlags := 26, slot := 1, constantValue := 0 }, { name := "LOG2_ARRAY_BOOLEAN_INDEX_SCALE", type := .int, accessFlags := 25, slot := 2, constantValue := 0 }, { name := "LOG2_ARRAY_BYTE_INDEX_SCALE", type := .int, accessFlags := 25, slot := 3, constantValue := 0 }, { name := "LOG2_ARRAY_CHAR_INDEX_SCALE", type := .int, accessFlags := 25, slot := 4, constantValue := 0 }, { name := "LOG2_ARRAY_SHORT_INDEX_SCALE", type := .int, accessFlags := 25, slot := 5, constantValue := 0 }, { name := "LOG2_ARRAY_INT_INDEX_SCALE", type := .int, accessFlags := 25, slot := 6, constantValue := 0 }, { name := "LOG2_ARRAY_LONG_INDEX_SCALE", type := .int, accessFlags := 25, slot := 7, constantValue := 0 }, { name := "LOG2_ARRAY_FLOAT_INDEX_SCALE", type := .int, accessFlags := 25, slot := 8, constantValue := 0 }, { name := "LOG2_ARRAY_DOUBLE_INDEX_SCALE", type := .int, accessFlags := 25, slot := 9, constantValue := 0 }, { name := "LOG2_BYTE_BIT_SIZE", type := .int, accessFlags := 26, slot := 10, constantValue := 0 }, { name := "T_BOOLEAN", type := .int, accessFlags := 25, slot := 11, constantValue := 0 }, { name := "T_CHAR", type := .int, accessFlags := 25, slot := 12, constantValue := 0 }, { name := "T_FLOAT", type := .int, accessFlags := 25, slot := 13, constantValue := 0 }, { name := "T_DOUBLE", type := .int, accessFlags := 25, slot := 14, constantValue := 0 }, { name := "T_BYTE", type := .int, accessFlags := 25, slot := 15, constantValue := 0 }, { name := "T_SHORT", type := .int, accessFlags := 25, slot := 16, constantValue := 0 }, { name := "T_INT", type := .int, accessFlags := 25, slot := 17, constantValue := 0 }, { name := "T_LONG", type := .int, accessFlags := 25, slot := 18, constantValue := 0 }, { name := "JLA", type := (.object "jdk/internal/access/JavaLangAccess"), accessFlags := 26, slot := 19, constantValue := 0 }, { name := "SOFT_MAX_ARRAY_LENGTH", type := .int, accessFlags := 25, slot := 20, constantValue := 0 }]
  methods := #[k14m0]
  instanceTypes := #[]
  staticTypes := #[(.object "jdk/internal/misc/Unsafe"), .boolean, .int, .int, .int, .int, .int, .int, .int, .int, .int, .int, .int, .int, .int, .int, .int, .int, .int, (.object "jdk/internal/access/JavaLangAccess"), .int]
  resolved := Array.replicate 378 none
  statics := none }

def pool15 : Array CpInfo := pool [(1, u "java/lang/Cloneable"), (0, .class_ 1), (0, u "java/lang/Object"), (0, .class_ 3)] 3

/-- java/lang/Cloneable -/
def k15 : Class := { plain "java/lang/Cloneable" (some 0) with
  accessFlags := 1537
  interfaces := #[]
  cf := some (fileOf pool15 2 #[] #[] 1537 4 #[] #[])
  fields := #[]
  methods := #[]
  instanceTypes := #[]
  staticTypes := #[]
  resolved := Array.replicate 8 none
  statics := none }

/-- the primitive byte -/
def k16 : Class := { plain "byte" none with kind := .primitive 'B', accessFlags := 0x411 }
/-- [B -/
def k17 : Class := { plain "[B" (some 0) with kind := .array 16 .byte, interfaces := #[15, 5], accessFlags := 1041 }

/-- the primitive char -/
def k18 : Class := { plain "char" none with kind := .primitive 'C', accessFlags := 0x411 }
/-- [C -/
def k19 : Class := { plain "[C" (some 0) with kind := .array 18 .char, interfaces := #[15, 5], accessFlags := 1041 }

/-- the primitive int -/
def k20 : Class := { plain "int" none with kind := .primitive 'I', accessFlags := 0x411 }
/-- [I -/
def k21 : Class := { plain "[I" (some 0) with kind := .array 20 .int, interfaces := #[15, 5], accessFlags := 1041 }

def heap : Heap := #[{ cls := 9, slots := #[.long 0, .int 1, .null, .int 0, .null, .int 0, .int 0], vm := .statics 9 },
  { cls := 13, slots := #[.null, .null, .null], vm := .statics 13 }]
def classes : Array Class := #[k0, k1, k2, k3, k4, k5, k6, k7, k8, k9, k10, k11, k12, k13, k14, k15, k16, k17, k18, k19, k20, k21]
def interned : List (Array UInt16 × Addr) := []
def slotsUsed : Nat := 10
def theMethod : MethodId := ⟨1, 3⟩
def args0 : Array Value := #[.int 5, .int 6, .int 7, .int 8, .int 9]
def aboutOver (below : List Frame) : State where
  vm := { classes := classes, interned := interned.toArray }
  heap := heap
  slotsUsed := slotsUsed
  threads := #[{ frames := .invoking theMethod args0 :: below }]
def below0 : List Frame := [.native { method := ⟨0, 0⟩, args := #[] }]
def about1 : State := aboutOver below0
def p0 : Program := .bare "" "" ""
def e0 : Env := launch0.env 0 0 0
theorem w_frames : about1.frames = Frame.invoking theMethod args0 :: below0 := rfl
set_option maxRecDepth 65536 in
theorem w_args : argsFit about1.vm theMethod args0 = true := by decide +kernel
set_option maxRecDepth 65536 in
theorem w_heap : heapFits about1 = true := by decide +kernel
set_option maxRecDepth 65536 in
theorem w_runnable : about1.curStatus? = some .runnable := by decide +kernel
set_option maxRecDepth 65536 in
theorem w_alone : about1.alone = true := by decide +kernel
set_option maxRecDepth 65536 in
theorem w_named : about1.methodNamed? x = some theMethod := by decide +kernel
set_option maxRecDepth 65536 in
theorem w_hears : about1.hears theMethod below0 = true := by decide +kernel
set_option maxRecDepth 65536 in
theorem w_ripe : about1.ripe theMethod args0 below0 = true := by decide +kernel
theorem w_running : about1.status = .running := rfl
set_option maxRecDepth 65536 in
theorem w_room : about1.hasRoom e0.platform room_1 = true :=
  launch0.hasRoom_least _ room_1 (by decide +kernel) (by decide +kernel) (by decide +kernel) (by decide +kernel) (by decide +kernel) (by decide +kernel)
theorem allAtoms_all (ts : List Jvm.Cond) (a : Array Jvm.Value) (st : Jvm.State) : (allAtoms ts).before a st = ts.all (fun c => c.before a st) := by
  induction ts with
  | nil => rfl
  | cons c t ih =>
    show (Jvm.Cond.and c (allAtoms t)).before a st = _
    rw [Jvm.Cond.before_and, ih, List.all_cons]
def words1 : List Jvm.Cond := Jvm.Cond.code x code maxLocals ret :: tables_1
/-- a 'code' word, met by the world's own term for the bytes: nothing is compared byte by byte -/
theorem code_word {y : MethodName} {bytes : ByteArray} {mx : Nat} {rt : Option FieldType} {a : Array Value} {s : State} {m : MethodId} {meth : Method} {c : Code} (h1 : s.methodNamed? y = some m) (h2 : s.vm.method? m = some meth) (h3 : meth.code = some c) (h4 : c.code = bytes)
    (h5 : (c.maxLocals == mx && c.exceptionTable.isEmpty && decide (c.maxStack ≤ mostOperands) && decide (meth.sig.returnType = rt) && !meth.locks && decide (parseMethodDescriptor y.desc = some meth.sig)) = true) : (Jvm.Cond.code y bytes mx rt).before a s = true := by
  simp only [Bool.and_eq_true, beq_iff_eq, Bool.not_eq_true', decide_eq_true_eq] at h5
  obtain ⟨⟨⟨⟨⟨g1, g2⟩, g3⟩, g4⟩, g5⟩, g6⟩ := h5
  simp [Cond.before, Cond.holds, Cond.value, h1, h2, h3, h4, g1, g2, g3, g4, g5, g6]
def isCode : Jvm.Cond → Bool
  | .code _ _ _ _ => true
  | _ => false
theorem all_split {L : List Jvm.Cond} {P : Jvm.Cond → Bool} (h1 : L.all (fun c => isCode c || P c) = true) (h2 : ∀ c ∈ L.filter isCode, P c = true) : L.all P = true := by
  refine List.all_eq_true.mpr fun c hc => ?_
  have h := List.all_eq_true.mp h1 c hc
  rcases Bool.eq_false_or_eq_true (isCode c) with hi | hi
  · exact h2 c (List.mem_filter.mpr ⟨hc, hi⟩)
  · simpa [hi] using h
set_option maxRecDepth 65536 in
theorem w_c0 : (Jvm.Cond.code x code maxLocals ret).before args0 about1 = true := code_word (m := ⟨1, 3⟩) (meth := k1m3) (c := k1c3) (by decide +kernel) rfl rfl rfl (by decide +kernel)
set_option maxRecDepth 65536 in
theorem w_c1 : (Jvm.Cond.code ({ cls := "dev/resolvent/model/StateKeyEqualsPinLaw", name := "str", desc := "(I)Ljava/lang/String;" } : Jvm.MethodName) method_2_code (5 : Nat) (Option.some (Jvm.ClassFile.FieldType.object "java/lang/String"))).before args0 about1 = true := code_word (m := ⟨1, 1⟩) (meth := k1m1) (c := k1c1) (by decide +kernel) rfl rfl rfl (by decide +kernel)
set_option maxRecDepth 65536 in
theorem w_c2 : (Jvm.Cond.code ({ cls := "java/lang/String", name := "<init>", desc := "([C)V" } : Jvm.MethodName) jdk_42_method_3_code (2 : Nat) (Option.none : Option Jvm.ClassFile.FieldType)).before args0 about1 = true := code_word (m := ⟨9, 1⟩) (meth := k9m1) (c := k9c1) (by decide +kernel) rfl rfl rfl (by decide +kernel)
set_option maxRecDepth 65536 in
theorem w_c3 : (Jvm.Cond.code ({ cls := "java/lang/String", name := "<init>", desc := "([CIILjava/lang/Void;)V" } : Jvm.MethodName) jdk_42_method_149_code (6 : Nat) (Option.none : Option Jvm.ClassFile.FieldType)).before args0 about1 = true := code_word (m := ⟨9, 3⟩) (meth := k9m3) (c := k9c3) (by decide +kernel) rfl rfl rfl (by decide +kernel)
set_option maxRecDepth 65536 in
theorem w_c4 : (Jvm.Cond.code ({ cls := "java/lang/Object", name := "<init>", desc := "()V" } : Jvm.MethodName) object_method_1_code (1 : Nat) (Option.none : Option Jvm.ClassFile.FieldType)).before args0 about1 = true := code_word (m := ⟨0, 0⟩) (meth := k0m0) (c := k0c0) (by decide +kernel) rfl rfl rfl (by decide +kernel)
set_option maxRecDepth 65536 in
theorem w_c5 : (Jvm.Cond.code ({ cls := "java/lang/StringUTF16", name := "compress", desc := "([CII)[B" } : Jvm.MethodName) jdk_52_method_16_code (6 : Nat) (Option.some (Jvm.ClassFile.FieldType.array Jvm.ClassFile.FieldType.byte))).before args0 about1 = true := code_word (m := ⟨10, 2⟩) (meth := k10m2) (c := k10c2) (by decide +kernel) rfl rfl rfl (by decide +kernel)
set_option maxRecDepth 65536 in
theorem w_c6 : (Jvm.Cond.code ({ cls := "java/lang/StringUTF16", name := "compress", desc := "([CI[BII)I" } : Jvm.MethodName) jdk_52_method_21_code (7 : Nat) (Option.some Jvm.ClassFile.FieldType.int)).before args0 about1 = true := code_word (m := ⟨10, 3⟩) (meth := k10m3) (c := k10c3) (by decide +kernel) rfl rfl rfl (by decide +kernel)
set_option maxRecDepth 65536 in
theorem w_c7 : (Jvm.Cond.code ({ cls := "java/lang/StringUTF16", name := "coderFromArrayLen", desc := "([BI)B" } : Jvm.MethodName) jdk_52_method_15_code (2 : Nat) (Option.some Jvm.ClassFile.FieldType.byte)).before args0 about1 = true := code_word (m := ⟨10, 1⟩) (meth := k10m1) (c := k10c1) (by decide +kernel) rfl rfl rfl (by decide +kernel)
set_option maxRecDepth 65536 in
theorem w_c8 : (Jvm.Cond.code ({ cls := "dev/resolvent/model/StateKey", name := "<init>", desc := "(Ljava/lang/String;Ljava/lang/String;)V" } : Jvm.MethodName) prog_23_method_1_code (3 : Nat) (Option.none : Option Jvm.ClassFile.FieldType)).before args0 about1 = true := code_word (m := ⟨4, 0⟩) (meth := k4m0) (c := k4c0) (by decide +kernel) rfl rfl rfl (by decide +kernel)
set_option maxRecDepth 65536 in
theorem w_c9 : (Jvm.Cond.code ({ cls := "java/lang/Record", name := "<init>", desc := "()V" } : Jvm.MethodName) jdk_30_method_1_code (1 : Nat) (Option.none : Option Jvm.ClassFile.FieldType)).before args0 about1 = true := code_word (m := ⟨2, 0⟩) (meth := k2m0) (c := k2c0) (by decide +kernel) rfl rfl rfl (by decide +kernel)
set_option maxRecDepth 65536 in
theorem w_c10 : (Jvm.Cond.code ({ cls := "java/util/Objects", name := "requireNonNull", desc := "(Ljava/lang/Object;Ljava/lang/String;)Ljava/lang/Object;" } : Jvm.MethodName) jdk_31_method_11_code (2 : Nat) (Option.some (Jvm.ClassFile.FieldType.object "java/lang/Object"))).before args0 about1 = true := code_word (m := ⟨11, 1⟩) (meth := k11m1) (c := k11c1) (by decide +kernel) rfl rfl rfl (by decide +kernel)
set_option maxRecDepth 65536 in
theorem w_c11 : (Jvm.Cond.code ({ cls := "dev/resolvent/model/StateKeyEqualsPinLaw", name := "sameCode", desc := "(II)Z" } : Jvm.MethodName) method_3_code (4 : Nat) (Option.some Jvm.ClassFile.FieldType.boolean)).before args0 about1 = true := code_word (m := ⟨1, 2⟩) (meth := k1m2) (c := k1c2) (by decide +kernel) rfl rfl rfl (by decide +kernel)
set_option maxRecDepth 65536 in
theorem w_c12 : (Jvm.Cond.code ({ cls := "dev/resolvent/model/StateKey", name := "equals", desc := "(Ljava/lang/Object;)Z" } : Jvm.MethodName) prog_23_method_2_code (3 : Nat) (Option.some Jvm.ClassFile.FieldType.boolean)).before args0 about1 = true := code_word (m := ⟨4, 1⟩) (meth := k4m1) (c := k4c1) (by decide +kernel) rfl rfl rfl (by decide +kernel)
set_option maxRecDepth 65536 in
theorem w_c13 : (Jvm.Cond.code ({ cls := "java/lang/String", name := "equals", desc := "(Ljava/lang/Object;)Z" } : Jvm.MethodName) jdk_42_method_66_code (3 : Nat) (Option.some Jvm.ClassFile.FieldType.boolean)).before args0 about1 = true := code_word (m := ⟨9, 2⟩) (meth := k9m2) (c := k9c2) (by decide +kernel) rfl rfl rfl (by decide +kernel)
set_option maxRecDepth 65536 in
theorem w_c14 : (Jvm.Cond.code ({ cls := "java/lang/StringLatin1", name := "equals", desc := "([B[B)Z" } : Jvm.MethodName) jdk_43_method_13_code (3 : Nat) (Option.some Jvm.ClassFile.FieldType.boolean)).before args0 about1 = true := code_word (m := ⟨12, 1⟩) (meth := k12m1) (c := k12c1) (by decide +kernel) rfl rfl rfl (by decide +kernel)
def codes1 : List Jvm.Cond := [Jvm.Cond.code x code maxLocals ret, Jvm.Cond.code ({ cls := "dev/resolvent/model/StateKeyEqualsPinLaw", name := "str", desc := "(I)Ljava/lang/String;" } : Jvm.MethodName) method_2_code (5 : Nat) (Option.some (Jvm.ClassFile.FieldType.object "java/lang/String")), Jvm.Cond.code ({ cls := "java/lang/String", name := "<init>", desc := "([C)V" } : Jvm.MethodName) jdk_42_method_3_code (2 : Nat) (Option.none : Option Jvm.ClassFile.FieldType), Jvm.Cond.code ({ cls := "java/lang/String", name := "<init>", desc := "([CIILjava/lang/Void;)V" } : Jvm.MethodName) jdk_42_method_149_code (6 : Nat) (Option.none : Option Jvm.ClassFile.FieldType), Jvm.Cond.code ({ cls := "java/lang/Object", name := "<init>", desc := "()V" } : Jvm.MethodName) object_method_1_code (1 : Nat) (Option.none : Option Jvm.ClassFile.FieldType), Jvm.Cond.code ({ cls := "java/lang/StringUTF16", name := "compress", desc := "([CII)[B" } : Jvm.MethodName) jdk_52_method_16_code (6 : Nat) (Option.some (Jvm.ClassFile.FieldType.array Jvm.ClassFile.FieldType.byte)), Jvm.Cond.code ({ cls := "java/lang/StringUTF16", name := "compress", desc := "([CI[BII)I" } : Jvm.MethodName) jdk_52_method_21_code (7 : Nat) (Option.some Jvm.ClassFile.FieldType.int), Jvm.Cond.code ({ cls := "java/lang/StringUTF16", name := "coderFromArrayLen", desc := "([BI)B" } : Jvm.MethodName) jdk_52_method_15_code (2 : Nat) (Option.some Jvm.ClassFile.FieldType.byte), Jvm.Cond.code ({ cls := "dev/resolvent/model/StateKey", name := "<init>", desc := "(Ljava/lang/String;Ljava/lang/String;)V" } : Jvm.MethodName) prog_23_method_1_code (3 : Nat) (Option.none : Option Jvm.ClassFile.FieldType), Jvm.Cond.code ({ cls := "java/lang/Record", name := "<init>", desc := "()V" } : Jvm.MethodName) jdk_30_method_1_code (1 : Nat) (Option.none : Option Jvm.ClassFile.FieldType), Jvm.Cond.code ({ cls := "java/util/Objects", name := "requireNonNull", desc := "(Ljava/lang/Object;Ljava/lang/String;)Ljava/lang/Object;" } : Jvm.MethodName) jdk_31_method_11_code (2 : Nat) (Option.some (Jvm.ClassFile.FieldType.object "java/lang/Object")), Jvm.Cond.code ({ cls := "dev/resolvent/model/StateKeyEqualsPinLaw", name := "sameCode", desc := "(II)Z" } : Jvm.MethodName) method_3_code (4 : Nat) (Option.some Jvm.ClassFile.FieldType.boolean), Jvm.Cond.code ({ cls := "dev/resolvent/model/StateKey", name := "equals", desc := "(Ljava/lang/Object;)Z" } : Jvm.MethodName) prog_23_method_2_code (3 : Nat) (Option.some Jvm.ClassFile.FieldType.boolean), Jvm.Cond.code ({ cls := "java/lang/String", name := "equals", desc := "(Ljava/lang/Object;)Z" } : Jvm.MethodName) jdk_42_method_66_code (3 : Nat) (Option.some Jvm.ClassFile.FieldType.boolean), Jvm.Cond.code ({ cls := "java/lang/StringLatin1", name := "equals", desc := "([B[B)Z" } : Jvm.MethodName) jdk_43_method_13_code (3 : Nat) (Option.some Jvm.ClassFile.FieldType.boolean)]
set_option maxRecDepth 65536 in
theorem codes_eq : words1.filter isCode = codes1 := rfl
theorem w_codes : ∀ c ∈ words1.filter isCode, c.before args0 about1 = true := by
  rw [codes_eq]
  intro c hc
  simp only [codes1, List.mem_cons, List.not_mem_nil, or_false] at hc
  rcases hc with rfl | rfl | rfl | rfl | rfl | rfl | rfl | rfl | rfl | rfl | rfl | rfl | rfl | rfl | rfl
  · exact w_c0
  · exact w_c1
  · exact w_c2
  · exact w_c3
  · exact w_c4
  · exact w_c5
  · exact w_c6
  · exact w_c7
  · exact w_c8
  · exact w_c9
  · exact w_c10
  · exact w_c11
  · exact w_c12
  · exact w_c13
  · exact w_c14
set_option maxRecDepth 65536 in
theorem w_t1 : (words1.take 24).all (fun c => isCode c || c.before args0 about1) = true := by decide +kernel
set_option maxRecDepth 65536 in
theorem w_t2 : ((words1.drop 24).take 24).all (fun c => isCode c || c.before args0 about1) = true := by decide +kernel
set_option maxRecDepth 65536 in
theorem w_t3 : (((words1.drop 24).drop 24).take 24).all (fun c => isCode c || c.before args0 about1) = true := by decide +kernel
set_option maxRecDepth 65536 in
theorem w_t4 : (((words1.drop 24).drop 24).drop 24).all (fun c => isCode c || c.before args0 about1) = true := by decide +kernel
theorem w_tables : (allAtoms (Jvm.Cond.code x code maxLocals ret :: tables_1)).before args0 about1 = true := by
  rw [allAtoms_all]
  show words1.all (fun c => c.before args0 about1) = true
  refine all_split ?_ w_codes
  rw [← List.take_append_drop 24 words1, List.all_append, w_t1, ← List.take_append_drop 24 (words1.drop 24), List.all_append, w_t2, ← List.take_append_drop 24 ((words1.drop 24).drop 24), List.all_append, w_t3, w_t4]
  rfl
set_option maxRecDepth 65536 in
theorem w_rest : rest_1_c.before args0 about1 = true := by decide +kernel
set_option maxRecDepth 65536 in
theorem w_case : (Jvm.Cond.and given_1 narrow_1).before args0 about1 = true := by decide +kernel
set_option maxRecDepth 65536 in
theorem w_consts : constsHeld consts_1 about1 := Jvm.Lit.constsHeldB_iff.mp (by decide +kernel)
theorem w_applies : (headSpec (Jvm.Cond.code x code maxLocals ret :: tables_1) room_1).applies x e0.platform about1 = true :=
  (Spec.applies_iff w_frames).mpr ⟨w_running, w_runnable, w_alone, w_named, w_hears, w_ripe, w_room, w_tables⟩
theorem atStart : AtStart classFile x code maxLocals ret World_1 tables_1 room_1 Calls_1 rest_1 Pre_1 launch0 p0 e0 about1 theMethod args0 below0 :=
  ⟨lists_1, trivial, launch0.admits_env _ _ _, launch0.least_env, fairChoices_fair.cas, fairChoices_fair.clock, w_frames, w_args, w_heap, w_applies, ⟨w_consts, trivial⟩, w_rest, w_case⟩
end start1
theorem witness_1 : WitnessClaimed_1 := ⟨start1.p0, start1.e0, start1.about1, start1.theMethod, start1.args0, start1.below0, start1.atStart⟩
end Jvm.Pilot.@@N@@
