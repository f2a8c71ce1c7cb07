import JvmDerived
import JvmDerived.Pilot.@@N@@Statement
import JvmDerived.Pilot.@@N@@Code
set_option linter.unusedVariables false
set_option linter.unusedSimpArgs false
namespace Jvm.RoadKit
open Sem ClassFile Op Lib Jvm.Stand Jvm.Free Jvm.LawKit
section Own
variable {p : Program} {l : Launch} {e : Env} {R : Room} {s : State} {m : MethodId} {args : Array Value} {below : List Frame} {meth : Method} {c : Code} {T T1 : State} {locs : List Loc} {cells slots cs ss : Nat} {Q : Option Value → Heap → List Loc → Prop} {g g1 : JFrame}
/-- from the frame g over T the body comes to its end, and what it leaves is as Q says -/
def own_Goes (p : Program) (e : Env) (below : List Frame) (s : State) (Q : Option Value → Heap → List Loc → Prop) (cs ss : Nat) (T : State) (g : JFrame) : Prop :=
  ∃ s₂ o, Steps p.tables e below (T.setTop g) s₂ ∧ s₂.status = .running ∧ Ended s₂ below o ∧ ∃ v L, o = .returned v ∧ Q v s₂.heap L ∧ FrameEnd s o s₂ L cs ss
theorem own_go (st : ∀ target, Steps p.tables e below (T1.setTop g1) target → Steps p.tables e below (T.setTop g) target) (k : own_Goes p e below s Q cs ss T1 g1) : own_Goes p e below s Q cs ss T g := by
  obtain ⟨s₂, o, h, r⟩ := k
  exact ⟨s₂, o, st _ h, r⟩
theorem own_goS (st : Steps p.tables e below (T.setTop g) (T1.setTop g1)) (k : own_Goes p e below s Q cs ss T1 g1) : own_Goes p e below s Q cs ss T g := own_go (fun _ h => st.trans h) k
/-- the ends -/
theorem own_retN (X : Stand p l e R s m args below meth c T locs cells slots) (hx : p.tables.exec = Jvm.exec) {pc : Nat} {Ls : Array Slot} {z : Int32} {t : FieldType} {rest : List Value} (hlk : meth.locks = false) (hret : meth.sig.returnType = some t) (ht : t = .boolean ∨ t = .byte ∨ t = .char ∨ t = .short)
    (hd : decode c.code pc = .ok (.ireturn, 1)) (hc : cells ≤ cs) (hs : slots ≤ ss) (hQ : Q (some (.int (nar t z))) T.heap locs) : own_Goes p e below s Q cs ss T (mkF m pc Ls (.int z :: rest)) := by
  obtain ⟨fs, hr, hrun, hended, hW, hsame⟩ := X.leave (v := some (.int (nar t z))) (fun h => by rw [hret] at h; cases h) hlk
  exact ⟨_, _, retN X hx hret ht hd hr, hrun, hended, _, _, rfl, hQ, ⟨_, rfl⟩, hW, hsame.mono hc hs⟩
theorem own_ret (X : Stand p l e R s m args below meth c T locs cells slots) (hx : p.tables.exec = Jvm.exec) {pc : Nat} {Ls : Array Slot} {w : Value} {t : FieldType} {i : Instr} {rest : List Value} (hlk : meth.locks = false) (hret : meth.sig.returnType = some t) (hn : narrow t w = w)
    (hi : (i = .ireturn ∧ (t = .int ∨ t = .boolean ∨ t = .byte ∨ t = .char ∨ t = .short) ∧ ∃ z, w = .int z) ∨ (i = .lreturn ∧ t = .long ∧ ∃ z, w = .long z) ∨ (i = .dreturn ∧ t = .double ∧ ∃ z, w = .double z) ∨ (i = .freturn ∧ t = .float ∧ ∃ z, w = .float z) ∨ (i = .areturn ∧ t.isReference = true ∧ w.isRef = true))
    (hd : decode c.code pc = .ok (i, 1)) (hc : cells ≤ cs) (hs : slots ≤ ss) (hQ : Q (some w) T.heap locs) : own_Goes p e below s Q cs ss T (mkF m pc Ls (w :: rest)) := by
  obtain ⟨fs, hr, hrun, hended, hW, hsame⟩ := X.leave (v := some w) (fun h => by rw [hret] at h; cases h) hlk
  exact ⟨_, _, retOut X hx hret hn hi hd hr, hrun, hended, _, _, rfl, hQ, ⟨_, rfl⟩, hW, hsame.mono hc hs⟩
theorem own_retI (X : Stand p l e R s m args below meth c T locs cells slots) (hx : p.tables.exec = Jvm.exec) {pc : Nat} {Ls : Array Slot} {z : Int32} {rest : List Value} (hlk : meth.locks = false) (hret : meth.sig.returnType = some .int)
    (hd : decode c.code pc = .ok (.ireturn, 1)) (hc : cells ≤ cs) (hs : slots ≤ ss) (hQ : Q (some (.int z)) T.heap locs) : own_Goes p e below s Q cs ss T (mkF m pc Ls (.int z :: rest)) :=
  own_ret X hx hlk hret rfl (Or.inl ⟨rfl, Or.inl rfl, _, rfl⟩) hd hc hs hQ
theorem own_retA (X : Stand p l e R s m args below meth c T locs cells slots) (hx : p.tables.exec = Jvm.exec) {pc : Nat} {Ls : Array Slot} {w : Value} {t : FieldType} {rest : List Value} (hlk : meth.locks = false) (hret : meth.sig.returnType = some t) (ht : t.isReference = true) (hw : w.isRef = true)
    (hd : decode c.code pc = .ok (.areturn, 1)) (hc : cells ≤ cs) (hs : slots ≤ ss) (hQ : Q (some w) T.heap locs) : own_Goes p e below s Q cs ss T (mkF m pc Ls (w :: rest)) :=
  own_ret X hx hlk hret (by rcases ref_cases hw with rfl | ⟨a, rfl⟩ <;> cases t <;> simp [FieldType.isReference] at ht <;> rfl) (Or.inr (Or.inr (Or.inr (Or.inr ⟨rfl, ht, hw⟩)))) hd hc hs hQ
theorem own_retV (X : Stand p l e R s m args below meth c T locs cells slots) (hx : p.tables.exec = Jvm.exec) {pc : Nat} {Ls : Array Slot} (hlk : meth.locks = false) (hret : meth.sig.returnType = none)
    (hd : decode c.code pc = .ok (.return_, 1)) (hc : cells ≤ cs) (hs : slots ≤ ss) (hQ : Q none T.heap locs) : own_Goes p e below s Q cs ss T (mkF m pc Ls []) := by
  obtain ⟨fs, hr, hrun, hended, hW, hsame⟩ := X.leave (v := none) (fun _ => rfl) hlk
  exact ⟨_, _, X.returnOut hx hret hd hr, hrun, hended, _, _, rfl, hQ, ⟨_, rfl⟩, hW, hsame.mono hc hs⟩
/-- what holds throughout a body's walk -/
def own_Ctx (Z : State) (y : MethodName) (own : String) (bytes : ByteArray) (maxL : Nat) (ret : Option FieldType) (p : Program) (s : State) (m : MethodId) (meth : Method) (c : Code) : Prop :=
  p.tables.exec = Jvm.exec ∧ c.code = bytes ∧ c.maxLocals = maxL ∧ s.vm.findClass own = some m.cls ∧ meth.name = y.name ∧ meth.sig.returnType = ret ∧ meth.locks = false ∧ Z.Warmed39 s.vm
theorem own_met {Z : State} {y : MethodName} {own : String} {bytes : ByteArray} {maxL : Nat} {ret : Option FieldType} {ws : List Cond} {rm : Room} {as' : Array Value} {h0 : Heap} (hy : y.cls = own) (hpn : plainName own = true)
    (body : ∀ (p : Program) (e : Env) (s : State) (m : MethodId) (below : List Frame) (meth : Method) (c : Code) (s₁ : State), own_Ctx Z y own bytes maxL ret p s m meth c → s₁.heap = h0 → Stand p l e rm s m as' below meth c s₁ [] 0 0 → own_Goes p e below s Q cs ss s₁ (entryFrame m as' maxL)) :
    MetFree l y (head1 (Cond.code y bytes maxL ret :: ws) rm) (fun a U => a = as' ∧ Z.Warmed39 U.vm ∧ U.heap = h0) (fun _ _ _ _ _ => True) (fun _ U o U' => ∃ v L, o = .returned v ∧ Q v U'.heap L ∧ FrameEnd U o U' L cs ss) := by
  subst hy
  refine MetFree.of_bodySF (plainFor_of_name hpn) hisR ?_
  intro p e s m args below meth c s₁ Bd hml0 hP hK
  obtain ⟨rfl, hZ, hh⟩ := hP
  exact body p e s m below meth c s₁ ⟨Bd.exec, Bd.bytes, hml0, findClass_of_methodNamed Bd.named, (name_of_methodNamed Bd.named Bd.method).1, Bd.returns, Bd.notSynchronized, hZ⟩ (by rw [← hh, Bd.state]; rfl) (Stand.of_body Bd)
end Own
end Jvm.RoadKit
namespace Jvm.Pilot.@@N@@
open Jvm Jvm.ClassFile Sem Op Lib Jvm.Free Jvm.Stand Jvm.LawKit Jvm.RoadKit Bundle Jvm.Pilot.@@N@@.Jvm.D
def own_pick (p1 p2 : Int32) (q3 : Int64) (p5 : Int32) : Int32 := if (((p1.toUInt32 >>> (p2 &&& 31).toUInt32).toInt32) &&& (1 : Int32)) = (0 : Int32) then ((((q3.toUInt64 >>> (((8 : Int32) * p2) &&& 0x3f).toInt64.toUInt64).toInt64).toInt32).toInt8.toInt32) else p5
def own_eq (x0 x1 x2 x3 : Int32) : Int32 := if x0 = 109 then if x1 = 109 then if x2 = 105 then if x3 = 46 then 1 else 0 else 0 else 0 else 0
def own_mm (x0 x1 x2 x3 : Int32) : Int32 := if x0 = 109 then if x1 = 109 then if x2 = 105 then if x3 = 46 then -1 else 3 else 2 else 1 else 0
theorem own_eq_mm (x0 x1 x2 x3 : Int32) : own_eq x0 x1 x2 x3 = if own_mm x0 x1 x2 x3 < 0 then 1 else 0 := by
  unfold own_eq own_mm; (repeat' split) <;> first | rfl | (exact absurd ‹_› (by decide)) | simp_all
theorem own_eq01 (x0 x1 x2 x3 : Int32) : own_eq x0 x1 x2 x3 = 0 ∨ own_eq x0 x1 x2 x3 = 1 := by
  unfold own_eq; (repeat' split) <;> simp
theorem own_in {n : Nat} {z k : Int32} (S : n = z.toNatClampNeg) (hz : ¬ z < 0) (h4 : ¬ z < 4) (h0 : ¬ k < 0) (hk : k < 4) : ¬ (k < 0 ∨ n ≤ k.toNatClampNeg) := by
  simp only [Int32.lt_iff_toInt_lt, Int32.toNatClampNeg, Int32.reduceToInt] at *
  omega
theorem own_rem (p : Int32) : ((p &&& (2147483647 : Int32)) % (7 : Int32)) = (0 : Int32) ∨ ((p &&& (2147483647 : Int32)) % (7 : Int32)) = (1 : Int32) ∨ ((p &&& (2147483647 : Int32)) % (7 : Int32)) = (2 : Int32) ∨ ((p &&& (2147483647 : Int32)) % (7 : Int32)) = (3 : Int32) ∨ ((p &&& (2147483647 : Int32)) % (7 : Int32)) = (4 : Int32) ∨ ((p &&& (2147483647 : Int32)) % (7 : Int32)) = (5 : Int32) ∨ ((p &&& (2147483647 : Int32)) % (7 : Int32)) = (6 : Int32) := by
  have h1 : (p &&& (2147483647 : Int32)).toInt = p.toInt % (2 ^ 31 : Nat) := c_mask p _ 31 (by decide) (by decide)
  have h2 := (c_irem (p &&& (2147483647 : Int32)) (7 : Int32) 7 rfl).1 (by omega)
  have h3 : ∀ k : Int32, ((p &&& (2147483647 : Int32)) % (7 : Int32)).toInt = k.toInt → ((p &&& (2147483647 : Int32)) % (7 : Int32)) = k := fun k h => Int32.toInt_inj.mp h
  have h4 : ((p &&& (2147483647 : Int32)) % (7 : Int32)).toInt = 0 ∨ ((p &&& (2147483647 : Int32)) % (7 : Int32)).toInt = 1 ∨ ((p &&& (2147483647 : Int32)) % (7 : Int32)).toInt = 2 ∨ ((p &&& (2147483647 : Int32)) % (7 : Int32)).toInt = 3 ∨ ((p &&& (2147483647 : Int32)) % (7 : Int32)).toInt = 4 ∨ ((p &&& (2147483647 : Int32)) % (7 : Int32)).toInt = 5 ∨ ((p &&& (2147483647 : Int32)) % (7 : Int32)).toInt = 6 := by omega
  rcases h4 with h | h | h | h | h | h | h
  · exact Or.inl (h3 (0 : Int32) h)
  · exact Or.inr (Or.inl (h3 (1 : Int32) h))
  · exact Or.inr (Or.inr (Or.inl (h3 (2 : Int32) h)))
  · exact Or.inr (Or.inr (Or.inr (Or.inl (h3 (3 : Int32) h))))
  · exact Or.inr (Or.inr (Or.inr (Or.inr (Or.inl (h3 (4 : Int32) h)))))
  · exact Or.inr (Or.inr (Or.inr (Or.inr (Or.inr (Or.inl (h3 (5 : Int32) h))))))
  · exact Or.inr (Or.inr (Or.inr (Or.inr (Or.inr (Or.inr ((h3 (6 : Int32) h)))))))
theorem own_len {args : Array Value} {s : State} {t : Term} {a : Addr} {cl : Cell} {ty : FieldType} {k : Int32} {n : Nat} (ev : t.eval args s none [] s = some (.ref a)) (A : Arr s s.heap a cl ty) (h : (Jvm.Cond.eq (Term.length t) (Term.int k)).value args s none s [] = some true) (hk : k.toInt = n) : cl.slots.size = n := by
  obtain ⟨x, y, h1, h2, -, -⟩ := cmp_v (Or.inl h)
  have ha := A.fin (Vm.Alike.refl _)
  simp only [Term.eval, ev, ha, Option.bind_eq_bind, Option.bind_some, Option.pure_def] at h1
  split at h1
  · rename_i hlt
    cases h1
    simp only [Term.eval] at h2
    cases h2
    have q : cl.slots.size.toInt32 = k := by
      simp only [Jvm.Cond.value, Term.eval, ev, ha, Option.bind_eq_bind, Option.bind_some, Option.pure_def, hlt] at h
      simpa using h
    have r := congrArg Int32.toInt q
    rw [len_toInt (by omega), hk] at r
    omega
  · cases h1
theorem own_elemI {args : Array Value} {s : State} {t : Term} {a : Addr} {cl : Cell} {ty : FieldType} {k x : Int32} (ev : t.eval args s none [] s = some (.ref a)) (A : Arr s s.heap a cl ty) (h : (Jvm.Cond.eq (Term.elem t (Term.int k)) (Term.int x)).value args s none s [] = some true) : cl.slots[k.toNatClampNeg]? = some (.int x) := by
  obtain ⟨y, z, h1, h2, -, -⟩ := cmp_v (Or.inl h)
  have q := (elem_in h1 ev (Term.int_eval k) A.1).2
  have e2 : z = .int x := Option.some.inj (h2.symm.trans (Term.int_eval x))
  subst e2
  simp only [Jvm.Cond.value, h1, h2] at h
  cases y <;> simp at h
  subst h; exact q
theorem d1_0 : decode prog_11_method_5_code 0 = .ok (.aload_n 0, 1) := by decide +kernel
theorem d1_1 : decode prog_11_method_5_code 1 = .ok (.arraylength, 1) := by decide +kernel
theorem d1_2 : decode prog_11_method_5_code 2 = .ok (.getstatic 44, 3) := by decide +kernel
theorem d1_5 : decode prog_11_method_5_code 5 = .ok (.arraylength, 1) := by decide +kernel
theorem d1_6 : decode prog_11_method_5_code 6 = .ok (.if_icmp .lt 27, 3) := by decide +kernel
theorem d1_9 : decode prog_11_method_5_code 9 = .ok (.aload_n 0, 1) := by decide +kernel
theorem d1_10 : decode prog_11_method_5_code 10 = .ok (.iconst 0, 1) := by decide +kernel
theorem d1_11 : decode prog_11_method_5_code 11 = .ok (.getstatic 44, 3) := by decide +kernel
theorem d1_14 : decode prog_11_method_5_code 14 = .ok (.arraylength, 1) := by decide +kernel
theorem d1_15 : decode prog_11_method_5_code 15 = .ok (.getstatic 44, 3) := by decide +kernel
theorem d1_18 : decode prog_11_method_5_code 18 = .ok (.iconst 0, 1) := by decide +kernel
theorem d1_19 : decode prog_11_method_5_code 19 = .ok (.getstatic 44, 3) := by decide +kernel
theorem d1_22 : decode prog_11_method_5_code 22 = .ok (.arraylength, 1) := by decide +kernel
theorem d1_23 : decode prog_11_method_5_code 23 = .ok (.invokestatic 47, 3) := by decide +kernel
theorem d1_26 : decode prog_11_method_5_code 26 = .ok (.ifCond .eq 7, 3) := by decide +kernel
theorem d1_29 : decode prog_11_method_5_code 29 = .ok (.iconst 1, 1) := by decide +kernel
theorem d1_30 : decode prog_11_method_5_code 30 = .ok (.goto 4, 3) := by decide +kernel
theorem d1_33 : decode prog_11_method_5_code 33 = .ok (.iconst 0, 1) := by decide +kernel
theorem d1_34 : decode prog_11_method_5_code 34 = .ok (.ireturn, 1) := by decide +kernel
theorem d2_0 : decode method_3_code 0 = .ok (.iload_n 0, 1) := by decide +kernel
theorem d2_1 : decode method_3_code 1 = .ok (.iload_n 1, 1) := by decide +kernel
theorem d2_2 : decode method_3_code 2 = .ok (.iushr, 1) := by decide +kernel
theorem d2_3 : decode method_3_code 3 = .ok (.iconst 1, 1) := by decide +kernel
theorem d2_4 : decode method_3_code 4 = .ok (.iand, 1) := by decide +kernel
theorem d2_5 : decode method_3_code 5 = .ok (.ifCond .eq 6, 3) := by decide +kernel
theorem d2_8 : decode method_3_code 8 = .ok (.iload 4, 2) := by decide +kernel
theorem d2_10 : decode method_3_code 10 = .ok (.ireturn, 1) := by decide +kernel
theorem d2_11 : decode method_3_code 11 = .ok (.lload_n 2, 1) := by decide +kernel
theorem d2_12 : decode method_3_code 12 = .ok (.bipush 8, 2) := by decide +kernel
theorem d2_14 : decode method_3_code 14 = .ok (.iload_n 1, 1) := by decide +kernel
theorem d2_15 : decode method_3_code 15 = .ok (.imul, 1) := by decide +kernel
theorem d2_16 : decode method_3_code 16 = .ok (.lushr, 1) := by decide +kernel
theorem d2_17 : decode method_3_code 17 = .ok (.l2i, 1) := by decide +kernel
theorem d2_18 : decode method_3_code 18 = .ok (.i2b, 1) := by decide +kernel
theorem d2_19 : decode method_3_code 19 = .ok (.ireturn, 1) := by decide +kernel
theorem d3_0 : decode jdk_65_method_90_code 0 = .ok (.aload_n 0, 1) := by decide +kernel
theorem d3_1 : decode jdk_65_method_90_code 1 = .ok (.arraylength, 1) := by decide +kernel
theorem d3_2 : decode jdk_65_method_90_code 2 = .ok (.iload_n 1, 1) := by decide +kernel
theorem d3_3 : decode jdk_65_method_90_code 3 = .ok (.iload_n 2, 1) := by decide +kernel
theorem d3_4 : decode jdk_65_method_90_code 4 = .ok (.invokestatic 13, 3) := by decide +kernel
theorem d3_7 : decode jdk_65_method_90_code 7 = .ok (.aload_n 3, 1) := by decide +kernel
theorem d3_8 : decode jdk_65_method_90_code 8 = .ok (.arraylength, 1) := by decide +kernel
theorem d3_9 : decode jdk_65_method_90_code 9 = .ok (.iload 4, 2) := by decide +kernel
theorem d3_11 : decode jdk_65_method_90_code 11 = .ok (.iload 5, 2) := by decide +kernel
theorem d3_13 : decode jdk_65_method_90_code 13 = .ok (.invokestatic 13, 3) := by decide +kernel
theorem d3_16 : decode jdk_65_method_90_code 16 = .ok (.iload_n 2, 1) := by decide +kernel
theorem d3_17 : decode jdk_65_method_90_code 17 = .ok (.iload_n 1, 1) := by decide +kernel
theorem d3_18 : decode jdk_65_method_90_code 18 = .ok (.isub, 1) := by decide +kernel
theorem d3_19 : decode jdk_65_method_90_code 19 = .ok (.istore 6, 2) := by decide +kernel
theorem d3_21 : decode jdk_65_method_90_code 21 = .ok (.iload 5, 2) := by decide +kernel
theorem d3_23 : decode jdk_65_method_90_code 23 = .ok (.iload 4, 2) := by decide +kernel
theorem d3_25 : decode jdk_65_method_90_code 25 = .ok (.isub, 1) := by decide +kernel
theorem d3_26 : decode jdk_65_method_90_code 26 = .ok (.istore 7, 2) := by decide +kernel
theorem d3_28 : decode jdk_65_method_90_code 28 = .ok (.iload 6, 2) := by decide +kernel
theorem d3_30 : decode jdk_65_method_90_code 30 = .ok (.iload 7, 2) := by decide +kernel
theorem d3_32 : decode jdk_65_method_90_code 32 = .ok (.if_icmp .eq 5, 3) := by decide +kernel
theorem d3_37 : decode jdk_65_method_90_code 37 = .ok (.aload_n 0, 1) := by decide +kernel
theorem d3_38 : decode jdk_65_method_90_code 38 = .ok (.iload_n 1, 1) := by decide +kernel
theorem d3_39 : decode jdk_65_method_90_code 39 = .ok (.aload_n 3, 1) := by decide +kernel
theorem d3_40 : decode jdk_65_method_90_code 40 = .ok (.iload 4, 2) := by decide +kernel
theorem d3_42 : decode jdk_65_method_90_code 42 = .ok (.iload 6, 2) := by decide +kernel
theorem d3_44 : decode jdk_65_method_90_code 44 = .ok (.invokestatic 275, 3) := by decide +kernel
theorem d3_47 : decode jdk_65_method_90_code 47 = .ok (.ifCond .ge 7, 3) := by decide +kernel
theorem d3_50 : decode jdk_65_method_90_code 50 = .ok (.iconst 1, 1) := by decide +kernel
theorem d3_51 : decode jdk_65_method_90_code 51 = .ok (.goto 4, 3) := by decide +kernel
theorem d3_54 : decode jdk_65_method_90_code 54 = .ok (.iconst 0, 1) := by decide +kernel
theorem d3_55 : decode jdk_65_method_90_code 55 = .ok (.ireturn, 1) := by decide +kernel
theorem d4_0 : decode jdk_65_method_30_code 0 = .ok (.iload_n 1, 1) := by decide +kernel
theorem d4_1 : decode jdk_65_method_30_code 1 = .ok (.iload_n 2, 1) := by decide +kernel
theorem d4_2 : decode jdk_65_method_30_code 2 = .ok (.if_icmp .le 44, 3) := by decide +kernel
theorem d4_46 : decode jdk_65_method_30_code 46 = .ok (.iload_n 1, 1) := by decide +kernel
theorem d4_47 : decode jdk_65_method_30_code 47 = .ok (.ifCond .ge 12, 3) := by decide +kernel
theorem d4_59 : decode jdk_65_method_30_code 59 = .ok (.iload_n 2, 1) := by decide +kernel
theorem d4_60 : decode jdk_65_method_30_code 60 = .ok (.iload_n 0, 1) := by decide +kernel
theorem d4_61 : decode jdk_65_method_30_code 61 = .ok (.if_icmp .le 12, 3) := by decide +kernel
theorem d4_73 : decode jdk_65_method_30_code 73 = .ok (.return_, 1) := by decide +kernel
theorem d5_0 : decode jdk_48_method_14_code 0 = .ok (.iconst 0, 1) := by decide +kernel
theorem d5_1 : decode jdk_48_method_14_code 1 = .ok (.istore 5, 2) := by decide +kernel
theorem d5_3 : decode jdk_48_method_14_code 3 = .ok (.iload 4, 2) := by decide +kernel
theorem d5_5 : decode jdk_48_method_14_code 5 = .ok (.bipush 7, 2) := by decide +kernel
theorem d5_7 : decode jdk_48_method_14_code 7 = .ok (.if_icmp .le 63, 3) := by decide +kernel
theorem d5_70 : decode jdk_48_method_14_code 70 = .ok (.iload 5, 2) := by decide +kernel
theorem d5_72 : decode jdk_48_method_14_code 72 = .ok (.iload 4, 2) := by decide +kernel
theorem d5_74 : decode jdk_48_method_14_code 74 = .ok (.if_icmp .ge 27, 3) := by decide +kernel
theorem d5_77 : decode jdk_48_method_14_code 77 = .ok (.aload_n 0, 1) := by decide +kernel
theorem d5_78 : decode jdk_48_method_14_code 78 = .ok (.iload_n 1, 1) := by decide +kernel
theorem d5_79 : decode jdk_48_method_14_code 79 = .ok (.iload 5, 2) := by decide +kernel
theorem d5_81 : decode jdk_48_method_14_code 81 = .ok (.iadd, 1) := by decide +kernel
theorem d5_82 : decode jdk_48_method_14_code 82 = .ok (.baload, 1) := by decide +kernel
theorem d5_83 : decode jdk_48_method_14_code 83 = .ok (.aload_n 2, 1) := by decide +kernel
theorem d5_84 : decode jdk_48_method_14_code 84 = .ok (.iload_n 3, 1) := by decide +kernel
theorem d5_85 : decode jdk_48_method_14_code 85 = .ok (.iload 5, 2) := by decide +kernel
theorem d5_87 : decode jdk_48_method_14_code 87 = .ok (.iadd, 1) := by decide +kernel
theorem d5_88 : decode jdk_48_method_14_code 88 = .ok (.baload, 1) := by decide +kernel
theorem d5_89 : decode jdk_48_method_14_code 89 = .ok (.if_icmp .eq 6, 3) := by decide +kernel
theorem d5_92 : decode jdk_48_method_14_code 92 = .ok (.iload 5, 2) := by decide +kernel
theorem d5_94 : decode jdk_48_method_14_code 94 = .ok (.ireturn, 1) := by decide +kernel
theorem d5_95 : decode jdk_48_method_14_code 95 = .ok (.iinc 5 1, 3) := by decide +kernel
theorem d5_98 : decode jdk_48_method_14_code 98 = .ok (.goto (-28), 3) := by decide +kernel
theorem d5_101 : decode jdk_48_method_14_code 101 = .ok (.iconst (-1), 1) := by decide +kernel
theorem d5_102 : decode jdk_48_method_14_code 102 = .ok (.ireturn, 1) := by decide +kernel
theorem pn_0 : plainName "com/example/wire3/wire3/core/mmi/MmiServiceInNamespacePinLaw" = true := by first | (simp [plainName, overriddenIn]; done) | decide +kernel
theorem pn_1 : plainName "com/example/wire3/wire3/core/mmi/MmiService" = true := by first | (simp [plainName, overriddenIn]; done) | decide +kernel
theorem pn_2 : plainName "com/example/wire3/wire3/core/mmi/MmiServiceInNamespacePinLaw" = true := by first | (simp [plainName, overriddenIn]; done) | decide +kernel
theorem pn_3 : plainName "java/util/Arrays" = true := by first | (simp [plainName, overriddenIn]; done) | decide +kernel
theorem pn_4 : plainName "java/util/Arrays" = true := by first | (simp [plainName, overriddenIn]; done) | decide +kernel
theorem pn_5 : plainName "jdk/internal/util/ArraysSupport" = true := by first | (simp [plainName, overriddenIn]; done) | decide +kernel
theorem pd_0 : parseMethodDescriptor "(III)V" = some ⟨[.int, .int, .int], none⟩ := by decide +kernel
theorem pd_1 : parseMethodDescriptor "([BI[BII)I" = some ⟨[(.array .byte), .int, (.array .byte), .int, .int], some .int⟩ := by decide +kernel
theorem pd_2 : parseMethodDescriptor "([BII[BII)Z" = some ⟨[(.array .byte), .int, .int, (.array .byte), .int, .int], some .boolean⟩ := by decide +kernel
theorem pd_3 : parseMethodDescriptor "([B)Z" = some ⟨[(.array .byte)], some .boolean⟩ := by decide +kernel
theorem pd_4 : parseMethodDescriptor "(IIJB)B" = some ⟨[.int, .int, .long, .byte], some .byte⟩ := by decide +kernel
theorem ef_2 (m : MethodId) (p1 : Int32) (p2 : Int32) (q3 : Int64) (p5 : Int32) : entryFrame m #[(.int p1), (.int p2), (.long q3), (.int p5)] 5 = mkF m 0 #[.val (.int p1), .val (.int p2), .val (.long q3), .second, .val (.int p5)] [] := by first | (simp [entryFrame, mkF, argsToLocals, Value.category]; done) | rfl
theorem ef_4 (m : MethodId) (p1 : Int32) (p2 : Int32) (p3 : Int32) : entryFrame m #[(.int p1), (.int p2), (.int p3)] 3 = mkF m 0 #[.val (.int p1), .val (.int p2), .val (.int p3)] [] := by first | (simp [entryFrame, mkF, argsToLocals, Value.category]; done) | rfl
theorem ef_5 (m : MethodId) (a1 : Addr) (i1 : Int32) (aN : Addr) (i3 : Int32) (i4 : Int32) : entryFrame m #[(.ref a1), (.int i1), (.ref aN), (.int i3), (.int i4)] 8 = mkF m 0 #[.val (.ref a1), .val (.int i1), .val (.ref aN), .val (.int i3), .val (.int i4), .unset, .unset, .unset] [] := by first | (simp [entryFrame, mkF, argsToLocals, Value.category]; done) | rfl
theorem ef_3 (m : MethodId) (a1 : Addr) (i1 : Int32) (i2 : Int32) (aN : Addr) (i4 : Int32) (i5 : Int32) : entryFrame m #[(.ref a1), (.int i1), (.int i2), (.ref aN), (.int i4), (.int i5)] 8 = mkF m 0 #[.val (.ref a1), .val (.int i1), .val (.int i2), .val (.ref aN), .val (.int i4), .val (.int i5), .unset, .unset] [] := by first | (simp [entryFrame, mkF, argsToLocals, Value.category]; done) | rfl
theorem ef_1 (m : MethodId) (a1 : Addr) : entryFrame m #[(.ref a1)] 1 = mkF m 0 #[.val (.ref a1)] [] := by first | (simp [entryFrame, mkF, argsToLocals, Value.category]; done) | rfl
theorem ef_0 (m : MethodId) (p0 : Int32) (p1 : Int32) (q2 : Int64) : entryFrame m #[(.int p0), (.int p1), (.long q2)] maxLocals = mkF m 0 #[.val (.int p0), .val (.int p1), .val (.long q2), .second, .unset, .unset, .unset, .unset] [] := by first | (simp [entryFrame, mkF, argsToLocals, Value.category, maxLocals]; done) | rfl
def Q_rm_pick (Z : State) (h0 : Heap) (n0 : Nat) (p1 p2 p5 : Int32) (q3 : Int64) (v : Option Value) (h : Heap) (L : List Loc) : Prop := v = some (.int (nar .byte (own_pick p1 p2 q3 p5))) ∧ Fr n0 L ∧ h = h0
set_option maxRecDepth 65536 in
set_option maxHeartbeats 40000000 in
theorem rm_pick (l : Launch) (Z : State) (a0 : Array Value) (hw : ∀ d ∈ tables_1, d.before a0 Z = true) (ws : List Jvm.Cond) (p1 p2 p5 : Int32) (q3 : Int64) (h0 : Heap) (n0 : Nat) (Z0 : n0 ≤ h0.size) :
    MetFree l (⟨"com/example/wire3/wire3/core/mmi/MmiServiceInNamespacePinLaw", "pick", "(IIJB)B"⟩ : MethodName) (head1 (Jvm.Cond.code (⟨"com/example/wire3/wire3/core/mmi/MmiServiceInNamespacePinLaw", "pick", "(IIJB)B"⟩ : MethodName) method_3_code 5 (some .byte) :: ws) ({ frames := 0, cells := 0, slots := 0, locals := 0 } : Room)) (fun a U => a = #[(.int p1), (.int p2), (.long q3), (.int p5)] ∧ Z.Warmed39 U.vm ∧ U.heap = h0) (fun _ _ _ _ _ => True) (fun _ U o U' => ∃ rv rL, o = .returned rv ∧ Q_rm_pick Z h0 n0 p1 p2 p5 q3 rv U'.heap rL ∧ FrameEnd U o U' rL ({ frames := 0, cells := 0, slots := 0, locals := 0 } : Room).cells ({ frames := 0, cells := 0, slots := 0, locals := 0 } : Room).slots) := by
  refine own_met (y := (⟨"com/example/wire3/wire3/core/mmi/MmiServiceInNamespacePinLaw", "pick", "(IIJB)B"⟩ : MethodName)) (Q := Q_rm_pick Z h0 n0 p1 p2 p5 q3) (own := "com/example/wire3/wire3/core/mmi/MmiServiceInNamespacePinLaw") rfl pn_2 ?_
  intro p e s m below meth c s₁ C e0 X0
  obtain ⟨hx, hby, hml, hown, hnm, hret, hlk, hZ⟩ := C
  have N0 := Fr.nil n0
  rw [ef_2]
  show own_Goes _ _ _ _ _ _ _ s₁ (mkF m 0 #[.val (.int p1), .val (.int p2), .val (.long q3), .second, .val (.int p5)] [])
  refine own_go (fun _ k => XS.iloadN X0.here hx rfl (hb hby d2_0) rfl k) ?_
  show own_Goes _ _ _ _ _ _ _ s₁ (mkF m 1 #[.val (.int p1), .val (.int p2), .val (.long q3), .second, .val (.int p5)] [(.int p1)])
  refine own_go (fun _ k => XS.iloadN X0.here hx rfl (hb hby d2_1) rfl k) ?_
  show own_Goes _ _ _ _ _ _ _ s₁ (mkF m 2 #[.val (.int p1), .val (.int p2), .val (.long q3), .second, .val (.int p5)] [(.int p2), (.int p1)])
  refine own_go (fun _ k => XS.iushr X0.here hx rfl (hb hby d2_2) rfl k) ?_
  show own_Goes _ _ _ _ _ _ _ s₁ (mkF m 3 #[.val (.int p1), .val (.int p2), .val (.long q3), .second, .val (.int p5)] [(.int ((p1.toUInt32 >>> (p2 &&& 31).toUInt32).toInt32))])
  refine own_go (fun _ k => XS.iconst X0.here hx rfl (hb hby d2_3) k) ?_
  show own_Goes _ _ _ _ _ _ _ s₁ (mkF m 4 #[.val (.int p1), .val (.int p2), .val (.long q3), .second, .val (.int p5)] [(.int (1 : Int32)), (.int ((p1.toUInt32 >>> (p2 &&& 31).toUInt32).toInt32))])
  refine own_go (fun _ k => XS.iand X0.here hx rfl (hb hby d2_4) rfl k) ?_
  show own_Goes _ _ _ _ _ _ _ s₁ (mkF m 5 #[.val (.int p1), .val (.int p2), .val (.long q3), .second, .val (.int p5)] [(.int (((p1.toUInt32 >>> (p2 &&& 31).toUInt32).toInt32) &&& (1 : Int32)))])
  by_cases hc5 : (((p1.toUInt32 >>> (p2 &&& 31).toUInt32).toInt32) &&& (1 : Int32)) = (0 : Int32)
  · refine own_go (fun _ k => XS.ifYes X0.here hx rfl (pc0 := 5) (pc' := 11) rfl (hb hby d2_5) rfl ((if0 _ _).trans (teq hc5).1) (by decide) (by decide) k) ?_
    show own_Goes _ _ _ _ _ _ _ s₁ (mkF m 11 #[.val (.int p1), .val (.int p2), .val (.long q3), .second, .val (.int p5)] [])
    refine own_go (fun _ k => XS.lloadN X0.here hx rfl (hb hby d2_11) rfl k) ?_
    show own_Goes _ _ _ _ _ _ _ s₁ (mkF m 12 #[.val (.int p1), .val (.int p2), .val (.long q3), .second, .val (.int p5)] [(.long q3)])
    refine own_go (fun _ k => XS.bipush X0.here hx rfl (hb hby d2_12) k) ?_
    show own_Goes _ _ _ _ _ _ _ s₁ (mkF m 14 #[.val (.int p1), .val (.int p2), .val (.long q3), .second, .val (.int p5)] [(.int (8 : Int32)), (.long q3)])
    refine own_go (fun _ k => XS.iloadN X0.here hx rfl (hb hby d2_14) rfl k) ?_
    show own_Goes _ _ _ _ _ _ _ s₁ (mkF m 15 #[.val (.int p1), .val (.int p2), .val (.long q3), .second, .val (.int p5)] [(.int p2), (.int (8 : Int32)), (.long q3)])
    refine own_go (fun _ k => XS.imul X0.here hx rfl (hb hby d2_15) rfl k) ?_
    show own_Goes _ _ _ _ _ _ _ s₁ (mkF m 16 #[.val (.int p1), .val (.int p2), .val (.long q3), .second, .val (.int p5)] [(.int ((8 : Int32) * p2)), (.long q3)])
    refine own_go (fun _ k => XS.lushr X0.here hx rfl (hb hby d2_16) rfl k) ?_
    show own_Goes _ _ _ _ _ _ _ s₁ (mkF m 17 #[.val (.int p1), .val (.int p2), .val (.long q3), .second, .val (.int p5)] [(.long ((q3.toUInt64 >>> (((8 : Int32) * p2) &&& 0x3f).toInt64.toUInt64).toInt64))])
    refine own_go (fun _ k => XS.l2i X0.here hx rfl (hb hby d2_17) rfl k) ?_
    show own_Goes _ _ _ _ _ _ _ s₁ (mkF m 18 #[.val (.int p1), .val (.int p2), .val (.long q3), .second, .val (.int p5)] [(.int (((q3.toUInt64 >>> (((8 : Int32) * p2) &&& 0x3f).toInt64.toUInt64).toInt64).toInt32))])
    refine own_go (fun _ k => XS.i2b X0.here hx rfl (hb hby d2_18) rfl k) ?_
    show own_Goes _ _ _ _ _ _ _ s₁ (mkF m 19 #[.val (.int p1), .val (.int p2), .val (.long q3), .second, .val (.int p5)] [(.int ((((q3.toUInt64 >>> (((8 : Int32) * p2) &&& 0x3f).toInt64.toUInt64).toInt64).toInt32).toInt8.toInt32))])
    exact own_retN X0 hx (t := .byte) hlk hret (by simp) (hb hby d2_19) (by decide) (by decide) (by rw [e0]; exact ⟨by rw [own_pick, if_pos hc5] <;> rfl, N0, rfl⟩)
  · refine own_go (fun _ k => XS.ifNo X0.here hx rfl (hb hby d2_5) rfl ((if0 _ _).trans (feq hc5).1) k) ?_
    show own_Goes _ _ _ _ _ _ _ s₁ (mkF m 8 #[.val (.int p1), .val (.int p2), .val (.long q3), .second, .val (.int p5)] [])
    refine own_go (fun _ k => XS.iload X0.here hx rfl (hb hby d2_8) rfl k) ?_
    show own_Goes _ _ _ _ _ _ _ s₁ (mkF m 10 #[.val (.int p1), .val (.int p2), .val (.long q3), .second, .val (.int p5)] [(.int p5)])
    exact own_retN X0 hx (t := .byte) hlk hret (by simp) (hb hby d2_10) (by decide) (by decide) (by rw [e0]; exact ⟨by rw [own_pick, if_neg hc5] <;> rfl, N0, rfl⟩)
def Q_rm_rc (Z : State) (h0 : Heap) (n0 : Nat)  (v : Option Value) (h : Heap) (L : List Loc) : Prop := v = none ∧ Fr n0 L ∧ h = h0
set_option maxRecDepth 65536 in
set_option maxHeartbeats 40000000 in
theorem rm_rc (l : Launch) (Z : State) (a0 : Array Value) (hw : ∀ d ∈ tables_1, d.before a0 Z = true) (ws : List Jvm.Cond) (p1 p2 p3 : Int32) (h0 : Heap) (n0 : Nat) (Z0 : n0 ≤ h0.size) (g1 : ¬ p3 < p2) (g2 : ¬ p2 < 0) (g3 : ¬ p1 < p3) :
    MetFree l (⟨"java/util/Arrays", "rangeCheck", "(III)V"⟩ : MethodName) (head1 (Jvm.Cond.code (⟨"java/util/Arrays", "rangeCheck", "(III)V"⟩ : MethodName) jdk_65_method_30_code 3 none :: ws) ({ frames := 0, cells := 0, slots := 0, locals := 0 } : Room)) (fun a U => a = #[(.int p1), (.int p2), (.int p3)] ∧ Z.Warmed39 U.vm ∧ U.heap = h0) (fun _ _ _ _ _ => True) (fun _ U o U' => ∃ rv rL, o = .returned rv ∧ Q_rm_rc Z h0 n0  rv U'.heap rL ∧ FrameEnd U o U' rL ({ frames := 0, cells := 0, slots := 0, locals := 0 } : Room).cells ({ frames := 0, cells := 0, slots := 0, locals := 0 } : Room).slots) := by
  refine own_met (y := (⟨"java/util/Arrays", "rangeCheck", "(III)V"⟩ : MethodName)) (Q := Q_rm_rc Z h0 n0 ) (own := "java/util/Arrays") rfl pn_4 ?_
  intro p e s m below meth c s₁ C e0 X0
  obtain ⟨hx, hby, hml, hown, hnm, hret, hlk, hZ⟩ := C
  have N0 := Fr.nil n0
  rw [ef_4]
  show own_Goes _ _ _ _ _ _ _ s₁ (mkF m 0 #[.val (.int p1), .val (.int p2), .val (.int p3)] [])
  refine own_go (fun _ k => XS.iloadN X0.here hx rfl (hb hby d4_0) rfl k) ?_
  show own_Goes _ _ _ _ _ _ _ s₁ (mkF m 1 #[.val (.int p1), .val (.int p2), .val (.int p3)] [(.int p2)])
  refine own_go (fun _ k => XS.iloadN X0.here hx rfl (hb hby d4_1) rfl k) ?_
  show own_Goes _ _ _ _ _ _ _ s₁ (mkF m 2 #[.val (.int p1), .val (.int p2), .val (.int p3)] [(.int p3), (.int p2)])
  refine own_go (fun _ k => XS.icmpYes X0.here hx rfl (pc0 := 2) (pc' := 46) rfl (hb hby d4_2) rfl (flt g1).2.2.2 (by decide) (by decide) k) ?_
  show own_Goes _ _ _ _ _ _ _ s₁ (mkF m 46 #[.val (.int p1), .val (.int p2), .val (.int p3)] [])
  refine own_go (fun _ k => XS.iloadN X0.here hx rfl (hb hby d4_46) rfl k) ?_
  show own_Goes _ _ _ _ _ _ _ s₁ (mkF m 47 #[.val (.int p1), .val (.int p2), .val (.int p3)] [(.int p2)])
  refine own_go (fun _ k => XS.ifYes X0.here hx rfl (pc0 := 47) (pc' := 59) rfl (hb hby d4_47) rfl ((if0 _ _).trans (flt g2).2.1) (by decide) (by decide) k) ?_
  show own_Goes _ _ _ _ _ _ _ s₁ (mkF m 59 #[.val (.int p1), .val (.int p2), .val (.int p3)] [])
  refine own_go (fun _ k => XS.iloadN X0.here hx rfl (hb hby d4_59) rfl k) ?_
  show own_Goes _ _ _ _ _ _ _ s₁ (mkF m 60 #[.val (.int p1), .val (.int p2), .val (.int p3)] [(.int p3)])
  refine own_go (fun _ k => XS.iloadN X0.here hx rfl (hb hby d4_60) rfl k) ?_
  show own_Goes _ _ _ _ _ _ _ s₁ (mkF m 61 #[.val (.int p1), .val (.int p2), .val (.int p3)] [(.int p1), (.int p3)])
  refine own_go (fun _ k => XS.icmpYes X0.here hx rfl (pc0 := 61) (pc' := 73) rfl (hb hby d4_61) rfl (flt g3).2.2.2 (by decide) (by decide) k) ?_
  show own_Goes _ _ _ _ _ _ _ s₁ (mkF m 73 #[.val (.int p1), .val (.int p2), .val (.int p3)] [])
  exact own_retV X0 hx hlk hret (hb hby d4_73) (by decide) (by decide) (by rw [e0]; exact ⟨rfl, N0, rfl⟩)
def Q_rm_mm (Z : State) (h0 : Heap) (n0 : Nat) (x0 x1 x2 x3 : Int32) (v : Option Value) (h : Heap) (L : List Loc) : Prop := v = some (.int (own_mm x0 x1 x2 x3)) ∧ Fr n0 L ∧ h = h0
set_option maxRecDepth 65536 in
set_option maxHeartbeats 40000000 in
theorem rm_mm (l : Launch) (Z : State) (a0 : Array Value) (hw : ∀ d ∈ tables_1, d.before a0 Z = true) (ws : List Jvm.Cond) (a1 aN : Addr) (cl cN : Cell) (p9 : Int32) (x0 x1 x2 x3 : Int32) (h0 : Heap) (n0 : Nat) (Z0 : n0 ≤ h0.size) (Od0 : Old Z n0 h0) (A1 : Arr Z h0 a1 cl .byte) (S1 : cl.slots.size = p9.toNatClampNeg) (hp9 : ¬ p9 < 0) (h4 : ¬ p9 < 4) (e1_0 : cl.slots[0]? = some (.int x0)) (e1_1 : cl.slots[1]? = some (.int x1)) (e1_2 : cl.slots[2]? = some (.int x2)) (e1_3 : cl.slots[3]? = some (.int x3)) (AN : Arr Z Z.heap aN cN .byte) (SN : cN.slots.size = 4) (eN_0 : cN.slots[0]? = some (.int (109 : Int32))) (eN_1 : cN.slots[1]? = some (.int (109 : Int32))) (eN_2 : cN.slots[2]? = some (.int (105 : Int32))) (eN_3 : cN.slots[3]? = some (.int (46 : Int32))) :
    MetFree l (⟨"jdk/internal/util/ArraysSupport", "mismatch", "([BI[BII)I"⟩ : MethodName) (head1 (Jvm.Cond.code (⟨"jdk/internal/util/ArraysSupport", "mismatch", "([BI[BII)I"⟩ : MethodName) jdk_48_method_14_code 8 (some .int) :: ws) ({ frames := 0, cells := 0, slots := 0, locals := 0 } : Room)) (fun a U => a = #[(.ref a1), (.int (0 : Int32)), (.ref aN), (.int (0 : Int32)), (.int (4 : Int32))] ∧ Z.Warmed39 U.vm ∧ U.heap = h0) (fun _ _ _ _ _ => True) (fun _ U o U' => ∃ rv rL, o = .returned rv ∧ Q_rm_mm Z h0 n0 x0 x1 x2 x3 rv U'.heap rL ∧ FrameEnd U o U' rL ({ frames := 0, cells := 0, slots := 0, locals := 0 } : Room).cells ({ frames := 0, cells := 0, slots := 0, locals := 0 } : Room).slots) := by
  refine own_met (y := (⟨"jdk/internal/util/ArraysSupport", "mismatch", "([BI[BII)I"⟩ : MethodName)) (Q := Q_rm_mm Z h0 n0 x0 x1 x2 x3) (own := "jdk/internal/util/ArraysSupport") rfl pn_5 ?_
  intro p e s m below meth c s₁ C e0 X0
  obtain ⟨hx, hby, hml, hown, hnm, hret, hlk, hZ⟩ := C
  have N0 := Fr.nil n0
  rw [ef_5]
  show own_Goes _ _ _ _ _ _ _ s₁ (mkF m 0 #[.val (.ref a1), .val (.int (0 : Int32)), .val (.ref aN), .val (.int (0 : Int32)), .val (.int (4 : Int32)), .unset, .unset, .unset] [])
  refine own_go (fun _ k => XS.iconst X0.here hx rfl (hb hby d5_0) k) ?_
  show own_Goes _ _ _ _ _ _ _ s₁ (mkF m 1 #[.val (.ref a1), .val (.int (0 : Int32)), .val (.ref aN), .val (.int (0 : Int32)), .val (.int (4 : Int32)), .unset, .unset, .unset] [(.int (0 : Int32))])
  refine own_go (fun _ k => XS.istore X0.here hx rfl (hb hby d5_1) rfl (l' := #[.val (.ref a1), .val (.int (0 : Int32)), .val (.ref aN), .val (.int (0 : Int32)), .val (.int (4 : Int32)), .val (.int (0 : Int32)), .unset, .unset]) rfl k) ?_
  show own_Goes _ _ _ _ _ _ _ s₁ (mkF m 3 #[.val (.ref a1), .val (.int (0 : Int32)), .val (.ref aN), .val (.int (0 : Int32)), .val (.int (4 : Int32)), .val (.int (0 : Int32)), .unset, .unset] [])
  refine own_go (fun _ k => XS.iload X0.here hx rfl (hb hby d5_3) rfl k) ?_
  show own_Goes _ _ _ _ _ _ _ s₁ (mkF m 5 #[.val (.ref a1), .val (.int (0 : Int32)), .val (.ref aN), .val (.int (0 : Int32)), .val (.int (4 : Int32)), .val (.int (0 : Int32)), .unset, .unset] [(.int (4 : Int32))])
  refine own_go (fun _ k => XS.bipush X0.here hx rfl (hb hby d5_5) k) ?_
  show own_Goes _ _ _ _ _ _ _ s₁ (mkF m 7 #[.val (.ref a1), .val (.int (0 : Int32)), .val (.ref aN), .val (.int (0 : Int32)), .val (.int (4 : Int32)), .val (.int (0 : Int32)), .unset, .unset] [(.int (7 : Int32)), (.int (4 : Int32))])
  refine own_go (fun _ k => XS.icmpYes X0.here hx rfl (pc0 := 7) (pc' := 70) rfl (hb hby d5_7) rfl (flt (by decide : ¬ ((7 : Int32) < (4 : Int32)))).2.2.2 (by decide) (by decide) k) ?_
  show own_Goes _ _ _ _ _ _ _ s₁ (mkF m 70 #[.val (.ref a1), .val (.int (0 : Int32)), .val (.ref aN), .val (.int (0 : Int32)), .val (.int (4 : Int32)), .val (.int (0 : Int32)), .unset, .unset] [])
  refine own_go (fun _ k => XS.iload X0.here hx rfl (hb hby d5_70) rfl k) ?_
  show own_Goes _ _ _ _ _ _ _ s₁ (mkF m 72 #[.val (.ref a1), .val (.int (0 : Int32)), .val (.ref aN), .val (.int (0 : Int32)), .val (.int (4 : Int32)), .val (.int (0 : Int32)), .unset, .unset] [(.int (0 : Int32))])
  refine own_go (fun _ k => XS.iload X0.here hx rfl (hb hby d5_72) rfl k) ?_
  show own_Goes _ _ _ _ _ _ _ s₁ (mkF m 74 #[.val (.ref a1), .val (.int (0 : Int32)), .val (.ref aN), .val (.int (0 : Int32)), .val (.int (4 : Int32)), .val (.int (0 : Int32)), .unset, .unset] [(.int (4 : Int32)), (.int (0 : Int32))])
  refine own_go (fun _ k => XS.icmpNo X0.here hx rfl (hb hby d5_74) rfl (tlt (by decide : (0 : Int32) < (4 : Int32))).2.1 k) ?_
  show own_Goes _ _ _ _ _ _ _ s₁ (mkF m 77 #[.val (.ref a1), .val (.int (0 : Int32)), .val (.ref aN), .val (.int (0 : Int32)), .val (.int (4 : Int32)), .val (.int (0 : Int32)), .unset, .unset] [])
  refine own_go (fun _ k => XS.aloadN X0.here hx rfl (hb hby d5_77) rfl rfl k) ?_
  show own_Goes _ _ _ _ _ _ _ s₁ (mkF m 78 #[.val (.ref a1), .val (.int (0 : Int32)), .val (.ref aN), .val (.int (0 : Int32)), .val (.int (4 : Int32)), .val (.int (0 : Int32)), .unset, .unset] [(.ref a1)])
  refine own_go (fun _ k => XS.iloadN X0.here hx rfl (hb hby d5_78) rfl k) ?_
  show own_Goes _ _ _ _ _ _ _ s₁ (mkF m 79 #[.val (.ref a1), .val (.int (0 : Int32)), .val (.ref aN), .val (.int (0 : Int32)), .val (.int (4 : Int32)), .val (.int (0 : Int32)), .unset, .unset] [(.int (0 : Int32)), (.ref a1)])
  refine own_go (fun _ k => XS.iload X0.here hx rfl (hb hby d5_79) rfl k) ?_
  show own_Goes _ _ _ _ _ _ _ s₁ (mkF m 81 #[.val (.ref a1), .val (.int (0 : Int32)), .val (.ref aN), .val (.int (0 : Int32)), .val (.int (4 : Int32)), .val (.int (0 : Int32)), .unset, .unset] [(.int (0 : Int32)), (.int (0 : Int32)), (.ref a1)])
  refine own_go (fun _ k => XS.iadd X0.here hx rfl (hb hby d5_81) rfl k) ?_
  show own_Goes _ _ _ _ _ _ _ s₁ (mkF m 82 #[.val (.ref a1), .val (.int (0 : Int32)), .val (.ref aN), .val (.int (0 : Int32)), .val (.int (4 : Int32)), .val (.int (0 : Int32)), .unset, .unset] [(.int (0 : Int32)), (.ref a1)])
  refine own_go (fun t k => X0.baloadBytes hx (j := (0 : Int32)) (v := (.int x0)) (by rw [e0]; exact A1.1) (State.isArrayOf_alike hZ.alike A1.2.1) A1.2.2 (own_in S1 hp9 h4 (by decide) (by decide)) e1_0 (g := (mkF m 82 #[.val (.ref a1), .val (.int (0 : Int32)), .val (.ref aN), .val (.int (0 : Int32)), .val (.int (4 : Int32)), .val (.int (0 : Int32)), .unset, .unset] [(.int (0 : Int32)), (.ref a1)])) rfl rfl (hb hby d5_82) t k) ?_
  show own_Goes _ _ _ _ _ _ _ s₁ (mkF m 83 #[.val (.ref a1), .val (.int (0 : Int32)), .val (.ref aN), .val (.int (0 : Int32)), .val (.int (4 : Int32)), .val (.int (0 : Int32)), .unset, .unset] [(.int x0)])
  refine own_go (fun _ k => XS.aloadN X0.here hx rfl (hb hby d5_83) rfl rfl k) ?_
  show own_Goes _ _ _ _ _ _ _ s₁ (mkF m 84 #[.val (.ref a1), .val (.int (0 : Int32)), .val (.ref aN), .val (.int (0 : Int32)), .val (.int (4 : Int32)), .val (.int (0 : Int32)), .unset, .unset] [(.ref aN), (.int x0)])
  refine own_go (fun _ k => XS.iloadN X0.here hx rfl (hb hby d5_84) rfl k) ?_
  show own_Goes _ _ _ _ _ _ _ s₁ (mkF m 85 #[.val (.ref a1), .val (.int (0 : Int32)), .val (.ref aN), .val (.int (0 : Int32)), .val (.int (4 : Int32)), .val (.int (0 : Int32)), .unset, .unset] [(.int (0 : Int32)), (.ref aN), (.int x0)])
  refine own_go (fun _ k => XS.iload X0.here hx rfl (hb hby d5_85) rfl k) ?_
  show own_Goes _ _ _ _ _ _ _ s₁ (mkF m 87 #[.val (.ref a1), .val (.int (0 : Int32)), .val (.ref aN), .val (.int (0 : Int32)), .val (.int (4 : Int32)), .val (.int (0 : Int32)), .unset, .unset] [(.int (0 : Int32)), (.int (0 : Int32)), (.ref aN), (.int x0)])
  refine own_go (fun _ k => XS.iadd X0.here hx rfl (hb hby d5_87) rfl k) ?_
  show own_Goes _ _ _ _ _ _ _ s₁ (mkF m 88 #[.val (.ref a1), .val (.int (0 : Int32)), .val (.ref aN), .val (.int (0 : Int32)), .val (.int (4 : Int32)), .val (.int (0 : Int32)), .unset, .unset] [(.int (0 : Int32)), (.ref aN), (.int x0)])
  refine own_go (fun t k => X0.baloadBytes hx (j := (0 : Int32)) (v := (.int (109 : Int32))) (by rw [e0]; exact (AN.ext Od0.2).1) (State.isArrayOf_alike hZ.alike (AN.ext Od0.2).2.1) (AN.ext Od0.2).2.2 (by rw [SN]; decide) eN_0 (g := (mkF m 88 #[.val (.ref a1), .val (.int (0 : Int32)), .val (.ref aN), .val (.int (0 : Int32)), .val (.int (4 : Int32)), .val (.int (0 : Int32)), .unset, .unset] [(.int (0 : Int32)), (.ref aN), (.int x0)])) rfl rfl (hb hby d5_88) t k) ?_
  show own_Goes _ _ _ _ _ _ _ s₁ (mkF m 89 #[.val (.ref a1), .val (.int (0 : Int32)), .val (.ref aN), .val (.int (0 : Int32)), .val (.int (4 : Int32)), .val (.int (0 : Int32)), .unset, .unset] [(.int (109 : Int32)), (.int x0)])
  by_cases hc89 : x0 = (109 : Int32)
  · refine own_go (fun _ k => XS.icmpYes X0.here hx rfl (pc0 := 89) (pc' := 95) rfl (hb hby d5_89) rfl (teq hc89).1 (by decide) (by decide) k) ?_
    show own_Goes _ _ _ _ _ _ _ s₁ (mkF m 95 #[.val (.ref a1), .val (.int (0 : Int32)), .val (.ref aN), .val (.int (0 : Int32)), .val (.int (4 : Int32)), .val (.int (0 : Int32)), .unset, .unset] [])
    refine own_go (fun _ k => XS.iinc X0.here hx rfl (hb hby d5_95) rfl (l' := #[.val (.ref a1), .val (.int (0 : Int32)), .val (.ref aN), .val (.int (0 : Int32)), .val (.int (4 : Int32)), .val (.int (1 : Int32)), .unset, .unset]) rfl k) ?_
    show own_Goes _ _ _ _ _ _ _ s₁ (mkF m 98 #[.val (.ref a1), .val (.int (0 : Int32)), .val (.ref aN), .val (.int (0 : Int32)), .val (.int (4 : Int32)), .val (.int (1 : Int32)), .unset, .unset] [])
    refine own_go (fun _ k => XS.goto X0.here hx rfl (pc0 := 98) (pc' := 70) rfl (hb hby d5_98) (by decide) (by decide) k) ?_
    show own_Goes _ _ _ _ _ _ _ s₁ (mkF m 70 #[.val (.ref a1), .val (.int (0 : Int32)), .val (.ref aN), .val (.int (0 : Int32)), .val (.int (4 : Int32)), .val (.int (1 : Int32)), .unset, .unset] [])
    refine own_go (fun _ k => XS.iload X0.here hx rfl (hb hby d5_70) rfl k) ?_
    show own_Goes _ _ _ _ _ _ _ s₁ (mkF m 72 #[.val (.ref a1), .val (.int (0 : Int32)), .val (.ref aN), .val (.int (0 : Int32)), .val (.int (4 : Int32)), .val (.int (1 : Int32)), .unset, .unset] [(.int (1 : Int32))])
    refine own_go (fun _ k => XS.iload X0.here hx rfl (hb hby d5_72) rfl k) ?_
    show own_Goes _ _ _ _ _ _ _ s₁ (mkF m 74 #[.val (.ref a1), .val (.int (0 : Int32)), .val (.ref aN), .val (.int (0 : Int32)), .val (.int (4 : Int32)), .val (.int (1 : Int32)), .unset, .unset] [(.int (4 : Int32)), (.int (1 : Int32))])
    refine own_go (fun _ k => XS.icmpNo X0.here hx rfl (hb hby d5_74) rfl (tlt (by decide : (1 : Int32) < (4 : Int32))).2.1 k) ?_
    show own_Goes _ _ _ _ _ _ _ s₁ (mkF m 77 #[.val (.ref a1), .val (.int (0 : Int32)), .val (.ref aN), .val (.int (0 : Int32)), .val (.int (4 : Int32)), .val (.int (1 : Int32)), .unset, .unset] [])
    refine own_go (fun _ k => XS.aloadN X0.here hx rfl (hb hby d5_77) rfl rfl k) ?_
    show own_Goes _ _ _ _ _ _ _ s₁ (mkF m 78 #[.val (.ref a1), .val (.int (0 : Int32)), .val (.ref aN), .val (.int (0 : Int32)), .val (.int (4 : Int32)), .val (.int (1 : Int32)), .unset, .unset] [(.ref a1)])
    refine own_go (fun _ k => XS.iloadN X0.here hx rfl (hb hby d5_78) rfl k) ?_
    show own_Goes _ _ _ _ _ _ _ s₁ (mkF m 79 #[.val (.ref a1), .val (.int (0 : Int32)), .val (.ref aN), .val (.int (0 : Int32)), .val (.int (4 : Int32)), .val (.int (1 : Int32)), .unset, .unset] [(.int (0 : Int32)), (.ref a1)])
    refine own_go (fun _ k => XS.iload X0.here hx rfl (hb hby d5_79) rfl k) ?_
    show own_Goes _ _ _ _ _ _ _ s₁ (mkF m 81 #[.val (.ref a1), .val (.int (0 : Int32)), .val (.ref aN), .val (.int (0 : Int32)), .val (.int (4 : Int32)), .val (.int (1 : Int32)), .unset, .unset] [(.int (1 : Int32)), (.int (0 : Int32)), (.ref a1)])
    refine own_go (fun _ k => XS.iadd X0.here hx rfl (hb hby d5_81) rfl k) ?_
    show own_Goes _ _ _ _ _ _ _ s₁ (mkF m 82 #[.val (.ref a1), .val (.int (0 : Int32)), .val (.ref aN), .val (.int (0 : Int32)), .val (.int (4 : Int32)), .val (.int (1 : Int32)), .unset, .unset] [(.int (1 : Int32)), (.ref a1)])
    refine own_go (fun t k => X0.baloadBytes hx (j := (1 : Int32)) (v := (.int x1)) (by rw [e0]; exact A1.1) (State.isArrayOf_alike hZ.alike A1.2.1) A1.2.2 (own_in S1 hp9 h4 (by decide) (by decide)) e1_1 (g := (mkF m 82 #[.val (.ref a1), .val (.int (0 : Int32)), .val (.ref aN), .val (.int (0 : Int32)), .val (.int (4 : Int32)), .val (.int (1 : Int32)), .unset, .unset] [(.int (1 : Int32)), (.ref a1)])) rfl rfl (hb hby d5_82) t k) ?_
    show own_Goes _ _ _ _ _ _ _ s₁ (mkF m 83 #[.val (.ref a1), .val (.int (0 : Int32)), .val (.ref aN), .val (.int (0 : Int32)), .val (.int (4 : Int32)), .val (.int (1 : Int32)), .unset, .unset] [(.int x1)])
    refine own_go (fun _ k => XS.aloadN X0.here hx rfl (hb hby d5_83) rfl rfl k) ?_
    show own_Goes _ _ _ _ _ _ _ s₁ (mkF m 84 #[.val (.ref a1), .val (.int (0 : Int32)), .val (.ref aN), .val (.int (0 : Int32)), .val (.int (4 : Int32)), .val (.int (1 : Int32)), .unset, .unset] [(.ref aN), (.int x1)])
    refine own_go (fun _ k => XS.iloadN X0.here hx rfl (hb hby d5_84) rfl k) ?_
    show own_Goes _ _ _ _ _ _ _ s₁ (mkF m 85 #[.val (.ref a1), .val (.int (0 : Int32)), .val (.ref aN), .val (.int (0 : Int32)), .val (.int (4 : Int32)), .val (.int (1 : Int32)), .unset, .unset] [(.int (0 : Int32)), (.ref aN), (.int x1)])
    refine own_go (fun _ k => XS.iload X0.here hx rfl (hb hby d5_85) rfl k) ?_
    show own_Goes _ _ _ _ _ _ _ s₁ (mkF m 87 #[.val (.ref a1), .val (.int (0 : Int32)), .val (.ref aN), .val (.int (0 : Int32)), .val (.int (4 : Int32)), .val (.int (1 : Int32)), .unset, .unset] [(.int (1 : Int32)), (.int (0 : Int32)), (.ref aN), (.int x1)])
    refine own_go (fun _ k => XS.iadd X0.here hx rfl (hb hby d5_87) rfl k) ?_
    show own_Goes _ _ _ _ _ _ _ s₁ (mkF m 88 #[.val (.ref a1), .val (.int (0 : Int32)), .val (.ref aN), .val (.int (0 : Int32)), .val (.int (4 : Int32)), .val (.int (1 : Int32)), .unset, .unset] [(.int (1 : Int32)), (.ref aN), (.int x1)])
    refine own_go (fun t k => X0.baloadBytes hx (j := (1 : Int32)) (v := (.int (109 : Int32))) (by rw [e0]; exact (AN.ext Od0.2).1) (State.isArrayOf_alike hZ.alike (AN.ext Od0.2).2.1) (AN.ext Od0.2).2.2 (by rw [SN]; decide) eN_1 (g := (mkF m 88 #[.val (.ref a1), .val (.int (0 : Int32)), .val (.ref aN), .val (.int (0 : Int32)), .val (.int (4 : Int32)), .val (.int (1 : Int32)), .unset, .unset] [(.int (1 : Int32)), (.ref aN), (.int x1)])) rfl rfl (hb hby d5_88) t k) ?_
    show own_Goes _ _ _ _ _ _ _ s₁ (mkF m 89 #[.val (.ref a1), .val (.int (0 : Int32)), .val (.ref aN), .val (.int (0 : Int32)), .val (.int (4 : Int32)), .val (.int (1 : Int32)), .unset, .unset] [(.int (109 : Int32)), (.int x1)])
    by_cases hc89_1 : x1 = (109 : Int32)
    · refine own_go (fun _ k => XS.icmpYes X0.here hx rfl (pc0 := 89) (pc' := 95) rfl (hb hby d5_89) rfl (teq hc89_1).1 (by decide) (by decide) k) ?_
      show own_Goes _ _ _ _ _ _ _ s₁ (mkF m 95 #[.val (.ref a1), .val (.int (0 : Int32)), .val (.ref aN), .val (.int (0 : Int32)), .val (.int (4 : Int32)), .val (.int (1 : Int32)), .unset, .unset] [])
      refine own_go (fun _ k => XS.iinc X0.here hx rfl (hb hby d5_95) rfl (l' := #[.val (.ref a1), .val (.int (0 : Int32)), .val (.ref aN), .val (.int (0 : Int32)), .val (.int (4 : Int32)), .val (.int (2 : Int32)), .unset, .unset]) rfl k) ?_
      show own_Goes _ _ _ _ _ _ _ s₁ (mkF m 98 #[.val (.ref a1), .val (.int (0 : Int32)), .val (.ref aN), .val (.int (0 : Int32)), .val (.int (4 : Int32)), .val (.int (2 : Int32)), .unset, .unset] [])
      refine own_go (fun _ k => XS.goto X0.here hx rfl (pc0 := 98) (pc' := 70) rfl (hb hby d5_98) (by decide) (by decide) k) ?_
      show own_Goes _ _ _ _ _ _ _ s₁ (mkF m 70 #[.val (.ref a1), .val (.int (0 : Int32)), .val (.ref aN), .val (.int (0 : Int32)), .val (.int (4 : Int32)), .val (.int (2 : Int32)), .unset, .unset] [])
      refine own_go (fun _ k => XS.iload X0.here hx rfl (hb hby d5_70) rfl k) ?_
      show own_Goes _ _ _ _ _ _ _ s₁ (mkF m 72 #[.val (.ref a1), .val (.int (0 : Int32)), .val (.ref aN), .val (.int (0 : Int32)), .val (.int (4 : Int32)), .val (.int (2 : Int32)), .unset, .unset] [(.int (2 : Int32))])
      refine own_go (fun _ k => XS.iload X0.here hx rfl (hb hby d5_72) rfl k) ?_
      show own_Goes _ _ _ _ _ _ _ s₁ (mkF m 74 #[.val (.ref a1), .val (.int (0 : Int32)), .val (.ref aN), .val (.int (0 : Int32)), .val (.int (4 : Int32)), .val (.int (2 : Int32)), .unset, .unset] [(.int (4 : Int32)), (.int (2 : Int32))])
      refine own_go (fun _ k => XS.icmpNo X0.here hx rfl (hb hby d5_74) rfl (tlt (by decide : (2 : Int32) < (4 : Int32))).2.1 k) ?_
      show own_Goes _ _ _ _ _ _ _ s₁ (mkF m 77 #[.val (.ref a1), .val (.int (0 : Int32)), .val (.ref aN), .val (.int (0 : Int32)), .val (.int (4 : Int32)), .val (.int (2 : Int32)), .unset, .unset] [])
      refine own_go (fun _ k => XS.aloadN X0.here hx rfl (hb hby d5_77) rfl rfl k) ?_
      show own_Goes _ _ _ _ _ _ _ s₁ (mkF m 78 #[.val (.ref a1), .val (.int (0 : Int32)), .val (.ref aN), .val (.int (0 : Int32)), .val (.int (4 : Int32)), .val (.int (2 : Int32)), .unset, .unset] [(.ref a1)])
      refine own_go (fun _ k => XS.iloadN X0.here hx rfl (hb hby d5_78) rfl k) ?_
      show own_Goes _ _ _ _ _ _ _ s₁ (mkF m 79 #[.val (.ref a1), .val (.int (0 : Int32)), .val (.ref aN), .val (.int (0 : Int32)), .val (.int (4 : Int32)), .val (.int (2 : Int32)), .unset, .unset] [(.int (0 : Int32)), (.ref a1)])
      refine own_go (fun _ k => XS.iload X0.here hx rfl (hb hby d5_79) rfl k) ?_
      show own_Goes _ _ _ _ _ _ _ s₁ (mkF m 81 #[.val (.ref a1), .val (.int (0 : Int32)), .val (.ref aN), .val (.int (0 : Int32)), .val (.int (4 : Int32)), .val (.int (2 : Int32)), .unset, .unset] [(.int (2 : Int32)), (.int (0 : Int32)), (.ref a1)])
      refine own_go (fun _ k => XS.iadd X0.here hx rfl (hb hby d5_81) rfl k) ?_
      show own_Goes _ _ _ _ _ _ _ s₁ (mkF m 82 #[.val (.ref a1), .val (.int (0 : Int32)), .val (.ref aN), .val (.int (0 : Int32)), .val (.int (4 : Int32)), .val (.int (2 : Int32)), .unset, .unset] [(.int (2 : Int32)), (.ref a1)])
      refine own_go (fun t k => X0.baloadBytes hx (j := (2 : Int32)) (v := (.int x2)) (by rw [e0]; exact A1.1) (State.isArrayOf_alike hZ.alike A1.2.1) A1.2.2 (own_in S1 hp9 h4 (by decide) (by decide)) e1_2 (g := (mkF m 82 #[.val (.ref a1), .val (.int (0 : Int32)), .val (.ref aN), .val (.int (0 : Int32)), .val (.int (4 : Int32)), .val (.int (2 : Int32)), .unset, .unset] [(.int (2 : Int32)), (.ref a1)])) rfl rfl (hb hby d5_82) t k) ?_
      show own_Goes _ _ _ _ _ _ _ s₁ (mkF m 83 #[.val (.ref a1), .val (.int (0 : Int32)), .val (.ref aN), .val (.int (0 : Int32)), .val (.int (4 : Int32)), .val (.int (2 : Int32)), .unset, .unset] [(.int x2)])
      refine own_go (fun _ k => XS.aloadN X0.here hx rfl (hb hby d5_83) rfl rfl k) ?_
      show own_Goes _ _ _ _ _ _ _ s₁ (mkF m 84 #[.val (.ref a1), .val (.int (0 : Int32)), .val (.ref aN), .val (.int (0 : Int32)), .val (.int (4 : Int32)), .val (.int (2 : Int32)), .unset, .unset] [(.ref aN), (.int x2)])
      refine own_go (fun _ k => XS.iloadN X0.here hx rfl (hb hby d5_84) rfl k) ?_
      show own_Goes _ _ _ _ _ _ _ s₁ (mkF m 85 #[.val (.ref a1), .val (.int (0 : Int32)), .val (.ref aN), .val (.int (0 : Int32)), .val (.int (4 : Int32)), .val (.int (2 : Int32)), .unset, .unset] [(.int (0 : Int32)), (.ref aN), (.int x2)])
      refine own_go (fun _ k => XS.iload X0.here hx rfl (hb hby d5_85) rfl k) ?_
      show own_Goes _ _ _ _ _ _ _ s₁ (mkF m 87 #[.val (.ref a1), .val (.int (0 : Int32)), .val (.ref aN), .val (.int (0 : Int32)), .val (.int (4 : Int32)), .val (.int (2 : Int32)), .unset, .unset] [(.int (2 : Int32)), (.int (0 : Int32)), (.ref aN), (.int x2)])
      refine own_go (fun _ k => XS.iadd X0.here hx rfl (hb hby d5_87) rfl k) ?_
      show own_Goes _ _ _ _ _ _ _ s₁ (mkF m 88 #[.val (.ref a1), .val (.int (0 : Int32)), .val (.ref aN), .val (.int (0 : Int32)), .val (.int (4 : Int32)), .val (.int (2 : Int32)), .unset, .unset] [(.int (2 : Int32)), (.ref aN), (.int x2)])
      refine own_go (fun t k => X0.baloadBytes hx (j := (2 : Int32)) (v := (.int (105 : Int32))) (by rw [e0]; exact (AN.ext Od0.2).1) (State.isArrayOf_alike hZ.alike (AN.ext Od0.2).2.1) (AN.ext Od0.2).2.2 (by rw [SN]; decide) eN_2 (g := (mkF m 88 #[.val (.ref a1), .val (.int (0 : Int32)), .val (.ref aN), .val (.int (0 : Int32)), .val (.int (4 : Int32)), .val (.int (2 : Int32)), .unset, .unset] [(.int (2 : Int32)), (.ref aN), (.int x2)])) rfl rfl (hb hby d5_88) t k) ?_
      show own_Goes _ _ _ _ _ _ _ s₁ (mkF m 89 #[.val (.ref a1), .val (.int (0 : Int32)), .val (.ref aN), .val (.int (0 : Int32)), .val (.int (4 : Int32)), .val (.int (2 : Int32)), .unset, .unset] [(.int (105 : Int32)), (.int x2)])
      by_cases hc89_2 : x2 = (105 : Int32)
      · refine own_go (fun _ k => XS.icmpYes X0.here hx rfl (pc0 := 89) (pc' := 95) rfl (hb hby d5_89) rfl (teq hc89_2).1 (by decide) (by decide) k) ?_
        show own_Goes _ _ _ _ _ _ _ s₁ (mkF m 95 #[.val (.ref a1), .val (.int (0 : Int32)), .val (.ref aN), .val (.int (0 : Int32)), .val (.int (4 : Int32)), .val (.int (2 : Int32)), .unset, .unset] [])
        refine own_go (fun _ k => XS.iinc X0.here hx rfl (hb hby d5_95) rfl (l' := #[.val (.ref a1), .val (.int (0 : Int32)), .val (.ref aN), .val (.int (0 : Int32)), .val (.int (4 : Int32)), .val (.int (3 : Int32)), .unset, .unset]) rfl k) ?_
        show own_Goes _ _ _ _ _ _ _ s₁ (mkF m 98 #[.val (.ref a1), .val (.int (0 : Int32)), .val (.ref aN), .val (.int (0 : Int32)), .val (.int (4 : Int32)), .val (.int (3 : Int32)), .unset, .unset] [])
        refine own_go (fun _ k => XS.goto X0.here hx rfl (pc0 := 98) (pc' := 70) rfl (hb hby d5_98) (by decide) (by decide) k) ?_
        show own_Goes _ _ _ _ _ _ _ s₁ (mkF m 70 #[.val (.ref a1), .val (.int (0 : Int32)), .val (.ref aN), .val (.int (0 : Int32)), .val (.int (4 : Int32)), .val (.int (3 : Int32)), .unset, .unset] [])
        refine own_go (fun _ k => XS.iload X0.here hx rfl (hb hby d5_70) rfl k) ?_
        show own_Goes _ _ _ _ _ _ _ s₁ (mkF m 72 #[.val (.ref a1), .val (.int (0 : Int32)), .val (.ref aN), .val (.int (0 : Int32)), .val (.int (4 : Int32)), .val (.int (3 : Int32)), .unset, .unset] [(.int (3 : Int32))])
        refine own_go (fun _ k => XS.iload X0.here hx rfl (hb hby d5_72) rfl k) ?_
        show own_Goes _ _ _ _ _ _ _ s₁ (mkF m 74 #[.val (.ref a1), .val (.int (0 : Int32)), .val (.ref aN), .val (.int (0 : Int32)), .val (.int (4 : Int32)), .val (.int (3 : Int32)), .unset, .unset] [(.int (4 : Int32)), (.int (3 : Int32))])
        refine own_go (fun _ k => XS.icmpNo X0.here hx rfl (hb hby d5_74) rfl (tlt (by decide : (3 : Int32) < (4 : Int32))).2.1 k) ?_
        show own_Goes _ _ _ _ _ _ _ s₁ (mkF m 77 #[.val (.ref a1), .val (.int (0 : Int32)), .val (.ref aN), .val (.int (0 : Int32)), .val (.int (4 : Int32)), .val (.int (3 : Int32)), .unset, .unset] [])
        refine own_go (fun _ k => XS.aloadN X0.here hx rfl (hb hby d5_77) rfl rfl k) ?_
        show own_Goes _ _ _ _ _ _ _ s₁ (mkF m 78 #[.val (.ref a1), .val (.int (0 : Int32)), .val (.ref aN), .val (.int (0 : Int32)), .val (.int (4 : Int32)), .val (.int (3 : Int32)), .unset, .unset] [(.ref a1)])
        refine own_go (fun _ k => XS.iloadN X0.here hx rfl (hb hby d5_78) rfl k) ?_
        show own_Goes _ _ _ _ _ _ _ s₁ (mkF m 79 #[.val (.ref a1), .val (.int (0 : Int32)), .val (.ref aN), .val (.int (0 : Int32)), .val (.int (4 : Int32)), .val (.int (3 : Int32)), .unset, .unset] [(.int (0 : Int32)), (.ref a1)])
        refine own_go (fun _ k => XS.iload X0.here hx rfl (hb hby d5_79) rfl k) ?_
        show own_Goes _ _ _ _ _ _ _ s₁ (mkF m 81 #[.val (.ref a1), .val (.int (0 : Int32)), .val (.ref aN), .val (.int (0 : Int32)), .val (.int (4 : Int32)), .val (.int (3 : Int32)), .unset, .unset] [(.int (3 : Int32)), (.int (0 : Int32)), (.ref a1)])
        refine own_go (fun _ k => XS.iadd X0.here hx rfl (hb hby d5_81) rfl k) ?_
        show own_Goes _ _ _ _ _ _ _ s₁ (mkF m 82 #[.val (.ref a1), .val (.int (0 : Int32)), .val (.ref aN), .val (.int (0 : Int32)), .val (.int (4 : Int32)), .val (.int (3 : Int32)), .unset, .unset] [(.int (3 : Int32)), (.ref a1)])
        refine own_go (fun t k => X0.baloadBytes hx (j := (3 : Int32)) (v := (.int x3)) (by rw [e0]; exact A1.1) (State.isArrayOf_alike hZ.alike A1.2.1) A1.2.2 (own_in S1 hp9 h4 (by decide) (by decide)) e1_3 (g := (mkF m 82 #[.val (.ref a1), .val (.int (0 : Int32)), .val (.ref aN), .val (.int (0 : Int32)), .val (.int (4 : Int32)), .val (.int (3 : Int32)), .unset, .unset] [(.int (3 : Int32)), (.ref a1)])) rfl rfl (hb hby d5_82) t k) ?_
        show own_Goes _ _ _ _ _ _ _ s₁ (mkF m 83 #[.val (.ref a1), .val (.int (0 : Int32)), .val (.ref aN), .val (.int (0 : Int32)), .val (.int (4 : Int32)), .val (.int (3 : Int32)), .unset, .unset] [(.int x3)])
        refine own_go (fun _ k => XS.aloadN X0.here hx rfl (hb hby d5_83) rfl rfl k) ?_
        show own_Goes _ _ _ _ _ _ _ s₁ (mkF m 84 #[.val (.ref a1), .val (.int (0 : Int32)), .val (.ref aN), .val (.int (0 : Int32)), .val (.int (4 : Int32)), .val (.int (3 : Int32)), .unset, .unset] [(.ref aN), (.int x3)])
        refine own_go (fun _ k => XS.iloadN X0.here hx rfl (hb hby d5_84) rfl k) ?_
        show own_Goes _ _ _ _ _ _ _ s₁ (mkF m 85 #[.val (.ref a1), .val (.int (0 : Int32)), .val (.ref aN), .val (.int (0 : Int32)), .val (.int (4 : Int32)), .val (.int (3 : Int32)), .unset, .unset] [(.int (0 : Int32)), (.ref aN), (.int x3)])
        refine own_go (fun _ k => XS.iload X0.here hx rfl (hb hby d5_85) rfl k) ?_
        show own_Goes _ _ _ _ _ _ _ s₁ (mkF m 87 #[.val (.ref a1), .val (.int (0 : Int32)), .val (.ref aN), .val (.int (0 : Int32)), .val (.int (4 : Int32)), .val (.int (3 : Int32)), .unset, .unset] [(.int (3 : Int32)), (.int (0 : Int32)), (.ref aN), (.int x3)])
        refine own_go (fun _ k => XS.iadd X0.here hx rfl (hb hby d5_87) rfl k) ?_
        show own_Goes _ _ _ _ _ _ _ s₁ (mkF m 88 #[.val (.ref a1), .val (.int (0 : Int32)), .val (.ref aN), .val (.int (0 : Int32)), .val (.int (4 : Int32)), .val (.int (3 : Int32)), .unset, .unset] [(.int (3 : Int32)), (.ref aN), (.int x3)])
        refine own_go (fun t k => X0.baloadBytes hx (j := (3 : Int32)) (v := (.int (46 : Int32))) (by rw [e0]; exact (AN.ext Od0.2).1) (State.isArrayOf_alike hZ.alike (AN.ext Od0.2).2.1) (AN.ext Od0.2).2.2 (by rw [SN]; decide) eN_3 (g := (mkF m 88 #[.val (.ref a1), .val (.int (0 : Int32)), .val (.ref aN), .val (.int (0 : Int32)), .val (.int (4 : Int32)), .val (.int (3 : Int32)), .unset, .unset] [(.int (3 : Int32)), (.ref aN), (.int x3)])) rfl rfl (hb hby d5_88) t k) ?_
        show own_Goes _ _ _ _ _ _ _ s₁ (mkF m 89 #[.val (.ref a1), .val (.int (0 : Int32)), .val (.ref aN), .val (.int (0 : Int32)), .val (.int (4 : Int32)), .val (.int (3 : Int32)), .unset, .unset] [(.int (46 : Int32)), (.int x3)])
        by_cases hc89_3 : x3 = (46 : Int32)
        · refine own_go (fun _ k => XS.icmpYes X0.here hx rfl (pc0 := 89) (pc' := 95) rfl (hb hby d5_89) rfl (teq hc89_3).1 (by decide) (by decide) k) ?_
          show own_Goes _ _ _ _ _ _ _ s₁ (mkF m 95 #[.val (.ref a1), .val (.int (0 : Int32)), .val (.ref aN), .val (.int (0 : Int32)), .val (.int (4 : Int32)), .val (.int (3 : Int32)), .unset, .unset] [])
          refine own_go (fun _ k => XS.iinc X0.here hx rfl (hb hby d5_95) rfl (l' := #[.val (.ref a1), .val (.int (0 : Int32)), .val (.ref aN), .val (.int (0 : Int32)), .val (.int (4 : Int32)), .val (.int (4 : Int32)), .unset, .unset]) rfl k) ?_
          show own_Goes _ _ _ _ _ _ _ s₁ (mkF m 98 #[.val (.ref a1), .val (.int (0 : Int32)), .val (.ref aN), .val (.int (0 : Int32)), .val (.int (4 : Int32)), .val (.int (4 : Int32)), .unset, .unset] [])
          refine own_go (fun _ k => XS.goto X0.here hx rfl (pc0 := 98) (pc' := 70) rfl (hb hby d5_98) (by decide) (by decide) k) ?_
          show own_Goes _ _ _ _ _ _ _ s₁ (mkF m 70 #[.val (.ref a1), .val (.int (0 : Int32)), .val (.ref aN), .val (.int (0 : Int32)), .val (.int (4 : Int32)), .val (.int (4 : Int32)), .unset, .unset] [])
          refine own_go (fun _ k => XS.iload X0.here hx rfl (hb hby d5_70) rfl k) ?_
          show own_Goes _ _ _ _ _ _ _ s₁ (mkF m 72 #[.val (.ref a1), .val (.int (0 : Int32)), .val (.ref aN), .val (.int (0 : Int32)), .val (.int (4 : Int32)), .val (.int (4 : Int32)), .unset, .unset] [(.int (4 : Int32))])
          refine own_go (fun _ k => XS.iload X0.here hx rfl (hb hby d5_72) rfl k) ?_
          show own_Goes _ _ _ _ _ _ _ s₁ (mkF m 74 #[.val (.ref a1), .val (.int (0 : Int32)), .val (.ref aN), .val (.int (0 : Int32)), .val (.int (4 : Int32)), .val (.int (4 : Int32)), .unset, .unset] [(.int (4 : Int32)), (.int (4 : Int32))])
          refine own_go (fun _ k => XS.icmpYes X0.here hx rfl (pc0 := 74) (pc' := 101) rfl (hb hby d5_74) rfl (flt (by decide : ¬ ((4 : Int32) < (4 : Int32)))).2.1 (by decide) (by decide) k) ?_
          show own_Goes _ _ _ _ _ _ _ s₁ (mkF m 101 #[.val (.ref a1), .val (.int (0 : Int32)), .val (.ref aN), .val (.int (0 : Int32)), .val (.int (4 : Int32)), .val (.int (4 : Int32)), .unset, .unset] [])
          refine own_go (fun _ k => XS.iconst X0.here hx rfl (hb hby d5_101) k) ?_
          show own_Goes _ _ _ _ _ _ _ s₁ (mkF m 102 #[.val (.ref a1), .val (.int (0 : Int32)), .val (.ref aN), .val (.int (0 : Int32)), .val (.int (4 : Int32)), .val (.int (4 : Int32)), .unset, .unset] [(.int (-1 : Int32))])
          exact own_retI X0 hx hlk hret (hb hby d5_102) (by decide) (by decide) (by rw [e0]; exact ⟨by rw [own_mm, if_pos hc89, if_pos hc89_1, if_pos hc89_2, if_pos hc89_3] <;> rfl, N0, rfl⟩)
        · refine own_go (fun _ k => XS.icmpNo X0.here hx rfl (hb hby d5_89) rfl (feq hc89_3).1 k) ?_
          show own_Goes _ _ _ _ _ _ _ s₁ (mkF m 92 #[.val (.ref a1), .val (.int (0 : Int32)), .val (.ref aN), .val (.int (0 : Int32)), .val (.int (4 : Int32)), .val (.int (3 : Int32)), .unset, .unset] [])
          refine own_go (fun _ k => XS.iload X0.here hx rfl (hb hby d5_92) rfl k) ?_
          show own_Goes _ _ _ _ _ _ _ s₁ (mkF m 94 #[.val (.ref a1), .val (.int (0 : Int32)), .val (.ref aN), .val (.int (0 : Int32)), .val (.int (4 : Int32)), .val (.int (3 : Int32)), .unset, .unset] [(.int (3 : Int32))])
          exact own_retI X0 hx hlk hret (hb hby d5_94) (by decide) (by decide) (by rw [e0]; exact ⟨by rw [own_mm, if_pos hc89, if_pos hc89_1, if_pos hc89_2, if_neg hc89_3] <;> rfl, N0, rfl⟩)
      · refine own_go (fun _ k => XS.icmpNo X0.here hx rfl (hb hby d5_89) rfl (feq hc89_2).1 k) ?_
        show own_Goes _ _ _ _ _ _ _ s₁ (mkF m 92 #[.val (.ref a1), .val (.int (0 : Int32)), .val (.ref aN), .val (.int (0 : Int32)), .val (.int (4 : Int32)), .val (.int (2 : Int32)), .unset, .unset] [])
        refine own_go (fun _ k => XS.iload X0.here hx rfl (hb hby d5_92) rfl k) ?_
        show own_Goes _ _ _ _ _ _ _ s₁ (mkF m 94 #[.val (.ref a1), .val (.int (0 : Int32)), .val (.ref aN), .val (.int (0 : Int32)), .val (.int (4 : Int32)), .val (.int (2 : Int32)), .unset, .unset] [(.int (2 : Int32))])
        exact own_retI X0 hx hlk hret (hb hby d5_94) (by decide) (by decide) (by rw [e0]; exact ⟨by rw [own_mm, if_pos hc89, if_pos hc89_1, if_neg hc89_2] <;> rfl, N0, rfl⟩)
    · refine own_go (fun _ k => XS.icmpNo X0.here hx rfl (hb hby d5_89) rfl (feq hc89_1).1 k) ?_
      show own_Goes _ _ _ _ _ _ _ s₁ (mkF m 92 #[.val (.ref a1), .val (.int (0 : Int32)), .val (.ref aN), .val (.int (0 : Int32)), .val (.int (4 : Int32)), .val (.int (1 : Int32)), .unset, .unset] [])
      refine own_go (fun _ k => XS.iload X0.here hx rfl (hb hby d5_92) rfl k) ?_
      show own_Goes _ _ _ _ _ _ _ s₁ (mkF m 94 #[.val (.ref a1), .val (.int (0 : Int32)), .val (.ref aN), .val (.int (0 : Int32)), .val (.int (4 : Int32)), .val (.int (1 : Int32)), .unset, .unset] [(.int (1 : Int32))])
      exact own_retI X0 hx hlk hret (hb hby d5_94) (by decide) (by decide) (by rw [e0]; exact ⟨by rw [own_mm, if_pos hc89, if_neg hc89_1] <;> rfl, N0, rfl⟩)
  · refine own_go (fun _ k => XS.icmpNo X0.here hx rfl (hb hby d5_89) rfl (feq hc89).1 k) ?_
    show own_Goes _ _ _ _ _ _ _ s₁ (mkF m 92 #[.val (.ref a1), .val (.int (0 : Int32)), .val (.ref aN), .val (.int (0 : Int32)), .val (.int (4 : Int32)), .val (.int (0 : Int32)), .unset, .unset] [])
    refine own_go (fun _ k => XS.iload X0.here hx rfl (hb hby d5_92) rfl k) ?_
    show own_Goes _ _ _ _ _ _ _ s₁ (mkF m 94 #[.val (.ref a1), .val (.int (0 : Int32)), .val (.ref aN), .val (.int (0 : Int32)), .val (.int (4 : Int32)), .val (.int (0 : Int32)), .unset, .unset] [(.int (0 : Int32))])
    exact own_retI X0 hx hlk hret (hb hby d5_94) (by decide) (by decide) (by rw [e0]; exact ⟨by rw [own_mm, if_neg hc89] <;> rfl, N0, rfl⟩)
def Q_rm_eq (Z : State) (h0 : Heap) (n0 : Nat) (x0 x1 x2 x3 : Int32) (v : Option Value) (h : Heap) (L : List Loc) : Prop := v = some (.int (own_eq x0 x1 x2 x3)) ∧ Fr n0 L ∧ h = h0
set_option maxRecDepth 65536 in
set_option maxHeartbeats 40000000 in
theorem rm_eq (l : Launch) (Z : State) (a0 : Array Value) (hw : ∀ d ∈ tables_1, d.before a0 Z = true) (ws : List Jvm.Cond) (a1 aN : Addr) (cl cN : Cell) (p9 : Int32) (x0 x1 x2 x3 : Int32) (h0 : Heap) (n0 : Nat) (Z0 : n0 ≤ h0.size) (Od0 : Old Z n0 h0) (A1 : Arr Z h0 a1 cl .byte) (S1 : cl.slots.size = p9.toNatClampNeg) (hp9 : ¬ p9 < 0) (h4 : ¬ p9 < 4) (e1_0 : cl.slots[0]? = some (.int x0)) (e1_1 : cl.slots[1]? = some (.int x1)) (e1_2 : cl.slots[2]? = some (.int x2)) (e1_3 : cl.slots[3]? = some (.int x3)) (AN : Arr Z Z.heap aN cN .byte) (SN : cN.slots.size = 4) (eN_0 : cN.slots[0]? = some (.int (109 : Int32))) (eN_1 : cN.slots[1]? = some (.int (109 : Int32))) (eN_2 : cN.slots[2]? = some (.int (105 : Int32))) (eN_3 : cN.slots[3]? = some (.int (46 : Int32))) :
    MetFree l (⟨"java/util/Arrays", "equals", "([BII[BII)Z"⟩ : MethodName) (head1 (Jvm.Cond.code (⟨"java/util/Arrays", "equals", "([BII[BII)Z"⟩ : MethodName) jdk_65_method_90_code 8 (some .boolean) :: ws) ({ frames := 1, cells := 0, slots := 0, locals := 19 } : Room)) (fun a U => a = #[(.ref a1), (.int (0 : Int32)), (.int (4 : Int32)), (.ref aN), (.int (0 : Int32)), (.int (4 : Int32))] ∧ Z.Warmed39 U.vm ∧ U.heap = h0) (fun _ _ _ _ _ => True) (fun _ U o U' => ∃ rv rL, o = .returned rv ∧ Q_rm_eq Z h0 n0 x0 x1 x2 x3 rv U'.heap rL ∧ FrameEnd U o U' rL ({ frames := 1, cells := 0, slots := 0, locals := 19 } : Room).cells ({ frames := 1, cells := 0, slots := 0, locals := 19 } : Room).slots) := by
  refine own_met (y := (⟨"java/util/Arrays", "equals", "([BII[BII)Z"⟩ : MethodName)) (Q := Q_rm_eq Z h0 n0 x0 x1 x2 x3) (own := "java/util/Arrays") rfl pn_3 ?_
  intro p e s m below meth c s₁ C e0 X0
  obtain ⟨hx, hby, hml, hown, hnm, hret, hlk, hZ⟩ := C
  have N0 := Fr.nil n0
  rw [ef_3]
  show own_Goes _ _ _ _ _ _ _ s₁ (mkF m 0 #[.val (.ref a1), .val (.int (0 : Int32)), .val (.int (4 : Int32)), .val (.ref aN), .val (.int (0 : Int32)), .val (.int (4 : Int32)), .unset, .unset] [])
  refine own_go (fun _ k => XS.aloadN X0.here hx rfl (hb hby d3_0) rfl rfl k) ?_
  show own_Goes _ _ _ _ _ _ _ s₁ (mkF m 1 #[.val (.ref a1), .val (.int (0 : Int32)), .val (.int (4 : Int32)), .val (.ref aN), .val (.int (0 : Int32)), .val (.int (4 : Int32)), .unset, .unset] [(.ref a1)])
  refine own_go (fun t k => X0.arraylength hx (by rw [e0]; exact A1.1) (State.isArrayOf_alike hZ.alike A1.2.1) (g := (mkF m 1 #[.val (.ref a1), .val (.int (0 : Int32)), .val (.int (4 : Int32)), .val (.ref aN), .val (.int (0 : Int32)), .val (.int (4 : Int32)), .unset, .unset] [(.ref a1)])) rfl rfl (hb hby d3_1) t k) ?_
  rw [show cl.slots.size.toInt32 = p9 from (len_of S1 hp9)]
  show own_Goes _ _ _ _ _ _ _ s₁ (mkF m 2 #[.val (.ref a1), .val (.int (0 : Int32)), .val (.int (4 : Int32)), .val (.ref aN), .val (.int (0 : Int32)), .val (.int (4 : Int32)), .unset, .unset] [(.int p9)])
  refine own_go (fun _ k => XS.iloadN X0.here hx rfl (hb hby d3_2) rfl k) ?_
  show own_Goes _ _ _ _ _ _ _ s₁ (mkF m 3 #[.val (.ref a1), .val (.int (0 : Int32)), .val (.int (4 : Int32)), .val (.ref aN), .val (.int (0 : Int32)), .val (.int (4 : Int32)), .unset, .unset] [(.int (0 : Int32)), (.int p9)])
  refine own_go (fun _ k => XS.iloadN X0.here hx rfl (hb hby d3_3) rfl k) ?_
  show own_Goes _ _ _ _ _ _ _ s₁ (mkF m 4 #[.val (.ref a1), .val (.int (0 : Int32)), .val (.int (4 : Int32)), .val (.ref aN), .val (.int (0 : Int32)), .val (.int (4 : Int32)), .unset, .unset] [(.int (4 : Int32)), (.int (0 : Int32)), (.int p9)])
  obtain ⟨_, _, ⟨T1, L1, k1, n1⟩, -, X1, ⟨Lc1, hQ1, l1, y1, z1⟩, st1⟩ := Jvm.LawKit.callS X0 hx (y := (⟨"java/util/Arrays", "rangeCheck", "(III)V"⟩ : MethodName)) hown (mvT hZ (hw _ (List.mem_of_getElem? (i := 16) rfl))) (mvT hZ (hw _ (List.mem_of_getElem? (i := 17) rfl))) (mvT hZ (hw _ (List.mem_of_getElem? (i := 14) rfl))) (mvT hZ (hw _ (List.mem_of_getElem? (i := 18) rfl))) (by decide) (backOf (W := 0) (rm_rc l Z a0 hw [] p9 (0 : Int32) (4 : Int32) h0 n0 Z0 (by decide) (by decide) h4) hZ (hw _ (List.mem_of_getElem? (i := 18) rfl)) (hw _ (List.mem_of_getElem? (i := 14) rfl)) (by decide) (by decide)) (g := (mkF m 4 #[.val (.ref a1), .val (.int (0 : Int32)), .val (.int (4 : Int32)), .val (.ref aN), .val (.int (0 : Int32)), .val (.int (4 : Int32)), .unset, .unset] [(.int (4 : Int32)), (.int (0 : Int32)), (.int p9)])) rfl (by rw [hml]; rfl) (argsL := [(.int p9), (.int (0 : Int32)), (.int (4 : Int32))]) (rest := []) (lenOf pd_0 rfl) rfl (by show 2 * 0 + _ ≤ _; exact Nat.le_of_eq rfl) (hb hby d3_4) (fun _ _ => ⟨rfl, e0, (by decide : 0 + 0 ≤ _), (by decide : 0 + 0 ≤ _)⟩)
  dsimp only [Pt.U, Pt.locs, Pt.cells, Pt.slots] at X1 l1 y1 z1 st1 hQ1
  subst l1 y1 z1
  obtain ⟨rfl, N1q, e1⟩ := hQ1
  have N1 := Fr.app N0 N1q
  refine own_go st1 ?_
  show own_Goes _ _ _ _ _ _ _ T1 (mkF m 7 #[.val (.ref a1), .val (.int (0 : Int32)), .val (.int (4 : Int32)), .val (.ref aN), .val (.int (0 : Int32)), .val (.int (4 : Int32)), .unset, .unset] [])
  refine own_go (fun _ k => XS.aloadN X1.here hx rfl (hb hby d3_7) rfl rfl k) ?_
  show own_Goes _ _ _ _ _ _ _ T1 (mkF m 8 #[.val (.ref a1), .val (.int (0 : Int32)), .val (.int (4 : Int32)), .val (.ref aN), .val (.int (0 : Int32)), .val (.int (4 : Int32)), .unset, .unset] [(.ref aN)])
  refine own_go (fun t k => X1.arraylength hx (by rw [e1]; exact (AN.ext Od0.2).1) (State.isArrayOf_alike hZ.alike (AN.ext Od0.2).2.1) (g := (mkF m 8 #[.val (.ref a1), .val (.int (0 : Int32)), .val (.int (4 : Int32)), .val (.ref aN), .val (.int (0 : Int32)), .val (.int (4 : Int32)), .unset, .unset] [(.ref aN)])) rfl rfl (hb hby d3_8) t k) ?_
  rw [show cN.slots.size.toInt32 = (4 : Int32) from (by rw [SN]; rfl)]
  show own_Goes _ _ _ _ _ _ _ T1 (mkF m 9 #[.val (.ref a1), .val (.int (0 : Int32)), .val (.int (4 : Int32)), .val (.ref aN), .val (.int (0 : Int32)), .val (.int (4 : Int32)), .unset, .unset] [(.int (4 : Int32))])
  refine own_go (fun _ k => XS.iload X1.here hx rfl (hb hby d3_9) rfl k) ?_
  show own_Goes _ _ _ _ _ _ _ T1 (mkF m 11 #[.val (.ref a1), .val (.int (0 : Int32)), .val (.int (4 : Int32)), .val (.ref aN), .val (.int (0 : Int32)), .val (.int (4 : Int32)), .unset, .unset] [(.int (0 : Int32)), (.int (4 : Int32))])
  refine own_go (fun _ k => XS.iload X1.here hx rfl (hb hby d3_11) rfl k) ?_
  show own_Goes _ _ _ _ _ _ _ T1 (mkF m 13 #[.val (.ref a1), .val (.int (0 : Int32)), .val (.int (4 : Int32)), .val (.ref aN), .val (.int (0 : Int32)), .val (.int (4 : Int32)), .unset, .unset] [(.int (4 : Int32)), (.int (0 : Int32)), (.int (4 : Int32))])
  obtain ⟨_, _, ⟨T2, L2, k2, n2⟩, -, X2, ⟨Lc2, hQ2, l2, y2, z2⟩, st2⟩ := Jvm.LawKit.callS X1 hx (y := (⟨"java/util/Arrays", "rangeCheck", "(III)V"⟩ : MethodName)) hown (mvT hZ (hw _ (List.mem_of_getElem? (i := 16) rfl))) (mvT hZ (hw _ (List.mem_of_getElem? (i := 17) rfl))) (mvT hZ (hw _ (List.mem_of_getElem? (i := 14) rfl))) (mvT hZ (hw _ (List.mem_of_getElem? (i := 18) rfl))) (by decide) (backOf (W := 0) (rm_rc l Z a0 hw [] (4 : Int32) (0 : Int32) (4 : Int32) h0 n0 Z0 (by decide) (by decide) (by decide)) hZ (hw _ (List.mem_of_getElem? (i := 18) rfl)) (hw _ (List.mem_of_getElem? (i := 14) rfl)) (by decide) (by decide)) (g := (mkF m 13 #[.val (.ref a1), .val (.int (0 : Int32)), .val (.int (4 : Int32)), .val (.ref aN), .val (.int (0 : Int32)), .val (.int (4 : Int32)), .unset, .unset] [(.int (4 : Int32)), (.int (0 : Int32)), (.int (4 : Int32))])) rfl (by rw [hml]; rfl) (argsL := [(.int (4 : Int32)), (.int (0 : Int32)), (.int (4 : Int32))]) (rest := []) (lenOf pd_0 rfl) rfl (by show 2 * 0 + _ ≤ _; exact Nat.le_of_eq rfl) (hb hby d3_13) (fun _ _ => ⟨rfl, e1, (by decide : 0 + 0 + 0 ≤ _), (by decide : 0 + 0 + 0 ≤ _)⟩)
  dsimp only [Pt.U, Pt.locs, Pt.cells, Pt.slots] at X2 l2 y2 z2 st2 hQ2
  subst l2 y2 z2
  obtain ⟨rfl, N2q, e2⟩ := hQ2
  have N2 := Fr.app N1 N2q
  refine own_go st2 ?_
  show own_Goes _ _ _ _ _ _ _ T2 (mkF m 16 #[.val (.ref a1), .val (.int (0 : Int32)), .val (.int (4 : Int32)), .val (.ref aN), .val (.int (0 : Int32)), .val (.int (4 : Int32)), .unset, .unset] [])
  refine own_go (fun _ k => XS.iloadN X2.here hx rfl (hb hby d3_16) rfl k) ?_
  show own_Goes _ _ _ _ _ _ _ T2 (mkF m 17 #[.val (.ref a1), .val (.int (0 : Int32)), .val (.int (4 : Int32)), .val (.ref aN), .val (.int (0 : Int32)), .val (.int (4 : Int32)), .unset, .unset] [(.int (4 : Int32))])
  refine own_go (fun _ k => XS.iloadN X2.here hx rfl (hb hby d3_17) rfl k) ?_
  show own_Goes _ _ _ _ _ _ _ T2 (mkF m 18 #[.val (.ref a1), .val (.int (0 : Int32)), .val (.int (4 : Int32)), .val (.ref aN), .val (.int (0 : Int32)), .val (.int (4 : Int32)), .unset, .unset] [(.int (0 : Int32)), (.int (4 : Int32))])
  refine own_go (fun _ k => XS.isub X2.here hx rfl (hb hby d3_18) rfl k) ?_
  show own_Goes _ _ _ _ _ _ _ T2 (mkF m 19 #[.val (.ref a1), .val (.int (0 : Int32)), .val (.int (4 : Int32)), .val (.ref aN), .val (.int (0 : Int32)), .val (.int (4 : Int32)), .unset, .unset] [(.int (4 : Int32))])
  refine own_go (fun _ k => XS.istore X2.here hx rfl (hb hby d3_19) rfl (l' := #[.val (.ref a1), .val (.int (0 : Int32)), .val (.int (4 : Int32)), .val (.ref aN), .val (.int (0 : Int32)), .val (.int (4 : Int32)), .val (.int (4 : Int32)), .unset]) rfl k) ?_
  show own_Goes _ _ _ _ _ _ _ T2 (mkF m 21 #[.val (.ref a1), .val (.int (0 : Int32)), .val (.int (4 : Int32)), .val (.ref aN), .val (.int (0 : Int32)), .val (.int (4 : Int32)), .val (.int (4 : Int32)), .unset] [])
  refine own_go (fun _ k => XS.iload X2.here hx rfl (hb hby d3_21) rfl k) ?_
  show own_Goes _ _ _ _ _ _ _ T2 (mkF m 23 #[.val (.ref a1), .val (.int (0 : Int32)), .val (.int (4 : Int32)), .val (.ref aN), .val (.int (0 : Int32)), .val (.int (4 : Int32)), .val (.int (4 : Int32)), .unset] [(.int (4 : Int32))])
  refine own_go (fun _ k => XS.iload X2.here hx rfl (hb hby d3_23) rfl k) ?_
  show own_Goes _ _ _ _ _ _ _ T2 (mkF m 25 #[.val (.ref a1), .val (.int (0 : Int32)), .val (.int (4 : Int32)), .val (.ref aN), .val (.int (0 : Int32)), .val (.int (4 : Int32)), .val (.int (4 : Int32)), .unset] [(.int (0 : Int32)), (.int (4 : Int32))])
  refine own_go (fun _ k => XS.isub X2.here hx rfl (hb hby d3_25) rfl k) ?_
  show own_Goes _ _ _ _ _ _ _ T2 (mkF m 26 #[.val (.ref a1), .val (.int (0 : Int32)), .val (.int (4 : Int32)), .val (.ref aN), .val (.int (0 : Int32)), .val (.int (4 : Int32)), .val (.int (4 : Int32)), .unset] [(.int (4 : Int32))])
  refine own_go (fun _ k => XS.istore X2.here hx rfl (hb hby d3_26) rfl (l' := #[.val (.ref a1), .val (.int (0 : Int32)), .val (.int (4 : Int32)), .val (.ref aN), .val (.int (0 : Int32)), .val (.int (4 : Int32)), .val (.int (4 : Int32)), .val (.int (4 : Int32))]) rfl k) ?_
  show own_Goes _ _ _ _ _ _ _ T2 (mkF m 28 #[.val (.ref a1), .val (.int (0 : Int32)), .val (.int (4 : Int32)), .val (.ref aN), .val (.int (0 : Int32)), .val (.int (4 : Int32)), .val (.int (4 : Int32)), .val (.int (4 : Int32))] [])
  refine own_go (fun _ k => XS.iload X2.here hx rfl (hb hby d3_28) rfl k) ?_
  show own_Goes _ _ _ _ _ _ _ T2 (mkF m 30 #[.val (.ref a1), .val (.int (0 : Int32)), .val (.int (4 : Int32)), .val (.ref aN), .val (.int (0 : Int32)), .val (.int (4 : Int32)), .val (.int (4 : Int32)), .val (.int (4 : Int32))] [(.int (4 : Int32))])
  refine own_go (fun _ k => XS.iload X2.here hx rfl (hb hby d3_30) rfl k) ?_
  show own_Goes _ _ _ _ _ _ _ T2 (mkF m 32 #[.val (.ref a1), .val (.int (0 : Int32)), .val (.int (4 : Int32)), .val (.ref aN), .val (.int (0 : Int32)), .val (.int (4 : Int32)), .val (.int (4 : Int32)), .val (.int (4 : Int32))] [(.int (4 : Int32)), (.int (4 : Int32))])
  refine own_go (fun _ k => XS.icmpYes X2.here hx rfl (pc0 := 32) (pc' := 37) rfl (hb hby d3_32) rfl (teq (by decide : (4 : Int32) = (4 : Int32))).1 (by decide) (by decide) k) ?_
  show own_Goes _ _ _ _ _ _ _ T2 (mkF m 37 #[.val (.ref a1), .val (.int (0 : Int32)), .val (.int (4 : Int32)), .val (.ref aN), .val (.int (0 : Int32)), .val (.int (4 : Int32)), .val (.int (4 : Int32)), .val (.int (4 : Int32))] [])
  refine own_go (fun _ k => XS.aloadN X2.here hx rfl (hb hby d3_37) rfl rfl k) ?_
  show own_Goes _ _ _ _ _ _ _ T2 (mkF m 38 #[.val (.ref a1), .val (.int (0 : Int32)), .val (.int (4 : Int32)), .val (.ref aN), .val (.int (0 : Int32)), .val (.int (4 : Int32)), .val (.int (4 : Int32)), .val (.int (4 : Int32))] [(.ref a1)])
  refine own_go (fun _ k => XS.iloadN X2.here hx rfl (hb hby d3_38) rfl k) ?_
  show own_Goes _ _ _ _ _ _ _ T2 (mkF m 39 #[.val (.ref a1), .val (.int (0 : Int32)), .val (.int (4 : Int32)), .val (.ref aN), .val (.int (0 : Int32)), .val (.int (4 : Int32)), .val (.int (4 : Int32)), .val (.int (4 : Int32))] [(.int (0 : Int32)), (.ref a1)])
  refine own_go (fun _ k => XS.aloadN X2.here hx rfl (hb hby d3_39) rfl rfl k) ?_
  show own_Goes _ _ _ _ _ _ _ T2 (mkF m 40 #[.val (.ref a1), .val (.int (0 : Int32)), .val (.int (4 : Int32)), .val (.ref aN), .val (.int (0 : Int32)), .val (.int (4 : Int32)), .val (.int (4 : Int32)), .val (.int (4 : Int32))] [(.ref aN), (.int (0 : Int32)), (.ref a1)])
  refine own_go (fun _ k => XS.iload X2.here hx rfl (hb hby d3_40) rfl k) ?_
  show own_Goes _ _ _ _ _ _ _ T2 (mkF m 42 #[.val (.ref a1), .val (.int (0 : Int32)), .val (.int (4 : Int32)), .val (.ref aN), .val (.int (0 : Int32)), .val (.int (4 : Int32)), .val (.int (4 : Int32)), .val (.int (4 : Int32))] [(.int (0 : Int32)), (.ref aN), (.int (0 : Int32)), (.ref a1)])
  refine own_go (fun _ k => XS.iload X2.here hx rfl (hb hby d3_42) rfl k) ?_
  show own_Goes _ _ _ _ _ _ _ T2 (mkF m 44 #[.val (.ref a1), .val (.int (0 : Int32)), .val (.int (4 : Int32)), .val (.ref aN), .val (.int (0 : Int32)), .val (.int (4 : Int32)), .val (.int (4 : Int32)), .val (.int (4 : Int32))] [(.int (4 : Int32)), (.int (0 : Int32)), (.ref aN), (.int (0 : Int32)), (.ref a1)])
  obtain ⟨_, _, ⟨T3, L3, k3, n3⟩, -, X3, ⟨Lc3, hQ3, l3, y3, z3⟩, st3⟩ := Jvm.LawKit.callS X2 hx (y := (⟨"jdk/internal/util/ArraysSupport", "mismatch", "([BI[BII)I"⟩ : MethodName)) hown (mvT hZ (hw _ (List.mem_of_getElem? (i := 19) rfl))) (mvT hZ (hw _ (List.mem_of_getElem? (i := 20) rfl))) (mvT hZ (hw _ (List.mem_of_getElem? (i := 21) rfl))) (mvT hZ (hw _ (List.mem_of_getElem? (i := 22) rfl))) (by decide) (backOf (W := 0) (rm_mm l Z a0 hw [] a1 aN cl cN p9 x0 x1 x2 x3 h0 n0 Z0 Od0 A1 S1 hp9 h4 e1_0 e1_1 e1_2 e1_3 AN SN eN_0 eN_1 eN_2 eN_3) hZ (hw _ (List.mem_of_getElem? (i := 22) rfl)) (hw _ (List.mem_of_getElem? (i := 21) rfl)) (by decide) (by decide)) (g := (mkF m 44 #[.val (.ref a1), .val (.int (0 : Int32)), .val (.int (4 : Int32)), .val (.ref aN), .val (.int (0 : Int32)), .val (.int (4 : Int32)), .val (.int (4 : Int32)), .val (.int (4 : Int32))] [(.int (4 : Int32)), (.int (0 : Int32)), (.ref aN), (.int (0 : Int32)), (.ref a1)])) rfl (by rw [hml]; rfl) (argsL := [(.ref a1), (.int (0 : Int32)), (.ref aN), (.int (0 : Int32)), (.int (4 : Int32))]) (rest := []) (lenOf pd_1 rfl) rfl (by show 2 * 0 + _ ≤ _; exact Nat.le_of_eq rfl) (hb hby d3_44) (fun _ _ => ⟨rfl, e2, (by decide : 0 + 0 + 0 + 0 ≤ _), (by decide : 0 + 0 + 0 + 0 ≤ _)⟩)
  dsimp only [Pt.U, Pt.locs, Pt.cells, Pt.slots] at X3 l3 y3 z3 st3 hQ3
  subst l3 y3 z3
  obtain ⟨rfl, N3q, e3⟩ := hQ3
  have N3 := Fr.app N2 N3q
  refine own_go st3 ?_
  show own_Goes _ _ _ _ _ _ _ T3 (mkF m 47 #[.val (.ref a1), .val (.int (0 : Int32)), .val (.int (4 : Int32)), .val (.ref aN), .val (.int (0 : Int32)), .val (.int (4 : Int32)), .val (.int (4 : Int32)), .val (.int (4 : Int32))] [(.int (own_mm x0 x1 x2 x3))])
  by_cases hc47 : (own_mm x0 x1 x2 x3) < (0 : Int32)
  · refine own_go (fun _ k => XS.ifNo X3.here hx rfl (hb hby d3_47) rfl ((if0 _ _).trans (tlt hc47).2.1) k) ?_
    show own_Goes _ _ _ _ _ _ _ T3 (mkF m 50 #[.val (.ref a1), .val (.int (0 : Int32)), .val (.int (4 : Int32)), .val (.ref aN), .val (.int (0 : Int32)), .val (.int (4 : Int32)), .val (.int (4 : Int32)), .val (.int (4 : Int32))] [])
    refine own_go (fun _ k => XS.iconst X3.here hx rfl (hb hby d3_50) k) ?_
    show own_Goes _ _ _ _ _ _ _ T3 (mkF m 51 #[.val (.ref a1), .val (.int (0 : Int32)), .val (.int (4 : Int32)), .val (.ref aN), .val (.int (0 : Int32)), .val (.int (4 : Int32)), .val (.int (4 : Int32)), .val (.int (4 : Int32))] [(.int (1 : Int32))])
    refine own_go (fun _ k => XS.goto X3.here hx rfl (pc0 := 51) (pc' := 55) rfl (hb hby d3_51) (by decide) (by decide) k) ?_
    show own_Goes _ _ _ _ _ _ _ T3 (mkF m 55 #[.val (.ref a1), .val (.int (0 : Int32)), .val (.int (4 : Int32)), .val (.ref aN), .val (.int (0 : Int32)), .val (.int (4 : Int32)), .val (.int (4 : Int32)), .val (.int (4 : Int32))] [(.int (1 : Int32))])
    exact own_retN X3 hx (t := .boolean) hlk hret (by simp) (hb hby d3_55) (by decide) (by decide) (by rw [e3]; exact ⟨by rw [own_eq_mm, if_pos hc47] <;> rfl, N3, rfl⟩)
  · refine own_go (fun _ k => XS.ifYes X3.here hx rfl (pc0 := 47) (pc' := 54) rfl (hb hby d3_47) rfl ((if0 _ _).trans (flt hc47).2.1) (by decide) (by decide) k) ?_
    show own_Goes _ _ _ _ _ _ _ T3 (mkF m 54 #[.val (.ref a1), .val (.int (0 : Int32)), .val (.int (4 : Int32)), .val (.ref aN), .val (.int (0 : Int32)), .val (.int (4 : Int32)), .val (.int (4 : Int32)), .val (.int (4 : Int32))] [])
    refine own_go (fun _ k => XS.iconst X3.here hx rfl (hb hby d3_54) k) ?_
    show own_Goes _ _ _ _ _ _ _ T3 (mkF m 55 #[.val (.ref a1), .val (.int (0 : Int32)), .val (.int (4 : Int32)), .val (.ref aN), .val (.int (0 : Int32)), .val (.int (4 : Int32)), .val (.int (4 : Int32)), .val (.int (4 : Int32))] [(.int (0 : Int32))])
    exact own_retN X3 hx (t := .boolean) hlk hret (by simp) (hb hby d3_55) (by decide) (by decide) (by rw [e3]; exact ⟨by rw [own_eq_mm, if_neg hc47] <;> rfl, N3, rfl⟩)
def Q_rm_nsL (Z : State) (h0 : Heap) (n0 : Nat) (x0 x1 x2 x3 : Int32) (v : Option Value) (h : Heap) (L : List Loc) : Prop := v = some (.int (own_eq x0 x1 x2 x3)) ∧ Fr n0 L ∧ h = h0
set_option maxRecDepth 65536 in
set_option maxHeartbeats 40000000 in
theorem rm_nsL (l : Launch) (Z : State) (a0 : Array Value) (hw : ∀ d ∈ tables_1, d.before a0 Z = true) (ws : List Jvm.Cond) (a1 aN : Addr) (cl cN : Cell) (p9 : Int32) (x0 x1 x2 x3 : Int32) (h0 : Heap) (n0 : Nat) (Z0 : n0 ≤ h0.size) (Od0 : Old Z n0 h0) (A1 : Arr Z h0 a1 cl .byte) (S1 : cl.slots.size = p9.toNatClampNeg) (hp9 : ¬ p9 < 0) (h4 : ¬ p9 < 4) (e1_0 : cl.slots[0]? = some (.int x0)) (e1_1 : cl.slots[1]? = some (.int x1)) (e1_2 : cl.slots[2]? = some (.int x2)) (e1_3 : cl.slots[3]? = some (.int x3)) (AN : Arr Z Z.heap aN cN .byte) (SN : cN.slots.size = 4) (eN_0 : cN.slots[0]? = some (.int (109 : Int32))) (eN_1 : cN.slots[1]? = some (.int (109 : Int32))) (eN_2 : cN.slots[2]? = some (.int (105 : Int32))) (eN_3 : cN.slots[3]? = some (.int (46 : Int32))) (SS : Sta Z Z.heap "com/example/wire3/wire3/core/mmi/MmiService" "NAMESPACE" "[B" (.ref aN)) :
    MetFree l (⟨"com/example/wire3/wire3/core/mmi/MmiService", "inNamespace", "([B)Z"⟩ : MethodName) (head1 (Jvm.Cond.code (⟨"com/example/wire3/wire3/core/mmi/MmiService", "inNamespace", "([B)Z"⟩ : MethodName) prog_11_method_5_code 1 (some .boolean) :: ws) ({ frames := 2, cells := 0, slots := 0, locals := 38 } : Room)) (fun a U => a = #[(.ref a1)] ∧ Z.Warmed39 U.vm ∧ U.heap = h0) (fun _ _ _ _ _ => True) (fun _ U o U' => ∃ rv rL, o = .returned rv ∧ Q_rm_nsL Z h0 n0 x0 x1 x2 x3 rv U'.heap rL ∧ FrameEnd U o U' rL ({ frames := 2, cells := 0, slots := 0, locals := 38 } : Room).cells ({ frames := 2, cells := 0, slots := 0, locals := 38 } : Room).slots) := by
  refine own_met (y := (⟨"com/example/wire3/wire3/core/mmi/MmiService", "inNamespace", "([B)Z"⟩ : MethodName)) (Q := Q_rm_nsL Z h0 n0 x0 x1 x2 x3) (own := "com/example/wire3/wire3/core/mmi/MmiService") rfl pn_1 ?_
  intro p e s m below meth c s₁ C e0 X0
  obtain ⟨hx, hby, hml, hown, hnm, hret, hlk, hZ⟩ := C
  have N0 := Fr.nil n0
  rw [ef_1]
  show own_Goes _ _ _ _ _ _ _ s₁ (mkF m 0 #[.val (.ref a1)] [])
  refine own_go (fun _ k => XS.aloadN X0.here hx rfl (hb hby d1_0) rfl rfl k) ?_
  show own_Goes _ _ _ _ _ _ _ s₁ (mkF m 1 #[.val (.ref a1)] [(.ref a1)])
  refine own_go (fun t k => X0.arraylength hx (by rw [e0]; exact A1.1) (State.isArrayOf_alike hZ.alike A1.2.1) (g := (mkF m 1 #[.val (.ref a1)] [(.ref a1)])) rfl rfl (hb hby d1_1) t k) ?_
  rw [show cl.slots.size.toInt32 = p9 from (len_of S1 hp9)]
  show own_Goes _ _ _ _ _ _ _ s₁ (mkF m 2 #[.val (.ref a1)] [(.int p9)])
  obtain ⟨T1, X1, e1, st1⟩ := getS2 X0 hx hZ hown (host := "") (Or.inl (hw _ (List.mem_of_getElem? (i := 6) rfl))) Via.refl e0 (SS.ext Od0.2) (g := (mkF m 2 #[.val (.ref a1)] [(.int p9)])) rfl (hb hby d1_2)
  refine own_go st1 ?_
  show own_Goes _ _ _ _ _ _ _ T1 (mkF m 5 #[.val (.ref a1)] [(.ref aN), (.int p9)])
  refine own_go (fun t k => X1.arraylength hx (by rw [e1]; exact (AN.ext Od0.2).1) (State.isArrayOf_alike hZ.alike (AN.ext Od0.2).2.1) (g := (mkF m 5 #[.val (.ref a1)] [(.ref aN), (.int p9)])) rfl rfl (hb hby d1_5) t k) ?_
  rw [show cN.slots.size.toInt32 = (4 : Int32) from (by rw [SN]; rfl)]
  show own_Goes _ _ _ _ _ _ _ T1 (mkF m 6 #[.val (.ref a1)] [(.int (4 : Int32)), (.int p9)])
  refine own_go (fun _ k => XS.icmpNo X1.here hx rfl (hb hby d1_6) rfl (flt h4).1 k) ?_
  show own_Goes _ _ _ _ _ _ _ T1 (mkF m 9 #[.val (.ref a1)] [])
  refine own_go (fun _ k => XS.aloadN X1.here hx rfl (hb hby d1_9) rfl rfl k) ?_
  show own_Goes _ _ _ _ _ _ _ T1 (mkF m 10 #[.val (.ref a1)] [(.ref a1)])
  refine own_go (fun _ k => XS.iconst X1.here hx rfl (hb hby d1_10) k) ?_
  show own_Goes _ _ _ _ _ _ _ T1 (mkF m 11 #[.val (.ref a1)] [(.int (0 : Int32)), (.ref a1)])
  obtain ⟨T2, X2, e2, st2⟩ := getS2 X1 hx hZ hown (host := "") (Or.inl (hw _ (List.mem_of_getElem? (i := 6) rfl))) Via.refl e1 (SS.ext Od0.2) (g := (mkF m 11 #[.val (.ref a1)] [(.int (0 : Int32)), (.ref a1)])) rfl (hb hby d1_11)
  refine own_go st2 ?_
  show own_Goes _ _ _ _ _ _ _ T2 (mkF m 14 #[.val (.ref a1)] [(.ref aN), (.int (0 : Int32)), (.ref a1)])
  refine own_go (fun t k => X2.arraylength hx (by rw [e2]; exact (AN.ext Od0.2).1) (State.isArrayOf_alike hZ.alike (AN.ext Od0.2).2.1) (g := (mkF m 14 #[.val (.ref a1)] [(.ref aN), (.int (0 : Int32)), (.ref a1)])) rfl rfl (hb hby d1_14) t k) ?_
  rw [show cN.slots.size.toInt32 = (4 : Int32) from (by rw [SN]; rfl)]
  show own_Goes _ _ _ _ _ _ _ T2 (mkF m 15 #[.val (.ref a1)] [(.int (4 : Int32)), (.int (0 : Int32)), (.ref a1)])
  obtain ⟨T3, X3, e3, st3⟩ := getS2 X2 hx hZ hown (host := "") (Or.inl (hw _ (List.mem_of_getElem? (i := 6) rfl))) Via.refl e2 (SS.ext Od0.2) (g := (mkF m 15 #[.val (.ref a1)] [(.int (4 : Int32)), (.int (0 : Int32)), (.ref a1)])) rfl (hb hby d1_15)
  refine own_go st3 ?_
  show own_Goes _ _ _ _ _ _ _ T3 (mkF m 18 #[.val (.ref a1)] [(.ref aN), (.int (4 : Int32)), (.int (0 : Int32)), (.ref a1)])
  refine own_go (fun _ k => XS.iconst X3.here hx rfl (hb hby d1_18) k) ?_
  show own_Goes _ _ _ _ _ _ _ T3 (mkF m 19 #[.val (.ref a1)] [(.int (0 : Int32)), (.ref aN), (.int (4 : Int32)), (.int (0 : Int32)), (.ref a1)])
  obtain ⟨T4, X4, e4, st4⟩ := getS2 X3 hx hZ hown (host := "") (Or.inl (hw _ (List.mem_of_getElem? (i := 6) rfl))) Via.refl e3 (SS.ext Od0.2) (g := (mkF m 19 #[.val (.ref a1)] [(.int (0 : Int32)), (.ref aN), (.int (4 : Int32)), (.int (0 : Int32)), (.ref a1)])) rfl (hb hby d1_19)
  refine own_go st4 ?_
  show own_Goes _ _ _ _ _ _ _ T4 (mkF m 22 #[.val (.ref a1)] [(.ref aN), (.int (0 : Int32)), (.ref aN), (.int (4 : Int32)), (.int (0 : Int32)), (.ref a1)])
  refine own_go (fun t k => X4.arraylength hx (by rw [e4]; exact (AN.ext Od0.2).1) (State.isArrayOf_alike hZ.alike (AN.ext Od0.2).2.1) (g := (mkF m 22 #[.val (.ref a1)] [(.ref aN), (.int (0 : Int32)), (.ref aN), (.int (4 : Int32)), (.int (0 : Int32)), (.ref a1)])) rfl rfl (hb hby d1_22) t k) ?_
  rw [show cN.slots.size.toInt32 = (4 : Int32) from (by rw [SN]; rfl)]
  show own_Goes _ _ _ _ _ _ _ T4 (mkF m 23 #[.val (.ref a1)] [(.int (4 : Int32)), (.int (0 : Int32)), (.ref aN), (.int (4 : Int32)), (.int (0 : Int32)), (.ref a1)])
  obtain ⟨_, _, ⟨T5, L5, k5, n5⟩, -, X5, ⟨Lc5, hQ5, l5, y5, z5⟩, st5⟩ := Jvm.LawKit.callS X4 hx (y := (⟨"java/util/Arrays", "equals", "([BII[BII)Z"⟩ : MethodName)) hown (mvT hZ (hw _ (List.mem_of_getElem? (i := 12) rfl))) (mvT hZ (hw _ (List.mem_of_getElem? (i := 13) rfl))) (mvT hZ (hw _ (List.mem_of_getElem? (i := 14) rfl))) (mvT hZ (hw _ (List.mem_of_getElem? (i := 15) rfl))) (by decide) (backOf (W := 0) (rm_eq l Z a0 hw [] a1 aN cl cN p9 x0 x1 x2 x3 h0 n0 Z0 Od0 A1 S1 hp9 h4 e1_0 e1_1 e1_2 e1_3 AN SN eN_0 eN_1 eN_2 eN_3) hZ (hw _ (List.mem_of_getElem? (i := 15) rfl)) (hw _ (List.mem_of_getElem? (i := 14) rfl)) (by decide) (by decide)) (g := (mkF m 23 #[.val (.ref a1)] [(.int (4 : Int32)), (.int (0 : Int32)), (.ref aN), (.int (4 : Int32)), (.int (0 : Int32)), (.ref a1)])) rfl (by rw [hml]; rfl) (argsL := [(.ref a1), (.int (0 : Int32)), (.int (4 : Int32)), (.ref aN), (.int (0 : Int32)), (.int (4 : Int32))]) (rest := []) (lenOf pd_2 rfl) rfl (by show 2 * 0 + _ ≤ _; exact Nat.le_of_eq rfl) (hb hby d1_23) (fun _ _ => ⟨rfl, e4, (by decide : 0 + 0 ≤ _), (by decide : 0 + 0 ≤ _)⟩)
  dsimp only [Pt.U, Pt.locs, Pt.cells, Pt.slots] at X5 l5 y5 z5 st5 hQ5
  subst l5 y5 z5
  obtain ⟨rfl, N5q, e5⟩ := hQ5
  have N5 := Fr.app N0 N5q
  refine own_go st5 ?_
  show own_Goes _ _ _ _ _ _ _ T5 (mkF m 26 #[.val (.ref a1)] [(.int (own_eq x0 x1 x2 x3))])
  by_cases hc26 : (own_eq x0 x1 x2 x3) = (0 : Int32)
  · refine own_go (fun _ k => XS.ifYes X5.here hx rfl (pc0 := 26) (pc' := 33) rfl (hb hby d1_26) rfl ((if0 _ _).trans (teq hc26).1) (by decide) (by decide) k) ?_
    show own_Goes _ _ _ _ _ _ _ T5 (mkF m 33 #[.val (.ref a1)] [])
    refine own_go (fun _ k => XS.iconst X5.here hx rfl (hb hby d1_33) k) ?_
    show own_Goes _ _ _ _ _ _ _ T5 (mkF m 34 #[.val (.ref a1)] [(.int (0 : Int32))])
    exact own_retN X5 hx (t := .boolean) hlk hret (by simp) (hb hby d1_34) (by decide) (by decide) (by rw [e5]; exact ⟨by rcases own_eq01 x0 x1 x2 x3 with q | q <;> simp_all [nar], N5, rfl⟩)
  · refine own_go (fun _ k => XS.ifNo X5.here hx rfl (hb hby d1_26) rfl ((if0 _ _).trans (feq hc26).1) k) ?_
    show own_Goes _ _ _ _ _ _ _ T5 (mkF m 29 #[.val (.ref a1)] [])
    refine own_go (fun _ k => XS.iconst X5.here hx rfl (hb hby d1_29) k) ?_
    show own_Goes _ _ _ _ _ _ _ T5 (mkF m 30 #[.val (.ref a1)] [(.int (1 : Int32))])
    refine own_go (fun _ k => XS.goto X5.here hx rfl (pc0 := 30) (pc' := 34) rfl (hb hby d1_30) (by decide) (by decide) k) ?_
    show own_Goes _ _ _ _ _ _ _ T5 (mkF m 34 #[.val (.ref a1)] [(.int (1 : Int32))])
    exact own_retN X5 hx (t := .boolean) hlk hret (by simp) (hb hby d1_34) (by decide) (by decide) (by rw [e5]; exact ⟨by rcases own_eq01 x0 x1 x2 x3 with q | q <;> simp_all [nar], N5, rfl⟩)
def Q_rm_nsS (Z : State) (h0 : Heap) (n0 : Nat)  (v : Option Value) (h : Heap) (L : List Loc) : Prop := v = some (.int 0) ∧ Fr n0 L ∧ h = h0
set_option maxRecDepth 65536 in
set_option maxHeartbeats 40000000 in
theorem rm_nsS (l : Launch) (Z : State) (a0 : Array Value) (hw : ∀ d ∈ tables_1, d.before a0 Z = true) (ws : List Jvm.Cond) (a1 aN : Addr) (cl cN : Cell) (p9 : Int32) (h0 : Heap) (n0 : Nat) (Z0 : n0 ≤ h0.size) (Od0 : Old Z n0 h0) (A1 : Arr Z h0 a1 cl .byte) (S1 : cl.slots.size = p9.toNatClampNeg) (hp9 : ¬ p9 < 0) (h4 : p9 < 4) (AN : Arr Z Z.heap aN cN .byte) (SN : cN.slots.size = 4) (SS : Sta Z Z.heap "com/example/wire3/wire3/core/mmi/MmiService" "NAMESPACE" "[B" (.ref aN)) :
    MetFree l (⟨"com/example/wire3/wire3/core/mmi/MmiService", "inNamespace", "([B)Z"⟩ : MethodName) (head1 (Jvm.Cond.code (⟨"com/example/wire3/wire3/core/mmi/MmiService", "inNamespace", "([B)Z"⟩ : MethodName) prog_11_method_5_code 1 (some .boolean) :: ws) ({ frames := 0, cells := 0, slots := 0, locals := 0 } : Room)) (fun a U => a = #[(.ref a1)] ∧ Z.Warmed39 U.vm ∧ U.heap = h0) (fun _ _ _ _ _ => True) (fun _ U o U' => ∃ rv rL, o = .returned rv ∧ Q_rm_nsS Z h0 n0  rv U'.heap rL ∧ FrameEnd U o U' rL ({ frames := 0, cells := 0, slots := 0, locals := 0 } : Room).cells ({ frames := 0, cells := 0, slots := 0, locals := 0 } : Room).slots) := by
  refine own_met (y := (⟨"com/example/wire3/wire3/core/mmi/MmiService", "inNamespace", "([B)Z"⟩ : MethodName)) (Q := Q_rm_nsS Z h0 n0 ) (own := "com/example/wire3/wire3/core/mmi/MmiService") rfl pn_1 ?_
  intro p e s m below meth c s₁ C e0 X0
  obtain ⟨hx, hby, hml, hown, hnm, hret, hlk, hZ⟩ := C
  have N0 := Fr.nil n0
  rw [ef_1]
  show own_Goes _ _ _ _ _ _ _ s₁ (mkF m 0 #[.val (.ref a1)] [])
  refine own_go (fun _ k => XS.aloadN X0.here hx rfl (hb hby d1_0) rfl rfl k) ?_
  show own_Goes _ _ _ _ _ _ _ s₁ (mkF m 1 #[.val (.ref a1)] [(.ref a1)])
  refine own_go (fun t k => X0.arraylength hx (by rw [e0]; exact A1.1) (State.isArrayOf_alike hZ.alike A1.2.1) (g := (mkF m 1 #[.val (.ref a1)] [(.ref a1)])) rfl rfl (hb hby d1_1) t k) ?_
  rw [show cl.slots.size.toInt32 = p9 from (len_of S1 hp9)]
  show own_Goes _ _ _ _ _ _ _ s₁ (mkF m 2 #[.val (.ref a1)] [(.int p9)])
  obtain ⟨T1, X1, e1, st1⟩ := getS2 X0 hx hZ hown (host := "") (Or.inl (hw _ (List.mem_of_getElem? (i := 6) rfl))) Via.refl e0 (SS.ext Od0.2) (g := (mkF m 2 #[.val (.ref a1)] [(.int p9)])) rfl (hb hby d1_2)
  refine own_go st1 ?_
  show own_Goes _ _ _ _ _ _ _ T1 (mkF m 5 #[.val (.ref a1)] [(.ref aN), (.int p9)])
  refine own_go (fun t k => X1.arraylength hx (by rw [e1]; exact (AN.ext Od0.2).1) (State.isArrayOf_alike hZ.alike (AN.ext Od0.2).2.1) (g := (mkF m 5 #[.val (.ref a1)] [(.ref aN), (.int p9)])) rfl rfl (hb hby d1_5) t k) ?_
  rw [show cN.slots.size.toInt32 = (4 : Int32) from (by rw [SN]; rfl)]
  show own_Goes _ _ _ _ _ _ _ T1 (mkF m 6 #[.val (.ref a1)] [(.int (4 : Int32)), (.int p9)])
  refine own_go (fun _ k => XS.icmpYes X1.here hx rfl (pc0 := 6) (pc' := 33) rfl (hb hby d1_6) rfl (tlt h4).1 (by decide) (by decide) k) ?_
  show own_Goes _ _ _ _ _ _ _ T1 (mkF m 33 #[.val (.ref a1)] [])
  refine own_go (fun _ k => XS.iconst X1.here hx rfl (hb hby d1_33) k) ?_
  show own_Goes _ _ _ _ _ _ _ T1 (mkF m 34 #[.val (.ref a1)] [(.int (0 : Int32))])
  exact own_retN X1 hx (t := .boolean) hlk hret (by simp) (hb hby d1_34) (by decide) (by decide) (by rw [e1]; exact ⟨rfl, N0, rfl⟩)
set_option maxRecDepth 65536 in
set_option maxHeartbeats 40000000 in
theorem seg9_0 {p : Program} {l : Launch} {e : Env} {s : State} {m : MethodId} {args : Array Value} {below : List Frame} {meth : Method} {c : Code} {s₁ : State} {locs : List Loc} {Z : State} {a0 : Array Value} {h0 : Heap} (p0 p1 : Int32) (q2 : Int64) (aN : Addr) (cN : Cell)
    (hw : ∀ d ∈ tables_1, d.before a0 Z = true) (C : own_Ctx Z x "com/example/wire3/wire3/core/mmi/MmiServiceInNamespacePinLaw" code maxLocals ret p s m meth c) (X0 : Stand p l e room_1 s m args below meth c s₁ locs 0 0) (e0 : s₁.heap = h0) (n0 : Nat) (Z0 : n0 ≤ h0.size) (N0 : Fr n0 locs) (Od0 : Old Z n0 h0) (AN : Arr Z Z.heap aN cN .byte) (SN : cN.slots.size = 4) (eN_0 : cN.slots[0]? = some (.int (109 : Int32))) (eN_1 : cN.slots[1]? = some (.int (109 : Int32))) (eN_2 : cN.slots[2]? = some (.int (105 : Int32))) (eN_3 : cN.slots[3]? = some (.int (46 : Int32))) (SS : Sta Z Z.heap "com/example/wire3/wire3/core/mmi/MmiService" "NAMESPACE" "[B" (.ref aN)) :
    own_Goes p e below s (fun v h L => v = some (.int 1) ∧ Fr n0 L) room_1.cells room_1.slots s₁ (mkF m 9 #[.val (.int p0), .val (.int p1), .val (.long q2), .second, .val (.int (0 : Int32)), .unset, .unset, .unset] []) := by
  obtain ⟨hx, hby, hml, hown, hnm, hret, hlk, hZ⟩ := C
  refine own_go (fun _ k => XS.iload X0.here hx rfl (hb hby at_9) rfl k) ?_
  show own_Goes _ _ _ _ _ _ _ s₁ (mkF m 11 #[.val (.int p0), .val (.int p1), .val (.long q2), .second, .val (.int (0 : Int32)), .unset, .unset, .unset] [(.int (0 : Int32))])
  obtain ⟨T1, h1, k1, X1, e1, E1, A1, st1⟩ := newP X0 hx hZ (hw _ (List.mem_of_getElem? (i := 1) rfl)) e0 (g := (mkF m 11 #[.val (.int p0), .val (.int p1), .val (.long q2), .second, .val (.int (0 : Int32)), .unset, .unset, .unset] [(.int (0 : Int32))])) rfl (hb hby at_11) rfl (by decide) (cap := 0) (by decide) (by decide) (by decide) (by decide)
  obtain ⟨b1, g1⟩ : ∃ z, z = h0.size := ⟨_, rfl⟩
  rw [← g1] at A1 st1
  have lo_b1 : n0 ≤ b1 := Nat.le_trans Z0 (Nat.le_of_eq g1.symm)
  have Zs1 : n0 ≤ h1.size := Nat.le_trans Z0 E1.1
  have Od1 : Old Z n0 h1 := Od0.ext E1
  refine own_go st1 ?_
  show own_Goes _ _ _ _ _ _ _ T1 (mkF m 13 #[.val (.int p0), .val (.int p1), .val (.long q2), .second, .val (.int (0 : Int32)), .unset, .unset, .unset] [(.ref b1)])
  refine own_go (fun _ k => XS.astore X1.here hx rfl (hb hby at_13) rfl rfl (l' := #[.val (.int p0), .val (.int p1), .val (.long q2), .second, .val (.int (0 : Int32)), .val (.ref b1), .unset, .unset]) rfl k) ?_
  show own_Goes _ _ _ _ _ _ _ T1 (mkF m 15 #[.val (.int p0), .val (.int p1), .val (.long q2), .second, .val (.int (0 : Int32)), .val (.ref b1), .unset, .unset] [])
  refine own_go (fun _ k => XS.iload X1.here hx rfl (hb hby at_15) rfl k) ?_
  show own_Goes _ _ _ _ _ _ _ T1 (mkF m 17 #[.val (.int p0), .val (.int p1), .val (.long q2), .second, .val (.int (0 : Int32)), .val (.ref b1), .unset, .unset] [(.int (0 : Int32))])
  refine own_go (fun _ k => XS.ifYes X1.here hx rfl (pc0 := 17) (pc' := 32) rfl (hb hby at_17) rfl ((if0 _ _).trans (flt (by decide : ¬ ((0 : Int32) < (0 : Int32)))).2.2.2) (by decide) (by decide) k) ?_
  show own_Goes _ _ _ _ _ _ _ T1 (mkF m 32 #[.val (.int p0), .val (.int p1), .val (.long q2), .second, .val (.int (0 : Int32)), .val (.ref b1), .unset, .unset] [])
  refine own_go (fun _ k => XS.iload X1.here hx rfl (hb hby at_32) rfl k) ?_
  show own_Goes _ _ _ _ _ _ _ T1 (mkF m 34 #[.val (.int p0), .val (.int p1), .val (.long q2), .second, .val (.int (0 : Int32)), .val (.ref b1), .unset, .unset] [(.int (0 : Int32))])
  refine own_go (fun _ k => XS.iconst X1.here hx rfl (hb hby at_34) k) ?_
  show own_Goes _ _ _ _ _ _ _ T1 (mkF m 35 #[.val (.int p0), .val (.int p1), .val (.long q2), .second, .val (.int (0 : Int32)), .val (.ref b1), .unset, .unset] [(.int (1 : Int32)), (.int (0 : Int32))])
  refine own_go (fun _ k => XS.icmpYes X1.here hx rfl (pc0 := 35) (pc' := 50) rfl (hb hby at_35) rfl (flt (by decide : ¬ ((1 : Int32) < (0 : Int32)))).2.2.2 (by decide) (by decide) k) ?_
  show own_Goes _ _ _ _ _ _ _ T1 (mkF m 50 #[.val (.int p0), .val (.int p1), .val (.long q2), .second, .val (.int (0 : Int32)), .val (.ref b1), .unset, .unset] [])
  refine own_go (fun _ k => XS.iload X1.here hx rfl (hb hby at_50) rfl k) ?_
  show own_Goes _ _ _ _ _ _ _ T1 (mkF m 52 #[.val (.int p0), .val (.int p1), .val (.long q2), .second, .val (.int (0 : Int32)), .val (.ref b1), .unset, .unset] [(.int (0 : Int32))])
  refine own_go (fun _ k => XS.iconst X1.here hx rfl (hb hby at_52) k) ?_
  show own_Goes _ _ _ _ _ _ _ T1 (mkF m 53 #[.val (.int p0), .val (.int p1), .val (.long q2), .second, .val (.int (0 : Int32)), .val (.ref b1), .unset, .unset] [(.int (2 : Int32)), (.int (0 : Int32))])
  refine own_go (fun _ k => XS.icmpYes X1.here hx rfl (pc0 := 53) (pc' := 68) rfl (hb hby at_53) rfl (flt (by decide : ¬ ((2 : Int32) < (0 : Int32)))).2.2.2 (by decide) (by decide) k) ?_
  show own_Goes _ _ _ _ _ _ _ T1 (mkF m 68 #[.val (.int p0), .val (.int p1), .val (.long q2), .second, .val (.int (0 : Int32)), .val (.ref b1), .unset, .unset] [])
  refine own_go (fun _ k => XS.iload X1.here hx rfl (hb hby at_68) rfl k) ?_
  show own_Goes _ _ _ _ _ _ _ T1 (mkF m 70 #[.val (.int p0), .val (.int p1), .val (.long q2), .second, .val (.int (0 : Int32)), .val (.ref b1), .unset, .unset] [(.int (0 : Int32))])
  refine own_go (fun _ k => XS.iconst X1.here hx rfl (hb hby at_70) k) ?_
  show own_Goes _ _ _ _ _ _ _ T1 (mkF m 71 #[.val (.int p0), .val (.int p1), .val (.long q2), .second, .val (.int (0 : Int32)), .val (.ref b1), .unset, .unset] [(.int (3 : Int32)), (.int (0 : Int32))])
  refine own_go (fun _ k => XS.icmpYes X1.here hx rfl (pc0 := 71) (pc' := 86) rfl (hb hby at_71) rfl (flt (by decide : ¬ ((3 : Int32) < (0 : Int32)))).2.2.2 (by decide) (by decide) k) ?_
  show own_Goes _ _ _ _ _ _ _ T1 (mkF m 86 #[.val (.int p0), .val (.int p1), .val (.long q2), .second, .val (.int (0 : Int32)), .val (.ref b1), .unset, .unset] [])
  refine own_go (fun _ k => XS.iload X1.here hx rfl (hb hby at_86) rfl k) ?_
  show own_Goes _ _ _ _ _ _ _ T1 (mkF m 88 #[.val (.int p0), .val (.int p1), .val (.long q2), .second, .val (.int (0 : Int32)), .val (.ref b1), .unset, .unset] [(.int (0 : Int32))])
  refine own_go (fun _ k => XS.iconst X1.here hx rfl (hb hby at_88) k) ?_
  show own_Goes _ _ _ _ _ _ _ T1 (mkF m 89 #[.val (.int p0), .val (.int p1), .val (.long q2), .second, .val (.int (0 : Int32)), .val (.ref b1), .unset, .unset] [(.int (4 : Int32)), (.int (0 : Int32))])
  refine own_go (fun _ k => XS.icmpYes X1.here hx rfl (pc0 := 89) (pc' := 102) rfl (hb hby at_89) rfl (flt (by decide : ¬ ((4 : Int32) < (0 : Int32)))).2.2.2 (by decide) (by decide) k) ?_
  show own_Goes _ _ _ _ _ _ _ T1 (mkF m 102 #[.val (.int p0), .val (.int p1), .val (.long q2), .second, .val (.int (0 : Int32)), .val (.ref b1), .unset, .unset] [])
  refine own_go (fun _ k => XS.iload X1.here hx rfl (hb hby at_102) rfl k) ?_
  show own_Goes _ _ _ _ _ _ _ T1 (mkF m 104 #[.val (.int p0), .val (.int p1), .val (.long q2), .second, .val (.int (0 : Int32)), .val (.ref b1), .unset, .unset] [(.int (0 : Int32))])
  refine own_go (fun _ k => XS.iconst X1.here hx rfl (hb hby at_104) k) ?_
  show own_Goes _ _ _ _ _ _ _ T1 (mkF m 105 #[.val (.int p0), .val (.int p1), .val (.long q2), .second, .val (.int (0 : Int32)), .val (.ref b1), .unset, .unset] [(.int (5 : Int32)), (.int (0 : Int32))])
  refine own_go (fun _ k => XS.icmpYes X1.here hx rfl (pc0 := 105) (pc' := 118) rfl (hb hby at_105) rfl (flt (by decide : ¬ ((5 : Int32) < (0 : Int32)))).2.2.2 (by decide) (by decide) k) ?_
  show own_Goes _ _ _ _ _ _ _ T1 (mkF m 118 #[.val (.int p0), .val (.int p1), .val (.long q2), .second, .val (.int (0 : Int32)), .val (.ref b1), .unset, .unset] [])
  refine own_go (fun _ k => XS.iload X1.here hx rfl (hb hby at_118) rfl k) ?_
  show own_Goes _ _ _ _ _ _ _ T1 (mkF m 120 #[.val (.int p0), .val (.int p1), .val (.long q2), .second, .val (.int (0 : Int32)), .val (.ref b1), .unset, .unset] [(.int (0 : Int32))])
  refine own_go (fun _ k => XS.iconst X1.here hx rfl (hb hby at_120) k) ?_
  show own_Goes _ _ _ _ _ _ _ T1 (mkF m 121 #[.val (.int p0), .val (.int p1), .val (.long q2), .second, .val (.int (0 : Int32)), .val (.ref b1), .unset, .unset] [(.int (4 : Int32)), (.int (0 : Int32))])
  refine own_go (fun _ k => XS.icmpYes X1.here hx rfl (pc0 := 121) (pc' := 164) rfl (hb hby at_121) rfl (tlt (by decide : (0 : Int32) < (4 : Int32))).1 (by decide) (by decide) k) ?_
  show own_Goes _ _ _ _ _ _ _ T1 (mkF m 164 #[.val (.int p0), .val (.int p1), .val (.long q2), .second, .val (.int (0 : Int32)), .val (.ref b1), .unset, .unset] [])
  refine own_go (fun _ k => XS.iconst X1.here hx rfl (hb hby at_164) k) ?_
  show own_Goes _ _ _ _ _ _ _ T1 (mkF m 165 #[.val (.int p0), .val (.int p1), .val (.long q2), .second, .val (.int (0 : Int32)), .val (.ref b1), .unset, .unset] [(.int (0 : Int32))])
  refine own_go (fun _ k => XS.istore X1.here hx rfl (hb hby at_165) rfl (l' := #[.val (.int p0), .val (.int p1), .val (.long q2), .second, .val (.int (0 : Int32)), .val (.ref b1), .val (.int (0 : Int32)), .unset]) rfl k) ?_
  show own_Goes _ _ _ _ _ _ _ T1 (mkF m 167 #[.val (.int p0), .val (.int p1), .val (.long q2), .second, .val (.int (0 : Int32)), .val (.ref b1), .val (.int (0 : Int32)), .unset] [])
  refine own_go (fun _ k => XS.aload X1.here hx rfl (hb hby at_167) rfl rfl k) ?_
  show own_Goes _ _ _ _ _ _ _ T1 (mkF m 169 #[.val (.int p0), .val (.int p1), .val (.long q2), .second, .val (.int (0 : Int32)), .val (.ref b1), .val (.int (0 : Int32)), .unset] [(.ref b1)])
  obtain ⟨_, _, ⟨T2, L2, k2, n2⟩, -, X2, ⟨Lc2, hQ2, l2, y2, z2⟩, st2⟩ := Jvm.LawKit.callS X1 hx (y := (⟨"com/example/wire3/wire3/core/mmi/MmiService", "inNamespace", "([B)Z"⟩ : MethodName)) hown (mvT hZ (hw _ (List.mem_of_getElem? (i := 2) rfl))) (mvT hZ (hw _ (List.mem_of_getElem? (i := 3) rfl))) (mvT hZ (hw _ (List.mem_of_getElem? (i := 4) rfl))) (mvT hZ (hw _ (List.mem_of_getElem? (i := 5) rfl))) (by decide) (backOf (W := 0) (rm_nsS l Z a0 hw [] b1 aN (newA k1 .byte (0 : Int32)) cN (0 : Int32) h1 n0 Zs1 Od1 A1 rfl (by decide) (by decide) AN SN SS) hZ (hw _ (List.mem_of_getElem? (i := 5) rfl)) (hw _ (List.mem_of_getElem? (i := 4) rfl)) (by decide) (by decide)) (g := (mkF m 169 #[.val (.int p0), .val (.int p1), .val (.long q2), .second, .val (.int (0 : Int32)), .val (.ref b1), .val (.int (0 : Int32)), .unset] [(.ref b1)])) rfl (by rw [hml]; rfl) (argsL := [(.ref b1)]) (rest := []) (lenOf pd_3 rfl) rfl (by show 2 * 0 + _ ≤ _; exact Nat.le_of_eq rfl) (hb hby at_169) (fun _ _ => ⟨rfl, e1, (by decide : 0 + 1 + 0 ≤ _), (by decide : 0 + 0 + 0 ≤ _)⟩)
  dsimp only [Pt.U, Pt.locs, Pt.cells, Pt.slots] at X2 l2 y2 z2 st2 hQ2
  subst l2 y2 z2
  obtain ⟨rfl, N2q, e2⟩ := hQ2
  have N2 := Fr.app N0 N2q
  refine own_go st2 ?_
  show own_Goes _ _ _ _ _ _ _ T2 (mkF m 172 #[.val (.int p0), .val (.int p1), .val (.long q2), .second, .val (.int (0 : Int32)), .val (.ref b1), .val (.int (0 : Int32)), .unset] [(.int (0 : Int32))])
  refine own_go (fun _ k => XS.istore X2.here hx rfl (hb hby at_172) rfl (l' := #[.val (.int p0), .val (.int p1), .val (.long q2), .second, .val (.int (0 : Int32)), .val (.ref b1), .val (.int (0 : Int32)), .val (.int (0 : Int32))]) rfl k) ?_
  show own_Goes _ _ _ _ _ _ _ T2 (mkF m 174 #[.val (.int p0), .val (.int p1), .val (.long q2), .second, .val (.int (0 : Int32)), .val (.ref b1), .val (.int (0 : Int32)), .val (.int (0 : Int32))] [])
  refine own_go (fun _ k => XS.iload X2.here hx rfl (hb hby at_174) rfl k) ?_
  show own_Goes _ _ _ _ _ _ _ T2 (mkF m 176 #[.val (.int p0), .val (.int p1), .val (.long q2), .second, .val (.int (0 : Int32)), .val (.ref b1), .val (.int (0 : Int32)), .val (.int (0 : Int32))] [(.int (0 : Int32))])
  refine own_go (fun _ k => XS.iload X2.here hx rfl (hb hby at_176) rfl k) ?_
  show own_Goes _ _ _ _ _ _ _ T2 (mkF m 178 #[.val (.int p0), .val (.int p1), .val (.long q2), .second, .val (.int (0 : Int32)), .val (.ref b1), .val (.int (0 : Int32)), .val (.int (0 : Int32))] [(.int (0 : Int32)), (.int (0 : Int32))])
  refine own_go (fun _ k => XS.icmpNo X2.here hx rfl (hb hby at_178) rfl (teq (by decide : (0 : Int32) = (0 : Int32))).2 k) ?_
  show own_Goes _ _ _ _ _ _ _ T2 (mkF m 181 #[.val (.int p0), .val (.int p1), .val (.long q2), .second, .val (.int (0 : Int32)), .val (.ref b1), .val (.int (0 : Int32)), .val (.int (0 : Int32))] [])
  refine own_go (fun _ k => XS.iconst X2.here hx rfl (hb hby at_181) k) ?_
  show own_Goes _ _ _ _ _ _ _ T2 (mkF m 182 #[.val (.int p0), .val (.int p1), .val (.long q2), .second, .val (.int (0 : Int32)), .val (.ref b1), .val (.int (0 : Int32)), .val (.int (0 : Int32))] [(.int (1 : Int32))])
  refine own_go (fun _ k => XS.goto X2.here hx rfl (pc0 := 182) (pc' := 186) rfl (hb hby at_182) (by decide) (by decide) k) ?_
  show own_Goes _ _ _ _ _ _ _ T2 (mkF m 186 #[.val (.int p0), .val (.int p1), .val (.long q2), .second, .val (.int (0 : Int32)), .val (.ref b1), .val (.int (0 : Int32)), .val (.int (0 : Int32))] [(.int (1 : Int32))])
  exact own_retN X2 hx (t := .boolean) hlk hret (by simp) (hb hby at_186) (by decide) (by decide) ⟨rfl, N2⟩
set_option maxRecDepth 65536 in
set_option maxHeartbeats 40000000 in
theorem seg9_1 {p : Program} {l : Launch} {e : Env} {s : State} {m : MethodId} {args : Array Value} {below : List Frame} {meth : Method} {c : Code} {s₁ : State} {locs : List Loc} {Z : State} {a0 : Array Value} {h0 : Heap} (p0 p1 : Int32) (q2 : Int64) (aN : Addr) (cN : Cell)
    (hw : ∀ d ∈ tables_1, d.before a0 Z = true) (C : own_Ctx Z x "com/example/wire3/wire3/core/mmi/MmiServiceInNamespacePinLaw" code maxLocals ret p s m meth c) (X0 : Stand p l e room_1 s m args below meth c s₁ locs 0 0) (e0 : s₁.heap = h0) (n0 : Nat) (Z0 : n0 ≤ h0.size) (N0 : Fr n0 locs) (Od0 : Old Z n0 h0) (AN : Arr Z Z.heap aN cN .byte) (SN : cN.slots.size = 4) (eN_0 : cN.slots[0]? = some (.int (109 : Int32))) (eN_1 : cN.slots[1]? = some (.int (109 : Int32))) (eN_2 : cN.slots[2]? = some (.int (105 : Int32))) (eN_3 : cN.slots[3]? = some (.int (46 : Int32))) (SS : Sta Z Z.heap "com/example/wire3/wire3/core/mmi/MmiService" "NAMESPACE" "[B" (.ref aN)) :
    own_Goes p e below s (fun v h L => v = some (.int 1) ∧ Fr n0 L) room_1.cells room_1.slots s₁ (mkF m 9 #[.val (.int p0), .val (.int p1), .val (.long q2), .second, .val (.int (1 : Int32)), .unset, .unset, .unset] []) := by
  obtain ⟨hx, hby, hml, hown, hnm, hret, hlk, hZ⟩ := C
  refine own_go (fun _ k => XS.iload X0.here hx rfl (hb hby at_9) rfl k) ?_
  show own_Goes _ _ _ _ _ _ _ s₁ (mkF m 11 #[.val (.int p0), .val (.int p1), .val (.long q2), .second, .val (.int (1 : Int32)), .unset, .unset, .unset] [(.int (1 : Int32))])
  obtain ⟨T1, h1, k1, X1, e1, E1, A1, st1⟩ := newP X0 hx hZ (hw _ (List.mem_of_getElem? (i := 1) rfl)) e0 (g := (mkF m 11 #[.val (.int p0), .val (.int p1), .val (.long q2), .second, .val (.int (1 : Int32)), .unset, .unset, .unset] [(.int (1 : Int32))])) rfl (hb hby at_11) rfl (by decide) (cap := 1) (by decide) (by decide) (by decide) (by decide)
  obtain ⟨b1, g1⟩ : ∃ z, z = h0.size := ⟨_, rfl⟩
  rw [← g1] at A1 st1
  have lo_b1 : n0 ≤ b1 := Nat.le_trans Z0 (Nat.le_of_eq g1.symm)
  have Zs1 : n0 ≤ h1.size := Nat.le_trans Z0 E1.1
  have Od1 : Old Z n0 h1 := Od0.ext E1
  refine own_go st1 ?_
  show own_Goes _ _ _ _ _ _ _ T1 (mkF m 13 #[.val (.int p0), .val (.int p1), .val (.long q2), .second, .val (.int (1 : Int32)), .unset, .unset, .unset] [(.ref b1)])
  refine own_go (fun _ k => XS.astore X1.here hx rfl (hb hby at_13) rfl rfl (l' := #[.val (.int p0), .val (.int p1), .val (.long q2), .second, .val (.int (1 : Int32)), .val (.ref b1), .unset, .unset]) rfl k) ?_
  show own_Goes _ _ _ _ _ _ _ T1 (mkF m 15 #[.val (.int p0), .val (.int p1), .val (.long q2), .second, .val (.int (1 : Int32)), .val (.ref b1), .unset, .unset] [])
  refine own_go (fun _ k => XS.iload X1.here hx rfl (hb hby at_15) rfl k) ?_
  show own_Goes _ _ _ _ _ _ _ T1 (mkF m 17 #[.val (.int p0), .val (.int p1), .val (.long q2), .second, .val (.int (1 : Int32)), .val (.ref b1), .unset, .unset] [(.int (1 : Int32))])
  refine own_go (fun _ k => XS.ifNo X1.here hx rfl (hb hby at_17) rfl ((if0 _ _).trans (tlt (by decide : (0 : Int32) < (1 : Int32))).2.2.2) k) ?_
  show own_Goes _ _ _ _ _ _ _ T1 (mkF m 20 #[.val (.int p0), .val (.int p1), .val (.long q2), .second, .val (.int (1 : Int32)), .val (.ref b1), .unset, .unset] [])
  refine own_go (fun _ k => XS.aload X1.here hx rfl (hb hby at_20) rfl rfl k) ?_
  show own_Goes _ _ _ _ _ _ _ T1 (mkF m 22 #[.val (.int p0), .val (.int p1), .val (.long q2), .second, .val (.int (1 : Int32)), .val (.ref b1), .unset, .unset] [(.ref b1)])
  refine own_go (fun _ k => XS.iconst X1.here hx rfl (hb hby at_22) k) ?_
  show own_Goes _ _ _ _ _ _ _ T1 (mkF m 23 #[.val (.int p0), .val (.int p1), .val (.long q2), .second, .val (.int (1 : Int32)), .val (.ref b1), .unset, .unset] [(.int (0 : Int32)), (.ref b1)])
  refine own_go (fun _ k => XS.iloadN X1.here hx rfl (hb hby at_23) rfl k) ?_
  show own_Goes _ _ _ _ _ _ _ T1 (mkF m 24 #[.val (.int p0), .val (.int p1), .val (.long q2), .second, .val (.int (1 : Int32)), .val (.ref b1), .unset, .unset] [(.int p1), (.int (0 : Int32)), (.ref b1)])
  refine own_go (fun _ k => XS.iconst X1.here hx rfl (hb hby at_24) k) ?_
  show own_Goes _ _ _ _ _ _ _ T1 (mkF m 25 #[.val (.int p0), .val (.int p1), .val (.long q2), .second, .val (.int (1 : Int32)), .val (.ref b1), .unset, .unset] [(.int (0 : Int32)), (.int p1), (.int (0 : Int32)), (.ref b1)])
  refine own_go (fun _ k => XS.lloadN X1.here hx rfl (hb hby at_25) rfl k) ?_
  show own_Goes _ _ _ _ _ _ _ T1 (mkF m 26 #[.val (.int p0), .val (.int p1), .val (.long q2), .second, .val (.int (1 : Int32)), .val (.ref b1), .unset, .unset] [(.long q2), (.int (0 : Int32)), (.int p1), (.int (0 : Int32)), (.ref b1)])
  refine own_go (fun _ k => XS.bipush X1.here hx rfl (hb hby at_26) k) ?_
  show own_Goes _ _ _ _ _ _ _ T1 (mkF m 28 #[.val (.int p0), .val (.int p1), .val (.long q2), .second, .val (.int (1 : Int32)), .val (.ref b1), .unset, .unset] [(.int (109 : Int32)), (.long q2), (.int (0 : Int32)), (.int p1), (.int (0 : Int32)), (.ref b1)])
  obtain ⟨_, _, ⟨T2, L2, k2, n2⟩, -, X2, ⟨Lc2, hQ2, l2, y2, z2⟩, st2⟩ := Jvm.LawKit.callS X1 hx (y := (⟨"com/example/wire3/wire3/core/mmi/MmiServiceInNamespacePinLaw", "pick", "(IIJB)B"⟩ : MethodName)) hown (mvT hZ (hw _ (List.mem_of_getElem? (i := 8) rfl))) (mvT hZ (hw _ (List.mem_of_getElem? (i := 9) rfl))) (mvT hZ (hw _ (List.mem_of_getElem? (i := 10) rfl))) (mvT hZ (hw _ (List.mem_of_getElem? (i := 11) rfl))) (by decide) (backOf (W := 2) (rm_pick l Z a0 hw [] p1 (0 : Int32) (109 : Int32) q2 h1 n0 Zs1) hZ (hw _ (List.mem_of_getElem? (i := 11) rfl)) (hw _ (List.mem_of_getElem? (i := 10) rfl)) (by decide) (by decide)) (g := (mkF m 28 #[.val (.int p0), .val (.int p1), .val (.long q2), .second, .val (.int (1 : Int32)), .val (.ref b1), .unset, .unset] [(.int (109 : Int32)), (.long q2), (.int (0 : Int32)), (.int p1), (.int (0 : Int32)), (.ref b1)])) rfl (by rw [hml]; rfl) (argsL := [(.int p1), (.int (0 : Int32)), (.long q2), (.int (109 : Int32))]) (rest := [(.int (0 : Int32)), (.ref b1)]) (lenOf pd_4 rfl) rfl (by show 2 * 0 + _ ≤ _; exact Nat.le_of_eq rfl) (hb hby at_28) (fun _ _ => ⟨rfl, e1, (by decide : 0 + 1 + 0 ≤ _), (by decide : 0 + 1 + 0 ≤ _)⟩)
  dsimp only [Pt.U, Pt.locs, Pt.cells, Pt.slots] at X2 l2 y2 z2 st2 hQ2
  subst l2 y2 z2
  obtain ⟨rfl, N2q, e2⟩ := hQ2
  have N2 := Fr.app N0 N2q
  refine own_go st2 ?_
  show own_Goes _ _ _ _ _ _ _ T2 (mkF m 31 #[.val (.int p0), .val (.int p1), .val (.long q2), .second, .val (.int (1 : Int32)), .val (.ref b1), .unset, .unset] [(.int (nar .byte (own_pick p1 (0 : Int32) q2 (109 : Int32)))), (.int (0 : Int32)), (.ref b1)])
  obtain ⟨T3, h3, X3, e3, W3, st3⟩ := stB X2 hx hZ e2 A1 (j := (0 : Int32)) (by show ¬ ((0 : Int32) < 0 ∨ 1 ≤ Int32.toNatClampNeg (0 : Int32)); decide) (g := (mkF m 31 #[.val (.int p0), .val (.int p1), .val (.long q2), .second, .val (.int (1 : Int32)), .val (.ref b1), .unset, .unset] [(.int (nar .byte (own_pick p1 (0 : Int32) q2 (109 : Int32)))), (.int (0 : Int32)), (.ref b1)])) rfl rfl (hb hby at_31)
  have N3 := Fr.snoc X3 N2 lo_b1
  have Zs3 : n0 ≤ h3.size := Nat.le_trans Zs1 (Keep.of_wr W3).1
  have Od3 : Old Z n0 h3 := Od1.wr W3 lo_b1
  have V_b1_3 : Arr Z h3 b1 ((newA k1 .byte (1 : Int32)).setSlot ((0 : Int32)).toNatClampNeg (.int (nar .byte (nar .byte (own_pick p1 (0 : Int32) q2 (109 : Int32)))))) .byte := A1.same W3
  refine own_go st3 ?_
  show own_Goes _ _ _ _ _ _ _ T3 (mkF m 32 #[.val (.int p0), .val (.int p1), .val (.long q2), .second, .val (.int (1 : Int32)), .val (.ref b1), .unset, .unset] [])
  refine own_go (fun _ k => XS.iload X3.here hx rfl (hb hby at_32) rfl k) ?_
  show own_Goes _ _ _ _ _ _ _ T3 (mkF m 34 #[.val (.int p0), .val (.int p1), .val (.long q2), .second, .val (.int (1 : Int32)), .val (.ref b1), .unset, .unset] [(.int (1 : Int32))])
  refine own_go (fun _ k => XS.iconst X3.here hx rfl (hb hby at_34) k) ?_
  show own_Goes _ _ _ _ _ _ _ T3 (mkF m 35 #[.val (.int p0), .val (.int p1), .val (.long q2), .second, .val (.int (1 : Int32)), .val (.ref b1), .unset, .unset] [(.int (1 : Int32)), (.int (1 : Int32))])
  refine own_go (fun _ k => XS.icmpYes X3.here hx rfl (pc0 := 35) (pc' := 50) rfl (hb hby at_35) rfl (flt (by decide : ¬ ((1 : Int32) < (1 : Int32)))).2.2.2 (by decide) (by decide) k) ?_
  show own_Goes _ _ _ _ _ _ _ T3 (mkF m 50 #[.val (.int p0), .val (.int p1), .val (.long q2), .second, .val (.int (1 : Int32)), .val (.ref b1), .unset, .unset] [])
  refine own_go (fun _ k => XS.iload X3.here hx rfl (hb hby at_50) rfl k) ?_
  show own_Goes _ _ _ _ _ _ _ T3 (mkF m 52 #[.val (.int p0), .val (.int p1), .val (.long q2), .second, .val (.int (1 : Int32)), .val (.ref b1), .unset, .unset] [(.int (1 : Int32))])
  refine own_go (fun _ k => XS.iconst X3.here hx rfl (hb hby at_52) k) ?_
  show own_Goes _ _ _ _ _ _ _ T3 (mkF m 53 #[.val (.int p0), .val (.int p1), .val (.long q2), .second, .val (.int (1 : Int32)), .val (.ref b1), .unset, .unset] [(.int (2 : Int32)), (.int (1 : Int32))])
  refine own_go (fun _ k => XS.icmpYes X3.here hx rfl (pc0 := 53) (pc' := 68) rfl (hb hby at_53) rfl (flt (by decide : ¬ ((2 : Int32) < (1 : Int32)))).2.2.2 (by decide) (by decide) k) ?_
  show own_Goes _ _ _ _ _ _ _ T3 (mkF m 68 #[.val (.int p0), .val (.int p1), .val (.long q2), .second, .val (.int (1 : Int32)), .val (.ref b1), .unset, .unset] [])
  refine own_go (fun _ k => XS.iload X3.here hx rfl (hb hby at_68) rfl k) ?_
  show own_Goes _ _ _ _ _ _ _ T3 (mkF m 70 #[.val (.int p0), .val (.int p1), .val (.long q2), .second, .val (.int (1 : Int32)), .val (.ref b1), .unset, .unset] [(.int (1 : Int32))])
  refine own_go (fun _ k => XS.iconst X3.here hx rfl (hb hby at_70) k) ?_
  show own_Goes _ _ _ _ _ _ _ T3 (mkF m 71 #[.val (.int p0), .val (.int p1), .val (.long q2), .second, .val (.int (1 : Int32)), .val (.ref b1), .unset, .unset] [(.int (3 : Int32)), (.int (1 : Int32))])
  refine own_go (fun _ k => XS.icmpYes X3.here hx rfl (pc0 := 71) (pc' := 86) rfl (hb hby at_71) rfl (flt (by decide : ¬ ((3 : Int32) < (1 : Int32)))).2.2.2 (by decide) (by decide) k) ?_
  show own_Goes _ _ _ _ _ _ _ T3 (mkF m 86 #[.val (.int p0), .val (.int p1), .val (.long q2), .second, .val (.int (1 : Int32)), .val (.ref b1), .unset, .unset] [])
  refine own_go (fun _ k => XS.iload X3.here hx rfl (hb hby at_86) rfl k) ?_
  show own_Goes _ _ _ _ _ _ _ T3 (mkF m 88 #[.val (.int p0), .val (.int p1), .val (.long q2), .second, .val (.int (1 : Int32)), .val (.ref b1), .unset, .unset] [(.int (1 : Int32))])
  refine own_go (fun _ k => XS.iconst X3.here hx rfl (hb hby at_88) k) ?_
  show own_Goes _ _ _ _ _ _ _ T3 (mkF m 89 #[.val (.int p0), .val (.int p1), .val (.long q2), .second, .val (.int (1 : Int32)), .val (.ref b1), .unset, .unset] [(.int (4 : Int32)), (.int (1 : Int32))])
  refine own_go (fun _ k => XS.icmpYes X3.here hx rfl (pc0 := 89) (pc' := 102) rfl (hb hby at_89) rfl (flt (by decide : ¬ ((4 : Int32) < (1 : Int32)))).2.2.2 (by decide) (by decide) k) ?_
  show own_Goes _ _ _ _ _ _ _ T3 (mkF m 102 #[.val (.int p0), .val (.int p1), .val (.long q2), .second, .val (.int (1 : Int32)), .val (.ref b1), .unset, .unset] [])
  refine own_go (fun _ k => XS.iload X3.here hx rfl (hb hby at_102) rfl k) ?_
  show own_Goes _ _ _ _ _ _ _ T3 (mkF m 104 #[.val (.int p0), .val (.int p1), .val (.long q2), .second, .val (.int (1 : Int32)), .val (.ref b1), .unset, .unset] [(.int (1 : Int32))])
  refine own_go (fun _ k => XS.iconst X3.here hx rfl (hb hby at_104) k) ?_
  show own_Goes _ _ _ _ _ _ _ T3 (mkF m 105 #[.val (.int p0), .val (.int p1), .val (.long q2), .second, .val (.int (1 : Int32)), .val (.ref b1), .unset, .unset] [(.int (5 : Int32)), (.int (1 : Int32))])
  refine own_go (fun _ k => XS.icmpYes X3.here hx rfl (pc0 := 105) (pc' := 118) rfl (hb hby at_105) rfl (flt (by decide : ¬ ((5 : Int32) < (1 : Int32)))).2.2.2 (by decide) (by decide) k) ?_
  show own_Goes _ _ _ _ _ _ _ T3 (mkF m 118 #[.val (.int p0), .val (.int p1), .val (.long q2), .second, .val (.int (1 : Int32)), .val (.ref b1), .unset, .unset] [])
  refine own_go (fun _ k => XS.iload X3.here hx rfl (hb hby at_118) rfl k) ?_
  show own_Goes _ _ _ _ _ _ _ T3 (mkF m 120 #[.val (.int p0), .val (.int p1), .val (.long q2), .second, .val (.int (1 : Int32)), .val (.ref b1), .unset, .unset] [(.int (1 : Int32))])
  refine own_go (fun _ k => XS.iconst X3.here hx rfl (hb hby at_120) k) ?_
  show own_Goes _ _ _ _ _ _ _ T3 (mkF m 121 #[.val (.int p0), .val (.int p1), .val (.long q2), .second, .val (.int (1 : Int32)), .val (.ref b1), .unset, .unset] [(.int (4 : Int32)), (.int (1 : Int32))])
  refine own_go (fun _ k => XS.icmpYes X3.here hx rfl (pc0 := 121) (pc' := 164) rfl (hb hby at_121) rfl (tlt (by decide : (1 : Int32) < (4 : Int32))).1 (by decide) (by decide) k) ?_
  show own_Goes _ _ _ _ _ _ _ T3 (mkF m 164 #[.val (.int p0), .val (.int p1), .val (.long q2), .second, .val (.int (1 : Int32)), .val (.ref b1), .unset, .unset] [])
  refine own_go (fun _ k => XS.iconst X3.here hx rfl (hb hby at_164) k) ?_
  show own_Goes _ _ _ _ _ _ _ T3 (mkF m 165 #[.val (.int p0), .val (.int p1), .val (.long q2), .second, .val (.int (1 : Int32)), .val (.ref b1), .unset, .unset] [(.int (0 : Int32))])
  refine own_go (fun _ k => XS.istore X3.here hx rfl (hb hby at_165) rfl (l' := #[.val (.int p0), .val (.int p1), .val (.long q2), .second, .val (.int (1 : Int32)), .val (.ref b1), .val (.int (0 : Int32)), .unset]) rfl k) ?_
  show own_Goes _ _ _ _ _ _ _ T3 (mkF m 167 #[.val (.int p0), .val (.int p1), .val (.long q2), .second, .val (.int (1 : Int32)), .val (.ref b1), .val (.int (0 : Int32)), .unset] [])
  refine own_go (fun _ k => XS.aload X3.here hx rfl (hb hby at_167) rfl rfl k) ?_
  show own_Goes _ _ _ _ _ _ _ T3 (mkF m 169 #[.val (.int p0), .val (.int p1), .val (.long q2), .second, .val (.int (1 : Int32)), .val (.ref b1), .val (.int (0 : Int32)), .unset] [(.ref b1)])
  obtain ⟨_, _, ⟨T4, L4, k4, n4⟩, -, X4, ⟨Lc4, hQ4, l4, y4, z4⟩, st4⟩ := Jvm.LawKit.callS X3 hx (y := (⟨"com/example/wire3/wire3/core/mmi/MmiService", "inNamespace", "([B)Z"⟩ : MethodName)) hown (mvT hZ (hw _ (List.mem_of_getElem? (i := 2) rfl))) (mvT hZ (hw _ (List.mem_of_getElem? (i := 3) rfl))) (mvT hZ (hw _ (List.mem_of_getElem? (i := 4) rfl))) (mvT hZ (hw _ (List.mem_of_getElem? (i := 5) rfl))) (by decide) (backOf (W := 0) (rm_nsS l Z a0 hw [] b1 aN ((newA k1 .byte (1 : Int32)).setSlot ((0 : Int32)).toNatClampNeg (.int (nar .byte (nar .byte (own_pick p1 (0 : Int32) q2 (109 : Int32)))))) cN (1 : Int32) h3 n0 Zs3 Od3 V_b1_3 rfl (by decide) (by decide) AN SN SS) hZ (hw _ (List.mem_of_getElem? (i := 5) rfl)) (hw _ (List.mem_of_getElem? (i := 4) rfl)) (by decide) (by decide)) (g := (mkF m 169 #[.val (.int p0), .val (.int p1), .val (.long q2), .second, .val (.int (1 : Int32)), .val (.ref b1), .val (.int (0 : Int32)), .unset] [(.ref b1)])) rfl (by rw [hml]; rfl) (argsL := [(.ref b1)]) (rest := []) (lenOf pd_3 rfl) rfl (by show 2 * 0 + _ ≤ _; exact Nat.le_of_eq rfl) (hb hby at_169) (fun _ _ => ⟨rfl, e3, (by decide : 0 + 1 + 0 + 0 ≤ _), (by decide : 0 + 1 + 0 + 0 ≤ _)⟩)
  dsimp only [Pt.U, Pt.locs, Pt.cells, Pt.slots] at X4 l4 y4 z4 st4 hQ4
  subst l4 y4 z4
  obtain ⟨rfl, N4q, e4⟩ := hQ4
  have N4 := Fr.app N3 N4q
  refine own_go st4 ?_
  show own_Goes _ _ _ _ _ _ _ T4 (mkF m 172 #[.val (.int p0), .val (.int p1), .val (.long q2), .second, .val (.int (1 : Int32)), .val (.ref b1), .val (.int (0 : Int32)), .unset] [(.int (0 : Int32))])
  refine own_go (fun _ k => XS.istore X4.here hx rfl (hb hby at_172) rfl (l' := #[.val (.int p0), .val (.int p1), .val (.long q2), .second, .val (.int (1 : Int32)), .val (.ref b1), .val (.int (0 : Int32)), .val (.int (0 : Int32))]) rfl k) ?_
  show own_Goes _ _ _ _ _ _ _ T4 (mkF m 174 #[.val (.int p0), .val (.int p1), .val (.long q2), .second, .val (.int (1 : Int32)), .val (.ref b1), .val (.int (0 : Int32)), .val (.int (0 : Int32))] [])
  refine own_go (fun _ k => XS.iload X4.here hx rfl (hb hby at_174) rfl k) ?_
  show own_Goes _ _ _ _ _ _ _ T4 (mkF m 176 #[.val (.int p0), .val (.int p1), .val (.long q2), .second, .val (.int (1 : Int32)), .val (.ref b1), .val (.int (0 : Int32)), .val (.int (0 : Int32))] [(.int (0 : Int32))])
  refine own_go (fun _ k => XS.iload X4.here hx rfl (hb hby at_176) rfl k) ?_
  show own_Goes _ _ _ _ _ _ _ T4 (mkF m 178 #[.val (.int p0), .val (.int p1), .val (.long q2), .second, .val (.int (1 : Int32)), .val (.ref b1), .val (.int (0 : Int32)), .val (.int (0 : Int32))] [(.int (0 : Int32)), (.int (0 : Int32))])
  refine own_go (fun _ k => XS.icmpNo X4.here hx rfl (hb hby at_178) rfl (teq (by decide : (0 : Int32) = (0 : Int32))).2 k) ?_
  show own_Goes _ _ _ _ _ _ _ T4 (mkF m 181 #[.val (.int p0), .val (.int p1), .val (.long q2), .second, .val (.int (1 : Int32)), .val (.ref b1), .val (.int (0 : Int32)), .val (.int (0 : Int32))] [])
  refine own_go (fun _ k => XS.iconst X4.here hx rfl (hb hby at_181) k) ?_
  show own_Goes _ _ _ _ _ _ _ T4 (mkF m 182 #[.val (.int p0), .val (.int p1), .val (.long q2), .second, .val (.int (1 : Int32)), .val (.ref b1), .val (.int (0 : Int32)), .val (.int (0 : Int32))] [(.int (1 : Int32))])
  refine own_go (fun _ k => XS.goto X4.here hx rfl (pc0 := 182) (pc' := 186) rfl (hb hby at_182) (by decide) (by decide) k) ?_
  show own_Goes _ _ _ _ _ _ _ T4 (mkF m 186 #[.val (.int p0), .val (.int p1), .val (.long q2), .second, .val (.int (1 : Int32)), .val (.ref b1), .val (.int (0 : Int32)), .val (.int (0 : Int32))] [(.int (1 : Int32))])
  exact own_retN X4 hx (t := .boolean) hlk hret (by simp) (hb hby at_186) (by decide) (by decide) ⟨rfl, N4⟩
set_option maxRecDepth 65536 in
set_option maxHeartbeats 40000000 in
theorem seg9_2 {p : Program} {l : Launch} {e : Env} {s : State} {m : MethodId} {args : Array Value} {below : List Frame} {meth : Method} {c : Code} {s₁ : State} {locs : List Loc} {Z : State} {a0 : Array Value} {h0 : Heap} (p0 p1 : Int32) (q2 : Int64) (aN : Addr) (cN : Cell)
    (hw : ∀ d ∈ tables_1, d.before a0 Z = true) (C : own_Ctx Z x "com/example/wire3/wire3/core/mmi/MmiServiceInNamespacePinLaw" code maxLocals ret p s m meth c) (X0 : Stand p l e room_1 s m args below meth c s₁ locs 0 0) (e0 : s₁.heap = h0) (n0 : Nat) (Z0 : n0 ≤ h0.size) (N0 : Fr n0 locs) (Od0 : Old Z n0 h0) (AN : Arr Z Z.heap aN cN .byte) (SN : cN.slots.size = 4) (eN_0 : cN.slots[0]? = some (.int (109 : Int32))) (eN_1 : cN.slots[1]? = some (.int (109 : Int32))) (eN_2 : cN.slots[2]? = some (.int (105 : Int32))) (eN_3 : cN.slots[3]? = some (.int (46 : Int32))) (SS : Sta Z Z.heap "com/example/wire3/wire3/core/mmi/MmiService" "NAMESPACE" "[B" (.ref aN)) :
    own_Goes p e below s (fun v h L => v = some (.int 1) ∧ Fr n0 L) room_1.cells room_1.slots s₁ (mkF m 9 #[.val (.int p0), .val (.int p1), .val (.long q2), .second, .val (.int (2 : Int32)), .unset, .unset, .unset] []) := by
  obtain ⟨hx, hby, hml, hown, hnm, hret, hlk, hZ⟩ := C
  refine own_go (fun _ k => XS.iload X0.here hx rfl (hb hby at_9) rfl k) ?_
  show own_Goes _ _ _ _ _ _ _ s₁ (mkF m 11 #[.val (.int p0), .val (.int p1), .val (.long q2), .second, .val (.int (2 : Int32)), .unset, .unset, .unset] [(.int (2 : Int32))])
  obtain ⟨T1, h1, k1, X1, e1, E1, A1, st1⟩ := newP X0 hx hZ (hw _ (List.mem_of_getElem? (i := 1) rfl)) e0 (g := (mkF m 11 #[.val (.int p0), .val (.int p1), .val (.long q2), .second, .val (.int (2 : Int32)), .unset, .unset, .unset] [(.int (2 : Int32))])) rfl (hb hby at_11) rfl (by decide) (cap := 2) (by decide) (by decide) (by decide) (by decide)
  obtain ⟨b1, g1⟩ : ∃ z, z = h0.size := ⟨_, rfl⟩
  rw [← g1] at A1 st1
  have lo_b1 : n0 ≤ b1 := Nat.le_trans Z0 (Nat.le_of_eq g1.symm)
  have Zs1 : n0 ≤ h1.size := Nat.le_trans Z0 E1.1
  have Od1 : Old Z n0 h1 := Od0.ext E1
  refine own_go st1 ?_
  show own_Goes _ _ _ _ _ _ _ T1 (mkF m 13 #[.val (.int p0), .val (.int p1), .val (.long q2), .second, .val (.int (2 : Int32)), .unset, .unset, .unset] [(.ref b1)])
  refine own_go (fun _ k => XS.astore X1.here hx rfl (hb hby at_13) rfl rfl (l' := #[.val (.int p0), .val (.int p1), .val (.long q2), .second, .val (.int (2 : Int32)), .val (.ref b1), .unset, .unset]) rfl k) ?_
  show own_Goes _ _ _ _ _ _ _ T1 (mkF m 15 #[.val (.int p0), .val (.int p1), .val (.long q2), .second, .val (.int (2 : Int32)), .val (.ref b1), .unset, .unset] [])
  refine own_go (fun _ k => XS.iload X1.here hx rfl (hb hby at_15) rfl k) ?_
  show own_Goes _ _ _ _ _ _ _ T1 (mkF m 17 #[.val (.int p0), .val (.int p1), .val (.long q2), .second, .val (.int (2 : Int32)), .val (.ref b1), .unset, .unset] [(.int (2 : Int32))])
  refine own_go (fun _ k => XS.ifNo X1.here hx rfl (hb hby at_17) rfl ((if0 _ _).trans (tlt (by decide : (0 : Int32) < (2 : Int32))).2.2.2) k) ?_
  show own_Goes _ _ _ _ _ _ _ T1 (mkF m 20 #[.val (.int p0), .val (.int p1), .val (.long q2), .second, .val (.int (2 : Int32)), .val (.ref b1), .unset, .unset] [])
  refine own_go (fun _ k => XS.aload X1.here hx rfl (hb hby at_20) rfl rfl k) ?_
  show own_Goes _ _ _ _ _ _ _ T1 (mkF m 22 #[.val (.int p0), .val (.int p1), .val (.long q2), .second, .val (.int (2 : Int32)), .val (.ref b1), .unset, .unset] [(.ref b1)])
  refine own_go (fun _ k => XS.iconst X1.here hx rfl (hb hby at_22) k) ?_
  show own_Goes _ _ _ _ _ _ _ T1 (mkF m 23 #[.val (.int p0), .val (.int p1), .val (.long q2), .second, .val (.int (2 : Int32)), .val (.ref b1), .unset, .unset] [(.int (0 : Int32)), (.ref b1)])
  refine own_go (fun _ k => XS.iloadN X1.here hx rfl (hb hby at_23) rfl k) ?_
  show own_Goes _ _ _ _ _ _ _ T1 (mkF m 24 #[.val (.int p0), .val (.int p1), .val (.long q2), .second, .val (.int (2 : Int32)), .val (.ref b1), .unset, .unset] [(.int p1), (.int (0 : Int32)), (.ref b1)])
  refine own_go (fun _ k => XS.iconst X1.here hx rfl (hb hby at_24) k) ?_
  show own_Goes _ _ _ _ _ _ _ T1 (mkF m 25 #[.val (.int p0), .val (.int p1), .val (.long q2), .second, .val (.int (2 : Int32)), .val (.ref b1), .unset, .unset] [(.int (0 : Int32)), (.int p1), (.int (0 : Int32)), (.ref b1)])
  refine own_go (fun _ k => XS.lloadN X1.here hx rfl (hb hby at_25) rfl k) ?_
  show own_Goes _ _ _ _ _ _ _ T1 (mkF m 26 #[.val (.int p0), .val (.int p1), .val (.long q2), .second, .val (.int (2 : Int32)), .val (.ref b1), .unset, .unset] [(.long q2), (.int (0 : Int32)), (.int p1), (.int (0 : Int32)), (.ref b1)])
  refine own_go (fun _ k => XS.bipush X1.here hx rfl (hb hby at_26) k) ?_
  show own_Goes _ _ _ _ _ _ _ T1 (mkF m 28 #[.val (.int p0), .val (.int p1), .val (.long q2), .second, .val (.int (2 : Int32)), .val (.ref b1), .unset, .unset] [(.int (109 : Int32)), (.long q2), (.int (0 : Int32)), (.int p1), (.int (0 : Int32)), (.ref b1)])
  obtain ⟨_, _, ⟨T2, L2, k2, n2⟩, -, X2, ⟨Lc2, hQ2, l2, y2, z2⟩, st2⟩ := Jvm.LawKit.callS X1 hx (y := (⟨"com/example/wire3/wire3/core/mmi/MmiServiceInNamespacePinLaw", "pick", "(IIJB)B"⟩ : MethodName)) hown (mvT hZ (hw _ (List.mem_of_getElem? (i := 8) rfl))) (mvT hZ (hw _ (List.mem_of_getElem? (i := 9) rfl))) (mvT hZ (hw _ (List.mem_of_getElem? (i := 10) rfl))) (mvT hZ (hw _ (List.mem_of_getElem? (i := 11) rfl))) (by decide) (backOf (W := 2) (rm_pick l Z a0 hw [] p1 (0 : Int32) (109 : Int32) q2 h1 n0 Zs1) hZ (hw _ (List.mem_of_getElem? (i := 11) rfl)) (hw _ (List.mem_of_getElem? (i := 10) rfl)) (by decide) (by decide)) (g := (mkF m 28 #[.val (.int p0), .val (.int p1), .val (.long q2), .second, .val (.int (2 : Int32)), .val (.ref b1), .unset, .unset] [(.int (109 : Int32)), (.long q2), (.int (0 : Int32)), (.int p1), (.int (0 : Int32)), (.ref b1)])) rfl (by rw [hml]; rfl) (argsL := [(.int p1), (.int (0 : Int32)), (.long q2), (.int (109 : Int32))]) (rest := [(.int (0 : Int32)), (.ref b1)]) (lenOf pd_4 rfl) rfl (by show 2 * 0 + _ ≤ _; exact Nat.le_of_eq rfl) (hb hby at_28) (fun _ _ => ⟨rfl, e1, (by decide : 0 + 1 + 0 ≤ _), (by decide : 0 + 2 + 0 ≤ _)⟩)
  dsimp only [Pt.U, Pt.locs, Pt.cells, Pt.slots] at X2 l2 y2 z2 st2 hQ2
  subst l2 y2 z2
  obtain ⟨rfl, N2q, e2⟩ := hQ2
  have N2 := Fr.app N0 N2q
  refine own_go st2 ?_
  show own_Goes _ _ _ _ _ _ _ T2 (mkF m 31 #[.val (.int p0), .val (.int p1), .val (.long q2), .second, .val (.int (2 : Int32)), .val (.ref b1), .unset, .unset] [(.int (nar .byte (own_pick p1 (0 : Int32) q2 (109 : Int32)))), (.int (0 : Int32)), (.ref b1)])
  obtain ⟨T3, h3, X3, e3, W3, st3⟩ := stB X2 hx hZ e2 A1 (j := (0 : Int32)) (by show ¬ ((0 : Int32) < 0 ∨ 2 ≤ Int32.toNatClampNeg (0 : Int32)); decide) (g := (mkF m 31 #[.val (.int p0), .val (.int p1), .val (.long q2), .second, .val (.int (2 : Int32)), .val (.ref b1), .unset, .unset] [(.int (nar .byte (own_pick p1 (0 : Int32) q2 (109 : Int32)))), (.int (0 : Int32)), (.ref b1)])) rfl rfl (hb hby at_31)
  have N3 := Fr.snoc X3 N2 lo_b1
  have Zs3 : n0 ≤ h3.size := Nat.le_trans Zs1 (Keep.of_wr W3).1
  have Od3 : Old Z n0 h3 := Od1.wr W3 lo_b1
  have V_b1_3 : Arr Z h3 b1 ((newA k1 .byte (2 : Int32)).setSlot ((0 : Int32)).toNatClampNeg (.int (nar .byte (nar .byte (own_pick p1 (0 : Int32) q2 (109 : Int32)))))) .byte := A1.same W3
  refine own_go st3 ?_
  show own_Goes _ _ _ _ _ _ _ T3 (mkF m 32 #[.val (.int p0), .val (.int p1), .val (.long q2), .second, .val (.int (2 : Int32)), .val (.ref b1), .unset, .unset] [])
  refine own_go (fun _ k => XS.iload X3.here hx rfl (hb hby at_32) rfl k) ?_
  show own_Goes _ _ _ _ _ _ _ T3 (mkF m 34 #[.val (.int p0), .val (.int p1), .val (.long q2), .second, .val (.int (2 : Int32)), .val (.ref b1), .unset, .unset] [(.int (2 : Int32))])
  refine own_go (fun _ k => XS.iconst X3.here hx rfl (hb hby at_34) k) ?_
  show own_Goes _ _ _ _ _ _ _ T3 (mkF m 35 #[.val (.int p0), .val (.int p1), .val (.long q2), .second, .val (.int (2 : Int32)), .val (.ref b1), .unset, .unset] [(.int (1 : Int32)), (.int (2 : Int32))])
  refine own_go (fun _ k => XS.icmpNo X3.here hx rfl (hb hby at_35) rfl (tlt (by decide : (1 : Int32) < (2 : Int32))).2.2.2 k) ?_
  show own_Goes _ _ _ _ _ _ _ T3 (mkF m 38 #[.val (.int p0), .val (.int p1), .val (.long q2), .second, .val (.int (2 : Int32)), .val (.ref b1), .unset, .unset] [])
  refine own_go (fun _ k => XS.aload X3.here hx rfl (hb hby at_38) rfl rfl k) ?_
  show own_Goes _ _ _ _ _ _ _ T3 (mkF m 40 #[.val (.int p0), .val (.int p1), .val (.long q2), .second, .val (.int (2 : Int32)), .val (.ref b1), .unset, .unset] [(.ref b1)])
  refine own_go (fun _ k => XS.iconst X3.here hx rfl (hb hby at_40) k) ?_
  show own_Goes _ _ _ _ _ _ _ T3 (mkF m 41 #[.val (.int p0), .val (.int p1), .val (.long q2), .second, .val (.int (2 : Int32)), .val (.ref b1), .unset, .unset] [(.int (1 : Int32)), (.ref b1)])
  refine own_go (fun _ k => XS.iloadN X3.here hx rfl (hb hby at_41) rfl k) ?_
  show own_Goes _ _ _ _ _ _ _ T3 (mkF m 42 #[.val (.int p0), .val (.int p1), .val (.long q2), .second, .val (.int (2 : Int32)), .val (.ref b1), .unset, .unset] [(.int p1), (.int (1 : Int32)), (.ref b1)])
  refine own_go (fun _ k => XS.iconst X3.here hx rfl (hb hby at_42) k) ?_
  show own_Goes _ _ _ _ _ _ _ T3 (mkF m 43 #[.val (.int p0), .val (.int p1), .val (.long q2), .second, .val (.int (2 : Int32)), .val (.ref b1), .unset, .unset] [(.int (1 : Int32)), (.int p1), (.int (1 : Int32)), (.ref b1)])
  refine own_go (fun _ k => XS.lloadN X3.here hx rfl (hb hby at_43) rfl k) ?_
  show own_Goes _ _ _ _ _ _ _ T3 (mkF m 44 #[.val (.int p0), .val (.int p1), .val (.long q2), .second, .val (.int (2 : Int32)), .val (.ref b1), .unset, .unset] [(.long q2), (.int (1 : Int32)), (.int p1), (.int (1 : Int32)), (.ref b1)])
  refine own_go (fun _ k => XS.bipush X3.here hx rfl (hb hby at_44) k) ?_
  show own_Goes _ _ _ _ _ _ _ T3 (mkF m 46 #[.val (.int p0), .val (.int p1), .val (.long q2), .second, .val (.int (2 : Int32)), .val (.ref b1), .unset, .unset] [(.int (109 : Int32)), (.long q2), (.int (1 : Int32)), (.int p1), (.int (1 : Int32)), (.ref b1)])
  obtain ⟨_, _, ⟨T4, L4, k4, n4⟩, -, X4, ⟨Lc4, hQ4, l4, y4, z4⟩, st4⟩ := Jvm.LawKit.callS X3 hx (y := (⟨"com/example/wire3/wire3/core/mmi/MmiServiceInNamespacePinLaw", "pick", "(IIJB)B"⟩ : MethodName)) hown (mvT hZ (hw _ (List.mem_of_getElem? (i := 8) rfl))) (mvT hZ (hw _ (List.mem_of_getElem? (i := 9) rfl))) (mvT hZ (hw _ (List.mem_of_getElem? (i := 10) rfl))) (mvT hZ (hw _ (List.mem_of_getElem? (i := 11) rfl))) (by decide) (backOf (W := 2) (rm_pick l Z a0 hw [] p1 (1 : Int32) (109 : Int32) q2 h3 n0 Zs3) hZ (hw _ (List.mem_of_getElem? (i := 11) rfl)) (hw _ (List.mem_of_getElem? (i := 10) rfl)) (by decide) (by decide)) (g := (mkF m 46 #[.val (.int p0), .val (.int p1), .val (.long q2), .second, .val (.int (2 : Int32)), .val (.ref b1), .unset, .unset] [(.int (109 : Int32)), (.long q2), (.int (1 : Int32)), (.int p1), (.int (1 : Int32)), (.ref b1)])) rfl (by rw [hml]; rfl) (argsL := [(.int p1), (.int (1 : Int32)), (.long q2), (.int (109 : Int32))]) (rest := [(.int (1 : Int32)), (.ref b1)]) (lenOf pd_4 rfl) rfl (by show 2 * 0 + _ ≤ _; exact Nat.le_of_eq rfl) (hb hby at_46) (fun _ _ => ⟨rfl, e3, (by decide : 0 + 1 + 0 + 0 ≤ _), (by decide : 0 + 2 + 0 + 0 ≤ _)⟩)
  dsimp only [Pt.U, Pt.locs, Pt.cells, Pt.slots] at X4 l4 y4 z4 st4 hQ4
  subst l4 y4 z4
  obtain ⟨rfl, N4q, e4⟩ := hQ4
  have N4 := Fr.app N3 N4q
  refine own_go st4 ?_
  show own_Goes _ _ _ _ _ _ _ T4 (mkF m 49 #[.val (.int p0), .val (.int p1), .val (.long q2), .second, .val (.int (2 : Int32)), .val (.ref b1), .unset, .unset] [(.int (nar .byte (own_pick p1 (1 : Int32) q2 (109 : Int32)))), (.int (1 : Int32)), (.ref b1)])
  obtain ⟨T5, h5, X5, e5, W5, st5⟩ := stB X4 hx hZ e4 V_b1_3 (j := (1 : Int32)) (by show ¬ ((1 : Int32) < 0 ∨ 2 ≤ Int32.toNatClampNeg (1 : Int32)); decide) (g := (mkF m 49 #[.val (.int p0), .val (.int p1), .val (.long q2), .second, .val (.int (2 : Int32)), .val (.ref b1), .unset, .unset] [(.int (nar .byte (own_pick p1 (1 : Int32) q2 (109 : Int32)))), (.int (1 : Int32)), (.ref b1)])) rfl rfl (hb hby at_49)
  have N5 := Fr.snoc X5 N4 lo_b1
  have Zs5 : n0 ≤ h5.size := Nat.le_trans Zs3 (Keep.of_wr W5).1
  have Od5 : Old Z n0 h5 := Od3.wr W5 lo_b1
  have V_b1_5 : Arr Z h5 b1 (((newA k1 .byte (2 : Int32)).setSlot ((0 : Int32)).toNatClampNeg (.int (nar .byte (nar .byte (own_pick p1 (0 : Int32) q2 (109 : Int32)))))).setSlot ((1 : Int32)).toNatClampNeg (.int (nar .byte (nar .byte (own_pick p1 (1 : Int32) q2 (109 : Int32)))))) .byte := V_b1_3.same W5
  refine own_go st5 ?_
  show own_Goes _ _ _ _ _ _ _ T5 (mkF m 50 #[.val (.int p0), .val (.int p1), .val (.long q2), .second, .val (.int (2 : Int32)), .val (.ref b1), .unset, .unset] [])
  refine own_go (fun _ k => XS.iload X5.here hx rfl (hb hby at_50) rfl k) ?_
  show own_Goes _ _ _ _ _ _ _ T5 (mkF m 52 #[.val (.int p0), .val (.int p1), .val (.long q2), .second, .val (.int (2 : Int32)), .val (.ref b1), .unset, .unset] [(.int (2 : Int32))])
  refine own_go (fun _ k => XS.iconst X5.here hx rfl (hb hby at_52) k) ?_
  show own_Goes _ _ _ _ _ _ _ T5 (mkF m 53 #[.val (.int p0), .val (.int p1), .val (.long q2), .second, .val (.int (2 : Int32)), .val (.ref b1), .unset, .unset] [(.int (2 : Int32)), (.int (2 : Int32))])
  refine own_go (fun _ k => XS.icmpYes X5.here hx rfl (pc0 := 53) (pc' := 68) rfl (hb hby at_53) rfl (flt (by decide : ¬ ((2 : Int32) < (2 : Int32)))).2.2.2 (by decide) (by decide) k) ?_
  show own_Goes _ _ _ _ _ _ _ T5 (mkF m 68 #[.val (.int p0), .val (.int p1), .val (.long q2), .second, .val (.int (2 : Int32)), .val (.ref b1), .unset, .unset] [])
  refine own_go (fun _ k => XS.iload X5.here hx rfl (hb hby at_68) rfl k) ?_
  show own_Goes _ _ _ _ _ _ _ T5 (mkF m 70 #[.val (.int p0), .val (.int p1), .val (.long q2), .second, .val (.int (2 : Int32)), .val (.ref b1), .unset, .unset] [(.int (2 : Int32))])
  refine own_go (fun _ k => XS.iconst X5.here hx rfl (hb hby at_70) k) ?_
  show own_Goes _ _ _ _ _ _ _ T5 (mkF m 71 #[.val (.int p0), .val (.int p1), .val (.long q2), .second, .val (.int (2 : Int32)), .val (.ref b1), .unset, .unset] [(.int (3 : Int32)), (.int (2 : Int32))])
  refine own_go (fun _ k => XS.icmpYes X5.here hx rfl (pc0 := 71) (pc' := 86) rfl (hb hby at_71) rfl (flt (by decide : ¬ ((3 : Int32) < (2 : Int32)))).2.2.2 (by decide) (by decide) k) ?_
  show own_Goes _ _ _ _ _ _ _ T5 (mkF m 86 #[.val (.int p0), .val (.int p1), .val (.long q2), .second, .val (.int (2 : Int32)), .val (.ref b1), .unset, .unset] [])
  refine own_go (fun _ k => XS.iload X5.here hx rfl (hb hby at_86) rfl k) ?_
  show own_Goes _ _ _ _ _ _ _ T5 (mkF m 88 #[.val (.int p0), .val (.int p1), .val (.long q2), .second, .val (.int (2 : Int32)), .val (.ref b1), .unset, .unset] [(.int (2 : Int32))])
  refine own_go (fun _ k => XS.iconst X5.here hx rfl (hb hby at_88) k) ?_
  show own_Goes _ _ _ _ _ _ _ T5 (mkF m 89 #[.val (.int p0), .val (.int p1), .val (.long q2), .second, .val (.int (2 : Int32)), .val (.ref b1), .unset, .unset] [(.int (4 : Int32)), (.int (2 : Int32))])
  refine own_go (fun _ k => XS.icmpYes X5.here hx rfl (pc0 := 89) (pc' := 102) rfl (hb hby at_89) rfl (flt (by decide : ¬ ((4 : Int32) < (2 : Int32)))).2.2.2 (by decide) (by decide) k) ?_
  show own_Goes _ _ _ _ _ _ _ T5 (mkF m 102 #[.val (.int p0), .val (.int p1), .val (.long q2), .second, .val (.int (2 : Int32)), .val (.ref b1), .unset, .unset] [])
  refine own_go (fun _ k => XS.iload X5.here hx rfl (hb hby at_102) rfl k) ?_
  show own_Goes _ _ _ _ _ _ _ T5 (mkF m 104 #[.val (.int p0), .val (.int p1), .val (.long q2), .second, .val (.int (2 : Int32)), .val (.ref b1), .unset, .unset] [(.int (2 : Int32))])
  refine own_go (fun _ k => XS.iconst X5.here hx rfl (hb hby at_104) k) ?_
  show own_Goes _ _ _ _ _ _ _ T5 (mkF m 105 #[.val (.int p0), .val (.int p1), .val (.long q2), .second, .val (.int (2 : Int32)), .val (.ref b1), .unset, .unset] [(.int (5 : Int32)), (.int (2 : Int32))])
  refine own_go (fun _ k => XS.icmpYes X5.here hx rfl (pc0 := 105) (pc' := 118) rfl (hb hby at_105) rfl (flt (by decide : ¬ ((5 : Int32) < (2 : Int32)))).2.2.2 (by decide) (by decide) k) ?_
  show own_Goes _ _ _ _ _ _ _ T5 (mkF m 118 #[.val (.int p0), .val (.int p1), .val (.long q2), .second, .val (.int (2 : Int32)), .val (.ref b1), .unset, .unset] [])
  refine own_go (fun _ k => XS.iload X5.here hx rfl (hb hby at_118) rfl k) ?_
  show own_Goes _ _ _ _ _ _ _ T5 (mkF m 120 #[.val (.int p0), .val (.int p1), .val (.long q2), .second, .val (.int (2 : Int32)), .val (.ref b1), .unset, .unset] [(.int (2 : Int32))])
  refine own_go (fun _ k => XS.iconst X5.here hx rfl (hb hby at_120) k) ?_
  show own_Goes _ _ _ _ _ _ _ T5 (mkF m 121 #[.val (.int p0), .val (.int p1), .val (.long q2), .second, .val (.int (2 : Int32)), .val (.ref b1), .unset, .unset] [(.int (4 : Int32)), (.int (2 : Int32))])
  refine own_go (fun _ k => XS.icmpYes X5.here hx rfl (pc0 := 121) (pc' := 164) rfl (hb hby at_121) rfl (tlt (by decide : (2 : Int32) < (4 : Int32))).1 (by decide) (by decide) k) ?_
  show own_Goes _ _ _ _ _ _ _ T5 (mkF m 164 #[.val (.int p0), .val (.int p1), .val (.long q2), .second, .val (.int (2 : Int32)), .val (.ref b1), .unset, .unset] [])
  refine own_go (fun _ k => XS.iconst X5.here hx rfl (hb hby at_164) k) ?_
  show own_Goes _ _ _ _ _ _ _ T5 (mkF m 165 #[.val (.int p0), .val (.int p1), .val (.long q2), .second, .val (.int (2 : Int32)), .val (.ref b1), .unset, .unset] [(.int (0 : Int32))])
  refine own_go (fun _ k => XS.istore X5.here hx rfl (hb hby at_165) rfl (l' := #[.val (.int p0), .val (.int p1), .val (.long q2), .second, .val (.int (2 : Int32)), .val (.ref b1), .val (.int (0 : Int32)), .unset]) rfl k) ?_
  show own_Goes _ _ _ _ _ _ _ T5 (mkF m 167 #[.val (.int p0), .val (.int p1), .val (.long q2), .second, .val (.int (2 : Int32)), .val (.ref b1), .val (.int (0 : Int32)), .unset] [])
  refine own_go (fun _ k => XS.aload X5.here hx rfl (hb hby at_167) rfl rfl k) ?_
  show own_Goes _ _ _ _ _ _ _ T5 (mkF m 169 #[.val (.int p0), .val (.int p1), .val (.long q2), .second, .val (.int (2 : Int32)), .val (.ref b1), .val (.int (0 : Int32)), .unset] [(.ref b1)])
  obtain ⟨_, _, ⟨T6, L6, k6, n6⟩, -, X6, ⟨Lc6, hQ6, l6, y6, z6⟩, st6⟩ := Jvm.LawKit.callS X5 hx (y := (⟨"com/example/wire3/wire3/core/mmi/MmiService", "inNamespace", "([B)Z"⟩ : MethodName)) hown (mvT hZ (hw _ (List.mem_of_getElem? (i := 2) rfl))) (mvT hZ (hw _ (List.mem_of_getElem? (i := 3) rfl))) (mvT hZ (hw _ (List.mem_of_getElem? (i := 4) rfl))) (mvT hZ (hw _ (List.mem_of_getElem? (i := 5) rfl))) (by decide) (backOf (W := 0) (rm_nsS l Z a0 hw [] b1 aN (((newA k1 .byte (2 : Int32)).setSlot ((0 : Int32)).toNatClampNeg (.int (nar .byte (nar .byte (own_pick p1 (0 : Int32) q2 (109 : Int32)))))).setSlot ((1 : Int32)).toNatClampNeg (.int (nar .byte (nar .byte (own_pick p1 (1 : Int32) q2 (109 : Int32)))))) cN (2 : Int32) h5 n0 Zs5 Od5 V_b1_5 rfl (by decide) (by decide) AN SN SS) hZ (hw _ (List.mem_of_getElem? (i := 5) rfl)) (hw _ (List.mem_of_getElem? (i := 4) rfl)) (by decide) (by decide)) (g := (mkF m 169 #[.val (.int p0), .val (.int p1), .val (.long q2), .second, .val (.int (2 : Int32)), .val (.ref b1), .val (.int (0 : Int32)), .unset] [(.ref b1)])) rfl (by rw [hml]; rfl) (argsL := [(.ref b1)]) (rest := []) (lenOf pd_3 rfl) rfl (by show 2 * 0 + _ ≤ _; exact Nat.le_of_eq rfl) (hb hby at_169) (fun _ _ => ⟨rfl, e5, (by decide : 0 + 1 + 0 + 0 + 0 ≤ _), (by decide : 0 + 2 + 0 + 0 + 0 ≤ _)⟩)
  dsimp only [Pt.U, Pt.locs, Pt.cells, Pt.slots] at X6 l6 y6 z6 st6 hQ6
  subst l6 y6 z6
  obtain ⟨rfl, N6q, e6⟩ := hQ6
  have N6 := Fr.app N5 N6q
  refine own_go st6 ?_
  show own_Goes _ _ _ _ _ _ _ T6 (mkF m 172 #[.val (.int p0), .val (.int p1), .val (.long q2), .second, .val (.int (2 : Int32)), .val (.ref b1), .val (.int (0 : Int32)), .unset] [(.int (0 : Int32))])
  refine own_go (fun _ k => XS.istore X6.here hx rfl (hb hby at_172) rfl (l' := #[.val (.int p0), .val (.int p1), .val (.long q2), .second, .val (.int (2 : Int32)), .val (.ref b1), .val (.int (0 : Int32)), .val (.int (0 : Int32))]) rfl k) ?_
  show own_Goes _ _ _ _ _ _ _ T6 (mkF m 174 #[.val (.int p0), .val (.int p1), .val (.long q2), .second, .val (.int (2 : Int32)), .val (.ref b1), .val (.int (0 : Int32)), .val (.int (0 : Int32))] [])
  refine own_go (fun _ k => XS.iload X6.here hx rfl (hb hby at_174) rfl k) ?_
  show own_Goes _ _ _ _ _ _ _ T6 (mkF m 176 #[.val (.int p0), .val (.int p1), .val (.long q2), .second, .val (.int (2 : Int32)), .val (.ref b1), .val (.int (0 : Int32)), .val (.int (0 : Int32))] [(.int (0 : Int32))])
  refine own_go (fun _ k => XS.iload X6.here hx rfl (hb hby at_176) rfl k) ?_
  show own_Goes _ _ _ _ _ _ _ T6 (mkF m 178 #[.val (.int p0), .val (.int p1), .val (.long q2), .second, .val (.int (2 : Int32)), .val (.ref b1), .val (.int (0 : Int32)), .val (.int (0 : Int32))] [(.int (0 : Int32)), (.int (0 : Int32))])
  refine own_go (fun _ k => XS.icmpNo X6.here hx rfl (hb hby at_178) rfl (teq (by decide : (0 : Int32) = (0 : Int32))).2 k) ?_
  show own_Goes _ _ _ _ _ _ _ T6 (mkF m 181 #[.val (.int p0), .val (.int p1), .val (.long q2), .second, .val (.int (2 : Int32)), .val (.ref b1), .val (.int (0 : Int32)), .val (.int (0 : Int32))] [])
  refine own_go (fun _ k => XS.iconst X6.here hx rfl (hb hby at_181) k) ?_
  show own_Goes _ _ _ _ _ _ _ T6 (mkF m 182 #[.val (.int p0), .val (.int p1), .val (.long q2), .second, .val (.int (2 : Int32)), .val (.ref b1), .val (.int (0 : Int32)), .val (.int (0 : Int32))] [(.int (1 : Int32))])
  refine own_go (fun _ k => XS.goto X6.here hx rfl (pc0 := 182) (pc' := 186) rfl (hb hby at_182) (by decide) (by decide) k) ?_
  show own_Goes _ _ _ _ _ _ _ T6 (mkF m 186 #[.val (.int p0), .val (.int p1), .val (.long q2), .second, .val (.int (2 : Int32)), .val (.ref b1), .val (.int (0 : Int32)), .val (.int (0 : Int32))] [(.int (1 : Int32))])
  exact own_retN X6 hx (t := .boolean) hlk hret (by simp) (hb hby at_186) (by decide) (by decide) ⟨rfl, N6⟩
set_option maxRecDepth 65536 in
set_option maxHeartbeats 40000000 in
theorem seg9_3 {p : Program} {l : Launch} {e : Env} {s : State} {m : MethodId} {args : Array Value} {below : List Frame} {meth : Method} {c : Code} {s₁ : State} {locs : List Loc} {Z : State} {a0 : Array Value} {h0 : Heap} (p0 p1 : Int32) (q2 : Int64) (aN : Addr) (cN : Cell)
    (hw : ∀ d ∈ tables_1, d.before a0 Z = true) (C : own_Ctx Z x "com/example/wire3/wire3/core/mmi/MmiServiceInNamespacePinLaw" code maxLocals ret p s m meth c) (X0 : Stand p l e room_1 s m args below meth c s₁ locs 0 0) (e0 : s₁.heap = h0) (n0 : Nat) (Z0 : n0 ≤ h0.size) (N0 : Fr n0 locs) (Od0 : Old Z n0 h0) (AN : Arr Z Z.heap aN cN .byte) (SN : cN.slots.size = 4) (eN_0 : cN.slots[0]? = some (.int (109 : Int32))) (eN_1 : cN.slots[1]? = some (.int (109 : Int32))) (eN_2 : cN.slots[2]? = some (.int (105 : Int32))) (eN_3 : cN.slots[3]? = some (.int (46 : Int32))) (SS : Sta Z Z.heap "com/example/wire3/wire3/core/mmi/MmiService" "NAMESPACE" "[B" (.ref aN)) :
    own_Goes p e below s (fun v h L => v = some (.int 1) ∧ Fr n0 L) room_1.cells room_1.slots s₁ (mkF m 9 #[.val (.int p0), .val (.int p1), .val (.long q2), .second, .val (.int (3 : Int32)), .unset, .unset, .unset] []) := by
  obtain ⟨hx, hby, hml, hown, hnm, hret, hlk, hZ⟩ := C
  refine own_go (fun _ k => XS.iload X0.here hx rfl (hb hby at_9) rfl k) ?_
  show own_Goes _ _ _ _ _ _ _ s₁ (mkF m 11 #[.val (.int p0), .val (.int p1), .val (.long q2), .second, .val (.int (3 : Int32)), .unset, .unset, .unset] [(.int (3 : Int32))])
  obtain ⟨T1, h1, k1, X1, e1, E1, A1, st1⟩ := newP X0 hx hZ (hw _ (List.mem_of_getElem? (i := 1) rfl)) e0 (g := (mkF m 11 #[.val (.int p0), .val (.int p1), .val (.long q2), .second, .val (.int (3 : Int32)), .unset, .unset, .unset] [(.int (3 : Int32))])) rfl (hb hby at_11) rfl (by decide) (cap := 3) (by decide) (by decide) (by decide) (by decide)
  obtain ⟨b1, g1⟩ : ∃ z, z = h0.size := ⟨_, rfl⟩
  rw [← g1] at A1 st1
  have lo_b1 : n0 ≤ b1 := Nat.le_trans Z0 (Nat.le_of_eq g1.symm)
  have Zs1 : n0 ≤ h1.size := Nat.le_trans Z0 E1.1
  have Od1 : Old Z n0 h1 := Od0.ext E1
  refine own_go st1 ?_
  show own_Goes _ _ _ _ _ _ _ T1 (mkF m 13 #[.val (.int p0), .val (.int p1), .val (.long q2), .second, .val (.int (3 : Int32)), .unset, .unset, .unset] [(.ref b1)])
  refine own_go (fun _ k => XS.astore X1.here hx rfl (hb hby at_13) rfl rfl (l' := #[.val (.int p0), .val (.int p1), .val (.long q2), .second, .val (.int (3 : Int32)), .val (.ref b1), .unset, .unset]) rfl k) ?_
  show own_Goes _ _ _ _ _ _ _ T1 (mkF m 15 #[.val (.int p0), .val (.int p1), .val (.long q2), .second, .val (.int (3 : Int32)), .val (.ref b1), .unset, .unset] [])
  refine own_go (fun _ k => XS.iload X1.here hx rfl (hb hby at_15) rfl k) ?_
  show own_Goes _ _ _ _ _ _ _ T1 (mkF m 17 #[.val (.int p0), .val (.int p1), .val (.long q2), .second, .val (.int (3 : Int32)), .val (.ref b1), .unset, .unset] [(.int (3 : Int32))])
  refine own_go (fun _ k => XS.ifNo X1.here hx rfl (hb hby at_17) rfl ((if0 _ _).trans (tlt (by decide : (0 : Int32) < (3 : Int32))).2.2.2) k) ?_
  show own_Goes _ _ _ _ _ _ _ T1 (mkF m 20 #[.val (.int p0), .val (.int p1), .val (.long q2), .second, .val (.int (3 : Int32)), .val (.ref b1), .unset, .unset] [])
  refine own_go (fun _ k => XS.aload X1.here hx rfl (hb hby at_20) rfl rfl k) ?_
  show own_Goes _ _ _ _ _ _ _ T1 (mkF m 22 #[.val (.int p0), .val (.int p1), .val (.long q2), .second, .val (.int (3 : Int32)), .val (.ref b1), .unset, .unset] [(.ref b1)])
  refine own_go (fun _ k => XS.iconst X1.here hx rfl (hb hby at_22) k) ?_
  show own_Goes _ _ _ _ _ _ _ T1 (mkF m 23 #[.val (.int p0), .val (.int p1), .val (.long q2), .second, .val (.int (3 : Int32)), .val (.ref b1), .unset, .unset] [(.int (0 : Int32)), (.ref b1)])
  refine own_go (fun _ k => XS.iloadN X1.here hx rfl (hb hby at_23) rfl k) ?_
  show own_Goes _ _ _ _ _ _ _ T1 (mkF m 24 #[.val (.int p0), .val (.int p1), .val (.long q2), .second, .val (.int (3 : Int32)), .val (.ref b1), .unset, .unset] [(.int p1), (.int (0 : Int32)), (.ref b1)])
  refine own_go (fun _ k => XS.iconst X1.here hx rfl (hb hby at_24) k) ?_
  show own_Goes _ _ _ _ _ _ _ T1 (mkF m 25 #[.val (.int p0), .val (.int p1), .val (.long q2), .second, .val (.int (3 : Int32)), .val (.ref b1), .unset, .unset] [(.int (0 : Int32)), (.int p1), (.int (0 : Int32)), (.ref b1)])
  refine own_go (fun _ k => XS.lloadN X1.here hx rfl (hb hby at_25) rfl k) ?_
  show own_Goes _ _ _ _ _ _ _ T1 (mkF m 26 #[.val (.int p0), .val (.int p1), .val (.long q2), .second, .val (.int (3 : Int32)), .val (.ref b1), .unset, .unset] [(.long q2), (.int (0 : Int32)), (.int p1), (.int (0 : Int32)), (.ref b1)])
  refine own_go (fun _ k => XS.bipush X1.here hx rfl (hb hby at_26) k) ?_
  show own_Goes _ _ _ _ _ _ _ T1 (mkF m 28 #[.val (.int p0), .val (.int p1), .val (.long q2), .second, .val (.int (3 : Int32)), .val (.ref b1), .unset, .unset] [(.int (109 : Int32)), (.long q2), (.int (0 : Int32)), (.int p1), (.int (0 : Int32)), (.ref b1)])
  obtain ⟨_, _, ⟨T2, L2, k2, n2⟩, -, X2, ⟨Lc2, hQ2, l2, y2, z2⟩, st2⟩ := Jvm.LawKit.callS X1 hx (y := (⟨"com/example/wire3/wire3/core/mmi/MmiServiceInNamespacePinLaw", "pick", "(IIJB)B"⟩ : MethodName)) hown (mvT hZ (hw _ (List.mem_of_getElem? (i := 8) rfl))) (mvT hZ (hw _ (List.mem_of_getElem? (i := 9) rfl))) (mvT hZ (hw _ (List.mem_of_getElem? (i := 10) rfl))) (mvT hZ (hw _ (List.mem_of_getElem? (i := 11) rfl))) (by decide) (backOf (W := 2) (rm_pick l Z a0 hw [] p1 (0 : Int32) (109 : Int32) q2 h1 n0 Zs1) hZ (hw _ (List.mem_of_getElem? (i := 11) rfl)) (hw _ (List.mem_of_getElem? (i := 10) rfl)) (by decide) (by decide)) (g := (mkF m 28 #[.val (.int p0), .val (.int p1), .val (.long q2), .second, .val (.int (3 : Int32)), .val (.ref b1), .unset, .unset] [(.int (109 : Int32)), (.long q2), (.int (0 : Int32)), (.int p1), (.int (0 : Int32)), (.ref b1)])) rfl (by rw [hml]; rfl) (argsL := [(.int p1), (.int (0 : Int32)), (.long q2), (.int (109 : Int32))]) (rest := [(.int (0 : Int32)), (.ref b1)]) (lenOf pd_4 rfl) rfl (by show 2 * 0 + _ ≤ _; exact Nat.le_of_eq rfl) (hb hby at_28) (fun _ _ => ⟨rfl, e1, (by decide : 0 + 1 + 0 ≤ _), (by decide : 0 + 3 + 0 ≤ _)⟩)
  dsimp only [Pt.U, Pt.locs, Pt.cells, Pt.slots] at X2 l2 y2 z2 st2 hQ2
  subst l2 y2 z2
  obtain ⟨rfl, N2q, e2⟩ := hQ2
  have N2 := Fr.app N0 N2q
  refine own_go st2 ?_
  show own_Goes _ _ _ _ _ _ _ T2 (mkF m 31 #[.val (.int p0), .val (.int p1), .val (.long q2), .second, .val (.int (3 : Int32)), .val (.ref b1), .unset, .unset] [(.int (nar .byte (own_pick p1 (0 : Int32) q2 (109 : Int32)))), (.int (0 : Int32)), (.ref b1)])
  obtain ⟨T3, h3, X3, e3, W3, st3⟩ := stB X2 hx hZ e2 A1 (j := (0 : Int32)) (by show ¬ ((0 : Int32) < 0 ∨ 3 ≤ Int32.toNatClampNeg (0 : Int32)); decide) (g := (mkF m 31 #[.val (.int p0), .val (.int p1), .val (.long q2), .second, .val (.int (3 : Int32)), .val (.ref b1), .unset, .unset] [(.int (nar .byte (own_pick p1 (0 : Int32) q2 (109 : Int32)))), (.int (0 : Int32)), (.ref b1)])) rfl rfl (hb hby at_31)
  have N3 := Fr.snoc X3 N2 lo_b1
  have Zs3 : n0 ≤ h3.size := Nat.le_trans Zs1 (Keep.of_wr W3).1
  have Od3 : Old Z n0 h3 := Od1.wr W3 lo_b1
  have V_b1_3 : Arr Z h3 b1 ((newA k1 .byte (3 : Int32)).setSlot ((0 : Int32)).toNatClampNeg (.int (nar .byte (nar .byte (own_pick p1 (0 : Int32) q2 (109 : Int32)))))) .byte := A1.same W3
  refine own_go st3 ?_
  show own_Goes _ _ _ _ _ _ _ T3 (mkF m 32 #[.val (.int p0), .val (.int p1), .val (.long q2), .second, .val (.int (3 : Int32)), .val (.ref b1), .unset, .unset] [])
  refine own_go (fun _ k => XS.iload X3.here hx rfl (hb hby at_32) rfl k) ?_
  show own_Goes _ _ _ _ _ _ _ T3 (mkF m 34 #[.val (.int p0), .val (.int p1), .val (.long q2), .second, .val (.int (3 : Int32)), .val (.ref b1), .unset, .unset] [(.int (3 : Int32))])
  refine own_go (fun _ k => XS.iconst X3.here hx rfl (hb hby at_34) k) ?_
  show own_Goes _ _ _ _ _ _ _ T3 (mkF m 35 #[.val (.int p0), .val (.int p1), .val (.long q2), .second, .val (.int (3 : Int32)), .val (.ref b1), .unset, .unset] [(.int (1 : Int32)), (.int (3 : Int32))])
  refine own_go (fun _ k => XS.icmpNo X3.here hx rfl (hb hby at_35) rfl (tlt (by decide : (1 : Int32) < (3 : Int32))).2.2.2 k) ?_
  show own_Goes _ _ _ _ _ _ _ T3 (mkF m 38 #[.val (.int p0), .val (.int p1), .val (.long q2), .second, .val (.int (3 : Int32)), .val (.ref b1), .unset, .unset] [])
  refine own_go (fun _ k => XS.aload X3.here hx rfl (hb hby at_38) rfl rfl k) ?_
  show own_Goes _ _ _ _ _ _ _ T3 (mkF m 40 #[.val (.int p0), .val (.int p1), .val (.long q2), .second, .val (.int (3 : Int32)), .val (.ref b1), .unset, .unset] [(.ref b1)])
  refine own_go (fun _ k => XS.iconst X3.here hx rfl (hb hby at_40) k) ?_
  show own_Goes _ _ _ _ _ _ _ T3 (mkF m 41 #[.val (.int p0), .val (.int p1), .val (.long q2), .second, .val (.int (3 : Int32)), .val (.ref b1), .unset, .unset] [(.int (1 : Int32)), (.ref b1)])
  refine own_go (fun _ k => XS.iloadN X3.here hx rfl (hb hby at_41) rfl k) ?_
  show own_Goes _ _ _ _ _ _ _ T3 (mkF m 42 #[.val (.int p0), .val (.int p1), .val (.long q2), .second, .val (.int (3 : Int32)), .val (.ref b1), .unset, .unset] [(.int p1), (.int (1 : Int32)), (.ref b1)])
  refine own_go (fun _ k => XS.iconst X3.here hx rfl (hb hby at_42) k) ?_
  show own_Goes _ _ _ _ _ _ _ T3 (mkF m 43 #[.val (.int p0), .val (.int p1), .val (.long q2), .second, .val (.int (3 : Int32)), .val (.ref b1), .unset, .unset] [(.int (1 : Int32)), (.int p1), (.int (1 : Int32)), (.ref b1)])
  refine own_go (fun _ k => XS.lloadN X3.here hx rfl (hb hby at_43) rfl k) ?_
  show own_Goes _ _ _ _ _ _ _ T3 (mkF m 44 #[.val (.int p0), .val (.int p1), .val (.long q2), .second, .val (.int (3 : Int32)), .val (.ref b1), .unset, .unset] [(.long q2), (.int (1 : Int32)), (.int p1), (.int (1 : Int32)), (.ref b1)])
  refine own_go (fun _ k => XS.bipush X3.here hx rfl (hb hby at_44) k) ?_
  show own_Goes _ _ _ _ _ _ _ T3 (mkF m 46 #[.val (.int p0), .val (.int p1), .val (.long q2), .second, .val (.int (3 : Int32)), .val (.ref b1), .unset, .unset] [(.int (109 : Int32)), (.long q2), (.int (1 : Int32)), (.int p1), (.int (1 : Int32)), (.ref b1)])
  obtain ⟨_, _, ⟨T4, L4, k4, n4⟩, -, X4, ⟨Lc4, hQ4, l4, y4, z4⟩, st4⟩ := Jvm.LawKit.callS X3 hx (y := (⟨"com/example/wire3/wire3/core/mmi/MmiServiceInNamespacePinLaw", "pick", "(IIJB)B"⟩ : MethodName)) hown (mvT hZ (hw _ (List.mem_of_getElem? (i := 8) rfl))) (mvT hZ (hw _ (List.mem_of_getElem? (i := 9) rfl))) (mvT hZ (hw _ (List.mem_of_getElem? (i := 10) rfl))) (mvT hZ (hw _ (List.mem_of_getElem? (i := 11) rfl))) (by decide) (backOf (W := 2) (rm_pick l Z a0 hw [] p1 (1 : Int32) (109 : Int32) q2 h3 n0 Zs3) hZ (hw _ (List.mem_of_getElem? (i := 11) rfl)) (hw _ (List.mem_of_getElem? (i := 10) rfl)) (by decide) (by decide)) (g := (mkF m 46 #[.val (.int p0), .val (.int p1), .val (.long q2), .second, .val (.int (3 : Int32)), .val (.ref b1), .unset, .unset] [(.int (109 : Int32)), (.long q2), (.int (1 : Int32)), (.int p1), (.int (1 : Int32)), (.ref b1)])) rfl (by rw [hml]; rfl) (argsL := [(.int p1), (.int (1 : Int32)), (.long q2), (.int (109 : Int32))]) (rest := [(.int (1 : Int32)), (.ref b1)]) (lenOf pd_4 rfl) rfl (by show 2 * 0 + _ ≤ _; exact Nat.le_of_eq rfl) (hb hby at_46) (fun _ _ => ⟨rfl, e3, (by decide : 0 + 1 + 0 + 0 ≤ _), (by decide : 0 + 3 + 0 + 0 ≤ _)⟩)
  dsimp only [Pt.U, Pt.locs, Pt.cells, Pt.slots] at X4 l4 y4 z4 st4 hQ4
  subst l4 y4 z4
  obtain ⟨rfl, N4q, e4⟩ := hQ4
  have N4 := Fr.app N3 N4q
  refine own_go st4 ?_
  show own_Goes _ _ _ _ _ _ _ T4 (mkF m 49 #[.val (.int p0), .val (.int p1), .val (.long q2), .second, .val (.int (3 : Int32)), .val (.ref b1), .unset, .unset] [(.int (nar .byte (own_pick p1 (1 : Int32) q2 (109 : Int32)))), (.int (1 : Int32)), (.ref b1)])
  obtain ⟨T5, h5, X5, e5, W5, st5⟩ := stB X4 hx hZ e4 V_b1_3 (j := (1 : Int32)) (by show ¬ ((1 : Int32) < 0 ∨ 3 ≤ Int32.toNatClampNeg (1 : Int32)); decide) (g := (mkF m 49 #[.val (.int p0), .val (.int p1), .val (.long q2), .second, .val (.int (3 : Int32)), .val (.ref b1), .unset, .unset] [(.int (nar .byte (own_pick p1 (1 : Int32) q2 (109 : Int32)))), (.int (1 : Int32)), (.ref b1)])) rfl rfl (hb hby at_49)
  have N5 := Fr.snoc X5 N4 lo_b1
  have Zs5 : n0 ≤ h5.size := Nat.le_trans Zs3 (Keep.of_wr W5).1
  have Od5 : Old Z n0 h5 := Od3.wr W5 lo_b1
  have V_b1_5 : Arr Z h5 b1 (((newA k1 .byte (3 : Int32)).setSlot ((0 : Int32)).toNatClampNeg (.int (nar .byte (nar .byte (own_pick p1 (0 : Int32) q2 (109 : Int32)))))).setSlot ((1 : Int32)).toNatClampNeg (.int (nar .byte (nar .byte (own_pick p1 (1 : Int32) q2 (109 : Int32)))))) .byte := V_b1_3.same W5
  refine own_go st5 ?_
  show own_Goes _ _ _ _ _ _ _ T5 (mkF m 50 #[.val (.int p0), .val (.int p1), .val (.long q2), .second, .val (.int (3 : Int32)), .val (.ref b1), .unset, .unset] [])
  refine own_go (fun _ k => XS.iload X5.here hx rfl (hb hby at_50) rfl k) ?_
  show own_Goes _ _ _ _ _ _ _ T5 (mkF m 52 #[.val (.int p0), .val (.int p1), .val (.long q2), .second, .val (.int (3 : Int32)), .val (.ref b1), .unset, .unset] [(.int (3 : Int32))])
  refine own_go (fun _ k => XS.iconst X5.here hx rfl (hb hby at_52) k) ?_
  show own_Goes _ _ _ _ _ _ _ T5 (mkF m 53 #[.val (.int p0), .val (.int p1), .val (.long q2), .second, .val (.int (3 : Int32)), .val (.ref b1), .unset, .unset] [(.int (2 : Int32)), (.int (3 : Int32))])
  refine own_go (fun _ k => XS.icmpNo X5.here hx rfl (hb hby at_53) rfl (tlt (by decide : (2 : Int32) < (3 : Int32))).2.2.2 k) ?_
  show own_Goes _ _ _ _ _ _ _ T5 (mkF m 56 #[.val (.int p0), .val (.int p1), .val (.long q2), .second, .val (.int (3 : Int32)), .val (.ref b1), .unset, .unset] [])
  refine own_go (fun _ k => XS.aload X5.here hx rfl (hb hby at_56) rfl rfl k) ?_
  show own_Goes _ _ _ _ _ _ _ T5 (mkF m 58 #[.val (.int p0), .val (.int p1), .val (.long q2), .second, .val (.int (3 : Int32)), .val (.ref b1), .unset, .unset] [(.ref b1)])
  refine own_go (fun _ k => XS.iconst X5.here hx rfl (hb hby at_58) k) ?_
  show own_Goes _ _ _ _ _ _ _ T5 (mkF m 59 #[.val (.int p0), .val (.int p1), .val (.long q2), .second, .val (.int (3 : Int32)), .val (.ref b1), .unset, .unset] [(.int (2 : Int32)), (.ref b1)])
  refine own_go (fun _ k => XS.iloadN X5.here hx rfl (hb hby at_59) rfl k) ?_
  show own_Goes _ _ _ _ _ _ _ T5 (mkF m 60 #[.val (.int p0), .val (.int p1), .val (.long q2), .second, .val (.int (3 : Int32)), .val (.ref b1), .unset, .unset] [(.int p1), (.int (2 : Int32)), (.ref b1)])
  refine own_go (fun _ k => XS.iconst X5.here hx rfl (hb hby at_60) k) ?_
  show own_Goes _ _ _ _ _ _ _ T5 (mkF m 61 #[.val (.int p0), .val (.int p1), .val (.long q2), .second, .val (.int (3 : Int32)), .val (.ref b1), .unset, .unset] [(.int (2 : Int32)), (.int p1), (.int (2 : Int32)), (.ref b1)])
  refine own_go (fun _ k => XS.lloadN X5.here hx rfl (hb hby at_61) rfl k) ?_
  show own_Goes _ _ _ _ _ _ _ T5 (mkF m 62 #[.val (.int p0), .val (.int p1), .val (.long q2), .second, .val (.int (3 : Int32)), .val (.ref b1), .unset, .unset] [(.long q2), (.int (2 : Int32)), (.int p1), (.int (2 : Int32)), (.ref b1)])
  refine own_go (fun _ k => XS.bipush X5.here hx rfl (hb hby at_62) k) ?_
  show own_Goes _ _ _ _ _ _ _ T5 (mkF m 64 #[.val (.int p0), .val (.int p1), .val (.long q2), .second, .val (.int (3 : Int32)), .val (.ref b1), .unset, .unset] [(.int (105 : Int32)), (.long q2), (.int (2 : Int32)), (.int p1), (.int (2 : Int32)), (.ref b1)])
  obtain ⟨_, _, ⟨T6, L6, k6, n6⟩, -, X6, ⟨Lc6, hQ6, l6, y6, z6⟩, st6⟩ := Jvm.LawKit.callS X5 hx (y := (⟨"com/example/wire3/wire3/core/mmi/MmiServiceInNamespacePinLaw", "pick", "(IIJB)B"⟩ : MethodName)) hown (mvT hZ (hw _ (List.mem_of_getElem? (i := 8) rfl))) (mvT hZ (hw _ (List.mem_of_getElem? (i := 9) rfl))) (mvT hZ (hw _ (List.mem_of_getElem? (i := 10) rfl))) (mvT hZ (hw _ (List.mem_of_getElem? (i := 11) rfl))) (by decide) (backOf (W := 2) (rm_pick l Z a0 hw [] p1 (2 : Int32) (105 : Int32) q2 h5 n0 Zs5) hZ (hw _ (List.mem_of_getElem? (i := 11) rfl)) (hw _ (List.mem_of_getElem? (i := 10) rfl)) (by decide) (by decide)) (g := (mkF m 64 #[.val (.int p0), .val (.int p1), .val (.long q2), .second, .val (.int (3 : Int32)), .val (.ref b1), .unset, .unset] [(.int (105 : Int32)), (.long q2), (.int (2 : Int32)), (.int p1), (.int (2 : Int32)), (.ref b1)])) rfl (by rw [hml]; rfl) (argsL := [(.int p1), (.int (2 : Int32)), (.long q2), (.int (105 : Int32))]) (rest := [(.int (2 : Int32)), (.ref b1)]) (lenOf pd_4 rfl) rfl (by show 2 * 0 + _ ≤ _; exact Nat.le_of_eq rfl) (hb hby at_64) (fun _ _ => ⟨rfl, e5, (by decide : 0 + 1 + 0 + 0 + 0 ≤ _), (by decide : 0 + 3 + 0 + 0 + 0 ≤ _)⟩)
  dsimp only [Pt.U, Pt.locs, Pt.cells, Pt.slots] at X6 l6 y6 z6 st6 hQ6
  subst l6 y6 z6
  obtain ⟨rfl, N6q, e6⟩ := hQ6
  have N6 := Fr.app N5 N6q
  refine own_go st6 ?_
  show own_Goes _ _ _ _ _ _ _ T6 (mkF m 67 #[.val (.int p0), .val (.int p1), .val (.long q2), .second, .val (.int (3 : Int32)), .val (.ref b1), .unset, .unset] [(.int (nar .byte (own_pick p1 (2 : Int32) q2 (105 : Int32)))), (.int (2 : Int32)), (.ref b1)])
  obtain ⟨T7, h7, X7, e7, W7, st7⟩ := stB X6 hx hZ e6 V_b1_5 (j := (2 : Int32)) (by show ¬ ((2 : Int32) < 0 ∨ 3 ≤ Int32.toNatClampNeg (2 : Int32)); decide) (g := (mkF m 67 #[.val (.int p0), .val (.int p1), .val (.long q2), .second, .val (.int (3 : Int32)), .val (.ref b1), .unset, .unset] [(.int (nar .byte (own_pick p1 (2 : Int32) q2 (105 : Int32)))), (.int (2 : Int32)), (.ref b1)])) rfl rfl (hb hby at_67)
  have N7 := Fr.snoc X7 N6 lo_b1
  have Zs7 : n0 ≤ h7.size := Nat.le_trans Zs5 (Keep.of_wr W7).1
  have Od7 : Old Z n0 h7 := Od5.wr W7 lo_b1
  have V_b1_7 : Arr Z h7 b1 ((((newA k1 .byte (3 : Int32)).setSlot ((0 : Int32)).toNatClampNeg (.int (nar .byte (nar .byte (own_pick p1 (0 : Int32) q2 (109 : Int32)))))).setSlot ((1 : Int32)).toNatClampNeg (.int (nar .byte (nar .byte (own_pick p1 (1 : Int32) q2 (109 : Int32)))))).setSlot ((2 : Int32)).toNatClampNeg (.int (nar .byte (nar .byte (own_pick p1 (2 : Int32) q2 (105 : Int32)))))) .byte := V_b1_5.same W7
  refine own_go st7 ?_
  show own_Goes _ _ _ _ _ _ _ T7 (mkF m 68 #[.val (.int p0), .val (.int p1), .val (.long q2), .second, .val (.int (3 : Int32)), .val (.ref b1), .unset, .unset] [])
  refine own_go (fun _ k => XS.iload X7.here hx rfl (hb hby at_68) rfl k) ?_
  show own_Goes _ _ _ _ _ _ _ T7 (mkF m 70 #[.val (.int p0), .val (.int p1), .val (.long q2), .second, .val (.int (3 : Int32)), .val (.ref b1), .unset, .unset] [(.int (3 : Int32))])
  refine own_go (fun _ k => XS.iconst X7.here hx rfl (hb hby at_70) k) ?_
  show own_Goes _ _ _ _ _ _ _ T7 (mkF m 71 #[.val (.int p0), .val (.int p1), .val (.long q2), .second, .val (.int (3 : Int32)), .val (.ref b1), .unset, .unset] [(.int (3 : Int32)), (.int (3 : Int32))])
  refine own_go (fun _ k => XS.icmpYes X7.here hx rfl (pc0 := 71) (pc' := 86) rfl (hb hby at_71) rfl (flt (by decide : ¬ ((3 : Int32) < (3 : Int32)))).2.2.2 (by decide) (by decide) k) ?_
  show own_Goes _ _ _ _ _ _ _ T7 (mkF m 86 #[.val (.int p0), .val (.int p1), .val (.long q2), .second, .val (.int (3 : Int32)), .val (.ref b1), .unset, .unset] [])
  refine own_go (fun _ k => XS.iload X7.here hx rfl (hb hby at_86) rfl k) ?_
  show own_Goes _ _ _ _ _ _ _ T7 (mkF m 88 #[.val (.int p0), .val (.int p1), .val (.long q2), .second, .val (.int (3 : Int32)), .val (.ref b1), .unset, .unset] [(.int (3 : Int32))])
  refine own_go (fun _ k => XS.iconst X7.here hx rfl (hb hby at_88) k) ?_
  show own_Goes _ _ _ _ _ _ _ T7 (mkF m 89 #[.val (.int p0), .val (.int p1), .val (.long q2), .second, .val (.int (3 : Int32)), .val (.ref b1), .unset, .unset] [(.int (4 : Int32)), (.int (3 : Int32))])
  refine own_go (fun _ k => XS.icmpYes X7.here hx rfl (pc0 := 89) (pc' := 102) rfl (hb hby at_89) rfl (flt (by decide : ¬ ((4 : Int32) < (3 : Int32)))).2.2.2 (by decide) (by decide) k) ?_
  show own_Goes _ _ _ _ _ _ _ T7 (mkF m 102 #[.val (.int p0), .val (.int p1), .val (.long q2), .second, .val (.int (3 : Int32)), .val (.ref b1), .unset, .unset] [])
  refine own_go (fun _ k => XS.iload X7.here hx rfl (hb hby at_102) rfl k) ?_
  show own_Goes _ _ _ _ _ _ _ T7 (mkF m 104 #[.val (.int p0), .val (.int p1), .val (.long q2), .second, .val (.int (3 : Int32)), .val (.ref b1), .unset, .unset] [(.int (3 : Int32))])
  refine own_go (fun _ k => XS.iconst X7.here hx rfl (hb hby at_104) k) ?_
  show own_Goes _ _ _ _ _ _ _ T7 (mkF m 105 #[.val (.int p0), .val (.int p1), .val (.long q2), .second, .val (.int (3 : Int32)), .val (.ref b1), .unset, .unset] [(.int (5 : Int32)), (.int (3 : Int32))])
  refine own_go (fun _ k => XS.icmpYes X7.here hx rfl (pc0 := 105) (pc' := 118) rfl (hb hby at_105) rfl (flt (by decide : ¬ ((5 : Int32) < (3 : Int32)))).2.2.2 (by decide) (by decide) k) ?_
  show own_Goes _ _ _ _ _ _ _ T7 (mkF m 118 #[.val (.int p0), .val (.int p1), .val (.long q2), .second, .val (.int (3 : Int32)), .val (.ref b1), .unset, .unset] [])
  refine own_go (fun _ k => XS.iload X7.here hx rfl (hb hby at_118) rfl k) ?_
  show own_Goes _ _ _ _ _ _ _ T7 (mkF m 120 #[.val (.int p0), .val (.int p1), .val (.long q2), .second, .val (.int (3 : Int32)), .val (.ref b1), .unset, .unset] [(.int (3 : Int32))])
  refine own_go (fun _ k => XS.iconst X7.here hx rfl (hb hby at_120) k) ?_
  show own_Goes _ _ _ _ _ _ _ T7 (mkF m 121 #[.val (.int p0), .val (.int p1), .val (.long q2), .second, .val (.int (3 : Int32)), .val (.ref b1), .unset, .unset] [(.int (4 : Int32)), (.int (3 : Int32))])
  refine own_go (fun _ k => XS.icmpYes X7.here hx rfl (pc0 := 121) (pc' := 164) rfl (hb hby at_121) rfl (tlt (by decide : (3 : Int32) < (4 : Int32))).1 (by decide) (by decide) k) ?_
  show own_Goes _ _ _ _ _ _ _ T7 (mkF m 164 #[.val (.int p0), .val (.int p1), .val (.long q2), .second, .val (.int (3 : Int32)), .val (.ref b1), .unset, .unset] [])
  refine own_go (fun _ k => XS.iconst X7.here hx rfl (hb hby at_164) k) ?_
  show own_Goes _ _ _ _ _ _ _ T7 (mkF m 165 #[.val (.int p0), .val (.int p1), .val (.long q2), .second, .val (.int (3 : Int32)), .val (.ref b1), .unset, .unset] [(.int (0 : Int32))])
  refine own_go (fun _ k => XS.istore X7.here hx rfl (hb hby at_165) rfl (l' := #[.val (.int p0), .val (.int p1), .val (.long q2), .second, .val (.int (3 : Int32)), .val (.ref b1), .val (.int (0 : Int32)), .unset]) rfl k) ?_
  show own_Goes _ _ _ _ _ _ _ T7 (mkF m 167 #[.val (.int p0), .val (.int p1), .val (.long q2), .second, .val (.int (3 : Int32)), .val (.ref b1), .val (.int (0 : Int32)), .unset] [])
  refine own_go (fun _ k => XS.aload X7.here hx rfl (hb hby at_167) rfl rfl k) ?_
  show own_Goes _ _ _ _ _ _ _ T7 (mkF m 169 #[.val (.int p0), .val (.int p1), .val (.long q2), .second, .val (.int (3 : Int32)), .val (.ref b1), .val (.int (0 : Int32)), .unset] [(.ref b1)])
  obtain ⟨_, _, ⟨T8, L8, k8, n8⟩, -, X8, ⟨Lc8, hQ8, l8, y8, z8⟩, st8⟩ := Jvm.LawKit.callS X7 hx (y := (⟨"com/example/wire3/wire3/core/mmi/MmiService", "inNamespace", "([B)Z"⟩ : MethodName)) hown (mvT hZ (hw _ (List.mem_of_getElem? (i := 2) rfl))) (mvT hZ (hw _ (List.mem_of_getElem? (i := 3) rfl))) (mvT hZ (hw _ (List.mem_of_getElem? (i := 4) rfl))) (mvT hZ (hw _ (List.mem_of_getElem? (i := 5) rfl))) (by decide) (backOf (W := 0) (rm_nsS l Z a0 hw [] b1 aN ((((newA k1 .byte (3 : Int32)).setSlot ((0 : Int32)).toNatClampNeg (.int (nar .byte (nar .byte (own_pick p1 (0 : Int32) q2 (109 : Int32)))))).setSlot ((1 : Int32)).toNatClampNeg (.int (nar .byte (nar .byte (own_pick p1 (1 : Int32) q2 (109 : Int32)))))).setSlot ((2 : Int32)).toNatClampNeg (.int (nar .byte (nar .byte (own_pick p1 (2 : Int32) q2 (105 : Int32)))))) cN (3 : Int32) h7 n0 Zs7 Od7 V_b1_7 rfl (by decide) (by decide) AN SN SS) hZ (hw _ (List.mem_of_getElem? (i := 5) rfl)) (hw _ (List.mem_of_getElem? (i := 4) rfl)) (by decide) (by decide)) (g := (mkF m 169 #[.val (.int p0), .val (.int p1), .val (.long q2), .second, .val (.int (3 : Int32)), .val (.ref b1), .val (.int (0 : Int32)), .unset] [(.ref b1)])) rfl (by rw [hml]; rfl) (argsL := [(.ref b1)]) (rest := []) (lenOf pd_3 rfl) rfl (by show 2 * 0 + _ ≤ _; exact Nat.le_of_eq rfl) (hb hby at_169) (fun _ _ => ⟨rfl, e7, (by decide : 0 + 1 + 0 + 0 + 0 + 0 ≤ _), (by decide : 0 + 3 + 0 + 0 + 0 + 0 ≤ _)⟩)
  dsimp only [Pt.U, Pt.locs, Pt.cells, Pt.slots] at X8 l8 y8 z8 st8 hQ8
  subst l8 y8 z8
  obtain ⟨rfl, N8q, e8⟩ := hQ8
  have N8 := Fr.app N7 N8q
  refine own_go st8 ?_
  show own_Goes _ _ _ _ _ _ _ T8 (mkF m 172 #[.val (.int p0), .val (.int p1), .val (.long q2), .second, .val (.int (3 : Int32)), .val (.ref b1), .val (.int (0 : Int32)), .unset] [(.int (0 : Int32))])
  refine own_go (fun _ k => XS.istore X8.here hx rfl (hb hby at_172) rfl (l' := #[.val (.int p0), .val (.int p1), .val (.long q2), .second, .val (.int (3 : Int32)), .val (.ref b1), .val (.int (0 : Int32)), .val (.int (0 : Int32))]) rfl k) ?_
  show own_Goes _ _ _ _ _ _ _ T8 (mkF m 174 #[.val (.int p0), .val (.int p1), .val (.long q2), .second, .val (.int (3 : Int32)), .val (.ref b1), .val (.int (0 : Int32)), .val (.int (0 : Int32))] [])
  refine own_go (fun _ k => XS.iload X8.here hx rfl (hb hby at_174) rfl k) ?_
  show own_Goes _ _ _ _ _ _ _ T8 (mkF m 176 #[.val (.int p0), .val (.int p1), .val (.long q2), .second, .val (.int (3 : Int32)), .val (.ref b1), .val (.int (0 : Int32)), .val (.int (0 : Int32))] [(.int (0 : Int32))])
  refine own_go (fun _ k => XS.iload X8.here hx rfl (hb hby at_176) rfl k) ?_
  show own_Goes _ _ _ _ _ _ _ T8 (mkF m 178 #[.val (.int p0), .val (.int p1), .val (.long q2), .second, .val (.int (3 : Int32)), .val (.ref b1), .val (.int (0 : Int32)), .val (.int (0 : Int32))] [(.int (0 : Int32)), (.int (0 : Int32))])
  refine own_go (fun _ k => XS.icmpNo X8.here hx rfl (hb hby at_178) rfl (teq (by decide : (0 : Int32) = (0 : Int32))).2 k) ?_
  show own_Goes _ _ _ _ _ _ _ T8 (mkF m 181 #[.val (.int p0), .val (.int p1), .val (.long q2), .second, .val (.int (3 : Int32)), .val (.ref b1), .val (.int (0 : Int32)), .val (.int (0 : Int32))] [])
  refine own_go (fun _ k => XS.iconst X8.here hx rfl (hb hby at_181) k) ?_
  show own_Goes _ _ _ _ _ _ _ T8 (mkF m 182 #[.val (.int p0), .val (.int p1), .val (.long q2), .second, .val (.int (3 : Int32)), .val (.ref b1), .val (.int (0 : Int32)), .val (.int (0 : Int32))] [(.int (1 : Int32))])
  refine own_go (fun _ k => XS.goto X8.here hx rfl (pc0 := 182) (pc' := 186) rfl (hb hby at_182) (by decide) (by decide) k) ?_
  show own_Goes _ _ _ _ _ _ _ T8 (mkF m 186 #[.val (.int p0), .val (.int p1), .val (.long q2), .second, .val (.int (3 : Int32)), .val (.ref b1), .val (.int (0 : Int32)), .val (.int (0 : Int32))] [(.int (1 : Int32))])
  exact own_retN X8 hx (t := .boolean) hlk hret (by simp) (hb hby at_186) (by decide) (by decide) ⟨rfl, N8⟩
set_option maxRecDepth 65536 in
set_option maxHeartbeats 40000000 in
theorem seg9_4 {p : Program} {l : Launch} {e : Env} {s : State} {m : MethodId} {args : Array Value} {below : List Frame} {meth : Method} {c : Code} {s₁ : State} {locs : List Loc} {Z : State} {a0 : Array Value} {h0 : Heap} (p0 p1 : Int32) (q2 : Int64) (aN : Addr) (cN : Cell)
    (hw : ∀ d ∈ tables_1, d.before a0 Z = true) (C : own_Ctx Z x "com/example/wire3/wire3/core/mmi/MmiServiceInNamespacePinLaw" code maxLocals ret p s m meth c) (X0 : Stand p l e room_1 s m args below meth c s₁ locs 0 0) (e0 : s₁.heap = h0) (n0 : Nat) (Z0 : n0 ≤ h0.size) (N0 : Fr n0 locs) (Od0 : Old Z n0 h0) (AN : Arr Z Z.heap aN cN .byte) (SN : cN.slots.size = 4) (eN_0 : cN.slots[0]? = some (.int (109 : Int32))) (eN_1 : cN.slots[1]? = some (.int (109 : Int32))) (eN_2 : cN.slots[2]? = some (.int (105 : Int32))) (eN_3 : cN.slots[3]? = some (.int (46 : Int32))) (SS : Sta Z Z.heap "com/example/wire3/wire3/core/mmi/MmiService" "NAMESPACE" "[B" (.ref aN)) :
    own_Goes p e below s (fun v h L => v = some (.int 1) ∧ Fr n0 L) room_1.cells room_1.slots s₁ (mkF m 9 #[.val (.int p0), .val (.int p1), .val (.long q2), .second, .val (.int (4 : Int32)), .unset, .unset, .unset] []) := by
  obtain ⟨hx, hby, hml, hown, hnm, hret, hlk, hZ⟩ := C
  refine own_go (fun _ k => XS.iload X0.here hx rfl (hb hby at_9) rfl k) ?_
  show own_Goes _ _ _ _ _ _ _ s₁ (mkF m 11 #[.val (.int p0), .val (.int p1), .val (.long q2), .second, .val (.int (4 : Int32)), .unset, .unset, .unset] [(.int (4 : Int32))])
  obtain ⟨T1, h1, k1, X1, e1, E1, A1, st1⟩ := newP X0 hx hZ (hw _ (List.mem_of_getElem? (i := 1) rfl)) e0 (g := (mkF m 11 #[.val (.int p0), .val (.int p1), .val (.long q2), .second, .val (.int (4 : Int32)), .unset, .unset, .unset] [(.int (4 : Int32))])) rfl (hb hby at_11) rfl (by decide) (cap := 4) (by decide) (by decide) (by decide) (by decide)
  obtain ⟨b1, g1⟩ : ∃ z, z = h0.size := ⟨_, rfl⟩
  rw [← g1] at A1 st1
  have lo_b1 : n0 ≤ b1 := Nat.le_trans Z0 (Nat.le_of_eq g1.symm)
  have Zs1 : n0 ≤ h1.size := Nat.le_trans Z0 E1.1
  have Od1 : Old Z n0 h1 := Od0.ext E1
  refine own_go st1 ?_
  show own_Goes _ _ _ _ _ _ _ T1 (mkF m 13 #[.val (.int p0), .val (.int p1), .val (.long q2), .second, .val (.int (4 : Int32)), .unset, .unset, .unset] [(.ref b1)])
  refine own_go (fun _ k => XS.astore X1.here hx rfl (hb hby at_13) rfl rfl (l' := #[.val (.int p0), .val (.int p1), .val (.long q2), .second, .val (.int (4 : Int32)), .val (.ref b1), .unset, .unset]) rfl k) ?_
  show own_Goes _ _ _ _ _ _ _ T1 (mkF m 15 #[.val (.int p0), .val (.int p1), .val (.long q2), .second, .val (.int (4 : Int32)), .val (.ref b1), .unset, .unset] [])
  refine own_go (fun _ k => XS.iload X1.here hx rfl (hb hby at_15) rfl k) ?_
  show own_Goes _ _ _ _ _ _ _ T1 (mkF m 17 #[.val (.int p0), .val (.int p1), .val (.long q2), .second, .val (.int (4 : Int32)), .val (.ref b1), .unset, .unset] [(.int (4 : Int32))])
  refine own_go (fun _ k => XS.ifNo X1.here hx rfl (hb hby at_17) rfl ((if0 _ _).trans (tlt (by decide : (0 : Int32) < (4 : Int32))).2.2.2) k) ?_
  show own_Goes _ _ _ _ _ _ _ T1 (mkF m 20 #[.val (.int p0), .val (.int p1), .val (.long q2), .second, .val (.int (4 : Int32)), .val (.ref b1), .unset, .unset] [])
  refine own_go (fun _ k => XS.aload X1.here hx rfl (hb hby at_20) rfl rfl k) ?_
  show own_Goes _ _ _ _ _ _ _ T1 (mkF m 22 #[.val (.int p0), .val (.int p1), .val (.long q2), .second, .val (.int (4 : Int32)), .val (.ref b1), .unset, .unset] [(.ref b1)])
  refine own_go (fun _ k => XS.iconst X1.here hx rfl (hb hby at_22) k) ?_
  show own_Goes _ _ _ _ _ _ _ T1 (mkF m 23 #[.val (.int p0), .val (.int p1), .val (.long q2), .second, .val (.int (4 : Int32)), .val (.ref b1), .unset, .unset] [(.int (0 : Int32)), (.ref b1)])
  refine own_go (fun _ k => XS.iloadN X1.here hx rfl (hb hby at_23) rfl k) ?_
  show own_Goes _ _ _ _ _ _ _ T1 (mkF m 24 #[.val (.int p0), .val (.int p1), .val (.long q2), .second, .val (.int (4 : Int32)), .val (.ref b1), .unset, .unset] [(.int p1), (.int (0 : Int32)), (.ref b1)])
  refine own_go (fun _ k => XS.iconst X1.here hx rfl (hb hby at_24) k) ?_
  show own_Goes _ _ _ _ _ _ _ T1 (mkF m 25 #[.val (.int p0), .val (.int p1), .val (.long q2), .second, .val (.int (4 : Int32)), .val (.ref b1), .unset, .unset] [(.int (0 : Int32)), (.int p1), (.int (0 : Int32)), (.ref b1)])
  refine own_go (fun _ k => XS.lloadN X1.here hx rfl (hb hby at_25) rfl k) ?_
  show own_Goes _ _ _ _ _ _ _ T1 (mkF m 26 #[.val (.int p0), .val (.int p1), .val (.long q2), .second, .val (.int (4 : Int32)), .val (.ref b1), .unset, .unset] [(.long q2), (.int (0 : Int32)), (.int p1), (.int (0 : Int32)), (.ref b1)])
  refine own_go (fun _ k => XS.bipush X1.here hx rfl (hb hby at_26) k) ?_
  show own_Goes _ _ _ _ _ _ _ T1 (mkF m 28 #[.val (.int p0), .val (.int p1), .val (.long q2), .second, .val (.int (4 : Int32)), .val (.ref b1), .unset, .unset] [(.int (109 : Int32)), (.long q2), (.int (0 : Int32)), (.int p1), (.int (0 : Int32)), (.ref b1)])
  obtain ⟨_, _, ⟨T2, L2, k2, n2⟩, -, X2, ⟨Lc2, hQ2, l2, y2, z2⟩, st2⟩ := Jvm.LawKit.callS X1 hx (y := (⟨"com/example/wire3/wire3/core/mmi/MmiServiceInNamespacePinLaw", "pick", "(IIJB)B"⟩ : MethodName)) hown (mvT hZ (hw _ (List.mem_of_getElem? (i := 8) rfl))) (mvT hZ (hw _ (List.mem_of_getElem? (i := 9) rfl))) (mvT hZ (hw _ (List.mem_of_getElem? (i := 10) rfl))) (mvT hZ (hw _ (List.mem_of_getElem? (i := 11) rfl))) (by decide) (backOf (W := 2) (rm_pick l Z a0 hw [] p1 (0 : Int32) (109 : Int32) q2 h1 n0 Zs1) hZ (hw _ (List.mem_of_getElem? (i := 11) rfl)) (hw _ (List.mem_of_getElem? (i := 10) rfl)) (by decide) (by decide)) (g := (mkF m 28 #[.val (.int p0), .val (.int p1), .val (.long q2), .second, .val (.int (4 : Int32)), .val (.ref b1), .unset, .unset] [(.int (109 : Int32)), (.long q2), (.int (0 : Int32)), (.int p1), (.int (0 : Int32)), (.ref b1)])) rfl (by rw [hml]; rfl) (argsL := [(.int p1), (.int (0 : Int32)), (.long q2), (.int (109 : Int32))]) (rest := [(.int (0 : Int32)), (.ref b1)]) (lenOf pd_4 rfl) rfl (by show 2 * 0 + _ ≤ _; exact Nat.le_of_eq rfl) (hb hby at_28) (fun _ _ => ⟨rfl, e1, (by decide : 0 + 1 + 0 ≤ _), (by decide : 0 + 4 + 0 ≤ _)⟩)
  dsimp only [Pt.U, Pt.locs, Pt.cells, Pt.slots] at X2 l2 y2 z2 st2 hQ2
  subst l2 y2 z2
  obtain ⟨rfl, N2q, e2⟩ := hQ2
  have N2 := Fr.app N0 N2q
  refine own_go st2 ?_
  show own_Goes _ _ _ _ _ _ _ T2 (mkF m 31 #[.val (.int p0), .val (.int p1), .val (.long q2), .second, .val (.int (4 : Int32)), .val (.ref b1), .unset, .unset] [(.int (nar .byte (own_pick p1 (0 : Int32) q2 (109 : Int32)))), (.int (0 : Int32)), (.ref b1)])
  obtain ⟨T3, h3, X3, e3, W3, st3⟩ := stB X2 hx hZ e2 A1 (j := (0 : Int32)) (by show ¬ ((0 : Int32) < 0 ∨ 4 ≤ Int32.toNatClampNeg (0 : Int32)); decide) (g := (mkF m 31 #[.val (.int p0), .val (.int p1), .val (.long q2), .second, .val (.int (4 : Int32)), .val (.ref b1), .unset, .unset] [(.int (nar .byte (own_pick p1 (0 : Int32) q2 (109 : Int32)))), (.int (0 : Int32)), (.ref b1)])) rfl rfl (hb hby at_31)
  have N3 := Fr.snoc X3 N2 lo_b1
  have Zs3 : n0 ≤ h3.size := Nat.le_trans Zs1 (Keep.of_wr W3).1
  have Od3 : Old Z n0 h3 := Od1.wr W3 lo_b1
  have V_b1_3 : Arr Z h3 b1 ((newA k1 .byte (4 : Int32)).setSlot ((0 : Int32)).toNatClampNeg (.int (nar .byte (nar .byte (own_pick p1 (0 : Int32) q2 (109 : Int32)))))) .byte := A1.same W3
  refine own_go st3 ?_
  show own_Goes _ _ _ _ _ _ _ T3 (mkF m 32 #[.val (.int p0), .val (.int p1), .val (.long q2), .second, .val (.int (4 : Int32)), .val (.ref b1), .unset, .unset] [])
  refine own_go (fun _ k => XS.iload X3.here hx rfl (hb hby at_32) rfl k) ?_
  show own_Goes _ _ _ _ _ _ _ T3 (mkF m 34 #[.val (.int p0), .val (.int p1), .val (.long q2), .second, .val (.int (4 : Int32)), .val (.ref b1), .unset, .unset] [(.int (4 : Int32))])
  refine own_go (fun _ k => XS.iconst X3.here hx rfl (hb hby at_34) k) ?_
  show own_Goes _ _ _ _ _ _ _ T3 (mkF m 35 #[.val (.int p0), .val (.int p1), .val (.long q2), .second, .val (.int (4 : Int32)), .val (.ref b1), .unset, .unset] [(.int (1 : Int32)), (.int (4 : Int32))])
  refine own_go (fun _ k => XS.icmpNo X3.here hx rfl (hb hby at_35) rfl (tlt (by decide : (1 : Int32) < (4 : Int32))).2.2.2 k) ?_
  show own_Goes _ _ _ _ _ _ _ T3 (mkF m 38 #[.val (.int p0), .val (.int p1), .val (.long q2), .second, .val (.int (4 : Int32)), .val (.ref b1), .unset, .unset] [])
  refine own_go (fun _ k => XS.aload X3.here hx rfl (hb hby at_38) rfl rfl k) ?_
  show own_Goes _ _ _ _ _ _ _ T3 (mkF m 40 #[.val (.int p0), .val (.int p1), .val (.long q2), .second, .val (.int (4 : Int32)), .val (.ref b1), .unset, .unset] [(.ref b1)])
  refine own_go (fun _ k => XS.iconst X3.here hx rfl (hb hby at_40) k) ?_
  show own_Goes _ _ _ _ _ _ _ T3 (mkF m 41 #[.val (.int p0), .val (.int p1), .val (.long q2), .second, .val (.int (4 : Int32)), .val (.ref b1), .unset, .unset] [(.int (1 : Int32)), (.ref b1)])
  refine own_go (fun _ k => XS.iloadN X3.here hx rfl (hb hby at_41) rfl k) ?_
  show own_Goes _ _ _ _ _ _ _ T3 (mkF m 42 #[.val (.int p0), .val (.int p1), .val (.long q2), .second, .val (.int (4 : Int32)), .val (.ref b1), .unset, .unset] [(.int p1), (.int (1 : Int32)), (.ref b1)])
  refine own_go (fun _ k => XS.iconst X3.here hx rfl (hb hby at_42) k) ?_
  show own_Goes _ _ _ _ _ _ _ T3 (mkF m 43 #[.val (.int p0), .val (.int p1), .val (.long q2), .second, .val (.int (4 : Int32)), .val (.ref b1), .unset, .unset] [(.int (1 : Int32)), (.int p1), (.int (1 : Int32)), (.ref b1)])
  refine own_go (fun _ k => XS.lloadN X3.here hx rfl (hb hby at_43) rfl k) ?_
  show own_Goes _ _ _ _ _ _ _ T3 (mkF m 44 #[.val (.int p0), .val (.int p1), .val (.long q2), .second, .val (.int (4 : Int32)), .val (.ref b1), .unset, .unset] [(.long q2), (.int (1 : Int32)), (.int p1), (.int (1 : Int32)), (.ref b1)])
  refine own_go (fun _ k => XS.bipush X3.here hx rfl (hb hby at_44) k) ?_
  show own_Goes _ _ _ _ _ _ _ T3 (mkF m 46 #[.val (.int p0), .val (.int p1), .val (.long q2), .second, .val (.int (4 : Int32)), .val (.ref b1), .unset, .unset] [(.int (109 : Int32)), (.long q2), (.int (1 : Int32)), (.int p1), (.int (1 : Int32)), (.ref b1)])
  obtain ⟨_, _, ⟨T4, L4, k4, n4⟩, -, X4, ⟨Lc4, hQ4, l4, y4, z4⟩, st4⟩ := Jvm.LawKit.callS X3 hx (y := (⟨"com/example/wire3/wire3/core/mmi/MmiServiceInNamespacePinLaw", "pick", "(IIJB)B"⟩ : MethodName)) hown (mvT hZ (hw _ (List.mem_of_getElem? (i := 8) rfl))) (mvT hZ (hw _ (List.mem_of_getElem? (i := 9) rfl))) (mvT hZ (hw _ (List.mem_of_getElem? (i := 10) rfl))) (mvT hZ (hw _ (List.mem_of_getElem? (i := 11) rfl))) (by decide) (backOf (W := 2) (rm_pick l Z a0 hw [] p1 (1 : Int32) (109 : Int32) q2 h3 n0 Zs3) hZ (hw _ (List.mem_of_getElem? (i := 11) rfl)) (hw _ (List.mem_of_getElem? (i := 10) rfl)) (by decide) (by decide)) (g := (mkF m 46 #[.val (.int p0), .val (.int p1), .val (.long q2), .second, .val (.int (4 : Int32)), .val (.ref b1), .unset, .unset] [(.int (109 : Int32)), (.long q2), (.int (1 : Int32)), (.int p1), (.int (1 : Int32)), (.ref b1)])) rfl (by rw [hml]; rfl) (argsL := [(.int p1), (.int (1 : Int32)), (.long q2), (.int (109 : Int32))]) (rest := [(.int (1 : Int32)), (.ref b1)]) (lenOf pd_4 rfl) rfl (by show 2 * 0 + _ ≤ _; exact Nat.le_of_eq rfl) (hb hby at_46) (fun _ _ => ⟨rfl, e3, (by decide : 0 + 1 + 0 + 0 ≤ _), (by decide : 0 + 4 + 0 + 0 ≤ _)⟩)
  dsimp only [Pt.U, Pt.locs, Pt.cells, Pt.slots] at X4 l4 y4 z4 st4 hQ4
  subst l4 y4 z4
  obtain ⟨rfl, N4q, e4⟩ := hQ4
  have N4 := Fr.app N3 N4q
  refine own_go st4 ?_
  show own_Goes _ _ _ _ _ _ _ T4 (mkF m 49 #[.val (.int p0), .val (.int p1), .val (.long q2), .second, .val (.int (4 : Int32)), .val (.ref b1), .unset, .unset] [(.int (nar .byte (own_pick p1 (1 : Int32) q2 (109 : Int32)))), (.int (1 : Int32)), (.ref b1)])
  obtain ⟨T5, h5, X5, e5, W5, st5⟩ := stB X4 hx hZ e4 V_b1_3 (j := (1 : Int32)) (by show ¬ ((1 : Int32) < 0 ∨ 4 ≤ Int32.toNatClampNeg (1 : Int32)); decide) (g := (mkF m 49 #[.val (.int p0), .val (.int p1), .val (.long q2), .second, .val (.int (4 : Int32)), .val (.ref b1), .unset, .unset] [(.int (nar .byte (own_pick p1 (1 : Int32) q2 (109 : Int32)))), (.int (1 : Int32)), (.ref b1)])) rfl rfl (hb hby at_49)
  have N5 := Fr.snoc X5 N4 lo_b1
  have Zs5 : n0 ≤ h5.size := Nat.le_trans Zs3 (Keep.of_wr W5).1
  have Od5 : Old Z n0 h5 := Od3.wr W5 lo_b1
  have V_b1_5 : Arr Z h5 b1 (((newA k1 .byte (4 : Int32)).setSlot ((0 : Int32)).toNatClampNeg (.int (nar .byte (nar .byte (own_pick p1 (0 : Int32) q2 (109 : Int32)))))).setSlot ((1 : Int32)).toNatClampNeg (.int (nar .byte (nar .byte (own_pick p1 (1 : Int32) q2 (109 : Int32)))))) .byte := V_b1_3.same W5
  refine own_go st5 ?_
  show own_Goes _ _ _ _ _ _ _ T5 (mkF m 50 #[.val (.int p0), .val (.int p1), .val (.long q2), .second, .val (.int (4 : Int32)), .val (.ref b1), .unset, .unset] [])
  refine own_go (fun _ k => XS.iload X5.here hx rfl (hb hby at_50) rfl k) ?_
  show own_Goes _ _ _ _ _ _ _ T5 (mkF m 52 #[.val (.int p0), .val (.int p1), .val (.long q2), .second, .val (.int (4 : Int32)), .val (.ref b1), .unset, .unset] [(.int (4 : Int32))])
  refine own_go (fun _ k => XS.iconst X5.here hx rfl (hb hby at_52) k) ?_
  show own_Goes _ _ _ _ _ _ _ T5 (mkF m 53 #[.val (.int p0), .val (.int p1), .val (.long q2), .second, .val (.int (4 : Int32)), .val (.ref b1), .unset, .unset] [(.int (2 : Int32)), (.int (4 : Int32))])
  refine own_go (fun _ k => XS.icmpNo X5.here hx rfl (hb hby at_53) rfl (tlt (by decide : (2 : Int32) < (4 : Int32))).2.2.2 k) ?_
  show own_Goes _ _ _ _ _ _ _ T5 (mkF m 56 #[.val (.int p0), .val (.int p1), .val (.long q2), .second, .val (.int (4 : Int32)), .val (.ref b1), .unset, .unset] [])
  refine own_go (fun _ k => XS.aload X5.here hx rfl (hb hby at_56) rfl rfl k) ?_
  show own_Goes _ _ _ _ _ _ _ T5 (mkF m 58 #[.val (.int p0), .val (.int p1), .val (.long q2), .second, .val (.int (4 : Int32)), .val (.ref b1), .unset, .unset] [(.ref b1)])
  refine own_go (fun _ k => XS.iconst X5.here hx rfl (hb hby at_58) k) ?_
  show own_Goes _ _ _ _ _ _ _ T5 (mkF m 59 #[.val (.int p0), .val (.int p1), .val (.long q2), .second, .val (.int (4 : Int32)), .val (.ref b1), .unset, .unset] [(.int (2 : Int32)), (.ref b1)])
  refine own_go (fun _ k => XS.iloadN X5.here hx rfl (hb hby at_59) rfl k) ?_
  show own_Goes _ _ _ _ _ _ _ T5 (mkF m 60 #[.val (.int p0), .val (.int p1), .val (.long q2), .second, .val (.int (4 : Int32)), .val (.ref b1), .unset, .unset] [(.int p1), (.int (2 : Int32)), (.ref b1)])
  refine own_go (fun _ k => XS.iconst X5.here hx rfl (hb hby at_60) k) ?_
  show own_Goes _ _ _ _ _ _ _ T5 (mkF m 61 #[.val (.int p0), .val (.int p1), .val (.long q2), .second, .val (.int (4 : Int32)), .val (.ref b1), .unset, .unset] [(.int (2 : Int32)), (.int p1), (.int (2 : Int32)), (.ref b1)])
  refine own_go (fun _ k => XS.lloadN X5.here hx rfl (hb hby at_61) rfl k) ?_
  show own_Goes _ _ _ _ _ _ _ T5 (mkF m 62 #[.val (.int p0), .val (.int p1), .val (.long q2), .second, .val (.int (4 : Int32)), .val (.ref b1), .unset, .unset] [(.long q2), (.int (2 : Int32)), (.int p1), (.int (2 : Int32)), (.ref b1)])
  refine own_go (fun _ k => XS.bipush X5.here hx rfl (hb hby at_62) k) ?_
  show own_Goes _ _ _ _ _ _ _ T5 (mkF m 64 #[.val (.int p0), .val (.int p1), .val (.long q2), .second, .val (.int (4 : Int32)), .val (.ref b1), .unset, .unset] [(.int (105 : Int32)), (.long q2), (.int (2 : Int32)), (.int p1), (.int (2 : Int32)), (.ref b1)])
  obtain ⟨_, _, ⟨T6, L6, k6, n6⟩, -, X6, ⟨Lc6, hQ6, l6, y6, z6⟩, st6⟩ := Jvm.LawKit.callS X5 hx (y := (⟨"com/example/wire3/wire3/core/mmi/MmiServiceInNamespacePinLaw", "pick", "(IIJB)B"⟩ : MethodName)) hown (mvT hZ (hw _ (List.mem_of_getElem? (i := 8) rfl))) (mvT hZ (hw _ (List.mem_of_getElem? (i := 9) rfl))) (mvT hZ (hw _ (List.mem_of_getElem? (i := 10) rfl))) (mvT hZ (hw _ (List.mem_of_getElem? (i := 11) rfl))) (by decide) (backOf (W := 2) (rm_pick l Z a0 hw [] p1 (2 : Int32) (105 : Int32) q2 h5 n0 Zs5) hZ (hw _ (List.mem_of_getElem? (i := 11) rfl)) (hw _ (List.mem_of_getElem? (i := 10) rfl)) (by decide) (by decide)) (g := (mkF m 64 #[.val (.int p0), .val (.int p1), .val (.long q2), .second, .val (.int (4 : Int32)), .val (.ref b1), .unset, .unset] [(.int (105 : Int32)), (.long q2), (.int (2 : Int32)), (.int p1), (.int (2 : Int32)), (.ref b1)])) rfl (by rw [hml]; rfl) (argsL := [(.int p1), (.int (2 : Int32)), (.long q2), (.int (105 : Int32))]) (rest := [(.int (2 : Int32)), (.ref b1)]) (lenOf pd_4 rfl) rfl (by show 2 * 0 + _ ≤ _; exact Nat.le_of_eq rfl) (hb hby at_64) (fun _ _ => ⟨rfl, e5, (by decide : 0 + 1 + 0 + 0 + 0 ≤ _), (by decide : 0 + 4 + 0 + 0 + 0 ≤ _)⟩)
  dsimp only [Pt.U, Pt.locs, Pt.cells, Pt.slots] at X6 l6 y6 z6 st6 hQ6
  subst l6 y6 z6
  obtain ⟨rfl, N6q, e6⟩ := hQ6
  have N6 := Fr.app N5 N6q
  refine own_go st6 ?_
  show own_Goes _ _ _ _ _ _ _ T6 (mkF m 67 #[.val (.int p0), .val (.int p1), .val (.long q2), .second, .val (.int (4 : Int32)), .val (.ref b1), .unset, .unset] [(.int (nar .byte (own_pick p1 (2 : Int32) q2 (105 : Int32)))), (.int (2 : Int32)), (.ref b1)])
  obtain ⟨T7, h7, X7, e7, W7, st7⟩ := stB X6 hx hZ e6 V_b1_5 (j := (2 : Int32)) (by show ¬ ((2 : Int32) < 0 ∨ 4 ≤ Int32.toNatClampNeg (2 : Int32)); decide) (g := (mkF m 67 #[.val (.int p0), .val (.int p1), .val (.long q2), .second, .val (.int (4 : Int32)), .val (.ref b1), .unset, .unset] [(.int (nar .byte (own_pick p1 (2 : Int32) q2 (105 : Int32)))), (.int (2 : Int32)), (.ref b1)])) rfl rfl (hb hby at_67)
  have N7 := Fr.snoc X7 N6 lo_b1
  have Zs7 : n0 ≤ h7.size := Nat.le_trans Zs5 (Keep.of_wr W7).1
  have Od7 : Old Z n0 h7 := Od5.wr W7 lo_b1
  have V_b1_7 : Arr Z h7 b1 ((((newA k1 .byte (4 : Int32)).setSlot ((0 : Int32)).toNatClampNeg (.int (nar .byte (nar .byte (own_pick p1 (0 : Int32) q2 (109 : Int32)))))).setSlot ((1 : Int32)).toNatClampNeg (.int (nar .byte (nar .byte (own_pick p1 (1 : Int32) q2 (109 : Int32)))))).setSlot ((2 : Int32)).toNatClampNeg (.int (nar .byte (nar .byte (own_pick p1 (2 : Int32) q2 (105 : Int32)))))) .byte := V_b1_5.same W7
  refine own_go st7 ?_
  show own_Goes _ _ _ _ _ _ _ T7 (mkF m 68 #[.val (.int p0), .val (.int p1), .val (.long q2), .second, .val (.int (4 : Int32)), .val (.ref b1), .unset, .unset] [])
  refine own_go (fun _ k => XS.iload X7.here hx rfl (hb hby at_68) rfl k) ?_
  show own_Goes _ _ _ _ _ _ _ T7 (mkF m 70 #[.val (.int p0), .val (.int p1), .val (.long q2), .second, .val (.int (4 : Int32)), .val (.ref b1), .unset, .unset] [(.int (4 : Int32))])
  refine own_go (fun _ k => XS.iconst X7.here hx rfl (hb hby at_70) k) ?_
  show own_Goes _ _ _ _ _ _ _ T7 (mkF m 71 #[.val (.int p0), .val (.int p1), .val (.long q2), .second, .val (.int (4 : Int32)), .val (.ref b1), .unset, .unset] [(.int (3 : Int32)), (.int (4 : Int32))])
  refine own_go (fun _ k => XS.icmpNo X7.here hx rfl (hb hby at_71) rfl (tlt (by decide : (3 : Int32) < (4 : Int32))).2.2.2 k) ?_
  show own_Goes _ _ _ _ _ _ _ T7 (mkF m 74 #[.val (.int p0), .val (.int p1), .val (.long q2), .second, .val (.int (4 : Int32)), .val (.ref b1), .unset, .unset] [])
  refine own_go (fun _ k => XS.aload X7.here hx rfl (hb hby at_74) rfl rfl k) ?_
  show own_Goes _ _ _ _ _ _ _ T7 (mkF m 76 #[.val (.int p0), .val (.int p1), .val (.long q2), .second, .val (.int (4 : Int32)), .val (.ref b1), .unset, .unset] [(.ref b1)])
  refine own_go (fun _ k => XS.iconst X7.here hx rfl (hb hby at_76) k) ?_
  show own_Goes _ _ _ _ _ _ _ T7 (mkF m 77 #[.val (.int p0), .val (.int p1), .val (.long q2), .second, .val (.int (4 : Int32)), .val (.ref b1), .unset, .unset] [(.int (3 : Int32)), (.ref b1)])
  refine own_go (fun _ k => XS.iloadN X7.here hx rfl (hb hby at_77) rfl k) ?_
  show own_Goes _ _ _ _ _ _ _ T7 (mkF m 78 #[.val (.int p0), .val (.int p1), .val (.long q2), .second, .val (.int (4 : Int32)), .val (.ref b1), .unset, .unset] [(.int p1), (.int (3 : Int32)), (.ref b1)])
  refine own_go (fun _ k => XS.iconst X7.here hx rfl (hb hby at_78) k) ?_
  show own_Goes _ _ _ _ _ _ _ T7 (mkF m 79 #[.val (.int p0), .val (.int p1), .val (.long q2), .second, .val (.int (4 : Int32)), .val (.ref b1), .unset, .unset] [(.int (3 : Int32)), (.int p1), (.int (3 : Int32)), (.ref b1)])
  refine own_go (fun _ k => XS.lloadN X7.here hx rfl (hb hby at_79) rfl k) ?_
  show own_Goes _ _ _ _ _ _ _ T7 (mkF m 80 #[.val (.int p0), .val (.int p1), .val (.long q2), .second, .val (.int (4 : Int32)), .val (.ref b1), .unset, .unset] [(.long q2), (.int (3 : Int32)), (.int p1), (.int (3 : Int32)), (.ref b1)])
  refine own_go (fun _ k => XS.bipush X7.here hx rfl (hb hby at_80) k) ?_
  show own_Goes _ _ _ _ _ _ _ T7 (mkF m 82 #[.val (.int p0), .val (.int p1), .val (.long q2), .second, .val (.int (4 : Int32)), .val (.ref b1), .unset, .unset] [(.int (46 : Int32)), (.long q2), (.int (3 : Int32)), (.int p1), (.int (3 : Int32)), (.ref b1)])
  obtain ⟨_, _, ⟨T8, L8, k8, n8⟩, -, X8, ⟨Lc8, hQ8, l8, y8, z8⟩, st8⟩ := Jvm.LawKit.callS X7 hx (y := (⟨"com/example/wire3/wire3/core/mmi/MmiServiceInNamespacePinLaw", "pick", "(IIJB)B"⟩ : MethodName)) hown (mvT hZ (hw _ (List.mem_of_getElem? (i := 8) rfl))) (mvT hZ (hw _ (List.mem_of_getElem? (i := 9) rfl))) (mvT hZ (hw _ (List.mem_of_getElem? (i := 10) rfl))) (mvT hZ (hw _ (List.mem_of_getElem? (i := 11) rfl))) (by decide) (backOf (W := 2) (rm_pick l Z a0 hw [] p1 (3 : Int32) (46 : Int32) q2 h7 n0 Zs7) hZ (hw _ (List.mem_of_getElem? (i := 11) rfl)) (hw _ (List.mem_of_getElem? (i := 10) rfl)) (by decide) (by decide)) (g := (mkF m 82 #[.val (.int p0), .val (.int p1), .val (.long q2), .second, .val (.int (4 : Int32)), .val (.ref b1), .unset, .unset] [(.int (46 : Int32)), (.long q2), (.int (3 : Int32)), (.int p1), (.int (3 : Int32)), (.ref b1)])) rfl (by rw [hml]; rfl) (argsL := [(.int p1), (.int (3 : Int32)), (.long q2), (.int (46 : Int32))]) (rest := [(.int (3 : Int32)), (.ref b1)]) (lenOf pd_4 rfl) rfl (by show 2 * 0 + _ ≤ _; exact Nat.le_of_eq rfl) (hb hby at_82) (fun _ _ => ⟨rfl, e7, (by decide : 0 + 1 + 0 + 0 + 0 + 0 ≤ _), (by decide : 0 + 4 + 0 + 0 + 0 + 0 ≤ _)⟩)
  dsimp only [Pt.U, Pt.locs, Pt.cells, Pt.slots] at X8 l8 y8 z8 st8 hQ8
  subst l8 y8 z8
  obtain ⟨rfl, N8q, e8⟩ := hQ8
  have N8 := Fr.app N7 N8q
  refine own_go st8 ?_
  show own_Goes _ _ _ _ _ _ _ T8 (mkF m 85 #[.val (.int p0), .val (.int p1), .val (.long q2), .second, .val (.int (4 : Int32)), .val (.ref b1), .unset, .unset] [(.int (nar .byte (own_pick p1 (3 : Int32) q2 (46 : Int32)))), (.int (3 : Int32)), (.ref b1)])
  obtain ⟨T9, h9, X9, e9, W9, st9⟩ := stB X8 hx hZ e8 V_b1_7 (j := (3 : Int32)) (by show ¬ ((3 : Int32) < 0 ∨ 4 ≤ Int32.toNatClampNeg (3 : Int32)); decide) (g := (mkF m 85 #[.val (.int p0), .val (.int p1), .val (.long q2), .second, .val (.int (4 : Int32)), .val (.ref b1), .unset, .unset] [(.int (nar .byte (own_pick p1 (3 : Int32) q2 (46 : Int32)))), (.int (3 : Int32)), (.ref b1)])) rfl rfl (hb hby at_85)
  have N9 := Fr.snoc X9 N8 lo_b1
  have Zs9 : n0 ≤ h9.size := Nat.le_trans Zs7 (Keep.of_wr W9).1
  have Od9 : Old Z n0 h9 := Od7.wr W9 lo_b1
  have V_b1_9 : Arr Z h9 b1 (((((newA k1 .byte (4 : Int32)).setSlot ((0 : Int32)).toNatClampNeg (.int (nar .byte (nar .byte (own_pick p1 (0 : Int32) q2 (109 : Int32)))))).setSlot ((1 : Int32)).toNatClampNeg (.int (nar .byte (nar .byte (own_pick p1 (1 : Int32) q2 (109 : Int32)))))).setSlot ((2 : Int32)).toNatClampNeg (.int (nar .byte (nar .byte (own_pick p1 (2 : Int32) q2 (105 : Int32)))))).setSlot ((3 : Int32)).toNatClampNeg (.int (nar .byte (nar .byte (own_pick p1 (3 : Int32) q2 (46 : Int32)))))) .byte := V_b1_7.same W9
  refine own_go st9 ?_
  show own_Goes _ _ _ _ _ _ _ T9 (mkF m 86 #[.val (.int p0), .val (.int p1), .val (.long q2), .second, .val (.int (4 : Int32)), .val (.ref b1), .unset, .unset] [])
  refine own_go (fun _ k => XS.iload X9.here hx rfl (hb hby at_86) rfl k) ?_
  show own_Goes _ _ _ _ _ _ _ T9 (mkF m 88 #[.val (.int p0), .val (.int p1), .val (.long q2), .second, .val (.int (4 : Int32)), .val (.ref b1), .unset, .unset] [(.int (4 : Int32))])
  refine own_go (fun _ k => XS.iconst X9.here hx rfl (hb hby at_88) k) ?_
  show own_Goes _ _ _ _ _ _ _ T9 (mkF m 89 #[.val (.int p0), .val (.int p1), .val (.long q2), .second, .val (.int (4 : Int32)), .val (.ref b1), .unset, .unset] [(.int (4 : Int32)), (.int (4 : Int32))])
  refine own_go (fun _ k => XS.icmpYes X9.here hx rfl (pc0 := 89) (pc' := 102) rfl (hb hby at_89) rfl (flt (by decide : ¬ ((4 : Int32) < (4 : Int32)))).2.2.2 (by decide) (by decide) k) ?_
  show own_Goes _ _ _ _ _ _ _ T9 (mkF m 102 #[.val (.int p0), .val (.int p1), .val (.long q2), .second, .val (.int (4 : Int32)), .val (.ref b1), .unset, .unset] [])
  refine own_go (fun _ k => XS.iload X9.here hx rfl (hb hby at_102) rfl k) ?_
  show own_Goes _ _ _ _ _ _ _ T9 (mkF m 104 #[.val (.int p0), .val (.int p1), .val (.long q2), .second, .val (.int (4 : Int32)), .val (.ref b1), .unset, .unset] [(.int (4 : Int32))])
  refine own_go (fun _ k => XS.iconst X9.here hx rfl (hb hby at_104) k) ?_
  show own_Goes _ _ _ _ _ _ _ T9 (mkF m 105 #[.val (.int p0), .val (.int p1), .val (.long q2), .second, .val (.int (4 : Int32)), .val (.ref b1), .unset, .unset] [(.int (5 : Int32)), (.int (4 : Int32))])
  refine own_go (fun _ k => XS.icmpYes X9.here hx rfl (pc0 := 105) (pc' := 118) rfl (hb hby at_105) rfl (flt (by decide : ¬ ((5 : Int32) < (4 : Int32)))).2.2.2 (by decide) (by decide) k) ?_
  show own_Goes _ _ _ _ _ _ _ T9 (mkF m 118 #[.val (.int p0), .val (.int p1), .val (.long q2), .second, .val (.int (4 : Int32)), .val (.ref b1), .unset, .unset] [])
  refine own_go (fun _ k => XS.iload X9.here hx rfl (hb hby at_118) rfl k) ?_
  show own_Goes _ _ _ _ _ _ _ T9 (mkF m 120 #[.val (.int p0), .val (.int p1), .val (.long q2), .second, .val (.int (4 : Int32)), .val (.ref b1), .unset, .unset] [(.int (4 : Int32))])
  refine own_go (fun _ k => XS.iconst X9.here hx rfl (hb hby at_120) k) ?_
  show own_Goes _ _ _ _ _ _ _ T9 (mkF m 121 #[.val (.int p0), .val (.int p1), .val (.long q2), .second, .val (.int (4 : Int32)), .val (.ref b1), .unset, .unset] [(.int (4 : Int32)), (.int (4 : Int32))])
  refine own_go (fun _ k => XS.icmpNo X9.here hx rfl (hb hby at_121) rfl (flt (by decide : ¬ ((4 : Int32) < (4 : Int32)))).1 k) ?_
  show own_Goes _ _ _ _ _ _ _ T9 (mkF m 124 #[.val (.int p0), .val (.int p1), .val (.long q2), .second, .val (.int (4 : Int32)), .val (.ref b1), .unset, .unset] [])
  refine own_go (fun _ k => XS.aload X9.here hx rfl (hb hby at_124) rfl rfl k) ?_
  show own_Goes _ _ _ _ _ _ _ T9 (mkF m 126 #[.val (.int p0), .val (.int p1), .val (.long q2), .second, .val (.int (4 : Int32)), .val (.ref b1), .unset, .unset] [(.ref b1)])
  refine own_go (fun _ k => XS.iconst X9.here hx rfl (hb hby at_126) k) ?_
  show own_Goes _ _ _ _ _ _ _ T9 (mkF m 127 #[.val (.int p0), .val (.int p1), .val (.long q2), .second, .val (.int (4 : Int32)), .val (.ref b1), .unset, .unset] [(.int (0 : Int32)), (.ref b1)])
  refine own_go (fun t k => X9.baloadBytes hx (j := (0 : Int32)) (v := (.int (nar .byte (nar .byte (own_pick p1 (0 : Int32) q2 (109 : Int32)))))) (by rw [e9]; exact V_b1_9.1) (State.isArrayOf_alike hZ.alike V_b1_9.2.1) V_b1_9.2.2 (by show ¬ ((0 : Int32) < 0 ∨ 4 ≤ Int32.toNatClampNeg (0 : Int32)); decide) (by rfl) (g := (mkF m 127 #[.val (.int p0), .val (.int p1), .val (.long q2), .second, .val (.int (4 : Int32)), .val (.ref b1), .unset, .unset] [(.int (0 : Int32)), (.ref b1)])) rfl rfl (hb hby at_127) t k) ?_
  show own_Goes _ _ _ _ _ _ _ T9 (mkF m 128 #[.val (.int p0), .val (.int p1), .val (.long q2), .second, .val (.int (4 : Int32)), .val (.ref b1), .unset, .unset] [(.int (nar .byte (nar .byte (own_pick p1 (0 : Int32) q2 (109 : Int32)))))])
  refine own_go (fun _ k => XS.bipush X9.here hx rfl (hb hby at_128) k) ?_
  show own_Goes _ _ _ _ _ _ _ T9 (mkF m 130 #[.val (.int p0), .val (.int p1), .val (.long q2), .second, .val (.int (4 : Int32)), .val (.ref b1), .unset, .unset] [(.int (109 : Int32)), (.int (nar .byte (nar .byte (own_pick p1 (0 : Int32) q2 (109 : Int32)))))])
  by_cases hc130 : (nar .byte (nar .byte (own_pick p1 (0 : Int32) q2 (109 : Int32)))) = (109 : Int32)
  · refine own_go (fun _ k => XS.icmpNo X9.here hx rfl (hb hby at_130) rfl (teq hc130).2 k) ?_
    show own_Goes _ _ _ _ _ _ _ T9 (mkF m 133 #[.val (.int p0), .val (.int p1), .val (.long q2), .second, .val (.int (4 : Int32)), .val (.ref b1), .unset, .unset] [])
    refine own_go (fun _ k => XS.aload X9.here hx rfl (hb hby at_133) rfl rfl k) ?_
    show own_Goes _ _ _ _ _ _ _ T9 (mkF m 135 #[.val (.int p0), .val (.int p1), .val (.long q2), .second, .val (.int (4 : Int32)), .val (.ref b1), .unset, .unset] [(.ref b1)])
    refine own_go (fun _ k => XS.iconst X9.here hx rfl (hb hby at_135) k) ?_
    show own_Goes _ _ _ _ _ _ _ T9 (mkF m 136 #[.val (.int p0), .val (.int p1), .val (.long q2), .second, .val (.int (4 : Int32)), .val (.ref b1), .unset, .unset] [(.int (1 : Int32)), (.ref b1)])
    refine own_go (fun t k => X9.baloadBytes hx (j := (1 : Int32)) (v := (.int (nar .byte (nar .byte (own_pick p1 (1 : Int32) q2 (109 : Int32)))))) (by rw [e9]; exact V_b1_9.1) (State.isArrayOf_alike hZ.alike V_b1_9.2.1) V_b1_9.2.2 (by show ¬ ((1 : Int32) < 0 ∨ 4 ≤ Int32.toNatClampNeg (1 : Int32)); decide) (by rfl) (g := (mkF m 136 #[.val (.int p0), .val (.int p1), .val (.long q2), .second, .val (.int (4 : Int32)), .val (.ref b1), .unset, .unset] [(.int (1 : Int32)), (.ref b1)])) rfl rfl (hb hby at_136) t k) ?_
    show own_Goes _ _ _ _ _ _ _ T9 (mkF m 137 #[.val (.int p0), .val (.int p1), .val (.long q2), .second, .val (.int (4 : Int32)), .val (.ref b1), .unset, .unset] [(.int (nar .byte (nar .byte (own_pick p1 (1 : Int32) q2 (109 : Int32)))))])
    refine own_go (fun _ k => XS.bipush X9.here hx rfl (hb hby at_137) k) ?_
    show own_Goes _ _ _ _ _ _ _ T9 (mkF m 139 #[.val (.int p0), .val (.int p1), .val (.long q2), .second, .val (.int (4 : Int32)), .val (.ref b1), .unset, .unset] [(.int (109 : Int32)), (.int (nar .byte (nar .byte (own_pick p1 (1 : Int32) q2 (109 : Int32)))))])
    by_cases hc139 : (nar .byte (nar .byte (own_pick p1 (1 : Int32) q2 (109 : Int32)))) = (109 : Int32)
    · refine own_go (fun _ k => XS.icmpNo X9.here hx rfl (hb hby at_139) rfl (teq hc139).2 k) ?_
      show own_Goes _ _ _ _ _ _ _ T9 (mkF m 142 #[.val (.int p0), .val (.int p1), .val (.long q2), .second, .val (.int (4 : Int32)), .val (.ref b1), .unset, .unset] [])
      refine own_go (fun _ k => XS.aload X9.here hx rfl (hb hby at_142) rfl rfl k) ?_
      show own_Goes _ _ _ _ _ _ _ T9 (mkF m 144 #[.val (.int p0), .val (.int p1), .val (.long q2), .second, .val (.int (4 : Int32)), .val (.ref b1), .unset, .unset] [(.ref b1)])
      refine own_go (fun _ k => XS.iconst X9.here hx rfl (hb hby at_144) k) ?_
      show own_Goes _ _ _ _ _ _ _ T9 (mkF m 145 #[.val (.int p0), .val (.int p1), .val (.long q2), .second, .val (.int (4 : Int32)), .val (.ref b1), .unset, .unset] [(.int (2 : Int32)), (.ref b1)])
      refine own_go (fun t k => X9.baloadBytes hx (j := (2 : Int32)) (v := (.int (nar .byte (nar .byte (own_pick p1 (2 : Int32) q2 (105 : Int32)))))) (by rw [e9]; exact V_b1_9.1) (State.isArrayOf_alike hZ.alike V_b1_9.2.1) V_b1_9.2.2 (by show ¬ ((2 : Int32) < 0 ∨ 4 ≤ Int32.toNatClampNeg (2 : Int32)); decide) (by rfl) (g := (mkF m 145 #[.val (.int p0), .val (.int p1), .val (.long q2), .second, .val (.int (4 : Int32)), .val (.ref b1), .unset, .unset] [(.int (2 : Int32)), (.ref b1)])) rfl rfl (hb hby at_145) t k) ?_
      show own_Goes _ _ _ _ _ _ _ T9 (mkF m 146 #[.val (.int p0), .val (.int p1), .val (.long q2), .second, .val (.int (4 : Int32)), .val (.ref b1), .unset, .unset] [(.int (nar .byte (nar .byte (own_pick p1 (2 : Int32) q2 (105 : Int32)))))])
      refine own_go (fun _ k => XS.bipush X9.here hx rfl (hb hby at_146) k) ?_
      show own_Goes _ _ _ _ _ _ _ T9 (mkF m 148 #[.val (.int p0), .val (.int p1), .val (.long q2), .second, .val (.int (4 : Int32)), .val (.ref b1), .unset, .unset] [(.int (105 : Int32)), (.int (nar .byte (nar .byte (own_pick p1 (2 : Int32) q2 (105 : Int32)))))])
      by_cases hc148 : (nar .byte (nar .byte (own_pick p1 (2 : Int32) q2 (105 : Int32)))) = (105 : Int32)
      · refine own_go (fun _ k => XS.icmpNo X9.here hx rfl (hb hby at_148) rfl (teq hc148).2 k) ?_
        show own_Goes _ _ _ _ _ _ _ T9 (mkF m 151 #[.val (.int p0), .val (.int p1), .val (.long q2), .second, .val (.int (4 : Int32)), .val (.ref b1), .unset, .unset] [])
        refine own_go (fun _ k => XS.aload X9.here hx rfl (hb hby at_151) rfl rfl k) ?_
        show own_Goes _ _ _ _ _ _ _ T9 (mkF m 153 #[.val (.int p0), .val (.int p1), .val (.long q2), .second, .val (.int (4 : Int32)), .val (.ref b1), .unset, .unset] [(.ref b1)])
        refine own_go (fun _ k => XS.iconst X9.here hx rfl (hb hby at_153) k) ?_
        show own_Goes _ _ _ _ _ _ _ T9 (mkF m 154 #[.val (.int p0), .val (.int p1), .val (.long q2), .second, .val (.int (4 : Int32)), .val (.ref b1), .unset, .unset] [(.int (3 : Int32)), (.ref b1)])
        refine own_go (fun t k => X9.baloadBytes hx (j := (3 : Int32)) (v := (.int (nar .byte (nar .byte (own_pick p1 (3 : Int32) q2 (46 : Int32)))))) (by rw [e9]; exact V_b1_9.1) (State.isArrayOf_alike hZ.alike V_b1_9.2.1) V_b1_9.2.2 (by show ¬ ((3 : Int32) < 0 ∨ 4 ≤ Int32.toNatClampNeg (3 : Int32)); decide) (by rfl) (g := (mkF m 154 #[.val (.int p0), .val (.int p1), .val (.long q2), .second, .val (.int (4 : Int32)), .val (.ref b1), .unset, .unset] [(.int (3 : Int32)), (.ref b1)])) rfl rfl (hb hby at_154) t k) ?_
        show own_Goes _ _ _ _ _ _ _ T9 (mkF m 155 #[.val (.int p0), .val (.int p1), .val (.long q2), .second, .val (.int (4 : Int32)), .val (.ref b1), .unset, .unset] [(.int (nar .byte (nar .byte (own_pick p1 (3 : Int32) q2 (46 : Int32)))))])
        refine own_go (fun _ k => XS.bipush X9.here hx rfl (hb hby at_155) k) ?_
        show own_Goes _ _ _ _ _ _ _ T9 (mkF m 157 #[.val (.int p0), .val (.int p1), .val (.long q2), .second, .val (.int (4 : Int32)), .val (.ref b1), .unset, .unset] [(.int (46 : Int32)), (.int (nar .byte (nar .byte (own_pick p1 (3 : Int32) q2 (46 : Int32)))))])
        by_cases hc157 : (nar .byte (nar .byte (own_pick p1 (3 : Int32) q2 (46 : Int32)))) = (46 : Int32)
        · refine own_go (fun _ k => XS.icmpNo X9.here hx rfl (hb hby at_157) rfl (teq hc157).2 k) ?_
          show own_Goes _ _ _ _ _ _ _ T9 (mkF m 160 #[.val (.int p0), .val (.int p1), .val (.long q2), .second, .val (.int (4 : Int32)), .val (.ref b1), .unset, .unset] [])
          refine own_go (fun _ k => XS.iconst X9.here hx rfl (hb hby at_160) k) ?_
          show own_Goes _ _ _ _ _ _ _ T9 (mkF m 161 #[.val (.int p0), .val (.int p1), .val (.long q2), .second, .val (.int (4 : Int32)), .val (.ref b1), .unset, .unset] [(.int (1 : Int32))])
          refine own_go (fun _ k => XS.goto X9.here hx rfl (pc0 := 161) (pc' := 165) rfl (hb hby at_161) (by decide) (by decide) k) ?_
          show own_Goes _ _ _ _ _ _ _ T9 (mkF m 165 #[.val (.int p0), .val (.int p1), .val (.long q2), .second, .val (.int (4 : Int32)), .val (.ref b1), .unset, .unset] [(.int (1 : Int32))])
          refine own_go (fun _ k => XS.istore X9.here hx rfl (hb hby at_165) rfl (l' := #[.val (.int p0), .val (.int p1), .val (.long q2), .second, .val (.int (4 : Int32)), .val (.ref b1), .val (.int (1 : Int32)), .unset]) rfl k) ?_
          show own_Goes _ _ _ _ _ _ _ T9 (mkF m 167 #[.val (.int p0), .val (.int p1), .val (.long q2), .second, .val (.int (4 : Int32)), .val (.ref b1), .val (.int (1 : Int32)), .unset] [])
          refine own_go (fun _ k => XS.aload X9.here hx rfl (hb hby at_167) rfl rfl k) ?_
          show own_Goes _ _ _ _ _ _ _ T9 (mkF m 169 #[.val (.int p0), .val (.int p1), .val (.long q2), .second, .val (.int (4 : Int32)), .val (.ref b1), .val (.int (1 : Int32)), .unset] [(.ref b1)])
          obtain ⟨_, _, ⟨T10, L10, k10, n10⟩, -, X10, ⟨Lc10, hQ10, l10, y10, z10⟩, st10⟩ := Jvm.LawKit.callS X9 hx (y := (⟨"com/example/wire3/wire3/core/mmi/MmiService", "inNamespace", "([B)Z"⟩ : MethodName)) hown (mvT hZ (hw _ (List.mem_of_getElem? (i := 2) rfl))) (mvT hZ (hw _ (List.mem_of_getElem? (i := 3) rfl))) (mvT hZ (hw _ (List.mem_of_getElem? (i := 4) rfl))) (mvT hZ (hw _ (List.mem_of_getElem? (i := 5) rfl))) (by decide) (backOf (W := 0) (rm_nsL l Z a0 hw [] b1 aN (((((newA k1 .byte (4 : Int32)).setSlot ((0 : Int32)).toNatClampNeg (.int (nar .byte (nar .byte (own_pick p1 (0 : Int32) q2 (109 : Int32)))))).setSlot ((1 : Int32)).toNatClampNeg (.int (nar .byte (nar .byte (own_pick p1 (1 : Int32) q2 (109 : Int32)))))).setSlot ((2 : Int32)).toNatClampNeg (.int (nar .byte (nar .byte (own_pick p1 (2 : Int32) q2 (105 : Int32)))))).setSlot ((3 : Int32)).toNatClampNeg (.int (nar .byte (nar .byte (own_pick p1 (3 : Int32) q2 (46 : Int32)))))) cN (4 : Int32) (nar .byte (nar .byte (own_pick p1 (0 : Int32) q2 (109 : Int32)))) (nar .byte (nar .byte (own_pick p1 (1 : Int32) q2 (109 : Int32)))) (nar .byte (nar .byte (own_pick p1 (2 : Int32) q2 (105 : Int32)))) (nar .byte (nar .byte (own_pick p1 (3 : Int32) q2 (46 : Int32)))) h9 n0 Zs9 Od9 V_b1_9 rfl (by decide) (by decide) rfl rfl rfl rfl AN SN eN_0 eN_1 eN_2 eN_3 SS) hZ (hw _ (List.mem_of_getElem? (i := 5) rfl)) (hw _ (List.mem_of_getElem? (i := 4) rfl)) (by decide) (by decide)) (g := (mkF m 169 #[.val (.int p0), .val (.int p1), .val (.long q2), .second, .val (.int (4 : Int32)), .val (.ref b1), .val (.int (1 : Int32)), .unset] [(.ref b1)])) rfl (by rw [hml]; rfl) (argsL := [(.ref b1)]) (rest := []) (lenOf pd_3 rfl) rfl (by show 2 * 0 + _ ≤ _; exact Nat.le_of_eq rfl) (hb hby at_169) (fun _ _ => ⟨rfl, e9, (by decide : 0 + 1 + 0 + 0 + 0 + 0 + 0 ≤ _), (by decide : 0 + 4 + 0 + 0 + 0 + 0 + 0 ≤ _)⟩)
          dsimp only [Pt.U, Pt.locs, Pt.cells, Pt.slots] at X10 l10 y10 z10 st10 hQ10
          subst l10 y10 z10
          obtain ⟨rfl, N10q, e10⟩ := hQ10
          have N10 := Fr.app N9 N10q
          refine own_go st10 ?_
          show own_Goes _ _ _ _ _ _ _ T10 (mkF m 172 #[.val (.int p0), .val (.int p1), .val (.long q2), .second, .val (.int (4 : Int32)), .val (.ref b1), .val (.int (1 : Int32)), .unset] [(.int (own_eq (nar .byte (nar .byte (own_pick p1 (0 : Int32) q2 (109 : Int32)))) (nar .byte (nar .byte (own_pick p1 (1 : Int32) q2 (109 : Int32)))) (nar .byte (nar .byte (own_pick p1 (2 : Int32) q2 (105 : Int32)))) (nar .byte (nar .byte (own_pick p1 (3 : Int32) q2 (46 : Int32))))))])
          refine own_go (fun _ k => XS.istore X10.here hx rfl (hb hby at_172) rfl (l' := #[.val (.int p0), .val (.int p1), .val (.long q2), .second, .val (.int (4 : Int32)), .val (.ref b1), .val (.int (1 : Int32)), .val (.int (own_eq (nar .byte (nar .byte (own_pick p1 (0 : Int32) q2 (109 : Int32)))) (nar .byte (nar .byte (own_pick p1 (1 : Int32) q2 (109 : Int32)))) (nar .byte (nar .byte (own_pick p1 (2 : Int32) q2 (105 : Int32)))) (nar .byte (nar .byte (own_pick p1 (3 : Int32) q2 (46 : Int32))))))]) rfl k) ?_
          show own_Goes _ _ _ _ _ _ _ T10 (mkF m 174 #[.val (.int p0), .val (.int p1), .val (.long q2), .second, .val (.int (4 : Int32)), .val (.ref b1), .val (.int (1 : Int32)), .val (.int (own_eq (nar .byte (nar .byte (own_pick p1 (0 : Int32) q2 (109 : Int32)))) (nar .byte (nar .byte (own_pick p1 (1 : Int32) q2 (109 : Int32)))) (nar .byte (nar .byte (own_pick p1 (2 : Int32) q2 (105 : Int32)))) (nar .byte (nar .byte (own_pick p1 (3 : Int32) q2 (46 : Int32))))))] [])
          refine own_go (fun _ k => XS.iload X10.here hx rfl (hb hby at_174) rfl k) ?_
          show own_Goes _ _ _ _ _ _ _ T10 (mkF m 176 #[.val (.int p0), .val (.int p1), .val (.long q2), .second, .val (.int (4 : Int32)), .val (.ref b1), .val (.int (1 : Int32)), .val (.int (own_eq (nar .byte (nar .byte (own_pick p1 (0 : Int32) q2 (109 : Int32)))) (nar .byte (nar .byte (own_pick p1 (1 : Int32) q2 (109 : Int32)))) (nar .byte (nar .byte (own_pick p1 (2 : Int32) q2 (105 : Int32)))) (nar .byte (nar .byte (own_pick p1 (3 : Int32) q2 (46 : Int32))))))] [(.int (own_eq (nar .byte (nar .byte (own_pick p1 (0 : Int32) q2 (109 : Int32)))) (nar .byte (nar .byte (own_pick p1 (1 : Int32) q2 (109 : Int32)))) (nar .byte (nar .byte (own_pick p1 (2 : Int32) q2 (105 : Int32)))) (nar .byte (nar .byte (own_pick p1 (3 : Int32) q2 (46 : Int32))))))])
          refine own_go (fun _ k => XS.iload X10.here hx rfl (hb hby at_176) rfl k) ?_
          show own_Goes _ _ _ _ _ _ _ T10 (mkF m 178 #[.val (.int p0), .val (.int p1), .val (.long q2), .second, .val (.int (4 : Int32)), .val (.ref b1), .val (.int (1 : Int32)), .val (.int (own_eq (nar .byte (nar .byte (own_pick p1 (0 : Int32) q2 (109 : Int32)))) (nar .byte (nar .byte (own_pick p1 (1 : Int32) q2 (109 : Int32)))) (nar .byte (nar .byte (own_pick p1 (2 : Int32) q2 (105 : Int32)))) (nar .byte (nar .byte (own_pick p1 (3 : Int32) q2 (46 : Int32))))))] [(.int (1 : Int32)), (.int (own_eq (nar .byte (nar .byte (own_pick p1 (0 : Int32) q2 (109 : Int32)))) (nar .byte (nar .byte (own_pick p1 (1 : Int32) q2 (109 : Int32)))) (nar .byte (nar .byte (own_pick p1 (2 : Int32) q2 (105 : Int32)))) (nar .byte (nar .byte (own_pick p1 (3 : Int32) q2 (46 : Int32))))))])
          refine own_go (fun _ k => XS.icmpNo X10.here hx rfl (hb hby at_178) rfl (teq (by rw [own_eq, if_pos hc130, if_pos hc139, if_pos hc148, if_pos hc157] : (own_eq (nar .byte (nar .byte (own_pick p1 (0 : Int32) q2 (109 : Int32)))) (nar .byte (nar .byte (own_pick p1 (1 : Int32) q2 (109 : Int32)))) (nar .byte (nar .byte (own_pick p1 (2 : Int32) q2 (105 : Int32)))) (nar .byte (nar .byte (own_pick p1 (3 : Int32) q2 (46 : Int32))))) = (1 : Int32))).2 k) ?_
          show own_Goes _ _ _ _ _ _ _ T10 (mkF m 181 #[.val (.int p0), .val (.int p1), .val (.long q2), .second, .val (.int (4 : Int32)), .val (.ref b1), .val (.int (1 : Int32)), .val (.int (own_eq (nar .byte (nar .byte (own_pick p1 (0 : Int32) q2 (109 : Int32)))) (nar .byte (nar .byte (own_pick p1 (1 : Int32) q2 (109 : Int32)))) (nar .byte (nar .byte (own_pick p1 (2 : Int32) q2 (105 : Int32)))) (nar .byte (nar .byte (own_pick p1 (3 : Int32) q2 (46 : Int32))))))] [])
          refine own_go (fun _ k => XS.iconst X10.here hx rfl (hb hby at_181) k) ?_
          show own_Goes _ _ _ _ _ _ _ T10 (mkF m 182 #[.val (.int p0), .val (.int p1), .val (.long q2), .second, .val (.int (4 : Int32)), .val (.ref b1), .val (.int (1 : Int32)), .val (.int (own_eq (nar .byte (nar .byte (own_pick p1 (0 : Int32) q2 (109 : Int32)))) (nar .byte (nar .byte (own_pick p1 (1 : Int32) q2 (109 : Int32)))) (nar .byte (nar .byte (own_pick p1 (2 : Int32) q2 (105 : Int32)))) (nar .byte (nar .byte (own_pick p1 (3 : Int32) q2 (46 : Int32))))))] [(.int (1 : Int32))])
          refine own_go (fun _ k => XS.goto X10.here hx rfl (pc0 := 182) (pc' := 186) rfl (hb hby at_182) (by decide) (by decide) k) ?_
          show own_Goes _ _ _ _ _ _ _ T10 (mkF m 186 #[.val (.int p0), .val (.int p1), .val (.long q2), .second, .val (.int (4 : Int32)), .val (.ref b1), .val (.int (1 : Int32)), .val (.int (own_eq (nar .byte (nar .byte (own_pick p1 (0 : Int32) q2 (109 : Int32)))) (nar .byte (nar .byte (own_pick p1 (1 : Int32) q2 (109 : Int32)))) (nar .byte (nar .byte (own_pick p1 (2 : Int32) q2 (105 : Int32)))) (nar .byte (nar .byte (own_pick p1 (3 : Int32) q2 (46 : Int32))))))] [(.int (1 : Int32))])
          exact own_retN X10 hx (t := .boolean) hlk hret (by simp) (hb hby at_186) (by decide) (by decide) ⟨rfl, N10⟩
        · refine own_go (fun _ k => XS.icmpYes X9.here hx rfl (pc0 := 157) (pc' := 164) rfl (hb hby at_157) rfl (feq hc157).2 (by decide) (by decide) k) ?_
          show own_Goes _ _ _ _ _ _ _ T9 (mkF m 164 #[.val (.int p0), .val (.int p1), .val (.long q2), .second, .val (.int (4 : Int32)), .val (.ref b1), .unset, .unset] [])
          refine own_go (fun _ k => XS.iconst X9.here hx rfl (hb hby at_164) k) ?_
          show own_Goes _ _ _ _ _ _ _ T9 (mkF m 165 #[.val (.int p0), .val (.int p1), .val (.long q2), .second, .val (.int (4 : Int32)), .val (.ref b1), .unset, .unset] [(.int (0 : Int32))])
          refine own_go (fun _ k => XS.istore X9.here hx rfl (hb hby at_165) rfl (l' := #[.val (.int p0), .val (.int p1), .val (.long q2), .second, .val (.int (4 : Int32)), .val (.ref b1), .val (.int (0 : Int32)), .unset]) rfl k) ?_
          show own_Goes _ _ _ _ _ _ _ T9 (mkF m 167 #[.val (.int p0), .val (.int p1), .val (.long q2), .second, .val (.int (4 : Int32)), .val (.ref b1), .val (.int (0 : Int32)), .unset] [])
          refine own_go (fun _ k => XS.aload X9.here hx rfl (hb hby at_167) rfl rfl k) ?_
          show own_Goes _ _ _ _ _ _ _ T9 (mkF m 169 #[.val (.int p0), .val (.int p1), .val (.long q2), .second, .val (.int (4 : Int32)), .val (.ref b1), .val (.int (0 : Int32)), .unset] [(.ref b1)])
          obtain ⟨_, _, ⟨T11, L11, k11, n11⟩, -, X11, ⟨Lc11, hQ11, l11, y11, z11⟩, st11⟩ := Jvm.LawKit.callS X9 hx (y := (⟨"com/example/wire3/wire3/core/mmi/MmiService", "inNamespace", "([B)Z"⟩ : MethodName)) hown (mvT hZ (hw _ (List.mem_of_getElem? (i := 2) rfl))) (mvT hZ (hw _ (List.mem_of_getElem? (i := 3) rfl))) (mvT hZ (hw _ (List.mem_of_getElem? (i := 4) rfl))) (mvT hZ (hw _ (List.mem_of_getElem? (i := 5) rfl))) (by decide) (backOf (W := 0) (rm_nsL l Z a0 hw [] b1 aN (((((newA k1 .byte (4 : Int32)).setSlot ((0 : Int32)).toNatClampNeg (.int (nar .byte (nar .byte (own_pick p1 (0 : Int32) q2 (109 : Int32)))))).setSlot ((1 : Int32)).toNatClampNeg (.int (nar .byte (nar .byte (own_pick p1 (1 : Int32) q2 (109 : Int32)))))).setSlot ((2 : Int32)).toNatClampNeg (.int (nar .byte (nar .byte (own_pick p1 (2 : Int32) q2 (105 : Int32)))))).setSlot ((3 : Int32)).toNatClampNeg (.int (nar .byte (nar .byte (own_pick p1 (3 : Int32) q2 (46 : Int32)))))) cN (4 : Int32) (nar .byte (nar .byte (own_pick p1 (0 : Int32) q2 (109 : Int32)))) (nar .byte (nar .byte (own_pick p1 (1 : Int32) q2 (109 : Int32)))) (nar .byte (nar .byte (own_pick p1 (2 : Int32) q2 (105 : Int32)))) (nar .byte (nar .byte (own_pick p1 (3 : Int32) q2 (46 : Int32)))) h9 n0 Zs9 Od9 V_b1_9 rfl (by decide) (by decide) rfl rfl rfl rfl AN SN eN_0 eN_1 eN_2 eN_3 SS) hZ (hw _ (List.mem_of_getElem? (i := 5) rfl)) (hw _ (List.mem_of_getElem? (i := 4) rfl)) (by decide) (by decide)) (g := (mkF m 169 #[.val (.int p0), .val (.int p1), .val (.long q2), .second, .val (.int (4 : Int32)), .val (.ref b1), .val (.int (0 : Int32)), .unset] [(.ref b1)])) rfl (by rw [hml]; rfl) (argsL := [(.ref b1)]) (rest := []) (lenOf pd_3 rfl) rfl (by show 2 * 0 + _ ≤ _; exact Nat.le_of_eq rfl) (hb hby at_169) (fun _ _ => ⟨rfl, e9, (by decide : 0 + 1 + 0 + 0 + 0 + 0 + 0 ≤ _), (by decide : 0 + 4 + 0 + 0 + 0 + 0 + 0 ≤ _)⟩)
          dsimp only [Pt.U, Pt.locs, Pt.cells, Pt.slots] at X11 l11 y11 z11 st11 hQ11
          subst l11 y11 z11
          obtain ⟨rfl, N11q, e11⟩ := hQ11
          have N11 := Fr.app N9 N11q
          refine own_go st11 ?_
          show own_Goes _ _ _ _ _ _ _ T11 (mkF m 172 #[.val (.int p0), .val (.int p1), .val (.long q2), .second, .val (.int (4 : Int32)), .val (.ref b1), .val (.int (0 : Int32)), .unset] [(.int (own_eq (nar .byte (nar .byte (own_pick p1 (0 : Int32) q2 (109 : Int32)))) (nar .byte (nar .byte (own_pick p1 (1 : Int32) q2 (109 : Int32)))) (nar .byte (nar .byte (own_pick p1 (2 : Int32) q2 (105 : Int32)))) (nar .byte (nar .byte (own_pick p1 (3 : Int32) q2 (46 : Int32))))))])
          refine own_go (fun _ k => XS.istore X11.here hx rfl (hb hby at_172) rfl (l' := #[.val (.int p0), .val (.int p1), .val (.long q2), .second, .val (.int (4 : Int32)), .val (.ref b1), .val (.int (0 : Int32)), .val (.int (own_eq (nar .byte (nar .byte (own_pick p1 (0 : Int32) q2 (109 : Int32)))) (nar .byte (nar .byte (own_pick p1 (1 : Int32) q2 (109 : Int32)))) (nar .byte (nar .byte (own_pick p1 (2 : Int32) q2 (105 : Int32)))) (nar .byte (nar .byte (own_pick p1 (3 : Int32) q2 (46 : Int32))))))]) rfl k) ?_
          show own_Goes _ _ _ _ _ _ _ T11 (mkF m 174 #[.val (.int p0), .val (.int p1), .val (.long q2), .second, .val (.int (4 : Int32)), .val (.ref b1), .val (.int (0 : Int32)), .val (.int (own_eq (nar .byte (nar .byte (own_pick p1 (0 : Int32) q2 (109 : Int32)))) (nar .byte (nar .byte (own_pick p1 (1 : Int32) q2 (109 : Int32)))) (nar .byte (nar .byte (own_pick p1 (2 : Int32) q2 (105 : Int32)))) (nar .byte (nar .byte (own_pick p1 (3 : Int32) q2 (46 : Int32))))))] [])
          refine own_go (fun _ k => XS.iload X11.here hx rfl (hb hby at_174) rfl k) ?_
          show own_Goes _ _ _ _ _ _ _ T11 (mkF m 176 #[.val (.int p0), .val (.int p1), .val (.long q2), .second, .val (.int (4 : Int32)), .val (.ref b1), .val (.int (0 : Int32)), .val (.int (own_eq (nar .byte (nar .byte (own_pick p1 (0 : Int32) q2 (109 : Int32)))) (nar .byte (nar .byte (own_pick p1 (1 : Int32) q2 (109 : Int32)))) (nar .byte (nar .byte (own_pick p1 (2 : Int32) q2 (105 : Int32)))) (nar .byte (nar .byte (own_pick p1 (3 : Int32) q2 (46 : Int32))))))] [(.int (own_eq (nar .byte (nar .byte (own_pick p1 (0 : Int32) q2 (109 : Int32)))) (nar .byte (nar .byte (own_pick p1 (1 : Int32) q2 (109 : Int32)))) (nar .byte (nar .byte (own_pick p1 (2 : Int32) q2 (105 : Int32)))) (nar .byte (nar .byte (own_pick p1 (3 : Int32) q2 (46 : Int32))))))])
          refine own_go (fun _ k => XS.iload X11.here hx rfl (hb hby at_176) rfl k) ?_
          show own_Goes _ _ _ _ _ _ _ T11 (mkF m 178 #[.val (.int p0), .val (.int p1), .val (.long q2), .second, .val (.int (4 : Int32)), .val (.ref b1), .val (.int (0 : Int32)), .val (.int (own_eq (nar .byte (nar .byte (own_pick p1 (0 : Int32) q2 (109 : Int32)))) (nar .byte (nar .byte (own_pick p1 (1 : Int32) q2 (109 : Int32)))) (nar .byte (nar .byte (own_pick p1 (2 : Int32) q2 (105 : Int32)))) (nar .byte (nar .byte (own_pick p1 (3 : Int32) q2 (46 : Int32))))))] [(.int (0 : Int32)), (.int (own_eq (nar .byte (nar .byte (own_pick p1 (0 : Int32) q2 (109 : Int32)))) (nar .byte (nar .byte (own_pick p1 (1 : Int32) q2 (109 : Int32)))) (nar .byte (nar .byte (own_pick p1 (2 : Int32) q2 (105 : Int32)))) (nar .byte (nar .byte (own_pick p1 (3 : Int32) q2 (46 : Int32))))))])
          refine own_go (fun _ k => XS.icmpNo X11.here hx rfl (hb hby at_178) rfl (teq (by rw [own_eq, if_pos hc130, if_pos hc139, if_pos hc148, if_neg hc157] : (own_eq (nar .byte (nar .byte (own_pick p1 (0 : Int32) q2 (109 : Int32)))) (nar .byte (nar .byte (own_pick p1 (1 : Int32) q2 (109 : Int32)))) (nar .byte (nar .byte (own_pick p1 (2 : Int32) q2 (105 : Int32)))) (nar .byte (nar .byte (own_pick p1 (3 : Int32) q2 (46 : Int32))))) = (0 : Int32))).2 k) ?_
          show own_Goes _ _ _ _ _ _ _ T11 (mkF m 181 #[.val (.int p0), .val (.int p1), .val (.long q2), .second, .val (.int (4 : Int32)), .val (.ref b1), .val (.int (0 : Int32)), .val (.int (own_eq (nar .byte (nar .byte (own_pick p1 (0 : Int32) q2 (109 : Int32)))) (nar .byte (nar .byte (own_pick p1 (1 : Int32) q2 (109 : Int32)))) (nar .byte (nar .byte (own_pick p1 (2 : Int32) q2 (105 : Int32)))) (nar .byte (nar .byte (own_pick p1 (3 : Int32) q2 (46 : Int32))))))] [])
          refine own_go (fun _ k => XS.iconst X11.here hx rfl (hb hby at_181) k) ?_
          show own_Goes _ _ _ _ _ _ _ T11 (mkF m 182 #[.val (.int p0), .val (.int p1), .val (.long q2), .second, .val (.int (4 : Int32)), .val (.ref b1), .val (.int (0 : Int32)), .val (.int (own_eq (nar .byte (nar .byte (own_pick p1 (0 : Int32) q2 (109 : Int32)))) (nar .byte (nar .byte (own_pick p1 (1 : Int32) q2 (109 : Int32)))) (nar .byte (nar .byte (own_pick p1 (2 : Int32) q2 (105 : Int32)))) (nar .byte (nar .byte (own_pick p1 (3 : Int32) q2 (46 : Int32))))))] [(.int (1 : Int32))])
          refine own_go (fun _ k => XS.goto X11.here hx rfl (pc0 := 182) (pc' := 186) rfl (hb hby at_182) (by decide) (by decide) k) ?_
          show own_Goes _ _ _ _ _ _ _ T11 (mkF m 186 #[.val (.int p0), .val (.int p1), .val (.long q2), .second, .val (.int (4 : Int32)), .val (.ref b1), .val (.int (0 : Int32)), .val (.int (own_eq (nar .byte (nar .byte (own_pick p1 (0 : Int32) q2 (109 : Int32)))) (nar .byte (nar .byte (own_pick p1 (1 : Int32) q2 (109 : Int32)))) (nar .byte (nar .byte (own_pick p1 (2 : Int32) q2 (105 : Int32)))) (nar .byte (nar .byte (own_pick p1 (3 : Int32) q2 (46 : Int32))))))] [(.int (1 : Int32))])
          exact own_retN X11 hx (t := .boolean) hlk hret (by simp) (hb hby at_186) (by decide) (by decide) ⟨rfl, N11⟩
      · refine own_go (fun _ k => XS.icmpYes X9.here hx rfl (pc0 := 148) (pc' := 164) rfl (hb hby at_148) rfl (feq hc148).2 (by decide) (by decide) k) ?_
        show own_Goes _ _ _ _ _ _ _ T9 (mkF m 164 #[.val (.int p0), .val (.int p1), .val (.long q2), .second, .val (.int (4 : Int32)), .val (.ref b1), .unset, .unset] [])
        refine own_go (fun _ k => XS.iconst X9.here hx rfl (hb hby at_164) k) ?_
        show own_Goes _ _ _ _ _ _ _ T9 (mkF m 165 #[.val (.int p0), .val (.int p1), .val (.long q2), .second, .val (.int (4 : Int32)), .val (.ref b1), .unset, .unset] [(.int (0 : Int32))])
        refine own_go (fun _ k => XS.istore X9.here hx rfl (hb hby at_165) rfl (l' := #[.val (.int p0), .val (.int p1), .val (.long q2), .second, .val (.int (4 : Int32)), .val (.ref b1), .val (.int (0 : Int32)), .unset]) rfl k) ?_
        show own_Goes _ _ _ _ _ _ _ T9 (mkF m 167 #[.val (.int p0), .val (.int p1), .val (.long q2), .second, .val (.int (4 : Int32)), .val (.ref b1), .val (.int (0 : Int32)), .unset] [])
        refine own_go (fun _ k => XS.aload X9.here hx rfl (hb hby at_167) rfl rfl k) ?_
        show own_Goes _ _ _ _ _ _ _ T9 (mkF m 169 #[.val (.int p0), .val (.int p1), .val (.long q2), .second, .val (.int (4 : Int32)), .val (.ref b1), .val (.int (0 : Int32)), .unset] [(.ref b1)])
        obtain ⟨_, _, ⟨T12, L12, k12, n12⟩, -, X12, ⟨Lc12, hQ12, l12, y12, z12⟩, st12⟩ := Jvm.LawKit.callS X9 hx (y := (⟨"com/example/wire3/wire3/core/mmi/MmiService", "inNamespace", "([B)Z"⟩ : MethodName)) hown (mvT hZ (hw _ (List.mem_of_getElem? (i := 2) rfl))) (mvT hZ (hw _ (List.mem_of_getElem? (i := 3) rfl))) (mvT hZ (hw _ (List.mem_of_getElem? (i := 4) rfl))) (mvT hZ (hw _ (List.mem_of_getElem? (i := 5) rfl))) (by decide) (backOf (W := 0) (rm_nsL l Z a0 hw [] b1 aN (((((newA k1 .byte (4 : Int32)).setSlot ((0 : Int32)).toNatClampNeg (.int (nar .byte (nar .byte (own_pick p1 (0 : Int32) q2 (109 : Int32)))))).setSlot ((1 : Int32)).toNatClampNeg (.int (nar .byte (nar .byte (own_pick p1 (1 : Int32) q2 (109 : Int32)))))).setSlot ((2 : Int32)).toNatClampNeg (.int (nar .byte (nar .byte (own_pick p1 (2 : Int32) q2 (105 : Int32)))))).setSlot ((3 : Int32)).toNatClampNeg (.int (nar .byte (nar .byte (own_pick p1 (3 : Int32) q2 (46 : Int32)))))) cN (4 : Int32) (nar .byte (nar .byte (own_pick p1 (0 : Int32) q2 (109 : Int32)))) (nar .byte (nar .byte (own_pick p1 (1 : Int32) q2 (109 : Int32)))) (nar .byte (nar .byte (own_pick p1 (2 : Int32) q2 (105 : Int32)))) (nar .byte (nar .byte (own_pick p1 (3 : Int32) q2 (46 : Int32)))) h9 n0 Zs9 Od9 V_b1_9 rfl (by decide) (by decide) rfl rfl rfl rfl AN SN eN_0 eN_1 eN_2 eN_3 SS) hZ (hw _ (List.mem_of_getElem? (i := 5) rfl)) (hw _ (List.mem_of_getElem? (i := 4) rfl)) (by decide) (by decide)) (g := (mkF m 169 #[.val (.int p0), .val (.int p1), .val (.long q2), .second, .val (.int (4 : Int32)), .val (.ref b1), .val (.int (0 : Int32)), .unset] [(.ref b1)])) rfl (by rw [hml]; rfl) (argsL := [(.ref b1)]) (rest := []) (lenOf pd_3 rfl) rfl (by show 2 * 0 + _ ≤ _; exact Nat.le_of_eq rfl) (hb hby at_169) (fun _ _ => ⟨rfl, e9, (by decide : 0 + 1 + 0 + 0 + 0 + 0 + 0 ≤ _), (by decide : 0 + 4 + 0 + 0 + 0 + 0 + 0 ≤ _)⟩)
        dsimp only [Pt.U, Pt.locs, Pt.cells, Pt.slots] at X12 l12 y12 z12 st12 hQ12
        subst l12 y12 z12
        obtain ⟨rfl, N12q, e12⟩ := hQ12
        have N12 := Fr.app N9 N12q
        refine own_go st12 ?_
        show own_Goes _ _ _ _ _ _ _ T12 (mkF m 172 #[.val (.int p0), .val (.int p1), .val (.long q2), .second, .val (.int (4 : Int32)), .val (.ref b1), .val (.int (0 : Int32)), .unset] [(.int (own_eq (nar .byte (nar .byte (own_pick p1 (0 : Int32) q2 (109 : Int32)))) (nar .byte (nar .byte (own_pick p1 (1 : Int32) q2 (109 : Int32)))) (nar .byte (nar .byte (own_pick p1 (2 : Int32) q2 (105 : Int32)))) (nar .byte (nar .byte (own_pick p1 (3 : Int32) q2 (46 : Int32))))))])
        refine own_go (fun _ k => XS.istore X12.here hx rfl (hb hby at_172) rfl (l' := #[.val (.int p0), .val (.int p1), .val (.long q2), .second, .val (.int (4 : Int32)), .val (.ref b1), .val (.int (0 : Int32)), .val (.int (own_eq (nar .byte (nar .byte (own_pick p1 (0 : Int32) q2 (109 : Int32)))) (nar .byte (nar .byte (own_pick p1 (1 : Int32) q2 (109 : Int32)))) (nar .byte (nar .byte (own_pick p1 (2 : Int32) q2 (105 : Int32)))) (nar .byte (nar .byte (own_pick p1 (3 : Int32) q2 (46 : Int32))))))]) rfl k) ?_
        show own_Goes _ _ _ _ _ _ _ T12 (mkF m 174 #[.val (.int p0), .val (.int p1), .val (.long q2), .second, .val (.int (4 : Int32)), .val (.ref b1), .val (.int (0 : Int32)), .val (.int (own_eq (nar .byte (nar .byte (own_pick p1 (0 : Int32) q2 (109 : Int32)))) (nar .byte (nar .byte (own_pick p1 (1 : Int32) q2 (109 : Int32)))) (nar .byte (nar .byte (own_pick p1 (2 : Int32) q2 (105 : Int32)))) (nar .byte (nar .byte (own_pick p1 (3 : Int32) q2 (46 : Int32))))))] [])
        refine own_go (fun _ k => XS.iload X12.here hx rfl (hb hby at_174) rfl k) ?_
        show own_Goes _ _ _ _ _ _ _ T12 (mkF m 176 #[.val (.int p0), .val (.int p1), .val (.long q2), .second, .val (.int (4 : Int32)), .val (.ref b1), .val (.int (0 : Int32)), .val (.int (own_eq (nar .byte (nar .byte (own_pick p1 (0 : Int32) q2 (109 : Int32)))) (nar .byte (nar .byte (own_pick p1 (1 : Int32) q2 (109 : Int32)))) (nar .byte (nar .byte (own_pick p1 (2 : Int32) q2 (105 : Int32)))) (nar .byte (nar .byte (own_pick p1 (3 : Int32) q2 (46 : Int32))))))] [(.int (own_eq (nar .byte (nar .byte (own_pick p1 (0 : Int32) q2 (109 : Int32)))) (nar .byte (nar .byte (own_pick p1 (1 : Int32) q2 (109 : Int32)))) (nar .byte (nar .byte (own_pick p1 (2 : Int32) q2 (105 : Int32)))) (nar .byte (nar .byte (own_pick p1 (3 : Int32) q2 (46 : Int32))))))])
        refine own_go (fun _ k => XS.iload X12.here hx rfl (hb hby at_176) rfl k) ?_
        show own_Goes _ _ _ _ _ _ _ T12 (mkF m 178 #[.val (.int p0), .val (.int p1), .val (.long q2), .second, .val (.int (4 : Int32)), .val (.ref b1), .val (.int (0 : Int32)), .val (.int (own_eq (nar .byte (nar .byte (own_pick p1 (0 : Int32) q2 (109 : Int32)))) (nar .byte (nar .byte (own_pick p1 (1 : Int32) q2 (109 : Int32)))) (nar .byte (nar .byte (own_pick p1 (2 : Int32) q2 (105 : Int32)))) (nar .byte (nar .byte (own_pick p1 (3 : Int32) q2 (46 : Int32))))))] [(.int (0 : Int32)), (.int (own_eq (nar .byte (nar .byte (own_pick p1 (0 : Int32) q2 (109 : Int32)))) (nar .byte (nar .byte (own_pick p1 (1 : Int32) q2 (109 : Int32)))) (nar .byte (nar .byte (own_pick p1 (2 : Int32) q2 (105 : Int32)))) (nar .byte (nar .byte (own_pick p1 (3 : Int32) q2 (46 : Int32))))))])
        refine own_go (fun _ k => XS.icmpNo X12.here hx rfl (hb hby at_178) rfl (teq (by rw [own_eq, if_pos hc130, if_pos hc139, if_neg hc148] : (own_eq (nar .byte (nar .byte (own_pick p1 (0 : Int32) q2 (109 : Int32)))) (nar .byte (nar .byte (own_pick p1 (1 : Int32) q2 (109 : Int32)))) (nar .byte (nar .byte (own_pick p1 (2 : Int32) q2 (105 : Int32)))) (nar .byte (nar .byte (own_pick p1 (3 : Int32) q2 (46 : Int32))))) = (0 : Int32))).2 k) ?_
        show own_Goes _ _ _ _ _ _ _ T12 (mkF m 181 #[.val (.int p0), .val (.int p1), .val (.long q2), .second, .val (.int (4 : Int32)), .val (.ref b1), .val (.int (0 : Int32)), .val (.int (own_eq (nar .byte (nar .byte (own_pick p1 (0 : Int32) q2 (109 : Int32)))) (nar .byte (nar .byte (own_pick p1 (1 : Int32) q2 (109 : Int32)))) (nar .byte (nar .byte (own_pick p1 (2 : Int32) q2 (105 : Int32)))) (nar .byte (nar .byte (own_pick p1 (3 : Int32) q2 (46 : Int32))))))] [])
        refine own_go (fun _ k => XS.iconst X12.here hx rfl (hb hby at_181) k) ?_
        show own_Goes _ _ _ _ _ _ _ T12 (mkF m 182 #[.val (.int p0), .val (.int p1), .val (.long q2), .second, .val (.int (4 : Int32)), .val (.ref b1), .val (.int (0 : Int32)), .val (.int (own_eq (nar .byte (nar .byte (own_pick p1 (0 : Int32) q2 (109 : Int32)))) (nar .byte (nar .byte (own_pick p1 (1 : Int32) q2 (109 : Int32)))) (nar .byte (nar .byte (own_pick p1 (2 : Int32) q2 (105 : Int32)))) (nar .byte (nar .byte (own_pick p1 (3 : Int32) q2 (46 : Int32))))))] [(.int (1 : Int32))])
        refine own_go (fun _ k => XS.goto X12.here hx rfl (pc0 := 182) (pc' := 186) rfl (hb hby at_182) (by decide) (by decide) k) ?_
        show own_Goes _ _ _ _ _ _ _ T12 (mkF m 186 #[.val (.int p0), .val (.int p1), .val (.long q2), .second, .val (.int (4 : Int32)), .val (.ref b1), .val (.int (0 : Int32)), .val (.int (own_eq (nar .byte (nar .byte (own_pick p1 (0 : Int32) q2 (109 : Int32)))) (nar .byte (nar .byte (own_pick p1 (1 : Int32) q2 (109 : Int32)))) (nar .byte (nar .byte (own_pick p1 (2 : Int32) q2 (105 : Int32)))) (nar .byte (nar .byte (own_pick p1 (3 : Int32) q2 (46 : Int32))))))] [(.int (1 : Int32))])
        exact own_retN X12 hx (t := .boolean) hlk hret (by simp) (hb hby at_186) (by decide) (by decide) ⟨rfl, N12⟩
    · refine own_go (fun _ k => XS.icmpYes X9.here hx rfl (pc0 := 139) (pc' := 164) rfl (hb hby at_139) rfl (feq hc139).2 (by decide) (by decide) k) ?_
      show own_Goes _ _ _ _ _ _ _ T9 (mkF m 164 #[.val (.int p0), .val (.int p1), .val (.long q2), .second, .val (.int (4 : Int32)), .val (.ref b1), .unset, .unset] [])
      refine own_go (fun _ k => XS.iconst X9.here hx rfl (hb hby at_164) k) ?_
      show own_Goes _ _ _ _ _ _ _ T9 (mkF m 165 #[.val (.int p0), .val (.int p1), .val (.long q2), .second, .val (.int (4 : Int32)), .val (.ref b1), .unset, .unset] [(.int (0 : Int32))])
      refine own_go (fun _ k => XS.istore X9.here hx rfl (hb hby at_165) rfl (l' := #[.val (.int p0), .val (.int p1), .val (.long q2), .second, .val (.int (4 : Int32)), .val (.ref b1), .val (.int (0 : Int32)), .unset]) rfl k) ?_
      show own_Goes _ _ _ _ _ _ _ T9 (mkF m 167 #[.val (.int p0), .val (.int p1), .val (.long q2), .second, .val (.int (4 : Int32)), .val (.ref b1), .val (.int (0 : Int32)), .unset] [])
      refine own_go (fun _ k => XS.aload X9.here hx rfl (hb hby at_167) rfl rfl k) ?_
      show own_Goes _ _ _ _ _ _ _ T9 (mkF m 169 #[.val (.int p0), .val (.int p1), .val (.long q2), .second, .val (.int (4 : Int32)), .val (.ref b1), .val (.int (0 : Int32)), .unset] [(.ref b1)])
      obtain ⟨_, _, ⟨T13, L13, k13, n13⟩, -, X13, ⟨Lc13, hQ13, l13, y13, z13⟩, st13⟩ := Jvm.LawKit.callS X9 hx (y := (⟨"com/example/wire3/wire3/core/mmi/MmiService", "inNamespace", "([B)Z"⟩ : MethodName)) hown (mvT hZ (hw _ (List.mem_of_getElem? (i := 2) rfl))) (mvT hZ (hw _ (List.mem_of_getElem? (i := 3) rfl))) (mvT hZ (hw _ (List.mem_of_getElem? (i := 4) rfl))) (mvT hZ (hw _ (List.mem_of_getElem? (i := 5) rfl))) (by decide) (backOf (W := 0) (rm_nsL l Z a0 hw [] b1 aN (((((newA k1 .byte (4 : Int32)).setSlot ((0 : Int32)).toNatClampNeg (.int (nar .byte (nar .byte (own_pick p1 (0 : Int32) q2 (109 : Int32)))))).setSlot ((1 : Int32)).toNatClampNeg (.int (nar .byte (nar .byte (own_pick p1 (1 : Int32) q2 (109 : Int32)))))).setSlot ((2 : Int32)).toNatClampNeg (.int (nar .byte (nar .byte (own_pick p1 (2 : Int32) q2 (105 : Int32)))))).setSlot ((3 : Int32)).toNatClampNeg (.int (nar .byte (nar .byte (own_pick p1 (3 : Int32) q2 (46 : Int32)))))) cN (4 : Int32) (nar .byte (nar .byte (own_pick p1 (0 : Int32) q2 (109 : Int32)))) (nar .byte (nar .byte (own_pick p1 (1 : Int32) q2 (109 : Int32)))) (nar .byte (nar .byte (own_pick p1 (2 : Int32) q2 (105 : Int32)))) (nar .byte (nar .byte (own_pick p1 (3 : Int32) q2 (46 : Int32)))) h9 n0 Zs9 Od9 V_b1_9 rfl (by decide) (by decide) rfl rfl rfl rfl AN SN eN_0 eN_1 eN_2 eN_3 SS) hZ (hw _ (List.mem_of_getElem? (i := 5) rfl)) (hw _ (List.mem_of_getElem? (i := 4) rfl)) (by decide) (by decide)) (g := (mkF m 169 #[.val (.int p0), .val (.int p1), .val (.long q2), .second, .val (.int (4 : Int32)), .val (.ref b1), .val (.int (0 : Int32)), .unset] [(.ref b1)])) rfl (by rw [hml]; rfl) (argsL := [(.ref b1)]) (rest := []) (lenOf pd_3 rfl) rfl (by show 2 * 0 + _ ≤ _; exact Nat.le_of_eq rfl) (hb hby at_169) (fun _ _ => ⟨rfl, e9, (by decide : 0 + 1 + 0 + 0 + 0 + 0 + 0 ≤ _), (by decide : 0 + 4 + 0 + 0 + 0 + 0 + 0 ≤ _)⟩)
      dsimp only [Pt.U, Pt.locs, Pt.cells, Pt.slots] at X13 l13 y13 z13 st13 hQ13
      subst l13 y13 z13
      obtain ⟨rfl, N13q, e13⟩ := hQ13
      have N13 := Fr.app N9 N13q
      refine own_go st13 ?_
      show own_Goes _ _ _ _ _ _ _ T13 (mkF m 172 #[.val (.int p0), .val (.int p1), .val (.long q2), .second, .val (.int (4 : Int32)), .val (.ref b1), .val (.int (0 : Int32)), .unset] [(.int (own_eq (nar .byte (nar .byte (own_pick p1 (0 : Int32) q2 (109 : Int32)))) (nar .byte (nar .byte (own_pick p1 (1 : Int32) q2 (109 : Int32)))) (nar .byte (nar .byte (own_pick p1 (2 : Int32) q2 (105 : Int32)))) (nar .byte (nar .byte (own_pick p1 (3 : Int32) q2 (46 : Int32))))))])
      refine own_go (fun _ k => XS.istore X13.here hx rfl (hb hby at_172) rfl (l' := #[.val (.int p0), .val (.int p1), .val (.long q2), .second, .val (.int (4 : Int32)), .val (.ref b1), .val (.int (0 : Int32)), .val (.int (own_eq (nar .byte (nar .byte (own_pick p1 (0 : Int32) q2 (109 : Int32)))) (nar .byte (nar .byte (own_pick p1 (1 : Int32) q2 (109 : Int32)))) (nar .byte (nar .byte (own_pick p1 (2 : Int32) q2 (105 : Int32)))) (nar .byte (nar .byte (own_pick p1 (3 : Int32) q2 (46 : Int32))))))]) rfl k) ?_
      show own_Goes _ _ _ _ _ _ _ T13 (mkF m 174 #[.val (.int p0), .val (.int p1), .val (.long q2), .second, .val (.int (4 : Int32)), .val (.ref b1), .val (.int (0 : Int32)), .val (.int (own_eq (nar .byte (nar .byte (own_pick p1 (0 : Int32) q2 (109 : Int32)))) (nar .byte (nar .byte (own_pick p1 (1 : Int32) q2 (109 : Int32)))) (nar .byte (nar .byte (own_pick p1 (2 : Int32) q2 (105 : Int32)))) (nar .byte (nar .byte (own_pick p1 (3 : Int32) q2 (46 : Int32))))))] [])
      refine own_go (fun _ k => XS.iload X13.here hx rfl (hb hby at_174) rfl k) ?_
      show own_Goes _ _ _ _ _ _ _ T13 (mkF m 176 #[.val (.int p0), .val (.int p1), .val (.long q2), .second, .val (.int (4 : Int32)), .val (.ref b1), .val (.int (0 : Int32)), .val (.int (own_eq (nar .byte (nar .byte (own_pick p1 (0 : Int32) q2 (109 : Int32)))) (nar .byte (nar .byte (own_pick p1 (1 : Int32) q2 (109 : Int32)))) (nar .byte (nar .byte (own_pick p1 (2 : Int32) q2 (105 : Int32)))) (nar .byte (nar .byte (own_pick p1 (3 : Int32) q2 (46 : Int32))))))] [(.int (own_eq (nar .byte (nar .byte (own_pick p1 (0 : Int32) q2 (109 : Int32)))) (nar .byte (nar .byte (own_pick p1 (1 : Int32) q2 (109 : Int32)))) (nar .byte (nar .byte (own_pick p1 (2 : Int32) q2 (105 : Int32)))) (nar .byte (nar .byte (own_pick p1 (3 : Int32) q2 (46 : Int32))))))])
      refine own_go (fun _ k => XS.iload X13.here hx rfl (hb hby at_176) rfl k) ?_
      show own_Goes _ _ _ _ _ _ _ T13 (mkF m 178 #[.val (.int p0), .val (.int p1), .val (.long q2), .second, .val (.int (4 : Int32)), .val (.ref b1), .val (.int (0 : Int32)), .val (.int (own_eq (nar .byte (nar .byte (own_pick p1 (0 : Int32) q2 (109 : Int32)))) (nar .byte (nar .byte (own_pick p1 (1 : Int32) q2 (109 : Int32)))) (nar .byte (nar .byte (own_pick p1 (2 : Int32) q2 (105 : Int32)))) (nar .byte (nar .byte (own_pick p1 (3 : Int32) q2 (46 : Int32))))))] [(.int (0 : Int32)), (.int (own_eq (nar .byte (nar .byte (own_pick p1 (0 : Int32) q2 (109 : Int32)))) (nar .byte (nar .byte (own_pick p1 (1 : Int32) q2 (109 : Int32)))) (nar .byte (nar .byte (own_pick p1 (2 : Int32) q2 (105 : Int32)))) (nar .byte (nar .byte (own_pick p1 (3 : Int32) q2 (46 : Int32))))))])
      refine own_go (fun _ k => XS.icmpNo X13.here hx rfl (hb hby at_178) rfl (teq (by rw [own_eq, if_pos hc130, if_neg hc139] : (own_eq (nar .byte (nar .byte (own_pick p1 (0 : Int32) q2 (109 : Int32)))) (nar .byte (nar .byte (own_pick p1 (1 : Int32) q2 (109 : Int32)))) (nar .byte (nar .byte (own_pick p1 (2 : Int32) q2 (105 : Int32)))) (nar .byte (nar .byte (own_pick p1 (3 : Int32) q2 (46 : Int32))))) = (0 : Int32))).2 k) ?_
      show own_Goes _ _ _ _ _ _ _ T13 (mkF m 181 #[.val (.int p0), .val (.int p1), .val (.long q2), .second, .val (.int (4 : Int32)), .val (.ref b1), .val (.int (0 : Int32)), .val (.int (own_eq (nar .byte (nar .byte (own_pick p1 (0 : Int32) q2 (109 : Int32)))) (nar .byte (nar .byte (own_pick p1 (1 : Int32) q2 (109 : Int32)))) (nar .byte (nar .byte (own_pick p1 (2 : Int32) q2 (105 : Int32)))) (nar .byte (nar .byte (own_pick p1 (3 : Int32) q2 (46 : Int32))))))] [])
      refine own_go (fun _ k => XS.iconst X13.here hx rfl (hb hby at_181) k) ?_
      show own_Goes _ _ _ _ _ _ _ T13 (mkF m 182 #[.val (.int p0), .val (.int p1), .val (.long q2), .second, .val (.int (4 : Int32)), .val (.ref b1), .val (.int (0 : Int32)), .val (.int (own_eq (nar .byte (nar .byte (own_pick p1 (0 : Int32) q2 (109 : Int32)))) (nar .byte (nar .byte (own_pick p1 (1 : Int32) q2 (109 : Int32)))) (nar .byte (nar .byte (own_pick p1 (2 : Int32) q2 (105 : Int32)))) (nar .byte (nar .byte (own_pick p1 (3 : Int32) q2 (46 : Int32))))))] [(.int (1 : Int32))])
      refine own_go (fun _ k => XS.goto X13.here hx rfl (pc0 := 182) (pc' := 186) rfl (hb hby at_182) (by decide) (by decide) k) ?_
      show own_Goes _ _ _ _ _ _ _ T13 (mkF m 186 #[.val (.int p0), .val (.int p1), .val (.long q2), .second, .val (.int (4 : Int32)), .val (.ref b1), .val (.int (0 : Int32)), .val (.int (own_eq (nar .byte (nar .byte (own_pick p1 (0 : Int32) q2 (109 : Int32)))) (nar .byte (nar .byte (own_pick p1 (1 : Int32) q2 (109 : Int32)))) (nar .byte (nar .byte (own_pick p1 (2 : Int32) q2 (105 : Int32)))) (nar .byte (nar .byte (own_pick p1 (3 : Int32) q2 (46 : Int32))))))] [(.int (1 : Int32))])
      exact own_retN X13 hx (t := .boolean) hlk hret (by simp) (hb hby at_186) (by decide) (by decide) ⟨rfl, N13⟩
  · refine own_go (fun _ k => XS.icmpYes X9.here hx rfl (pc0 := 130) (pc' := 164) rfl (hb hby at_130) rfl (feq hc130).2 (by decide) (by decide) k) ?_
    show own_Goes _ _ _ _ _ _ _ T9 (mkF m 164 #[.val (.int p0), .val (.int p1), .val (.long q2), .second, .val (.int (4 : Int32)), .val (.ref b1), .unset, .unset] [])
    refine own_go (fun _ k => XS.iconst X9.here hx rfl (hb hby at_164) k) ?_
    show own_Goes _ _ _ _ _ _ _ T9 (mkF m 165 #[.val (.int p0), .val (.int p1), .val (.long q2), .second, .val (.int (4 : Int32)), .val (.ref b1), .unset, .unset] [(.int (0 : Int32))])
    refine own_go (fun _ k => XS.istore X9.here hx rfl (hb hby at_165) rfl (l' := #[.val (.int p0), .val (.int p1), .val (.long q2), .second, .val (.int (4 : Int32)), .val (.ref b1), .val (.int (0 : Int32)), .unset]) rfl k) ?_
    show own_Goes _ _ _ _ _ _ _ T9 (mkF m 167 #[.val (.int p0), .val (.int p1), .val (.long q2), .second, .val (.int (4 : Int32)), .val (.ref b1), .val (.int (0 : Int32)), .unset] [])
    refine own_go (fun _ k => XS.aload X9.here hx rfl (hb hby at_167) rfl rfl k) ?_
    show own_Goes _ _ _ _ _ _ _ T9 (mkF m 169 #[.val (.int p0), .val (.int p1), .val (.long q2), .second, .val (.int (4 : Int32)), .val (.ref b1), .val (.int (0 : Int32)), .unset] [(.ref b1)])
    obtain ⟨_, _, ⟨T14, L14, k14, n14⟩, -, X14, ⟨Lc14, hQ14, l14, y14, z14⟩, st14⟩ := Jvm.LawKit.callS X9 hx (y := (⟨"com/example/wire3/wire3/core/mmi/MmiService", "inNamespace", "([B)Z"⟩ : MethodName)) hown (mvT hZ (hw _ (List.mem_of_getElem? (i := 2) rfl))) (mvT hZ (hw _ (List.mem_of_getElem? (i := 3) rfl))) (mvT hZ (hw _ (List.mem_of_getElem? (i := 4) rfl))) (mvT hZ (hw _ (List.mem_of_getElem? (i := 5) rfl))) (by decide) (backOf (W := 0) (rm_nsL l Z a0 hw [] b1 aN (((((newA k1 .byte (4 : Int32)).setSlot ((0 : Int32)).toNatClampNeg (.int (nar .byte (nar .byte (own_pick p1 (0 : Int32) q2 (109 : Int32)))))).setSlot ((1 : Int32)).toNatClampNeg (.int (nar .byte (nar .byte (own_pick p1 (1 : Int32) q2 (109 : Int32)))))).setSlot ((2 : Int32)).toNatClampNeg (.int (nar .byte (nar .byte (own_pick p1 (2 : Int32) q2 (105 : Int32)))))).setSlot ((3 : Int32)).toNatClampNeg (.int (nar .byte (nar .byte (own_pick p1 (3 : Int32) q2 (46 : Int32)))))) cN (4 : Int32) (nar .byte (nar .byte (own_pick p1 (0 : Int32) q2 (109 : Int32)))) (nar .byte (nar .byte (own_pick p1 (1 : Int32) q2 (109 : Int32)))) (nar .byte (nar .byte (own_pick p1 (2 : Int32) q2 (105 : Int32)))) (nar .byte (nar .byte (own_pick p1 (3 : Int32) q2 (46 : Int32)))) h9 n0 Zs9 Od9 V_b1_9 rfl (by decide) (by decide) rfl rfl rfl rfl AN SN eN_0 eN_1 eN_2 eN_3 SS) hZ (hw _ (List.mem_of_getElem? (i := 5) rfl)) (hw _ (List.mem_of_getElem? (i := 4) rfl)) (by decide) (by decide)) (g := (mkF m 169 #[.val (.int p0), .val (.int p1), .val (.long q2), .second, .val (.int (4 : Int32)), .val (.ref b1), .val (.int (0 : Int32)), .unset] [(.ref b1)])) rfl (by rw [hml]; rfl) (argsL := [(.ref b1)]) (rest := []) (lenOf pd_3 rfl) rfl (by show 2 * 0 + _ ≤ _; exact Nat.le_of_eq rfl) (hb hby at_169) (fun _ _ => ⟨rfl, e9, (by decide : 0 + 1 + 0 + 0 + 0 + 0 + 0 ≤ _), (by decide : 0 + 4 + 0 + 0 + 0 + 0 + 0 ≤ _)⟩)
    dsimp only [Pt.U, Pt.locs, Pt.cells, Pt.slots] at X14 l14 y14 z14 st14 hQ14
    subst l14 y14 z14
    obtain ⟨rfl, N14q, e14⟩ := hQ14
    have N14 := Fr.app N9 N14q
    refine own_go st14 ?_
    show own_Goes _ _ _ _ _ _ _ T14 (mkF m 172 #[.val (.int p0), .val (.int p1), .val (.long q2), .second, .val (.int (4 : Int32)), .val (.ref b1), .val (.int (0 : Int32)), .unset] [(.int (own_eq (nar .byte (nar .byte (own_pick p1 (0 : Int32) q2 (109 : Int32)))) (nar .byte (nar .byte (own_pick p1 (1 : Int32) q2 (109 : Int32)))) (nar .byte (nar .byte (own_pick p1 (2 : Int32) q2 (105 : Int32)))) (nar .byte (nar .byte (own_pick p1 (3 : Int32) q2 (46 : Int32))))))])
    refine own_go (fun _ k => XS.istore X14.here hx rfl (hb hby at_172) rfl (l' := #[.val (.int p0), .val (.int p1), .val (.long q2), .second, .val (.int (4 : Int32)), .val (.ref b1), .val (.int (0 : Int32)), .val (.int (own_eq (nar .byte (nar .byte (own_pick p1 (0 : Int32) q2 (109 : Int32)))) (nar .byte (nar .byte (own_pick p1 (1 : Int32) q2 (109 : Int32)))) (nar .byte (nar .byte (own_pick p1 (2 : Int32) q2 (105 : Int32)))) (nar .byte (nar .byte (own_pick p1 (3 : Int32) q2 (46 : Int32))))))]) rfl k) ?_
    show own_Goes _ _ _ _ _ _ _ T14 (mkF m 174 #[.val (.int p0), .val (.int p1), .val (.long q2), .second, .val (.int (4 : Int32)), .val (.ref b1), .val (.int (0 : Int32)), .val (.int (own_eq (nar .byte (nar .byte (own_pick p1 (0 : Int32) q2 (109 : Int32)))) (nar .byte (nar .byte (own_pick p1 (1 : Int32) q2 (109 : Int32)))) (nar .byte (nar .byte (own_pick p1 (2 : Int32) q2 (105 : Int32)))) (nar .byte (nar .byte (own_pick p1 (3 : Int32) q2 (46 : Int32))))))] [])
    refine own_go (fun _ k => XS.iload X14.here hx rfl (hb hby at_174) rfl k) ?_
    show own_Goes _ _ _ _ _ _ _ T14 (mkF m 176 #[.val (.int p0), .val (.int p1), .val (.long q2), .second, .val (.int (4 : Int32)), .val (.ref b1), .val (.int (0 : Int32)), .val (.int (own_eq (nar .byte (nar .byte (own_pick p1 (0 : Int32) q2 (109 : Int32)))) (nar .byte (nar .byte (own_pick p1 (1 : Int32) q2 (109 : Int32)))) (nar .byte (nar .byte (own_pick p1 (2 : Int32) q2 (105 : Int32)))) (nar .byte (nar .byte (own_pick p1 (3 : Int32) q2 (46 : Int32))))))] [(.int (own_eq (nar .byte (nar .byte (own_pick p1 (0 : Int32) q2 (109 : Int32)))) (nar .byte (nar .byte (own_pick p1 (1 : Int32) q2 (109 : Int32)))) (nar .byte (nar .byte (own_pick p1 (2 : Int32) q2 (105 : Int32)))) (nar .byte (nar .byte (own_pick p1 (3 : Int32) q2 (46 : Int32))))))])
    refine own_go (fun _ k => XS.iload X14.here hx rfl (hb hby at_176) rfl k) ?_
    show own_Goes _ _ _ _ _ _ _ T14 (mkF m 178 #[.val (.int p0), .val (.int p1), .val (.long q2), .second, .val (.int (4 : Int32)), .val (.ref b1), .val (.int (0 : Int32)), .val (.int (own_eq (nar .byte (nar .byte (own_pick p1 (0 : Int32) q2 (109 : Int32)))) (nar .byte (nar .byte (own_pick p1 (1 : Int32) q2 (109 : Int32)))) (nar .byte (nar .byte (own_pick p1 (2 : Int32) q2 (105 : Int32)))) (nar .byte (nar .byte (own_pick p1 (3 : Int32) q2 (46 : Int32))))))] [(.int (0 : Int32)), (.int (own_eq (nar .byte (nar .byte (own_pick p1 (0 : Int32) q2 (109 : Int32)))) (nar .byte (nar .byte (own_pick p1 (1 : Int32) q2 (109 : Int32)))) (nar .byte (nar .byte (own_pick p1 (2 : Int32) q2 (105 : Int32)))) (nar .byte (nar .byte (own_pick p1 (3 : Int32) q2 (46 : Int32))))))])
    refine own_go (fun _ k => XS.icmpNo X14.here hx rfl (hb hby at_178) rfl (teq (by rw [own_eq, if_neg hc130] : (own_eq (nar .byte (nar .byte (own_pick p1 (0 : Int32) q2 (109 : Int32)))) (nar .byte (nar .byte (own_pick p1 (1 : Int32) q2 (109 : Int32)))) (nar .byte (nar .byte (own_pick p1 (2 : Int32) q2 (105 : Int32)))) (nar .byte (nar .byte (own_pick p1 (3 : Int32) q2 (46 : Int32))))) = (0 : Int32))).2 k) ?_
    show own_Goes _ _ _ _ _ _ _ T14 (mkF m 181 #[.val (.int p0), .val (.int p1), .val (.long q2), .second, .val (.int (4 : Int32)), .val (.ref b1), .val (.int (0 : Int32)), .val (.int (own_eq (nar .byte (nar .byte (own_pick p1 (0 : Int32) q2 (109 : Int32)))) (nar .byte (nar .byte (own_pick p1 (1 : Int32) q2 (109 : Int32)))) (nar .byte (nar .byte (own_pick p1 (2 : Int32) q2 (105 : Int32)))) (nar .byte (nar .byte (own_pick p1 (3 : Int32) q2 (46 : Int32))))))] [])
    refine own_go (fun _ k => XS.iconst X14.here hx rfl (hb hby at_181) k) ?_
    show own_Goes _ _ _ _ _ _ _ T14 (mkF m 182 #[.val (.int p0), .val (.int p1), .val (.long q2), .second, .val (.int (4 : Int32)), .val (.ref b1), .val (.int (0 : Int32)), .val (.int (own_eq (nar .byte (nar .byte (own_pick p1 (0 : Int32) q2 (109 : Int32)))) (nar .byte (nar .byte (own_pick p1 (1 : Int32) q2 (109 : Int32)))) (nar .byte (nar .byte (own_pick p1 (2 : Int32) q2 (105 : Int32)))) (nar .byte (nar .byte (own_pick p1 (3 : Int32) q2 (46 : Int32))))))] [(.int (1 : Int32))])
    refine own_go (fun _ k => XS.goto X14.here hx rfl (pc0 := 182) (pc' := 186) rfl (hb hby at_182) (by decide) (by decide) k) ?_
    show own_Goes _ _ _ _ _ _ _ T14 (mkF m 186 #[.val (.int p0), .val (.int p1), .val (.long q2), .second, .val (.int (4 : Int32)), .val (.ref b1), .val (.int (0 : Int32)), .val (.int (own_eq (nar .byte (nar .byte (own_pick p1 (0 : Int32) q2 (109 : Int32)))) (nar .byte (nar .byte (own_pick p1 (1 : Int32) q2 (109 : Int32)))) (nar .byte (nar .byte (own_pick p1 (2 : Int32) q2 (105 : Int32)))) (nar .byte (nar .byte (own_pick p1 (3 : Int32) q2 (46 : Int32))))))] [(.int (1 : Int32))])
    exact own_retN X14 hx (t := .boolean) hlk hret (by simp) (hb hby at_186) (by decide) (by decide) ⟨rfl, N14⟩
set_option maxRecDepth 65536 in
set_option maxHeartbeats 40000000 in
theorem seg9_5 {p : Program} {l : Launch} {e : Env} {s : State} {m : MethodId} {args : Array Value} {below : List Frame} {meth : Method} {c : Code} {s₁ : State} {locs : List Loc} {Z : State} {a0 : Array Value} {h0 : Heap} (p0 p1 : Int32) (q2 : Int64) (aN : Addr) (cN : Cell)
    (hw : ∀ d ∈ tables_1, d.before a0 Z = true) (C : own_Ctx Z x "com/example/wire3/wire3/core/mmi/MmiServiceInNamespacePinLaw" code maxLocals ret p s m meth c) (X0 : Stand p l e room_1 s m args below meth c s₁ locs 0 0) (e0 : s₁.heap = h0) (n0 : Nat) (Z0 : n0 ≤ h0.size) (N0 : Fr n0 locs) (Od0 : Old Z n0 h0) (AN : Arr Z Z.heap aN cN .byte) (SN : cN.slots.size = 4) (eN_0 : cN.slots[0]? = some (.int (109 : Int32))) (eN_1 : cN.slots[1]? = some (.int (109 : Int32))) (eN_2 : cN.slots[2]? = some (.int (105 : Int32))) (eN_3 : cN.slots[3]? = some (.int (46 : Int32))) (SS : Sta Z Z.heap "com/example/wire3/wire3/core/mmi/MmiService" "NAMESPACE" "[B" (.ref aN)) :
    own_Goes p e below s (fun v h L => v = some (.int 1) ∧ Fr n0 L) room_1.cells room_1.slots s₁ (mkF m 9 #[.val (.int p0), .val (.int p1), .val (.long q2), .second, .val (.int (5 : Int32)), .unset, .unset, .unset] []) := by
  obtain ⟨hx, hby, hml, hown, hnm, hret, hlk, hZ⟩ := C
  refine own_go (fun _ k => XS.iload X0.here hx rfl (hb hby at_9) rfl k) ?_
  show own_Goes _ _ _ _ _ _ _ s₁ (mkF m 11 #[.val (.int p0), .val (.int p1), .val (.long q2), .second, .val (.int (5 : Int32)), .unset, .unset, .unset] [(.int (5 : Int32))])
  obtain ⟨T1, h1, k1, X1, e1, E1, A1, st1⟩ := newP X0 hx hZ (hw _ (List.mem_of_getElem? (i := 1) rfl)) e0 (g := (mkF m 11 #[.val (.int p0), .val (.int p1), .val (.long q2), .second, .val (.int (5 : Int32)), .unset, .unset, .unset] [(.int (5 : Int32))])) rfl (hb hby at_11) rfl (by decide) (cap := 5) (by decide) (by decide) (by decide) (by decide)
  obtain ⟨b1, g1⟩ : ∃ z, z = h0.size := ⟨_, rfl⟩
  rw [← g1] at A1 st1
  have lo_b1 : n0 ≤ b1 := Nat.le_trans Z0 (Nat.le_of_eq g1.symm)
  have Zs1 : n0 ≤ h1.size := Nat.le_trans Z0 E1.1
  have Od1 : Old Z n0 h1 := Od0.ext E1
  refine own_go st1 ?_
  show own_Goes _ _ _ _ _ _ _ T1 (mkF m 13 #[.val (.int p0), .val (.int p1), .val (.long q2), .second, .val (.int (5 : Int32)), .unset, .unset, .unset] [(.ref b1)])
  refine own_go (fun _ k => XS.astore X1.here hx rfl (hb hby at_13) rfl rfl (l' := #[.val (.int p0), .val (.int p1), .val (.long q2), .second, .val (.int (5 : Int32)), .val (.ref b1), .unset, .unset]) rfl k) ?_
  show own_Goes _ _ _ _ _ _ _ T1 (mkF m 15 #[.val (.int p0), .val (.int p1), .val (.long q2), .second, .val (.int (5 : Int32)), .val (.ref b1), .unset, .unset] [])
  refine own_go (fun _ k => XS.iload X1.here hx rfl (hb hby at_15) rfl k) ?_
  show own_Goes _ _ _ _ _ _ _ T1 (mkF m 17 #[.val (.int p0), .val (.int p1), .val (.long q2), .second, .val (.int (5 : Int32)), .val (.ref b1), .unset, .unset] [(.int (5 : Int32))])
  refine own_go (fun _ k => XS.ifNo X1.here hx rfl (hb hby at_17) rfl ((if0 _ _).trans (tlt (by decide : (0 : Int32) < (5 : Int32))).2.2.2) k) ?_
  show own_Goes _ _ _ _ _ _ _ T1 (mkF m 20 #[.val (.int p0), .val (.int p1), .val (.long q2), .second, .val (.int (5 : Int32)), .val (.ref b1), .unset, .unset] [])
  refine own_go (fun _ k => XS.aload X1.here hx rfl (hb hby at_20) rfl rfl k) ?_
  show own_Goes _ _ _ _ _ _ _ T1 (mkF m 22 #[.val (.int p0), .val (.int p1), .val (.long q2), .second, .val (.int (5 : Int32)), .val (.ref b1), .unset, .unset] [(.ref b1)])
  refine own_go (fun _ k => XS.iconst X1.here hx rfl (hb hby at_22) k) ?_
  show own_Goes _ _ _ _ _ _ _ T1 (mkF m 23 #[.val (.int p0), .val (.int p1), .val (.long q2), .second, .val (.int (5 : Int32)), .val (.ref b1), .unset, .unset] [(.int (0 : Int32)), (.ref b1)])
  refine own_go (fun _ k => XS.iloadN X1.here hx rfl (hb hby at_23) rfl k) ?_
  show own_Goes _ _ _ _ _ _ _ T1 (mkF m 24 #[.val (.int p0), .val (.int p1), .val (.long q2), .second, .val (.int (5 : Int32)), .val (.ref b1), .unset, .unset] [(.int p1), (.int (0 : Int32)), (.ref b1)])
  refine own_go (fun _ k => XS.iconst X1.here hx rfl (hb hby at_24) k) ?_
  show own_Goes _ _ _ _ _ _ _ T1 (mkF m 25 #[.val (.int p0), .val (.int p1), .val (.long q2), .second, .val (.int (5 : Int32)), .val (.ref b1), .unset, .unset] [(.int (0 : Int32)), (.int p1), (.int (0 : Int32)), (.ref b1)])
  refine own_go (fun _ k => XS.lloadN X1.here hx rfl (hb hby at_25) rfl k) ?_
  show own_Goes _ _ _ _ _ _ _ T1 (mkF m 26 #[.val (.int p0), .val (.int p1), .val (.long q2), .second, .val (.int (5 : Int32)), .val (.ref b1), .unset, .unset] [(.long q2), (.int (0 : Int32)), (.int p1), (.int (0 : Int32)), (.ref b1)])
  refine own_go (fun _ k => XS.bipush X1.here hx rfl (hb hby at_26) k) ?_
  show own_Goes _ _ _ _ _ _ _ T1 (mkF m 28 #[.val (.int p0), .val (.int p1), .val (.long q2), .second, .val (.int (5 : Int32)), .val (.ref b1), .unset, .unset] [(.int (109 : Int32)), (.long q2), (.int (0 : Int32)), (.int p1), (.int (0 : Int32)), (.ref b1)])
  obtain ⟨_, _, ⟨T2, L2, k2, n2⟩, -, X2, ⟨Lc2, hQ2, l2, y2, z2⟩, st2⟩ := Jvm.LawKit.callS X1 hx (y := (⟨"com/example/wire3/wire3/core/mmi/MmiServiceInNamespacePinLaw", "pick", "(IIJB)B"⟩ : MethodName)) hown (mvT hZ (hw _ (List.mem_of_getElem? (i := 8) rfl))) (mvT hZ (hw _ (List.mem_of_getElem? (i := 9) rfl))) (mvT hZ (hw _ (List.mem_of_getElem? (i := 10) rfl))) (mvT hZ (hw _ (List.mem_of_getElem? (i := 11) rfl))) (by decide) (backOf (W := 2) (rm_pick l Z a0 hw [] p1 (0 : Int32) (109 : Int32) q2 h1 n0 Zs1) hZ (hw _ (List.mem_of_getElem? (i := 11) rfl)) (hw _ (List.mem_of_getElem? (i := 10) rfl)) (by decide) (by decide)) (g := (mkF m 28 #[.val (.int p0), .val (.int p1), .val (.long q2), .second, .val (.int (5 : Int32)), .val (.ref b1), .unset, .unset] [(.int (109 : Int32)), (.long q2), (.int (0 : Int32)), (.int p1), (.int (0 : Int32)), (.ref b1)])) rfl (by rw [hml]; rfl) (argsL := [(.int p1), (.int (0 : Int32)), (.long q2), (.int (109 : Int32))]) (rest := [(.int (0 : Int32)), (.ref b1)]) (lenOf pd_4 rfl) rfl (by show 2 * 0 + _ ≤ _; exact Nat.le_of_eq rfl) (hb hby at_28) (fun _ _ => ⟨rfl, e1, (by decide : 0 + 1 + 0 ≤ _), (by decide : 0 + 5 + 0 ≤ _)⟩)
  dsimp only [Pt.U, Pt.locs, Pt.cells, Pt.slots] at X2 l2 y2 z2 st2 hQ2
  subst l2 y2 z2
  obtain ⟨rfl, N2q, e2⟩ := hQ2
  have N2 := Fr.app N0 N2q
  refine own_go st2 ?_
  show own_Goes _ _ _ _ _ _ _ T2 (mkF m 31 #[.val (.int p0), .val (.int p1), .val (.long q2), .second, .val (.int (5 : Int32)), .val (.ref b1), .unset, .unset] [(.int (nar .byte (own_pick p1 (0 : Int32) q2 (109 : Int32)))), (.int (0 : Int32)), (.ref b1)])
  obtain ⟨T3, h3, X3, e3, W3, st3⟩ := stB X2 hx hZ e2 A1 (j := (0 : Int32)) (by show ¬ ((0 : Int32) < 0 ∨ 5 ≤ Int32.toNatClampNeg (0 : Int32)); decide) (g := (mkF m 31 #[.val (.int p0), .val (.int p1), .val (.long q2), .second, .val (.int (5 : Int32)), .val (.ref b1), .unset, .unset] [(.int (nar .byte (own_pick p1 (0 : Int32) q2 (109 : Int32)))), (.int (0 : Int32)), (.ref b1)])) rfl rfl (hb hby at_31)
  have N3 := Fr.snoc X3 N2 lo_b1
  have Zs3 : n0 ≤ h3.size := Nat.le_trans Zs1 (Keep.of_wr W3).1
  have Od3 : Old Z n0 h3 := Od1.wr W3 lo_b1
  have V_b1_3 : Arr Z h3 b1 ((newA k1 .byte (5 : Int32)).setSlot ((0 : Int32)).toNatClampNeg (.int (nar .byte (nar .byte (own_pick p1 (0 : Int32) q2 (109 : Int32)))))) .byte := A1.same W3
  refine own_go st3 ?_
  show own_Goes _ _ _ _ _ _ _ T3 (mkF m 32 #[.val (.int p0), .val (.int p1), .val (.long q2), .second, .val (.int (5 : Int32)), .val (.ref b1), .unset, .unset] [])
  refine own_go (fun _ k => XS.iload X3.here hx rfl (hb hby at_32) rfl k) ?_
  show own_Goes _ _ _ _ _ _ _ T3 (mkF m 34 #[.val (.int p0), .val (.int p1), .val (.long q2), .second, .val (.int (5 : Int32)), .val (.ref b1), .unset, .unset] [(.int (5 : Int32))])
  refine own_go (fun _ k => XS.iconst X3.here hx rfl (hb hby at_34) k) ?_
  show own_Goes _ _ _ _ _ _ _ T3 (mkF m 35 #[.val (.int p0), .val (.int p1), .val (.long q2), .second, .val (.int (5 : Int32)), .val (.ref b1), .unset, .unset] [(.int (1 : Int32)), (.int (5 : Int32))])
  refine own_go (fun _ k => XS.icmpNo X3.here hx rfl (hb hby at_35) rfl (tlt (by decide : (1 : Int32) < (5 : Int32))).2.2.2 k) ?_
  show own_Goes _ _ _ _ _ _ _ T3 (mkF m 38 #[.val (.int p0), .val (.int p1), .val (.long q2), .second, .val (.int (5 : Int32)), .val (.ref b1), .unset, .unset] [])
  refine own_go (fun _ k => XS.aload X3.here hx rfl (hb hby at_38) rfl rfl k) ?_
  show own_Goes _ _ _ _ _ _ _ T3 (mkF m 40 #[.val (.int p0), .val (.int p1), .val (.long q2), .second, .val (.int (5 : Int32)), .val (.ref b1), .unset, .unset] [(.ref b1)])
  refine own_go (fun _ k => XS.iconst X3.here hx rfl (hb hby at_40) k) ?_
  show own_Goes _ _ _ _ _ _ _ T3 (mkF m 41 #[.val (.int p0), .val (.int p1), .val (.long q2), .second, .val (.int (5 : Int32)), .val (.ref b1), .unset, .unset] [(.int (1 : Int32)), (.ref b1)])
  refine own_go (fun _ k => XS.iloadN X3.here hx rfl (hb hby at_41) rfl k) ?_
  show own_Goes _ _ _ _ _ _ _ T3 (mkF m 42 #[.val (.int p0), .val (.int p1), .val (.long q2), .second, .val (.int (5 : Int32)), .val (.ref b1), .unset, .unset] [(.int p1), (.int (1 : Int32)), (.ref b1)])
  refine own_go (fun _ k => XS.iconst X3.here hx rfl (hb hby at_42) k) ?_
  show own_Goes _ _ _ _ _ _ _ T3 (mkF m 43 #[.val (.int p0), .val (.int p1), .val (.long q2), .second, .val (.int (5 : Int32)), .val (.ref b1), .unset, .unset] [(.int (1 : Int32)), (.int p1), (.int (1 : Int32)), (.ref b1)])
  refine own_go (fun _ k => XS.lloadN X3.here hx rfl (hb hby at_43) rfl k) ?_
  show own_Goes _ _ _ _ _ _ _ T3 (mkF m 44 #[.val (.int p0), .val (.int p1), .val (.long q2), .second, .val (.int (5 : Int32)), .val (.ref b1), .unset, .unset] [(.long q2), (.int (1 : Int32)), (.int p1), (.int (1 : Int32)), (.ref b1)])
  refine own_go (fun _ k => XS.bipush X3.here hx rfl (hb hby at_44) k) ?_
  show own_Goes _ _ _ _ _ _ _ T3 (mkF m 46 #[.val (.int p0), .val (.int p1), .val (.long q2), .second, .val (.int (5 : Int32)), .val (.ref b1), .unset, .unset] [(.int (109 : Int32)), (.long q2), (.int (1 : Int32)), (.int p1), (.int (1 : Int32)), (.ref b1)])
  obtain ⟨_, _, ⟨T4, L4, k4, n4⟩, -, X4, ⟨Lc4, hQ4, l4, y4, z4⟩, st4⟩ := Jvm.LawKit.callS X3 hx (y := (⟨"com/example/wire3/wire3/core/mmi/MmiServiceInNamespacePinLaw", "pick", "(IIJB)B"⟩ : MethodName)) hown (mvT hZ (hw _ (List.mem_of_getElem? (i := 8) rfl))) (mvT hZ (hw _ (List.mem_of_getElem? (i := 9) rfl))) (mvT hZ (hw _ (List.mem_of_getElem? (i := 10) rfl))) (mvT hZ (hw _ (List.mem_of_getElem? (i := 11) rfl))) (by decide) (backOf (W := 2) (rm_pick l Z a0 hw [] p1 (1 : Int32) (109 : Int32) q2 h3 n0 Zs3) hZ (hw _ (List.mem_of_getElem? (i := 11) rfl)) (hw _ (List.mem_of_getElem? (i := 10) rfl)) (by decide) (by decide)) (g := (mkF m 46 #[.val (.int p0), .val (.int p1), .val (.long q2), .second, .val (.int (5 : Int32)), .val (.ref b1), .unset, .unset] [(.int (109 : Int32)), (.long q2), (.int (1 : Int32)), (.int p1), (.int (1 : Int32)), (.ref b1)])) rfl (by rw [hml]; rfl) (argsL := [(.int p1), (.int (1 : Int32)), (.long q2), (.int (109 : Int32))]) (rest := [(.int (1 : Int32)), (.ref b1)]) (lenOf pd_4 rfl) rfl (by show 2 * 0 + _ ≤ _; exact Nat.le_of_eq rfl) (hb hby at_46) (fun _ _ => ⟨rfl, e3, (by decide : 0 + 1 + 0 + 0 ≤ _), (by decide : 0 + 5 + 0 + 0 ≤ _)⟩)
  dsimp only [Pt.U, Pt.locs, Pt.cells, Pt.slots] at X4 l4 y4 z4 st4 hQ4
  subst l4 y4 z4
  obtain ⟨rfl, N4q, e4⟩ := hQ4
  have N4 := Fr.app N3 N4q
  refine own_go st4 ?_
  show own_Goes _ _ _ _ _ _ _ T4 (mkF m 49 #[.val (.int p0), .val (.int p1), .val (.long q2), .second, .val (.int (5 : Int32)), .val (.ref b1), .unset, .unset] [(.int (nar .byte (own_pick p1 (1 : Int32) q2 (109 : Int32)))), (.int (1 : Int32)), (.ref b1)])
  obtain ⟨T5, h5, X5, e5, W5, st5⟩ := stB X4 hx hZ e4 V_b1_3 (j := (1 : Int32)) (by show ¬ ((1 : Int32) < 0 ∨ 5 ≤ Int32.toNatClampNeg (1 : Int32)); decide) (g := (mkF m 49 #[.val (.int p0), .val (.int p1), .val (.long q2), .second, .val (.int (5 : Int32)), .val (.ref b1), .unset, .unset] [(.int (nar .byte (own_pick p1 (1 : Int32) q2 (109 : Int32)))), (.int (1 : Int32)), (.ref b1)])) rfl rfl (hb hby at_49)
  have N5 := Fr.snoc X5 N4 lo_b1
  have Zs5 : n0 ≤ h5.size := Nat.le_trans Zs3 (Keep.of_wr W5).1
  have Od5 : Old Z n0 h5 := Od3.wr W5 lo_b1
  have V_b1_5 : Arr Z h5 b1 (((newA k1 .byte (5 : Int32)).setSlot ((0 : Int32)).toNatClampNeg (.int (nar .byte (nar .byte (own_pick p1 (0 : Int32) q2 (109 : Int32)))))).setSlot ((1 : Int32)).toNatClampNeg (.int (nar .byte (nar .byte (own_pick p1 (1 : Int32) q2 (109 : Int32)))))) .byte := V_b1_3.same W5
  refine own_go st5 ?_
  show own_Goes _ _ _ _ _ _ _ T5 (mkF m 50 #[.val (.int p0), .val (.int p1), .val (.long q2), .second, .val (.int (5 : Int32)), .val (.ref b1), .unset, .unset] [])
  refine own_go (fun _ k => XS.iload X5.here hx rfl (hb hby at_50) rfl k) ?_
  show own_Goes _ _ _ _ _ _ _ T5 (mkF m 52 #[.val (.int p0), .val (.int p1), .val (.long q2), .second, .val (.int (5 : Int32)), .val (.ref b1), .unset, .unset] [(.int (5 : Int32))])
  refine own_go (fun _ k => XS.iconst X5.here hx rfl (hb hby at_52) k) ?_
  show own_Goes _ _ _ _ _ _ _ T5 (mkF m 53 #[.val (.int p0), .val (.int p1), .val (.long q2), .second, .val (.int (5 : Int32)), .val (.ref b1), .unset, .unset] [(.int (2 : Int32)), (.int (5 : Int32))])
  refine own_go (fun _ k => XS.icmpNo X5.here hx rfl (hb hby at_53) rfl (tlt (by decide : (2 : Int32) < (5 : Int32))).2.2.2 k) ?_
  show own_Goes _ _ _ _ _ _ _ T5 (mkF m 56 #[.val (.int p0), .val (.int p1), .val (.long q2), .second, .val (.int (5 : Int32)), .val (.ref b1), .unset, .unset] [])
  refine own_go (fun _ k => XS.aload X5.here hx rfl (hb hby at_56) rfl rfl k) ?_
  show own_Goes _ _ _ _ _ _ _ T5 (mkF m 58 #[.val (.int p0), .val (.int p1), .val (.long q2), .second, .val (.int (5 : Int32)), .val (.ref b1), .unset, .unset] [(.ref b1)])
  refine own_go (fun _ k => XS.iconst X5.here hx rfl (hb hby at_58) k) ?_
  show own_Goes _ _ _ _ _ _ _ T5 (mkF m 59 #[.val (.int p0), .val (.int p1), .val (.long q2), .second, .val (.int (5 : Int32)), .val (.ref b1), .unset, .unset] [(.int (2 : Int32)), (.ref b1)])
  refine own_go (fun _ k => XS.iloadN X5.here hx rfl (hb hby at_59) rfl k) ?_
  show own_Goes _ _ _ _ _ _ _ T5 (mkF m 60 #[.val (.int p0), .val (.int p1), .val (.long q2), .second, .val (.int (5 : Int32)), .val (.ref b1), .unset, .unset] [(.int p1), (.int (2 : Int32)), (.ref b1)])
  refine own_go (fun _ k => XS.iconst X5.here hx rfl (hb hby at_60) k) ?_
  show own_Goes _ _ _ _ _ _ _ T5 (mkF m 61 #[.val (.int p0), .val (.int p1), .val (.long q2), .second, .val (.int (5 : Int32)), .val (.ref b1), .unset, .unset] [(.int (2 : Int32)), (.int p1), (.int (2 : Int32)), (.ref b1)])
  refine own_go (fun _ k => XS.lloadN X5.here hx rfl (hb hby at_61) rfl k) ?_
  show own_Goes _ _ _ _ _ _ _ T5 (mkF m 62 #[.val (.int p0), .val (.int p1), .val (.long q2), .second, .val (.int (5 : Int32)), .val (.ref b1), .unset, .unset] [(.long q2), (.int (2 : Int32)), (.int p1), (.int (2 : Int32)), (.ref b1)])
  refine own_go (fun _ k => XS.bipush X5.here hx rfl (hb hby at_62) k) ?_
  show own_Goes _ _ _ _ _ _ _ T5 (mkF m 64 #[.val (.int p0), .val (.int p1), .val (.long q2), .second, .val (.int (5 : Int32)), .val (.ref b1), .unset, .unset] [(.int (105 : Int32)), (.long q2), (.int (2 : Int32)), (.int p1), (.int (2 : Int32)), (.ref b1)])
  obtain ⟨_, _, ⟨T6, L6, k6, n6⟩, -, X6, ⟨Lc6, hQ6, l6, y6, z6⟩, st6⟩ := Jvm.LawKit.callS X5 hx (y := (⟨"com/example/wire3/wire3/core/mmi/MmiServiceInNamespacePinLaw", "pick", "(IIJB)B"⟩ : MethodName)) hown (mvT hZ (hw _ (List.mem_of_getElem? (i := 8) rfl))) (mvT hZ (hw _ (List.mem_of_getElem? (i := 9) rfl))) (mvT hZ (hw _ (List.mem_of_getElem? (i := 10) rfl))) (mvT hZ (hw _ (List.mem_of_getElem? (i := 11) rfl))) (by decide) (backOf (W := 2) (rm_pick l Z a0 hw [] p1 (2 : Int32) (105 : Int32) q2 h5 n0 Zs5) hZ (hw _ (List.mem_of_getElem? (i := 11) rfl)) (hw _ (List.mem_of_getElem? (i := 10) rfl)) (by decide) (by decide)) (g := (mkF m 64 #[.val (.int p0), .val (.int p1), .val (.long q2), .second, .val (.int (5 : Int32)), .val (.ref b1), .unset, .unset] [(.int (105 : Int32)), (.long q2), (.int (2 : Int32)), (.int p1), (.int (2 : Int32)), (.ref b1)])) rfl (by rw [hml]; rfl) (argsL := [(.int p1), (.int (2 : Int32)), (.long q2), (.int (105 : Int32))]) (rest := [(.int (2 : Int32)), (.ref b1)]) (lenOf pd_4 rfl) rfl (by show 2 * 0 + _ ≤ _; exact Nat.le_of_eq rfl) (hb hby at_64) (fun _ _ => ⟨rfl, e5, (by decide : 0 + 1 + 0 + 0 + 0 ≤ _), (by decide : 0 + 5 + 0 + 0 + 0 ≤ _)⟩)
  dsimp only [Pt.U, Pt.locs, Pt.cells, Pt.slots] at X6 l6 y6 z6 st6 hQ6
  subst l6 y6 z6
  obtain ⟨rfl, N6q, e6⟩ := hQ6
  have N6 := Fr.app N5 N6q
  refine own_go st6 ?_
  show own_Goes _ _ _ _ _ _ _ T6 (mkF m 67 #[.val (.int p0), .val (.int p1), .val (.long q2), .second, .val (.int (5 : Int32)), .val (.ref b1), .unset, .unset] [(.int (nar .byte (own_pick p1 (2 : Int32) q2 (105 : Int32)))), (.int (2 : Int32)), (.ref b1)])
  obtain ⟨T7, h7, X7, e7, W7, st7⟩ := stB X6 hx hZ e6 V_b1_5 (j := (2 : Int32)) (by show ¬ ((2 : Int32) < 0 ∨ 5 ≤ Int32.toNatClampNeg (2 : Int32)); decide) (g := (mkF m 67 #[.val (.int p0), .val (.int p1), .val (.long q2), .second, .val (.int (5 : Int32)), .val (.ref b1), .unset, .unset] [(.int (nar .byte (own_pick p1 (2 : Int32) q2 (105 : Int32)))), (.int (2 : Int32)), (.ref b1)])) rfl rfl (hb hby at_67)
  have N7 := Fr.snoc X7 N6 lo_b1
  have Zs7 : n0 ≤ h7.size := Nat.le_trans Zs5 (Keep.of_wr W7).1
  have Od7 : Old Z n0 h7 := Od5.wr W7 lo_b1
  have V_b1_7 : Arr Z h7 b1 ((((newA k1 .byte (5 : Int32)).setSlot ((0 : Int32)).toNatClampNeg (.int (nar .byte (nar .byte (own_pick p1 (0 : Int32) q2 (109 : Int32)))))).setSlot ((1 : Int32)).toNatClampNeg (.int (nar .byte (nar .byte (own_pick p1 (1 : Int32) q2 (109 : Int32)))))).setSlot ((2 : Int32)).toNatClampNeg (.int (nar .byte (nar .byte (own_pick p1 (2 : Int32) q2 (105 : Int32)))))) .byte := V_b1_5.same W7
  refine own_go st7 ?_
  show own_Goes _ _ _ _ _ _ _ T7 (mkF m 68 #[.val (.int p0), .val (.int p1), .val (.long q2), .second, .val (.int (5 : Int32)), .val (.ref b1), .unset, .unset] [])
  refine own_go (fun _ k => XS.iload X7.here hx rfl (hb hby at_68) rfl k) ?_
  show own_Goes _ _ _ _ _ _ _ T7 (mkF m 70 #[.val (.int p0), .val (.int p1), .val (.long q2), .second, .val (.int (5 : Int32)), .val (.ref b1), .unset, .unset] [(.int (5 : Int32))])
  refine own_go (fun _ k => XS.iconst X7.here hx rfl (hb hby at_70) k) ?_
  show own_Goes _ _ _ _ _ _ _ T7 (mkF m 71 #[.val (.int p0), .val (.int p1), .val (.long q2), .second, .val (.int (5 : Int32)), .val (.ref b1), .unset, .unset] [(.int (3 : Int32)), (.int (5 : Int32))])
  refine own_go (fun _ k => XS.icmpNo X7.here hx rfl (hb hby at_71) rfl (tlt (by decide : (3 : Int32) < (5 : Int32))).2.2.2 k) ?_
  show own_Goes _ _ _ _ _ _ _ T7 (mkF m 74 #[.val (.int p0), .val (.int p1), .val (.long q2), .second, .val (.int (5 : Int32)), .val (.ref b1), .unset, .unset] [])
  refine own_go (fun _ k => XS.aload X7.here hx rfl (hb hby at_74) rfl rfl k) ?_
  show own_Goes _ _ _ _ _ _ _ T7 (mkF m 76 #[.val (.int p0), .val (.int p1), .val (.long q2), .second, .val (.int (5 : Int32)), .val (.ref b1), .unset, .unset] [(.ref b1)])
  refine own_go (fun _ k => XS.iconst X7.here hx rfl (hb hby at_76) k) ?_
  show own_Goes _ _ _ _ _ _ _ T7 (mkF m 77 #[.val (.int p0), .val (.int p1), .val (.long q2), .second, .val (.int (5 : Int32)), .val (.ref b1), .unset, .unset] [(.int (3 : Int32)), (.ref b1)])
  refine own_go (fun _ k => XS.iloadN X7.here hx rfl (hb hby at_77) rfl k) ?_
  show own_Goes _ _ _ _ _ _ _ T7 (mkF m 78 #[.val (.int p0), .val (.int p1), .val (.long q2), .second, .val (.int (5 : Int32)), .val (.ref b1), .unset, .unset] [(.int p1), (.int (3 : Int32)), (.ref b1)])
  refine own_go (fun _ k => XS.iconst X7.here hx rfl (hb hby at_78) k) ?_
  show own_Goes _ _ _ _ _ _ _ T7 (mkF m 79 #[.val (.int p0), .val (.int p1), .val (.long q2), .second, .val (.int (5 : Int32)), .val (.ref b1), .unset, .unset] [(.int (3 : Int32)), (.int p1), (.int (3 : Int32)), (.ref b1)])
  refine own_go (fun _ k => XS.lloadN X7.here hx rfl (hb hby at_79) rfl k) ?_
  show own_Goes _ _ _ _ _ _ _ T7 (mkF m 80 #[.val (.int p0), .val (.int p1), .val (.long q2), .second, .val (.int (5 : Int32)), .val (.ref b1), .unset, .unset] [(.long q2), (.int (3 : Int32)), (.int p1), (.int (3 : Int32)), (.ref b1)])
  refine own_go (fun _ k => XS.bipush X7.here hx rfl (hb hby at_80) k) ?_
  show own_Goes _ _ _ _ _ _ _ T7 (mkF m 82 #[.val (.int p0), .val (.int p1), .val (.long q2), .second, .val (.int (5 : Int32)), .val (.ref b1), .unset, .unset] [(.int (46 : Int32)), (.long q2), (.int (3 : Int32)), (.int p1), (.int (3 : Int32)), (.ref b1)])
  obtain ⟨_, _, ⟨T8, L8, k8, n8⟩, -, X8, ⟨Lc8, hQ8, l8, y8, z8⟩, st8⟩ := Jvm.LawKit.callS X7 hx (y := (⟨"com/example/wire3/wire3/core/mmi/MmiServiceInNamespacePinLaw", "pick", "(IIJB)B"⟩ : MethodName)) hown (mvT hZ (hw _ (List.mem_of_getElem? (i := 8) rfl))) (mvT hZ (hw _ (List.mem_of_getElem? (i := 9) rfl))) (mvT hZ (hw _ (List.mem_of_getElem? (i := 10) rfl))) (mvT hZ (hw _ (List.mem_of_getElem? (i := 11) rfl))) (by decide) (backOf (W := 2) (rm_pick l Z a0 hw [] p1 (3 : Int32) (46 : Int32) q2 h7 n0 Zs7) hZ (hw _ (List.mem_of_getElem? (i := 11) rfl)) (hw _ (List.mem_of_getElem? (i := 10) rfl)) (by decide) (by decide)) (g := (mkF m 82 #[.val (.int p0), .val (.int p1), .val (.long q2), .second, .val (.int (5 : Int32)), .val (.ref b1), .unset, .unset] [(.int (46 : Int32)), (.long q2), (.int (3 : Int32)), (.int p1), (.int (3 : Int32)), (.ref b1)])) rfl (by rw [hml]; rfl) (argsL := [(.int p1), (.int (3 : Int32)), (.long q2), (.int (46 : Int32))]) (rest := [(.int (3 : Int32)), (.ref b1)]) (lenOf pd_4 rfl) rfl (by show 2 * 0 + _ ≤ _; exact Nat.le_of_eq rfl) (hb hby at_82) (fun _ _ => ⟨rfl, e7, (by decide : 0 + 1 + 0 + 0 + 0 + 0 ≤ _), (by decide : 0 + 5 + 0 + 0 + 0 + 0 ≤ _)⟩)
  dsimp only [Pt.U, Pt.locs, Pt.cells, Pt.slots] at X8 l8 y8 z8 st8 hQ8
  subst l8 y8 z8
  obtain ⟨rfl, N8q, e8⟩ := hQ8
  have N8 := Fr.app N7 N8q
  refine own_go st8 ?_
  show own_Goes _ _ _ _ _ _ _ T8 (mkF m 85 #[.val (.int p0), .val (.int p1), .val (.long q2), .second, .val (.int (5 : Int32)), .val (.ref b1), .unset, .unset] [(.int (nar .byte (own_pick p1 (3 : Int32) q2 (46 : Int32)))), (.int (3 : Int32)), (.ref b1)])
  obtain ⟨T9, h9, X9, e9, W9, st9⟩ := stB X8 hx hZ e8 V_b1_7 (j := (3 : Int32)) (by show ¬ ((3 : Int32) < 0 ∨ 5 ≤ Int32.toNatClampNeg (3 : Int32)); decide) (g := (mkF m 85 #[.val (.int p0), .val (.int p1), .val (.long q2), .second, .val (.int (5 : Int32)), .val (.ref b1), .unset, .unset] [(.int (nar .byte (own_pick p1 (3 : Int32) q2 (46 : Int32)))), (.int (3 : Int32)), (.ref b1)])) rfl rfl (hb hby at_85)
  have N9 := Fr.snoc X9 N8 lo_b1
  have Zs9 : n0 ≤ h9.size := Nat.le_trans Zs7 (Keep.of_wr W9).1
  have Od9 : Old Z n0 h9 := Od7.wr W9 lo_b1
  have V_b1_9 : Arr Z h9 b1 (((((newA k1 .byte (5 : Int32)).setSlot ((0 : Int32)).toNatClampNeg (.int (nar .byte (nar .byte (own_pick p1 (0 : Int32) q2 (109 : Int32)))))).setSlot ((1 : Int32)).toNatClampNeg (.int (nar .byte (nar .byte (own_pick p1 (1 : Int32) q2 (109 : Int32)))))).setSlot ((2 : Int32)).toNatClampNeg (.int (nar .byte (nar .byte (own_pick p1 (2 : Int32) q2 (105 : Int32)))))).setSlot ((3 : Int32)).toNatClampNeg (.int (nar .byte (nar .byte (own_pick p1 (3 : Int32) q2 (46 : Int32)))))) .byte := V_b1_7.same W9
  refine own_go st9 ?_
  show own_Goes _ _ _ _ _ _ _ T9 (mkF m 86 #[.val (.int p0), .val (.int p1), .val (.long q2), .second, .val (.int (5 : Int32)), .val (.ref b1), .unset, .unset] [])
  refine own_go (fun _ k => XS.iload X9.here hx rfl (hb hby at_86) rfl k) ?_
  show own_Goes _ _ _ _ _ _ _ T9 (mkF m 88 #[.val (.int p0), .val (.int p1), .val (.long q2), .second, .val (.int (5 : Int32)), .val (.ref b1), .unset, .unset] [(.int (5 : Int32))])
  refine own_go (fun _ k => XS.iconst X9.here hx rfl (hb hby at_88) k) ?_
  show own_Goes _ _ _ _ _ _ _ T9 (mkF m 89 #[.val (.int p0), .val (.int p1), .val (.long q2), .second, .val (.int (5 : Int32)), .val (.ref b1), .unset, .unset] [(.int (4 : Int32)), (.int (5 : Int32))])
  refine own_go (fun _ k => XS.icmpNo X9.here hx rfl (hb hby at_89) rfl (tlt (by decide : (4 : Int32) < (5 : Int32))).2.2.2 k) ?_
  show own_Goes _ _ _ _ _ _ _ T9 (mkF m 92 #[.val (.int p0), .val (.int p1), .val (.long q2), .second, .val (.int (5 : Int32)), .val (.ref b1), .unset, .unset] [])
  refine own_go (fun _ k => XS.aload X9.here hx rfl (hb hby at_92) rfl rfl k) ?_
  show own_Goes _ _ _ _ _ _ _ T9 (mkF m 94 #[.val (.int p0), .val (.int p1), .val (.long q2), .second, .val (.int (5 : Int32)), .val (.ref b1), .unset, .unset] [(.ref b1)])
  refine own_go (fun _ k => XS.iconst X9.here hx rfl (hb hby at_94) k) ?_
  show own_Goes _ _ _ _ _ _ _ T9 (mkF m 95 #[.val (.int p0), .val (.int p1), .val (.long q2), .second, .val (.int (5 : Int32)), .val (.ref b1), .unset, .unset] [(.int (4 : Int32)), (.ref b1)])
  refine own_go (fun _ k => XS.lloadN X9.here hx rfl (hb hby at_95) rfl k) ?_
  show own_Goes _ _ _ _ _ _ _ T9 (mkF m 96 #[.val (.int p0), .val (.int p1), .val (.long q2), .second, .val (.int (5 : Int32)), .val (.ref b1), .unset, .unset] [(.long q2), (.int (4 : Int32)), (.ref b1)])
  refine own_go (fun _ k => XS.bipush X9.here hx rfl (hb hby at_96) k) ?_
  show own_Goes _ _ _ _ _ _ _ T9 (mkF m 98 #[.val (.int p0), .val (.int p1), .val (.long q2), .second, .val (.int (5 : Int32)), .val (.ref b1), .unset, .unset] [(.int (32 : Int32)), (.long q2), (.int (4 : Int32)), (.ref b1)])
  refine own_go (fun _ k => XS.lushr X9.here hx rfl (hb hby at_98) rfl k) ?_
  show own_Goes _ _ _ _ _ _ _ T9 (mkF m 99 #[.val (.int p0), .val (.int p1), .val (.long q2), .second, .val (.int (5 : Int32)), .val (.ref b1), .unset, .unset] [(.long ((q2.toUInt64 >>> ((32 : Int32) &&& 0x3f).toInt64.toUInt64).toInt64)), (.int (4 : Int32)), (.ref b1)])
  refine own_go (fun _ k => XS.l2i X9.here hx rfl (hb hby at_99) rfl k) ?_
  show own_Goes _ _ _ _ _ _ _ T9 (mkF m 100 #[.val (.int p0), .val (.int p1), .val (.long q2), .second, .val (.int (5 : Int32)), .val (.ref b1), .unset, .unset] [(.int (((q2.toUInt64 >>> ((32 : Int32) &&& 0x3f).toInt64.toUInt64).toInt64).toInt32)), (.int (4 : Int32)), (.ref b1)])
  refine own_go (fun _ k => XS.i2b X9.here hx rfl (hb hby at_100) rfl k) ?_
  show own_Goes _ _ _ _ _ _ _ T9 (mkF m 101 #[.val (.int p0), .val (.int p1), .val (.long q2), .second, .val (.int (5 : Int32)), .val (.ref b1), .unset, .unset] [(.int ((((q2.toUInt64 >>> ((32 : Int32) &&& 0x3f).toInt64.toUInt64).toInt64).toInt32).toInt8.toInt32)), (.int (4 : Int32)), (.ref b1)])
  obtain ⟨T10, h10, X10, e10, W10, st10⟩ := stB X9 hx hZ e9 V_b1_9 (j := (4 : Int32)) (by show ¬ ((4 : Int32) < 0 ∨ 5 ≤ Int32.toNatClampNeg (4 : Int32)); decide) (g := (mkF m 101 #[.val (.int p0), .val (.int p1), .val (.long q2), .second, .val (.int (5 : Int32)), .val (.ref b1), .unset, .unset] [(.int ((((q2.toUInt64 >>> ((32 : Int32) &&& 0x3f).toInt64.toUInt64).toInt64).toInt32).toInt8.toInt32)), (.int (4 : Int32)), (.ref b1)])) rfl rfl (hb hby at_101)
  have N10 := Fr.snoc X10 N9 lo_b1
  have Zs10 : n0 ≤ h10.size := Nat.le_trans Zs9 (Keep.of_wr W10).1
  have Od10 : Old Z n0 h10 := Od9.wr W10 lo_b1
  have V_b1_10 : Arr Z h10 b1 ((((((newA k1 .byte (5 : Int32)).setSlot ((0 : Int32)).toNatClampNeg (.int (nar .byte (nar .byte (own_pick p1 (0 : Int32) q2 (109 : Int32)))))).setSlot ((1 : Int32)).toNatClampNeg (.int (nar .byte (nar .byte (own_pick p1 (1 : Int32) q2 (109 : Int32)))))).setSlot ((2 : Int32)).toNatClampNeg (.int (nar .byte (nar .byte (own_pick p1 (2 : Int32) q2 (105 : Int32)))))).setSlot ((3 : Int32)).toNatClampNeg (.int (nar .byte (nar .byte (own_pick p1 (3 : Int32) q2 (46 : Int32)))))).setSlot ((4 : Int32)).toNatClampNeg (.int (nar .byte ((((q2.toUInt64 >>> ((32 : Int32) &&& 0x3f).toInt64.toUInt64).toInt64).toInt32).toInt8.toInt32)))) .byte := V_b1_9.same W10
  refine own_go st10 ?_
  show own_Goes _ _ _ _ _ _ _ T10 (mkF m 102 #[.val (.int p0), .val (.int p1), .val (.long q2), .second, .val (.int (5 : Int32)), .val (.ref b1), .unset, .unset] [])
  refine own_go (fun _ k => XS.iload X10.here hx rfl (hb hby at_102) rfl k) ?_
  show own_Goes _ _ _ _ _ _ _ T10 (mkF m 104 #[.val (.int p0), .val (.int p1), .val (.long q2), .second, .val (.int (5 : Int32)), .val (.ref b1), .unset, .unset] [(.int (5 : Int32))])
  refine own_go (fun _ k => XS.iconst X10.here hx rfl (hb hby at_104) k) ?_
  show own_Goes _ _ _ _ _ _ _ T10 (mkF m 105 #[.val (.int p0), .val (.int p1), .val (.long q2), .second, .val (.int (5 : Int32)), .val (.ref b1), .unset, .unset] [(.int (5 : Int32)), (.int (5 : Int32))])
  refine own_go (fun _ k => XS.icmpYes X10.here hx rfl (pc0 := 105) (pc' := 118) rfl (hb hby at_105) rfl (flt (by decide : ¬ ((5 : Int32) < (5 : Int32)))).2.2.2 (by decide) (by decide) k) ?_
  show own_Goes _ _ _ _ _ _ _ T10 (mkF m 118 #[.val (.int p0), .val (.int p1), .val (.long q2), .second, .val (.int (5 : Int32)), .val (.ref b1), .unset, .unset] [])
  refine own_go (fun _ k => XS.iload X10.here hx rfl (hb hby at_118) rfl k) ?_
  show own_Goes _ _ _ _ _ _ _ T10 (mkF m 120 #[.val (.int p0), .val (.int p1), .val (.long q2), .second, .val (.int (5 : Int32)), .val (.ref b1), .unset, .unset] [(.int (5 : Int32))])
  refine own_go (fun _ k => XS.iconst X10.here hx rfl (hb hby at_120) k) ?_
  show own_Goes _ _ _ _ _ _ _ T10 (mkF m 121 #[.val (.int p0), .val (.int p1), .val (.long q2), .second, .val (.int (5 : Int32)), .val (.ref b1), .unset, .unset] [(.int (4 : Int32)), (.int (5 : Int32))])
  refine own_go (fun _ k => XS.icmpNo X10.here hx rfl (hb hby at_121) rfl (flt (by decide : ¬ ((5 : Int32) < (4 : Int32)))).1 k) ?_
  show own_Goes _ _ _ _ _ _ _ T10 (mkF m 124 #[.val (.int p0), .val (.int p1), .val (.long q2), .second, .val (.int (5 : Int32)), .val (.ref b1), .unset, .unset] [])
  refine own_go (fun _ k => XS.aload X10.here hx rfl (hb hby at_124) rfl rfl k) ?_
  show own_Goes _ _ _ _ _ _ _ T10 (mkF m 126 #[.val (.int p0), .val (.int p1), .val (.long q2), .second, .val (.int (5 : Int32)), .val (.ref b1), .unset, .unset] [(.ref b1)])
  refine own_go (fun _ k => XS.iconst X10.here hx rfl (hb hby at_126) k) ?_
  show own_Goes _ _ _ _ _ _ _ T10 (mkF m 127 #[.val (.int p0), .val (.int p1), .val (.long q2), .second, .val (.int (5 : Int32)), .val (.ref b1), .unset, .unset] [(.int (0 : Int32)), (.ref b1)])
  refine own_go (fun t k => X10.baloadBytes hx (j := (0 : Int32)) (v := (.int (nar .byte (nar .byte (own_pick p1 (0 : Int32) q2 (109 : Int32)))))) (by rw [e10]; exact V_b1_10.1) (State.isArrayOf_alike hZ.alike V_b1_10.2.1) V_b1_10.2.2 (by show ¬ ((0 : Int32) < 0 ∨ 5 ≤ Int32.toNatClampNeg (0 : Int32)); decide) (by rfl) (g := (mkF m 127 #[.val (.int p0), .val (.int p1), .val (.long q2), .second, .val (.int (5 : Int32)), .val (.ref b1), .unset, .unset] [(.int (0 : Int32)), (.ref b1)])) rfl rfl (hb hby at_127) t k) ?_
  show own_Goes _ _ _ _ _ _ _ T10 (mkF m 128 #[.val (.int p0), .val (.int p1), .val (.long q2), .second, .val (.int (5 : Int32)), .val (.ref b1), .unset, .unset] [(.int (nar .byte (nar .byte (own_pick p1 (0 : Int32) q2 (109 : Int32)))))])
  refine own_go (fun _ k => XS.bipush X10.here hx rfl (hb hby at_128) k) ?_
  show own_Goes _ _ _ _ _ _ _ T10 (mkF m 130 #[.val (.int p0), .val (.int p1), .val (.long q2), .second, .val (.int (5 : Int32)), .val (.ref b1), .unset, .unset] [(.int (109 : Int32)), (.int (nar .byte (nar .byte (own_pick p1 (0 : Int32) q2 (109 : Int32)))))])
  by_cases hc130 : (nar .byte (nar .byte (own_pick p1 (0 : Int32) q2 (109 : Int32)))) = (109 : Int32)
  · refine own_go (fun _ k => XS.icmpNo X10.here hx rfl (hb hby at_130) rfl (teq hc130).2 k) ?_
    show own_Goes _ _ _ _ _ _ _ T10 (mkF m 133 #[.val (.int p0), .val (.int p1), .val (.long q2), .second, .val (.int (5 : Int32)), .val (.ref b1), .unset, .unset] [])
    refine own_go (fun _ k => XS.aload X10.here hx rfl (hb hby at_133) rfl rfl k) ?_
    show own_Goes _ _ _ _ _ _ _ T10 (mkF m 135 #[.val (.int p0), .val (.int p1), .val (.long q2), .second, .val (.int (5 : Int32)), .val (.ref b1), .unset, .unset] [(.ref b1)])
    refine own_go (fun _ k => XS.iconst X10.here hx rfl (hb hby at_135) k) ?_
    show own_Goes _ _ _ _ _ _ _ T10 (mkF m 136 #[.val (.int p0), .val (.int p1), .val (.long q2), .second, .val (.int (5 : Int32)), .val (.ref b1), .unset, .unset] [(.int (1 : Int32)), (.ref b1)])
    refine own_go (fun t k => X10.baloadBytes hx (j := (1 : Int32)) (v := (.int (nar .byte (nar .byte (own_pick p1 (1 : Int32) q2 (109 : Int32)))))) (by rw [e10]; exact V_b1_10.1) (State.isArrayOf_alike hZ.alike V_b1_10.2.1) V_b1_10.2.2 (by show ¬ ((1 : Int32) < 0 ∨ 5 ≤ Int32.toNatClampNeg (1 : Int32)); decide) (by rfl) (g := (mkF m 136 #[.val (.int p0), .val (.int p1), .val (.long q2), .second, .val (.int (5 : Int32)), .val (.ref b1), .unset, .unset] [(.int (1 : Int32)), (.ref b1)])) rfl rfl (hb hby at_136) t k) ?_
    show own_Goes _ _ _ _ _ _ _ T10 (mkF m 137 #[.val (.int p0), .val (.int p1), .val (.long q2), .second, .val (.int (5 : Int32)), .val (.ref b1), .unset, .unset] [(.int (nar .byte (nar .byte (own_pick p1 (1 : Int32) q2 (109 : Int32)))))])
    refine own_go (fun _ k => XS.bipush X10.here hx rfl (hb hby at_137) k) ?_
    show own_Goes _ _ _ _ _ _ _ T10 (mkF m 139 #[.val (.int p0), .val (.int p1), .val (.long q2), .second, .val (.int (5 : Int32)), .val (.ref b1), .unset, .unset] [(.int (109 : Int32)), (.int (nar .byte (nar .byte (own_pick p1 (1 : Int32) q2 (109 : Int32)))))])
    by_cases hc139 : (nar .byte (nar .byte (own_pick p1 (1 : Int32) q2 (109 : Int32)))) = (109 : Int32)
    · refine own_go (fun _ k => XS.icmpNo X10.here hx rfl (hb hby at_139) rfl (teq hc139).2 k) ?_
      show own_Goes _ _ _ _ _ _ _ T10 (mkF m 142 #[.val (.int p0), .val (.int p1), .val (.long q2), .second, .val (.int (5 : Int32)), .val (.ref b1), .unset, .unset] [])
      refine own_go (fun _ k => XS.aload X10.here hx rfl (hb hby at_142) rfl rfl k) ?_
      show own_Goes _ _ _ _ _ _ _ T10 (mkF m 144 #[.val (.int p0), .val (.int p1), .val (.long q2), .second, .val (.int (5 : Int32)), .val (.ref b1), .unset, .unset] [(.ref b1)])
      refine own_go (fun _ k => XS.iconst X10.here hx rfl (hb hby at_144) k) ?_
      show own_Goes _ _ _ _ _ _ _ T10 (mkF m 145 #[.val (.int p0), .val (.int p1), .val (.long q2), .second, .val (.int (5 : Int32)), .val (.ref b1), .unset, .unset] [(.int (2 : Int32)), (.ref b1)])
      refine own_go (fun t k => X10.baloadBytes hx (j := (2 : Int32)) (v := (.int (nar .byte (nar .byte (own_pick p1 (2 : Int32) q2 (105 : Int32)))))) (by rw [e10]; exact V_b1_10.1) (State.isArrayOf_alike hZ.alike V_b1_10.2.1) V_b1_10.2.2 (by show ¬ ((2 : Int32) < 0 ∨ 5 ≤ Int32.toNatClampNeg (2 : Int32)); decide) (by rfl) (g := (mkF m 145 #[.val (.int p0), .val (.int p1), .val (.long q2), .second, .val (.int (5 : Int32)), .val (.ref b1), .unset, .unset] [(.int (2 : Int32)), (.ref b1)])) rfl rfl (hb hby at_145) t k) ?_
      show own_Goes _ _ _ _ _ _ _ T10 (mkF m 146 #[.val (.int p0), .val (.int p1), .val (.long q2), .second, .val (.int (5 : Int32)), .val (.ref b1), .unset, .unset] [(.int (nar .byte (nar .byte (own_pick p1 (2 : Int32) q2 (105 : Int32)))))])
      refine own_go (fun _ k => XS.bipush X10.here hx rfl (hb hby at_146) k) ?_
      show own_Goes _ _ _ _ _ _ _ T10 (mkF m 148 #[.val (.int p0), .val (.int p1), .val (.long q2), .second, .val (.int (5 : Int32)), .val (.ref b1), .unset, .unset] [(.int (105 : Int32)), (.int (nar .byte (nar .byte (own_pick p1 (2 : Int32) q2 (105 : Int32)))))])
      by_cases hc148 : (nar .byte (nar .byte (own_pick p1 (2 : Int32) q2 (105 : Int32)))) = (105 : Int32)
      · refine own_go (fun _ k => XS.icmpNo X10.here hx rfl (hb hby at_148) rfl (teq hc148).2 k) ?_
        show own_Goes _ _ _ _ _ _ _ T10 (mkF m 151 #[.val (.int p0), .val (.int p1), .val (.long q2), .second, .val (.int (5 : Int32)), .val (.ref b1), .unset, .unset] [])
        refine own_go (fun _ k => XS.aload X10.here hx rfl (hb hby at_151) rfl rfl k) ?_
        show own_Goes _ _ _ _ _ _ _ T10 (mkF m 153 #[.val (.int p0), .val (.int p1), .val (.long q2), .second, .val (.int (5 : Int32)), .val (.ref b1), .unset, .unset] [(.ref b1)])
        refine own_go (fun _ k => XS.iconst X10.here hx rfl (hb hby at_153) k) ?_
        show own_Goes _ _ _ _ _ _ _ T10 (mkF m 154 #[.val (.int p0), .val (.int p1), .val (.long q2), .second, .val (.int (5 : Int32)), .val (.ref b1), .unset, .unset] [(.int (3 : Int32)), (.ref b1)])
        refine own_go (fun t k => X10.baloadBytes hx (j := (3 : Int32)) (v := (.int (nar .byte (nar .byte (own_pick p1 (3 : Int32) q2 (46 : Int32)))))) (by rw [e10]; exact V_b1_10.1) (State.isArrayOf_alike hZ.alike V_b1_10.2.1) V_b1_10.2.2 (by show ¬ ((3 : Int32) < 0 ∨ 5 ≤ Int32.toNatClampNeg (3 : Int32)); decide) (by rfl) (g := (mkF m 154 #[.val (.int p0), .val (.int p1), .val (.long q2), .second, .val (.int (5 : Int32)), .val (.ref b1), .unset, .unset] [(.int (3 : Int32)), (.ref b1)])) rfl rfl (hb hby at_154) t k) ?_
        show own_Goes _ _ _ _ _ _ _ T10 (mkF m 155 #[.val (.int p0), .val (.int p1), .val (.long q2), .second, .val (.int (5 : Int32)), .val (.ref b1), .unset, .unset] [(.int (nar .byte (nar .byte (own_pick p1 (3 : Int32) q2 (46 : Int32)))))])
        refine own_go (fun _ k => XS.bipush X10.here hx rfl (hb hby at_155) k) ?_
        show own_Goes _ _ _ _ _ _ _ T10 (mkF m 157 #[.val (.int p0), .val (.int p1), .val (.long q2), .second, .val (.int (5 : Int32)), .val (.ref b1), .unset, .unset] [(.int (46 : Int32)), (.int (nar .byte (nar .byte (own_pick p1 (3 : Int32) q2 (46 : Int32)))))])
        by_cases hc157 : (nar .byte (nar .byte (own_pick p1 (3 : Int32) q2 (46 : Int32)))) = (46 : Int32)
        · refine own_go (fun _ k => XS.icmpNo X10.here hx rfl (hb hby at_157) rfl (teq hc157).2 k) ?_
          show own_Goes _ _ _ _ _ _ _ T10 (mkF m 160 #[.val (.int p0), .val (.int p1), .val (.long q2), .second, .val (.int (5 : Int32)), .val (.ref b1), .unset, .unset] [])
          refine own_go (fun _ k => XS.iconst X10.here hx rfl (hb hby at_160) k) ?_
          show own_Goes _ _ _ _ _ _ _ T10 (mkF m 161 #[.val (.int p0), .val (.int p1), .val (.long q2), .second, .val (.int (5 : Int32)), .val (.ref b1), .unset, .unset] [(.int (1 : Int32))])
          refine own_go (fun _ k => XS.goto X10.here hx rfl (pc0 := 161) (pc' := 165) rfl (hb hby at_161) (by decide) (by decide) k) ?_
          show own_Goes _ _ _ _ _ _ _ T10 (mkF m 165 #[.val (.int p0), .val (.int p1), .val (.long q2), .second, .val (.int (5 : Int32)), .val (.ref b1), .unset, .unset] [(.int (1 : Int32))])
          refine own_go (fun _ k => XS.istore X10.here hx rfl (hb hby at_165) rfl (l' := #[.val (.int p0), .val (.int p1), .val (.long q2), .second, .val (.int (5 : Int32)), .val (.ref b1), .val (.int (1 : Int32)), .unset]) rfl k) ?_
          show own_Goes _ _ _ _ _ _ _ T10 (mkF m 167 #[.val (.int p0), .val (.int p1), .val (.long q2), .second, .val (.int (5 : Int32)), .val (.ref b1), .val (.int (1 : Int32)), .unset] [])
          refine own_go (fun _ k => XS.aload X10.here hx rfl (hb hby at_167) rfl rfl k) ?_
          show own_Goes _ _ _ _ _ _ _ T10 (mkF m 169 #[.val (.int p0), .val (.int p1), .val (.long q2), .second, .val (.int (5 : Int32)), .val (.ref b1), .val (.int (1 : Int32)), .unset] [(.ref b1)])
          obtain ⟨_, _, ⟨T11, L11, k11, n11⟩, -, X11, ⟨Lc11, hQ11, l11, y11, z11⟩, st11⟩ := Jvm.LawKit.callS X10 hx (y := (⟨"com/example/wire3/wire3/core/mmi/MmiService", "inNamespace", "([B)Z"⟩ : MethodName)) hown (mvT hZ (hw _ (List.mem_of_getElem? (i := 2) rfl))) (mvT hZ (hw _ (List.mem_of_getElem? (i := 3) rfl))) (mvT hZ (hw _ (List.mem_of_getElem? (i := 4) rfl))) (mvT hZ (hw _ (List.mem_of_getElem? (i := 5) rfl))) (by decide) (backOf (W := 0) (rm_nsL l Z a0 hw [] b1 aN ((((((newA k1 .byte (5 : Int32)).setSlot ((0 : Int32)).toNatClampNeg (.int (nar .byte (nar .byte (own_pick p1 (0 : Int32) q2 (109 : Int32)))))).setSlot ((1 : Int32)).toNatClampNeg (.int (nar .byte (nar .byte (own_pick p1 (1 : Int32) q2 (109 : Int32)))))).setSlot ((2 : Int32)).toNatClampNeg (.int (nar .byte (nar .byte (own_pick p1 (2 : Int32) q2 (105 : Int32)))))).setSlot ((3 : Int32)).toNatClampNeg (.int (nar .byte (nar .byte (own_pick p1 (3 : Int32) q2 (46 : Int32)))))).setSlot ((4 : Int32)).toNatClampNeg (.int (nar .byte ((((q2.toUInt64 >>> ((32 : Int32) &&& 0x3f).toInt64.toUInt64).toInt64).toInt32).toInt8.toInt32)))) cN (5 : Int32) (nar .byte (nar .byte (own_pick p1 (0 : Int32) q2 (109 : Int32)))) (nar .byte (nar .byte (own_pick p1 (1 : Int32) q2 (109 : Int32)))) (nar .byte (nar .byte (own_pick p1 (2 : Int32) q2 (105 : Int32)))) (nar .byte (nar .byte (own_pick p1 (3 : Int32) q2 (46 : Int32)))) h10 n0 Zs10 Od10 V_b1_10 rfl (by decide) (by decide) rfl rfl rfl rfl AN SN eN_0 eN_1 eN_2 eN_3 SS) hZ (hw _ (List.mem_of_getElem? (i := 5) rfl)) (hw _ (List.mem_of_getElem? (i := 4) rfl)) (by decide) (by decide)) (g := (mkF m 169 #[.val (.int p0), .val (.int p1), .val (.long q2), .second, .val (.int (5 : Int32)), .val (.ref b1), .val (.int (1 : Int32)), .unset] [(.ref b1)])) rfl (by rw [hml]; rfl) (argsL := [(.ref b1)]) (rest := []) (lenOf pd_3 rfl) rfl (by show 2 * 0 + _ ≤ _; exact Nat.le_of_eq rfl) (hb hby at_169) (fun _ _ => ⟨rfl, e10, (by decide : 0 + 1 + 0 + 0 + 0 + 0 + 0 ≤ _), (by decide : 0 + 5 + 0 + 0 + 0 + 0 + 0 ≤ _)⟩)
          dsimp only [Pt.U, Pt.locs, Pt.cells, Pt.slots] at X11 l11 y11 z11 st11 hQ11
          subst l11 y11 z11
          obtain ⟨rfl, N11q, e11⟩ := hQ11
          have N11 := Fr.app N10 N11q
          refine own_go st11 ?_
          show own_Goes _ _ _ _ _ _ _ T11 (mkF m 172 #[.val (.int p0), .val (.int p1), .val (.long q2), .second, .val (.int (5 : Int32)), .val (.ref b1), .val (.int (1 : Int32)), .unset] [(.int (own_eq (nar .byte (nar .byte (own_pick p1 (0 : Int32) q2 (109 : Int32)))) (nar .byte (nar .byte (own_pick p1 (1 : Int32) q2 (109 : Int32)))) (nar .byte (nar .byte (own_pick p1 (2 : Int32) q2 (105 : Int32)))) (nar .byte (nar .byte (own_pick p1 (3 : Int32) q2 (46 : Int32))))))])
          refine own_go (fun _ k => XS.istore X11.here hx rfl (hb hby at_172) rfl (l' := #[.val (.int p0), .val (.int p1), .val (.long q2), .second, .val (.int (5 : Int32)), .val (.ref b1), .val (.int (1 : Int32)), .val (.int (own_eq (nar .byte (nar .byte (own_pick p1 (0 : Int32) q2 (109 : Int32)))) (nar .byte (nar .byte (own_pick p1 (1 : Int32) q2 (109 : Int32)))) (nar .byte (nar .byte (own_pick p1 (2 : Int32) q2 (105 : Int32)))) (nar .byte (nar .byte (own_pick p1 (3 : Int32) q2 (46 : Int32))))))]) rfl k) ?_
          show own_Goes _ _ _ _ _ _ _ T11 (mkF m 174 #[.val (.int p0), .val (.int p1), .val (.long q2), .second, .val (.int (5 : Int32)), .val (.ref b1), .val (.int (1 : Int32)), .val (.int (own_eq (nar .byte (nar .byte (own_pick p1 (0 : Int32) q2 (109 : Int32)))) (nar .byte (nar .byte (own_pick p1 (1 : Int32) q2 (109 : Int32)))) (nar .byte (nar .byte (own_pick p1 (2 : Int32) q2 (105 : Int32)))) (nar .byte (nar .byte (own_pick p1 (3 : Int32) q2 (46 : Int32))))))] [])
          refine own_go (fun _ k => XS.iload X11.here hx rfl (hb hby at_174) rfl k) ?_
          show own_Goes _ _ _ _ _ _ _ T11 (mkF m 176 #[.val (.int p0), .val (.int p1), .val (.long q2), .second, .val (.int (5 : Int32)), .val (.ref b1), .val (.int (1 : Int32)), .val (.int (own_eq (nar .byte (nar .byte (own_pick p1 (0 : Int32) q2 (109 : Int32)))) (nar .byte (nar .byte (own_pick p1 (1 : Int32) q2 (109 : Int32)))) (nar .byte (nar .byte (own_pick p1 (2 : Int32) q2 (105 : Int32)))) (nar .byte (nar .byte (own_pick p1 (3 : Int32) q2 (46 : Int32))))))] [(.int (own_eq (nar .byte (nar .byte (own_pick p1 (0 : Int32) q2 (109 : Int32)))) (nar .byte (nar .byte (own_pick p1 (1 : Int32) q2 (109 : Int32)))) (nar .byte (nar .byte (own_pick p1 (2 : Int32) q2 (105 : Int32)))) (nar .byte (nar .byte (own_pick p1 (3 : Int32) q2 (46 : Int32))))))])
          refine own_go (fun _ k => XS.iload X11.here hx rfl (hb hby at_176) rfl k) ?_
          show own_Goes _ _ _ _ _ _ _ T11 (mkF m 178 #[.val (.int p0), .val (.int p1), .val (.long q2), .second, .val (.int (5 : Int32)), .val (.ref b1), .val (.int (1 : Int32)), .val (.int (own_eq (nar .byte (nar .byte (own_pick p1 (0 : Int32) q2 (109 : Int32)))) (nar .byte (nar .byte (own_pick p1 (1 : Int32) q2 (109 : Int32)))) (nar .byte (nar .byte (own_pick p1 (2 : Int32) q2 (105 : Int32)))) (nar .byte (nar .byte (own_pick p1 (3 : Int32) q2 (46 : Int32))))))] [(.int (1 : Int32)), (.int (own_eq (nar .byte (nar .byte (own_pick p1 (0 : Int32) q2 (109 : Int32)))) (nar .byte (nar .byte (own_pick p1 (1 : Int32) q2 (109 : Int32)))) (nar .byte (nar .byte (own_pick p1 (2 : Int32) q2 (105 : Int32)))) (nar .byte (nar .byte (own_pick p1 (3 : Int32) q2 (46 : Int32))))))])
          refine own_go (fun _ k => XS.icmpNo X11.here hx rfl (hb hby at_178) rfl (teq (by rw [own_eq, if_pos hc130, if_pos hc139, if_pos hc148, if_pos hc157] : (own_eq (nar .byte (nar .byte (own_pick p1 (0 : Int32) q2 (109 : Int32)))) (nar .byte (nar .byte (own_pick p1 (1 : Int32) q2 (109 : Int32)))) (nar .byte (nar .byte (own_pick p1 (2 : Int32) q2 (105 : Int32)))) (nar .byte (nar .byte (own_pick p1 (3 : Int32) q2 (46 : Int32))))) = (1 : Int32))).2 k) ?_
          show own_Goes _ _ _ _ _ _ _ T11 (mkF m 181 #[.val (.int p0), .val (.int p1), .val (.long q2), .second, .val (.int (5 : Int32)), .val (.ref b1), .val (.int (1 : Int32)), .val (.int (own_eq (nar .byte (nar .byte (own_pick p1 (0 : Int32) q2 (109 : Int32)))) (nar .byte (nar .byte (own_pick p1 (1 : Int32) q2 (109 : Int32)))) (nar .byte (nar .byte (own_pick p1 (2 : Int32) q2 (105 : Int32)))) (nar .byte (nar .byte (own_pick p1 (3 : Int32) q2 (46 : Int32))))))] [])
          refine own_go (fun _ k => XS.iconst X11.here hx rfl (hb hby at_181) k) ?_
          show own_Goes _ _ _ _ _ _ _ T11 (mkF m 182 #[.val (.int p0), .val (.int p1), .val (.long q2), .second, .val (.int (5 : Int32)), .val (.ref b1), .val (.int (1 : Int32)), .val (.int (own_eq (nar .byte (nar .byte (own_pick p1 (0 : Int32) q2 (109 : Int32)))) (nar .byte (nar .byte (own_pick p1 (1 : Int32) q2 (109 : Int32)))) (nar .byte (nar .byte (own_pick p1 (2 : Int32) q2 (105 : Int32)))) (nar .byte (nar .byte (own_pick p1 (3 : Int32) q2 (46 : Int32))))))] [(.int (1 : Int32))])
          refine own_go (fun _ k => XS.goto X11.here hx rfl (pc0 := 182) (pc' := 186) rfl (hb hby at_182) (by decide) (by decide) k) ?_
          show own_Goes _ _ _ _ _ _ _ T11 (mkF m 186 #[.val (.int p0), .val (.int p1), .val (.long q2), .second, .val (.int (5 : Int32)), .val (.ref b1), .val (.int (1 : Int32)), .val (.int (own_eq (nar .byte (nar .byte (own_pick p1 (0 : Int32) q2 (109 : Int32)))) (nar .byte (nar .byte (own_pick p1 (1 : Int32) q2 (109 : Int32)))) (nar .byte (nar .byte (own_pick p1 (2 : Int32) q2 (105 : Int32)))) (nar .byte (nar .byte (own_pick p1 (3 : Int32) q2 (46 : Int32))))))] [(.int (1 : Int32))])
          exact own_retN X11 hx (t := .boolean) hlk hret (by simp) (hb hby at_186) (by decide) (by decide) ⟨rfl, N11⟩
        · refine own_go (fun _ k => XS.icmpYes X10.here hx rfl (pc0 := 157) (pc' := 164) rfl (hb hby at_157) rfl (feq hc157).2 (by decide) (by decide) k) ?_
          show own_Goes _ _ _ _ _ _ _ T10 (mkF m 164 #[.val (.int p0), .val (.int p1), .val (.long q2), .second, .val (.int (5 : Int32)), .val (.ref b1), .unset, .unset] [])
          refine own_go (fun _ k => XS.iconst X10.here hx rfl (hb hby at_164) k) ?_
          show own_Goes _ _ _ _ _ _ _ T10 (mkF m 165 #[.val (.int p0), .val (.int p1), .val (.long q2), .second, .val (.int (5 : Int32)), .val (.ref b1), .unset, .unset] [(.int (0 : Int32))])
          refine own_go (fun _ k => XS.istore X10.here hx rfl (hb hby at_165) rfl (l' := #[.val (.int p0), .val (.int p1), .val (.long q2), .second, .val (.int (5 : Int32)), .val (.ref b1), .val (.int (0 : Int32)), .unset]) rfl k) ?_
          show own_Goes _ _ _ _ _ _ _ T10 (mkF m 167 #[.val (.int p0), .val (.int p1), .val (.long q2), .second, .val (.int (5 : Int32)), .val (.ref b1), .val (.int (0 : Int32)), .unset] [])
          refine own_go (fun _ k => XS.aload X10.here hx rfl (hb hby at_167) rfl rfl k) ?_
          show own_Goes _ _ _ _ _ _ _ T10 (mkF m 169 #[.val (.int p0), .val (.int p1), .val (.long q2), .second, .val (.int (5 : Int32)), .val (.ref b1), .val (.int (0 : Int32)), .unset] [(.ref b1)])
          obtain ⟨_, _, ⟨T12, L12, k12, n12⟩, -, X12, ⟨Lc12, hQ12, l12, y12, z12⟩, st12⟩ := Jvm.LawKit.callS X10 hx (y := (⟨"com/example/wire3/wire3/core/mmi/MmiService", "inNamespace", "([B)Z"⟩ : MethodName)) hown (mvT hZ (hw _ (List.mem_of_getElem? (i := 2) rfl))) (mvT hZ (hw _ (List.mem_of_getElem? (i := 3) rfl))) (mvT hZ (hw _ (List.mem_of_getElem? (i := 4) rfl))) (mvT hZ (hw _ (List.mem_of_getElem? (i := 5) rfl))) (by decide) (backOf (W := 0) (rm_nsL l Z a0 hw [] b1 aN ((((((newA k1 .byte (5 : Int32)).setSlot ((0 : Int32)).toNatClampNeg (.int (nar .byte (nar .byte (own_pick p1 (0 : Int32) q2 (109 : Int32)))))).setSlot ((1 : Int32)).toNatClampNeg (.int (nar .byte (nar .byte (own_pick p1 (1 : Int32) q2 (109 : Int32)))))).setSlot ((2 : Int32)).toNatClampNeg (.int (nar .byte (nar .byte (own_pick p1 (2 : Int32) q2 (105 : Int32)))))).setSlot ((3 : Int32)).toNatClampNeg (.int (nar .byte (nar .byte (own_pick p1 (3 : Int32) q2 (46 : Int32)))))).setSlot ((4 : Int32)).toNatClampNeg (.int (nar .byte ((((q2.toUInt64 >>> ((32 : Int32) &&& 0x3f).toInt64.toUInt64).toInt64).toInt32).toInt8.toInt32)))) cN (5 : Int32) (nar .byte (nar .byte (own_pick p1 (0 : Int32) q2 (109 : Int32)))) (nar .byte (nar .byte (own_pick p1 (1 : Int32) q2 (109 : Int32)))) (nar .byte (nar .byte (own_pick p1 (2 : Int32) q2 (105 : Int32)))) (nar .byte (nar .byte (own_pick p1 (3 : Int32) q2 (46 : Int32)))) h10 n0 Zs10 Od10 V_b1_10 rfl (by decide) (by decide) rfl rfl rfl rfl AN SN eN_0 eN_1 eN_2 eN_3 SS) hZ (hw _ (List.mem_of_getElem? (i := 5) rfl)) (hw _ (List.mem_of_getElem? (i := 4) rfl)) (by decide) (by decide)) (g := (mkF m 169 #[.val (.int p0), .val (.int p1), .val (.long q2), .second, .val (.int (5 : Int32)), .val (.ref b1), .val (.int (0 : Int32)), .unset] [(.ref b1)])) rfl (by rw [hml]; rfl) (argsL := [(.ref b1)]) (rest := []) (lenOf pd_3 rfl) rfl (by show 2 * 0 + _ ≤ _; exact Nat.le_of_eq rfl) (hb hby at_169) (fun _ _ => ⟨rfl, e10, (by decide : 0 + 1 + 0 + 0 + 0 + 0 + 0 ≤ _), (by decide : 0 + 5 + 0 + 0 + 0 + 0 + 0 ≤ _)⟩)
          dsimp only [Pt.U, Pt.locs, Pt.cells, Pt.slots] at X12 l12 y12 z12 st12 hQ12
          subst l12 y12 z12
          obtain ⟨rfl, N12q, e12⟩ := hQ12
          have N12 := Fr.app N10 N12q
          refine own_go st12 ?_
          show own_Goes _ _ _ _ _ _ _ T12 (mkF m 172 #[.val (.int p0), .val (.int p1), .val (.long q2), .second, .val (.int (5 : Int32)), .val (.ref b1), .val (.int (0 : Int32)), .unset] [(.int (own_eq (nar .byte (nar .byte (own_pick p1 (0 : Int32) q2 (109 : Int32)))) (nar .byte (nar .byte (own_pick p1 (1 : Int32) q2 (109 : Int32)))) (nar .byte (nar .byte (own_pick p1 (2 : Int32) q2 (105 : Int32)))) (nar .byte (nar .byte (own_pick p1 (3 : Int32) q2 (46 : Int32))))))])
          refine own_go (fun _ k => XS.istore X12.here hx rfl (hb hby at_172) rfl (l' := #[.val (.int p0), .val (.int p1), .val (.long q2), .second, .val (.int (5 : Int32)), .val (.ref b1), .val (.int (0 : Int32)), .val (.int (own_eq (nar .byte (nar .byte (own_pick p1 (0 : Int32) q2 (109 : Int32)))) (nar .byte (nar .byte (own_pick p1 (1 : Int32) q2 (109 : Int32)))) (nar .byte (nar .byte (own_pick p1 (2 : Int32) q2 (105 : Int32)))) (nar .byte (nar .byte (own_pick p1 (3 : Int32) q2 (46 : Int32))))))]) rfl k) ?_
          show own_Goes _ _ _ _ _ _ _ T12 (mkF m 174 #[.val (.int p0), .val (.int p1), .val (.long q2), .second, .val (.int (5 : Int32)), .val (.ref b1), .val (.int (0 : Int32)), .val (.int (own_eq (nar .byte (nar .byte (own_pick p1 (0 : Int32) q2 (109 : Int32)))) (nar .byte (nar .byte (own_pick p1 (1 : Int32) q2 (109 : Int32)))) (nar .byte (nar .byte (own_pick p1 (2 : Int32) q2 (105 : Int32)))) (nar .byte (nar .byte (own_pick p1 (3 : Int32) q2 (46 : Int32))))))] [])
          refine own_go (fun _ k => XS.iload X12.here hx rfl (hb hby at_174) rfl k) ?_
          show own_Goes _ _ _ _ _ _ _ T12 (mkF m 176 #[.val (.int p0), .val (.int p1), .val (.long q2), .second, .val (.int (5 : Int32)), .val (.ref b1), .val (.int (0 : Int32)), .val (.int (own_eq (nar .byte (nar .byte (own_pick p1 (0 : Int32) q2 (109 : Int32)))) (nar .byte (nar .byte (own_pick p1 (1 : Int32) q2 (109 : Int32)))) (nar .byte (nar .byte (own_pick p1 (2 : Int32) q2 (105 : Int32)))) (nar .byte (nar .byte (own_pick p1 (3 : Int32) q2 (46 : Int32))))))] [(.int (own_eq (nar .byte (nar .byte (own_pick p1 (0 : Int32) q2 (109 : Int32)))) (nar .byte (nar .byte (own_pick p1 (1 : Int32) q2 (109 : Int32)))) (nar .byte (nar .byte (own_pick p1 (2 : Int32) q2 (105 : Int32)))) (nar .byte (nar .byte (own_pick p1 (3 : Int32) q2 (46 : Int32))))))])
          refine own_go (fun _ k => XS.iload X12.here hx rfl (hb hby at_176) rfl k) ?_
          show own_Goes _ _ _ _ _ _ _ T12 (mkF m 178 #[.val (.int p0), .val (.int p1), .val (.long q2), .second, .val (.int (5 : Int32)), .val (.ref b1), .val (.int (0 : Int32)), .val (.int (own_eq (nar .byte (nar .byte (own_pick p1 (0 : Int32) q2 (109 : Int32)))) (nar .byte (nar .byte (own_pick p1 (1 : Int32) q2 (109 : Int32)))) (nar .byte (nar .byte (own_pick p1 (2 : Int32) q2 (105 : Int32)))) (nar .byte (nar .byte (own_pick p1 (3 : Int32) q2 (46 : Int32))))))] [(.int (0 : Int32)), (.int (own_eq (nar .byte (nar .byte (own_pick p1 (0 : Int32) q2 (109 : Int32)))) (nar .byte (nar .byte (own_pick p1 (1 : Int32) q2 (109 : Int32)))) (nar .byte (nar .byte (own_pick p1 (2 : Int32) q2 (105 : Int32)))) (nar .byte (nar .byte (own_pick p1 (3 : Int32) q2 (46 : Int32))))))])
          refine own_go (fun _ k => XS.icmpNo X12.here hx rfl (hb hby at_178) rfl (teq (by rw [own_eq, if_pos hc130, if_pos hc139, if_pos hc148, if_neg hc157] : (own_eq (nar .byte (nar .byte (own_pick p1 (0 : Int32) q2 (109 : Int32)))) (nar .byte (nar .byte (own_pick p1 (1 : Int32) q2 (109 : Int32)))) (nar .byte (nar .byte (own_pick p1 (2 : Int32) q2 (105 : Int32)))) (nar .byte (nar .byte (own_pick p1 (3 : Int32) q2 (46 : Int32))))) = (0 : Int32))).2 k) ?_
          show own_Goes _ _ _ _ _ _ _ T12 (mkF m 181 #[.val (.int p0), .val (.int p1), .val (.long q2), .second, .val (.int (5 : Int32)), .val (.ref b1), .val (.int (0 : Int32)), .val (.int (own_eq (nar .byte (nar .byte (own_pick p1 (0 : Int32) q2 (109 : Int32)))) (nar .byte (nar .byte (own_pick p1 (1 : Int32) q2 (109 : Int32)))) (nar .byte (nar .byte (own_pick p1 (2 : Int32) q2 (105 : Int32)))) (nar .byte (nar .byte (own_pick p1 (3 : Int32) q2 (46 : Int32))))))] [])
          refine own_go (fun _ k => XS.iconst X12.here hx rfl (hb hby at_181) k) ?_
          show own_Goes _ _ _ _ _ _ _ T12 (mkF m 182 #[.val (.int p0), .val (.int p1), .val (.long q2), .second, .val (.int (5 : Int32)), .val (.ref b1), .val (.int (0 : Int32)), .val (.int (own_eq (nar .byte (nar .byte (own_pick p1 (0 : Int32) q2 (109 : Int32)))) (nar .byte (nar .byte (own_pick p1 (1 : Int32) q2 (109 : Int32)))) (nar .byte (nar .byte (own_pick p1 (2 : Int32) q2 (105 : Int32)))) (nar .byte (nar .byte (own_pick p1 (3 : Int32) q2 (46 : Int32))))))] [(.int (1 : Int32))])
          refine own_go (fun _ k => XS.goto X12.here hx rfl (pc0 := 182) (pc' := 186) rfl (hb hby at_182) (by decide) (by decide) k) ?_
          show own_Goes _ _ _ _ _ _ _ T12 (mkF m 186 #[.val (.int p0), .val (.int p1), .val (.long q2), .second, .val (.int (5 : Int32)), .val (.ref b1), .val (.int (0 : Int32)), .val (.int (own_eq (nar .byte (nar .byte (own_pick p1 (0 : Int32) q2 (109 : Int32)))) (nar .byte (nar .byte (own_pick p1 (1 : Int32) q2 (109 : Int32)))) (nar .byte (nar .byte (own_pick p1 (2 : Int32) q2 (105 : Int32)))) (nar .byte (nar .byte (own_pick p1 (3 : Int32) q2 (46 : Int32))))))] [(.int (1 : Int32))])
          exact own_retN X12 hx (t := .boolean) hlk hret (by simp) (hb hby at_186) (by decide) (by decide) ⟨rfl, N12⟩
      · refine own_go (fun _ k => XS.icmpYes X10.here hx rfl (pc0 := 148) (pc' := 164) rfl (hb hby at_148) rfl (feq hc148).2 (by decide) (by decide) k) ?_
        show own_Goes _ _ _ _ _ _ _ T10 (mkF m 164 #[.val (.int p0), .val (.int p1), .val (.long q2), .second, .val (.int (5 : Int32)), .val (.ref b1), .unset, .unset] [])
        refine own_go (fun _ k => XS.iconst X10.here hx rfl (hb hby at_164) k) ?_
        show own_Goes _ _ _ _ _ _ _ T10 (mkF m 165 #[.val (.int p0), .val (.int p1), .val (.long q2), .second, .val (.int (5 : Int32)), .val (.ref b1), .unset, .unset] [(.int (0 : Int32))])
        refine own_go (fun _ k => XS.istore X10.here hx rfl (hb hby at_165) rfl (l' := #[.val (.int p0), .val (.int p1), .val (.long q2), .second, .val (.int (5 : Int32)), .val (.ref b1), .val (.int (0 : Int32)), .unset]) rfl k) ?_
        show own_Goes _ _ _ _ _ _ _ T10 (mkF m 167 #[.val (.int p0), .val (.int p1), .val (.long q2), .second, .val (.int (5 : Int32)), .val (.ref b1), .val (.int (0 : Int32)), .unset] [])
        refine own_go (fun _ k => XS.aload X10.here hx rfl (hb hby at_167) rfl rfl k) ?_
        show own_Goes _ _ _ _ _ _ _ T10 (mkF m 169 #[.val (.int p0), .val (.int p1), .val (.long q2), .second, .val (.int (5 : Int32)), .val (.ref b1), .val (.int (0 : Int32)), .unset] [(.ref b1)])
        obtain ⟨_, _, ⟨T13, L13, k13, n13⟩, -, X13, ⟨Lc13, hQ13, l13, y13, z13⟩, st13⟩ := Jvm.LawKit.callS X10 hx (y := (⟨"com/example/wire3/wire3/core/mmi/MmiService", "inNamespace", "([B)Z"⟩ : MethodName)) hown (mvT hZ (hw _ (List.mem_of_getElem? (i := 2) rfl))) (mvT hZ (hw _ (List.mem_of_getElem? (i := 3) rfl))) (mvT hZ (hw _ (List.mem_of_getElem? (i := 4) rfl))) (mvT hZ (hw _ (List.mem_of_getElem? (i := 5) rfl))) (by decide) (backOf (W := 0) (rm_nsL l Z a0 hw [] b1 aN ((((((newA k1 .byte (5 : Int32)).setSlot ((0 : Int32)).toNatClampNeg (.int (nar .byte (nar .byte (own_pick p1 (0 : Int32) q2 (109 : Int32)))))).setSlot ((1 : Int32)).toNatClampNeg (.int (nar .byte (nar .byte (own_pick p1 (1 : Int32) q2 (109 : Int32)))))).setSlot ((2 : Int32)).toNatClampNeg (.int (nar .byte (nar .byte (own_pick p1 (2 : Int32) q2 (105 : Int32)))))).setSlot ((3 : Int32)).toNatClampNeg (.int (nar .byte (nar .byte (own_pick p1 (3 : Int32) q2 (46 : Int32)))))).setSlot ((4 : Int32)).toNatClampNeg (.int (nar .byte ((((q2.toUInt64 >>> ((32 : Int32) &&& 0x3f).toInt64.toUInt64).toInt64).toInt32).toInt8.toInt32)))) cN (5 : Int32) (nar .byte (nar .byte (own_pick p1 (0 : Int32) q2 (109 : Int32)))) (nar .byte (nar .byte (own_pick p1 (1 : Int32) q2 (109 : Int32)))) (nar .byte (nar .byte (own_pick p1 (2 : Int32) q2 (105 : Int32)))) (nar .byte (nar .byte (own_pick p1 (3 : Int32) q2 (46 : Int32)))) h10 n0 Zs10 Od10 V_b1_10 rfl (by decide) (by decide) rfl rfl rfl rfl AN SN eN_0 eN_1 eN_2 eN_3 SS) hZ (hw _ (List.mem_of_getElem? (i := 5) rfl)) (hw _ (List.mem_of_getElem? (i := 4) rfl)) (by decide) (by decide)) (g := (mkF m 169 #[.val (.int p0), .val (.int p1), .val (.long q2), .second, .val (.int (5 : Int32)), .val (.ref b1), .val (.int (0 : Int32)), .unset] [(.ref b1)])) rfl (by rw [hml]; rfl) (argsL := [(.ref b1)]) (rest := []) (lenOf pd_3 rfl) rfl (by show 2 * 0 + _ ≤ _; exact Nat.le_of_eq rfl) (hb hby at_169) (fun _ _ => ⟨rfl, e10, (by decide : 0 + 1 + 0 + 0 + 0 + 0 + 0 ≤ _), (by decide : 0 + 5 + 0 + 0 + 0 + 0 + 0 ≤ _)⟩)
        dsimp only [Pt.U, Pt.locs, Pt.cells, Pt.slots] at X13 l13 y13 z13 st13 hQ13
        subst l13 y13 z13
        obtain ⟨rfl, N13q, e13⟩ := hQ13
        have N13 := Fr.app N10 N13q
        refine own_go st13 ?_
        show own_Goes _ _ _ _ _ _ _ T13 (mkF m 172 #[.val (.int p0), .val (.int p1), .val (.long q2), .second, .val (.int (5 : Int32)), .val (.ref b1), .val (.int (0 : Int32)), .unset] [(.int (own_eq (nar .byte (nar .byte (own_pick p1 (0 : Int32) q2 (109 : Int32)))) (nar .byte (nar .byte (own_pick p1 (1 : Int32) q2 (109 : Int32)))) (nar .byte (nar .byte (own_pick p1 (2 : Int32) q2 (105 : Int32)))) (nar .byte (nar .byte (own_pick p1 (3 : Int32) q2 (46 : Int32))))))])
        refine own_go (fun _ k => XS.istore X13.here hx rfl (hb hby at_172) rfl (l' := #[.val (.int p0), .val (.int p1), .val (.long q2), .second, .val (.int (5 : Int32)), .val (.ref b1), .val (.int (0 : Int32)), .val (.int (own_eq (nar .byte (nar .byte (own_pick p1 (0 : Int32) q2 (109 : Int32)))) (nar .byte (nar .byte (own_pick p1 (1 : Int32) q2 (109 : Int32)))) (nar .byte (nar .byte (own_pick p1 (2 : Int32) q2 (105 : Int32)))) (nar .byte (nar .byte (own_pick p1 (3 : Int32) q2 (46 : Int32))))))]) rfl k) ?_
        show own_Goes _ _ _ _ _ _ _ T13 (mkF m 174 #[.val (.int p0), .val (.int p1), .val (.long q2), .second, .val (.int (5 : Int32)), .val (.ref b1), .val (.int (0 : Int32)), .val (.int (own_eq (nar .byte (nar .byte (own_pick p1 (0 : Int32) q2 (109 : Int32)))) (nar .byte (nar .byte (own_pick p1 (1 : Int32) q2 (109 : Int32)))) (nar .byte (nar .byte (own_pick p1 (2 : Int32) q2 (105 : Int32)))) (nar .byte (nar .byte (own_pick p1 (3 : Int32) q2 (46 : Int32))))))] [])
        refine own_go (fun _ k => XS.iload X13.here hx rfl (hb hby at_174) rfl k) ?_
        show own_Goes _ _ _ _ _ _ _ T13 (mkF m 176 #[.val (.int p0), .val (.int p1), .val (.long q2), .second, .val (.int (5 : Int32)), .val (.ref b1), .val (.int (0 : Int32)), .val (.int (own_eq (nar .byte (nar .byte (own_pick p1 (0 : Int32) q2 (109 : Int32)))) (nar .byte (nar .byte (own_pick p1 (1 : Int32) q2 (109 : Int32)))) (nar .byte (nar .byte (own_pick p1 (2 : Int32) q2 (105 : Int32)))) (nar .byte (nar .byte (own_pick p1 (3 : Int32) q2 (46 : Int32))))))] [(.int (own_eq (nar .byte (nar .byte (own_pick p1 (0 : Int32) q2 (109 : Int32)))) (nar .byte (nar .byte (own_pick p1 (1 : Int32) q2 (109 : Int32)))) (nar .byte (nar .byte (own_pick p1 (2 : Int32) q2 (105 : Int32)))) (nar .byte (nar .byte (own_pick p1 (3 : Int32) q2 (46 : Int32))))))])
        refine own_go (fun _ k => XS.iload X13.here hx rfl (hb hby at_176) rfl k) ?_
        show own_Goes _ _ _ _ _ _ _ T13 (mkF m 178 #[.val (.int p0), .val (.int p1), .val (.long q2), .second, .val (.int (5 : Int32)), .val (.ref b1), .val (.int (0 : Int32)), .val (.int (own_eq (nar .byte (nar .byte (own_pick p1 (0 : Int32) q2 (109 : Int32)))) (nar .byte (nar .byte (own_pick p1 (1 : Int32) q2 (109 : Int32)))) (nar .byte (nar .byte (own_pick p1 (2 : Int32) q2 (105 : Int32)))) (nar .byte (nar .byte (own_pick p1 (3 : Int32) q2 (46 : Int32))))))] [(.int (0 : Int32)), (.int (own_eq (nar .byte (nar .byte (own_pick p1 (0 : Int32) q2 (109 : Int32)))) (nar .byte (nar .byte (own_pick p1 (1 : Int32) q2 (109 : Int32)))) (nar .byte (nar .byte (own_pick p1 (2 : Int32) q2 (105 : Int32)))) (nar .byte (nar .byte (own_pick p1 (3 : Int32) q2 (46 : Int32))))))])
        refine own_go (fun _ k => XS.icmpNo X13.here hx rfl (hb hby at_178) rfl (teq (by rw [own_eq, if_pos hc130, if_pos hc139, if_neg hc148] : (own_eq (nar .byte (nar .byte (own_pick p1 (0 : Int32) q2 (109 : Int32)))) (nar .byte (nar .byte (own_pick p1 (1 : Int32) q2 (109 : Int32)))) (nar .byte (nar .byte (own_pick p1 (2 : Int32) q2 (105 : Int32)))) (nar .byte (nar .byte (own_pick p1 (3 : Int32) q2 (46 : Int32))))) = (0 : Int32))).2 k) ?_
        show own_Goes _ _ _ _ _ _ _ T13 (mkF m 181 #[.val (.int p0), .val (.int p1), .val (.long q2), .second, .val (.int (5 : Int32)), .val (.ref b1), .val (.int (0 : Int32)), .val (.int (own_eq (nar .byte (nar .byte (own_pick p1 (0 : Int32) q2 (109 : Int32)))) (nar .byte (nar .byte (own_pick p1 (1 : Int32) q2 (109 : Int32)))) (nar .byte (nar .byte (own_pick p1 (2 : Int32) q2 (105 : Int32)))) (nar .byte (nar .byte (own_pick p1 (3 : Int32) q2 (46 : Int32))))))] [])
        refine own_go (fun _ k => XS.iconst X13.here hx rfl (hb hby at_181) k) ?_
        show own_Goes _ _ _ _ _ _ _ T13 (mkF m 182 #[.val (.int p0), .val (.int p1), .val (.long q2), .second, .val (.int (5 : Int32)), .val (.ref b1), .val (.int (0 : Int32)), .val (.int (own_eq (nar .byte (nar .byte (own_pick p1 (0 : Int32) q2 (109 : Int32)))) (nar .byte (nar .byte (own_pick p1 (1 : Int32) q2 (109 : Int32)))) (nar .byte (nar .byte (own_pick p1 (2 : Int32) q2 (105 : Int32)))) (nar .byte (nar .byte (own_pick p1 (3 : Int32) q2 (46 : Int32))))))] [(.int (1 : Int32))])
        refine own_go (fun _ k => XS.goto X13.here hx rfl (pc0 := 182) (pc' := 186) rfl (hb hby at_182) (by decide) (by decide) k) ?_
        show own_Goes _ _ _ _ _ _ _ T13 (mkF m 186 #[.val (.int p0), .val (.int p1), .val (.long q2), .second, .val (.int (5 : Int32)), .val (.ref b1), .val (.int (0 : Int32)), .val (.int (own_eq (nar .byte (nar .byte (own_pick p1 (0 : Int32) q2 (109 : Int32)))) (nar .byte (nar .byte (own_pick p1 (1 : Int32) q2 (109 : Int32)))) (nar .byte (nar .byte (own_pick p1 (2 : Int32) q2 (105 : Int32)))) (nar .byte (nar .byte (own_pick p1 (3 : Int32) q2 (46 : Int32))))))] [(.int (1 : Int32))])
        exact own_retN X13 hx (t := .boolean) hlk hret (by simp) (hb hby at_186) (by decide) (by decide) ⟨rfl, N13⟩
    · refine own_go (fun _ k => XS.icmpYes X10.here hx rfl (pc0 := 139) (pc' := 164) rfl (hb hby at_139) rfl (feq hc139).2 (by decide) (by decide) k) ?_
      show own_Goes _ _ _ _ _ _ _ T10 (mkF m 164 #[.val (.int p0), .val (.int p1), .val (.long q2), .second, .val (.int (5 : Int32)), .val (.ref b1), .unset, .unset] [])
      refine own_go (fun _ k => XS.iconst X10.here hx rfl (hb hby at_164) k) ?_
      show own_Goes _ _ _ _ _ _ _ T10 (mkF m 165 #[.val (.int p0), .val (.int p1), .val (.long q2), .second, .val (.int (5 : Int32)), .val (.ref b1), .unset, .unset] [(.int (0 : Int32))])
      refine own_go (fun _ k => XS.istore X10.here hx rfl (hb hby at_165) rfl (l' := #[.val (.int p0), .val (.int p1), .val (.long q2), .second, .val (.int (5 : Int32)), .val (.ref b1), .val (.int (0 : Int32)), .unset]) rfl k) ?_
      show own_Goes _ _ _ _ _ _ _ T10 (mkF m 167 #[.val (.int p0), .val (.int p1), .val (.long q2), .second, .val (.int (5 : Int32)), .val (.ref b1), .val (.int (0 : Int32)), .unset] [])
      refine own_go (fun _ k => XS.aload X10.here hx rfl (hb hby at_167) rfl rfl k) ?_
      show own_Goes _ _ _ _ _ _ _ T10 (mkF m 169 #[.val (.int p0), .val (.int p1), .val (.long q2), .second, .val (.int (5 : Int32)), .val (.ref b1), .val (.int (0 : Int32)), .unset] [(.ref b1)])
      obtain ⟨_, _, ⟨T14, L14, k14, n14⟩, -, X14, ⟨Lc14, hQ14, l14, y14, z14⟩, st14⟩ := Jvm.LawKit.callS X10 hx (y := (⟨"com/example/wire3/wire3/core/mmi/MmiService", "inNamespace", "([B)Z"⟩ : MethodName)) hown (mvT hZ (hw _ (List.mem_of_getElem? (i := 2) rfl))) (mvT hZ (hw _ (List.mem_of_getElem? (i := 3) rfl))) (mvT hZ (hw _ (List.mem_of_getElem? (i := 4) rfl))) (mvT hZ (hw _ (List.mem_of_getElem? (i := 5) rfl))) (by decide) (backOf (W := 0) (rm_nsL l Z a0 hw [] b1 aN ((((((newA k1 .byte (5 : Int32)).setSlot ((0 : Int32)).toNatClampNeg (.int (nar .byte (nar .byte (own_pick p1 (0 : Int32) q2 (109 : Int32)))))).setSlot ((1 : Int32)).toNatClampNeg (.int (nar .byte (nar .byte (own_pick p1 (1 : Int32) q2 (109 : Int32)))))).setSlot ((2 : Int32)).toNatClampNeg (.int (nar .byte (nar .byte (own_pick p1 (2 : Int32) q2 (105 : Int32)))))).setSlot ((3 : Int32)).toNatClampNeg (.int (nar .byte (nar .byte (own_pick p1 (3 : Int32) q2 (46 : Int32)))))).setSlot ((4 : Int32)).toNatClampNeg (.int (nar .byte ((((q2.toUInt64 >>> ((32 : Int32) &&& 0x3f).toInt64.toUInt64).toInt64).toInt32).toInt8.toInt32)))) cN (5 : Int32) (nar .byte (nar .byte (own_pick p1 (0 : Int32) q2 (109 : Int32)))) (nar .byte (nar .byte (own_pick p1 (1 : Int32) q2 (109 : Int32)))) (nar .byte (nar .byte (own_pick p1 (2 : Int32) q2 (105 : Int32)))) (nar .byte (nar .byte (own_pick p1 (3 : Int32) q2 (46 : Int32)))) h10 n0 Zs10 Od10 V_b1_10 rfl (by decide) (by decide) rfl rfl rfl rfl AN SN eN_0 eN_1 eN_2 eN_3 SS) hZ (hw _ (List.mem_of_getElem? (i := 5) rfl)) (hw _ (List.mem_of_getElem? (i := 4) rfl)) (by decide) (by decide)) (g := (mkF m 169 #[.val (.int p0), .val (.int p1), .val (.long q2), .second, .val (.int (5 : Int32)), .val (.ref b1), .val (.int (0 : Int32)), .unset] [(.ref b1)])) rfl (by rw [hml]; rfl) (argsL := [(.ref b1)]) (rest := []) (lenOf pd_3 rfl) rfl (by show 2 * 0 + _ ≤ _; exact Nat.le_of_eq rfl) (hb hby at_169) (fun _ _ => ⟨rfl, e10, (by decide : 0 + 1 + 0 + 0 + 0 + 0 + 0 ≤ _), (by decide : 0 + 5 + 0 + 0 + 0 + 0 + 0 ≤ _)⟩)
      dsimp only [Pt.U, Pt.locs, Pt.cells, Pt.slots] at X14 l14 y14 z14 st14 hQ14
      subst l14 y14 z14
      obtain ⟨rfl, N14q, e14⟩ := hQ14
      have N14 := Fr.app N10 N14q
      refine own_go st14 ?_
      show own_Goes _ _ _ _ _ _ _ T14 (mkF m 172 #[.val (.int p0), .val (.int p1), .val (.long q2), .second, .val (.int (5 : Int32)), .val (.ref b1), .val (.int (0 : Int32)), .unset] [(.int (own_eq (nar .byte (nar .byte (own_pick p1 (0 : Int32) q2 (109 : Int32)))) (nar .byte (nar .byte (own_pick p1 (1 : Int32) q2 (109 : Int32)))) (nar .byte (nar .byte (own_pick p1 (2 : Int32) q2 (105 : Int32)))) (nar .byte (nar .byte (own_pick p1 (3 : Int32) q2 (46 : Int32))))))])
      refine own_go (fun _ k => XS.istore X14.here hx rfl (hb hby at_172) rfl (l' := #[.val (.int p0), .val (.int p1), .val (.long q2), .second, .val (.int (5 : Int32)), .val (.ref b1), .val (.int (0 : Int32)), .val (.int (own_eq (nar .byte (nar .byte (own_pick p1 (0 : Int32) q2 (109 : Int32)))) (nar .byte (nar .byte (own_pick p1 (1 : Int32) q2 (109 : Int32)))) (nar .byte (nar .byte (own_pick p1 (2 : Int32) q2 (105 : Int32)))) (nar .byte (nar .byte (own_pick p1 (3 : Int32) q2 (46 : Int32))))))]) rfl k) ?_
      show own_Goes _ _ _ _ _ _ _ T14 (mkF m 174 #[.val (.int p0), .val (.int p1), .val (.long q2), .second, .val (.int (5 : Int32)), .val (.ref b1), .val (.int (0 : Int32)), .val (.int (own_eq (nar .byte (nar .byte (own_pick p1 (0 : Int32) q2 (109 : Int32)))) (nar .byte (nar .byte (own_pick p1 (1 : Int32) q2 (109 : Int32)))) (nar .byte (nar .byte (own_pick p1 (2 : Int32) q2 (105 : Int32)))) (nar .byte (nar .byte (own_pick p1 (3 : Int32) q2 (46 : Int32))))))] [])
      refine own_go (fun _ k => XS.iload X14.here hx rfl (hb hby at_174) rfl k) ?_
      show own_Goes _ _ _ _ _ _ _ T14 (mkF m 176 #[.val (.int p0), .val (.int p1), .val (.long q2), .second, .val (.int (5 : Int32)), .val (.ref b1), .val (.int (0 : Int32)), .val (.int (own_eq (nar .byte (nar .byte (own_pick p1 (0 : Int32) q2 (109 : Int32)))) (nar .byte (nar .byte (own_pick p1 (1 : Int32) q2 (109 : Int32)))) (nar .byte (nar .byte (own_pick p1 (2 : Int32) q2 (105 : Int32)))) (nar .byte (nar .byte (own_pick p1 (3 : Int32) q2 (46 : Int32))))))] [(.int (own_eq (nar .byte (nar .byte (own_pick p1 (0 : Int32) q2 (109 : Int32)))) (nar .byte (nar .byte (own_pick p1 (1 : Int32) q2 (109 : Int32)))) (nar .byte (nar .byte (own_pick p1 (2 : Int32) q2 (105 : Int32)))) (nar .byte (nar .byte (own_pick p1 (3 : Int32) q2 (46 : Int32))))))])
      refine own_go (fun _ k => XS.iload X14.here hx rfl (hb hby at_176) rfl k) ?_
      show own_Goes _ _ _ _ _ _ _ T14 (mkF m 178 #[.val (.int p0), .val (.int p1), .val (.long q2), .second, .val (.int (5 : Int32)), .val (.ref b1), .val (.int (0 : Int32)), .val (.int (own_eq (nar .byte (nar .byte (own_pick p1 (0 : Int32) q2 (109 : Int32)))) (nar .byte (nar .byte (own_pick p1 (1 : Int32) q2 (109 : Int32)))) (nar .byte (nar .byte (own_pick p1 (2 : Int32) q2 (105 : Int32)))) (nar .byte (nar .byte (own_pick p1 (3 : Int32) q2 (46 : Int32))))))] [(.int (0 : Int32)), (.int (own_eq (nar .byte (nar .byte (own_pick p1 (0 : Int32) q2 (109 : Int32)))) (nar .byte (nar .byte (own_pick p1 (1 : Int32) q2 (109 : Int32)))) (nar .byte (nar .byte (own_pick p1 (2 : Int32) q2 (105 : Int32)))) (nar .byte (nar .byte (own_pick p1 (3 : Int32) q2 (46 : Int32))))))])
      refine own_go (fun _ k => XS.icmpNo X14.here hx rfl (hb hby at_178) rfl (teq (by rw [own_eq, if_pos hc130, if_neg hc139] : (own_eq (nar .byte (nar .byte (own_pick p1 (0 : Int32) q2 (109 : Int32)))) (nar .byte (nar .byte (own_pick p1 (1 : Int32) q2 (109 : Int32)))) (nar .byte (nar .byte (own_pick p1 (2 : Int32) q2 (105 : Int32)))) (nar .byte (nar .byte (own_pick p1 (3 : Int32) q2 (46 : Int32))))) = (0 : Int32))).2 k) ?_
      show own_Goes _ _ _ _ _ _ _ T14 (mkF m 181 #[.val (.int p0), .val (.int p1), .val (.long q2), .second, .val (.int (5 : Int32)), .val (.ref b1), .val (.int (0 : Int32)), .val (.int (own_eq (nar .byte (nar .byte (own_pick p1 (0 : Int32) q2 (109 : Int32)))) (nar .byte (nar .byte (own_pick p1 (1 : Int32) q2 (109 : Int32)))) (nar .byte (nar .byte (own_pick p1 (2 : Int32) q2 (105 : Int32)))) (nar .byte (nar .byte (own_pick p1 (3 : Int32) q2 (46 : Int32))))))] [])
      refine own_go (fun _ k => XS.iconst X14.here hx rfl (hb hby at_181) k) ?_
      show own_Goes _ _ _ _ _ _ _ T14 (mkF m 182 #[.val (.int p0), .val (.int p1), .val (.long q2), .second, .val (.int (5 : Int32)), .val (.ref b1), .val (.int (0 : Int32)), .val (.int (own_eq (nar .byte (nar .byte (own_pick p1 (0 : Int32) q2 (109 : Int32)))) (nar .byte (nar .byte (own_pick p1 (1 : Int32) q2 (109 : Int32)))) (nar .byte (nar .byte (own_pick p1 (2 : Int32) q2 (105 : Int32)))) (nar .byte (nar .byte (own_pick p1 (3 : Int32) q2 (46 : Int32))))))] [(.int (1 : Int32))])
      refine own_go (fun _ k => XS.goto X14.here hx rfl (pc0 := 182) (pc' := 186) rfl (hb hby at_182) (by decide) (by decide) k) ?_
      show own_Goes _ _ _ _ _ _ _ T14 (mkF m 186 #[.val (.int p0), .val (.int p1), .val (.long q2), .second, .val (.int (5 : Int32)), .val (.ref b1), .val (.int (0 : Int32)), .val (.int (own_eq (nar .byte (nar .byte (own_pick p1 (0 : Int32) q2 (109 : Int32)))) (nar .byte (nar .byte (own_pick p1 (1 : Int32) q2 (109 : Int32)))) (nar .byte (nar .byte (own_pick p1 (2 : Int32) q2 (105 : Int32)))) (nar .byte (nar .byte (own_pick p1 (3 : Int32) q2 (46 : Int32))))))] [(.int (1 : Int32))])
      exact own_retN X14 hx (t := .boolean) hlk hret (by simp) (hb hby at_186) (by decide) (by decide) ⟨rfl, N14⟩
  · refine own_go (fun _ k => XS.icmpYes X10.here hx rfl (pc0 := 130) (pc' := 164) rfl (hb hby at_130) rfl (feq hc130).2 (by decide) (by decide) k) ?_
    show own_Goes _ _ _ _ _ _ _ T10 (mkF m 164 #[.val (.int p0), .val (.int p1), .val (.long q2), .second, .val (.int (5 : Int32)), .val (.ref b1), .unset, .unset] [])
    refine own_go (fun _ k => XS.iconst X10.here hx rfl (hb hby at_164) k) ?_
    show own_Goes _ _ _ _ _ _ _ T10 (mkF m 165 #[.val (.int p0), .val (.int p1), .val (.long q2), .second, .val (.int (5 : Int32)), .val (.ref b1), .unset, .unset] [(.int (0 : Int32))])
    refine own_go (fun _ k => XS.istore X10.here hx rfl (hb hby at_165) rfl (l' := #[.val (.int p0), .val (.int p1), .val (.long q2), .second, .val (.int (5 : Int32)), .val (.ref b1), .val (.int (0 : Int32)), .unset]) rfl k) ?_
    show own_Goes _ _ _ _ _ _ _ T10 (mkF m 167 #[.val (.int p0), .val (.int p1), .val (.long q2), .second, .val (.int (5 : Int32)), .val (.ref b1), .val (.int (0 : Int32)), .unset] [])
    refine own_go (fun _ k => XS.aload X10.here hx rfl (hb hby at_167) rfl rfl k) ?_
    show own_Goes _ _ _ _ _ _ _ T10 (mkF m 169 #[.val (.int p0), .val (.int p1), .val (.long q2), .second, .val (.int (5 : Int32)), .val (.ref b1), .val (.int (0 : Int32)), .unset] [(.ref b1)])
    obtain ⟨_, _, ⟨T15, L15, k15, n15⟩, -, X15, ⟨Lc15, hQ15, l15, y15, z15⟩, st15⟩ := Jvm.LawKit.callS X10 hx (y := (⟨"com/example/wire3/wire3/core/mmi/MmiService", "inNamespace", "([B)Z"⟩ : MethodName)) hown (mvT hZ (hw _ (List.mem_of_getElem? (i := 2) rfl))) (mvT hZ (hw _ (List.mem_of_getElem? (i := 3) rfl))) (mvT hZ (hw _ (List.mem_of_getElem? (i := 4) rfl))) (mvT hZ (hw _ (List.mem_of_getElem? (i := 5) rfl))) (by decide) (backOf (W := 0) (rm_nsL l Z a0 hw [] b1 aN ((((((newA k1 .byte (5 : Int32)).setSlot ((0 : Int32)).toNatClampNeg (.int (nar .byte (nar .byte (own_pick p1 (0 : Int32) q2 (109 : Int32)))))).setSlot ((1 : Int32)).toNatClampNeg (.int (nar .byte (nar .byte (own_pick p1 (1 : Int32) q2 (109 : Int32)))))).setSlot ((2 : Int32)).toNatClampNeg (.int (nar .byte (nar .byte (own_pick p1 (2 : Int32) q2 (105 : Int32)))))).setSlot ((3 : Int32)).toNatClampNeg (.int (nar .byte (nar .byte (own_pick p1 (3 : Int32) q2 (46 : Int32)))))).setSlot ((4 : Int32)).toNatClampNeg (.int (nar .byte ((((q2.toUInt64 >>> ((32 : Int32) &&& 0x3f).toInt64.toUInt64).toInt64).toInt32).toInt8.toInt32)))) cN (5 : Int32) (nar .byte (nar .byte (own_pick p1 (0 : Int32) q2 (109 : Int32)))) (nar .byte (nar .byte (own_pick p1 (1 : Int32) q2 (109 : Int32)))) (nar .byte (nar .byte (own_pick p1 (2 : Int32) q2 (105 : Int32)))) (nar .byte (nar .byte (own_pick p1 (3 : Int32) q2 (46 : Int32)))) h10 n0 Zs10 Od10 V_b1_10 rfl (by decide) (by decide) rfl rfl rfl rfl AN SN eN_0 eN_1 eN_2 eN_3 SS) hZ (hw _ (List.mem_of_getElem? (i := 5) rfl)) (hw _ (List.mem_of_getElem? (i := 4) rfl)) (by decide) (by decide)) (g := (mkF m 169 #[.val (.int p0), .val (.int p1), .val (.long q2), .second, .val (.int (5 : Int32)), .val (.ref b1), .val (.int (0 : Int32)), .unset] [(.ref b1)])) rfl (by rw [hml]; rfl) (argsL := [(.ref b1)]) (rest := []) (lenOf pd_3 rfl) rfl (by show 2 * 0 + _ ≤ _; exact Nat.le_of_eq rfl) (hb hby at_169) (fun _ _ => ⟨rfl, e10, (by decide : 0 + 1 + 0 + 0 + 0 + 0 + 0 ≤ _), (by decide : 0 + 5 + 0 + 0 + 0 + 0 + 0 ≤ _)⟩)
    dsimp only [Pt.U, Pt.locs, Pt.cells, Pt.slots] at X15 l15 y15 z15 st15 hQ15
    subst l15 y15 z15
    obtain ⟨rfl, N15q, e15⟩ := hQ15
    have N15 := Fr.app N10 N15q
    refine own_go st15 ?_
    show own_Goes _ _ _ _ _ _ _ T15 (mkF m 172 #[.val (.int p0), .val (.int p1), .val (.long q2), .second, .val (.int (5 : Int32)), .val (.ref b1), .val (.int (0 : Int32)), .unset] [(.int (own_eq (nar .byte (nar .byte (own_pick p1 (0 : Int32) q2 (109 : Int32)))) (nar .byte (nar .byte (own_pick p1 (1 : Int32) q2 (109 : Int32)))) (nar .byte (nar .byte (own_pick p1 (2 : Int32) q2 (105 : Int32)))) (nar .byte (nar .byte (own_pick p1 (3 : Int32) q2 (46 : Int32))))))])
    refine own_go (fun _ k => XS.istore X15.here hx rfl (hb hby at_172) rfl (l' := #[.val (.int p0), .val (.int p1), .val (.long q2), .second, .val (.int (5 : Int32)), .val (.ref b1), .val (.int (0 : Int32)), .val (.int (own_eq (nar .byte (nar .byte (own_pick p1 (0 : Int32) q2 (109 : Int32)))) (nar .byte (nar .byte (own_pick p1 (1 : Int32) q2 (109 : Int32)))) (nar .byte (nar .byte (own_pick p1 (2 : Int32) q2 (105 : Int32)))) (nar .byte (nar .byte (own_pick p1 (3 : Int32) q2 (46 : Int32))))))]) rfl k) ?_
    show own_Goes _ _ _ _ _ _ _ T15 (mkF m 174 #[.val (.int p0), .val (.int p1), .val (.long q2), .second, .val (.int (5 : Int32)), .val (.ref b1), .val (.int (0 : Int32)), .val (.int (own_eq (nar .byte (nar .byte (own_pick p1 (0 : Int32) q2 (109 : Int32)))) (nar .byte (nar .byte (own_pick p1 (1 : Int32) q2 (109 : Int32)))) (nar .byte (nar .byte (own_pick p1 (2 : Int32) q2 (105 : Int32)))) (nar .byte (nar .byte (own_pick p1 (3 : Int32) q2 (46 : Int32))))))] [])
    refine own_go (fun _ k => XS.iload X15.here hx rfl (hb hby at_174) rfl k) ?_
    show own_Goes _ _ _ _ _ _ _ T15 (mkF m 176 #[.val (.int p0), .val (.int p1), .val (.long q2), .second, .val (.int (5 : Int32)), .val (.ref b1), .val (.int (0 : Int32)), .val (.int (own_eq (nar .byte (nar .byte (own_pick p1 (0 : Int32) q2 (109 : Int32)))) (nar .byte (nar .byte (own_pick p1 (1 : Int32) q2 (109 : Int32)))) (nar .byte (nar .byte (own_pick p1 (2 : Int32) q2 (105 : Int32)))) (nar .byte (nar .byte (own_pick p1 (3 : Int32) q2 (46 : Int32))))))] [(.int (own_eq (nar .byte (nar .byte (own_pick p1 (0 : Int32) q2 (109 : Int32)))) (nar .byte (nar .byte (own_pick p1 (1 : Int32) q2 (109 : Int32)))) (nar .byte (nar .byte (own_pick p1 (2 : Int32) q2 (105 : Int32)))) (nar .byte (nar .byte (own_pick p1 (3 : Int32) q2 (46 : Int32))))))])
    refine own_go (fun _ k => XS.iload X15.here hx rfl (hb hby at_176) rfl k) ?_
    show own_Goes _ _ _ _ _ _ _ T15 (mkF m 178 #[.val (.int p0), .val (.int p1), .val (.long q2), .second, .val (.int (5 : Int32)), .val (.ref b1), .val (.int (0 : Int32)), .val (.int (own_eq (nar .byte (nar .byte (own_pick p1 (0 : Int32) q2 (109 : Int32)))) (nar .byte (nar .byte (own_pick p1 (1 : Int32) q2 (109 : Int32)))) (nar .byte (nar .byte (own_pick p1 (2 : Int32) q2 (105 : Int32)))) (nar .byte (nar .byte (own_pick p1 (3 : Int32) q2 (46 : Int32))))))] [(.int (0 : Int32)), (.int (own_eq (nar .byte (nar .byte (own_pick p1 (0 : Int32) q2 (109 : Int32)))) (nar .byte (nar .byte (own_pick p1 (1 : Int32) q2 (109 : Int32)))) (nar .byte (nar .byte (own_pick p1 (2 : Int32) q2 (105 : Int32)))) (nar .byte (nar .byte (own_pick p1 (3 : Int32) q2 (46 : Int32))))))])
    refine own_go (fun _ k => XS.icmpNo X15.here hx rfl (hb hby at_178) rfl (teq (by rw [own_eq, if_neg hc130] : (own_eq (nar .byte (nar .byte (own_pick p1 (0 : Int32) q2 (109 : Int32)))) (nar .byte (nar .byte (own_pick p1 (1 : Int32) q2 (109 : Int32)))) (nar .byte (nar .byte (own_pick p1 (2 : Int32) q2 (105 : Int32)))) (nar .byte (nar .byte (own_pick p1 (3 : Int32) q2 (46 : Int32))))) = (0 : Int32))).2 k) ?_
    show own_Goes _ _ _ _ _ _ _ T15 (mkF m 181 #[.val (.int p0), .val (.int p1), .val (.long q2), .second, .val (.int (5 : Int32)), .val (.ref b1), .val (.int (0 : Int32)), .val (.int (own_eq (nar .byte (nar .byte (own_pick p1 (0 : Int32) q2 (109 : Int32)))) (nar .byte (nar .byte (own_pick p1 (1 : Int32) q2 (109 : Int32)))) (nar .byte (nar .byte (own_pick p1 (2 : Int32) q2 (105 : Int32)))) (nar .byte (nar .byte (own_pick p1 (3 : Int32) q2 (46 : Int32))))))] [])
    refine own_go (fun _ k => XS.iconst X15.here hx rfl (hb hby at_181) k) ?_
    show own_Goes _ _ _ _ _ _ _ T15 (mkF m 182 #[.val (.int p0), .val (.int p1), .val (.long q2), .second, .val (.int (5 : Int32)), .val (.ref b1), .val (.int (0 : Int32)), .val (.int (own_eq (nar .byte (nar .byte (own_pick p1 (0 : Int32) q2 (109 : Int32)))) (nar .byte (nar .byte (own_pick p1 (1 : Int32) q2 (109 : Int32)))) (nar .byte (nar .byte (own_pick p1 (2 : Int32) q2 (105 : Int32)))) (nar .byte (nar .byte (own_pick p1 (3 : Int32) q2 (46 : Int32))))))] [(.int (1 : Int32))])
    refine own_go (fun _ k => XS.goto X15.here hx rfl (pc0 := 182) (pc' := 186) rfl (hb hby at_182) (by decide) (by decide) k) ?_
    show own_Goes _ _ _ _ _ _ _ T15 (mkF m 186 #[.val (.int p0), .val (.int p1), .val (.long q2), .second, .val (.int (5 : Int32)), .val (.ref b1), .val (.int (0 : Int32)), .val (.int (own_eq (nar .byte (nar .byte (own_pick p1 (0 : Int32) q2 (109 : Int32)))) (nar .byte (nar .byte (own_pick p1 (1 : Int32) q2 (109 : Int32)))) (nar .byte (nar .byte (own_pick p1 (2 : Int32) q2 (105 : Int32)))) (nar .byte (nar .byte (own_pick p1 (3 : Int32) q2 (46 : Int32))))))] [(.int (1 : Int32))])
    exact own_retN X15 hx (t := .boolean) hlk hret (by simp) (hb hby at_186) (by decide) (by decide) ⟨rfl, N15⟩
set_option maxRecDepth 65536 in
set_option maxHeartbeats 40000000 in
theorem seg9_6 {p : Program} {l : Launch} {e : Env} {s : State} {m : MethodId} {args : Array Value} {below : List Frame} {meth : Method} {c : Code} {s₁ : State} {locs : List Loc} {Z : State} {a0 : Array Value} {h0 : Heap} (p0 p1 : Int32) (q2 : Int64) (aN : Addr) (cN : Cell)
    (hw : ∀ d ∈ tables_1, d.before a0 Z = true) (C : own_Ctx Z x "com/example/wire3/wire3/core/mmi/MmiServiceInNamespacePinLaw" code maxLocals ret p s m meth c) (X0 : Stand p l e room_1 s m args below meth c s₁ locs 0 0) (e0 : s₁.heap = h0) (n0 : Nat) (Z0 : n0 ≤ h0.size) (N0 : Fr n0 locs) (Od0 : Old Z n0 h0) (AN : Arr Z Z.heap aN cN .byte) (SN : cN.slots.size = 4) (eN_0 : cN.slots[0]? = some (.int (109 : Int32))) (eN_1 : cN.slots[1]? = some (.int (109 : Int32))) (eN_2 : cN.slots[2]? = some (.int (105 : Int32))) (eN_3 : cN.slots[3]? = some (.int (46 : Int32))) (SS : Sta Z Z.heap "com/example/wire3/wire3/core/mmi/MmiService" "NAMESPACE" "[B" (.ref aN)) :
    own_Goes p e below s (fun v h L => v = some (.int 1) ∧ Fr n0 L) room_1.cells room_1.slots s₁ (mkF m 9 #[.val (.int p0), .val (.int p1), .val (.long q2), .second, .val (.int (6 : Int32)), .unset, .unset, .unset] []) := by
  obtain ⟨hx, hby, hml, hown, hnm, hret, hlk, hZ⟩ := C
  refine own_go (fun _ k => XS.iload X0.here hx rfl (hb hby at_9) rfl k) ?_
  show own_Goes _ _ _ _ _ _ _ s₁ (mkF m 11 #[.val (.int p0), .val (.int p1), .val (.long q2), .second, .val (.int (6 : Int32)), .unset, .unset, .unset] [(.int (6 : Int32))])
  obtain ⟨T1, h1, k1, X1, e1, E1, A1, st1⟩ := newP X0 hx hZ (hw _ (List.mem_of_getElem? (i := 1) rfl)) e0 (g := (mkF m 11 #[.val (.int p0), .val (.int p1), .val (.long q2), .second, .val (.int (6 : Int32)), .unset, .unset, .unset] [(.int (6 : Int32))])) rfl (hb hby at_11) rfl (by decide) (cap := 6) (by decide) (by decide) (by decide) (by decide)
  obtain ⟨b1, g1⟩ : ∃ z, z = h0.size := ⟨_, rfl⟩
  rw [← g1] at A1 st1
  have lo_b1 : n0 ≤ b1 := Nat.le_trans Z0 (Nat.le_of_eq g1.symm)
  have Zs1 : n0 ≤ h1.size := Nat.le_trans Z0 E1.1
  have Od1 : Old Z n0 h1 := Od0.ext E1
  refine own_go st1 ?_
  show own_Goes _ _ _ _ _ _ _ T1 (mkF m 13 #[.val (.int p0), .val (.int p1), .val (.long q2), .second, .val (.int (6 : Int32)), .unset, .unset, .unset] [(.ref b1)])
  refine own_go (fun _ k => XS.astore X1.here hx rfl (hb hby at_13) rfl rfl (l' := #[.val (.int p0), .val (.int p1), .val (.long q2), .second, .val (.int (6 : Int32)), .val (.ref b1), .unset, .unset]) rfl k) ?_
  show own_Goes _ _ _ _ _ _ _ T1 (mkF m 15 #[.val (.int p0), .val (.int p1), .val (.long q2), .second, .val (.int (6 : Int32)), .val (.ref b1), .unset, .unset] [])
  refine own_go (fun _ k => XS.iload X1.here hx rfl (hb hby at_15) rfl k) ?_
  show own_Goes _ _ _ _ _ _ _ T1 (mkF m 17 #[.val (.int p0), .val (.int p1), .val (.long q2), .second, .val (.int (6 : Int32)), .val (.ref b1), .unset, .unset] [(.int (6 : Int32))])
  refine own_go (fun _ k => XS.ifNo X1.here hx rfl (hb hby at_17) rfl ((if0 _ _).trans (tlt (by decide : (0 : Int32) < (6 : Int32))).2.2.2) k) ?_
  show own_Goes _ _ _ _ _ _ _ T1 (mkF m 20 #[.val (.int p0), .val (.int p1), .val (.long q2), .second, .val (.int (6 : Int32)), .val (.ref b1), .unset, .unset] [])
  refine own_go (fun _ k => XS.aload X1.here hx rfl (hb hby at_20) rfl rfl k) ?_
  show own_Goes _ _ _ _ _ _ _ T1 (mkF m 22 #[.val (.int p0), .val (.int p1), .val (.long q2), .second, .val (.int (6 : Int32)), .val (.ref b1), .unset, .unset] [(.ref b1)])
  refine own_go (fun _ k => XS.iconst X1.here hx rfl (hb hby at_22) k) ?_
  show own_Goes _ _ _ _ _ _ _ T1 (mkF m 23 #[.val (.int p0), .val (.int p1), .val (.long q2), .second, .val (.int (6 : Int32)), .val (.ref b1), .unset, .unset] [(.int (0 : Int32)), (.ref b1)])
  refine own_go (fun _ k => XS.iloadN X1.here hx rfl (hb hby at_23) rfl k) ?_
  show own_Goes _ _ _ _ _ _ _ T1 (mkF m 24 #[.val (.int p0), .val (.int p1), .val (.long q2), .second, .val (.int (6 : Int32)), .val (.ref b1), .unset, .unset] [(.int p1), (.int (0 : Int32)), (.ref b1)])
  refine own_go (fun _ k => XS.iconst X1.here hx rfl (hb hby at_24) k) ?_
  show own_Goes _ _ _ _ _ _ _ T1 (mkF m 25 #[.val (.int p0), .val (.int p1), .val (.long q2), .second, .val (.int (6 : Int32)), .val (.ref b1), .unset, .unset] [(.int (0 : Int32)), (.int p1), (.int (0 : Int32)), (.ref b1)])
  refine own_go (fun _ k => XS.lloadN X1.here hx rfl (hb hby at_25) rfl k) ?_
  show own_Goes _ _ _ _ _ _ _ T1 (mkF m 26 #[.val (.int p0), .val (.int p1), .val (.long q2), .second, .val (.int (6 : Int32)), .val (.ref b1), .unset, .unset] [(.long q2), (.int (0 : Int32)), (.int p1), (.int (0 : Int32)), (.ref b1)])
  refine own_go (fun _ k => XS.bipush X1.here hx rfl (hb hby at_26) k) ?_
  show own_Goes _ _ _ _ _ _ _ T1 (mkF m 28 #[.val (.int p0), .val (.int p1), .val (.long q2), .second, .val (.int (6 : Int32)), .val (.ref b1), .unset, .unset] [(.int (109 : Int32)), (.long q2), (.int (0 : Int32)), (.int p1), (.int (0 : Int32)), (.ref b1)])
  obtain ⟨_, _, ⟨T2, L2, k2, n2⟩, -, X2, ⟨Lc2, hQ2, l2, y2, z2⟩, st2⟩ := Jvm.LawKit.callS X1 hx (y := (⟨"com/example/wire3/wire3/core/mmi/MmiServiceInNamespacePinLaw", "pick", "(IIJB)B"⟩ : MethodName)) hown (mvT hZ (hw _ (List.mem_of_getElem? (i := 8) rfl))) (mvT hZ (hw _ (List.mem_of_getElem? (i := 9) rfl))) (mvT hZ (hw _ (List.mem_of_getElem? (i := 10) rfl))) (mvT hZ (hw _ (List.mem_of_getElem? (i := 11) rfl))) (by decide) (backOf (W := 2) (rm_pick l Z a0 hw [] p1 (0 : Int32) (109 : Int32) q2 h1 n0 Zs1) hZ (hw _ (List.mem_of_getElem? (i := 11) rfl)) (hw _ (List.mem_of_getElem? (i := 10) rfl)) (by decide) (by decide)) (g := (mkF m 28 #[.val (.int p0), .val (.int p1), .val (.long q2), .second, .val (.int (6 : Int32)), .val (.ref b1), .unset, .unset] [(.int (109 : Int32)), (.long q2), (.int (0 : Int32)), (.int p1), (.int (0 : Int32)), (.ref b1)])) rfl (by rw [hml]; rfl) (argsL := [(.int p1), (.int (0 : Int32)), (.long q2), (.int (109 : Int32))]) (rest := [(.int (0 : Int32)), (.ref b1)]) (lenOf pd_4 rfl) rfl (by show 2 * 0 + _ ≤ _; exact Nat.le_of_eq rfl) (hb hby at_28) (fun _ _ => ⟨rfl, e1, (by decide : 0 + 1 + 0 ≤ _), (by decide : 0 + 6 + 0 ≤ _)⟩)
  dsimp only [Pt.U, Pt.locs, Pt.cells, Pt.slots] at X2 l2 y2 z2 st2 hQ2
  subst l2 y2 z2
  obtain ⟨rfl, N2q, e2⟩ := hQ2
  have N2 := Fr.app N0 N2q
  refine own_go st2 ?_
  show own_Goes _ _ _ _ _ _ _ T2 (mkF m 31 #[.val (.int p0), .val (.int p1), .val (.long q2), .second, .val (.int (6 : Int32)), .val (.ref b1), .unset, .unset] [(.int (nar .byte (own_pick p1 (0 : Int32) q2 (109 : Int32)))), (.int (0 : Int32)), (.ref b1)])
  obtain ⟨T3, h3, X3, e3, W3, st3⟩ := stB X2 hx hZ e2 A1 (j := (0 : Int32)) (by show ¬ ((0 : Int32) < 0 ∨ 6 ≤ Int32.toNatClampNeg (0 : Int32)); decide) (g := (mkF m 31 #[.val (.int p0), .val (.int p1), .val (.long q2), .second, .val (.int (6 : Int32)), .val (.ref b1), .unset, .unset] [(.int (nar .byte (own_pick p1 (0 : Int32) q2 (109 : Int32)))), (.int (0 : Int32)), (.ref b1)])) rfl rfl (hb hby at_31)
  have N3 := Fr.snoc X3 N2 lo_b1
  have Zs3 : n0 ≤ h3.size := Nat.le_trans Zs1 (Keep.of_wr W3).1
  have Od3 : Old Z n0 h3 := Od1.wr W3 lo_b1
  have V_b1_3 : Arr Z h3 b1 ((newA k1 .byte (6 : Int32)).setSlot ((0 : Int32)).toNatClampNeg (.int (nar .byte (nar .byte (own_pick p1 (0 : Int32) q2 (109 : Int32)))))) .byte := A1.same W3
  refine own_go st3 ?_
  show own_Goes _ _ _ _ _ _ _ T3 (mkF m 32 #[.val (.int p0), .val (.int p1), .val (.long q2), .second, .val (.int (6 : Int32)), .val (.ref b1), .unset, .unset] [])
  refine own_go (fun _ k => XS.iload X3.here hx rfl (hb hby at_32) rfl k) ?_
  show own_Goes _ _ _ _ _ _ _ T3 (mkF m 34 #[.val (.int p0), .val (.int p1), .val (.long q2), .second, .val (.int (6 : Int32)), .val (.ref b1), .unset, .unset] [(.int (6 : Int32))])
  refine own_go (fun _ k => XS.iconst X3.here hx rfl (hb hby at_34) k) ?_
  show own_Goes _ _ _ _ _ _ _ T3 (mkF m 35 #[.val (.int p0), .val (.int p1), .val (.long q2), .second, .val (.int (6 : Int32)), .val (.ref b1), .unset, .unset] [(.int (1 : Int32)), (.int (6 : Int32))])
  refine own_go (fun _ k => XS.icmpNo X3.here hx rfl (hb hby at_35) rfl (tlt (by decide : (1 : Int32) < (6 : Int32))).2.2.2 k) ?_
  show own_Goes _ _ _ _ _ _ _ T3 (mkF m 38 #[.val (.int p0), .val (.int p1), .val (.long q2), .second, .val (.int (6 : Int32)), .val (.ref b1), .unset, .unset] [])
  refine own_go (fun _ k => XS.aload X3.here hx rfl (hb hby at_38) rfl rfl k) ?_
  show own_Goes _ _ _ _ _ _ _ T3 (mkF m 40 #[.val (.int p0), .val (.int p1), .val (.long q2), .second, .val (.int (6 : Int32)), .val (.ref b1), .unset, .unset] [(.ref b1)])
  refine own_go (fun _ k => XS.iconst X3.here hx rfl (hb hby at_40) k) ?_
  show own_Goes _ _ _ _ _ _ _ T3 (mkF m 41 #[.val (.int p0), .val (.int p1), .val (.long q2), .second, .val (.int (6 : Int32)), .val (.ref b1), .unset, .unset] [(.int (1 : Int32)), (.ref b1)])
  refine own_go (fun _ k => XS.iloadN X3.here hx rfl (hb hby at_41) rfl k) ?_
  show own_Goes _ _ _ _ _ _ _ T3 (mkF m 42 #[.val (.int p0), .val (.int p1), .val (.long q2), .second, .val (.int (6 : Int32)), .val (.ref b1), .unset, .unset] [(.int p1), (.int (1 : Int32)), (.ref b1)])
  refine own_go (fun _ k => XS.iconst X3.here hx rfl (hb hby at_42) k) ?_
  show own_Goes _ _ _ _ _ _ _ T3 (mkF m 43 #[.val (.int p0), .val (.int p1), .val (.long q2), .second, .val (.int (6 : Int32)), .val (.ref b1), .unset, .unset] [(.int (1 : Int32)), (.int p1), (.int (1 : Int32)), (.ref b1)])
  refine own_go (fun _ k => XS.lloadN X3.here hx rfl (hb hby at_43) rfl k) ?_
  show own_Goes _ _ _ _ _ _ _ T3 (mkF m 44 #[.val (.int p0), .val (.int p1), .val (.long q2), .second, .val (.int (6 : Int32)), .val (.ref b1), .unset, .unset] [(.long q2), (.int (1 : Int32)), (.int p1), (.int (1 : Int32)), (.ref b1)])
  refine own_go (fun _ k => XS.bipush X3.here hx rfl (hb hby at_44) k) ?_
  show own_Goes _ _ _ _ _ _ _ T3 (mkF m 46 #[.val (.int p0), .val (.int p1), .val (.long q2), .second, .val (.int (6 : Int32)), .val (.ref b1), .unset, .unset] [(.int (109 : Int32)), (.long q2), (.int (1 : Int32)), (.int p1), (.int (1 : Int32)), (.ref b1)])
  obtain ⟨_, _, ⟨T4, L4, k4, n4⟩, -, X4, ⟨Lc4, hQ4, l4, y4, z4⟩, st4⟩ := Jvm.LawKit.callS X3 hx (y := (⟨"com/example/wire3/wire3/core/mmi/MmiServiceInNamespacePinLaw", "pick", "(IIJB)B"⟩ : MethodName)) hown (mvT hZ (hw _ (List.mem_of_getElem? (i := 8) rfl))) (mvT hZ (hw _ (List.mem_of_getElem? (i := 9) rfl))) (mvT hZ (hw _ (List.mem_of_getElem? (i := 10) rfl))) (mvT hZ (hw _ (List.mem_of_getElem? (i := 11) rfl))) (by decide) (backOf (W := 2) (rm_pick l Z a0 hw [] p1 (1 : Int32) (109 : Int32) q2 h3 n0 Zs3) hZ (hw _ (List.mem_of_getElem? (i := 11) rfl)) (hw _ (List.mem_of_getElem? (i := 10) rfl)) (by decide) (by decide)) (g := (mkF m 46 #[.val (.int p0), .val (.int p1), .val (.long q2), .second, .val (.int (6 : Int32)), .val (.ref b1), .unset, .unset] [(.int (109 : Int32)), (.long q2), (.int (1 : Int32)), (.int p1), (.int (1 : Int32)), (.ref b1)])) rfl (by rw [hml]; rfl) (argsL := [(.int p1), (.int (1 : Int32)), (.long q2), (.int (109 : Int32))]) (rest := [(.int (1 : Int32)), (.ref b1)]) (lenOf pd_4 rfl) rfl (by show 2 * 0 + _ ≤ _; exact Nat.le_of_eq rfl) (hb hby at_46) (fun _ _ => ⟨rfl, e3, (by decide : 0 + 1 + 0 + 0 ≤ _), (by decide : 0 + 6 + 0 + 0 ≤ _)⟩)
  dsimp only [Pt.U, Pt.locs, Pt.cells, Pt.slots] at X4 l4 y4 z4 st4 hQ4
  subst l4 y4 z4
  obtain ⟨rfl, N4q, e4⟩ := hQ4
  have N4 := Fr.app N3 N4q
  refine own_go st4 ?_
  show own_Goes _ _ _ _ _ _ _ T4 (mkF m 49 #[.val (.int p0), .val (.int p1), .val (.long q2), .second, .val (.int (6 : Int32)), .val (.ref b1), .unset, .unset] [(.int (nar .byte (own_pick p1 (1 : Int32) q2 (109 : Int32)))), (.int (1 : Int32)), (.ref b1)])
  obtain ⟨T5, h5, X5, e5, W5, st5⟩ := stB X4 hx hZ e4 V_b1_3 (j := (1 : Int32)) (by show ¬ ((1 : Int32) < 0 ∨ 6 ≤ Int32.toNatClampNeg (1 : Int32)); decide) (g := (mkF m 49 #[.val (.int p0), .val (.int p1), .val (.long q2), .second, .val (.int (6 : Int32)), .val (.ref b1), .unset, .unset] [(.int (nar .byte (own_pick p1 (1 : Int32) q2 (109 : Int32)))), (.int (1 : Int32)), (.ref b1)])) rfl rfl (hb hby at_49)
  have N5 := Fr.snoc X5 N4 lo_b1
  have Zs5 : n0 ≤ h5.size := Nat.le_trans Zs3 (Keep.of_wr W5).1
  have Od5 : Old Z n0 h5 := Od3.wr W5 lo_b1
  have V_b1_5 : Arr Z h5 b1 (((newA k1 .byte (6 : Int32)).setSlot ((0 : Int32)).toNatClampNeg (.int (nar .byte (nar .byte (own_pick p1 (0 : Int32) q2 (109 : Int32)))))).setSlot ((1 : Int32)).toNatClampNeg (.int (nar .byte (nar .byte (own_pick p1 (1 : Int32) q2 (109 : Int32)))))) .byte := V_b1_3.same W5
  refine own_go st5 ?_
  show own_Goes _ _ _ _ _ _ _ T5 (mkF m 50 #[.val (.int p0), .val (.int p1), .val (.long q2), .second, .val (.int (6 : Int32)), .val (.ref b1), .unset, .unset] [])
  refine own_go (fun _ k => XS.iload X5.here hx rfl (hb hby at_50) rfl k) ?_
  show own_Goes _ _ _ _ _ _ _ T5 (mkF m 52 #[.val (.int p0), .val (.int p1), .val (.long q2), .second, .val (.int (6 : Int32)), .val (.ref b1), .unset, .unset] [(.int (6 : Int32))])
  refine own_go (fun _ k => XS.iconst X5.here hx rfl (hb hby at_52) k) ?_
  show own_Goes _ _ _ _ _ _ _ T5 (mkF m 53 #[.val (.int p0), .val (.int p1), .val (.long q2), .second, .val (.int (6 : Int32)), .val (.ref b1), .unset, .unset] [(.int (2 : Int32)), (.int (6 : Int32))])
  refine own_go (fun _ k => XS.icmpNo X5.here hx rfl (hb hby at_53) rfl (tlt (by decide : (2 : Int32) < (6 : Int32))).2.2.2 k) ?_
  show own_Goes _ _ _ _ _ _ _ T5 (mkF m 56 #[.val (.int p0), .val (.int p1), .val (.long q2), .second, .val (.int (6 : Int32)), .val (.ref b1), .unset, .unset] [])
  refine own_go (fun _ k => XS.aload X5.here hx rfl (hb hby at_56) rfl rfl k) ?_
  show own_Goes _ _ _ _ _ _ _ T5 (mkF m 58 #[.val (.int p0), .val (.int p1), .val (.long q2), .second, .val (.int (6 : Int32)), .val (.ref b1), .unset, .unset] [(.ref b1)])
  refine own_go (fun _ k => XS.iconst X5.here hx rfl (hb hby at_58) k) ?_
  show own_Goes _ _ _ _ _ _ _ T5 (mkF m 59 #[.val (.int p0), .val (.int p1), .val (.long q2), .second, .val (.int (6 : Int32)), .val (.ref b1), .unset, .unset] [(.int (2 : Int32)), (.ref b1)])
  refine own_go (fun _ k => XS.iloadN X5.here hx rfl (hb hby at_59) rfl k) ?_
  show own_Goes _ _ _ _ _ _ _ T5 (mkF m 60 #[.val (.int p0), .val (.int p1), .val (.long q2), .second, .val (.int (6 : Int32)), .val (.ref b1), .unset, .unset] [(.int p1), (.int (2 : Int32)), (.ref b1)])
  refine own_go (fun _ k => XS.iconst X5.here hx rfl (hb hby at_60) k) ?_
  show own_Goes _ _ _ _ _ _ _ T5 (mkF m 61 #[.val (.int p0), .val (.int p1), .val (.long q2), .second, .val (.int (6 : Int32)), .val (.ref b1), .unset, .unset] [(.int (2 : Int32)), (.int p1), (.int (2 : Int32)), (.ref b1)])
  refine own_go (fun _ k => XS.lloadN X5.here hx rfl (hb hby at_61) rfl k) ?_
  show own_Goes _ _ _ _ _ _ _ T5 (mkF m 62 #[.val (.int p0), .val (.int p1), .val (.long q2), .second, .val (.int (6 : Int32)), .val (.ref b1), .unset, .unset] [(.long q2), (.int (2 : Int32)), (.int p1), (.int (2 : Int32)), (.ref b1)])
  refine own_go (fun _ k => XS.bipush X5.here hx rfl (hb hby at_62) k) ?_
  show own_Goes _ _ _ _ _ _ _ T5 (mkF m 64 #[.val (.int p0), .val (.int p1), .val (.long q2), .second, .val (.int (6 : Int32)), .val (.ref b1), .unset, .unset] [(.int (105 : Int32)), (.long q2), (.int (2 : Int32)), (.int p1), (.int (2 : Int32)), (.ref b1)])
  obtain ⟨_, _, ⟨T6, L6, k6, n6⟩, -, X6, ⟨Lc6, hQ6, l6, y6, z6⟩, st6⟩ := Jvm.LawKit.callS X5 hx (y := (⟨"com/example/wire3/wire3/core/mmi/MmiServiceInNamespacePinLaw", "pick", "(IIJB)B"⟩ : MethodName)) hown (mvT hZ (hw _ (List.mem_of_getElem? (i := 8) rfl))) (mvT hZ (hw _ (List.mem_of_getElem? (i := 9) rfl))) (mvT hZ (hw _ (List.mem_of_getElem? (i := 10) rfl))) (mvT hZ (hw _ (List.mem_of_getElem? (i := 11) rfl))) (by decide) (backOf (W := 2) (rm_pick l Z a0 hw [] p1 (2 : Int32) (105 : Int32) q2 h5 n0 Zs5) hZ (hw _ (List.mem_of_getElem? (i := 11) rfl)) (hw _ (List.mem_of_getElem? (i := 10) rfl)) (by decide) (by decide)) (g := (mkF m 64 #[.val (.int p0), .val (.int p1), .val (.long q2), .second, .val (.int (6 : Int32)), .val (.ref b1), .unset, .unset] [(.int (105 : Int32)), (.long q2), (.int (2 : Int32)), (.int p1), (.int (2 : Int32)), (.ref b1)])) rfl (by rw [hml]; rfl) (argsL := [(.int p1), (.int (2 : Int32)), (.long q2), (.int (105 : Int32))]) (rest := [(.int (2 : Int32)), (.ref b1)]) (lenOf pd_4 rfl) rfl (by show 2 * 0 + _ ≤ _; exact Nat.le_of_eq rfl) (hb hby at_64) (fun _ _ => ⟨rfl, e5, (by decide : 0 + 1 + 0 + 0 + 0 ≤ _), (by decide : 0 + 6 + 0 + 0 + 0 ≤ _)⟩)
  dsimp only [Pt.U, Pt.locs, Pt.cells, Pt.slots] at X6 l6 y6 z6 st6 hQ6
  subst l6 y6 z6
  obtain ⟨rfl, N6q, e6⟩ := hQ6
  have N6 := Fr.app N5 N6q
  refine own_go st6 ?_
  show own_Goes _ _ _ _ _ _ _ T6 (mkF m 67 #[.val (.int p0), .val (.int p1), .val (.long q2), .second, .val (.int (6 : Int32)), .val (.ref b1), .unset, .unset] [(.int (nar .byte (own_pick p1 (2 : Int32) q2 (105 : Int32)))), (.int (2 : Int32)), (.ref b1)])
  obtain ⟨T7, h7, X7, e7, W7, st7⟩ := stB X6 hx hZ e6 V_b1_5 (j := (2 : Int32)) (by show ¬ ((2 : Int32) < 0 ∨ 6 ≤ Int32.toNatClampNeg (2 : Int32)); decide) (g := (mkF m 67 #[.val (.int p0), .val (.int p1), .val (.long q2), .second, .val (.int (6 : Int32)), .val (.ref b1), .unset, .unset] [(.int (nar .byte (own_pick p1 (2 : Int32) q2 (105 : Int32)))), (.int (2 : Int32)), (.ref b1)])) rfl rfl (hb hby at_67)
  have N7 := Fr.snoc X7 N6 lo_b1
  have Zs7 : n0 ≤ h7.size := Nat.le_trans Zs5 (Keep.of_wr W7).1
  have Od7 : Old Z n0 h7 := Od5.wr W7 lo_b1
  have V_b1_7 : Arr Z h7 b1 ((((newA k1 .byte (6 : Int32)).setSlot ((0 : Int32)).toNatClampNeg (.int (nar .byte (nar .byte (own_pick p1 (0 : Int32) q2 (109 : Int32)))))).setSlot ((1 : Int32)).toNatClampNeg (.int (nar .byte (nar .byte (own_pick p1 (1 : Int32) q2 (109 : Int32)))))).setSlot ((2 : Int32)).toNatClampNeg (.int (nar .byte (nar .byte (own_pick p1 (2 : Int32) q2 (105 : Int32)))))) .byte := V_b1_5.same W7
  refine own_go st7 ?_
  show own_Goes _ _ _ _ _ _ _ T7 (mkF m 68 #[.val (.int p0), .val (.int p1), .val (.long q2), .second, .val (.int (6 : Int32)), .val (.ref b1), .unset, .unset] [])
  refine own_go (fun _ k => XS.iload X7.here hx rfl (hb hby at_68) rfl k) ?_
  show own_Goes _ _ _ _ _ _ _ T7 (mkF m 70 #[.val (.int p0), .val (.int p1), .val (.long q2), .second, .val (.int (6 : Int32)), .val (.ref b1), .unset, .unset] [(.int (6 : Int32))])
  refine own_go (fun _ k => XS.iconst X7.here hx rfl (hb hby at_70) k) ?_
  show own_Goes _ _ _ _ _ _ _ T7 (mkF m 71 #[.val (.int p0), .val (.int p1), .val (.long q2), .second, .val (.int (6 : Int32)), .val (.ref b1), .unset, .unset] [(.int (3 : Int32)), (.int (6 : Int32))])
  refine own_go (fun _ k => XS.icmpNo X7.here hx rfl (hb hby at_71) rfl (tlt (by decide : (3 : Int32) < (6 : Int32))).2.2.2 k) ?_
  show own_Goes _ _ _ _ _ _ _ T7 (mkF m 74 #[.val (.int p0), .val (.int p1), .val (.long q2), .second, .val (.int (6 : Int32)), .val (.ref b1), .unset, .unset] [])
  refine own_go (fun _ k => XS.aload X7.here hx rfl (hb hby at_74) rfl rfl k) ?_
  show own_Goes _ _ _ _ _ _ _ T7 (mkF m 76 #[.val (.int p0), .val (.int p1), .val (.long q2), .second, .val (.int (6 : Int32)), .val (.ref b1), .unset, .unset] [(.ref b1)])
  refine own_go (fun _ k => XS.iconst X7.here hx rfl (hb hby at_76) k) ?_
  show own_Goes _ _ _ _ _ _ _ T7 (mkF m 77 #[.val (.int p0), .val (.int p1), .val (.long q2), .second, .val (.int (6 : Int32)), .val (.ref b1), .unset, .unset] [(.int (3 : Int32)), (.ref b1)])
  refine own_go (fun _ k => XS.iloadN X7.here hx rfl (hb hby at_77) rfl k) ?_
  show own_Goes _ _ _ _ _ _ _ T7 (mkF m 78 #[.val (.int p0), .val (.int p1), .val (.long q2), .second, .val (.int (6 : Int32)), .val (.ref b1), .unset, .unset] [(.int p1), (.int (3 : Int32)), (.ref b1)])
  refine own_go (fun _ k => XS.iconst X7.here hx rfl (hb hby at_78) k) ?_
  show own_Goes _ _ _ _ _ _ _ T7 (mkF m 79 #[.val (.int p0), .val (.int p1), .val (.long q2), .second, .val (.int (6 : Int32)), .val (.ref b1), .unset, .unset] [(.int (3 : Int32)), (.int p1), (.int (3 : Int32)), (.ref b1)])
  refine own_go (fun _ k => XS.lloadN X7.here hx rfl (hb hby at_79) rfl k) ?_
  show own_Goes _ _ _ _ _ _ _ T7 (mkF m 80 #[.val (.int p0), .val (.int p1), .val (.long q2), .second, .val (.int (6 : Int32)), .val (.ref b1), .unset, .unset] [(.long q2), (.int (3 : Int32)), (.int p1), (.int (3 : Int32)), (.ref b1)])
  refine own_go (fun _ k => XS.bipush X7.here hx rfl (hb hby at_80) k) ?_
  show own_Goes _ _ _ _ _ _ _ T7 (mkF m 82 #[.val (.int p0), .val (.int p1), .val (.long q2), .second, .val (.int (6 : Int32)), .val (.ref b1), .unset, .unset] [(.int (46 : Int32)), (.long q2), (.int (3 : Int32)), (.int p1), (.int (3 : Int32)), (.ref b1)])
  obtain ⟨_, _, ⟨T8, L8, k8, n8⟩, -, X8, ⟨Lc8, hQ8, l8, y8, z8⟩, st8⟩ := Jvm.LawKit.callS X7 hx (y := (⟨"com/example/wire3/wire3/core/mmi/MmiServiceInNamespacePinLaw", "pick", "(IIJB)B"⟩ : MethodName)) hown (mvT hZ (hw _ (List.mem_of_getElem? (i := 8) rfl))) (mvT hZ (hw _ (List.mem_of_getElem? (i := 9) rfl))) (mvT hZ (hw _ (List.mem_of_getElem? (i := 10) rfl))) (mvT hZ (hw _ (List.mem_of_getElem? (i := 11) rfl))) (by decide) (backOf (W := 2) (rm_pick l Z a0 hw [] p1 (3 : Int32) (46 : Int32) q2 h7 n0 Zs7) hZ (hw _ (List.mem_of_getElem? (i := 11) rfl)) (hw _ (List.mem_of_getElem? (i := 10) rfl)) (by decide) (by decide)) (g := (mkF m 82 #[.val (.int p0), .val (.int p1), .val (.long q2), .second, .val (.int (6 : Int32)), .val (.ref b1), .unset, .unset] [(.int (46 : Int32)), (.long q2), (.int (3 : Int32)), (.int p1), (.int (3 : Int32)), (.ref b1)])) rfl (by rw [hml]; rfl) (argsL := [(.int p1), (.int (3 : Int32)), (.long q2), (.int (46 : Int32))]) (rest := [(.int (3 : Int32)), (.ref b1)]) (lenOf pd_4 rfl) rfl (by show 2 * 0 + _ ≤ _; exact Nat.le_of_eq rfl) (hb hby at_82) (fun _ _ => ⟨rfl, e7, (by decide : 0 + 1 + 0 + 0 + 0 + 0 ≤ _), (by decide : 0 + 6 + 0 + 0 + 0 + 0 ≤ _)⟩)
  dsimp only [Pt.U, Pt.locs, Pt.cells, Pt.slots] at X8 l8 y8 z8 st8 hQ8
  subst l8 y8 z8
  obtain ⟨rfl, N8q, e8⟩ := hQ8
  have N8 := Fr.app N7 N8q
  refine own_go st8 ?_
  show own_Goes _ _ _ _ _ _ _ T8 (mkF m 85 #[.val (.int p0), .val (.int p1), .val (.long q2), .second, .val (.int (6 : Int32)), .val (.ref b1), .unset, .unset] [(.int (nar .byte (own_pick p1 (3 : Int32) q2 (46 : Int32)))), (.int (3 : Int32)), (.ref b1)])
  obtain ⟨T9, h9, X9, e9, W9, st9⟩ := stB X8 hx hZ e8 V_b1_7 (j := (3 : Int32)) (by show ¬ ((3 : Int32) < 0 ∨ 6 ≤ Int32.toNatClampNeg (3 : Int32)); decide) (g := (mkF m 85 #[.val (.int p0), .val (.int p1), .val (.long q2), .second, .val (.int (6 : Int32)), .val (.ref b1), .unset, .unset] [(.int (nar .byte (own_pick p1 (3 : Int32) q2 (46 : Int32)))), (.int (3 : Int32)), (.ref b1)])) rfl rfl (hb hby at_85)
  have N9 := Fr.snoc X9 N8 lo_b1
  have Zs9 : n0 ≤ h9.size := Nat.le_trans Zs7 (Keep.of_wr W9).1
  have Od9 : Old Z n0 h9 := Od7.wr W9 lo_b1
  have V_b1_9 : Arr Z h9 b1 (((((newA k1 .byte (6 : Int32)).setSlot ((0 : Int32)).toNatClampNeg (.int (nar .byte (nar .byte (own_pick p1 (0 : Int32) q2 (109 : Int32)))))).setSlot ((1 : Int32)).toNatClampNeg (.int (nar .byte (nar .byte (own_pick p1 (1 : Int32) q2 (109 : Int32)))))).setSlot ((2 : Int32)).toNatClampNeg (.int (nar .byte (nar .byte (own_pick p1 (2 : Int32) q2 (105 : Int32)))))).setSlot ((3 : Int32)).toNatClampNeg (.int (nar .byte (nar .byte (own_pick p1 (3 : Int32) q2 (46 : Int32)))))) .byte := V_b1_7.same W9
  refine own_go st9 ?_
  show own_Goes _ _ _ _ _ _ _ T9 (mkF m 86 #[.val (.int p0), .val (.int p1), .val (.long q2), .second, .val (.int (6 : Int32)), .val (.ref b1), .unset, .unset] [])
  refine own_go (fun _ k => XS.iload X9.here hx rfl (hb hby at_86) rfl k) ?_
  show own_Goes _ _ _ _ _ _ _ T9 (mkF m 88 #[.val (.int p0), .val (.int p1), .val (.long q2), .second, .val (.int (6 : Int32)), .val (.ref b1), .unset, .unset] [(.int (6 : Int32))])
  refine own_go (fun _ k => XS.iconst X9.here hx rfl (hb hby at_88) k) ?_
  show own_Goes _ _ _ _ _ _ _ T9 (mkF m 89 #[.val (.int p0), .val (.int p1), .val (.long q2), .second, .val (.int (6 : Int32)), .val (.ref b1), .unset, .unset] [(.int (4 : Int32)), (.int (6 : Int32))])
  refine own_go (fun _ k => XS.icmpNo X9.here hx rfl (hb hby at_89) rfl (tlt (by decide : (4 : Int32) < (6 : Int32))).2.2.2 k) ?_
  show own_Goes _ _ _ _ _ _ _ T9 (mkF m 92 #[.val (.int p0), .val (.int p1), .val (.long q2), .second, .val (.int (6 : Int32)), .val (.ref b1), .unset, .unset] [])
  refine own_go (fun _ k => XS.aload X9.here hx rfl (hb hby at_92) rfl rfl k) ?_
  show own_Goes _ _ _ _ _ _ _ T9 (mkF m 94 #[.val (.int p0), .val (.int p1), .val (.long q2), .second, .val (.int (6 : Int32)), .val (.ref b1), .unset, .unset] [(.ref b1)])
  refine own_go (fun _ k => XS.iconst X9.here hx rfl (hb hby at_94) k) ?_
  show own_Goes _ _ _ _ _ _ _ T9 (mkF m 95 #[.val (.int p0), .val (.int p1), .val (.long q2), .second, .val (.int (6 : Int32)), .val (.ref b1), .unset, .unset] [(.int (4 : Int32)), (.ref b1)])
  refine own_go (fun _ k => XS.lloadN X9.here hx rfl (hb hby at_95) rfl k) ?_
  show own_Goes _ _ _ _ _ _ _ T9 (mkF m 96 #[.val (.int p0), .val (.int p1), .val (.long q2), .second, .val (.int (6 : Int32)), .val (.ref b1), .unset, .unset] [(.long q2), (.int (4 : Int32)), (.ref b1)])
  refine own_go (fun _ k => XS.bipush X9.here hx rfl (hb hby at_96) k) ?_
  show own_Goes _ _ _ _ _ _ _ T9 (mkF m 98 #[.val (.int p0), .val (.int p1), .val (.long q2), .second, .val (.int (6 : Int32)), .val (.ref b1), .unset, .unset] [(.int (32 : Int32)), (.long q2), (.int (4 : Int32)), (.ref b1)])
  refine own_go (fun _ k => XS.lushr X9.here hx rfl (hb hby at_98) rfl k) ?_
  show own_Goes _ _ _ _ _ _ _ T9 (mkF m 99 #[.val (.int p0), .val (.int p1), .val (.long q2), .second, .val (.int (6 : Int32)), .val (.ref b1), .unset, .unset] [(.long ((q2.toUInt64 >>> ((32 : Int32) &&& 0x3f).toInt64.toUInt64).toInt64)), (.int (4 : Int32)), (.ref b1)])
  refine own_go (fun _ k => XS.l2i X9.here hx rfl (hb hby at_99) rfl k) ?_
  show own_Goes _ _ _ _ _ _ _ T9 (mkF m 100 #[.val (.int p0), .val (.int p1), .val (.long q2), .second, .val (.int (6 : Int32)), .val (.ref b1), .unset, .unset] [(.int (((q2.toUInt64 >>> ((32 : Int32) &&& 0x3f).toInt64.toUInt64).toInt64).toInt32)), (.int (4 : Int32)), (.ref b1)])
  refine own_go (fun _ k => XS.i2b X9.here hx rfl (hb hby at_100) rfl k) ?_
  show own_Goes _ _ _ _ _ _ _ T9 (mkF m 101 #[.val (.int p0), .val (.int p1), .val (.long q2), .second, .val (.int (6 : Int32)), .val (.ref b1), .unset, .unset] [(.int ((((q2.toUInt64 >>> ((32 : Int32) &&& 0x3f).toInt64.toUInt64).toInt64).toInt32).toInt8.toInt32)), (.int (4 : Int32)), (.ref b1)])
  obtain ⟨T10, h10, X10, e10, W10, st10⟩ := stB X9 hx hZ e9 V_b1_9 (j := (4 : Int32)) (by show ¬ ((4 : Int32) < 0 ∨ 6 ≤ Int32.toNatClampNeg (4 : Int32)); decide) (g := (mkF m 101 #[.val (.int p0), .val (.int p1), .val (.long q2), .second, .val (.int (6 : Int32)), .val (.ref b1), .unset, .unset] [(.int ((((q2.toUInt64 >>> ((32 : Int32) &&& 0x3f).toInt64.toUInt64).toInt64).toInt32).toInt8.toInt32)), (.int (4 : Int32)), (.ref b1)])) rfl rfl (hb hby at_101)
  have N10 := Fr.snoc X10 N9 lo_b1
  have Zs10 : n0 ≤ h10.size := Nat.le_trans Zs9 (Keep.of_wr W10).1
  have Od10 : Old Z n0 h10 := Od9.wr W10 lo_b1
  have V_b1_10 : Arr Z h10 b1 ((((((newA k1 .byte (6 : Int32)).setSlot ((0 : Int32)).toNatClampNeg (.int (nar .byte (nar .byte (own_pick p1 (0 : Int32) q2 (109 : Int32)))))).setSlot ((1 : Int32)).toNatClampNeg (.int (nar .byte (nar .byte (own_pick p1 (1 : Int32) q2 (109 : Int32)))))).setSlot ((2 : Int32)).toNatClampNeg (.int (nar .byte (nar .byte (own_pick p1 (2 : Int32) q2 (105 : Int32)))))).setSlot ((3 : Int32)).toNatClampNeg (.int (nar .byte (nar .byte (own_pick p1 (3 : Int32) q2 (46 : Int32)))))).setSlot ((4 : Int32)).toNatClampNeg (.int (nar .byte ((((q2.toUInt64 >>> ((32 : Int32) &&& 0x3f).toInt64.toUInt64).toInt64).toInt32).toInt8.toInt32)))) .byte := V_b1_9.same W10
  refine own_go st10 ?_
  show own_Goes _ _ _ _ _ _ _ T10 (mkF m 102 #[.val (.int p0), .val (.int p1), .val (.long q2), .second, .val (.int (6 : Int32)), .val (.ref b1), .unset, .unset] [])
  refine own_go (fun _ k => XS.iload X10.here hx rfl (hb hby at_102) rfl k) ?_
  show own_Goes _ _ _ _ _ _ _ T10 (mkF m 104 #[.val (.int p0), .val (.int p1), .val (.long q2), .second, .val (.int (6 : Int32)), .val (.ref b1), .unset, .unset] [(.int (6 : Int32))])
  refine own_go (fun _ k => XS.iconst X10.here hx rfl (hb hby at_104) k) ?_
  show own_Goes _ _ _ _ _ _ _ T10 (mkF m 105 #[.val (.int p0), .val (.int p1), .val (.long q2), .second, .val (.int (6 : Int32)), .val (.ref b1), .unset, .unset] [(.int (5 : Int32)), (.int (6 : Int32))])
  refine own_go (fun _ k => XS.icmpNo X10.here hx rfl (hb hby at_105) rfl (tlt (by decide : (5 : Int32) < (6 : Int32))).2.2.2 k) ?_
  show own_Goes _ _ _ _ _ _ _ T10 (mkF m 108 #[.val (.int p0), .val (.int p1), .val (.long q2), .second, .val (.int (6 : Int32)), .val (.ref b1), .unset, .unset] [])
  refine own_go (fun _ k => XS.aload X10.here hx rfl (hb hby at_108) rfl rfl k) ?_
  show own_Goes _ _ _ _ _ _ _ T10 (mkF m 110 #[.val (.int p0), .val (.int p1), .val (.long q2), .second, .val (.int (6 : Int32)), .val (.ref b1), .unset, .unset] [(.ref b1)])
  refine own_go (fun _ k => XS.iconst X10.here hx rfl (hb hby at_110) k) ?_
  show own_Goes _ _ _ _ _ _ _ T10 (mkF m 111 #[.val (.int p0), .val (.int p1), .val (.long q2), .second, .val (.int (6 : Int32)), .val (.ref b1), .unset, .unset] [(.int (5 : Int32)), (.ref b1)])
  refine own_go (fun _ k => XS.lloadN X10.here hx rfl (hb hby at_111) rfl k) ?_
  show own_Goes _ _ _ _ _ _ _ T10 (mkF m 112 #[.val (.int p0), .val (.int p1), .val (.long q2), .second, .val (.int (6 : Int32)), .val (.ref b1), .unset, .unset] [(.long q2), (.int (5 : Int32)), (.ref b1)])
  refine own_go (fun _ k => XS.bipush X10.here hx rfl (hb hby at_112) k) ?_
  show own_Goes _ _ _ _ _ _ _ T10 (mkF m 114 #[.val (.int p0), .val (.int p1), .val (.long q2), .second, .val (.int (6 : Int32)), .val (.ref b1), .unset, .unset] [(.int (40 : Int32)), (.long q2), (.int (5 : Int32)), (.ref b1)])
  refine own_go (fun _ k => XS.lushr X10.here hx rfl (hb hby at_114) rfl k) ?_
  show own_Goes _ _ _ _ _ _ _ T10 (mkF m 115 #[.val (.int p0), .val (.int p1), .val (.long q2), .second, .val (.int (6 : Int32)), .val (.ref b1), .unset, .unset] [(.long ((q2.toUInt64 >>> ((40 : Int32) &&& 0x3f).toInt64.toUInt64).toInt64)), (.int (5 : Int32)), (.ref b1)])
  refine own_go (fun _ k => XS.l2i X10.here hx rfl (hb hby at_115) rfl k) ?_
  show own_Goes _ _ _ _ _ _ _ T10 (mkF m 116 #[.val (.int p0), .val (.int p1), .val (.long q2), .second, .val (.int (6 : Int32)), .val (.ref b1), .unset, .unset] [(.int (((q2.toUInt64 >>> ((40 : Int32) &&& 0x3f).toInt64.toUInt64).toInt64).toInt32)), (.int (5 : Int32)), (.ref b1)])
  refine own_go (fun _ k => XS.i2b X10.here hx rfl (hb hby at_116) rfl k) ?_
  show own_Goes _ _ _ _ _ _ _ T10 (mkF m 117 #[.val (.int p0), .val (.int p1), .val (.long q2), .second, .val (.int (6 : Int32)), .val (.ref b1), .unset, .unset] [(.int ((((q2.toUInt64 >>> ((40 : Int32) &&& 0x3f).toInt64.toUInt64).toInt64).toInt32).toInt8.toInt32)), (.int (5 : Int32)), (.ref b1)])
  obtain ⟨T11, h11, X11, e11, W11, st11⟩ := stB X10 hx hZ e10 V_b1_10 (j := (5 : Int32)) (by show ¬ ((5 : Int32) < 0 ∨ 6 ≤ Int32.toNatClampNeg (5 : Int32)); decide) (g := (mkF m 117 #[.val (.int p0), .val (.int p1), .val (.long q2), .second, .val (.int (6 : Int32)), .val (.ref b1), .unset, .unset] [(.int ((((q2.toUInt64 >>> ((40 : Int32) &&& 0x3f).toInt64.toUInt64).toInt64).toInt32).toInt8.toInt32)), (.int (5 : Int32)), (.ref b1)])) rfl rfl (hb hby at_117)
  have N11 := Fr.snoc X11 N10 lo_b1
  have Zs11 : n0 ≤ h11.size := Nat.le_trans Zs10 (Keep.of_wr W11).1
  have Od11 : Old Z n0 h11 := Od10.wr W11 lo_b1
  have V_b1_11 : Arr Z h11 b1 (((((((newA k1 .byte (6 : Int32)).setSlot ((0 : Int32)).toNatClampNeg (.int (nar .byte (nar .byte (own_pick p1 (0 : Int32) q2 (109 : Int32)))))).setSlot ((1 : Int32)).toNatClampNeg (.int (nar .byte (nar .byte (own_pick p1 (1 : Int32) q2 (109 : Int32)))))).setSlot ((2 : Int32)).toNatClampNeg (.int (nar .byte (nar .byte (own_pick p1 (2 : Int32) q2 (105 : Int32)))))).setSlot ((3 : Int32)).toNatClampNeg (.int (nar .byte (nar .byte (own_pick p1 (3 : Int32) q2 (46 : Int32)))))).setSlot ((4 : Int32)).toNatClampNeg (.int (nar .byte ((((q2.toUInt64 >>> ((32 : Int32) &&& 0x3f).toInt64.toUInt64).toInt64).toInt32).toInt8.toInt32)))).setSlot ((5 : Int32)).toNatClampNeg (.int (nar .byte ((((q2.toUInt64 >>> ((40 : Int32) &&& 0x3f).toInt64.toUInt64).toInt64).toInt32).toInt8.toInt32)))) .byte := V_b1_10.same W11
  refine own_go st11 ?_
  show own_Goes _ _ _ _ _ _ _ T11 (mkF m 118 #[.val (.int p0), .val (.int p1), .val (.long q2), .second, .val (.int (6 : Int32)), .val (.ref b1), .unset, .unset] [])
  refine own_go (fun _ k => XS.iload X11.here hx rfl (hb hby at_118) rfl k) ?_
  show own_Goes _ _ _ _ _ _ _ T11 (mkF m 120 #[.val (.int p0), .val (.int p1), .val (.long q2), .second, .val (.int (6 : Int32)), .val (.ref b1), .unset, .unset] [(.int (6 : Int32))])
  refine own_go (fun _ k => XS.iconst X11.here hx rfl (hb hby at_120) k) ?_
  show own_Goes _ _ _ _ _ _ _ T11 (mkF m 121 #[.val (.int p0), .val (.int p1), .val (.long q2), .second, .val (.int (6 : Int32)), .val (.ref b1), .unset, .unset] [(.int (4 : Int32)), (.int (6 : Int32))])
  refine own_go (fun _ k => XS.icmpNo X11.here hx rfl (hb hby at_121) rfl (flt (by decide : ¬ ((6 : Int32) < (4 : Int32)))).1 k) ?_
  show own_Goes _ _ _ _ _ _ _ T11 (mkF m 124 #[.val (.int p0), .val (.int p1), .val (.long q2), .second, .val (.int (6 : Int32)), .val (.ref b1), .unset, .unset] [])
  refine own_go (fun _ k => XS.aload X11.here hx rfl (hb hby at_124) rfl rfl k) ?_
  show own_Goes _ _ _ _ _ _ _ T11 (mkF m 126 #[.val (.int p0), .val (.int p1), .val (.long q2), .second, .val (.int (6 : Int32)), .val (.ref b1), .unset, .unset] [(.ref b1)])
  refine own_go (fun _ k => XS.iconst X11.here hx rfl (hb hby at_126) k) ?_
  show own_Goes _ _ _ _ _ _ _ T11 (mkF m 127 #[.val (.int p0), .val (.int p1), .val (.long q2), .second, .val (.int (6 : Int32)), .val (.ref b1), .unset, .unset] [(.int (0 : Int32)), (.ref b1)])
  refine own_go (fun t k => X11.baloadBytes hx (j := (0 : Int32)) (v := (.int (nar .byte (nar .byte (own_pick p1 (0 : Int32) q2 (109 : Int32)))))) (by rw [e11]; exact V_b1_11.1) (State.isArrayOf_alike hZ.alike V_b1_11.2.1) V_b1_11.2.2 (by show ¬ ((0 : Int32) < 0 ∨ 6 ≤ Int32.toNatClampNeg (0 : Int32)); decide) (by rfl) (g := (mkF m 127 #[.val (.int p0), .val (.int p1), .val (.long q2), .second, .val (.int (6 : Int32)), .val (.ref b1), .unset, .unset] [(.int (0 : Int32)), (.ref b1)])) rfl rfl (hb hby at_127) t k) ?_
  show own_Goes _ _ _ _ _ _ _ T11 (mkF m 128 #[.val (.int p0), .val (.int p1), .val (.long q2), .second, .val (.int (6 : Int32)), .val (.ref b1), .unset, .unset] [(.int (nar .byte (nar .byte (own_pick p1 (0 : Int32) q2 (109 : Int32)))))])
  refine own_go (fun _ k => XS.bipush X11.here hx rfl (hb hby at_128) k) ?_
  show own_Goes _ _ _ _ _ _ _ T11 (mkF m 130 #[.val (.int p0), .val (.int p1), .val (.long q2), .second, .val (.int (6 : Int32)), .val (.ref b1), .unset, .unset] [(.int (109 : Int32)), (.int (nar .byte (nar .byte (own_pick p1 (0 : Int32) q2 (109 : Int32)))))])
  by_cases hc130 : (nar .byte (nar .byte (own_pick p1 (0 : Int32) q2 (109 : Int32)))) = (109 : Int32)
  · refine own_go (fun _ k => XS.icmpNo X11.here hx rfl (hb hby at_130) rfl (teq hc130).2 k) ?_
    show own_Goes _ _ _ _ _ _ _ T11 (mkF m 133 #[.val (.int p0), .val (.int p1), .val (.long q2), .second, .val (.int (6 : Int32)), .val (.ref b1), .unset, .unset] [])
    refine own_go (fun _ k => XS.aload X11.here hx rfl (hb hby at_133) rfl rfl k) ?_
    show own_Goes _ _ _ _ _ _ _ T11 (mkF m 135 #[.val (.int p0), .val (.int p1), .val (.long q2), .second, .val (.int (6 : Int32)), .val (.ref b1), .unset, .unset] [(.ref b1)])
    refine own_go (fun _ k => XS.iconst X11.here hx rfl (hb hby at_135) k) ?_
    show own_Goes _ _ _ _ _ _ _ T11 (mkF m 136 #[.val (.int p0), .val (.int p1), .val (.long q2), .second, .val (.int (6 : Int32)), .val (.ref b1), .unset, .unset] [(.int (1 : Int32)), (.ref b1)])
    refine own_go (fun t k => X11.baloadBytes hx (j := (1 : Int32)) (v := (.int (nar .byte (nar .byte (own_pick p1 (1 : Int32) q2 (109 : Int32)))))) (by rw [e11]; exact V_b1_11.1) (State.isArrayOf_alike hZ.alike V_b1_11.2.1) V_b1_11.2.2 (by show ¬ ((1 : Int32) < 0 ∨ 6 ≤ Int32.toNatClampNeg (1 : Int32)); decide) (by rfl) (g := (mkF m 136 #[.val (.int p0), .val (.int p1), .val (.long q2), .second, .val (.int (6 : Int32)), .val (.ref b1), .unset, .unset] [(.int (1 : Int32)), (.ref b1)])) rfl rfl (hb hby at_136) t k) ?_
    show own_Goes _ _ _ _ _ _ _ T11 (mkF m 137 #[.val (.int p0), .val (.int p1), .val (.long q2), .second, .val (.int (6 : Int32)), .val (.ref b1), .unset, .unset] [(.int (nar .byte (nar .byte (own_pick p1 (1 : Int32) q2 (109 : Int32)))))])
    refine own_go (fun _ k => XS.bipush X11.here hx rfl (hb hby at_137) k) ?_
    show own_Goes _ _ _ _ _ _ _ T11 (mkF m 139 #[.val (.int p0), .val (.int p1), .val (.long q2), .second, .val (.int (6 : Int32)), .val (.ref b1), .unset, .unset] [(.int (109 : Int32)), (.int (nar .byte (nar .byte (own_pick p1 (1 : Int32) q2 (109 : Int32)))))])
    by_cases hc139 : (nar .byte (nar .byte (own_pick p1 (1 : Int32) q2 (109 : Int32)))) = (109 : Int32)
    · refine own_go (fun _ k => XS.icmpNo X11.here hx rfl (hb hby at_139) rfl (teq hc139).2 k) ?_
      show own_Goes _ _ _ _ _ _ _ T11 (mkF m 142 #[.val (.int p0), .val (.int p1), .val (.long q2), .second, .val (.int (6 : Int32)), .val (.ref b1), .unset, .unset] [])
      refine own_go (fun _ k => XS.aload X11.here hx rfl (hb hby at_142) rfl rfl k) ?_
      show own_Goes _ _ _ _ _ _ _ T11 (mkF m 144 #[.val (.int p0), .val (.int p1), .val (.long q2), .second, .val (.int (6 : Int32)), .val (.ref b1), .unset, .unset] [(.ref b1)])
      refine own_go (fun _ k => XS.iconst X11.here hx rfl (hb hby at_144) k) ?_
      show own_Goes _ _ _ _ _ _ _ T11 (mkF m 145 #[.val (.int p0), .val (.int p1), .val (.long q2), .second, .val (.int (6 : Int32)), .val (.ref b1), .unset, .unset] [(.int (2 : Int32)), (.ref b1)])
      refine own_go (fun t k => X11.baloadBytes hx (j := (2 : Int32)) (v := (.int (nar .byte (nar .byte (own_pick p1 (2 : Int32) q2 (105 : Int32)))))) (by rw [e11]; exact V_b1_11.1) (State.isArrayOf_alike hZ.alike V_b1_11.2.1) V_b1_11.2.2 (by show ¬ ((2 : Int32) < 0 ∨ 6 ≤ Int32.toNatClampNeg (2 : Int32)); decide) (by rfl) (g := (mkF m 145 #[.val (.int p0), .val (.int p1), .val (.long q2), .second, .val (.int (6 : Int32)), .val (.ref b1), .unset, .unset] [(.int (2 : Int32)), (.ref b1)])) rfl rfl (hb hby at_145) t k) ?_
      show own_Goes _ _ _ _ _ _ _ T11 (mkF m 146 #[.val (.int p0), .val (.int p1), .val (.long q2), .second, .val (.int (6 : Int32)), .val (.ref b1), .unset, .unset] [(.int (nar .byte (nar .byte (own_pick p1 (2 : Int32) q2 (105 : Int32)))))])
      refine own_go (fun _ k => XS.bipush X11.here hx rfl (hb hby at_146) k) ?_
      show own_Goes _ _ _ _ _ _ _ T11 (mkF m 148 #[.val (.int p0), .val (.int p1), .val (.long q2), .second, .val (.int (6 : Int32)), .val (.ref b1), .unset, .unset] [(.int (105 : Int32)), (.int (nar .byte (nar .byte (own_pick p1 (2 : Int32) q2 (105 : Int32)))))])
      by_cases hc148 : (nar .byte (nar .byte (own_pick p1 (2 : Int32) q2 (105 : Int32)))) = (105 : Int32)
      · refine own_go (fun _ k => XS.icmpNo X11.here hx rfl (hb hby at_148) rfl (teq hc148).2 k) ?_
        show own_Goes _ _ _ _ _ _ _ T11 (mkF m 151 #[.val (.int p0), .val (.int p1), .val (.long q2), .second, .val (.int (6 : Int32)), .val (.ref b1), .unset, .unset] [])
        refine own_go (fun _ k => XS.aload X11.here hx rfl (hb hby at_151) rfl rfl k) ?_
        show own_Goes _ _ _ _ _ _ _ T11 (mkF m 153 #[.val (.int p0), .val (.int p1), .val (.long q2), .second, .val (.int (6 : Int32)), .val (.ref b1), .unset, .unset] [(.ref b1)])
        refine own_go (fun _ k => XS.iconst X11.here hx rfl (hb hby at_153) k) ?_
        show own_Goes _ _ _ _ _ _ _ T11 (mkF m 154 #[.val (.int p0), .val (.int p1), .val (.long q2), .second, .val (.int (6 : Int32)), .val (.ref b1), .unset, .unset] [(.int (3 : Int32)), (.ref b1)])
        refine own_go (fun t k => X11.baloadBytes hx (j := (3 : Int32)) (v := (.int (nar .byte (nar .byte (own_pick p1 (3 : Int32) q2 (46 : Int32)))))) (by rw [e11]; exact V_b1_11.1) (State.isArrayOf_alike hZ.alike V_b1_11.2.1) V_b1_11.2.2 (by show ¬ ((3 : Int32) < 0 ∨ 6 ≤ Int32.toNatClampNeg (3 : Int32)); decide) (by rfl) (g := (mkF m 154 #[.val (.int p0), .val (.int p1), .val (.long q2), .second, .val (.int (6 : Int32)), .val (.ref b1), .unset, .unset] [(.int (3 : Int32)), (.ref b1)])) rfl rfl (hb hby at_154) t k) ?_
        show own_Goes _ _ _ _ _ _ _ T11 (mkF m 155 #[.val (.int p0), .val (.int p1), .val (.long q2), .second, .val (.int (6 : Int32)), .val (.ref b1), .unset, .unset] [(.int (nar .byte (nar .byte (own_pick p1 (3 : Int32) q2 (46 : Int32)))))])
        refine own_go (fun _ k => XS.bipush X11.here hx rfl (hb hby at_155) k) ?_
        show own_Goes _ _ _ _ _ _ _ T11 (mkF m 157 #[.val (.int p0), .val (.int p1), .val (.long q2), .second, .val (.int (6 : Int32)), .val (.ref b1), .unset, .unset] [(.int (46 : Int32)), (.int (nar .byte (nar .byte (own_pick p1 (3 : Int32) q2 (46 : Int32)))))])
        by_cases hc157 : (nar .byte (nar .byte (own_pick p1 (3 : Int32) q2 (46 : Int32)))) = (46 : Int32)
        · refine own_go (fun _ k => XS.icmpNo X11.here hx rfl (hb hby at_157) rfl (teq hc157).2 k) ?_
          show own_Goes _ _ _ _ _ _ _ T11 (mkF m 160 #[.val (.int p0), .val (.int p1), .val (.long q2), .second, .val (.int (6 : Int32)), .val (.ref b1), .unset, .unset] [])
          refine own_go (fun _ k => XS.iconst X11.here hx rfl (hb hby at_160) k) ?_
          show own_Goes _ _ _ _ _ _ _ T11 (mkF m 161 #[.val (.int p0), .val (.int p1), .val (.long q2), .second, .val (.int (6 : Int32)), .val (.ref b1), .unset, .unset] [(.int (1 : Int32))])
          refine own_go (fun _ k => XS.goto X11.here hx rfl (pc0 := 161) (pc' := 165) rfl (hb hby at_161) (by decide) (by decide) k) ?_
          show own_Goes _ _ _ _ _ _ _ T11 (mkF m 165 #[.val (.int p0), .val (.int p1), .val (.long q2), .second, .val (.int (6 : Int32)), .val (.ref b1), .unset, .unset] [(.int (1 : Int32))])
          refine own_go (fun _ k => XS.istore X11.here hx rfl (hb hby at_165) rfl (l' := #[.val (.int p0), .val (.int p1), .val (.long q2), .second, .val (.int (6 : Int32)), .val (.ref b1), .val (.int (1 : Int32)), .unset]) rfl k) ?_
          show own_Goes _ _ _ _ _ _ _ T11 (mkF m 167 #[.val (.int p0), .val (.int p1), .val (.long q2), .second, .val (.int (6 : Int32)), .val (.ref b1), .val (.int (1 : Int32)), .unset] [])
          refine own_go (fun _ k => XS.aload X11.here hx rfl (hb hby at_167) rfl rfl k) ?_
          show own_Goes _ _ _ _ _ _ _ T11 (mkF m 169 #[.val (.int p0), .val (.int p1), .val (.long q2), .second, .val (.int (6 : Int32)), .val (.ref b1), .val (.int (1 : Int32)), .unset] [(.ref b1)])
          obtain ⟨_, _, ⟨T12, L12, k12, n12⟩, -, X12, ⟨Lc12, hQ12, l12, y12, z12⟩, st12⟩ := Jvm.LawKit.callS X11 hx (y := (⟨"com/example/wire3/wire3/core/mmi/MmiService", "inNamespace", "([B)Z"⟩ : MethodName)) hown (mvT hZ (hw _ (List.mem_of_getElem? (i := 2) rfl))) (mvT hZ (hw _ (List.mem_of_getElem? (i := 3) rfl))) (mvT hZ (hw _ (List.mem_of_getElem? (i := 4) rfl))) (mvT hZ (hw _ (List.mem_of_getElem? (i := 5) rfl))) (by decide) (backOf (W := 0) (rm_nsL l Z a0 hw [] b1 aN (((((((newA k1 .byte (6 : Int32)).setSlot ((0 : Int32)).toNatClampNeg (.int (nar .byte (nar .byte (own_pick p1 (0 : Int32) q2 (109 : Int32)))))).setSlot ((1 : Int32)).toNatClampNeg (.int (nar .byte (nar .byte (own_pick p1 (1 : Int32) q2 (109 : Int32)))))).setSlot ((2 : Int32)).toNatClampNeg (.int (nar .byte (nar .byte (own_pick p1 (2 : Int32) q2 (105 : Int32)))))).setSlot ((3 : Int32)).toNatClampNeg (.int (nar .byte (nar .byte (own_pick p1 (3 : Int32) q2 (46 : Int32)))))).setSlot ((4 : Int32)).toNatClampNeg (.int (nar .byte ((((q2.toUInt64 >>> ((32 : Int32) &&& 0x3f).toInt64.toUInt64).toInt64).toInt32).toInt8.toInt32)))).setSlot ((5 : Int32)).toNatClampNeg (.int (nar .byte ((((q2.toUInt64 >>> ((40 : Int32) &&& 0x3f).toInt64.toUInt64).toInt64).toInt32).toInt8.toInt32)))) cN (6 : Int32) (nar .byte (nar .byte (own_pick p1 (0 : Int32) q2 (109 : Int32)))) (nar .byte (nar .byte (own_pick p1 (1 : Int32) q2 (109 : Int32)))) (nar .byte (nar .byte (own_pick p1 (2 : Int32) q2 (105 : Int32)))) (nar .byte (nar .byte (own_pick p1 (3 : Int32) q2 (46 : Int32)))) h11 n0 Zs11 Od11 V_b1_11 rfl (by decide) (by decide) rfl rfl rfl rfl AN SN eN_0 eN_1 eN_2 eN_3 SS) hZ (hw _ (List.mem_of_getElem? (i := 5) rfl)) (hw _ (List.mem_of_getElem? (i := 4) rfl)) (by decide) (by decide)) (g := (mkF m 169 #[.val (.int p0), .val (.int p1), .val (.long q2), .second, .val (.int (6 : Int32)), .val (.ref b1), .val (.int (1 : Int32)), .unset] [(.ref b1)])) rfl (by rw [hml]; rfl) (argsL := [(.ref b1)]) (rest := []) (lenOf pd_3 rfl) rfl (by show 2 * 0 + _ ≤ _; exact Nat.le_of_eq rfl) (hb hby at_169) (fun _ _ => ⟨rfl, e11, (by decide : 0 + 1 + 0 + 0 + 0 + 0 + 0 ≤ _), (by decide : 0 + 6 + 0 + 0 + 0 + 0 + 0 ≤ _)⟩)
          dsimp only [Pt.U, Pt.locs, Pt.cells, Pt.slots] at X12 l12 y12 z12 st12 hQ12
          subst l12 y12 z12
          obtain ⟨rfl, N12q, e12⟩ := hQ12
          have N12 := Fr.app N11 N12q
          refine own_go st12 ?_
          show own_Goes _ _ _ _ _ _ _ T12 (mkF m 172 #[.val (.int p0), .val (.int p1), .val (.long q2), .second, .val (.int (6 : Int32)), .val (.ref b1), .val (.int (1 : Int32)), .unset] [(.int (own_eq (nar .byte (nar .byte (own_pick p1 (0 : Int32) q2 (109 : Int32)))) (nar .byte (nar .byte (own_pick p1 (1 : Int32) q2 (109 : Int32)))) (nar .byte (nar .byte (own_pick p1 (2 : Int32) q2 (105 : Int32)))) (nar .byte (nar .byte (own_pick p1 (3 : Int32) q2 (46 : Int32))))))])
          refine own_go (fun _ k => XS.istore X12.here hx rfl (hb hby at_172) rfl (l' := #[.val (.int p0), .val (.int p1), .val (.long q2), .second, .val (.int (6 : Int32)), .val (.ref b1), .val (.int (1 : Int32)), .val (.int (own_eq (nar .byte (nar .byte (own_pick p1 (0 : Int32) q2 (109 : Int32)))) (nar .byte (nar .byte (own_pick p1 (1 : Int32) q2 (109 : Int32)))) (nar .byte (nar .byte (own_pick p1 (2 : Int32) q2 (105 : Int32)))) (nar .byte (nar .byte (own_pick p1 (3 : Int32) q2 (46 : Int32))))))]) rfl k) ?_
          show own_Goes _ _ _ _ _ _ _ T12 (mkF m 174 #[.val (.int p0), .val (.int p1), .val (.long q2), .second, .val (.int (6 : Int32)), .val (.ref b1), .val (.int (1 : Int32)), .val (.int (own_eq (nar .byte (nar .byte (own_pick p1 (0 : Int32) q2 (109 : Int32)))) (nar .byte (nar .byte (own_pick p1 (1 : Int32) q2 (109 : Int32)))) (nar .byte (nar .byte (own_pick p1 (2 : Int32) q2 (105 : Int32)))) (nar .byte (nar .byte (own_pick p1 (3 : Int32) q2 (46 : Int32))))))] [])
          refine own_go (fun _ k => XS.iload X12.here hx rfl (hb hby at_174) rfl k) ?_
          show own_Goes _ _ _ _ _ _ _ T12 (mkF m 176 #[.val (.int p0), .val (.int p1), .val (.long q2), .second, .val (.int (6 : Int32)), .val (.ref b1), .val (.int (1 : Int32)), .val (.int (own_eq (nar .byte (nar .byte (own_pick p1 (0 : Int32) q2 (109 : Int32)))) (nar .byte (nar .byte (own_pick p1 (1 : Int32) q2 (109 : Int32)))) (nar .byte (nar .byte (own_pick p1 (2 : Int32) q2 (105 : Int32)))) (nar .byte (nar .byte (own_pick p1 (3 : Int32) q2 (46 : Int32))))))] [(.int (own_eq (nar .byte (nar .byte (own_pick p1 (0 : Int32) q2 (109 : Int32)))) (nar .byte (nar .byte (own_pick p1 (1 : Int32) q2 (109 : Int32)))) (nar .byte (nar .byte (own_pick p1 (2 : Int32) q2 (105 : Int32)))) (nar .byte (nar .byte (own_pick p1 (3 : Int32) q2 (46 : Int32))))))])
          refine own_go (fun _ k => XS.iload X12.here hx rfl (hb hby at_176) rfl k) ?_
          show own_Goes _ _ _ _ _ _ _ T12 (mkF m 178 #[.val (.int p0), .val (.int p1), .val (.long q2), .second, .val (.int (6 : Int32)), .val (.ref b1), .val (.int (1 : Int32)), .val (.int (own_eq (nar .byte (nar .byte (own_pick p1 (0 : Int32) q2 (109 : Int32)))) (nar .byte (nar .byte (own_pick p1 (1 : Int32) q2 (109 : Int32)))) (nar .byte (nar .byte (own_pick p1 (2 : Int32) q2 (105 : Int32)))) (nar .byte (nar .byte (own_pick p1 (3 : Int32) q2 (46 : Int32))))))] [(.int (1 : Int32)), (.int (own_eq (nar .byte (nar .byte (own_pick p1 (0 : Int32) q2 (109 : Int32)))) (nar .byte (nar .byte (own_pick p1 (1 : Int32) q2 (109 : Int32)))) (nar .byte (nar .byte (own_pick p1 (2 : Int32) q2 (105 : Int32)))) (nar .byte (nar .byte (own_pick p1 (3 : Int32) q2 (46 : Int32))))))])
          refine own_go (fun _ k => XS.icmpNo X12.here hx rfl (hb hby at_178) rfl (teq (by rw [own_eq, if_pos hc130, if_pos hc139, if_pos hc148, if_pos hc157] : (own_eq (nar .byte (nar .byte (own_pick p1 (0 : Int32) q2 (109 : Int32)))) (nar .byte (nar .byte (own_pick p1 (1 : Int32) q2 (109 : Int32)))) (nar .byte (nar .byte (own_pick p1 (2 : Int32) q2 (105 : Int32)))) (nar .byte (nar .byte (own_pick p1 (3 : Int32) q2 (46 : Int32))))) = (1 : Int32))).2 k) ?_
          show own_Goes _ _ _ _ _ _ _ T12 (mkF m 181 #[.val (.int p0), .val (.int p1), .val (.long q2), .second, .val (.int (6 : Int32)), .val (.ref b1), .val (.int (1 : Int32)), .val (.int (own_eq (nar .byte (nar .byte (own_pick p1 (0 : Int32) q2 (109 : Int32)))) (nar .byte (nar .byte (own_pick p1 (1 : Int32) q2 (109 : Int32)))) (nar .byte (nar .byte (own_pick p1 (2 : Int32) q2 (105 : Int32)))) (nar .byte (nar .byte (own_pick p1 (3 : Int32) q2 (46 : Int32))))))] [])
          refine own_go (fun _ k => XS.iconst X12.here hx rfl (hb hby at_181) k) ?_
          show own_Goes _ _ _ _ _ _ _ T12 (mkF m 182 #[.val (.int p0), .val (.int p1), .val (.long q2), .second, .val (.int (6 : Int32)), .val (.ref b1), .val (.int (1 : Int32)), .val (.int (own_eq (nar .byte (nar .byte (own_pick p1 (0 : Int32) q2 (109 : Int32)))) (nar .byte (nar .byte (own_pick p1 (1 : Int32) q2 (109 : Int32)))) (nar .byte (nar .byte (own_pick p1 (2 : Int32) q2 (105 : Int32)))) (nar .byte (nar .byte (own_pick p1 (3 : Int32) q2 (46 : Int32))))))] [(.int (1 : Int32))])
          refine own_go (fun _ k => XS.goto X12.here hx rfl (pc0 := 182) (pc' := 186) rfl (hb hby at_182) (by decide) (by decide) k) ?_
          show own_Goes _ _ _ _ _ _ _ T12 (mkF m 186 #[.val (.int p0), .val (.int p1), .val (.long q2), .second, .val (.int (6 : Int32)), .val (.ref b1), .val (.int (1 : Int32)), .val (.int (own_eq (nar .byte (nar .byte (own_pick p1 (0 : Int32) q2 (109 : Int32)))) (nar .byte (nar .byte (own_pick p1 (1 : Int32) q2 (109 : Int32)))) (nar .byte (nar .byte (own_pick p1 (2 : Int32) q2 (105 : Int32)))) (nar .byte (nar .byte (own_pick p1 (3 : Int32) q2 (46 : Int32))))))] [(.int (1 : Int32))])
          exact own_retN X12 hx (t := .boolean) hlk hret (by simp) (hb hby at_186) (by decide) (by decide) ⟨rfl, N12⟩
        · refine own_go (fun _ k => XS.icmpYes X11.here hx rfl (pc0 := 157) (pc' := 164) rfl (hb hby at_157) rfl (feq hc157).2 (by decide) (by decide) k) ?_
          show own_Goes _ _ _ _ _ _ _ T11 (mkF m 164 #[.val (.int p0), .val (.int p1), .val (.long q2), .second, .val (.int (6 : Int32)), .val (.ref b1), .unset, .unset] [])
          refine own_go (fun _ k => XS.iconst X11.here hx rfl (hb hby at_164) k) ?_
          show own_Goes _ _ _ _ _ _ _ T11 (mkF m 165 #[.val (.int p0), .val (.int p1), .val (.long q2), .second, .val (.int (6 : Int32)), .val (.ref b1), .unset, .unset] [(.int (0 : Int32))])
          refine own_go (fun _ k => XS.istore X11.here hx rfl (hb hby at_165) rfl (l' := #[.val (.int p0), .val (.int p1), .val (.long q2), .second, .val (.int (6 : Int32)), .val (.ref b1), .val (.int (0 : Int32)), .unset]) rfl k) ?_
          show own_Goes _ _ _ _ _ _ _ T11 (mkF m 167 #[.val (.int p0), .val (.int p1), .val (.long q2), .second, .val (.int (6 : Int32)), .val (.ref b1), .val (.int (0 : Int32)), .unset] [])
          refine own_go (fun _ k => XS.aload X11.here hx rfl (hb hby at_167) rfl rfl k) ?_
          show own_Goes _ _ _ _ _ _ _ T11 (mkF m 169 #[.val (.int p0), .val (.int p1), .val (.long q2), .second, .val (.int (6 : Int32)), .val (.ref b1), .val (.int (0 : Int32)), .unset] [(.ref b1)])
          obtain ⟨_, _, ⟨T13, L13, k13, n13⟩, -, X13, ⟨Lc13, hQ13, l13, y13, z13⟩, st13⟩ := Jvm.LawKit.callS X11 hx (y := (⟨"com/example/wire3/wire3/core/mmi/MmiService", "inNamespace", "([B)Z"⟩ : MethodName)) hown (mvT hZ (hw _ (List.mem_of_getElem? (i := 2) rfl))) (mvT hZ (hw _ (List.mem_of_getElem? (i := 3) rfl))) (mvT hZ (hw _ (List.mem_of_getElem? (i := 4) rfl))) (mvT hZ (hw _ (List.mem_of_getElem? (i := 5) rfl))) (by decide) (backOf (W := 0) (rm_nsL l Z a0 hw [] b1 aN (((((((newA k1 .byte (6 : Int32)).setSlot ((0 : Int32)).toNatClampNeg (.int (nar .byte (nar .byte (own_pick p1 (0 : Int32) q2 (109 : Int32)))))).setSlot ((1 : Int32)).toNatClampNeg (.int (nar .byte (nar .byte (own_pick p1 (1 : Int32) q2 (109 : Int32)))))).setSlot ((2 : Int32)).toNatClampNeg (.int (nar .byte (nar .byte (own_pick p1 (2 : Int32) q2 (105 : Int32)))))).setSlot ((3 : Int32)).toNatClampNeg (.int (nar .byte (nar .byte (own_pick p1 (3 : Int32) q2 (46 : Int32)))))).setSlot ((4 : Int32)).toNatClampNeg (.int (nar .byte ((((q2.toUInt64 >>> ((32 : Int32) &&& 0x3f).toInt64.toUInt64).toInt64).toInt32).toInt8.toInt32)))).setSlot ((5 : Int32)).toNatClampNeg (.int (nar .byte ((((q2.toUInt64 >>> ((40 : Int32) &&& 0x3f).toInt64.toUInt64).toInt64).toInt32).toInt8.toInt32)))) cN (6 : Int32) (nar .byte (nar .byte (own_pick p1 (0 : Int32) q2 (109 : Int32)))) (nar .byte (nar .byte (own_pick p1 (1 : Int32) q2 (109 : Int32)))) (nar .byte (nar .byte (own_pick p1 (2 : Int32) q2 (105 : Int32)))) (nar .byte (nar .byte (own_pick p1 (3 : Int32) q2 (46 : Int32)))) h11 n0 Zs11 Od11 V_b1_11 rfl (by decide) (by decide) rfl rfl rfl rfl AN SN eN_0 eN_1 eN_2 eN_3 SS) hZ (hw _ (List.mem_of_getElem? (i := 5) rfl)) (hw _ (List.mem_of_getElem? (i := 4) rfl)) (by decide) (by decide)) (g := (mkF m 169 #[.val (.int p0), .val (.int p1), .val (.long q2), .second, .val (.int (6 : Int32)), .val (.ref b1), .val (.int (0 : Int32)), .unset] [(.ref b1)])) rfl (by rw [hml]; rfl) (argsL := [(.ref b1)]) (rest := []) (lenOf pd_3 rfl) rfl (by show 2 * 0 + _ ≤ _; exact Nat.le_of_eq rfl) (hb hby at_169) (fun _ _ => ⟨rfl, e11, (by decide : 0 + 1 + 0 + 0 + 0 + 0 + 0 ≤ _), (by decide : 0 + 6 + 0 + 0 + 0 + 0 + 0 ≤ _)⟩)
          dsimp only [Pt.U, Pt.locs, Pt.cells, Pt.slots] at X13 l13 y13 z13 st13 hQ13
          subst l13 y13 z13
          obtain ⟨rfl, N13q, e13⟩ := hQ13
          have N13 := Fr.app N11 N13q
          refine own_go st13 ?_
          show own_Goes _ _ _ _ _ _ _ T13 (mkF m 172 #[.val (.int p0), .val (.int p1), .val (.long q2), .second, .val (.int (6 : Int32)), .val (.ref b1), .val (.int (0 : Int32)), .unset] [(.int (own_eq (nar .byte (nar .byte (own_pick p1 (0 : Int32) q2 (109 : Int32)))) (nar .byte (nar .byte (own_pick p1 (1 : Int32) q2 (109 : Int32)))) (nar .byte (nar .byte (own_pick p1 (2 : Int32) q2 (105 : Int32)))) (nar .byte (nar .byte (own_pick p1 (3 : Int32) q2 (46 : Int32))))))])
          refine own_go (fun _ k => XS.istore X13.here hx rfl (hb hby at_172) rfl (l' := #[.val (.int p0), .val (.int p1), .val (.long q2), .second, .val (.int (6 : Int32)), .val (.ref b1), .val (.int (0 : Int32)), .val (.int (own_eq (nar .byte (nar .byte (own_pick p1 (0 : Int32) q2 (109 : Int32)))) (nar .byte (nar .byte (own_pick p1 (1 : Int32) q2 (109 : Int32)))) (nar .byte (nar .byte (own_pick p1 (2 : Int32) q2 (105 : Int32)))) (nar .byte (nar .byte (own_pick p1 (3 : Int32) q2 (46 : Int32))))))]) rfl k) ?_
          show own_Goes _ _ _ _ _ _ _ T13 (mkF m 174 #[.val (.int p0), .val (.int p1), .val (.long q2), .second, .val (.int (6 : Int32)), .val (.ref b1), .val (.int (0 : Int32)), .val (.int (own_eq (nar .byte (nar .byte (own_pick p1 (0 : Int32) q2 (109 : Int32)))) (nar .byte (nar .byte (own_pick p1 (1 : Int32) q2 (109 : Int32)))) (nar .byte (nar .byte (own_pick p1 (2 : Int32) q2 (105 : Int32)))) (nar .byte (nar .byte (own_pick p1 (3 : Int32) q2 (46 : Int32))))))] [])
          refine own_go (fun _ k => XS.iload X13.here hx rfl (hb hby at_174) rfl k) ?_
          show own_Goes _ _ _ _ _ _ _ T13 (mkF m 176 #[.val (.int p0), .val (.int p1), .val (.long q2), .second, .val (.int (6 : Int32)), .val (.ref b1), .val (.int (0 : Int32)), .val (.int (own_eq (nar .byte (nar .byte (own_pick p1 (0 : Int32) q2 (109 : Int32)))) (nar .byte (nar .byte (own_pick p1 (1 : Int32) q2 (109 : Int32)))) (nar .byte (nar .byte (own_pick p1 (2 : Int32) q2 (105 : Int32)))) (nar .byte (nar .byte (own_pick p1 (3 : Int32) q2 (46 : Int32))))))] [(.int (own_eq (nar .byte (nar .byte (own_pick p1 (0 : Int32) q2 (109 : Int32)))) (nar .byte (nar .byte (own_pick p1 (1 : Int32) q2 (109 : Int32)))) (nar .byte (nar .byte (own_pick p1 (2 : Int32) q2 (105 : Int32)))) (nar .byte (nar .byte (own_pick p1 (3 : Int32) q2 (46 : Int32))))))])
          refine own_go (fun _ k => XS.iload X13.here hx rfl (hb hby at_176) rfl k) ?_
          show own_Goes _ _ _ _ _ _ _ T13 (mkF m 178 #[.val (.int p0), .val (.int p1), .val (.long q2), .second, .val (.int (6 : Int32)), .val (.ref b1), .val (.int (0 : Int32)), .val (.int (own_eq (nar .byte (nar .byte (own_pick p1 (0 : Int32) q2 (109 : Int32)))) (nar .byte (nar .byte (own_pick p1 (1 : Int32) q2 (109 : Int32)))) (nar .byte (nar .byte (own_pick p1 (2 : Int32) q2 (105 : Int32)))) (nar .byte (nar .byte (own_pick p1 (3 : Int32) q2 (46 : Int32))))))] [(.int (0 : Int32)), (.int (own_eq (nar .byte (nar .byte (own_pick p1 (0 : Int32) q2 (109 : Int32)))) (nar .byte (nar .byte (own_pick p1 (1 : Int32) q2 (109 : Int32)))) (nar .byte (nar .byte (own_pick p1 (2 : Int32) q2 (105 : Int32)))) (nar .byte (nar .byte (own_pick p1 (3 : Int32) q2 (46 : Int32))))))])
          refine own_go (fun _ k => XS.icmpNo X13.here hx rfl (hb hby at_178) rfl (teq (by rw [own_eq, if_pos hc130, if_pos hc139, if_pos hc148, if_neg hc157] : (own_eq (nar .byte (nar .byte (own_pick p1 (0 : Int32) q2 (109 : Int32)))) (nar .byte (nar .byte (own_pick p1 (1 : Int32) q2 (109 : Int32)))) (nar .byte (nar .byte (own_pick p1 (2 : Int32) q2 (105 : Int32)))) (nar .byte (nar .byte (own_pick p1 (3 : Int32) q2 (46 : Int32))))) = (0 : Int32))).2 k) ?_
          show own_Goes _ _ _ _ _ _ _ T13 (mkF m 181 #[.val (.int p0), .val (.int p1), .val (.long q2), .second, .val (.int (6 : Int32)), .val (.ref b1), .val (.int (0 : Int32)), .val (.int (own_eq (nar .byte (nar .byte (own_pick p1 (0 : Int32) q2 (109 : Int32)))) (nar .byte (nar .byte (own_pick p1 (1 : Int32) q2 (109 : Int32)))) (nar .byte (nar .byte (own_pick p1 (2 : Int32) q2 (105 : Int32)))) (nar .byte (nar .byte (own_pick p1 (3 : Int32) q2 (46 : Int32))))))] [])
          refine own_go (fun _ k => XS.iconst X13.here hx rfl (hb hby at_181) k) ?_
          show own_Goes _ _ _ _ _ _ _ T13 (mkF m 182 #[.val (.int p0), .val (.int p1), .val (.long q2), .second, .val (.int (6 : Int32)), .val (.ref b1), .val (.int (0 : Int32)), .val (.int (own_eq (nar .byte (nar .byte (own_pick p1 (0 : Int32) q2 (109 : Int32)))) (nar .byte (nar .byte (own_pick p1 (1 : Int32) q2 (109 : Int32)))) (nar .byte (nar .byte (own_pick p1 (2 : Int32) q2 (105 : Int32)))) (nar .byte (nar .byte (own_pick p1 (3 : Int32) q2 (46 : Int32))))))] [(.int (1 : Int32))])
          refine own_go (fun _ k => XS.goto X13.here hx rfl (pc0 := 182) (pc' := 186) rfl (hb hby at_182) (by decide) (by decide) k) ?_
          show own_Goes _ _ _ _ _ _ _ T13 (mkF m 186 #[.val (.int p0), .val (.int p1), .val (.long q2), .second, .val (.int (6 : Int32)), .val (.ref b1), .val (.int (0 : Int32)), .val (.int (own_eq (nar .byte (nar .byte (own_pick p1 (0 : Int32) q2 (109 : Int32)))) (nar .byte (nar .byte (own_pick p1 (1 : Int32) q2 (109 : Int32)))) (nar .byte (nar .byte (own_pick p1 (2 : Int32) q2 (105 : Int32)))) (nar .byte (nar .byte (own_pick p1 (3 : Int32) q2 (46 : Int32))))))] [(.int (1 : Int32))])
          exact own_retN X13 hx (t := .boolean) hlk hret (by simp) (hb hby at_186) (by decide) (by decide) ⟨rfl, N13⟩
      · refine own_go (fun _ k => XS.icmpYes X11.here hx rfl (pc0 := 148) (pc' := 164) rfl (hb hby at_148) rfl (feq hc148).2 (by decide) (by decide) k) ?_
        show own_Goes _ _ _ _ _ _ _ T11 (mkF m 164 #[.val (.int p0), .val (.int p1), .val (.long q2), .second, .val (.int (6 : Int32)), .val (.ref b1), .unset, .unset] [])
        refine own_go (fun _ k => XS.iconst X11.here hx rfl (hb hby at_164) k) ?_
        show own_Goes _ _ _ _ _ _ _ T11 (mkF m 165 #[.val (.int p0), .val (.int p1), .val (.long q2), .second, .val (.int (6 : Int32)), .val (.ref b1), .unset, .unset] [(.int (0 : Int32))])
        refine own_go (fun _ k => XS.istore X11.here hx rfl (hb hby at_165) rfl (l' := #[.val (.int p0), .val (.int p1), .val (.long q2), .second, .val (.int (6 : Int32)), .val (.ref b1), .val (.int (0 : Int32)), .unset]) rfl k) ?_
        show own_Goes _ _ _ _ _ _ _ T11 (mkF m 167 #[.val (.int p0), .val (.int p1), .val (.long q2), .second, .val (.int (6 : Int32)), .val (.ref b1), .val (.int (0 : Int32)), .unset] [])
        refine own_go (fun _ k => XS.aload X11.here hx rfl (hb hby at_167) rfl rfl k) ?_
        show own_Goes _ _ _ _ _ _ _ T11 (mkF m 169 #[.val (.int p0), .val (.int p1), .val (.long q2), .second, .val (.int (6 : Int32)), .val (.ref b1), .val (.int (0 : Int32)), .unset] [(.ref b1)])
        obtain ⟨_, _, ⟨T14, L14, k14, n14⟩, -, X14, ⟨Lc14, hQ14, l14, y14, z14⟩, st14⟩ := Jvm.LawKit.callS X11 hx (y := (⟨"com/example/wire3/wire3/core/mmi/MmiService", "inNamespace", "([B)Z"⟩ : MethodName)) hown (mvT hZ (hw _ (List.mem_of_getElem? (i := 2) rfl))) (mvT hZ (hw _ (List.mem_of_getElem? (i := 3) rfl))) (mvT hZ (hw _ (List.mem_of_getElem? (i := 4) rfl))) (mvT hZ (hw _ (List.mem_of_getElem? (i := 5) rfl))) (by decide) (backOf (W := 0) (rm_nsL l Z a0 hw [] b1 aN (((((((newA k1 .byte (6 : Int32)).setSlot ((0 : Int32)).toNatClampNeg (.int (nar .byte (nar .byte (own_pick p1 (0 : Int32) q2 (109 : Int32)))))).setSlot ((1 : Int32)).toNatClampNeg (.int (nar .byte (nar .byte (own_pick p1 (1 : Int32) q2 (109 : Int32)))))).setSlot ((2 : Int32)).toNatClampNeg (.int (nar .byte (nar .byte (own_pick p1 (2 : Int32) q2 (105 : Int32)))))).setSlot ((3 : Int32)).toNatClampNeg (.int (nar .byte (nar .byte (own_pick p1 (3 : Int32) q2 (46 : Int32)))))).setSlot ((4 : Int32)).toNatClampNeg (.int (nar .byte ((((q2.toUInt64 >>> ((32 : Int32) &&& 0x3f).toInt64.toUInt64).toInt64).toInt32).toInt8.toInt32)))).setSlot ((5 : Int32)).toNatClampNeg (.int (nar .byte ((((q2.toUInt64 >>> ((40 : Int32) &&& 0x3f).toInt64.toUInt64).toInt64).toInt32).toInt8.toInt32)))) cN (6 : Int32) (nar .byte (nar .byte (own_pick p1 (0 : Int32) q2 (109 : Int32)))) (nar .byte (nar .byte (own_pick p1 (1 : Int32) q2 (109 : Int32)))) (nar .byte (nar .byte (own_pick p1 (2 : Int32) q2 (105 : Int32)))) (nar .byte (nar .byte (own_pick p1 (3 : Int32) q2 (46 : Int32)))) h11 n0 Zs11 Od11 V_b1_11 rfl (by decide) (by decide) rfl rfl rfl rfl AN SN eN_0 eN_1 eN_2 eN_3 SS) hZ (hw _ (List.mem_of_getElem? (i := 5) rfl)) (hw _ (List.mem_of_getElem? (i := 4) rfl)) (by decide) (by decide)) (g := (mkF m 169 #[.val (.int p0), .val (.int p1), .val (.long q2), .second, .val (.int (6 : Int32)), .val (.ref b1), .val (.int (0 : Int32)), .unset] [(.ref b1)])) rfl (by rw [hml]; rfl) (argsL := [(.ref b1)]) (rest := []) (lenOf pd_3 rfl) rfl (by show 2 * 0 + _ ≤ _; exact Nat.le_of_eq rfl) (hb hby at_169) (fun _ _ => ⟨rfl, e11, (by decide : 0 + 1 + 0 + 0 + 0 + 0 + 0 ≤ _), (by decide : 0 + 6 + 0 + 0 + 0 + 0 + 0 ≤ _)⟩)
        dsimp only [Pt.U, Pt.locs, Pt.cells, Pt.slots] at X14 l14 y14 z14 st14 hQ14
        subst l14 y14 z14
        obtain ⟨rfl, N14q, e14⟩ := hQ14
        have N14 := Fr.app N11 N14q
        refine own_go st14 ?_
        show own_Goes _ _ _ _ _ _ _ T14 (mkF m 172 #[.val (.int p0), .val (.int p1), .val (.long q2), .second, .val (.int (6 : Int32)), .val (.ref b1), .val (.int (0 : Int32)), .unset] [(.int (own_eq (nar .byte (nar .byte (own_pick p1 (0 : Int32) q2 (109 : Int32)))) (nar .byte (nar .byte (own_pick p1 (1 : Int32) q2 (109 : Int32)))) (nar .byte (nar .byte (own_pick p1 (2 : Int32) q2 (105 : Int32)))) (nar .byte (nar .byte (own_pick p1 (3 : Int32) q2 (46 : Int32))))))])
        refine own_go (fun _ k => XS.istore X14.here hx rfl (hb hby at_172) rfl (l' := #[.val (.int p0), .val (.int p1), .val (.long q2), .second, .val (.int (6 : Int32)), .val (.ref b1), .val (.int (0 : Int32)), .val (.int (own_eq (nar .byte (nar .byte (own_pick p1 (0 : Int32) q2 (109 : Int32)))) (nar .byte (nar .byte (own_pick p1 (1 : Int32) q2 (109 : Int32)))) (nar .byte (nar .byte (own_pick p1 (2 : Int32) q2 (105 : Int32)))) (nar .byte (nar .byte (own_pick p1 (3 : Int32) q2 (46 : Int32))))))]) rfl k) ?_
        show own_Goes _ _ _ _ _ _ _ T14 (mkF m 174 #[.val (.int p0), .val (.int p1), .val (.long q2), .second, .val (.int (6 : Int32)), .val (.ref b1), .val (.int (0 : Int32)), .val (.int (own_eq (nar .byte (nar .byte (own_pick p1 (0 : Int32) q2 (109 : Int32)))) (nar .byte (nar .byte (own_pick p1 (1 : Int32) q2 (109 : Int32)))) (nar .byte (nar .byte (own_pick p1 (2 : Int32) q2 (105 : Int32)))) (nar .byte (nar .byte (own_pick p1 (3 : Int32) q2 (46 : Int32))))))] [])
        refine own_go (fun _ k => XS.iload X14.here hx rfl (hb hby at_174) rfl k) ?_
        show own_Goes _ _ _ _ _ _ _ T14 (mkF m 176 #[.val (.int p0), .val (.int p1), .val (.long q2), .second, .val (.int (6 : Int32)), .val (.ref b1), .val (.int (0 : Int32)), .val (.int (own_eq (nar .byte (nar .byte (own_pick p1 (0 : Int32) q2 (109 : Int32)))) (nar .byte (nar .byte (own_pick p1 (1 : Int32) q2 (109 : Int32)))) (nar .byte (nar .byte (own_pick p1 (2 : Int32) q2 (105 : Int32)))) (nar .byte (nar .byte (own_pick p1 (3 : Int32) q2 (46 : Int32))))))] [(.int (own_eq (nar .byte (nar .byte (own_pick p1 (0 : Int32) q2 (109 : Int32)))) (nar .byte (nar .byte (own_pick p1 (1 : Int32) q2 (109 : Int32)))) (nar .byte (nar .byte (own_pick p1 (2 : Int32) q2 (105 : Int32)))) (nar .byte (nar .byte (own_pick p1 (3 : Int32) q2 (46 : Int32))))))])
        refine own_go (fun _ k => XS.iload X14.here hx rfl (hb hby at_176) rfl k) ?_
        show own_Goes _ _ _ _ _ _ _ T14 (mkF m 178 #[.val (.int p0), .val (.int p1), .val (.long q2), .second, .val (.int (6 : Int32)), .val (.ref b1), .val (.int (0 : Int32)), .val (.int (own_eq (nar .byte (nar .byte (own_pick p1 (0 : Int32) q2 (109 : Int32)))) (nar .byte (nar .byte (own_pick p1 (1 : Int32) q2 (109 : Int32)))) (nar .byte (nar .byte (own_pick p1 (2 : Int32) q2 (105 : Int32)))) (nar .byte (nar .byte (own_pick p1 (3 : Int32) q2 (46 : Int32))))))] [(.int (0 : Int32)), (.int (own_eq (nar .byte (nar .byte (own_pick p1 (0 : Int32) q2 (109 : Int32)))) (nar .byte (nar .byte (own_pick p1 (1 : Int32) q2 (109 : Int32)))) (nar .byte (nar .byte (own_pick p1 (2 : Int32) q2 (105 : Int32)))) (nar .byte (nar .byte (own_pick p1 (3 : Int32) q2 (46 : Int32))))))])
        refine own_go (fun _ k => XS.icmpNo X14.here hx rfl (hb hby at_178) rfl (teq (by rw [own_eq, if_pos hc130, if_pos hc139, if_neg hc148] : (own_eq (nar .byte (nar .byte (own_pick p1 (0 : Int32) q2 (109 : Int32)))) (nar .byte (nar .byte (own_pick p1 (1 : Int32) q2 (109 : Int32)))) (nar .byte (nar .byte (own_pick p1 (2 : Int32) q2 (105 : Int32)))) (nar .byte (nar .byte (own_pick p1 (3 : Int32) q2 (46 : Int32))))) = (0 : Int32))).2 k) ?_
        show own_Goes _ _ _ _ _ _ _ T14 (mkF m 181 #[.val (.int p0), .val (.int p1), .val (.long q2), .second, .val (.int (6 : Int32)), .val (.ref b1), .val (.int (0 : Int32)), .val (.int (own_eq (nar .byte (nar .byte (own_pick p1 (0 : Int32) q2 (109 : Int32)))) (nar .byte (nar .byte (own_pick p1 (1 : Int32) q2 (109 : Int32)))) (nar .byte (nar .byte (own_pick p1 (2 : Int32) q2 (105 : Int32)))) (nar .byte (nar .byte (own_pick p1 (3 : Int32) q2 (46 : Int32))))))] [])
        refine own_go (fun _ k => XS.iconst X14.here hx rfl (hb hby at_181) k) ?_
        show own_Goes _ _ _ _ _ _ _ T14 (mkF m 182 #[.val (.int p0), .val (.int p1), .val (.long q2), .second, .val (.int (6 : Int32)), .val (.ref b1), .val (.int (0 : Int32)), .val (.int (own_eq (nar .byte (nar .byte (own_pick p1 (0 : Int32) q2 (109 : Int32)))) (nar .byte (nar .byte (own_pick p1 (1 : Int32) q2 (109 : Int32)))) (nar .byte (nar .byte (own_pick p1 (2 : Int32) q2 (105 : Int32)))) (nar .byte (nar .byte (own_pick p1 (3 : Int32) q2 (46 : Int32))))))] [(.int (1 : Int32))])
        refine own_go (fun _ k => XS.goto X14.here hx rfl (pc0 := 182) (pc' := 186) rfl (hb hby at_182) (by decide) (by decide) k) ?_
        show own_Goes _ _ _ _ _ _ _ T14 (mkF m 186 #[.val (.int p0), .val (.int p1), .val (.long q2), .second, .val (.int (6 : Int32)), .val (.ref b1), .val (.int (0 : Int32)), .val (.int (own_eq (nar .byte (nar .byte (own_pick p1 (0 : Int32) q2 (109 : Int32)))) (nar .byte (nar .byte (own_pick p1 (1 : Int32) q2 (109 : Int32)))) (nar .byte (nar .byte (own_pick p1 (2 : Int32) q2 (105 : Int32)))) (nar .byte (nar .byte (own_pick p1 (3 : Int32) q2 (46 : Int32))))))] [(.int (1 : Int32))])
        exact own_retN X14 hx (t := .boolean) hlk hret (by simp) (hb hby at_186) (by decide) (by decide) ⟨rfl, N14⟩
    · refine own_go (fun _ k => XS.icmpYes X11.here hx rfl (pc0 := 139) (pc' := 164) rfl (hb hby at_139) rfl (feq hc139).2 (by decide) (by decide) k) ?_
      show own_Goes _ _ _ _ _ _ _ T11 (mkF m 164 #[.val (.int p0), .val (.int p1), .val (.long q2), .second, .val (.int (6 : Int32)), .val (.ref b1), .unset, .unset] [])
      refine own_go (fun _ k => XS.iconst X11.here hx rfl (hb hby at_164) k) ?_
      show own_Goes _ _ _ _ _ _ _ T11 (mkF m 165 #[.val (.int p0), .val (.int p1), .val (.long q2), .second, .val (.int (6 : Int32)), .val (.ref b1), .unset, .unset] [(.int (0 : Int32))])
      refine own_go (fun _ k => XS.istore X11.here hx rfl (hb hby at_165) rfl (l' := #[.val (.int p0), .val (.int p1), .val (.long q2), .second, .val (.int (6 : Int32)), .val (.ref b1), .val (.int (0 : Int32)), .unset]) rfl k) ?_
      show own_Goes _ _ _ _ _ _ _ T11 (mkF m 167 #[.val (.int p0), .val (.int p1), .val (.long q2), .second, .val (.int (6 : Int32)), .val (.ref b1), .val (.int (0 : Int32)), .unset] [])
      refine own_go (fun _ k => XS.aload X11.here hx rfl (hb hby at_167) rfl rfl k) ?_
      show own_Goes _ _ _ _ _ _ _ T11 (mkF m 169 #[.val (.int p0), .val (.int p1), .val (.long q2), .second, .val (.int (6 : Int32)), .val (.ref b1), .val (.int (0 : Int32)), .unset] [(.ref b1)])
      obtain ⟨_, _, ⟨T15, L15, k15, n15⟩, -, X15, ⟨Lc15, hQ15, l15, y15, z15⟩, st15⟩ := Jvm.LawKit.callS X11 hx (y := (⟨"com/example/wire3/wire3/core/mmi/MmiService", "inNamespace", "([B)Z"⟩ : MethodName)) hown (mvT hZ (hw _ (List.mem_of_getElem? (i := 2) rfl))) (mvT hZ (hw _ (List.mem_of_getElem? (i := 3) rfl))) (mvT hZ (hw _ (List.mem_of_getElem? (i := 4) rfl))) (mvT hZ (hw _ (List.mem_of_getElem? (i := 5) rfl))) (by decide) (backOf (W := 0) (rm_nsL l Z a0 hw [] b1 aN (((((((newA k1 .byte (6 : Int32)).setSlot ((0 : Int32)).toNatClampNeg (.int (nar .byte (nar .byte (own_pick p1 (0 : Int32) q2 (109 : Int32)))))).setSlot ((1 : Int32)).toNatClampNeg (.int (nar .byte (nar .byte (own_pick p1 (1 : Int32) q2 (109 : Int32)))))).setSlot ((2 : Int32)).toNatClampNeg (.int (nar .byte (nar .byte (own_pick p1 (2 : Int32) q2 (105 : Int32)))))).setSlot ((3 : Int32)).toNatClampNeg (.int (nar .byte (nar .byte (own_pick p1 (3 : Int32) q2 (46 : Int32)))))).setSlot ((4 : Int32)).toNatClampNeg (.int (nar .byte ((((q2.toUInt64 >>> ((32 : Int32) &&& 0x3f).toInt64.toUInt64).toInt64).toInt32).toInt8.toInt32)))).setSlot ((5 : Int32)).toNatClampNeg (.int (nar .byte ((((q2.toUInt64 >>> ((40 : Int32) &&& 0x3f).toInt64.toUInt64).toInt64).toInt32).toInt8.toInt32)))) cN (6 : Int32) (nar .byte (nar .byte (own_pick p1 (0 : Int32) q2 (109 : Int32)))) (nar .byte (nar .byte (own_pick p1 (1 : Int32) q2 (109 : Int32)))) (nar .byte (nar .byte (own_pick p1 (2 : Int32) q2 (105 : Int32)))) (nar .byte (nar .byte (own_pick p1 (3 : Int32) q2 (46 : Int32)))) h11 n0 Zs11 Od11 V_b1_11 rfl (by decide) (by decide) rfl rfl rfl rfl AN SN eN_0 eN_1 eN_2 eN_3 SS) hZ (hw _ (List.mem_of_getElem? (i := 5) rfl)) (hw _ (List.mem_of_getElem? (i := 4) rfl)) (by decide) (by decide)) (g := (mkF m 169 #[.val (.int p0), .val (.int p1), .val (.long q2), .second, .val (.int (6 : Int32)), .val (.ref b1), .val (.int (0 : Int32)), .unset] [(.ref b1)])) rfl (by rw [hml]; rfl) (argsL := [(.ref b1)]) (rest := []) (lenOf pd_3 rfl) rfl (by show 2 * 0 + _ ≤ _; exact Nat.le_of_eq rfl) (hb hby at_169) (fun _ _ => ⟨rfl, e11, (by decide : 0 + 1 + 0 + 0 + 0 + 0 + 0 ≤ _), (by decide : 0 + 6 + 0 + 0 + 0 + 0 + 0 ≤ _)⟩)
      dsimp only [Pt.U, Pt.locs, Pt.cells, Pt.slots] at X15 l15 y15 z15 st15 hQ15
      subst l15 y15 z15
      obtain ⟨rfl, N15q, e15⟩ := hQ15
      have N15 := Fr.app N11 N15q
      refine own_go st15 ?_
      show own_Goes _ _ _ _ _ _ _ T15 (mkF m 172 #[.val (.int p0), .val (.int p1), .val (.long q2), .second, .val (.int (6 : Int32)), .val (.ref b1), .val (.int (0 : Int32)), .unset] [(.int (own_eq (nar .byte (nar .byte (own_pick p1 (0 : Int32) q2 (109 : Int32)))) (nar .byte (nar .byte (own_pick p1 (1 : Int32) q2 (109 : Int32)))) (nar .byte (nar .byte (own_pick p1 (2 : Int32) q2 (105 : Int32)))) (nar .byte (nar .byte (own_pick p1 (3 : Int32) q2 (46 : Int32))))))])
      refine own_go (fun _ k => XS.istore X15.here hx rfl (hb hby at_172) rfl (l' := #[.val (.int p0), .val (.int p1), .val (.long q2), .second, .val (.int (6 : Int32)), .val (.ref b1), .val (.int (0 : Int32)), .val (.int (own_eq (nar .byte (nar .byte (own_pick p1 (0 : Int32) q2 (109 : Int32)))) (nar .byte (nar .byte (own_pick p1 (1 : Int32) q2 (109 : Int32)))) (nar .byte (nar .byte (own_pick p1 (2 : Int32) q2 (105 : Int32)))) (nar .byte (nar .byte (own_pick p1 (3 : Int32) q2 (46 : Int32))))))]) rfl k) ?_
      show own_Goes _ _ _ _ _ _ _ T15 (mkF m 174 #[.val (.int p0), .val (.int p1), .val (.long q2), .second, .val (.int (6 : Int32)), .val (.ref b1), .val (.int (0 : Int32)), .val (.int (own_eq (nar .byte (nar .byte (own_pick p1 (0 : Int32) q2 (109 : Int32)))) (nar .byte (nar .byte (own_pick p1 (1 : Int32) q2 (109 : Int32)))) (nar .byte (nar .byte (own_pick p1 (2 : Int32) q2 (105 : Int32)))) (nar .byte (nar .byte (own_pick p1 (3 : Int32) q2 (46 : Int32))))))] [])
      refine own_go (fun _ k => XS.iload X15.here hx rfl (hb hby at_174) rfl k) ?_
      show own_Goes _ _ _ _ _ _ _ T15 (mkF m 176 #[.val (.int p0), .val (.int p1), .val (.long q2), .second, .val (.int (6 : Int32)), .val (.ref b1), .val (.int (0 : Int32)), .val (.int (own_eq (nar .byte (nar .byte (own_pick p1 (0 : Int32) q2 (109 : Int32)))) (nar .byte (nar .byte (own_pick p1 (1 : Int32) q2 (109 : Int32)))) (nar .byte (nar .byte (own_pick p1 (2 : Int32) q2 (105 : Int32)))) (nar .byte (nar .byte (own_pick p1 (3 : Int32) q2 (46 : Int32))))))] [(.int (own_eq (nar .byte (nar .byte (own_pick p1 (0 : Int32) q2 (109 : Int32)))) (nar .byte (nar .byte (own_pick p1 (1 : Int32) q2 (109 : Int32)))) (nar .byte (nar .byte (own_pick p1 (2 : Int32) q2 (105 : Int32)))) (nar .byte (nar .byte (own_pick p1 (3 : Int32) q2 (46 : Int32))))))])
      refine own_go (fun _ k => XS.iload X15.here hx rfl (hb hby at_176) rfl k) ?_
      show own_Goes _ _ _ _ _ _ _ T15 (mkF m 178 #[.val (.int p0), .val (.int p1), .val (.long q2), .second, .val (.int (6 : Int32)), .val (.ref b1), .val (.int (0 : Int32)), .val (.int (own_eq (nar .byte (nar .byte (own_pick p1 (0 : Int32) q2 (109 : Int32)))) (nar .byte (nar .byte (own_pick p1 (1 : Int32) q2 (109 : Int32)))) (nar .byte (nar .byte (own_pick p1 (2 : Int32) q2 (105 : Int32)))) (nar .byte (nar .byte (own_pick p1 (3 : Int32) q2 (46 : Int32))))))] [(.int (0 : Int32)), (.int (own_eq (nar .byte (nar .byte (own_pick p1 (0 : Int32) q2 (109 : Int32)))) (nar .byte (nar .byte (own_pick p1 (1 : Int32) q2 (109 : Int32)))) (nar .byte (nar .byte (own_pick p1 (2 : Int32) q2 (105 : Int32)))) (nar .byte (nar .byte (own_pick p1 (3 : Int32) q2 (46 : Int32))))))])
      refine own_go (fun _ k => XS.icmpNo X15.here hx rfl (hb hby at_178) rfl (teq (by rw [own_eq, if_pos hc130, if_neg hc139] : (own_eq (nar .byte (nar .byte (own_pick p1 (0 : Int32) q2 (109 : Int32)))) (nar .byte (nar .byte (own_pick p1 (1 : Int32) q2 (109 : Int32)))) (nar .byte (nar .byte (own_pick p1 (2 : Int32) q2 (105 : Int32)))) (nar .byte (nar .byte (own_pick p1 (3 : Int32) q2 (46 : Int32))))) = (0 : Int32))).2 k) ?_
      show own_Goes _ _ _ _ _ _ _ T15 (mkF m 181 #[.val (.int p0), .val (.int p1), .val (.long q2), .second, .val (.int (6 : Int32)), .val (.ref b1), .val (.int (0 : Int32)), .val (.int (own_eq (nar .byte (nar .byte (own_pick p1 (0 : Int32) q2 (109 : Int32)))) (nar .byte (nar .byte (own_pick p1 (1 : Int32) q2 (109 : Int32)))) (nar .byte (nar .byte (own_pick p1 (2 : Int32) q2 (105 : Int32)))) (nar .byte (nar .byte (own_pick p1 (3 : Int32) q2 (46 : Int32))))))] [])
      refine own_go (fun _ k => XS.iconst X15.here hx rfl (hb hby at_181) k) ?_
      show own_Goes _ _ _ _ _ _ _ T15 (mkF m 182 #[.val (.int p0), .val (.int p1), .val (.long q2), .second, .val (.int (6 : Int32)), .val (.ref b1), .val (.int (0 : Int32)), .val (.int (own_eq (nar .byte (nar .byte (own_pick p1 (0 : Int32) q2 (109 : Int32)))) (nar .byte (nar .byte (own_pick p1 (1 : Int32) q2 (109 : Int32)))) (nar .byte (nar .byte (own_pick p1 (2 : Int32) q2 (105 : Int32)))) (nar .byte (nar .byte (own_pick p1 (3 : Int32) q2 (46 : Int32))))))] [(.int (1 : Int32))])
      refine own_go (fun _ k => XS.goto X15.here hx rfl (pc0 := 182) (pc' := 186) rfl (hb hby at_182) (by decide) (by decide) k) ?_
      show own_Goes _ _ _ _ _ _ _ T15 (mkF m 186 #[.val (.int p0), .val (.int p1), .val (.long q2), .second, .val (.int (6 : Int32)), .val (.ref b1), .val (.int (0 : Int32)), .val (.int (own_eq (nar .byte (nar .byte (own_pick p1 (0 : Int32) q2 (109 : Int32)))) (nar .byte (nar .byte (own_pick p1 (1 : Int32) q2 (109 : Int32)))) (nar .byte (nar .byte (own_pick p1 (2 : Int32) q2 (105 : Int32)))) (nar .byte (nar .byte (own_pick p1 (3 : Int32) q2 (46 : Int32))))))] [(.int (1 : Int32))])
      exact own_retN X15 hx (t := .boolean) hlk hret (by simp) (hb hby at_186) (by decide) (by decide) ⟨rfl, N15⟩
  · refine own_go (fun _ k => XS.icmpYes X11.here hx rfl (pc0 := 130) (pc' := 164) rfl (hb hby at_130) rfl (feq hc130).2 (by decide) (by decide) k) ?_
    show own_Goes _ _ _ _ _ _ _ T11 (mkF m 164 #[.val (.int p0), .val (.int p1), .val (.long q2), .second, .val (.int (6 : Int32)), .val (.ref b1), .unset, .unset] [])
    refine own_go (fun _ k => XS.iconst X11.here hx rfl (hb hby at_164) k) ?_
    show own_Goes _ _ _ _ _ _ _ T11 (mkF m 165 #[.val (.int p0), .val (.int p1), .val (.long q2), .second, .val (.int (6 : Int32)), .val (.ref b1), .unset, .unset] [(.int (0 : Int32))])
    refine own_go (fun _ k => XS.istore X11.here hx rfl (hb hby at_165) rfl (l' := #[.val (.int p0), .val (.int p1), .val (.long q2), .second, .val (.int (6 : Int32)), .val (.ref b1), .val (.int (0 : Int32)), .unset]) rfl k) ?_
    show own_Goes _ _ _ _ _ _ _ T11 (mkF m 167 #[.val (.int p0), .val (.int p1), .val (.long q2), .second, .val (.int (6 : Int32)), .val (.ref b1), .val (.int (0 : Int32)), .unset] [])
    refine own_go (fun _ k => XS.aload X11.here hx rfl (hb hby at_167) rfl rfl k) ?_
    show own_Goes _ _ _ _ _ _ _ T11 (mkF m 169 #[.val (.int p0), .val (.int p1), .val (.long q2), .second, .val (.int (6 : Int32)), .val (.ref b1), .val (.int (0 : Int32)), .unset] [(.ref b1)])
    obtain ⟨_, _, ⟨T16, L16, k16, n16⟩, -, X16, ⟨Lc16, hQ16, l16, y16, z16⟩, st16⟩ := Jvm.LawKit.callS X11 hx (y := (⟨"com/example/wire3/wire3/core/mmi/MmiService", "inNamespace", "([B)Z"⟩ : MethodName)) hown (mvT hZ (hw _ (List.mem_of_getElem? (i := 2) rfl))) (mvT hZ (hw _ (List.mem_of_getElem? (i := 3) rfl))) (mvT hZ (hw _ (List.mem_of_getElem? (i := 4) rfl))) (mvT hZ (hw _ (List.mem_of_getElem? (i := 5) rfl))) (by decide) (backOf (W := 0) (rm_nsL l Z a0 hw [] b1 aN (((((((newA k1 .byte (6 : Int32)).setSlot ((0 : Int32)).toNatClampNeg (.int (nar .byte (nar .byte (own_pick p1 (0 : Int32) q2 (109 : Int32)))))).setSlot ((1 : Int32)).toNatClampNeg (.int (nar .byte (nar .byte (own_pick p1 (1 : Int32) q2 (109 : Int32)))))).setSlot ((2 : Int32)).toNatClampNeg (.int (nar .byte (nar .byte (own_pick p1 (2 : Int32) q2 (105 : Int32)))))).setSlot ((3 : Int32)).toNatClampNeg (.int (nar .byte (nar .byte (own_pick p1 (3 : Int32) q2 (46 : Int32)))))).setSlot ((4 : Int32)).toNatClampNeg (.int (nar .byte ((((q2.toUInt64 >>> ((32 : Int32) &&& 0x3f).toInt64.toUInt64).toInt64).toInt32).toInt8.toInt32)))).setSlot ((5 : Int32)).toNatClampNeg (.int (nar .byte ((((q2.toUInt64 >>> ((40 : Int32) &&& 0x3f).toInt64.toUInt64).toInt64).toInt32).toInt8.toInt32)))) cN (6 : Int32) (nar .byte (nar .byte (own_pick p1 (0 : Int32) q2 (109 : Int32)))) (nar .byte (nar .byte (own_pick p1 (1 : Int32) q2 (109 : Int32)))) (nar .byte (nar .byte (own_pick p1 (2 : Int32) q2 (105 : Int32)))) (nar .byte (nar .byte (own_pick p1 (3 : Int32) q2 (46 : Int32)))) h11 n0 Zs11 Od11 V_b1_11 rfl (by decide) (by decide) rfl rfl rfl rfl AN SN eN_0 eN_1 eN_2 eN_3 SS) hZ (hw _ (List.mem_of_getElem? (i := 5) rfl)) (hw _ (List.mem_of_getElem? (i := 4) rfl)) (by decide) (by decide)) (g := (mkF m 169 #[.val (.int p0), .val (.int p1), .val (.long q2), .second, .val (.int (6 : Int32)), .val (.ref b1), .val (.int (0 : Int32)), .unset] [(.ref b1)])) rfl (by rw [hml]; rfl) (argsL := [(.ref b1)]) (rest := []) (lenOf pd_3 rfl) rfl (by show 2 * 0 + _ ≤ _; exact Nat.le_of_eq rfl) (hb hby at_169) (fun _ _ => ⟨rfl, e11, (by decide : 0 + 1 + 0 + 0 + 0 + 0 + 0 ≤ _), (by decide : 0 + 6 + 0 + 0 + 0 + 0 + 0 ≤ _)⟩)
    dsimp only [Pt.U, Pt.locs, Pt.cells, Pt.slots] at X16 l16 y16 z16 st16 hQ16
    subst l16 y16 z16
    obtain ⟨rfl, N16q, e16⟩ := hQ16
    have N16 := Fr.app N11 N16q
    refine own_go st16 ?_
    show own_Goes _ _ _ _ _ _ _ T16 (mkF m 172 #[.val (.int p0), .val (.int p1), .val (.long q2), .second, .val (.int (6 : Int32)), .val (.ref b1), .val (.int (0 : Int32)), .unset] [(.int (own_eq (nar .byte (nar .byte (own_pick p1 (0 : Int32) q2 (109 : Int32)))) (nar .byte (nar .byte (own_pick p1 (1 : Int32) q2 (109 : Int32)))) (nar .byte (nar .byte (own_pick p1 (2 : Int32) q2 (105 : Int32)))) (nar .byte (nar .byte (own_pick p1 (3 : Int32) q2 (46 : Int32))))))])
    refine own_go (fun _ k => XS.istore X16.here hx rfl (hb hby at_172) rfl (l' := #[.val (.int p0), .val (.int p1), .val (.long q2), .second, .val (.int (6 : Int32)), .val (.ref b1), .val (.int (0 : Int32)), .val (.int (own_eq (nar .byte (nar .byte (own_pick p1 (0 : Int32) q2 (109 : Int32)))) (nar .byte (nar .byte (own_pick p1 (1 : Int32) q2 (109 : Int32)))) (nar .byte (nar .byte (own_pick p1 (2 : Int32) q2 (105 : Int32)))) (nar .byte (nar .byte (own_pick p1 (3 : Int32) q2 (46 : Int32))))))]) rfl k) ?_
    show own_Goes _ _ _ _ _ _ _ T16 (mkF m 174 #[.val (.int p0), .val (.int p1), .val (.long q2), .second, .val (.int (6 : Int32)), .val (.ref b1), .val (.int (0 : Int32)), .val (.int (own_eq (nar .byte (nar .byte (own_pick p1 (0 : Int32) q2 (109 : Int32)))) (nar .byte (nar .byte (own_pick p1 (1 : Int32) q2 (109 : Int32)))) (nar .byte (nar .byte (own_pick p1 (2 : Int32) q2 (105 : Int32)))) (nar .byte (nar .byte (own_pick p1 (3 : Int32) q2 (46 : Int32))))))] [])
    refine own_go (fun _ k => XS.iload X16.here hx rfl (hb hby at_174) rfl k) ?_
    show own_Goes _ _ _ _ _ _ _ T16 (mkF m 176 #[.val (.int p0), .val (.int p1), .val (.long q2), .second, .val (.int (6 : Int32)), .val (.ref b1), .val (.int (0 : Int32)), .val (.int (own_eq (nar .byte (nar .byte (own_pick p1 (0 : Int32) q2 (109 : Int32)))) (nar .byte (nar .byte (own_pick p1 (1 : Int32) q2 (109 : Int32)))) (nar .byte (nar .byte (own_pick p1 (2 : Int32) q2 (105 : Int32)))) (nar .byte (nar .byte (own_pick p1 (3 : Int32) q2 (46 : Int32))))))] [(.int (own_eq (nar .byte (nar .byte (own_pick p1 (0 : Int32) q2 (109 : Int32)))) (nar .byte (nar .byte (own_pick p1 (1 : Int32) q2 (109 : Int32)))) (nar .byte (nar .byte (own_pick p1 (2 : Int32) q2 (105 : Int32)))) (nar .byte (nar .byte (own_pick p1 (3 : Int32) q2 (46 : Int32))))))])
    refine own_go (fun _ k => XS.iload X16.here hx rfl (hb hby at_176) rfl k) ?_
    show own_Goes _ _ _ _ _ _ _ T16 (mkF m 178 #[.val (.int p0), .val (.int p1), .val (.long q2), .second, .val (.int (6 : Int32)), .val (.ref b1), .val (.int (0 : Int32)), .val (.int (own_eq (nar .byte (nar .byte (own_pick p1 (0 : Int32) q2 (109 : Int32)))) (nar .byte (nar .byte (own_pick p1 (1 : Int32) q2 (109 : Int32)))) (nar .byte (nar .byte (own_pick p1 (2 : Int32) q2 (105 : Int32)))) (nar .byte (nar .byte (own_pick p1 (3 : Int32) q2 (46 : Int32))))))] [(.int (0 : Int32)), (.int (own_eq (nar .byte (nar .byte (own_pick p1 (0 : Int32) q2 (109 : Int32)))) (nar .byte (nar .byte (own_pick p1 (1 : Int32) q2 (109 : Int32)))) (nar .byte (nar .byte (own_pick p1 (2 : Int32) q2 (105 : Int32)))) (nar .byte (nar .byte (own_pick p1 (3 : Int32) q2 (46 : Int32))))))])
    refine own_go (fun _ k => XS.icmpNo X16.here hx rfl (hb hby at_178) rfl (teq (by rw [own_eq, if_neg hc130] : (own_eq (nar .byte (nar .byte (own_pick p1 (0 : Int32) q2 (109 : Int32)))) (nar .byte (nar .byte (own_pick p1 (1 : Int32) q2 (109 : Int32)))) (nar .byte (nar .byte (own_pick p1 (2 : Int32) q2 (105 : Int32)))) (nar .byte (nar .byte (own_pick p1 (3 : Int32) q2 (46 : Int32))))) = (0 : Int32))).2 k) ?_
    show own_Goes _ _ _ _ _ _ _ T16 (mkF m 181 #[.val (.int p0), .val (.int p1), .val (.long q2), .second, .val (.int (6 : Int32)), .val (.ref b1), .val (.int (0 : Int32)), .val (.int (own_eq (nar .byte (nar .byte (own_pick p1 (0 : Int32) q2 (109 : Int32)))) (nar .byte (nar .byte (own_pick p1 (1 : Int32) q2 (109 : Int32)))) (nar .byte (nar .byte (own_pick p1 (2 : Int32) q2 (105 : Int32)))) (nar .byte (nar .byte (own_pick p1 (3 : Int32) q2 (46 : Int32))))))] [])
    refine own_go (fun _ k => XS.iconst X16.here hx rfl (hb hby at_181) k) ?_
    show own_Goes _ _ _ _ _ _ _ T16 (mkF m 182 #[.val (.int p0), .val (.int p1), .val (.long q2), .second, .val (.int (6 : Int32)), .val (.ref b1), .val (.int (0 : Int32)), .val (.int (own_eq (nar .byte (nar .byte (own_pick p1 (0 : Int32) q2 (109 : Int32)))) (nar .byte (nar .byte (own_pick p1 (1 : Int32) q2 (109 : Int32)))) (nar .byte (nar .byte (own_pick p1 (2 : Int32) q2 (105 : Int32)))) (nar .byte (nar .byte (own_pick p1 (3 : Int32) q2 (46 : Int32))))))] [(.int (1 : Int32))])
    refine own_go (fun _ k => XS.goto X16.here hx rfl (pc0 := 182) (pc' := 186) rfl (hb hby at_182) (by decide) (by decide) k) ?_
    show own_Goes _ _ _ _ _ _ _ T16 (mkF m 186 #[.val (.int p0), .val (.int p1), .val (.long q2), .second, .val (.int (6 : Int32)), .val (.ref b1), .val (.int (0 : Int32)), .val (.int (own_eq (nar .byte (nar .byte (own_pick p1 (0 : Int32) q2 (109 : Int32)))) (nar .byte (nar .byte (own_pick p1 (1 : Int32) q2 (109 : Int32)))) (nar .byte (nar .byte (own_pick p1 (2 : Int32) q2 (105 : Int32)))) (nar .byte (nar .byte (own_pick p1 (3 : Int32) q2 (46 : Int32))))))] [(.int (1 : Int32))])
    exact own_retN X16 hx (t := .boolean) hlk hret (by simp) (hb hby at_186) (by decide) (by decide) ⟨rfl, N16⟩
def Q_rm0 (Z : State) (h0 : Heap) (n0 : Nat)  (v : Option Value) (h : Heap) (L : List Loc) : Prop := v = some (.int 1) ∧ Fr n0 L
set_option maxRecDepth 65536 in
set_option maxHeartbeats 40000000 in
theorem rm0 (l : Launch) (Z : State) (a0 : Array Value) (hw : ∀ d ∈ tables_1, d.before a0 Z = true) (ws : List Jvm.Cond) (p0 p1 : Int32) (q2 : Int64) (aN : Addr) (cN : Cell) (h0 : Heap) (n0 : Nat) (Z0 : n0 ≤ h0.size) (Od0 : Old Z n0 h0) (AN : Arr Z Z.heap aN cN .byte) (SN : cN.slots.size = 4) (eN_0 : cN.slots[0]? = some (.int (109 : Int32))) (eN_1 : cN.slots[1]? = some (.int (109 : Int32))) (eN_2 : cN.slots[2]? = some (.int (105 : Int32))) (eN_3 : cN.slots[3]? = some (.int (46 : Int32))) (SS : Sta Z Z.heap "com/example/wire3/wire3/core/mmi/MmiService" "NAMESPACE" "[B" (.ref aN)) :
    MetFree l x (head1 (Jvm.Cond.code x code maxLocals ret :: ws) room_1) (fun a U => a = #[(.int p0), (.int p1), (.long q2)] ∧ Z.Warmed39 U.vm ∧ U.heap = h0) (fun _ _ _ _ _ => True) (fun _ U o U' => ∃ rv rL, o = .returned rv ∧ Q_rm0 Z h0 n0  rv U'.heap rL ∧ FrameEnd U o U' rL room_1.cells room_1.slots) := by
  refine own_met (y := x) (Q := Q_rm0 Z h0 n0 ) (own := "com/example/wire3/wire3/core/mmi/MmiServiceInNamespacePinLaw") rfl pn_0 ?_
  intro p e s m below meth c s₁ C e0 X0
  obtain ⟨hx, hby, hml, hown, hnm, hret, hlk, hZ⟩ := C
  have N0 := Fr.nil n0
  rw [ef_0]
  show own_Goes _ _ _ _ _ _ _ s₁ (mkF m 0 #[.val (.int p0), .val (.int p1), .val (.long q2), .second, .unset, .unset, .unset, .unset] [])
  refine own_go (fun _ k => XS.iloadN X0.here hx rfl (hb hby at_0) rfl k) ?_
  show own_Goes _ _ _ _ _ _ _ s₁ (mkF m 1 #[.val (.int p0), .val (.int p1), .val (.long q2), .second, .unset, .unset, .unset, .unset] [(.int p0)])
  refine own_go (fun t k => X0.ldcInt hx hown (mvT hZ (hw _ (List.mem_of_getElem? (i := 0) rfl))) (g := (mkF m 1 #[.val (.int p0), .val (.int p1), .val (.long q2), .second, .unset, .unset, .unset, .unset] [(.int p0)])) rfl (hb hby at_1) t k) ?_
  show own_Goes _ _ _ _ _ _ _ s₁ (mkF m 3 #[.val (.int p0), .val (.int p1), .val (.long q2), .second, .unset, .unset, .unset, .unset] [(.int (2147483647 : Int32)), (.int p0)])
  refine own_go (fun _ k => XS.iand X0.here hx rfl (hb hby at_3) rfl k) ?_
  show own_Goes _ _ _ _ _ _ _ s₁ (mkF m 4 #[.val (.int p0), .val (.int p1), .val (.long q2), .second, .unset, .unset, .unset, .unset] [(.int (p0 &&& (2147483647 : Int32)))])
  refine own_go (fun _ k => XS.bipush X0.here hx rfl (hb hby at_4) k) ?_
  show own_Goes _ _ _ _ _ _ _ s₁ (mkF m 6 #[.val (.int p0), .val (.int p1), .val (.long q2), .second, .unset, .unset, .unset, .unset] [(.int (7 : Int32)), (.int (p0 &&& (2147483647 : Int32)))])
  refine own_go (fun _ k => iremM (g := (mkF m 6 #[.val (.int p0), .val (.int p1), .val (.long q2), .second, .unset, .unset, .unset, .unset] [(.int (7 : Int32)), (.int (p0 &&& (2147483647 : Int32)))])) X0 hx rfl (hb hby at_6) rfl (by decide) k) ?_
  show own_Goes _ _ _ _ _ _ _ s₁ (mkF m 7 #[.val (.int p0), .val (.int p1), .val (.long q2), .second, .unset, .unset, .unset, .unset] [(.int ((p0 &&& (2147483647 : Int32)) % (7 : Int32)))])
  refine own_go (fun _ k => XS.istore X0.here hx rfl (hb hby at_7) rfl (l' := #[.val (.int p0), .val (.int p1), .val (.long q2), .second, .val (.int ((p0 &&& (2147483647 : Int32)) % (7 : Int32))), .unset, .unset, .unset]) rfl k) ?_
  show own_Goes _ _ _ _ _ _ _ s₁ (mkF m 9 #[.val (.int p0), .val (.int p1), .val (.long q2), .second, .val (.int ((p0 &&& (2147483647 : Int32)) % (7 : Int32))), .unset, .unset, .unset] [])
  have hr := own_rem p0
  generalize ((p0 &&& (2147483647 : Int32)) % (7 : Int32)) = r at hr ⊢
  rcases hr with rfl | rfl | rfl | rfl | rfl | rfl | rfl
  · exact seg9_0 p0 p1 q2 aN cN hw ⟨hx, hby, hml, hown, hnm, hret, hlk, hZ⟩ X0 e0 n0 Z0 N0 Od0 AN SN eN_0 eN_1 eN_2 eN_3 SS
  · exact seg9_1 p0 p1 q2 aN cN hw ⟨hx, hby, hml, hown, hnm, hret, hlk, hZ⟩ X0 e0 n0 Z0 N0 Od0 AN SN eN_0 eN_1 eN_2 eN_3 SS
  · exact seg9_2 p0 p1 q2 aN cN hw ⟨hx, hby, hml, hown, hnm, hret, hlk, hZ⟩ X0 e0 n0 Z0 N0 Od0 AN SN eN_0 eN_1 eN_2 eN_3 SS
  · exact seg9_3 p0 p1 q2 aN cN hw ⟨hx, hby, hml, hown, hnm, hret, hlk, hZ⟩ X0 e0 n0 Z0 N0 Od0 AN SN eN_0 eN_1 eN_2 eN_3 SS
  · exact seg9_4 p0 p1 q2 aN cN hw ⟨hx, hby, hml, hown, hnm, hret, hlk, hZ⟩ X0 e0 n0 Z0 N0 Od0 AN SN eN_0 eN_1 eN_2 eN_3 SS
  · exact seg9_5 p0 p1 q2 aN cN hw ⟨hx, hby, hml, hown, hnm, hret, hlk, hZ⟩ X0 e0 n0 Z0 N0 Od0 AN SN eN_0 eN_1 eN_2 eN_3 SS
  · exact seg9_6 p0 p1 q2 aN cN hw ⟨hx, hby, hml, hown, hnm, hret, hlk, hZ⟩ X0 e0 n0 Z0 N0 Od0 AN SN eN_0 eN_1 eN_2 eN_3 SS
set_option maxRecDepth 65536 in
set_option maxHeartbeats 40000000 in
theorem comes_1 {Post : Tables → Env → Array Value → State → Outcome → State → Prop} (hpost : ∀ tb e args s v u, (limb_1_1.after args s (.returned v) u = true ∧ limb_1_2.after args s (.returned v) u = true ∧ True) → FrameEnd s (.returned v) u (Jvm.fieldLocs frame_1_writes args s ++ Jvm.arrayLocs frame_1_arrays args s ++ Jvm.staticLocs frame_1_statics s) 16 128 → Post tb e args s (.returned v) u) :
    ArmFor flags0 classFile x code maxLocals ret World_1 tables_1 room_1 Calls_1 rest_1 Pre_1 Post := by
  intro l hfl _ _ p e ha hc hk s m args below hf hA hF happ hP
  obtain ⟨hcalls, hrest, hpre⟩ := hP
  obtain ⟨-, -, -, hnamed, -, -, -, hat⟩ := (Spec.applies_iff hf).mp happ
  obtain ⟨hg, hn⟩ := and_e (Cond.before_iff.mp (show (Jvm.Cond.and given_1 narrow_1).before args s = true from hpre))
  obtain ⟨g0, gr0⟩ := and_e hg
  obtain ⟨ga0, gr1⟩ := and_e gr0
  obtain ⟨ga1, gr2⟩ := and_e gr1
  have ga2 := gr2
  obtain ⟨w0, w1, w2, rfl⟩ : ∃ w0 w1 w2 : Value, args = #[w0, w1, w2] := by
    have hs : args.size = 3 := by simpa [Cond.value, given_1] using g0
    obtain ⟨L⟩ := args
    match L, hs with
    | [w0, w1, w2], _ => exact ⟨w0, w1, w2, rfl⟩
  have hw := fun d (hd : d ∈ tables_1) => atoms_spec (ws := Jvm.Cond.code x code maxLocals ret :: tables_1) hat d (List.mem_cons_of_mem _ hd)
  have hfit : Fit s := fun {y c} hc i hi => by
    obtain ⟨ha, rfl⟩ := Array.getElem?_eq_some_iff.mp hc
    have q := List.all_eq_true.mp ((Array.all_eq_true_iff_forall_mem.mp hF) _ (Array.getElem_mem ha)) i (List.mem_range.mpr hi)
    simpa [Array.getElem?_eq_getElem hi] using q
  obtain ⟨i0, ei0⟩ := is_v ga0
  obtain rfl : w0 = (.int i0) := Option.some.inj ei0
  obtain ⟨i1, ei1⟩ := is_v ga1
  obtain rfl : w1 = (.int i1) := Option.some.inj ei1
  obtain ⟨i2, ei2⟩ := isL_v ga2
  obtain rfl : w2 = (.long i2) := Option.some.inj ei2
  obtain ⟨c0, r0⟩ := and_e hn
  obtain ⟨c1, r1⟩ := and_e r0
  obtain ⟨c2, r2⟩ := and_e r1
  obtain ⟨c3, r3⟩ := and_e r2
  obtain ⟨c4, r4⟩ := and_e r3
  have c5 := r4
  obtain ⟨aN, vN⟩ := arr_v c0
  have SS := Sta.start vN (Or.inr ⟨(hw _ (List.mem_of_getElem? (i := 4) rfl)), (hw _ (List.mem_of_getElem? (i := 7) rfl))⟩)
  obtain ⟨cN, AN⟩ := Arr.start vN c0
  have SN := own_len (n := 4) vN AN c1 (by decide)
  have eN_0 := own_elemI vN AN c2
  have eN_1 := own_elemI vN AN c3
  have eN_2 := own_elemI vN AN c4
  have eN_3 := own_elemI vN AN c5
  obtain ⟨n, o, h1, h2, h3, _, L, rfl, ⟨rfl, N⟩, hq⟩ := rm0 l s _ hw tables_1 i0 i1 i2 aN cN s.heap s.heap.size (Nat.le_refl _) (Old.start s) AN SN eN_0 eN_1 eN_2 eN_3 SS p e ha hc hk s m _ below hf ((Spec.applies_iff_loose hf).mp happ).1 ⟨rfl, State.Warmed39.refl s, rfl⟩ trivial
  refine ⟨n, _, h1, h2, h3, hpost _ _ _ _ _ _ ⟨Cond.after_iff.mpr rfl, Cond.after_iff.mpr (eq_i res_at (Term.int_eval (1)) rfl), trivial⟩ ⟨hq.1, hq.2.1, (hq.2.2.sift fun y hy => Or.inr (N y hy)).mono (by decide) (by decide)⟩⟩
theorem main_1_1 : Claimed_1_1 := comes_1 fun _ _ _ _ _ _ h hF => ⟨h.1, hF⟩
theorem main_1_2 : Claimed_1_2 := comes_1 fun _ _ _ _ _ _ h hF => ⟨h.2.1, hF⟩
end Jvm.Pilot.@@N@@
namespace Jvm.Pilot.@@N@@
open Jvm Jvm.ClassFile Sem Op Lib Jvm.Free Jvm.Stand Jvm.Pilot.@@N@@.Jvm.D
/-! MADE BY PROGRAM (witnessworld.py) out of the Statement's table words and the real class files: 14 classes; the members and pool entries that the words name. The judged class is class 1, her method 1. -/
namespace start1
open Jvm.ClassFile
def u (s : String) : CpInfo := .utf8 (stringToUtf16 s)
/-- a pool by its gaps: so many unusable entries, then the entry; so many at the end -/
def gap : Nat → List CpInfo → List CpInfo
  | 0, r => r
  | n + 1, r => .unusable :: gap n r
def poolList (es : List (Nat × CpInfo)) (last : Nat) : List CpInfo := es.foldr (fun e r => gap e.1 (e.2 :: r)) (gap last [])
def pool (es : List (Nat × CpInfo)) (last : Nat) : Array CpInfo := ⟨poolList es last⟩
def fileOf (pool : Array CpInfo) (this : Nat) (attrs : Array Attribute := #[]) (ms : Array MethodInfo := #[]) (fl : Nat := 33) (sup : Nat := 0) (ifs : Array Nat := #[]) (fds : Array FieldInfo := #[]) : ClassFile where
  minorVersion := 0
  majorVersion := 65
  constantPool := pool
  accessFlags := fl
  thisClass := this
  superClass := sup
  interfaces := ifs
  fields := fds
  methods := ms
  attributes := attrs
def plain (name : String) (sup : Option ClassId) : Class where
  name := name
  kind := .ordinary
  loader := none
  accessFlags := 33
  super := sup
  interfaces := #[]
  cf := none
  fields := #[]
  methods := #[]
  instanceTypes := #[]
  staticTypes := #[]
  resolved := #[]
  callSites := []
  init := .initialized
  statics := none
  mirror := none

def pool0 : Array CpInfo := pool [(5, u "<init>"), (0, u "()V"), (1, .class_ 10), (1, u "java/lang/Object")] 113

def k0m0 : Method := { name := "<init>", desc := "()V", sig := { parameters := [], returnType := none }, accessFlags := 1, code := none }
/-- java/lang/Object -/
def k0 : Class := { plain "java/lang/Object" none with
  accessFlags := 33
  interfaces := #[]
  cf := some (fileOf pool0 8 #[] #[{ accessFlags := 1, nameIndex := 5, descriptorIndex := 6, attributes := #[] }] 33 0 #[] #[])
  fields := #[]
  methods := #[k0m0]
  instanceTypes := #[]
  staticTypes := #[]
  resolved := Array.replicate 124 none
  statics := none }

def pool1 : Array CpInfo := pool [(2, .class_ 4), (1, u "java/lang/Object"), (0, u "<init>"), (0, u "()V"), (0, .integer 2147483647), (0, .methodref 9 10), (0, .class_ 11), (0, .nameAndType 12 13), (0, u "com/example/wire3/wire3/core/mmi/MmiServiceInNamespacePinLaw"), (0, u "pick"), (0, u "(IIJB)B"), (0, .methodref 15 16), (0, .class_ 17), (0, .nameAndType 18 19), (0, u "com/example/wire3/wire3/core/mmi/MmiService"), (0, u "inNamespace"), (0, u "([B)Z"), (2, u "law"), (0, u "(IIJ)Z")] 5

def k1m0 : Method := { name := "<init>", desc := "()V", sig := { parameters := [], returnType := none }, accessFlags := 1, code := none }
def k1c1 : Code := { maxStack := 7, maxLocals := 8, code := code, exceptionTable := #[], attributes := #[] }
def k1m1 : Method := { name := "law", desc := "(IIJ)Z", sig := { parameters := [.int, .int, .long], returnType := some .boolean }, accessFlags := 9, code := some k1c1 }
def k1c2 : Code := { maxStack := 4, maxLocals := 5, code := method_3_code, exceptionTable := #[], attributes := #[] }
def k1m2 : Method := { name := "pick", desc := "(IIJB)B", sig := { parameters := [.int, .int, .long, .byte], returnType := some .byte }, accessFlags := 10, code := some k1c2 }
/-- com/example/wire3/wire3/core/mmi/MmiServiceInNamespacePinLaw -/
def k1 : Class := { plain "com/example/wire3/wire3/core/mmi/MmiServiceInNamespacePinLaw" (some 0) with
  accessFlags := 49
  interfaces := #[]
  cf := some (fileOf pool1 9 #[] #[{ accessFlags := 1, nameIndex := 5, descriptorIndex := 6, attributes := #[] }, { accessFlags := 9, nameIndex := 22, descriptorIndex := 23, attributes := #[] }, { accessFlags := 10, nameIndex := 12, descriptorIndex := 13, attributes := #[] }] 49 2 #[] #[])
  fields := #[]
  methods := #[k1m0, k1m1, k1m2]
  instanceTypes := #[]
  staticTypes := #[]
  resolved := Array.replicate 29 none
  statics := none }

def pool2 : Array CpInfo := pool [(1, .class_ 2), (0, u "java/lang/constant/Constable"), (0, .class_ 4), (0, u "java/lang/Object")] 6

/-- java/lang/constant/Constable -/
def k2 : Class := { plain "java/lang/constant/Constable" (some 0) with
  accessFlags := 1537
  interfaces := #[]
  cf := some (fileOf pool2 1 #[] #[] 1537 3 #[] #[])
  fields := #[]
  methods := #[]
  instanceTypes := #[]
  staticTypes := #[]
  resolved := Array.replicate 11 none
  statics := none }

def pool3 : Array CpInfo := pool [(1, .class_ 2), (0, u "java/lang/Comparable"), (0, .class_ 4), (0, u "java/lang/Object")] 7

/-- java/lang/Comparable -/
def k3 : Class := { plain "java/lang/Comparable" (some 0) with
  accessFlags := 1537
  interfaces := #[]
  cf := some (fileOf pool3 1 #[] #[] 1537 3 #[] #[])
  fields := #[]
  methods := #[]
  instanceTypes := #[]
  staticTypes := #[]
  resolved := Array.replicate 12 none
  statics := none }

def pool4 : Array CpInfo := pool [(1, .class_ 2), (0, u "java/io/Serializable"), (0, .class_ 4), (0, u "java/lang/Object")] 2

/-- java/io/Serializable -/
def k4 : Class := { plain "java/io/Serializable" (some 0) with
  accessFlags := 1537
  interfaces := #[]
  cf := some (fileOf pool4 1 #[] #[] 1537 3 #[] #[])
  fields := #[]
  methods := #[]
  instanceTypes := #[]
  staticTypes := #[]
  resolved := Array.replicate 7 none
  statics := none }

def pool5 : Array CpInfo := pool [(2, .class_ 4), (1, u "java/lang/Enum"), (0, u "name"), (0, u "Ljava/lang/String;"), (2, u "ordinal"), (0, u "I"), (1, .class_ 14), (1, u "java/lang/Object"), (4, u "hash"), (86, .class_ 108), (1, u "java/lang/Enum$EnumDesc"), (2, .class_ 112), (0, u "java/lang/constant/Constable"), (0, .class_ 114), (0, u "java/lang/Comparable"), (0, .class_ 116), (0, u "java/io/Serializable")] 87

/-- java/lang/Enum -/
def k5 : Class := { plain "java/lang/Enum" (some 0) with
  accessFlags := 1057
  interfaces := #[2, 3, 4]
  cf := some (fileOf pool5 2 #[.nestMembers #[106]] #[] 1057 12 #[111, 113, 115] #[{ accessFlags := 18, nameIndex := 5, descriptorIndex := 6, attributes := #[] }, { accessFlags := 18, nameIndex := 9, descriptorIndex := 10, attributes := #[] }, { accessFlags := 2, nameIndex := 19, descriptorIndex := 10, attributes := #[] }])
  fields := #[{ name := "name", type := (.object "java/lang/String"), accessFlags := 18, slot := 0, constantValue := 0 }, { name := "ordinal", type := .int, accessFlags := 18, slot := 1, constantValue := 0 }, { name := "hash", type := .int, accessFlags := 2, slot := 2, constantValue := 0 }]
  methods := #[]
  instanceTypes := #[(.object "java/lang/String"), .int, .int]
  staticTypes := #[]
  resolved := Array.replicate 204 none
  statics := none }

def pool6 : Array CpInfo := pool [(1, .class_ 2), (0, u "com/example/wire3/wire3/core/mmi/MmiService"), (2, u "SERVICE"), (0, u "Lcom/example/wire3/wire3/core/mmi/MmiService;"), (2, u "$VALUES"), (0, u "[Lcom/example/wire3/wire3/core/mmi/MmiService;"), (6, .class_ 19), (1, u "java/lang/Enum"), (20, u "name"), (0, u "[B"), (2, .fieldref 1 45), (0, .nameAndType 46 41), (0, u "NAMESPACE"), (0, .methodref 48 49), (0, .class_ 50), (0, .nameAndType 51 52), (0, u "java/util/Arrays"), (0, u "equals"), (0, u "([BII[BII)Z"), (36, u "inNamespace"), (0, u "([B)Z")] 9

def k6c0 : Code := { maxStack := 6, maxLocals := 1, code := prog_11_method_5_code, exceptionTable := #[], attributes := #[] }
def k6m0 : Method := { name := "inNamespace", desc := "([B)Z", sig := { parameters := [(.array .byte)], returnType := some .boolean }, accessFlags := 9, code := some k6c0 }
/-- com/example/wire3/wire3/core/mmi/MmiService -/
def k6 : Class := { plain "com/example/wire3/wire3/core/mmi/MmiService" (some 5) with
  accessFlags := 16433
  interfaces := #[]
  cf := some (fileOf pool6 1 #[] #[{ accessFlags := 9, nameIndex := 89, descriptorIndex := 90, attributes := #[] }] 16433 17 #[] #[{ accessFlags := 16409, nameIndex := 5, descriptorIndex := 6, attributes := #[] }, { accessFlags := 26, nameIndex := 46, descriptorIndex := 41, attributes := #[] }, { accessFlags := 18, nameIndex := 40, descriptorIndex := 41, attributes := #[] }, { accessFlags := 4122, nameIndex := 9, descriptorIndex := 10, attributes := #[] }])
  fields := #[{ name := "SERVICE", type := (.object "com/example/wire3/wire3/core/mmi/MmiService"), accessFlags := 16409, slot := 0, constantValue := 0 }, { name := "NAMESPACE", type := (.array .byte), accessFlags := 26, slot := 1, constantValue := 0 }, { name := "name", type := (.array .byte), accessFlags := 18, slot := 3, constantValue := 0 }, { name := "$VALUES", type := (.array (.object "com/example/wire3/wire3/core/mmi/MmiService")), accessFlags := 4122, slot := 2, constantValue := 0 }]
  methods := #[k6m0]
  instanceTypes := #[(.object "java/lang/String"), .int, .int, (.array .byte)]
  staticTypes := #[(.object "com/example/wire3/wire3/core/mmi/MmiService"), (.array .byte), (.array (.object "com/example/wire3/wire3/core/mmi/MmiService"))]
  resolved := Array.replicate 100 none
  statics := some 0 }

def pool7 : Array CpInfo := pool [(2, .class_ 4), (1, u "java/lang/Object"), (0, u "<init>"), (0, u "()V"), (6, .methodref 14 15), (0, .class_ 16), (0, .nameAndType 17 18), (0, u "java/util/Arrays"), (0, u "rangeCheck"), (0, u "(III)V"), (55, .class_ 76), (1, u "java/util/Arrays$NaturalOrder"), (36, .class_ 115), (1, u "java/util/Arrays$LegacyMergeSort"), (1, u "Z"), (128, .class_ 248), (1, u "jdk/internal/util/ArraysSupport"), (0, u "mismatch"), (25, .methodref 246 276), (0, .nameAndType 249 277), (0, u "([BI[BII)I"), (20, u "equals"), (76, .class_ 376), (0, u "java/util/Arrays$ArrayList"), (68, u "$assertionsDisabled"), (269, u "MIN_ARRAY_SORT_GRAN"), (0, u "I"), (2, u "INSERTIONSORT_THRESHOLD"), (111, u "([BII[BII)Z"), (143, .class_ 976), (0, u "java/util/Arrays$ArrayItr")] 52

def k7m0 : Method := { name := "<init>", desc := "()V", sig := { parameters := [], returnType := none }, accessFlags := 2, code := none }
def k7c1 : Code := { maxStack := 4, maxLocals := 3, code := jdk_65_method_30_code, exceptionTable := #[], attributes := #[] }
def k7m1 : Method := { name := "rangeCheck", desc := "(III)V", sig := { parameters := [.int, .int, .int], returnType := none }, accessFlags := 8, code := some k7c1 }
def k7c2 : Code := { maxStack := 5, maxLocals := 8, code := jdk_65_method_90_code, exceptionTable := #[], attributes := #[] }
def k7m2 : Method := { name := "equals", desc := "([BII[BII)Z", sig := { parameters := [(.array .byte), .int, .int, (.array .byte), .int, .int], returnType := some .boolean }, accessFlags := 9, code := some k7c2 }
/-- java/util/Arrays -/
def k7 : Class := { plain "java/util/Arrays" (some 0) with
  accessFlags := 49
  interfaces := #[]
  cf := some (fileOf pool7 14 #[.nestMembers #[975, 375, 113, 74]] #[{ accessFlags := 2, nameIndex := 5, descriptorIndex := 6, attributes := #[] }, { accessFlags := 8, nameIndex := 17, descriptorIndex := 18, attributes := #[] }, { accessFlags := 9, nameIndex := 298, descriptorIndex := 831, attributes := #[] }] 49 2 #[] #[{ accessFlags := 26, nameIndex := 715, descriptorIndex := 716, attributes := #[] }, { accessFlags := 26, nameIndex := 719, descriptorIndex := 716, attributes := #[] }, { accessFlags := 4120, nameIndex := 445, descriptorIndex := 117, attributes := #[] }])
  fields := #[{ name := "MIN_ARRAY_SORT_GRAN", type := .int, accessFlags := 26, slot := 0, constantValue := 0 }, { name := "INSERTIONSORT_THRESHOLD", type := .int, accessFlags := 26, slot := 1, constantValue := 0 }, { name := "$assertionsDisabled", type := .boolean, accessFlags := 4120, slot := 2, constantValue := 0 }]
  methods := #[k7m0, k7m1, k7m2]
  instanceTypes := #[]
  staticTypes := #[.int, .int, .boolean]
  resolved := Array.replicate 1029 none
  statics := none }

def pool8 : Array CpInfo := pool [(9, u "<init>"), (6, .class_ 18), (1, u "java/lang/Object"), (0, u "()V"), (1, .class_ 23), (1, u "jdk/internal/util/ArraysSupport"), (0, u "LOG2_ARRAY_LONG_INDEX_SCALE"), (0, u "I"), (2, u "U"), (0, u "Ljdk/internal/misc/Unsafe;"), (8, u "BIG_ENDIAN"), (0, u "Z"), (8, u "LOG2_BYTE_BIT_SIZE"), (4, u "LOG2_ARRAY_INT_INDEX_SCALE"), (54, u "JLA"), (0, u "Ljdk/internal/access/JavaLangAccess;"), (11, u "LOG2_ARRAY_BOOLEAN_INDEX_SCALE"), (9, u "LOG2_ARRAY_BYTE_INDEX_SCALE"), (5, u "LOG2_ARRAY_CHAR_INDEX_SCALE"), (5, u "LOG2_ARRAY_SHORT_INDEX_SCALE"), (5, u "mismatch"), (12, u "LOG2_ARRAY_FLOAT_INDEX_SCALE"), (24, u "LOG2_ARRAY_DOUBLE_INDEX_SCALE"), (89, u "T_BOOLEAN"), (2, u "T_CHAR"), (1, u "T_FLOAT"), (1, u "T_DOUBLE"), (1, u "T_BYTE"), (1, u "T_SHORT"), (1, u "T_INT"), (1, u "T_LONG"), (1, u "SOFT_MAX_ARRAY_LENGTH"), (42, u "([BI[BII)I")] 40

def k8m0 : Method := { name := "<init>", desc := "()V", sig := { parameters := [], returnType := none }, accessFlags := 2, code := none }
def k8c1 : Code := { maxStack := 8, maxLocals := 8, code := jdk_48_method_14_code, exceptionTable := #[], attributes := #[] }
def k8m1 : Method := { name := "mismatch", desc := "([BI[BII)I", sig := { parameters := [(.array .byte), .int, (.array .byte), .int, .int], returnType := some .int }, accessFlags := 9, code := some k8c1 }
/-- jdk/internal/util/ArraysSupport -/
def k8 : Class := { plain "jdk/internal/util/ArraysSupport" (some 0) with
  accessFlags := 33
  interfaces := #[]
  cf := some (fileOf pool8 21 #[] #[{ accessFlags := 2, nameIndex := 9, descriptorIndex := 19, attributes := #[] }, { accessFlags := 9, nameIndex := 149, descriptorIndex := 337, attributes := #[] }] 33 16 #[] #[{ accessFlags := 24, nameIndex := 28, descriptorIndex := 29, attributes := #[] }, { accessFlags := 26, nameIndex := 38, descriptorIndex := 39, attributes := #[] }, { accessFlags := 25, nameIndex := 121, descriptorIndex := 25, attributes := #[] }, { accessFlags := 25, nameIndex := 131, descriptorIndex := 25, attributes := #[] }, { accessFlags := 25, nameIndex := 137, descriptorIndex := 25, attributes := #[] }, { accessFlags := 25, nameIndex := 143, descriptorIndex := 25, attributes := #[] }, { accessFlags := 25, nameIndex := 53, descriptorIndex := 25, attributes := #[] }, { accessFlags := 25, nameIndex := 24, descriptorIndex := 25, attributes := #[] }, { accessFlags := 25, nameIndex := 162, descriptorIndex := 25, attributes := #[] }, { accessFlags := 25, nameIndex := 187, descriptorIndex := 25, attributes := #[] }, { accessFlags := 26, nameIndex := 48, descriptorIndex := 25, attributes := #[] }, { accessFlags := 25, nameIndex := 277, descriptorIndex := 25, attributes := #[] }, { accessFlags := 25, nameIndex := 280, descriptorIndex := 25, attributes := #[] }, { accessFlags := 25, nameIndex := 282, descriptorIndex := 25, attributes := #[] }, { accessFlags := 25, nameIndex := 284, descriptorIndex := 25, attributes := #[] }, { accessFlags := 25, nameIndex := 286, descriptorIndex := 25, attributes := #[] }, { accessFlags := 25, nameIndex := 288, descriptorIndex := 25, attributes := #[] }, { accessFlags := 25, nameIndex := 290, descriptorIndex := 25, attributes := #[] }, { accessFlags := 25, nameIndex := 292, descriptorIndex := 25, attributes := #[] }, { accessFlags := 26, nameIndex := 108, descriptorIndex := 109, attributes := #[] }, { accessFlags := 25, nameIndex := 294, descriptorIndex := 25, attributes := #[] }])
  fields := #[{ name := "U", type := (.object "jdk/internal/misc/Unsafe"), accessFlags := 24, slot := 0, constantValue := 0 }, { name := "BIG_ENDIAN", type := .boolean, accessFlags := 26, slot := 1, constantValue := 0 }, { name := "LOG2_ARRAY_BOOLEAN_INDEX_SCALE", type := .int, accessFlags := 25, slot := 2, constantValue := 0 }, { name := "LOG2_ARRAY_BYTE_INDEX_SCALE", type := .int, accessFlags := 25, slot := 3, constantValue := 0 }, { name := "LOG2_ARRAY_CHAR_INDEX_SCALE", type := .int, accessFlags := 25, slot := 4, constantValue := 0 }, { name := "LOG2_ARRAY_SHORT_INDEX_SCALE", type := .int, accessFlags := 25, slot := 5, constantValue := 0 }, { name := "LOG2_ARRAY_INT_INDEX_SCALE", type := .int, accessFlags := 25, slot := 6, constantValue := 0 }, { name := "LOG2_ARRAY_LONG_INDEX_SCALE", type := .int, accessFlags := 25, slot := 7, constantValue := 0 }, { name := "LOG2_ARRAY_FLOAT_INDEX_SCALE", type := .int, accessFlags := 25, slot := 8, constantValue := 0 }, { name := "LOG2_ARRAY_DOUBLE_INDEX_SCALE", type := .int, accessFlags := 25, slot := 9, constantValue := 0 }, { name := "LOG2_BYTE_BIT_SIZE", type := .int, accessFlags := 26, slot := 10, constantValue := 0 }, { name := "T_BOOLEAN", type := .int, accessFlags := 25, slot := 11, constantValue := 0 }, { name := "T_CHAR", type := .int, accessFlags := 25, slot := 12, constantValue := 0 }, { name := "T_FLOAT", type := .int, accessFlags := 25, slot := 13, constantValue := 0 }, { name := "T_DOUBLE", type := .int, accessFlags := 25, slot := 14, constantValue := 0 }, { name := "T_BYTE", type := .int, accessFlags := 25, slot := 15, constantValue := 0 }, { name := "T_SHORT", type := .int, accessFlags := 25, slot := 16, constantValue := 0 }, { name := "T_INT", type := .int, accessFlags := 25, slot := 17, constantValue := 0 }, { name := "T_LONG", type := .int, accessFlags := 25, slot := 18, constantValue := 0 }, { name := "JLA", type := (.object "jdk/internal/access/JavaLangAccess"), accessFlags := 26, slot := 19, constantValue := 0 }, { name := "SOFT_MAX_ARRAY_LENGTH", type := .int, accessFlags := 25, slot := 20, constantValue := 0 }]
  methods := #[k8m0, k8m1]
  instanceTypes := #[]
  staticTypes := #[(.object "jdk/internal/misc/Unsafe"), .boolean, .int, .int, .int, .int, .int, .int, .int, .int, .int, .int, .int, .int, .int, .int, .int, .int, .int, (.object "jdk/internal/access/JavaLangAccess"), .int]
  resolved := Array.replicate 378 none
  statics := none }

def pool9 : Array CpInfo := pool [(1, u "java/lang/Cloneable"), (0, .class_ 1), (0, u "java/lang/Object"), (0, .class_ 3)] 3

/-- java/lang/Cloneable -/
def k9 : Class := { plain "java/lang/Cloneable" (some 0) with
  accessFlags := 1537
  interfaces := #[]
  cf := some (fileOf pool9 2 #[] #[] 1537 4 #[] #[])
  fields := #[]
  methods := #[]
  instanceTypes := #[]
  staticTypes := #[]
  resolved := Array.replicate 8 none
  statics := none }

/-- the primitive byte -/
def k10 : Class := { plain "byte" none with kind := .primitive 'B', accessFlags := 0x411 }
/-- [B -/
def k11 : Class := { plain "[B" (some 0) with kind := .array 10 .byte, interfaces := #[9, 4], accessFlags := 1041 }

/-- the primitive int -/
def k12 : Class := { plain "int" none with kind := .primitive 'I', accessFlags := 0x411 }
/-- [I -/
def k13 : Class := { plain "[I" (some 0) with kind := .array 12 .int, interfaces := #[9, 4], accessFlags := 1041 }

def heap : Heap := #[{ cls := 6, slots := #[.null, .ref 1, .null], vm := .statics 6 },
  { cls := 11, slots := #[.int 109, .int 109, .int 105, .int 46], vm := .none }]
def classes : Array Class := #[k0, k1, k2, k3, k4, k5, k6, k7, k8, k9, k10, k11, k12, k13]
def interned : List (Array UInt16 × Addr) := []
def slotsUsed : Nat := 7
def theMethod : MethodId := ⟨1, 1⟩
def args0 : Array Value := #[.int 5, .int 6, .long 7]
def aboutOver (below : List Frame) : State where
  vm := { classes := classes, interned := interned.toArray }
  heap := heap
  slotsUsed := slotsUsed
  threads := #[{ frames := .invoking theMethod args0 :: below }]
def below0 : List Frame := [.native { method := ⟨0, 0⟩, args := #[] }]
def about1 : State := aboutOver below0
def p0 : Program := .bare "" "" ""
def e0 : Env := launch0.env 0 0 0
theorem w_frames : about1.frames = Frame.invoking theMethod args0 :: below0 := rfl
set_option maxRecDepth 65536 in
theorem w_args : argsFit about1.vm theMethod args0 = true := by decide +kernel
set_option maxRecDepth 65536 in
theorem w_heap : heapFits about1 = true := by decide +kernel
set_option maxRecDepth 65536 in
theorem w_runnable : about1.curStatus? = some .runnable := by decide +kernel
set_option maxRecDepth 65536 in
theorem w_alone : about1.alone = true := by decide +kernel
set_option maxRecDepth 65536 in
theorem w_named : about1.methodNamed? x = some theMethod := by decide +kernel
set_option maxRecDepth 65536 in
theorem w_hears : about1.hears theMethod below0 = true := by decide +kernel
set_option maxRecDepth 65536 in
theorem w_ripe : about1.ripe theMethod args0 below0 = true := by decide +kernel
theorem w_running : about1.status = .running := rfl
set_option maxRecDepth 65536 in
theorem w_room : about1.hasRoom e0.platform room_1 = true :=
  launch0.hasRoom_least _ room_1 (by decide +kernel) (by decide +kernel) (by decide +kernel) (by decide +kernel) (by decide +kernel) (by decide +kernel)
theorem allAtoms_all (ts : List Jvm.Cond) (a : Array Jvm.Value) (st : Jvm.State) : (allAtoms ts).before a st = ts.all (fun c => c.before a st) := by
  induction ts with
  | nil => rfl
  | cons c t ih =>
    show (Jvm.Cond.and c (allAtoms t)).before a st = _
    rw [Jvm.Cond.before_and, ih, List.all_cons]
def words1 : List Jvm.Cond := Jvm.Cond.code x code maxLocals ret :: tables_1
/-- a 'code' word, met by the world's own term for the bytes: nothing is compared byte by byte -/
theorem code_word {y : MethodName} {bytes : ByteArray} {mx : Nat} {rt : Option FieldType} {a : Array Value} {s : State} {m : MethodId} {meth : Method} {c : Code} (h1 : s.methodNamed? y = some m) (h2 : s.vm.method? m = some meth) (h3 : meth.code = some c) (h4 : c.code = bytes)
    (h5 : (c.maxLocals == mx && c.exceptionTable.isEmpty && decide (c.maxStack ≤ mostOperands) && decide (meth.sig.returnType = rt) && !meth.locks && decide (parseMethodDescriptor y.desc = some meth.sig)) = true) : (Jvm.Cond.code y bytes mx rt).before a s = true := by
  simp only [Bool.and_eq_true, beq_iff_eq, Bool.not_eq_true', decide_eq_true_eq] at h5
  obtain ⟨⟨⟨⟨⟨g1, g2⟩, g3⟩, g4⟩, g5⟩, g6⟩ := h5
  simp [Cond.before, Cond.holds, Cond.value, h1, h2, h3, h4, g1, g2, g3, g4, g5, g6]
def isCode : Jvm.Cond → Bool
  | .code _ _ _ _ => true
  | _ => false
theorem all_split {L : List Jvm.Cond} {P : Jvm.Cond → Bool} (h1 : L.all (fun c => isCode c || P c) = true) (h2 : ∀ c ∈ L.filter isCode, P c = true) : L.all P = true := by
  refine List.all_eq_true.mpr fun c hc => ?_
  have h := List.all_eq_true.mp h1 c hc
  rcases Bool.eq_false_or_eq_true (isCode c) with hi | hi
  · exact h2 c (List.mem_filter.mpr ⟨hc, hi⟩)
  · simpa [hi] using h
set_option maxRecDepth 65536 in
theorem w_c0 : (Jvm.Cond.code x code maxLocals ret).before args0 about1 = true := code_word (m := ⟨1, 1⟩) (meth := k1m1) (c := k1c1) (by decide +kernel) rfl rfl rfl (by decide +kernel)
set_option maxRecDepth 65536 in
theorem w_c1 : (Jvm.Cond.code ({ cls := "com/example/wire3/wire3/core/mmi/MmiService", name := "inNamespace", desc := "([B)Z" } : Jvm.MethodName) prog_11_method_5_code (1 : Nat) (Option.some Jvm.ClassFile.FieldType.boolean)).before args0 about1 = true := code_word (m := ⟨6, 0⟩) (meth := k6m0) (c := k6c0) (by decide +kernel) rfl rfl rfl (by decide +kernel)
set_option maxRecDepth 65536 in
theorem w_c2 : (Jvm.Cond.code ({ cls := "com/example/wire3/wire3/core/mmi/MmiServiceInNamespacePinLaw", name := "pick", desc := "(IIJB)B" } : Jvm.MethodName) method_3_code (5 : Nat) (Option.some Jvm.ClassFile.FieldType.byte)).before args0 about1 = true := code_word (m := ⟨1, 2⟩) (meth := k1m2) (c := k1c2) (by decide +kernel) rfl rfl rfl (by decide +kernel)
set_option maxRecDepth 65536 in
theorem w_c3 : (Jvm.Cond.code ({ cls := "java/util/Arrays", name := "equals", desc := "([BII[BII)Z" } : Jvm.MethodName) jdk_65_method_90_code (8 : Nat) (Option.some Jvm.ClassFile.FieldType.boolean)).before args0 about1 = true := code_word (m := ⟨7, 2⟩) (meth := k7m2) (c := k7c2) (by decide +kernel) rfl rfl rfl (by decide +kernel)
set_option maxRecDepth 65536 in
theorem w_c4 : (Jvm.Cond.code ({ cls := "java/util/Arrays", name := "rangeCheck", desc := "(III)V" } : Jvm.MethodName) jdk_65_method_30_code (3 : Nat) (Option.none : Option Jvm.ClassFile.FieldType)).before args0 about1 = true := code_word (m := ⟨7, 1⟩) (meth := k7m1) (c := k7c1) (by decide +kernel) rfl rfl rfl (by decide +kernel)
set_option maxRecDepth 65536 in
theorem w_c5 : (Jvm.Cond.code ({ cls := "jdk/internal/util/ArraysSupport", name := "mismatch", desc := "([BI[BII)I" } : Jvm.MethodName) jdk_48_method_14_code (8 : Nat) (Option.some Jvm.ClassFile.FieldType.int)).before args0 about1 = true := code_word (m := ⟨8, 1⟩) (meth := k8m1) (c := k8c1) (by decide +kernel) rfl rfl rfl (by decide +kernel)
def codes1 : List Jvm.Cond := [Jvm.Cond.code x code maxLocals ret, Jvm.Cond.code ({ cls := "com/example/wire3/wire3/core/mmi/MmiService", name := "inNamespace", desc := "([B)Z" } : Jvm.MethodName) prog_11_method_5_code (1 : Nat) (Option.some Jvm.ClassFile.FieldType.boolean), Jvm.Cond.code ({ cls := "com/example/wire3/wire3/core/mmi/MmiServiceInNamespacePinLaw", name := "pick", desc := "(IIJB)B" } : Jvm.MethodName) method_3_code (5 : Nat) (Option.some Jvm.ClassFile.FieldType.byte), Jvm.Cond.code ({ cls := "java/util/Arrays", name := "equals", desc := "([BII[BII)Z" } : Jvm.MethodName) jdk_65_method_90_code (8 : Nat) (Option.some Jvm.ClassFile.FieldType.boolean), Jvm.Cond.code ({ cls := "java/util/Arrays", name := "rangeCheck", desc := "(III)V" } : Jvm.MethodName) jdk_65_method_30_code (3 : Nat) (Option.none : Option Jvm.ClassFile.FieldType), Jvm.Cond.code ({ cls := "jdk/internal/util/ArraysSupport", name := "mismatch", desc := "([BI[BII)I" } : Jvm.MethodName) jdk_48_method_14_code (8 : Nat) (Option.some Jvm.ClassFile.FieldType.int)]
set_option maxRecDepth 65536 in
theorem codes_eq : words1.filter isCode = codes1 := rfl
theorem w_codes : ∀ c ∈ words1.filter isCode, c.before args0 about1 = true := by
  rw [codes_eq]
  intro c hc
  simp only [codes1, List.mem_cons, List.not_mem_nil, or_false] at hc
  rcases hc with rfl | rfl | rfl | rfl | rfl | rfl
  · exact w_c0
  · exact w_c1
  · exact w_c2
  · exact w_c3
  · exact w_c4
  · exact w_c5
set_option maxRecDepth 65536 in
theorem w_t1 : words1.all (fun c => isCode c || c.before args0 about1) = true := by decide +kernel
theorem w_tables : (allAtoms (Jvm.Cond.code x code maxLocals ret :: tables_1)).before args0 about1 = true := by
  rw [allAtoms_all]
  show words1.all (fun c => c.before args0 about1) = true
  refine all_split ?_ w_codes
  rw [w_t1]
set_option maxRecDepth 65536 in
theorem w_case : (Jvm.Cond.and given_1 narrow_1).before args0 about1 = true := by decide +kernel
theorem w_applies : (headSpec (Jvm.Cond.code x code maxLocals ret :: tables_1) room_1).applies x e0.platform about1 = true :=
  (Spec.applies_iff w_frames).mpr ⟨w_running, w_runnable, w_alone, w_named, w_hears, w_ripe, w_room, w_tables⟩
theorem atStart : AtStart classFile x code maxLocals ret World_1 tables_1 room_1 Calls_1 rest_1 Pre_1 launch0 p0 e0 about1 theMethod args0 below0 :=
  ⟨lists_1, trivial, launch0.admits_env _ _ _, launch0.least_env, fairChoices_fair.cas, fairChoices_fair.clock, w_frames, w_args, w_heap, w_applies, trivial, trivial, w_case⟩
end start1
theorem witness_1 : WitnessClaimed_1 := ⟨start1.p0, start1.e0, start1.about1, start1.theMethod, start1.args0, start1.below0, start1.atStart⟩
end Jvm.Pilot.@@N@@
