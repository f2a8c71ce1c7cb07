import JvmDerived
import JvmDerived.Pilot.@@N@@Statement
import JvmDerived.Pilot.@@N@@Code
set_option linter.unusedVariables false
set_option linter.unusedSimpArgs false
namespace Jvm.RoadKit
open Sem ClassFile Op Lib Jvm.Stand Jvm.Free Jvm.LawKit
section Own
variable {p : Program} {l : Launch} {e : Env} {R : Room} {s : State} {m : MethodId} {args : Array Value} {below : List Frame} {meth : Method} {c : Code} {T T1 : State} {locs : List Loc} {cells slots cs ss : Nat} {Q : Option Value → Heap → List Loc → Prop} {g g1 : JFrame}
/-- from the frame g over T the body comes to its end, and what it leaves is as Q says -/
def own_Goes (p : Program) (e : Env) (below : List Frame) (s : State) (Q : Option Value → Heap → List Loc → Prop) (cs ss : Nat) (T : State) (g : JFrame) : Prop :=
  ∃ s₂ o, Steps p.tables e below (T.setTop g) s₂ ∧ s₂.status = .running ∧ Ended s₂ below o ∧ ∃ v L, o = .returned v ∧ Q v s₂.heap L ∧ FrameEnd s o s₂ L cs ss
theorem own_go (st : ∀ target, Steps p.tables e below (T1.setTop g1) target → Steps p.tables e below (T.setTop g) target) (k : own_Goes p e below s Q cs ss T1 g1) : own_Goes p e below s Q cs ss T g := by
  obtain ⟨s₂, o, h, r⟩ := k
  exact ⟨s₂, o, st _ h, r⟩
theorem own_goS (st : Steps p.tables e below (T.setTop g) (T1.setTop g1)) (k : own_Goes p e below s Q cs ss T1 g1) : own_Goes p e below s Q cs ss T g := own_go (fun _ h => st.trans h) k
/-- the ends -/
theorem own_retN (X : Stand p l e R s m args below meth c T locs cells slots) (hx : p.tables.exec = Jvm.exec) {pc : Nat} {Ls : Array Slot} {z : Int32} {t : FieldType} {rest : List Value} (hlk : meth.locks = false) (hret : meth.sig.returnType = some t) (ht : t = .boolean ∨ t = .byte ∨ t = .char ∨ t = .short)
    (hd : decode c.code pc = .ok (.ireturn, 1)) (hc : cells ≤ cs) (hs : slots ≤ ss) (hQ : Q (some (.int (nar t z))) T.heap locs) : own_Goes p e below s Q cs ss T (mkF m pc Ls (.int z :: rest)) := by
  obtain ⟨fs, hr, hrun, hended, hW, hsame⟩ := X.leave (v := some (.int (nar t z))) (fun h => by rw [hret] at h; cases h) hlk
  exact ⟨_, _, retN X hx hret ht hd hr, hrun, hended, _, _, rfl, hQ, ⟨_, rfl⟩, hW, hsame.mono hc hs⟩
theorem own_ret (X : Stand p l e R s m args below meth c T locs cells slots) (hx : p.tables.exec = Jvm.exec) {pc : Nat} {Ls : Array Slot} {w : Value} {t : FieldType} {i : Instr} {rest : List Value} (hlk : meth.locks = false) (hret : meth.sig.returnType = some t) (hn : narrow t w = w)
    (hi : (i = .ireturn ∧ (t = .int ∨ t = .boolean ∨ t = .byte ∨ t = .char ∨ t = .short) ∧ ∃ z, w = .int z) ∨ (i = .lreturn ∧ t = .long ∧ ∃ z, w = .long z) ∨ (i = .dreturn ∧ t = .double ∧ ∃ z, w = .double z) ∨ (i = .freturn ∧ t = .float ∧ ∃ z, w = .float z) ∨ (i = .areturn ∧ t.isReference = true ∧ w.isRef = true))
    (hd : decode c.code pc = .ok (i, 1)) (hc : cells ≤ cs) (hs : slots ≤ ss) (hQ : Q (some w) T.heap locs) : own_Goes p e below s Q cs ss T (mkF m pc Ls (w :: rest)) := by
  obtain ⟨fs, hr, hrun, hended, hW, hsame⟩ := X.leave (v := some w) (fun h => by rw [hret] at h; cases h) hlk
  exact ⟨_, _, retOut X hx hret hn hi hd hr, hrun, hended, _, _, rfl, hQ, ⟨_, rfl⟩, hW, hsame.mono hc hs⟩
theorem own_retI (X : Stand p l e R s m args below meth c T locs cells slots) (hx : p.tables.exec = Jvm.exec) {pc : Nat} {Ls : Array Slot} {z : Int32} {rest : List Value} (hlk : meth.locks = false) (hret : meth.sig.returnType = some .int)
    (hd : decode c.code pc = .ok (.ireturn, 1)) (hc : cells ≤ cs) (hs : slots ≤ ss) (hQ : Q (some (.int z)) T.heap locs) : own_Goes p e below s Q cs ss T (mkF m pc Ls (.int z :: rest)) :=
  own_ret X hx hlk hret rfl (Or.inl ⟨rfl, Or.inl rfl, _, rfl⟩) hd hc hs hQ
theorem own_retA (X : Stand p l e R s m args below meth c T locs cells slots) (hx : p.tables.exec = Jvm.exec) {pc : Nat} {Ls : Array Slot} {w : Value} {t : FieldType} {rest : List Value} (hlk : meth.locks = false) (hret : meth.sig.returnType = some t) (ht : t.isReference = true) (hw : w.isRef = true)
    (hd : decode c.code pc = .ok (.areturn, 1)) (hc : cells ≤ cs) (hs : slots ≤ ss) (hQ : Q (some w) T.heap locs) : own_Goes p e below s Q cs ss T (mkF m pc Ls (w :: rest)) :=
  own_ret X hx hlk hret (by rcases ref_cases hw with rfl | ⟨a, rfl⟩ <;> cases t <;> simp [FieldType.isReference] at ht <;> rfl) (Or.inr (Or.inr (Or.inr (Or.inr ⟨rfl, ht, hw⟩)))) hd hc hs hQ
theorem own_more (X : Stand p l e R s m args below meth c T locs cells slots) {cells' slots' : Nat} (h1 : cells ≤ cells') (h2 : slots ≤ slots') : Stand p l e R s m args below meth c T locs cells' slots' := X.more h1 h2
theorem own_retV (X : Stand p l e R s m args below meth c T locs cells slots) (hx : p.tables.exec = Jvm.exec) {pc : Nat} {Ls : Array Slot} (hlk : meth.locks = false) (hret : meth.sig.returnType = none)
    (hd : decode c.code pc = .ok (.return_, 1)) (hc : cells ≤ cs) (hs : slots ≤ ss) (hQ : Q none T.heap locs) : own_Goes p e below s Q cs ss T (mkF m pc Ls []) := by
  obtain ⟨fs, hr, hrun, hended, hW, hsame⟩ := X.leave (v := none) (fun _ => rfl) hlk
  exact ⟨_, _, X.returnOut hx hret hd hr, hrun, hended, _, _, rfl, hQ, ⟨_, rfl⟩, hW, hsame.mono hc hs⟩
/-- what holds throughout a body's walk -/
def own_Ctx (Z : State) (y : MethodName) (own : String) (bytes : ByteArray) (maxL : Nat) (ret : Option FieldType) (p : Program) (s : State) (m : MethodId) (meth : Method) (c : Code) : Prop :=
  p.tables.exec = Jvm.exec ∧ c.code = bytes ∧ c.maxLocals = maxL ∧ s.vm.findClass own = some m.cls ∧ meth.name = y.name ∧ meth.sig.returnType = ret ∧ meth.locks = false ∧ Z.Warmed39 s.vm
theorem own_met {Z : State} {y : MethodName} {own : String} {bytes : ByteArray} {maxL : Nat} {ret : Option FieldType} {ws : List Cond} {rm : Room} {as' : Array Value} {h0 : Heap} (hy : y.cls = own) (hpn : plainFor y = true)
    (body : ∀ (p : Program) (e : Env) (s : State) (m : MethodId) (below : List Frame) (meth : Method) (c : Code) (s₁ : State), own_Ctx Z y own bytes maxL ret p s m meth c → s₁.heap = h0 → Stand p l e rm s m as' below meth c s₁ [] 0 0 → own_Goes p e below s Q cs ss s₁ (entryFrame m as' maxL)) :
    MetFree l y (head1 (Cond.code y bytes maxL ret :: ws) rm) (fun a U => a = as' ∧ Z.Warmed39 U.vm ∧ U.heap = h0) (fun _ _ _ _ _ => True) (fun _ U o U' => ∃ v L, o = .returned v ∧ Q v U'.heap L ∧ FrameEnd U o U' L cs ss) := by
  subst hy
  refine MetFree.of_bodySF hpn hisR ?_
  intro p e s m args below meth c s₁ Bd hml0 hP hK
  obtain ⟨rfl, hZ, hh⟩ := hP
  exact body p e s m below meth c s₁ ⟨Bd.exec, Bd.bytes, hml0, findClass_of_methodNamed Bd.named, (name_of_methodNamed Bd.named Bd.method).1, Bd.returns, Bd.notSynchronized, hZ⟩ (by rw [← hh, Bd.state]; rfl) (Stand.of_body Bd)
end Own
end Jvm.RoadKit
namespace Jvm.Pilot.@@N@@
open Jvm Jvm.ClassFile Sem Op Lib Jvm.Free Jvm.Stand Jvm.LawKit Jvm.RoadKit Bundle Jvm.Pilot.@@N@@.Jvm.D
theorem own_selP {s : State} {args : Array Value} {y : MethodName} {C : String} {n : Nat} (hy0 : y.cls = C) (wi : (Jvm.Cond.instantiable C n).before args s = true) (hinst : (Jvm.Cond.instanceMethod y).before args s = true) (hp : s.PrivateAt y) (hy : y.cls ≠ "java/lang/invoke/MethodHandle" ∧ y.cls ≠ "java/lang/invoke/VarHandle") : (Jvm.Cond.selects C y y).before args s = true := by
  subst hy0
  obtain ⟨c, k, h1, h2, -, h4, -, -⟩ := Cond.instantiable_spec wi
  exact selects_self_of_private h1 h2 (Bool.or_eq_false_iff.mp h4).1 hp hinst hy
theorem own_len {args : Array Value} {s : State} {t : Term} {a : Addr} {cl : Cell} {ty : FieldType} {k : Int32} {n : Nat} (ev : t.eval args s none [] s = some (.ref a)) (A : Arr s s.heap a cl ty) (h : (Jvm.Cond.eq (Term.length t) (Term.int k)).value args s none s [] = some true) (hk : k.toInt = n) : cl.slots.size = n := by
  obtain ⟨x, y, h1, h2, -, -⟩ := cmp_v (Or.inl h)
  have ha := A.fin (Vm.Alike.refl _)
  simp only [Term.eval, ev, ha, Option.bind_eq_bind, Option.bind_some, Option.pure_def] at h1
  split at h1
  · rename_i hlt
    cases h1
    simp only [Term.eval] at h2
    cases h2
    have q : cl.slots.size.toInt32 = k := by
      simp only [Jvm.Cond.value, Term.eval, ev, ha, Option.bind_eq_bind, Option.bind_some, Option.pure_def, hlt] at h
      simpa using h
    have r := congrArg Int32.toInt q
    rw [len_toInt (by omega), hk] at r
    omega
  · cases h1
theorem mvM {Z s : State} {a0 args : Array Value} {own host : String} {y : MethodName} {index : Nat} (hZ : Z.Warmed39 s.vm) (w : (Jvm.Cond.methodLinkNest own index y host).before a0 Z = true) : (Jvm.Cond.methodLinkNest own index y host).before args s = true := (Cond.methodLinkNest_wide hZ w :)
theorem own_mir {Z s : State} {args : Array Value} {C : String} {a : Addr} (hZ : Z.Warmed39 s.vm) (M : Mir Z C a) : (Term.mirror C).eval args s none [] s = some (.ref a) := by
  obtain ⟨c, k, h1, h2, h3, -⟩ := M
  obtain ⟨k', q, ek⟩ := hZ.alike.2.2 _ _ h2
  have h1' : s.vm.findClass C = some c := by rw [hZ.alike.findClass]; exact h1
  have h3' : k'.mirror = some a := by rw [ek]; exact h3
  simp [Term.eval, h1', q, h3']
theorem own_nas3 {Z : State} {a0 : Array Value} {C S T O K : String} {n : Nat} (w1 : (Jvm.Cond.superclass C S).before a0 Z = true) (w2 : (Jvm.Cond.superclass S T).before a0 Z = true) (w3 : (Jvm.Cond.superclass T O).before a0 Z = true) (wo : (Jvm.Cond.noSuperclass O).before a0 Z = true) (wk : (Jvm.Cond.instantiable K n).before a0 Z = true) (h1 : C ≠ K) (h2 : S ≠ K) (h3 : T ≠ K) (h4 : O ≠ K) :
    ∃ c t, Z.vm.findClass C = some c ∧ Z.vm.findClass K = some t ∧ Z.vm.assignable c t = false := by
  obtain ⟨t, kt, g0, g2, g5, g7, -, -⟩ := Cond.instantiable_spec wk
  have hi : kt.isInterface = false := (Bool.or_eq_false_iff.mp g7).1
  obtain ⟨o, ko, o1, o2, o3, -, -⟩ := Cond.noSuperclass_spec wo
  have ne4 := ids_ne o1 g0 h4
  have r : NS Z O K := ⟨o, t, o1, g0, fun fuel => by
    cases fuel with
    | zero => rfl
    | succ f => simp [Vm.isSubclassAux, ne4, o2, o3]⟩
  obtain ⟨c, t', e1, e2, e3⟩ := NS.step w1 (NS.step w2 (NS.step w3 r h3) h2) h1
  cases g0.symm.trans e2
  obtain ⟨p, k, kp, q1, q2, q3, q4, q5, -, q7⟩ := Cond.superclass_spec e1 w1
  have ne1 := ids_ne e1 g0 h1
  refine ⟨c, t, e1, g0, ?_⟩
  show Z.vm.assignableAux (255 + 1) c t = false
  simp [Vm.assignableAux, ne1, q2, g2, q5, g5, hi, Vm.isSubclass, e3]
theorem own_and3 (p : Int32) : (p &&& (3 : Int32)) = (0 : Int32) ∨ (p &&& (3 : Int32)) = (1 : Int32) ∨ (p &&& (3 : Int32)) = (2 : Int32) ∨ (p &&& (3 : Int32)) = (3 : Int32) := by
  have h1 : (p &&& (3 : Int32)).toInt = p.toInt % (2 ^ 2 : Nat) := c_mask p _ 2 (by decide) (by decide)
  have h3 : ∀ k : Int32, (p &&& (3 : Int32)).toInt = k.toInt → (p &&& (3 : Int32)) = k := fun k h => Int32.toInt_inj.mp h
  have h4 : (p &&& (3 : Int32)).toInt = 0 ∨ (p &&& (3 : Int32)).toInt = 1 ∨ (p &&& (3 : Int32)).toInt = 2 ∨ (p &&& (3 : Int32)).toInt = 3 := by omega
  rcases h4 with h | h | h | h
  · exact Or.inl (h3 0 h)
  · exact Or.inr (Or.inl (h3 1 h))
  · exact Or.inr (Or.inr (Or.inl (h3 2 h)))
  · exact Or.inr (Or.inr (Or.inr (h3 3 h)))
theorem own_c255 (x : Int32) : ¬ (255 : Int32) < ((x &&& (255 : Int32)).toUInt32.toUInt16.toUInt32.toInt32) := by
  have h1 : (x &&& (255 : Int32)).toInt = x.toInt % (2 ^ 8 : Nat) := c_mask x _ 8 (by decide) (by decide)
  have h2 := c_i2c (x &&& (255 : Int32))
  rw [Int32.lt_iff_toInt_lt]
  show ¬ (255 : Int) < _
  omega
theorem d1_0 : decode prog_52_method_1_code 0 = .ok (.aload_n 0, 1) := by decide +kernel
theorem d1_1 : decode prog_52_method_1_code 1 = .ok (.invokespecial 1, 3) := by decide +kernel
theorem d1_4 : decode prog_52_method_1_code 4 = .ok (.aload_n 0, 1) := by decide +kernel
theorem d1_5 : decode prog_52_method_1_code 5 = .ok (.aload_n 1, 1) := by decide +kernel
theorem d1_6 : decode prog_52_method_1_code 6 = .ok (.putfield 7, 3) := by decide +kernel
theorem d1_9 : decode prog_52_method_1_code 9 = .ok (.aload_n 0, 1) := by decide +kernel
theorem d1_10 : decode prog_52_method_1_code 10 = .ok (.aload_n 2, 1) := by decide +kernel
theorem d1_11 : decode prog_52_method_1_code 11 = .ok (.putfield 13, 3) := by decide +kernel
theorem d1_14 : decode prog_52_method_1_code 14 = .ok (.return_, 1) := by decide +kernel
theorem d3_0 : decode prog_52_method_4_code 0 = .ok (.aload_n 0, 1) := by decide +kernel
theorem d3_1 : decode prog_52_method_4_code 1 = .ok (.getfield 17, 3) := by decide +kernel
theorem d3_4 : decode prog_52_method_4_code 4 = .ok (.ifnull 7, 3) := by decide +kernel
theorem d3_7 : decode prog_52_method_4_code 7 = .ok (.iconst 1, 1) := by decide +kernel
theorem d3_8 : decode prog_52_method_4_code 8 = .ok (.goto 4, 3) := by decide +kernel
theorem d3_11 : decode prog_52_method_4_code 11 = .ok (.iconst 0, 1) := by decide +kernel
theorem d3_12 : decode prog_52_method_4_code 12 = .ok (.ireturn, 1) := by decide +kernel
theorem d4_0 : decode prog_52_method_5_code 0 = .ok (.aload_n 0, 1) := by decide +kernel
theorem d4_1 : decode prog_52_method_5_code 1 = .ok (.getfield 17, 3) := by decide +kernel
theorem d4_4 : decode prog_52_method_5_code 4 = .ok (.areturn, 1) := by decide +kernel
theorem d5_0 : decode prog_54_method_1_code 0 = .ok (.aload_n 0, 1) := by decide +kernel
theorem d5_1 : decode prog_54_method_1_code 1 = .ok (.invokespecial 1, 3) := by decide +kernel
theorem d5_4 : decode prog_54_method_1_code 4 = .ok (.aload_n 0, 1) := by decide +kernel
theorem d5_5 : decode prog_54_method_1_code 5 = .ok (.aload_n 1, 1) := by decide +kernel
theorem d5_6 : decode prog_54_method_1_code 6 = .ok (.putfield 7, 3) := by decide +kernel
theorem d5_9 : decode prog_54_method_1_code 9 = .ok (.aload_n 0, 1) := by decide +kernel
theorem d5_10 : decode prog_54_method_1_code 10 = .ok (.aload_n 2, 1) := by decide +kernel
theorem d5_11 : decode prog_54_method_1_code 11 = .ok (.putfield 13, 3) := by decide +kernel
theorem d5_14 : decode prog_54_method_1_code 14 = .ok (.aload_n 0, 1) := by decide +kernel
theorem d5_15 : decode prog_54_method_1_code 15 = .ok (.aload_n 3, 1) := by decide +kernel
theorem d5_16 : decode prog_54_method_1_code 16 = .ok (.putfield 17, 3) := by decide +kernel
theorem d5_19 : decode prog_54_method_1_code 19 = .ok (.aload_n 0, 1) := by decide +kernel
theorem d5_20 : decode prog_54_method_1_code 20 = .ok (.iload 4, 2) := by decide +kernel
theorem d5_22 : decode prog_54_method_1_code 22 = .ok (.putfield 21, 3) := by decide +kernel
theorem d5_25 : decode prog_54_method_1_code 25 = .ok (.return_, 1) := by decide +kernel
theorem d6_0 : decode jdk_38_method_2_code 0 = .ok (.aload_n 0, 1) := by decide +kernel
theorem d6_1 : decode jdk_38_method_2_code 1 = .ok (.invokespecial 1, 3) := by decide +kernel
theorem d6_4 : decode jdk_38_method_2_code 4 = .ok (.aload_n 0, 1) := by decide +kernel
theorem d6_5 : decode jdk_38_method_2_code 5 = .ok (.getstatic 39, 3) := by decide +kernel
theorem d6_8 : decode jdk_38_method_2_code 8 = .ok (.putfield 9, 3) := by decide +kernel
theorem d6_11 : decode jdk_38_method_2_code 11 = .ok (.return_, 1) := by decide +kernel
theorem d7_0 : decode jdk_39_method_1_code 0 = .ok (.aload_n 0, 1) := by decide +kernel
theorem d7_1 : decode jdk_39_method_1_code 1 = .ok (.invokespecial 1, 3) := by decide +kernel
theorem d7_4 : decode jdk_39_method_1_code 4 = .ok (.aload_n 0, 1) := by decide +kernel
theorem d7_5 : decode jdk_39_method_1_code 5 = .ok (.iconst 0, 1) := by decide +kernel
theorem d7_6 : decode jdk_39_method_1_code 6 = .ok (.putfield 7, 3) := by decide +kernel
theorem d7_9 : decode jdk_39_method_1_code 9 = .ok (.return_, 1) := by decide +kernel
theorem d8_0 : decode jdk_22_method_1_code 0 = .ok (.aload_n 0, 1) := by decide +kernel
theorem d8_1 : decode jdk_22_method_1_code 1 = .ok (.invokespecial 1, 3) := by decide +kernel
theorem d8_4 : decode jdk_22_method_1_code 4 = .ok (.return_, 1) := by decide +kernel
theorem d9_0 : decode jdk_38_method_25_code 0 = .ok (.aload_n 0, 1) := by decide +kernel
theorem d9_1 : decode jdk_38_method_25_code 1 = .ok (.dup, 1) := by decide +kernel
theorem d9_2 : decode jdk_38_method_25_code 2 = .ok (.getfield 63, 3) := by decide +kernel
theorem d9_5 : decode jdk_38_method_25_code 5 = .ok (.iconst 1, 1) := by decide +kernel
theorem d9_6 : decode jdk_38_method_25_code 6 = .ok (.iadd, 1) := by decide +kernel
theorem d9_7 : decode jdk_38_method_25_code 7 = .ok (.putfield 63, 3) := by decide +kernel
theorem d9_10 : decode jdk_38_method_25_code 10 = .ok (.aload_n 0, 1) := by decide +kernel
theorem d9_11 : decode jdk_38_method_25_code 11 = .ok (.aload_n 1, 1) := by decide +kernel
theorem d9_12 : decode jdk_38_method_25_code 12 = .ok (.aload_n 0, 1) := by decide +kernel
theorem d9_13 : decode jdk_38_method_25_code 13 = .ok (.getfield 9, 3) := by decide +kernel
theorem d9_16 : decode jdk_38_method_25_code 16 = .ok (.aload_n 0, 1) := by decide +kernel
theorem d9_17 : decode jdk_38_method_25_code 17 = .ok (.getfield 48, 3) := by decide +kernel
theorem d9_20 : decode jdk_38_method_25_code 20 = .ok (.invokevirtual 131, 3) := by decide +kernel
theorem d9_23 : decode jdk_38_method_25_code 23 = .ok (.iconst 1, 1) := by decide +kernel
theorem d9_24 : decode jdk_38_method_25_code 24 = .ok (.ireturn, 1) := by decide +kernel
theorem d10_0 : decode jdk_38_method_24_code 0 = .ok (.iload_n 3, 1) := by decide +kernel
theorem d10_1 : decode jdk_38_method_24_code 1 = .ok (.aload_n 2, 1) := by decide +kernel
theorem d10_2 : decode jdk_38_method_24_code 2 = .ok (.arraylength, 1) := by decide +kernel
theorem d10_3 : decode jdk_38_method_24_code 3 = .ok (.if_icmp .ne 8, 3) := by decide +kernel
theorem d10_6 : decode jdk_38_method_24_code 6 = .ok (.aload_n 0, 1) := by decide +kernel
theorem d10_7 : decode jdk_38_method_24_code 7 = .ok (.invokevirtual 129, 3) := by decide +kernel
theorem d10_10 : decode jdk_38_method_24_code 10 = .ok (.astore_n 2, 1) := by decide +kernel
theorem d10_11 : decode jdk_38_method_24_code 11 = .ok (.aload_n 2, 1) := by decide +kernel
theorem d10_12 : decode jdk_38_method_24_code 12 = .ok (.iload_n 3, 1) := by decide +kernel
theorem d10_13 : decode jdk_38_method_24_code 13 = .ok (.aload_n 1, 1) := by decide +kernel
theorem d10_14 : decode jdk_38_method_24_code 14 = .ok (.aastore, 1) := by decide +kernel
theorem d10_15 : decode jdk_38_method_24_code 15 = .ok (.aload_n 0, 1) := by decide +kernel
theorem d10_16 : decode jdk_38_method_24_code 16 = .ok (.iload_n 3, 1) := by decide +kernel
theorem d10_17 : decode jdk_38_method_24_code 17 = .ok (.iconst 1, 1) := by decide +kernel
theorem d10_18 : decode jdk_38_method_24_code 18 = .ok (.iadd, 1) := by decide +kernel
theorem d10_19 : decode jdk_38_method_24_code 19 = .ok (.putfield 48, 3) := by decide +kernel
theorem d10_22 : decode jdk_38_method_24_code 22 = .ok (.return_, 1) := by decide +kernel
theorem d11_0 : decode jdk_38_method_7_code 0 = .ok (.aload_n 0, 1) := by decide +kernel
theorem d11_1 : decode jdk_38_method_7_code 1 = .ok (.aload_n 0, 1) := by decide +kernel
theorem d11_2 : decode jdk_38_method_7_code 2 = .ok (.getfield 48, 3) := by decide +kernel
theorem d11_5 : decode jdk_38_method_7_code 5 = .ok (.iconst 1, 1) := by decide +kernel
theorem d11_6 : decode jdk_38_method_7_code 6 = .ok (.iadd, 1) := by decide +kernel
theorem d11_7 : decode jdk_38_method_7_code 7 = .ok (.invokevirtual 69, 3) := by decide +kernel
theorem d11_10 : decode jdk_38_method_7_code 10 = .ok (.areturn, 1) := by decide +kernel
theorem d12_0 : decode jdk_38_method_6_code 0 = .ok (.aload_n 0, 1) := by decide +kernel
theorem d12_1 : decode jdk_38_method_6_code 1 = .ok (.getfield 9, 3) := by decide +kernel
theorem d12_4 : decode jdk_38_method_6_code 4 = .ok (.arraylength, 1) := by decide +kernel
theorem d12_5 : decode jdk_38_method_6_code 5 = .ok (.istore_n 2, 1) := by decide +kernel
theorem d12_6 : decode jdk_38_method_6_code 6 = .ok (.iload_n 2, 1) := by decide +kernel
theorem d12_7 : decode jdk_38_method_6_code 7 = .ok (.ifCond .gt 13, 3) := by decide +kernel
theorem d12_10 : decode jdk_38_method_6_code 10 = .ok (.aload_n 0, 1) := by decide +kernel
theorem d12_11 : decode jdk_38_method_6_code 11 = .ok (.getfield 9, 3) := by decide +kernel
theorem d12_14 : decode jdk_38_method_6_code 14 = .ok (.getstatic 39, 3) := by decide +kernel
theorem d12_17 : decode jdk_38_method_6_code 17 = .ok (.if_acmp .eq 28, 3) := by decide +kernel
theorem d12_45 : decode jdk_38_method_6_code 45 = .ok (.aload_n 0, 1) := by decide +kernel
theorem d12_46 : decode jdk_38_method_6_code 46 = .ok (.bipush 10, 2) := by decide +kernel
theorem d12_48 : decode jdk_38_method_6_code 48 = .ok (.iload_n 1, 1) := by decide +kernel
theorem d12_49 : decode jdk_38_method_6_code 49 = .ok (.invokestatic 79, 3) := by decide +kernel
theorem d12_52 : decode jdk_38_method_6_code 52 = .ok (.anewarray 7, 3) := by decide +kernel
theorem d12_55 : decode jdk_38_method_6_code 55 = .ok (.dup_x1, 1) := by decide +kernel
theorem d12_56 : decode jdk_38_method_6_code 56 = .ok (.putfield 9, 3) := by decide +kernel
theorem d12_59 : decode jdk_38_method_6_code 59 = .ok (.areturn, 1) := by decide +kernel
theorem d13_0 : decode jdk_29_method_65_code 0 = .ok (.iload_n 0, 1) := by decide +kernel
theorem d13_1 : decode jdk_29_method_65_code 1 = .ok (.iload_n 1, 1) := by decide +kernel
theorem d13_2 : decode jdk_29_method_65_code 2 = .ok (.if_icmp .lt 7, 3) := by decide +kernel
theorem d13_5 : decode jdk_29_method_65_code 5 = .ok (.iload_n 0, 1) := by decide +kernel
theorem d13_6 : decode jdk_29_method_65_code 6 = .ok (.goto 4, 3) := by decide +kernel
theorem d13_10 : decode jdk_29_method_65_code 10 = .ok (.ireturn, 1) := by decide +kernel
theorem d14_0 : decode prog_52_method_2_code 0 = .ok (.aload_n 0, 1) := by decide +kernel
theorem d14_1 : decode prog_52_method_2_code 1 = .ok (.getfield 17, 3) := by decide +kernel
theorem d14_4 : decode prog_52_method_2_code 4 = .ok (.ifnull 20, 3) := by decide +kernel
theorem d14_24 : decode prog_52_method_2_code 24 = .ok (.aload_n 0, 1) := by decide +kernel
theorem d14_25 : decode prog_52_method_2_code 25 = .ok (.aload_n 1, 1) := by decide +kernel
theorem d14_26 : decode prog_52_method_2_code 26 = .ok (.invokestatic 36, 3) := by decide +kernel
theorem d14_29 : decode prog_52_method_2_code 29 = .ok (.putfield 17, 3) := by decide +kernel
theorem d14_32 : decode prog_52_method_2_code 32 = .ok (.aload_n 0, 1) := by decide +kernel
theorem d14_33 : decode prog_52_method_2_code 33 = .ok (.iload_n 2, 1) := by decide +kernel
theorem d14_34 : decode prog_52_method_2_code 34 = .ok (.putfield 42, 3) := by decide +kernel
theorem d14_37 : decode prog_52_method_2_code 37 = .ok (.aload_n 0, 1) := by decide +kernel
theorem d14_38 : decode prog_52_method_2_code 38 = .ok (.iload_n 3, 1) := by decide +kernel
theorem d14_39 : decode prog_52_method_2_code 39 = .ok (.putfield 46, 3) := by decide +kernel
theorem d14_42 : decode prog_52_method_2_code 42 = .ok (.return_, 1) := by decide +kernel
theorem d15_0 : decode jdk_40_method_48_code 0 = .ok (.aload_n 0, 1) := by decide +kernel
theorem d15_1 : decode jdk_40_method_48_code 1 = .ok (.invokestatic 112, 3) := by decide +kernel
theorem d15_4 : decode jdk_40_method_48_code 4 = .ok (.areturn, 1) := by decide +kernel
theorem d16_0 : decode jdk_56_method_3_code 0 = .ok (.aload_n 0, 1) := by decide +kernel
theorem d16_1 : decode jdk_56_method_3_code 1 = .ok (.instanceof 10, 3) := by decide +kernel
theorem d16_4 : decode jdk_56_method_3_code 4 = .ok (.ifCond .ne 22, 3) := by decide +kernel
theorem d16_7 : decode jdk_56_method_3_code 7 = .ok (.aload_n 0, 1) := by decide +kernel
theorem d16_8 : decode jdk_56_method_3_code 8 = .ok (.instanceof 12, 3) := by decide +kernel
theorem d16_11 : decode jdk_56_method_3_code 11 = .ok (.ifCond .eq 20, 3) := by decide +kernel
theorem d16_31 : decode jdk_56_method_3_code 31 = .ok (.aload_n 0, 1) := by decide +kernel
theorem d16_32 : decode jdk_56_method_3_code 32 = .ok (.invokeinterface 20 1, 5) := by decide +kernel
theorem d16_37 : decode jdk_56_method_3_code 37 = .ok (.ifCond .eq 7, 3) := by decide +kernel
theorem d16_40 : decode jdk_56_method_3_code 40 = .ok (.invokestatic 26, 3) := by decide +kernel
theorem d16_43 : decode jdk_56_method_3_code 43 = .ok (.areturn, 1) := by decide +kernel
theorem d16_44 : decode jdk_56_method_3_code 44 = .ok (.aload_n 0, 1) := by decide +kernel
theorem d16_45 : decode jdk_56_method_3_code 45 = .ok (.invokeinterface 30 1, 5) := by decide +kernel
theorem d16_50 : decode jdk_56_method_3_code 50 = .ok (.invokestatic 34, 3) := by decide +kernel
theorem d16_53 : decode jdk_56_method_3_code 53 = .ok (.areturn, 1) := by decide +kernel
theorem d17_0 : decode jdk_38_method_9_code 0 = .ok (.aload_n 0, 1) := by decide +kernel
theorem d17_1 : decode jdk_38_method_9_code 1 = .ok (.getfield 48, 3) := by decide +kernel
theorem d17_4 : decode jdk_38_method_9_code 4 = .ok (.ifCond .ne 7, 3) := by decide +kernel
theorem d17_7 : decode jdk_38_method_9_code 7 = .ok (.iconst 1, 1) := by decide +kernel
theorem d17_8 : decode jdk_38_method_9_code 8 = .ok (.goto 4, 3) := by decide +kernel
theorem d17_11 : decode jdk_38_method_9_code 11 = .ok (.iconst 0, 1) := by decide +kernel
theorem d17_12 : decode jdk_38_method_9_code 12 = .ok (.ireturn, 1) := by decide +kernel
theorem d18_0 : decode jdk_38_method_16_code 0 = .ok (.aload_n 0, 1) := by decide +kernel
theorem d18_1 : decode jdk_38_method_16_code 1 = .ok (.getfield 9, 3) := by decide +kernel
theorem d18_4 : decode jdk_38_method_16_code 4 = .ok (.aload_n 0, 1) := by decide +kernel
theorem d18_5 : decode jdk_38_method_16_code 5 = .ok (.getfield 48, 3) := by decide +kernel
theorem d18_8 : decode jdk_38_method_16_code 8 = .ok (.invokestatic 66, 3) := by decide +kernel
theorem d18_11 : decode jdk_38_method_16_code 11 = .ok (.areturn, 1) := by decide +kernel
theorem d19_0 : decode jdk_65_method_119_code 0 = .ok (.aload_n 0, 1) := by decide +kernel
theorem d19_1 : decode jdk_65_method_119_code 1 = .ok (.iload_n 1, 1) := by decide +kernel
theorem d19_2 : decode jdk_65_method_119_code 2 = .ok (.aload_n 0, 1) := by decide +kernel
theorem d19_3 : decode jdk_65_method_119_code 3 = .ok (.invokevirtual 86, 3) := by decide +kernel
theorem d19_6 : decode jdk_65_method_119_code 6 = .ok (.invokestatic 300, 3) := by decide +kernel
theorem d19_9 : decode jdk_65_method_119_code 9 = .ok (.areturn, 1) := by decide +kernel
theorem d20_0 : decode jdk_65_method_120_code 0 = .ok (.aload_n 2, 1) := by decide +kernel
theorem d20_1 : decode jdk_65_method_120_code 1 = .ok (.ldc 110, 2) := by decide +kernel
theorem d20_3 : decode jdk_65_method_120_code 3 = .ok (.if_acmp .ne 10, 3) := by decide +kernel
theorem d20_6 : decode jdk_65_method_120_code 6 = .ok (.iload_n 1, 1) := by decide +kernel
theorem d20_7 : decode jdk_65_method_120_code 7 = .ok (.anewarray 2, 3) := by decide +kernel
theorem d20_10 : decode jdk_65_method_120_code 10 = .ok (.goto 14, 3) := by decide +kernel
theorem d20_24 : decode jdk_65_method_120_code 24 = .ok (.astore_n 3, 1) := by decide +kernel
theorem d20_25 : decode jdk_65_method_120_code 25 = .ok (.aload_n 0, 1) := by decide +kernel
theorem d20_26 : decode jdk_65_method_120_code 26 = .ok (.iconst 0, 1) := by decide +kernel
theorem d20_27 : decode jdk_65_method_120_code 27 = .ok (.aload_n 3, 1) := by decide +kernel
theorem d20_28 : decode jdk_65_method_120_code 28 = .ok (.iconst 0, 1) := by decide +kernel
theorem d20_29 : decode jdk_65_method_120_code 29 = .ok (.aload_n 0, 1) := by decide +kernel
theorem d20_30 : decode jdk_65_method_120_code 30 = .ok (.arraylength, 1) := by decide +kernel
theorem d20_31 : decode jdk_65_method_120_code 31 = .ok (.iload_n 1, 1) := by decide +kernel
theorem d20_32 : decode jdk_65_method_120_code 32 = .ok (.invokestatic 304, 3) := by decide +kernel
theorem d20_35 : decode jdk_65_method_120_code 35 = .ok (.invokestatic 150, 3) := by decide +kernel
theorem d20_38 : decode jdk_65_method_120_code 38 = .ok (.aload_n 3, 1) := by decide +kernel
theorem d20_39 : decode jdk_65_method_120_code 39 = .ok (.areturn, 1) := by decide +kernel
theorem d21_0 : decode jdk_29_method_69_code 0 = .ok (.iload_n 0, 1) := by decide +kernel
theorem d21_1 : decode jdk_29_method_69_code 1 = .ok (.iload_n 1, 1) := by decide +kernel
theorem d21_2 : decode jdk_29_method_69_code 2 = .ok (.if_icmp .gt 7, 3) := by decide +kernel
theorem d21_9 : decode jdk_29_method_69_code 9 = .ok (.iload_n 1, 1) := by decide +kernel
theorem d21_10 : decode jdk_29_method_69_code 10 = .ok (.ireturn, 1) := by decide +kernel
theorem d22_0 : decode jdk_40_method_47_code 0 = .ok (.aload_n 0, 1) := by decide +kernel
theorem d22_1 : decode jdk_40_method_47_code 1 = .ok (.arraylength, 1) := by decide +kernel
theorem d22_2 : decode jdk_40_method_47_code 2 = .ok (.tableswitch 57 0 2 #[26, 32, 43], 26) := by decide +kernel
theorem d22_34 : decode jdk_40_method_47_code 34 = .ok (.new 96, 3) := by decide +kernel
theorem d22_37 : decode jdk_40_method_47_code 37 = .ok (.dup, 1) := by decide +kernel
theorem d22_38 : decode jdk_40_method_47_code 38 = .ok (.aload_n 0, 1) := by decide +kernel
theorem d22_39 : decode jdk_40_method_47_code 39 = .ok (.iconst 0, 1) := by decide +kernel
theorem d22_40 : decode jdk_40_method_47_code 40 = .ok (.aaload, 1) := by decide +kernel
theorem d22_41 : decode jdk_40_method_47_code 41 = .ok (.invokespecial 98, 3) := by decide +kernel
theorem d22_44 : decode jdk_40_method_47_code 44 = .ok (.areturn, 1) := by decide +kernel
theorem d22_45 : decode jdk_40_method_47_code 45 = .ok (.new 96, 3) := by decide +kernel
theorem d22_48 : decode jdk_40_method_47_code 48 = .ok (.dup, 1) := by decide +kernel
theorem d22_49 : decode jdk_40_method_47_code 49 = .ok (.aload_n 0, 1) := by decide +kernel
theorem d22_50 : decode jdk_40_method_47_code 50 = .ok (.iconst 0, 1) := by decide +kernel
theorem d22_51 : decode jdk_40_method_47_code 51 = .ok (.aaload, 1) := by decide +kernel
theorem d22_52 : decode jdk_40_method_47_code 52 = .ok (.aload_n 0, 1) := by decide +kernel
theorem d22_53 : decode jdk_40_method_47_code 53 = .ok (.iconst 1, 1) := by decide +kernel
theorem d22_54 : decode jdk_40_method_47_code 54 = .ok (.aaload, 1) := by decide +kernel
theorem d22_55 : decode jdk_40_method_47_code 55 = .ok (.invokespecial 100, 3) := by decide +kernel
theorem d22_58 : decode jdk_40_method_47_code 58 = .ok (.areturn, 1) := by decide +kernel
theorem d22_59 : decode jdk_40_method_47_code 59 = .ok (.aload_n 0, 1) := by decide +kernel
theorem d22_60 : decode jdk_40_method_47_code 60 = .ok (.invokestatic 109, 3) := by decide +kernel
theorem d22_63 : decode jdk_40_method_47_code 63 = .ok (.areturn, 1) := by decide +kernel
theorem d23_0 : decode jdk_44_method_2_code 0 = .ok (.aload_n 0, 1) := by decide +kernel
theorem d23_1 : decode jdk_44_method_2_code 1 = .ok (.invokespecial 1, 3) := by decide +kernel
theorem d23_4 : decode jdk_44_method_2_code 4 = .ok (.aload_n 0, 1) := by decide +kernel
theorem d23_5 : decode jdk_44_method_2_code 5 = .ok (.aload_n 1, 1) := by decide +kernel
theorem d23_6 : decode jdk_44_method_2_code 6 = .ok (.invokestatic 7, 3) := by decide +kernel
theorem d23_9 : decode jdk_44_method_2_code 9 = .ok (.putfield 13, 3) := by decide +kernel
theorem d23_12 : decode jdk_44_method_2_code 12 = .ok (.aload_n 0, 1) := by decide +kernel
theorem d23_13 : decode jdk_44_method_2_code 13 = .ok (.aload_n 2, 1) := by decide +kernel
theorem d23_14 : decode jdk_44_method_2_code 14 = .ok (.invokestatic 7, 3) := by decide +kernel
theorem d23_17 : decode jdk_44_method_2_code 17 = .ok (.putfield 24, 3) := by decide +kernel
theorem d23_20 : decode jdk_44_method_2_code 20 = .ok (.return_, 1) := by decide +kernel
theorem d24_0 : decode jdk_46_method_1_code 0 = .ok (.aload_n 0, 1) := by decide +kernel
theorem d24_1 : decode jdk_46_method_1_code 1 = .ok (.invokespecial 1, 3) := by decide +kernel
theorem d24_4 : decode jdk_46_method_1_code 4 = .ok (.return_, 1) := by decide +kernel
theorem d25_0 : decode jdk_47_method_1_code 0 = .ok (.aload_n 0, 1) := by decide +kernel
theorem d25_1 : decode jdk_47_method_1_code 1 = .ok (.invokespecial 1, 3) := by decide +kernel
theorem d25_4 : decode jdk_47_method_1_code 4 = .ok (.return_, 1) := by decide +kernel
theorem d26_0 : decode jdk_31_method_10_code 0 = .ok (.aload_n 0, 1) := by decide +kernel
theorem d26_1 : decode jdk_31_method_10_code 1 = .ok (.ifnonnull 11, 3) := by decide +kernel
theorem d26_12 : decode jdk_31_method_10_code 12 = .ok (.aload_n 0, 1) := by decide +kernel
theorem d26_13 : decode jdk_31_method_10_code 13 = .ok (.areturn, 1) := by decide +kernel
theorem d27_0 : decode jdk_44_method_3_code 0 = .ok (.aload_n 0, 1) := by decide +kernel
theorem d27_1 : decode jdk_44_method_3_code 1 = .ok (.getfield 24, 3) := by decide +kernel
theorem d27_4 : decode jdk_44_method_3_code 4 = .ok (.getstatic 19, 3) := by decide +kernel
theorem d27_7 : decode jdk_44_method_3_code 7 = .ok (.if_acmp .eq 7, 3) := by decide +kernel
theorem d27_10 : decode jdk_44_method_3_code 10 = .ok (.iconst 2, 1) := by decide +kernel
theorem d27_11 : decode jdk_44_method_3_code 11 = .ok (.goto 4, 3) := by decide +kernel
theorem d27_14 : decode jdk_44_method_3_code 14 = .ok (.iconst 1, 1) := by decide +kernel
theorem d27_15 : decode jdk_44_method_3_code 15 = .ok (.ireturn, 1) := by decide +kernel
theorem d28_0 : decode prog_52_method_6_code 0 = .ok (.aload_n 0, 1) := by decide +kernel
theorem d28_1 : decode prog_52_method_6_code 1 = .ok (.getfield 42, 3) := by decide +kernel
theorem d28_4 : decode prog_52_method_6_code 4 = .ok (.ireturn, 1) := by decide +kernel
theorem d29_0 : decode prog_52_method_7_code 0 = .ok (.aload_n 0, 1) := by decide +kernel
theorem d29_1 : decode prog_52_method_7_code 1 = .ok (.getfield 46, 3) := by decide +kernel
theorem d29_4 : decode prog_52_method_7_code 4 = .ok (.ireturn, 1) := by decide +kernel
theorem d30_0 : decode jdk_42_method_139_code 0 = .ok (.getstatic 38, 3) := by decide +kernel
theorem d30_3 : decode jdk_42_method_139_code 3 = .ok (.ifCond .eq 23, 3) := by decide +kernel
theorem d30_6 : decode jdk_42_method_139_code 6 = .ok (.iload_n 0, 1) := by decide +kernel
theorem d30_7 : decode jdk_42_method_139_code 7 = .ok (.invokestatic 1015, 3) := by decide +kernel
theorem d30_10 : decode jdk_42_method_139_code 10 = .ok (.ifCond .eq 16, 3) := by decide +kernel
theorem d30_13 : decode jdk_42_method_139_code 13 = .ok (.new 10, 3) := by decide +kernel
theorem d30_16 : decode jdk_42_method_139_code 16 = .ok (.dup, 1) := by decide +kernel
theorem d30_17 : decode jdk_42_method_139_code 17 = .ok (.iload_n 0, 1) := by decide +kernel
theorem d30_18 : decode jdk_42_method_139_code 18 = .ok (.invokestatic 1018, 3) := by decide +kernel
theorem d30_21 : decode jdk_42_method_139_code 21 = .ok (.iconst 0, 1) := by decide +kernel
theorem d30_22 : decode jdk_42_method_139_code 22 = .ok (.invokespecial 209, 3) := by decide +kernel
theorem d30_25 : decode jdk_42_method_139_code 25 = .ok (.areturn, 1) := by decide +kernel
theorem d31_0 : decode jdk_43_method_3_code 0 = .ok (.iload_n 0, 1) := by decide +kernel
theorem d31_1 : decode jdk_43_method_3_code 1 = .ok (.sipush 255, 3) := by decide +kernel
theorem d31_4 : decode jdk_43_method_3_code 4 = .ok (.if_icmp .gt 7, 3) := by decide +kernel
theorem d31_7 : decode jdk_43_method_3_code 7 = .ok (.iconst 1, 1) := by decide +kernel
theorem d31_8 : decode jdk_43_method_3_code 8 = .ok (.goto 4, 3) := by decide +kernel
theorem d31_12 : decode jdk_43_method_3_code 12 = .ok (.ireturn, 1) := by decide +kernel
theorem d32_0 : decode jdk_43_method_46_code 0 = .ok (.iconst 1, 1) := by decide +kernel
theorem d32_1 : decode jdk_43_method_46_code 1 = .ok (.newarray .byte, 2) := by decide +kernel
theorem d32_3 : decode jdk_43_method_46_code 3 = .ok (.dup, 1) := by decide +kernel
theorem d32_4 : decode jdk_43_method_46_code 4 = .ok (.iconst 0, 1) := by decide +kernel
theorem d32_5 : decode jdk_43_method_46_code 5 = .ok (.iload_n 0, 1) := by decide +kernel
theorem d32_6 : decode jdk_43_method_46_code 6 = .ok (.i2b, 1) := by decide +kernel
theorem d32_7 : decode jdk_43_method_46_code 7 = .ok (.bastore, 1) := by decide +kernel
theorem d32_8 : decode jdk_43_method_46_code 8 = .ok (.areturn, 1) := by decide +kernel
theorem d33_0 : decode jdk_42_method_151_code 0 = .ok (.aload_n 0, 1) := by decide +kernel
theorem d33_1 : decode jdk_42_method_151_code 1 = .ok (.invokespecial 1, 3) := by decide +kernel
theorem d33_4 : decode jdk_42_method_151_code 4 = .ok (.aload_n 0, 1) := by decide +kernel
theorem d33_5 : decode jdk_42_method_151_code 5 = .ok (.aload_n 1, 1) := by decide +kernel
theorem d33_6 : decode jdk_42_method_151_code 6 = .ok (.putfield 9, 3) := by decide +kernel
theorem d33_9 : decode jdk_42_method_151_code 9 = .ok (.aload_n 0, 1) := by decide +kernel
theorem d33_10 : decode jdk_42_method_151_code 10 = .ok (.iload_n 2, 1) := by decide +kernel
theorem d33_11 : decode jdk_42_method_151_code 11 = .ok (.putfield 15, 3) := by decide +kernel
theorem d33_14 : decode jdk_42_method_151_code 14 = .ok (.return_, 1) := by decide +kernel
theorem d34_0 : decode jdk_44_method_1_code 0 = .ok (.aload_n 0, 1) := by decide +kernel
theorem d34_1 : decode jdk_44_method_1_code 1 = .ok (.invokespecial 1, 3) := by decide +kernel
theorem d34_4 : decode jdk_44_method_1_code 4 = .ok (.aload_n 0, 1) := by decide +kernel
theorem d34_5 : decode jdk_44_method_1_code 5 = .ok (.aload_n 1, 1) := by decide +kernel
theorem d34_6 : decode jdk_44_method_1_code 6 = .ok (.invokestatic 7, 3) := by decide +kernel
theorem d34_9 : decode jdk_44_method_1_code 9 = .ok (.putfield 13, 3) := by decide +kernel
theorem d34_12 : decode jdk_44_method_1_code 12 = .ok (.aload_n 0, 1) := by decide +kernel
theorem d34_13 : decode jdk_44_method_1_code 13 = .ok (.getstatic 19, 3) := by decide +kernel
theorem d34_16 : decode jdk_44_method_1_code 16 = .ok (.putfield 24, 3) := by decide +kernel
theorem d34_19 : decode jdk_44_method_1_code 19 = .ok (.return_, 1) := by decide +kernel
theorem d35_0 : decode jdk_56_method_4_code 0 = .ok (.aload_n 0, 1) := by decide +kernel
theorem d35_1 : decode jdk_56_method_4_code 1 = .ok (.arraylength, 1) := by decide +kernel
theorem d35_2 : decode jdk_56_method_4_code 2 = .ok (.anewarray 2, 3) := by decide +kernel
theorem d35_5 : decode jdk_56_method_4_code 5 = .ok (.astore_n 1, 1) := by decide +kernel
theorem d35_6 : decode jdk_56_method_4_code 6 = .ok (.iconst 0, 1) := by decide +kernel
theorem d35_7 : decode jdk_56_method_4_code 7 = .ok (.istore_n 2, 1) := by decide +kernel
theorem d35_8 : decode jdk_56_method_4_code 8 = .ok (.iload_n 2, 1) := by decide +kernel
theorem d35_9 : decode jdk_56_method_4_code 9 = .ok (.aload_n 0, 1) := by decide +kernel
theorem d35_10 : decode jdk_56_method_4_code 10 = .ok (.arraylength, 1) := by decide +kernel
theorem d35_11 : decode jdk_56_method_4_code 11 = .ok (.if_icmp .ge 18, 3) := by decide +kernel
theorem d35_14 : decode jdk_56_method_4_code 14 = .ok (.aload_n 1, 1) := by decide +kernel
theorem d35_15 : decode jdk_56_method_4_code 15 = .ok (.iload_n 2, 1) := by decide +kernel
theorem d35_16 : decode jdk_56_method_4_code 16 = .ok (.aload_n 0, 1) := by decide +kernel
theorem d35_17 : decode jdk_56_method_4_code 17 = .ok (.iload_n 2, 1) := by decide +kernel
theorem d35_18 : decode jdk_56_method_4_code 18 = .ok (.aaload, 1) := by decide +kernel
theorem d35_19 : decode jdk_56_method_4_code 19 = .ok (.invokestatic 37, 3) := by decide +kernel
theorem d35_22 : decode jdk_56_method_4_code 22 = .ok (.aastore, 1) := by decide +kernel
theorem d35_23 : decode jdk_56_method_4_code 23 = .ok (.iinc 2 1, 3) := by decide +kernel
theorem d35_26 : decode jdk_56_method_4_code 26 = .ok (.goto (-18), 3) := by decide +kernel
theorem d35_29 : decode jdk_56_method_4_code 29 = .ok (.new 12, 3) := by decide +kernel
theorem d35_32 : decode jdk_56_method_4_code 32 = .ok (.dup, 1) := by decide +kernel
theorem d35_33 : decode jdk_56_method_4_code 33 = .ok (.aload_n 1, 1) := by decide +kernel
theorem d35_34 : decode jdk_56_method_4_code 34 = .ok (.iconst 0, 1) := by decide +kernel
theorem d35_35 : decode jdk_56_method_4_code 35 = .ok (.invokespecial 43, 3) := by decide +kernel
theorem d35_38 : decode jdk_56_method_4_code 38 = .ok (.areturn, 1) := by decide +kernel
theorem d36_0 : decode jdk_45_method_1_code 0 = .ok (.aload_n 0, 1) := by decide +kernel
theorem d36_1 : decode jdk_45_method_1_code 1 = .ok (.invokespecial 1, 3) := by decide +kernel
theorem d36_4 : decode jdk_45_method_1_code 4 = .ok (.aload_n 0, 1) := by decide +kernel
theorem d36_5 : decode jdk_45_method_1_code 5 = .ok (.aload_n 1, 1) := by decide +kernel
theorem d36_6 : decode jdk_45_method_1_code 6 = .ok (.putfield 7, 3) := by decide +kernel
theorem d36_9 : decode jdk_45_method_1_code 9 = .ok (.aload_n 0, 1) := by decide +kernel
theorem d36_10 : decode jdk_45_method_1_code 10 = .ok (.iload_n 2, 1) := by decide +kernel
theorem d36_11 : decode jdk_45_method_1_code 11 = .ok (.putfield 13, 3) := by decide +kernel
theorem d36_14 : decode jdk_45_method_1_code 14 = .ok (.return_, 1) := by decide +kernel
theorem d37_0 : decode jdk_45_method_3_code 0 = .ok (.aload_n 0, 1) := by decide +kernel
theorem d37_1 : decode jdk_45_method_3_code 1 = .ok (.getfield 7, 3) := by decide +kernel
theorem d37_4 : decode jdk_45_method_3_code 4 = .ok (.arraylength, 1) := by decide +kernel
theorem d37_5 : decode jdk_45_method_3_code 5 = .ok (.ireturn, 1) := by decide +kernel
theorem d38_0 : decode jdk_40_method_36_code 0 = .ok (.getstatic 90, 3) := by decide +kernel
theorem d38_3 : decode jdk_40_method_36_code 3 = .ok (.areturn, 1) := by decide +kernel
theorem pn_0 : plainName "com/example/treellis/treellis/cfa/StructTypeIsCompletePinLaw" = true := by first | (simp [plainName, overriddenIn]; done) | decide +kernel
theorem pn_1 : plainName "com/example/treellis/treellis/cfa/StructType" = true := by first | (simp [plainName, overriddenIn]; done) | decide +kernel
theorem pn_3 : plainName "com/example/treellis/treellis/cfa/StructType" = true := by first | (simp [plainName, overriddenIn]; done) | decide +kernel
theorem pn_4 : plainName "com/example/treellis/treellis/cfa/StructType" = true := by first | (simp [plainName, overriddenIn]; done) | decide +kernel
theorem pn_5 : plainName "com/example/treellis/treellis/cfa/StructType$Member" = true := by first | (simp [plainName, overriddenIn]; done) | decide +kernel
theorem pn_6 : plainName "java/util/ArrayList" = true := by first | (simp [plainName, overriddenIn]; done) | decide +kernel
theorem pn_7 : plainName "java/util/AbstractList" = true := by first | (simp [plainName, overriddenIn]; done) | decide +kernel
theorem pn_8 : plainName "java/util/AbstractCollection" = true := by first | (simp [plainName, overriddenIn]; done) | decide +kernel
theorem pn_9 : plainName "java/util/ArrayList" = true := by first | (simp [plainName, overriddenIn]; done) | decide +kernel
theorem pn_10 : plainName "java/util/ArrayList" = true := by first | (simp [plainName, overriddenIn]; done) | decide +kernel
theorem pn_11 : plainName "java/util/ArrayList" = true := by first | (simp [plainName, overriddenIn]; done) | decide +kernel
theorem pn_12 : plainName "java/util/ArrayList" = true := by first | (simp [plainName, overriddenIn]; done) | decide +kernel
theorem pn_14 : plainName "com/example/treellis/treellis/cfa/StructType" = true := by first | (simp [plainName, overriddenIn]; done) | decide +kernel
theorem pn_15 : plainName "java/util/List" = true := by first | (simp [plainName, overriddenIn]; done) | decide +kernel
theorem pn_16 : plainName "java/util/ImmutableCollections" = true := by first | (simp [plainName, overriddenIn]; done) | decide +kernel
theorem pn_17 : plainName "java/util/ArrayList" = true := by first | (simp [plainName, overriddenIn]; done) | decide +kernel
theorem pn_18 : plainName "java/util/ArrayList" = true := by first | (simp [plainName, overriddenIn]; done) | decide +kernel
theorem pn_19 : plainName "java/util/Arrays" = true := by first | (simp [plainName, overriddenIn]; done) | decide +kernel
theorem pn_20 : plainName "java/util/Arrays" = true := by first | (simp [plainName, overriddenIn]; done) | decide +kernel
theorem pn_22 : plainName "java/util/List" = true := by first | (simp [plainName, overriddenIn]; done) | decide +kernel
theorem pn_23 : plainName "java/util/ImmutableCollections$List12" = true := by first | (simp [plainName, overriddenIn]; done) | decide +kernel
theorem pn_24 : plainName "java/util/ImmutableCollections$AbstractImmutableList" = true := by first | (simp [plainName, overriddenIn]; done) | decide +kernel
theorem pn_25 : plainName "java/util/ImmutableCollections$AbstractImmutableCollection" = true := by first | (simp [plainName, overriddenIn]; done) | decide +kernel
theorem pn_26 : plainName "java/util/Objects" = true := by first | (simp [plainName, overriddenIn]; done) | decide +kernel
theorem pn_27 : plainName "java/util/ImmutableCollections$List12" = true := by first | (simp [plainName, overriddenIn]; done) | decide +kernel
theorem pn_28 : plainName "com/example/treellis/treellis/cfa/StructType" = true := by first | (simp [plainName, overriddenIn]; done) | decide +kernel
theorem pn_29 : plainName "com/example/treellis/treellis/cfa/StructType" = true := by first | (simp [plainName, overriddenIn]; done) | decide +kernel
theorem pn_30 : plainName "java/lang/String" = true := by first | (simp [plainName, overriddenIn]; done) | decide +kernel
theorem pn_31 : plainName "java/lang/StringLatin1" = true := by first | (simp [plainName, overriddenIn]; done) | decide +kernel
theorem pn_32 : plainName "java/lang/StringLatin1" = true := by first | (simp [plainName, overriddenIn]; done) | decide +kernel
theorem pn_33 : plainName "java/lang/String" = true := by first | (simp [plainName, overriddenIn]; done) | decide +kernel
theorem pn_34 : plainName "java/util/ImmutableCollections$List12" = true := by first | (simp [plainName, overriddenIn]; done) | decide +kernel
theorem pn_35 : plainName "java/util/ImmutableCollections" = true := by first | (simp [plainName, overriddenIn]; done) | decide +kernel
theorem pn_36 : plainName "java/util/ImmutableCollections$ListN" = true := by first | (simp [plainName, overriddenIn]; done) | decide +kernel
theorem pn_37 : plainName "java/util/ImmutableCollections$ListN" = true := by first | (simp [plainName, overriddenIn]; done) | decide +kernel
theorem pn_38 : plainName "java/util/List" = true := by first | (simp [plainName, overriddenIn]; done) | decide +kernel
theorem pd_0 : parseMethodDescriptor "()V" = some ⟨[], none⟩ := by decide +kernel
theorem pd_1 : parseMethodDescriptor "(II)I" = some ⟨[.int, .int], some .int⟩ := by decide +kernel
theorem pd_2 : parseMethodDescriptor "(I)[Ljava/lang/Object;" = some ⟨[.int], some (.array (.object "java/lang/Object"))⟩ := by decide +kernel
theorem pd_3 : parseMethodDescriptor "()[Ljava/lang/Object;" = some ⟨[], some (.array (.object "java/lang/Object"))⟩ := by decide +kernel
theorem pd_4 : parseMethodDescriptor "(Ljava/lang/Object;[Ljava/lang/Object;I)V" = some ⟨[(.object "java/lang/Object"), (.array (.object "java/lang/Object")), .int], none⟩ := by decide +kernel
theorem pd_5 : parseMethodDescriptor "([Ljava/lang/Object;ILjava/lang/Class;)[Ljava/lang/Object;" = some ⟨[(.array (.object "java/lang/Object")), .int, (.object "java/lang/Class")], some (.array (.object "java/lang/Object"))⟩ := by decide +kernel
theorem pd_6 : parseMethodDescriptor "([Ljava/lang/Object;I)[Ljava/lang/Object;" = some ⟨[(.array (.object "java/lang/Object")), .int], some (.array (.object "java/lang/Object"))⟩ := by decide +kernel
theorem pd_7 : parseMethodDescriptor "(Ljava/lang/Object;)Ljava/lang/Object;" = some ⟨[(.object "java/lang/Object")], some (.object "java/lang/Object")⟩ := by decide +kernel
theorem pd_8 : parseMethodDescriptor "([Ljava/lang/Object;Z)V" = some ⟨[(.array (.object "java/lang/Object")), .boolean], none⟩ := by decide +kernel
theorem pd_9 : parseMethodDescriptor "(Ljava/lang/Object;)V" = some ⟨[(.object "java/lang/Object")], none⟩ := by decide +kernel
theorem pd_10 : parseMethodDescriptor "(Ljava/lang/Object;Ljava/lang/Object;)V" = some ⟨[(.object "java/lang/Object"), (.object "java/lang/Object")], none⟩ := by decide +kernel
theorem pd_11 : parseMethodDescriptor "([Ljava/lang/Object;)Ljava/util/List;" = some ⟨[(.array (.object "java/lang/Object"))], some (.object "java/util/List")⟩ := by decide +kernel
theorem pd_12 : parseMethodDescriptor "()Z" = some ⟨[], some .boolean⟩ := by decide +kernel
theorem pd_13 : parseMethodDescriptor "()Ljava/util/List;" = some ⟨[], some (.object "java/util/List")⟩ := by decide +kernel
theorem pd_14 : parseMethodDescriptor "(Ljava/util/Collection;)Ljava/util/List;" = some ⟨[(.object "java/util/Collection")], some (.object "java/util/List")⟩ := by decide +kernel
theorem pd_15 : parseMethodDescriptor "(C)Z" = some ⟨[.char], some .boolean⟩ := by decide +kernel
theorem pd_16 : parseMethodDescriptor "(C)[B" = some ⟨[.char], some (.array .byte)⟩ := by decide +kernel
theorem pd_17 : parseMethodDescriptor "([BB)V" = some ⟨[(.array .byte), .byte], none⟩ := by decide +kernel
theorem pd_18 : parseMethodDescriptor "(Ljava/lang/String;Lcom/example/treellis/treellis/cfa/Type;Ljava/lang/Integer;I)V" = some ⟨[(.object "java/lang/String"), (.object "com/example/treellis/treellis/cfa/Type"), (.object "java/lang/Integer"), .int], none⟩ := by decide +kernel
theorem pd_19 : parseMethodDescriptor "(Ljava/util/List;II)V" = some ⟨[(.object "java/util/List"), .int, .int], none⟩ := by decide +kernel
theorem pd_20 : parseMethodDescriptor "()I" = some ⟨[], some .int⟩ := by decide +kernel
theorem pd_21 : parseMethodDescriptor "(Ljava/lang/Object;)Z" = some ⟨[(.object "java/lang/Object")], some .boolean⟩ := by decide +kernel
theorem pd_22 : parseMethodDescriptor "(Lcom/example/treellis/treellis/cfa/StructType$Kind;Ljava/lang/String;)V" = some ⟨[(.object "com/example/treellis/treellis/cfa/StructType$Kind"), (.object "java/lang/String")], none⟩ := by decide +kernel
theorem pd_23 : parseMethodDescriptor "(C)Ljava/lang/String;" = some ⟨[.char], some (.object "java/lang/String")⟩ := by decide +kernel
theorem ef_13 (m : MethodId) (x0 : Int32) (x1 : Int32) : entryFrame m #[(.int x0), (.int x1)] 2 = mkF m 0 #[.val (.int x0), .val (.int x1)] [] := by first | (simp [entryFrame, mkF, argsToLocals, Value.category]; done) | rfl
theorem ef_21 (m : MethodId) (x0 : Int32) (x1 : Int32) : entryFrame m #[(.int x0), (.int x1)] 2 = mkF m 0 #[.val (.int x0), .val (.int x1)] [] := by first | (simp [entryFrame, mkF, argsToLocals, Value.category]; done) | rfl
theorem ef_26 (m : MethodId) (x0 : Addr) : entryFrame m #[(.ref x0)] 1 = mkF m 0 #[.val (.ref x0)] [] := by first | (simp [entryFrame, mkF, argsToLocals, Value.category]; done) | rfl
theorem ef_8 (m : MethodId) (x0 : Addr) : entryFrame m #[(.ref x0)] 1 = mkF m 0 #[.val (.ref x0)] [] := by first | (simp [entryFrame, mkF, argsToLocals, Value.category]; done) | rfl
theorem ef_25 (m : MethodId) (x0 : Addr) : entryFrame m #[(.ref x0)] 1 = mkF m 0 #[.val (.ref x0)] [] := by first | (simp [entryFrame, mkF, argsToLocals, Value.category]; done) | rfl
theorem ef_24 (m : MethodId) (x0 : Addr) : entryFrame m #[(.ref x0)] 1 = mkF m 0 #[.val (.ref x0)] [] := by first | (simp [entryFrame, mkF, argsToLocals, Value.category]; done) | rfl
theorem ef_7 (m : MethodId) (x0 : Addr) : entryFrame m #[(.ref x0)] 1 = mkF m 0 #[.val (.ref x0)] [] := by first | (simp [entryFrame, mkF, argsToLocals, Value.category]; done) | rfl
theorem ef_6 (m : MethodId) (x0 : Addr) : entryFrame m #[(.ref x0)] 1 = mkF m 0 #[.val (.ref x0)] [] := by first | (simp [entryFrame, mkF, argsToLocals, Value.category]; done) | rfl
theorem ef_12 (m : MethodId) (x0 : Addr) (x1 : Int32) : entryFrame m #[(.ref x0), (.int x1)] 4 = mkF m 0 #[.val (.ref x0), .val (.int x1), .unset, .unset] [] := by first | (simp [entryFrame, mkF, argsToLocals, Value.category]; done) | rfl
theorem ef_11 (m : MethodId) (x0 : Addr) : entryFrame m #[(.ref x0)] 1 = mkF m 0 #[.val (.ref x0)] [] := by first | (simp [entryFrame, mkF, argsToLocals, Value.category]; done) | rfl
theorem ef_10 (m : MethodId) (x0 : Addr) (x1 : Addr) (x2 : Addr) (x3 : Int32) : entryFrame m #[(.ref x0), (.ref x1), (.ref x2), (.int x3)] 4 = mkF m 0 #[.val (.ref x0), .val (.ref x1), .val (.ref x2), .val (.int x3)] [] := by first | (simp [entryFrame, mkF, argsToLocals, Value.category]; done) | rfl
theorem ef_9 (m : MethodId) (x0 : Addr) (x1 : Addr) : entryFrame m #[(.ref x0), (.ref x1)] 2 = mkF m 0 #[.val (.ref x0), .val (.ref x1)] [] := by first | (simp [entryFrame, mkF, argsToLocals, Value.category]; done) | rfl
theorem ef_17 (m : MethodId) (x0 : Addr) : entryFrame m #[(.ref x0)] 1 = mkF m 0 #[.val (.ref x0)] [] := by first | (simp [entryFrame, mkF, argsToLocals, Value.category]; done) | rfl
theorem ef_20 (m : MethodId) (x0 : Addr) (x1 : Int32) (x2 : Addr) : entryFrame m #[(.ref x0), (.int x1), (.ref x2)] 4 = mkF m 0 #[.val (.ref x0), .val (.int x1), .val (.ref x2), .unset] [] := by first | (simp [entryFrame, mkF, argsToLocals, Value.category]; done) | rfl
theorem ef_19 (m : MethodId) (x0 : Addr) (x1 : Int32) : entryFrame m #[(.ref x0), (.int x1)] 2 = mkF m 0 #[.val (.ref x0), .val (.int x1)] [] := by first | (simp [entryFrame, mkF, argsToLocals, Value.category]; done) | rfl
theorem ef_18 (m : MethodId) (x0 : Addr) : entryFrame m #[(.ref x0)] 1 = mkF m 0 #[.val (.ref x0)] [] := by first | (simp [entryFrame, mkF, argsToLocals, Value.category]; done) | rfl
theorem ef_34 (m : MethodId) (x0 : Addr) (x1 : Addr) : entryFrame m #[(.ref x0), (.ref x1)] 2 = mkF m 0 #[.val (.ref x0), .val (.ref x1)] [] := by first | (simp [entryFrame, mkF, argsToLocals, Value.category]; done) | rfl
theorem ef_23 (m : MethodId) (x0 : Addr) (x1 : Addr) (x2 : Addr) : entryFrame m #[(.ref x0), (.ref x1), (.ref x2)] 3 = mkF m 0 #[.val (.ref x0), .val (.ref x1), .val (.ref x2)] [] := by first | (simp [entryFrame, mkF, argsToLocals, Value.category]; done) | rfl
theorem ef_36 (m : MethodId) (x0 : Addr) (x1 : Addr) (x2 : Int32) : entryFrame m #[(.ref x0), (.ref x1), (.int x2)] 3 = mkF m 0 #[.val (.ref x0), .val (.ref x1), .val (.int x2)] [] := by first | (simp [entryFrame, mkF, argsToLocals, Value.category]; done) | rfl
theorem ef_35 (m : MethodId) (x0 : Addr) : entryFrame m #[(.ref x0)] 3 = mkF m 0 #[.val (.ref x0), .unset, .unset] [] := by first | (simp [entryFrame, mkF, argsToLocals, Value.category]; done) | rfl
theorem ef_22 (m : MethodId) (x0 : Addr) : entryFrame m #[(.ref x0)] 2 = mkF m 0 #[.val (.ref x0), .unset] [] := by first | (simp [entryFrame, mkF, argsToLocals, Value.category]; done) | rfl
theorem ef_38 (m : MethodId)  : entryFrame m #[] 0 = mkF m 0 #[] [] := by first | (simp [entryFrame, mkF, argsToLocals, Value.category]; done) | rfl
theorem ef_16 (m : MethodId) (x0 : Addr) : entryFrame m #[(.ref x0)] 2 = mkF m 0 #[.val (.ref x0), .unset] [] := by first | (simp [entryFrame, mkF, argsToLocals, Value.category]; done) | rfl
theorem ef_15 (m : MethodId) (x0 : Addr) : entryFrame m #[(.ref x0)] 1 = mkF m 0 #[.val (.ref x0)] [] := by first | (simp [entryFrame, mkF, argsToLocals, Value.category]; done) | rfl
theorem ef_14 (m : MethodId) (x0 : Addr) (x1 : Addr) (x2 : Int32) (x3 : Int32) : entryFrame m #[(.ref x0), (.ref x1), (.int x2), (.int x3)] 4 = mkF m 0 #[.val (.ref x0), .val (.ref x1), .val (.int x2), .val (.int x3)] [] := by first | (simp [entryFrame, mkF, argsToLocals, Value.category]; done) | rfl
theorem ef_27 (m : MethodId) (x0 : Addr) : entryFrame m #[(.ref x0)] 1 = mkF m 0 #[.val (.ref x0)] [] := by first | (simp [entryFrame, mkF, argsToLocals, Value.category]; done) | rfl
theorem ef_37 (m : MethodId) (x0 : Addr) : entryFrame m #[(.ref x0)] 1 = mkF m 0 #[.val (.ref x0)] [] := by first | (simp [entryFrame, mkF, argsToLocals, Value.category]; done) | rfl
theorem ef_28 (m : MethodId) (x0 : Addr) : entryFrame m #[(.ref x0)] 1 = mkF m 0 #[.val (.ref x0)] [] := by first | (simp [entryFrame, mkF, argsToLocals, Value.category]; done) | rfl
theorem ef_29 (m : MethodId) (x0 : Addr) : entryFrame m #[(.ref x0)] 1 = mkF m 0 #[.val (.ref x0)] [] := by first | (simp [entryFrame, mkF, argsToLocals, Value.category]; done) | rfl
theorem ef_3 (m : MethodId) (x0 : Addr) : entryFrame m #[(.ref x0)] 1 = mkF m 0 #[.val (.ref x0)] [] := by first | (simp [entryFrame, mkF, argsToLocals, Value.category]; done) | rfl
theorem ef_4 (m : MethodId) (x0 : Addr) : entryFrame m #[(.ref x0)] 1 = mkF m 0 #[.val (.ref x0)] [] := by first | (simp [entryFrame, mkF, argsToLocals, Value.category]; done) | rfl
theorem ef_rm_siN (m : MethodId) (x0 : Addr) (x1 : Addr) : entryFrame m #[(.ref x0), (.ref x1), .null] 3 = mkF m 0 #[.val (.ref x0), .val (.ref x1), .val .null] [] := by first | (simp [entryFrame, mkF, argsToLocals, Value.category]; done) | rfl
theorem ef_1 (m : MethodId) (x0 : Addr) (x1 : Addr) (x2 : Addr) : entryFrame m #[(.ref x0), (.ref x1), (.ref x2)] 3 = mkF m 0 #[.val (.ref x0), .val (.ref x1), .val (.ref x2)] [] := by first | (simp [entryFrame, mkF, argsToLocals, Value.category]; done) | rfl
theorem ef_rm_mi (m : MethodId) (x0 : Addr) (x2 : Addr) (x4 : Int32) : entryFrame m #[(.ref x0), .null, (.ref x2), .null, (.int x4)] 5 = mkF m 0 #[.val (.ref x0), .val .null, .val (.ref x2), .val .null, .val (.int x4)] [] := by first | (simp [entryFrame, mkF, argsToLocals, Value.category]; done) | rfl
theorem ef_31 (m : MethodId) (x0 : Int32) : entryFrame m #[(.int x0)] 1 = mkF m 0 #[.val (.int x0)] [] := by first | (simp [entryFrame, mkF, argsToLocals, Value.category]; done) | rfl
theorem ef_32 (m : MethodId) (x0 : Int32) : entryFrame m #[(.int x0)] 1 = mkF m 0 #[.val (.int x0)] [] := by first | (simp [entryFrame, mkF, argsToLocals, Value.category]; done) | rfl
theorem ef_33 (m : MethodId) (x0 : Addr) (x1 : Addr) (x2 : Int32) : entryFrame m #[(.ref x0), (.ref x1), (.int x2)] 3 = mkF m 0 #[.val (.ref x0), .val (.ref x1), .val (.int x2)] [] := by first | (simp [entryFrame, mkF, argsToLocals, Value.category]; done) | rfl
theorem ef_30 (m : MethodId) (x0 : Int32) : entryFrame m #[(.int x0)] 1 = mkF m 0 #[.val (.int x0)] [] := by first | (simp [entryFrame, mkF, argsToLocals, Value.category]; done) | rfl
theorem ef_0 (m : MethodId) (x0 : Int32) (x1 : Int32) (x2 : Int32) (x3 : Int32) (x4 : Int32) (x5 : Int32) : entryFrame m #[(.int x0), (.int x1), (.int x2), (.int x3), (.int x4), (.int x5)] maxLocals = mkF m 0 #[.val (.int x0), .val (.int x1), .val (.int x2), .val (.int x3), .val (.int x4), .val (.int x5), .unset, .unset, .unset, .unset, .unset, .unset, .unset, .unset] [] := by first | (simp [entryFrame, mkF, argsToLocals, Value.category, maxLocals]; done) | rfl
def Q_rm_max (Z : State) (h0 : Heap) (n0 : Nat)  (v : Option Value) (h : Heap) (L : List Loc) : Prop := v = some (.int 10) ∧ Fr n0 L ∧ h = h0
set_option maxRecDepth 65536 in
set_option maxHeartbeats 40000000 in
theorem rm_max (l : Launch) (Z : State) (a0 : Array Value) (hw : ∀ d ∈ tables_1, d.before a0 Z = true) (ws : List Jvm.Cond)  (h0 : Heap) (n0 : Nat) (Z0 : n0 ≤ h0.size) :
    MetFree l (⟨"java/lang/Math", "max", "(II)I"⟩ : MethodName) (head1 (Jvm.Cond.code (⟨"java/lang/Math", "max", "(II)I"⟩ : MethodName) jdk_29_method_65_code 2 (some .int) :: ws) ({ frames := 0, cells := 0, slots := 0, locals := 0 } : Room)) (fun a U => a = #[(.int (10 : Int32)), (.int (1 : Int32))] ∧ Z.Warmed39 U.vm ∧ U.heap = h0) (fun _ _ _ _ _ => True) (fun _ U o U' => ∃ rv rL, o = .returned rv ∧ Q_rm_max Z h0 n0  rv U'.heap rL ∧ FrameEnd U o U' rL ({ frames := 0, cells := 0, slots := 0, locals := 0 } : Room).cells ({ frames := 0, cells := 0, slots := 0, locals := 0 } : Room).slots) := by
  refine own_met (y := (⟨"java/lang/Math", "max", "(II)I"⟩ : MethodName)) (Q := Q_rm_max Z h0 n0 ) (own := "java/lang/Math") rfl (Jvm.Free.JP.mathPlain rfl (by decide +kernel)) ?_
  intro p e s m below meth c s₁ C e0 X0
  obtain ⟨hx, hby, hml, hown, hnm, hret, hlk, hZ⟩ := C
  have N0 := Fr.nil n0
  rw [ef_13]
  show own_Goes _ _ _ _ _ _ _ s₁ (mkF m 0 #[.val (.int (10 : Int32)), .val (.int (1 : Int32))] [])
  refine own_go (fun _ k => XS.iloadN X0.here hx rfl (hb hby d13_0) rfl k) ?_
  show own_Goes _ _ _ _ _ _ _ s₁ (mkF m 1 #[.val (.int (10 : Int32)), .val (.int (1 : Int32))] [(.int (10 : Int32))])
  refine own_go (fun _ k => XS.iloadN X0.here hx rfl (hb hby d13_1) rfl k) ?_
  show own_Goes _ _ _ _ _ _ _ s₁ (mkF m 2 #[.val (.int (10 : Int32)), .val (.int (1 : Int32))] [(.int (1 : Int32)), (.int (10 : Int32))])
  refine own_go (fun _ k => XS.icmpNo X0.here hx rfl (hb hby d13_2) rfl (flt (by decide : ¬ ((10 : Int32) < (1 : Int32)))).1 k) ?_
  show own_Goes _ _ _ _ _ _ _ s₁ (mkF m 5 #[.val (.int (10 : Int32)), .val (.int (1 : Int32))] [])
  refine own_go (fun _ k => XS.iloadN X0.here hx rfl (hb hby d13_5) rfl k) ?_
  show own_Goes _ _ _ _ _ _ _ s₁ (mkF m 6 #[.val (.int (10 : Int32)), .val (.int (1 : Int32))] [(.int (10 : Int32))])
  refine own_go (fun _ k => XS.goto X0.here hx rfl (pc0 := 6) (pc' := 10) rfl (hb hby d13_6) (by decide) (by decide) k) ?_
  show own_Goes _ _ _ _ _ _ _ s₁ (mkF m 10 #[.val (.int (10 : Int32)), .val (.int (1 : Int32))] [(.int (10 : Int32))])
  exact own_retI X0 hx hlk hret (hb hby d13_10) (by decide) (by decide) (by rw [e0]; exact ⟨rfl, N0, rfl⟩)
def Q_rm_min1 (Z : State) (h0 : Heap) (n0 : Nat)  (v : Option Value) (h : Heap) (L : List Loc) : Prop := v = some (.int 1) ∧ Fr n0 L ∧ h = h0
set_option maxRecDepth 65536 in
set_option maxHeartbeats 40000000 in
theorem rm_min1 (l : Launch) (Z : State) (a0 : Array Value) (hw : ∀ d ∈ tables_1, d.before a0 Z = true) (ws : List Jvm.Cond)  (h0 : Heap) (n0 : Nat) (Z0 : n0 ≤ h0.size) :
    MetFree l (⟨"java/lang/Math", "min", "(II)I"⟩ : MethodName) (head1 (Jvm.Cond.code (⟨"java/lang/Math", "min", "(II)I"⟩ : MethodName) jdk_29_method_69_code 2 (some .int) :: ws) ({ frames := 0, cells := 0, slots := 0, locals := 0 } : Room)) (fun a U => a = #[(.int (10 : Int32)), (.int (1 : Int32))] ∧ Z.Warmed39 U.vm ∧ U.heap = h0) (fun _ _ _ _ _ => True) (fun _ U o U' => ∃ rv rL, o = .returned rv ∧ Q_rm_min1 Z h0 n0  rv U'.heap rL ∧ FrameEnd U o U' rL ({ frames := 0, cells := 0, slots := 0, locals := 0 } : Room).cells ({ frames := 0, cells := 0, slots := 0, locals := 0 } : Room).slots) := by
  refine own_met (y := (⟨"java/lang/Math", "min", "(II)I"⟩ : MethodName)) (Q := Q_rm_min1 Z h0 n0 ) (own := "java/lang/Math") rfl (Jvm.Free.JP.mathPlain rfl (by decide +kernel)) ?_
  intro p e s m below meth c s₁ C e0 X0
  obtain ⟨hx, hby, hml, hown, hnm, hret, hlk, hZ⟩ := C
  have N0 := Fr.nil n0
  rw [ef_21]
  show own_Goes _ _ _ _ _ _ _ s₁ (mkF m 0 #[.val (.int (10 : Int32)), .val (.int (1 : Int32))] [])
  refine own_go (fun _ k => XS.iloadN X0.here hx rfl (hb hby d21_0) rfl k) ?_
  show own_Goes _ _ _ _ _ _ _ s₁ (mkF m 1 #[.val (.int (10 : Int32)), .val (.int (1 : Int32))] [(.int (10 : Int32))])
  refine own_go (fun _ k => XS.iloadN X0.here hx rfl (hb hby d21_1) rfl k) ?_
  show own_Goes _ _ _ _ _ _ _ s₁ (mkF m 2 #[.val (.int (10 : Int32)), .val (.int (1 : Int32))] [(.int (1 : Int32)), (.int (10 : Int32))])
  refine own_go (fun _ k => XS.icmpYes X0.here hx rfl (pc0 := 2) (pc' := 9) rfl (hb hby d21_2) rfl (tlt (by decide : (1 : Int32) < (10 : Int32))).2.2.1 (by decide) (by decide) k) ?_
  show own_Goes _ _ _ _ _ _ _ s₁ (mkF m 9 #[.val (.int (10 : Int32)), .val (.int (1 : Int32))] [])
  refine own_go (fun _ k => XS.iloadN X0.here hx rfl (hb hby d21_9) rfl k) ?_
  show own_Goes _ _ _ _ _ _ _ s₁ (mkF m 10 #[.val (.int (10 : Int32)), .val (.int (1 : Int32))] [(.int (1 : Int32))])
  exact own_retI X0 hx hlk hret (hb hby d21_10) (by decide) (by decide) (by rw [e0]; exact ⟨rfl, N0, rfl⟩)
def Q_rm_min2 (Z : State) (h0 : Heap) (n0 : Nat)  (v : Option Value) (h : Heap) (L : List Loc) : Prop := v = some (.int 2) ∧ Fr n0 L ∧ h = h0
set_option maxRecDepth 65536 in
set_option maxHeartbeats 40000000 in
theorem rm_min2 (l : Launch) (Z : State) (a0 : Array Value) (hw : ∀ d ∈ tables_1, d.before a0 Z = true) (ws : List Jvm.Cond)  (h0 : Heap) (n0 : Nat) (Z0 : n0 ≤ h0.size) :
    MetFree l (⟨"java/lang/Math", "min", "(II)I"⟩ : MethodName) (head1 (Jvm.Cond.code (⟨"java/lang/Math", "min", "(II)I"⟩ : MethodName) jdk_29_method_69_code 2 (some .int) :: ws) ({ frames := 0, cells := 0, slots := 0, locals := 0 } : Room)) (fun a U => a = #[(.int (10 : Int32)), (.int (2 : Int32))] ∧ Z.Warmed39 U.vm ∧ U.heap = h0) (fun _ _ _ _ _ => True) (fun _ U o U' => ∃ rv rL, o = .returned rv ∧ Q_rm_min2 Z h0 n0  rv U'.heap rL ∧ FrameEnd U o U' rL ({ frames := 0, cells := 0, slots := 0, locals := 0 } : Room).cells ({ frames := 0, cells := 0, slots := 0, locals := 0 } : Room).slots) := by
  refine own_met (y := (⟨"java/lang/Math", "min", "(II)I"⟩ : MethodName)) (Q := Q_rm_min2 Z h0 n0 ) (own := "java/lang/Math") rfl (Jvm.Free.JP.mathPlain rfl (by decide +kernel)) ?_
  intro p e s m below meth c s₁ C e0 X0
  obtain ⟨hx, hby, hml, hown, hnm, hret, hlk, hZ⟩ := C
  have N0 := Fr.nil n0
  rw [ef_21]
  show own_Goes _ _ _ _ _ _ _ s₁ (mkF m 0 #[.val (.int (10 : Int32)), .val (.int (2 : Int32))] [])
  refine own_go (fun _ k => XS.iloadN X0.here hx rfl (hb hby d21_0) rfl k) ?_
  show own_Goes _ _ _ _ _ _ _ s₁ (mkF m 1 #[.val (.int (10 : Int32)), .val (.int (2 : Int32))] [(.int (10 : Int32))])
  refine own_go (fun _ k => XS.iloadN X0.here hx rfl (hb hby d21_1) rfl k) ?_
  show own_Goes _ _ _ _ _ _ _ s₁ (mkF m 2 #[.val (.int (10 : Int32)), .val (.int (2 : Int32))] [(.int (2 : Int32)), (.int (10 : Int32))])
  refine own_go (fun _ k => XS.icmpYes X0.here hx rfl (pc0 := 2) (pc' := 9) rfl (hb hby d21_2) rfl (tlt (by decide : (2 : Int32) < (10 : Int32))).2.2.1 (by decide) (by decide) k) ?_
  show own_Goes _ _ _ _ _ _ _ s₁ (mkF m 9 #[.val (.int (10 : Int32)), .val (.int (2 : Int32))] [])
  refine own_go (fun _ k => XS.iloadN X0.here hx rfl (hb hby d21_9) rfl k) ?_
  show own_Goes _ _ _ _ _ _ _ s₁ (mkF m 10 #[.val (.int (10 : Int32)), .val (.int (2 : Int32))] [(.int (2 : Int32))])
  exact own_retI X0 hx hlk hret (hb hby d21_10) (by decide) (by decide) (by rw [e0]; exact ⟨rfl, N0, rfl⟩)
def Q_rm_min3 (Z : State) (h0 : Heap) (n0 : Nat)  (v : Option Value) (h : Heap) (L : List Loc) : Prop := v = some (.int 3) ∧ Fr n0 L ∧ h = h0
set_option maxRecDepth 65536 in
set_option maxHeartbeats 40000000 in
theorem rm_min3 (l : Launch) (Z : State) (a0 : Array Value) (hw : ∀ d ∈ tables_1, d.before a0 Z = true) (ws : List Jvm.Cond)  (h0 : Heap) (n0 : Nat) (Z0 : n0 ≤ h0.size) :
    MetFree l (⟨"java/lang/Math", "min", "(II)I"⟩ : MethodName) (head1 (Jvm.Cond.code (⟨"java/lang/Math", "min", "(II)I"⟩ : MethodName) jdk_29_method_69_code 2 (some .int) :: ws) ({ frames := 0, cells := 0, slots := 0, locals := 0 } : Room)) (fun a U => a = #[(.int (10 : Int32)), (.int (3 : Int32))] ∧ Z.Warmed39 U.vm ∧ U.heap = h0) (fun _ _ _ _ _ => True) (fun _ U o U' => ∃ rv rL, o = .returned rv ∧ Q_rm_min3 Z h0 n0  rv U'.heap rL ∧ FrameEnd U o U' rL ({ frames := 0, cells := 0, slots := 0, locals := 0 } : Room).cells ({ frames := 0, cells := 0, slots := 0, locals := 0 } : Room).slots) := by
  refine own_met (y := (⟨"java/lang/Math", "min", "(II)I"⟩ : MethodName)) (Q := Q_rm_min3 Z h0 n0 ) (own := "java/lang/Math") rfl (Jvm.Free.JP.mathPlain rfl (by decide +kernel)) ?_
  intro p e s m below meth c s₁ C e0 X0
  obtain ⟨hx, hby, hml, hown, hnm, hret, hlk, hZ⟩ := C
  have N0 := Fr.nil n0
  rw [ef_21]
  show own_Goes _ _ _ _ _ _ _ s₁ (mkF m 0 #[.val (.int (10 : Int32)), .val (.int (3 : Int32))] [])
  refine own_go (fun _ k => XS.iloadN X0.here hx rfl (hb hby d21_0) rfl k) ?_
  show own_Goes _ _ _ _ _ _ _ s₁ (mkF m 1 #[.val (.int (10 : Int32)), .val (.int (3 : Int32))] [(.int (10 : Int32))])
  refine own_go (fun _ k => XS.iloadN X0.here hx rfl (hb hby d21_1) rfl k) ?_
  show own_Goes _ _ _ _ _ _ _ s₁ (mkF m 2 #[.val (.int (10 : Int32)), .val (.int (3 : Int32))] [(.int (3 : Int32)), (.int (10 : Int32))])
  refine own_go (fun _ k => XS.icmpYes X0.here hx rfl (pc0 := 2) (pc' := 9) rfl (hb hby d21_2) rfl (tlt (by decide : (3 : Int32) < (10 : Int32))).2.2.1 (by decide) (by decide) k) ?_
  show own_Goes _ _ _ _ _ _ _ s₁ (mkF m 9 #[.val (.int (10 : Int32)), .val (.int (3 : Int32))] [])
  refine own_go (fun _ k => XS.iloadN X0.here hx rfl (hb hby d21_9) rfl k) ?_
  show own_Goes _ _ _ _ _ _ _ s₁ (mkF m 10 #[.val (.int (10 : Int32)), .val (.int (3 : Int32))] [(.int (3 : Int32))])
  exact own_retI X0 hx hlk hret (hb hby d21_10) (by decide) (by decide) (by rw [e0]; exact ⟨rfl, N0, rfl⟩)
def Q_rm_rnn (Z : State) (h0 : Heap) (n0 : Nat) (a1 : Addr) (v : Option Value) (h : Heap) (L : List Loc) : Prop := v = some (.ref a1) ∧ Fr n0 L ∧ h = h0
set_option maxRecDepth 65536 in
set_option maxHeartbeats 40000000 in
theorem rm_rnn (l : Launch) (Z : State) (a0 : Array Value) (hw : ∀ d ∈ tables_1, d.before a0 Z = true) (ws : List Jvm.Cond) (a1 : Addr) (h0 : Heap) (n0 : Nat) (Z0 : n0 ≤ h0.size) :
    MetFree l (⟨"java/util/Objects", "requireNonNull", "(Ljava/lang/Object;)Ljava/lang/Object;"⟩ : MethodName) (head1 (Jvm.Cond.code (⟨"java/util/Objects", "requireNonNull", "(Ljava/lang/Object;)Ljava/lang/Object;"⟩ : MethodName) jdk_31_method_10_code 1 (some (.object "java/lang/Object")) :: ws) ({ frames := 0, cells := 0, slots := 0, locals := 0 } : Room)) (fun a U => a = #[(.ref a1)] ∧ Z.Warmed39 U.vm ∧ U.heap = h0) (fun _ _ _ _ _ => True) (fun _ U o U' => ∃ rv rL, o = .returned rv ∧ Q_rm_rnn Z h0 n0 a1 rv U'.heap rL ∧ FrameEnd U o U' rL ({ frames := 0, cells := 0, slots := 0, locals := 0 } : Room).cells ({ frames := 0, cells := 0, slots := 0, locals := 0 } : Room).slots) := by
  refine own_met (y := (⟨"java/util/Objects", "requireNonNull", "(Ljava/lang/Object;)Ljava/lang/Object;"⟩ : MethodName)) (Q := Q_rm_rnn Z h0 n0 a1) (own := "java/util/Objects") rfl (plainFor_of_name pn_26) ?_
  intro p e s m below meth c s₁ C e0 X0
  obtain ⟨hx, hby, hml, hown, hnm, hret, hlk, hZ⟩ := C
  have N0 := Fr.nil n0
  rw [ef_26]
  show own_Goes _ _ _ _ _ _ _ s₁ (mkF m 0 #[.val (.ref a1)] [])
  refine own_go (fun _ k => XS.aloadN X0.here hx rfl (hb hby d26_0) rfl rfl k) ?_
  show own_Goes _ _ _ _ _ _ _ s₁ (mkF m 1 #[.val (.ref a1)] [(.ref a1)])
  refine own_go (fun _ k => XS.ifnonnullYes X0.here hx rfl (pc0 := 1) (pc' := 12) rfl (hb hby d26_1) rfl (by decide) (by decide) k) ?_
  show own_Goes _ _ _ _ _ _ _ s₁ (mkF m 12 #[.val (.ref a1)] [])
  refine own_go (fun _ k => XS.aloadN X0.here hx rfl (hb hby d26_12) rfl rfl k) ?_
  show own_Goes _ _ _ _ _ _ _ s₁ (mkF m 13 #[.val (.ref a1)] [(.ref a1)])
  exact own_retA X0 hx hlk hret rfl rfl (hb hby d26_13) (by decide) (by decide) (by rw [e0]; exact ⟨rfl, N0, rfl⟩)
def Q_rm_ac (Z : State) (h0 : Heap) (n0 : Nat)  (v : Option Value) (h : Heap) (L : List Loc) : Prop := v = none ∧ Fr n0 L ∧ h = h0
set_option maxRecDepth 65536 in
set_option maxHeartbeats 40000000 in
theorem rm_ac (l : Launch) (Z : State) (a0 : Array Value) (hw : ∀ d ∈ tables_1, d.before a0 Z = true) (ws : List Jvm.Cond) (a1 : Addr) (h0 : Heap) (n0 : Nat) (Z0 : n0 ≤ h0.size) :
    MetFree l (⟨"java/util/AbstractCollection", "<init>", "()V"⟩ : MethodName) (head1 (Jvm.Cond.code (⟨"java/util/AbstractCollection", "<init>", "()V"⟩ : MethodName) jdk_22_method_1_code 1 none :: ws) ({ frames := 1, cells := 0, slots := 0, locals := 12 } : Room)) (fun a U => a = #[(.ref a1)] ∧ Z.Warmed39 U.vm ∧ U.heap = h0) (fun _ _ _ _ _ => True) (fun _ U o U' => ∃ rv rL, o = .returned rv ∧ Q_rm_ac Z h0 n0  rv U'.heap rL ∧ FrameEnd U o U' rL ({ frames := 1, cells := 0, slots := 0, locals := 12 } : Room).cells ({ frames := 1, cells := 0, slots := 0, locals := 12 } : Room).slots) := by
  refine own_met (y := (⟨"java/util/AbstractCollection", "<init>", "()V"⟩ : MethodName)) (Q := Q_rm_ac Z h0 n0 ) (own := "java/util/AbstractCollection") rfl (plainFor_of_name pn_8) ?_
  intro p e s m below meth c s₁ C e0 X0
  obtain ⟨hx, hby, hml, hown, hnm, hret, hlk, hZ⟩ := C
  have N0 := Fr.nil n0
  rw [ef_8]
  show own_Goes _ _ _ _ _ _ _ s₁ (mkF m 0 #[.val (.ref a1)] [])
  refine own_go (fun _ k => XS.aloadN X0.here hx rfl (hb hby d8_0) rfl rfl k) ?_
  show own_Goes _ _ _ _ _ _ _ s₁ (mkF m 1 #[.val (.ref a1)] [(.ref a1)])
  obtain ⟨T1, X1, e1, st1⟩ := initO X0 hx hZ hown (hw _ (List.mem_of_getElem? (i := 61) rfl)) (hw _ (List.mem_of_getElem? (i := 10) rfl)) (hw _ (List.mem_of_getElem? (i := 11) rfl)) e0 (g := (mkF m 1 #[.val (.ref a1)] [(.ref a1)])) rfl (by rw [hml]; rfl) rfl (hb hby d8_1) (by decide) (W := 0) (by show 2 * 0 + _ ≤ _; exact Nat.le_of_eq rfl) (by decide)
  refine own_go st1 ?_
  show own_Goes _ _ _ _ _ _ _ T1 (mkF m 4 #[.val (.ref a1)] [])
  exact own_retV X1 hx hlk hret (hb hby d8_4) (by decide) (by decide) (by rw [e1]; exact ⟨rfl, N0, rfl⟩)
def Q_rm_aic (Z : State) (h0 : Heap) (n0 : Nat)  (v : Option Value) (h : Heap) (L : List Loc) : Prop := v = none ∧ Fr n0 L ∧ h = h0
set_option maxRecDepth 65536 in
set_option maxHeartbeats 40000000 in
theorem rm_aic (l : Launch) (Z : State) (a0 : Array Value) (hw : ∀ d ∈ tables_1, d.before a0 Z = true) (ws : List Jvm.Cond) (a1 : Addr) (h0 : Heap) (n0 : Nat) (Z0 : n0 ≤ h0.size) :
    MetFree l (⟨"java/util/ImmutableCollections$AbstractImmutableCollection", "<init>", "()V"⟩ : MethodName) (head1 (Jvm.Cond.code (⟨"java/util/ImmutableCollections$AbstractImmutableCollection", "<init>", "()V"⟩ : MethodName) jdk_47_method_1_code 1 none :: ws) ({ frames := 2, cells := 0, slots := 0, locals := 24 } : Room)) (fun a U => a = #[(.ref a1)] ∧ Z.Warmed39 U.vm ∧ U.heap = h0) (fun _ _ _ _ _ => True) (fun _ U o U' => ∃ rv rL, o = .returned rv ∧ Q_rm_aic Z h0 n0  rv U'.heap rL ∧ FrameEnd U o U' rL ({ frames := 2, cells := 0, slots := 0, locals := 24 } : Room).cells ({ frames := 2, cells := 0, slots := 0, locals := 24 } : Room).slots) := by
  refine own_met (y := (⟨"java/util/ImmutableCollections$AbstractImmutableCollection", "<init>", "()V"⟩ : MethodName)) (Q := Q_rm_aic Z h0 n0 ) (own := "java/util/ImmutableCollections$AbstractImmutableCollection") rfl (plainFor_of_name pn_25) ?_
  intro p e s m below meth c s₁ C e0 X0
  obtain ⟨hx, hby, hml, hown, hnm, hret, hlk, hZ⟩ := C
  have N0 := Fr.nil n0
  rw [ef_25]
  show own_Goes _ _ _ _ _ _ _ s₁ (mkF m 0 #[.val (.ref a1)] [])
  refine own_go (fun _ k => XS.aloadN X0.here hx rfl (hb hby d25_0) rfl rfl k) ?_
  show own_Goes _ _ _ _ _ _ _ s₁ (mkF m 1 #[.val (.ref a1)] [(.ref a1)])
  obtain ⟨_, _, ⟨T1, L1, k1, n1⟩, -, X1, ⟨Lc1, hQ1, l1, y1, z1⟩, st1⟩ := X0.specialBack hx (y := (⟨"java/util/AbstractCollection", "<init>", "()V"⟩ : MethodName)) rfl hown (mvT hZ (hw _ (List.mem_of_getElem? (i := 178) rfl))) (mvT hZ (hw _ (List.mem_of_getElem? (i := 56) rfl))) (mvT hZ (hw _ (List.mem_of_getElem? (i := 60) rfl))) (by decide) (backOf (W := 0) (rm_ac l Z a0 hw [] a1 h0 n0 Z0) hZ (hw _ (List.mem_of_getElem? (i := 60) rfl)) (hw _ (List.mem_of_getElem? (i := 59) rfl)) (by decide) (by decide)) (g := (mkF m 1 #[.val (.ref a1)] [(.ref a1)])) rfl (by rw [hml]; rfl) (Steps.refl _) (a := a1) (argsL := []) (rest := []) (lenOf pd_0 rfl) rfl (by show 2 * 0 + _ ≤ _; exact Nat.le_of_eq rfl) (hb hby d25_1) (fun _ _ => ⟨rfl, e0, (by decide : 0 + 0 ≤ _), (by decide : 0 + 0 ≤ _)⟩)
  dsimp only [Pt.U, Pt.locs, Pt.cells, Pt.slots] at X1 l1 y1 z1 st1 hQ1
  subst l1 y1 z1
  obtain ⟨rfl, N1q, e1⟩ := hQ1
  have N1 := Fr.app N0 N1q
  refine own_goS st1 ?_
  show own_Goes _ _ _ _ _ _ _ T1 (mkF m 4 #[.val (.ref a1)] [])
  exact own_retV X1 hx hlk hret (hb hby d25_4) (by decide) (by decide) (by rw [e1]; exact ⟨rfl, N1, rfl⟩)
def Q_rm_ail (Z : State) (h0 : Heap) (n0 : Nat)  (v : Option Value) (h : Heap) (L : List Loc) : Prop := v = none ∧ Fr n0 L ∧ h = h0
set_option maxRecDepth 65536 in
set_option maxHeartbeats 40000000 in
theorem rm_ail (l : Launch) (Z : State) (a0 : Array Value) (hw : ∀ d ∈ tables_1, d.before a0 Z = true) (ws : List Jvm.Cond) (a1 : Addr) (h0 : Heap) (n0 : Nat) (Z0 : n0 ≤ h0.size) :
    MetFree l (⟨"java/util/ImmutableCollections$AbstractImmutableList", "<init>", "()V"⟩ : MethodName) (head1 (Jvm.Cond.code (⟨"java/util/ImmutableCollections$AbstractImmutableList", "<init>", "()V"⟩ : MethodName) jdk_46_method_1_code 1 none :: ws) ({ frames := 3, cells := 0, slots := 0, locals := 36 } : Room)) (fun a U => a = #[(.ref a1)] ∧ Z.Warmed39 U.vm ∧ U.heap = h0) (fun _ _ _ _ _ => True) (fun _ U o U' => ∃ rv rL, o = .returned rv ∧ Q_rm_ail Z h0 n0  rv U'.heap rL ∧ FrameEnd U o U' rL ({ frames := 3, cells := 0, slots := 0, locals := 36 } : Room).cells ({ frames := 3, cells := 0, slots := 0, locals := 36 } : Room).slots) := by
  refine own_met (y := (⟨"java/util/ImmutableCollections$AbstractImmutableList", "<init>", "()V"⟩ : MethodName)) (Q := Q_rm_ail Z h0 n0 ) (own := "java/util/ImmutableCollections$AbstractImmutableList") rfl (plainFor_of_name pn_24) ?_
  intro p e s m below meth c s₁ C e0 X0
  obtain ⟨hx, hby, hml, hown, hnm, hret, hlk, hZ⟩ := C
  have N0 := Fr.nil n0
  rw [ef_24]
  show own_Goes _ _ _ _ _ _ _ s₁ (mkF m 0 #[.val (.ref a1)] [])
  refine own_go (fun _ k => XS.aloadN X0.here hx rfl (hb hby d24_0) rfl rfl k) ?_
  show own_Goes _ _ _ _ _ _ _ s₁ (mkF m 1 #[.val (.ref a1)] [(.ref a1)])
  obtain ⟨_, _, ⟨T1, L1, k1, n1⟩, -, X1, ⟨Lc1, hQ1, l1, y1, z1⟩, st1⟩ := X0.specialBack hx (y := (⟨"java/util/ImmutableCollections$AbstractImmutableCollection", "<init>", "()V"⟩ : MethodName)) rfl hown (mvT hZ (hw _ (List.mem_of_getElem? (i := 172) rfl))) (mvT hZ (hw _ (List.mem_of_getElem? (i := 173) rfl))) (mvT hZ (hw _ (List.mem_of_getElem? (i := 177) rfl))) (by decide) (backOf (W := 0) (rm_aic l Z a0 hw [] a1 h0 n0 Z0) hZ (hw _ (List.mem_of_getElem? (i := 177) rfl)) (hw _ (List.mem_of_getElem? (i := 176) rfl)) (by decide) (by decide)) (g := (mkF m 1 #[.val (.ref a1)] [(.ref a1)])) rfl (by rw [hml]; rfl) (Steps.refl _) (a := a1) (argsL := []) (rest := []) (lenOf pd_0 rfl) rfl (by show 2 * 0 + _ ≤ _; exact Nat.le_of_eq rfl) (hb hby d24_1) (fun _ _ => ⟨rfl, e0, (by decide : 0 + 0 ≤ _), (by decide : 0 + 0 ≤ _)⟩)
  dsimp only [Pt.U, Pt.locs, Pt.cells, Pt.slots] at X1 l1 y1 z1 st1 hQ1
  subst l1 y1 z1
  obtain ⟨rfl, N1q, e1⟩ := hQ1
  have N1 := Fr.app N0 N1q
  refine own_goS st1 ?_
  show own_Goes _ _ _ _ _ _ _ T1 (mkF m 4 #[.val (.ref a1)] [])
  exact own_retV X1 hx hlk hret (hb hby d24_4) (by decide) (by decide) (by rw [e1]; exact ⟨rfl, N1, rfl⟩)
def Q_rm_abl (Z : State) (h0 : Heap) (n0 : Nat) (a1 : Addr) (v : Option Value) (h : Heap) (L : List Loc) : Prop := v = none ∧ Fr n0 L ∧ Keep h0 h [a1] ∧ Fld Z h a1 "java/util/AbstractList" "modCount" "I" (.int (0 : Int32)) ∧ Fld Z h a1 "java/util/ArrayList" "size" "I" (.int (0 : Int32)) ∧ Fld Z h a1 "java/util/ArrayList" "elementData" "[Ljava/lang/Object;" .null
set_option maxRecDepth 65536 in
set_option maxHeartbeats 40000000 in
theorem rm_abl (l : Launch) (Z : State) (a0 : Array Value) (hw : ∀ d ∈ tables_1, d.before a0 Z = true) (ws : List Jvm.Cond) (a1 : Addr) (h0 : Heap) (n0 : Nat) (Z0 : n0 ≤ h0.size) (E_a1 : Exa Z h0 a1 "java/util/ArrayList") (F_mc : Fld Z h0 a1 "java/util/AbstractList" "modCount" "I" (.int (0 : Int32))) (F_sz : Fld Z h0 a1 "java/util/ArrayList" "size" "I" (.int (0 : Int32))) (F_el : Fld Z h0 a1 "java/util/ArrayList" "elementData" "[Ljava/lang/Object;" .null) (lo_a1 : n0 ≤ a1) :
    MetFree l (⟨"java/util/AbstractList", "<init>", "()V"⟩ : MethodName) (head1 (Jvm.Cond.code (⟨"java/util/AbstractList", "<init>", "()V"⟩ : MethodName) jdk_39_method_1_code 1 none :: ws) ({ frames := 2, cells := 0, slots := 0, locals := 24 } : Room)) (fun a U => a = #[(.ref a1)] ∧ Z.Warmed39 U.vm ∧ U.heap = h0) (fun _ _ _ _ _ => True) (fun _ U o U' => ∃ rv rL, o = .returned rv ∧ Q_rm_abl Z h0 n0 a1 rv U'.heap rL ∧ FrameEnd U o U' rL ({ frames := 2, cells := 0, slots := 0, locals := 24 } : Room).cells ({ frames := 2, cells := 0, slots := 0, locals := 24 } : Room).slots) := by
  refine own_met (y := (⟨"java/util/AbstractList", "<init>", "()V"⟩ : MethodName)) (Q := Q_rm_abl Z h0 n0 a1) (own := "java/util/AbstractList") rfl (plainFor_of_name pn_7) ?_
  intro p e s m below meth c s₁ C e0 X0
  obtain ⟨hx, hby, hml, hown, hnm, hret, hlk, hZ⟩ := C
  have N0 := Fr.nil n0
  rw [ef_7]
  have Kp0 : Keep h0 h0 [a1] := Keep.refl h0 _
  show own_Goes _ _ _ _ _ _ _ s₁ (mkF m 0 #[.val (.ref a1)] [])
  refine own_go (fun _ k => XS.aloadN X0.here hx rfl (hb hby d7_0) rfl rfl k) ?_
  show own_Goes _ _ _ _ _ _ _ s₁ (mkF m 1 #[.val (.ref a1)] [(.ref a1)])
  obtain ⟨_, _, ⟨T1, L1, k1, n1⟩, -, X1, ⟨Lc1, hQ1, l1, y1, z1⟩, st1⟩ := X0.specialBack hx (y := (⟨"java/util/AbstractCollection", "<init>", "()V"⟩ : MethodName)) rfl hown (mvT hZ (hw _ (List.mem_of_getElem? (i := 55) rfl))) (mvT hZ (hw _ (List.mem_of_getElem? (i := 56) rfl))) (mvT hZ (hw _ (List.mem_of_getElem? (i := 60) rfl))) (by decide) (backOf (W := 0) (rm_ac l Z a0 hw [] a1 h0 n0 Z0) hZ (hw _ (List.mem_of_getElem? (i := 60) rfl)) (hw _ (List.mem_of_getElem? (i := 59) rfl)) (by decide) (by decide)) (g := (mkF m 1 #[.val (.ref a1)] [(.ref a1)])) rfl (by rw [hml]; rfl) (Steps.refl _) (a := a1) (argsL := []) (rest := []) (lenOf pd_0 rfl) rfl (by show 2 * 0 + _ ≤ _; exact Nat.le_of_eq rfl) (hb hby d7_1) (fun _ _ => ⟨rfl, e0, (by decide : 0 + 0 ≤ _), (by decide : 0 + 0 ≤ _)⟩)
  dsimp only [Pt.U, Pt.locs, Pt.cells, Pt.slots] at X1 l1 y1 z1 st1 hQ1
  subst l1 y1 z1
  obtain ⟨rfl, N1q, e1⟩ := hQ1
  have N1 := Fr.app N0 N1q
  refine own_goS st1 ?_
  show own_Goes _ _ _ _ _ _ _ T1 (mkF m 4 #[.val (.ref a1)] [])
  refine own_go (fun _ k => XS.aloadN X1.here hx rfl (hb hby d7_4) rfl rfl k) ?_
  show own_Goes _ _ _ _ _ _ _ T1 (mkF m 5 #[.val (.ref a1)] [(.ref a1)])
  refine own_go (fun _ k => XS.iconst X1.here hx rfl (hb hby d7_5) k) ?_
  show own_Goes _ _ _ _ _ _ _ T1 (mkF m 6 #[.val (.ref a1)] [(.int (0 : Int32)), (.ref a1)])
  obtain ⟨T2, h2, X2, e2, W2, st2⟩ := putF X1 hx hZ hown (host := "") (Or.inl (hw _ (List.mem_of_getElem? (i := 62) rfl))) Via.refl e1 F_mc E_a1 (Or.inl (hw _ (List.mem_of_getElem? (i := 63) rfl))) (hw _ (List.mem_of_getElem? (i := 44) rfl)) (ty := .int) (by decide) rfl rfl (g := (mkF m 6 #[.val (.ref a1)] [(.int (0 : Int32)), (.ref a1)])) rfl rfl (hb hby d7_6)
  have F_mc_2 : Fld Z h2 a1 "java/util/AbstractList" "modCount" "I" (.int (0 : Int32)) := F_mc.same W2
  have N2 := Fr.snoc X2 N1 lo_a1
  have E_a1_2 : Exa Z h2 a1 "java/util/ArrayList" := E_a1.wr W2
  have F_sz_2 : Fld Z h2 a1 "java/util/ArrayList" "size" "I" (.int (0 : Int32)) := F_sz.other W2 (Or.inr (slot_ne (Or.inl (hw _ (List.mem_of_getElem? (i := 75) rfl))) (Or.inl (hw _ (List.mem_of_getElem? (i := 63) rfl))) (by decide) (t := .int) (t' := .int) (by decide) (by decide)))
  have F_el_2 : Fld Z h2 a1 "java/util/ArrayList" "elementData" "[Ljava/lang/Object;" .null := F_el.other W2 (Or.inr (slot_ne (Or.inl (hw _ (List.mem_of_getElem? (i := 66) rfl))) (Or.inl (hw _ (List.mem_of_getElem? (i := 63) rfl))) (by decide) (t := (.array (.object "java/lang/Object"))) (t' := .int) (by decide) (by decide)))
  have Zs2 : n0 ≤ h2.size := Nat.le_trans Z0 (Keep.of_wr W2).1
  have Kp2 : Keep h0 h2 [a1] := Kp0.wr W2 (Or.inl (by simp))
  refine own_go st2 ?_
  show own_Goes _ _ _ _ _ _ _ T2 (mkF m 9 #[.val (.ref a1)] [])
  exact own_retV X2 hx hlk hret (hb hby d7_9) (by decide) (by decide) (by rw [e2]; exact ⟨rfl, N2, Kp2, F_mc_2, F_sz_2, F_el_2⟩)
def Q_rm_al (Z : State) (h0 : Heap) (n0 : Nat) (a1 aD : Addr) (v : Option Value) (h : Heap) (L : List Loc) : Prop := v = none ∧ Fr n0 L ∧ Keep h0 h [a1] ∧ Fld Z h a1 "java/util/AbstractList" "modCount" "I" (.int (0 : Int32)) ∧ Fld Z h a1 "java/util/ArrayList" "size" "I" (.int (0 : Int32)) ∧ Fld Z h a1 "java/util/ArrayList" "elementData" "[Ljava/lang/Object;" (.ref aD)
set_option maxRecDepth 65536 in
set_option maxHeartbeats 40000000 in
theorem rm_al (l : Launch) (Z : State) (a0 : Array Value) (hw : ∀ d ∈ tables_1, d.before a0 Z = true) (ws : List Jvm.Cond) (a1 aD : Addr) (h0 : Heap) (n0 : Nat) (Z0 : n0 ≤ h0.size) (E_a1 : Exa Z h0 a1 "java/util/ArrayList") (F_mc : Fld Z h0 a1 "java/util/AbstractList" "modCount" "I" (.int (0 : Int32))) (F_sz : Fld Z h0 a1 "java/util/ArrayList" "size" "I" (.int (0 : Int32))) (F_el : Fld Z h0 a1 "java/util/ArrayList" "elementData" "[Ljava/lang/Object;" .null) (lo_a1 : n0 ≤ a1) (SD : Sta Z Z.heap "java/util/ArrayList" "DEFAULTCAPACITY_EMPTY_ELEMENTDATA" "[Ljava/lang/Object;" (.ref aD)) (Od0 : Old Z n0 h0) :
    MetFree l (⟨"java/util/ArrayList", "<init>", "()V"⟩ : MethodName) (head1 (Jvm.Cond.code (⟨"java/util/ArrayList", "<init>", "()V"⟩ : MethodName) jdk_38_method_2_code 1 none :: ws) ({ frames := 3, cells := 0, slots := 0, locals := 36 } : Room)) (fun a U => a = #[(.ref a1)] ∧ Z.Warmed39 U.vm ∧ U.heap = h0) (fun _ _ _ _ _ => True) (fun _ U o U' => ∃ rv rL, o = .returned rv ∧ Q_rm_al Z h0 n0 a1 aD rv U'.heap rL ∧ FrameEnd U o U' rL ({ frames := 3, cells := 0, slots := 0, locals := 36 } : Room).cells ({ frames := 3, cells := 0, slots := 0, locals := 36 } : Room).slots) := by
  refine own_met (y := (⟨"java/util/ArrayList", "<init>", "()V"⟩ : MethodName)) (Q := Q_rm_al Z h0 n0 a1 aD) (own := "java/util/ArrayList") rfl (plainFor_of_name pn_6) ?_
  intro p e s m below meth c s₁ C e0 X0
  obtain ⟨hx, hby, hml, hown, hnm, hret, hlk, hZ⟩ := C
  have N0 := Fr.nil n0
  rw [ef_6]
  have Kp0 : Keep h0 h0 [a1] := Keep.refl h0 _
  show own_Goes _ _ _ _ _ _ _ s₁ (mkF m 0 #[.val (.ref a1)] [])
  refine own_go (fun _ k => XS.aloadN X0.here hx rfl (hb hby d6_0) rfl rfl k) ?_
  show own_Goes _ _ _ _ _ _ _ s₁ (mkF m 1 #[.val (.ref a1)] [(.ref a1)])
  obtain ⟨_, _, ⟨T1, L1, k1, n1⟩, -, X1, ⟨Lc1, hQ1, l1, y1, z1⟩, st1⟩ := X0.specialBack hx (y := (⟨"java/util/AbstractList", "<init>", "()V"⟩ : MethodName)) rfl hown (mvT hZ (hw _ (List.mem_of_getElem? (i := 49) rfl))) (mvT hZ (hw _ (List.mem_of_getElem? (i := 50) rfl))) (mvT hZ (hw _ (List.mem_of_getElem? (i := 54) rfl))) (by decide) (backOf (W := 0) (rm_abl l Z a0 hw [] a1 h0 n0 Z0 E_a1 F_mc F_sz F_el lo_a1) hZ (hw _ (List.mem_of_getElem? (i := 54) rfl)) (hw _ (List.mem_of_getElem? (i := 53) rfl)) (by decide) (by decide)) (g := (mkF m 1 #[.val (.ref a1)] [(.ref a1)])) rfl (by rw [hml]; rfl) (Steps.refl _) (a := a1) (argsL := []) (rest := []) (lenOf pd_0 rfl) rfl (by show 2 * 0 + _ ≤ _; exact Nat.le_of_eq rfl) (hb hby d6_1) (fun _ _ => ⟨rfl, e0, (by decide : 0 + 0 ≤ _), (by decide : 0 + 0 ≤ _)⟩)
  dsimp only [Pt.U, Pt.locs, Pt.cells, Pt.slots] at X1 l1 y1 z1 st1 hQ1
  subst l1 y1 z1
  obtain ⟨rfl, N1q, K1, Fa1, Fb1, Fc1⟩ := hQ1
  have N1 := Fr.app N0 N1q
  refine own_goS st1 ?_
  show own_Goes _ _ _ _ _ _ _ T1 (mkF m 4 #[.val (.ref a1)] [])
  have E_a1_1 : Exa Z T1.heap a1 "java/util/ArrayList" := E_a1.keep K1
  have Zs1 : n0 ≤ T1.heap.size := Nat.le_trans Z0 K1.1
  have Kp1 : Keep h0 T1.heap [a1] := Kp0.trans K1 (allS (Or.inl (by simp)) all0)
  have Od1 : Old Z n0 T1.heap := Od0.keep K1 (allS lo_a1 all0)
  refine own_go (fun _ k => XS.aloadN X1.here hx rfl (hb hby d6_4) rfl rfl k) ?_
  show own_Goes _ _ _ _ _ _ _ T1 (mkF m 5 #[.val (.ref a1)] [(.ref a1)])
  obtain ⟨T2, X2, e2, st2⟩ := getS2 X1 hx hZ hown (host := "") (Or.inl (hw _ (List.mem_of_getElem? (i := 64) rfl))) Via.refl rfl (SD.ext Od1.2) (g := (mkF m 5 #[.val (.ref a1)] [(.ref a1)])) rfl (hb hby d6_5)
  refine own_go st2 ?_
  show own_Goes _ _ _ _ _ _ _ T2 (mkF m 8 #[.val (.ref a1)] [(.ref aD), (.ref a1)])
  obtain ⟨T3, h3, X3, e3, W3, st3⟩ := putF X2 hx hZ hown (host := "") (Or.inl (hw _ (List.mem_of_getElem? (i := 65) rfl))) Via.refl e2 Fc1 E_a1_1 (Or.inl (hw _ (List.mem_of_getElem? (i := 66) rfl))) (hw _ (List.mem_of_getElem? (i := 44) rfl)) (ty := (.array (.object "java/lang/Object"))) (by decide) rfl rfl (g := (mkF m 8 #[.val (.ref a1)] [(.ref aD), (.ref a1)])) rfl rfl (hb hby d6_8)
  have F_el_3 : Fld Z h3 a1 "java/util/ArrayList" "elementData" "[Ljava/lang/Object;" (.ref aD) := Fc1.same W3
  have N3 := Fr.snoc X3 N1 lo_a1
  have E_a1_3 : Exa Z h3 a1 "java/util/ArrayList" := E_a1_1.wr W3
  have F_mc_3 : Fld Z h3 a1 "java/util/AbstractList" "modCount" "I" (.int (0 : Int32)) := Fa1.other W3 (Or.inr (slot_ne (Or.inl (hw _ (List.mem_of_getElem? (i := 63) rfl))) (Or.inl (hw _ (List.mem_of_getElem? (i := 66) rfl))) (by decide) (t := .int) (t' := (.array (.object "java/lang/Object"))) (by decide) (by decide)))
  have F_sz_3 : Fld Z h3 a1 "java/util/ArrayList" "size" "I" (.int (0 : Int32)) := Fb1.other W3 (Or.inr (slot_ne (Or.inl (hw _ (List.mem_of_getElem? (i := 75) rfl))) (Or.inl (hw _ (List.mem_of_getElem? (i := 66) rfl))) (by decide) (t := .int) (t' := (.array (.object "java/lang/Object"))) (by decide) (by decide)))
  have Zs3 : n0 ≤ h3.size := Nat.le_trans Zs1 (Keep.of_wr W3).1
  have Kp3 : Keep h0 h3 [a1] := Kp1.wr W3 (Or.inl (by simp))
  have Od3 : Old Z n0 h3 := Od1.wr W3 lo_a1
  refine own_go st3 ?_
  show own_Goes _ _ _ _ _ _ _ T3 (mkF m 11 #[.val (.ref a1)] [])
  exact own_retV X3 hx hlk hret (hb hby d6_11) (by decide) (by decide) (by rw [e3]; exact ⟨rfl, N3, Kp3, F_mc_3, F_sz_3, F_el_3⟩)
def Q_rm_growI (Z : State) (h0 : Heap) (n0 : Nat) (a1 : Addr) (v : Option Value) (h : Heap) (L : List Loc) : Prop := ∃ b kc, v = some (.ref b) ∧ Fr n0 L ∧ h0.size ≤ b ∧ Keep h0 h [a1] ∧ Fld Z h a1 "java/util/AbstractList" "modCount" "I" (.int (1 : Int32)) ∧ Fld Z h a1 "java/util/ArrayList" "size" "I" (.int (0 : Int32)) ∧ Fld Z h a1 "java/util/ArrayList" "elementData" "[Ljava/lang/Object;" (.ref b) ∧ Arv Z h b kc (.object "java/lang/Object") (10 : Int32) [] .null ∧ Ovr Z kc "java/lang/Object" ∧ Exa Z h b "[Ljava/lang/Object;"
set_option maxRecDepth 65536 in
set_option maxHeartbeats 40000000 in
theorem rm_growI (l : Launch) (Z : State) (a0 : Array Value) (hw : ∀ d ∈ tables_1, d.before a0 Z = true) (ws : List Jvm.Cond) (a1 aD : Addr) (cD : Cell) (h0 : Heap) (n0 : Nat) (Z0 : n0 ≤ h0.size) (E_a1 : Exa Z h0 a1 "java/util/ArrayList") (F_mc : Fld Z h0 a1 "java/util/AbstractList" "modCount" "I" (.int (1 : Int32))) (F_sz : Fld Z h0 a1 "java/util/ArrayList" "size" "I" (.int (0 : Int32))) (F_el : Fld Z h0 a1 "java/util/ArrayList" "elementData" "[Ljava/lang/Object;" (.ref aD)) (lo_a1 : n0 ≤ a1) (SD : Sta Z Z.heap "java/util/ArrayList" "DEFAULTCAPACITY_EMPTY_ELEMENTDATA" "[Ljava/lang/Object;" (.ref aD)) (AD : Arr Z Z.heap aD cD (.object "java/lang/Object")) (zD : cD.slots.size = 0) (Od0 : Old Z n0 h0) :
    MetFree l (⟨"java/util/ArrayList", "grow", "(I)[Ljava/lang/Object;"⟩ : MethodName) (head1 (Jvm.Cond.code (⟨"java/util/ArrayList", "grow", "(I)[Ljava/lang/Object;"⟩ : MethodName) jdk_38_method_6_code 4 (some (.array (.object "java/lang/Object"))) :: ws) ({ frames := 1, cells := 1, slots := 10, locals := 14 } : Room)) (fun a U => a = #[(.ref a1), (.int (1 : Int32))] ∧ Z.Warmed39 U.vm ∧ U.heap = h0) (fun _ _ _ _ _ => True) (fun _ U o U' => ∃ rv rL, o = .returned rv ∧ Q_rm_growI Z h0 n0 a1 rv U'.heap rL ∧ FrameEnd U o U' rL ({ frames := 1, cells := 1, slots := 10, locals := 14 } : Room).cells ({ frames := 1, cells := 1, slots := 10, locals := 14 } : Room).slots) := by
  refine own_met (y := (⟨"java/util/ArrayList", "grow", "(I)[Ljava/lang/Object;"⟩ : MethodName)) (Q := Q_rm_growI Z h0 n0 a1) (own := "java/util/ArrayList") rfl (plainFor_of_name pn_12) ?_
  intro p e s m below meth c s₁ C e0 X0
  obtain ⟨hx, hby, hml, hown, hnm, hret, hlk, hZ⟩ := C
  have N0 := Fr.nil n0
  rw [ef_12]
  have Kp0 : Keep h0 h0 [a1] := Keep.refl h0 _
  show own_Goes _ _ _ _ _ _ _ s₁ (mkF m 0 #[.val (.ref a1), .val (.int (1 : Int32)), .unset, .unset] [])
  refine own_go (fun _ k => XS.aloadN X0.here hx rfl (hb hby d12_0) rfl rfl k) ?_
  show own_Goes _ _ _ _ _ _ _ s₁ (mkF m 1 #[.val (.ref a1), .val (.int (1 : Int32)), .unset, .unset] [(.ref a1)])
  obtain ⟨T1, X1, e1, st1⟩ := getF X0 hx hZ hown (host := "") (Or.inl (hw _ (List.mem_of_getElem? (i := 65) rfl))) Via.refl e0 F_el (g := (mkF m 1 #[.val (.ref a1), .val (.int (1 : Int32)), .unset, .unset] [(.ref a1)])) rfl rfl (hb hby d12_1)
  refine own_go st1 ?_
  show own_Goes _ _ _ _ _ _ _ T1 (mkF m 4 #[.val (.ref a1), .val (.int (1 : Int32)), .unset, .unset] [(.ref aD)])
  refine own_go (fun t k => X1.arraylength hx (by rw [e1]; exact (AD.ext Od0.2).1) (State.isArrayOf_alike hZ.alike (AD.ext Od0.2).2.1) (g := (mkF m 4 #[.val (.ref a1), .val (.int (1 : Int32)), .unset, .unset] [(.ref aD)])) rfl rfl (hb hby d12_4) t k) ?_
  rw [show cD.slots.size.toInt32 = (0 : Int32) from (by rw [zD]; rfl)]
  show own_Goes _ _ _ _ _ _ _ T1 (mkF m 5 #[.val (.ref a1), .val (.int (1 : Int32)), .unset, .unset] [(.int (0 : Int32))])
  refine own_go (fun _ k => XS.istoreN X1.here hx rfl (hb hby d12_5) rfl (l' := #[.val (.ref a1), .val (.int (1 : Int32)), .val (.int (0 : Int32)), .unset]) rfl k) ?_
  show own_Goes _ _ _ _ _ _ _ T1 (mkF m 6 #[.val (.ref a1), .val (.int (1 : Int32)), .val (.int (0 : Int32)), .unset] [])
  refine own_go (fun _ k => XS.iloadN X1.here hx rfl (hb hby d12_6) rfl k) ?_
  show own_Goes _ _ _ _ _ _ _ T1 (mkF m 7 #[.val (.ref a1), .val (.int (1 : Int32)), .val (.int (0 : Int32)), .unset] [(.int (0 : Int32))])
  refine own_go (fun _ k => XS.ifNo X1.here hx rfl (hb hby d12_7) rfl ((if0 _ _).trans (flt (by decide : ¬ ((0 : Int32) < (0 : Int32)))).2.2.1) k) ?_
  show own_Goes _ _ _ _ _ _ _ T1 (mkF m 10 #[.val (.ref a1), .val (.int (1 : Int32)), .val (.int (0 : Int32)), .unset] [])
  refine own_go (fun _ k => XS.aloadN X1.here hx rfl (hb hby d12_10) rfl rfl k) ?_
  show own_Goes _ _ _ _ _ _ _ T1 (mkF m 11 #[.val (.ref a1), .val (.int (1 : Int32)), .val (.int (0 : Int32)), .unset] [(.ref a1)])
  obtain ⟨T2, X2, e2, st2⟩ := getF X1 hx hZ hown (host := "") (Or.inl (hw _ (List.mem_of_getElem? (i := 65) rfl))) Via.refl e1 F_el (g := (mkF m 11 #[.val (.ref a1), .val (.int (1 : Int32)), .val (.int (0 : Int32)), .unset] [(.ref a1)])) rfl rfl (hb hby d12_11)
  refine own_go st2 ?_
  show own_Goes _ _ _ _ _ _ _ T2 (mkF m 14 #[.val (.ref a1), .val (.int (1 : Int32)), .val (.int (0 : Int32)), .unset] [(.ref aD)])
  obtain ⟨T3, X3, e3, st3⟩ := getS2 X2 hx hZ hown (host := "") (Or.inl (hw _ (List.mem_of_getElem? (i := 64) rfl))) Via.refl e2 (SD.ext Od0.2) (g := (mkF m 14 #[.val (.ref a1), .val (.int (1 : Int32)), .val (.int (0 : Int32)), .unset] [(.ref aD)])) rfl (hb hby d12_14)
  refine own_go st3 ?_
  show own_Goes _ _ _ _ _ _ _ T3 (mkF m 17 #[.val (.ref a1), .val (.int (1 : Int32)), .val (.int (0 : Int32)), .unset] [(.ref aD), (.ref aD)])
  refine own_go (fun _ k => Jvm.RoadKit.acmp (g := (mkF m 17 #[.val (.ref a1), .val (.int (1 : Int32)), .val (.int (0 : Int32)), .unset] [(.ref aD), (.ref aD)])) X3 hx rfl rfl rfl (pc0 := 17) (pc' := 45) (same := true) rfl (hb hby d12_17) rfl (decide_eq_true rfl) (by decide) (by decide) k) ?_
  show own_Goes _ _ _ _ _ _ _ T3 (mkF m 45 #[.val (.ref a1), .val (.int (1 : Int32)), .val (.int (0 : Int32)), .unset] [])
  refine own_go (fun _ k => XS.aloadN X3.here hx rfl (hb hby d12_45) rfl rfl k) ?_
  show own_Goes _ _ _ _ _ _ _ T3 (mkF m 46 #[.val (.ref a1), .val (.int (1 : Int32)), .val (.int (0 : Int32)), .unset] [(.ref a1)])
  refine own_go (fun _ k => XS.bipush X3.here hx rfl (hb hby d12_46) k) ?_
  show own_Goes _ _ _ _ _ _ _ T3 (mkF m 48 #[.val (.ref a1), .val (.int (1 : Int32)), .val (.int (0 : Int32)), .unset] [(.int (10 : Int32)), (.ref a1)])
  refine own_go (fun _ k => XS.iloadN X3.here hx rfl (hb hby d12_48) rfl k) ?_
  show own_Goes _ _ _ _ _ _ _ T3 (mkF m 49 #[.val (.ref a1), .val (.int (1 : Int32)), .val (.int (0 : Int32)), .unset] [(.int (1 : Int32)), (.int (10 : Int32)), (.ref a1)])
  obtain ⟨_, _, ⟨T4, L4, k4, n4⟩, -, X4, ⟨Lc4, hQ4, l4, y4, z4⟩, st4⟩ := Jvm.LawKit.callS X3 hx (y := (⟨"java/lang/Math", "max", "(II)I"⟩ : MethodName)) hown (mvT hZ (hw _ (List.mem_of_getElem? (i := 91) rfl))) (mvT hZ (hw _ (List.mem_of_getElem? (i := 92) rfl))) (mvT hZ (hw _ (List.mem_of_getElem? (i := 93) rfl))) (mvT hZ (hw _ (List.mem_of_getElem? (i := 94) rfl))) (by decide) (backOf (W := 1) (rm_max l Z a0 hw [] h0 n0 Z0) hZ (hw _ (List.mem_of_getElem? (i := 94) rfl)) (hw _ (List.mem_of_getElem? (i := 93) rfl)) (by decide) (by decide)) (g := (mkF m 49 #[.val (.ref a1), .val (.int (1 : Int32)), .val (.int (0 : Int32)), .unset] [(.int (1 : Int32)), (.int (10 : Int32)), (.ref a1)])) rfl (by rw [hml]; rfl) (argsL := [(.int (10 : Int32)), (.int (1 : Int32))]) (rest := [(.ref a1)]) (lenOf pd_1 rfl) rfl (by show 2 * 0 + _ ≤ _; exact Nat.le_of_eq rfl) (hb hby d12_49) (fun _ _ => ⟨rfl, e3, (by decide : 0 + 0 ≤ _), (by decide : 0 + 0 ≤ _)⟩)
  dsimp only [Pt.U, Pt.locs, Pt.cells, Pt.slots] at X4 l4 y4 z4 st4 hQ4
  subst l4 y4 z4
  obtain ⟨rfl, N4q, e4⟩ := hQ4
  have N4 := Fr.app N0 N4q
  refine own_go st4 ?_
  show own_Goes _ _ _ _ _ _ _ T4 (mkF m 52 #[.val (.ref a1), .val (.int (1 : Int32)), .val (.int (0 : Int32)), .unset] [(.int (10 : Int32)), (.ref a1)])
  obtain ⟨T5, h5, k5, X5, e5, E5, A5, B5, O5, st5⟩ := newRE X4 hx hZ hown (hw _ (List.mem_of_getElem? (i := 95) rfl)) (hw _ (List.mem_of_getElem? (i := 96) rfl)) e4 (g := (mkF m 52 #[.val (.ref a1), .val (.int (1 : Int32)), .val (.int (0 : Int32)), .unset] [(.int (10 : Int32)), (.ref a1)])) rfl (hb hby d12_52) rfl (by decide) (cap := 10) (by decide) (by decide) (by decide) (by decide) (ad := "[Ljava/lang/Object;") (by decide)
  obtain ⟨b5, g5⟩ : ∃ z, z = h0.size := ⟨_, rfl⟩
  rw [← g5] at A5 B5 st5
  have lo_b5 : n0 ≤ b5 := Nat.le_trans Z0 (Nat.le_of_eq g5.symm)
  have bo_b5 : h0.size ≤ b5 := Nat.le_trans Kp0.1 (Nat.le_of_eq g5.symm)
  have ne_a1_b5 : a1 ≠ b5 := Nat.ne_of_lt (Nat.lt_of_lt_of_le E_a1.lt (Nat.le_of_eq g5.symm))
  have E_a1_5 : Exa Z h5 a1 "java/util/ArrayList" := E_a1.ext E5
  have F_mc_5 : Fld Z h5 a1 "java/util/AbstractList" "modCount" "I" (.int (1 : Int32)) := F_mc.ext E5
  have F_sz_5 : Fld Z h5 a1 "java/util/ArrayList" "size" "I" (.int (0 : Int32)) := F_sz.ext E5
  have F_el_5 : Fld Z h5 a1 "java/util/ArrayList" "elementData" "[Ljava/lang/Object;" (.ref aD) := F_el.ext E5
  have Zs5 : n0 ≤ h5.size := Nat.le_trans Z0 E5.1
  have Kp5 : Keep h0 h5 [a1] := Kp0.ext E5
  have Od5 : Old Z n0 h5 := Od0.ext E5
  have V5 : Arv Z h5 b5 k5 (.object "java/lang/Object") (10 : Int32) [] .null := Arv.new A5 (by decide)
  refine own_go st5 ?_
  show own_Goes _ _ _ _ _ _ _ T5 (mkF m 55 #[.val (.ref a1), .val (.int (1 : Int32)), .val (.int (0 : Int32)), .unset] [(.ref b5), (.ref a1)])
  refine own_go (fun _ k => XS.dupX1 X5.here hx rfl (hb hby d12_55) rfl rfl rfl k) ?_
  show own_Goes _ _ _ _ _ _ _ T5 (mkF m 56 #[.val (.ref a1), .val (.int (1 : Int32)), .val (.int (0 : Int32)), .unset] [(.ref b5), (.ref a1), (.ref b5)])
  obtain ⟨T6, h6, X6, e6, W6, st6⟩ := putF X5 hx hZ hown (host := "") (Or.inl (hw _ (List.mem_of_getElem? (i := 65) rfl))) Via.refl e5 F_el_5 E_a1_5 (Or.inl (hw _ (List.mem_of_getElem? (i := 66) rfl))) (hw _ (List.mem_of_getElem? (i := 44) rfl)) (ty := (.array (.object "java/lang/Object"))) (by decide) rfl rfl (g := (mkF m 56 #[.val (.ref a1), .val (.int (1 : Int32)), .val (.int (0 : Int32)), .unset] [(.ref b5), (.ref a1), (.ref b5)])) rfl rfl (hb hby d12_56)
  have F_el_6 : Fld Z h6 a1 "java/util/ArrayList" "elementData" "[Ljava/lang/Object;" (.ref b5) := F_el_5.same W6
  have N6 := Fr.snoc X6 N4 lo_a1
  have E_a1_6 : Exa Z h6 a1 "java/util/ArrayList" := E_a1_5.wr W6
  have F_mc_6 : Fld Z h6 a1 "java/util/AbstractList" "modCount" "I" (.int (1 : Int32)) := F_mc_5.other W6 (Or.inr (slot_ne (Or.inl (hw _ (List.mem_of_getElem? (i := 63) rfl))) (Or.inl (hw _ (List.mem_of_getElem? (i := 66) rfl))) (by decide) (t := .int) (t' := (.array (.object "java/lang/Object"))) (by decide) (by decide)))
  have F_sz_6 : Fld Z h6 a1 "java/util/ArrayList" "size" "I" (.int (0 : Int32)) := F_sz_5.other W6 (Or.inr (slot_ne (Or.inl (hw _ (List.mem_of_getElem? (i := 75) rfl))) (Or.inl (hw _ (List.mem_of_getElem? (i := 66) rfl))) (by decide) (t := .int) (t' := (.array (.object "java/lang/Object"))) (by decide) (by decide)))
  have V_b5_6 : Arv Z h6 b5 k5 (.object "java/lang/Object") (10 : Int32) [] .null := V5.other W6 (Ne.symm ne_a1_b5)
  have E_b5_6 : Exa Z h6 b5 "[Ljava/lang/Object;" := B5.wr W6
  have Zs6 : n0 ≤ h6.size := Nat.le_trans Zs5 (Keep.of_wr W6).1
  have Kp6 : Keep h0 h6 [a1] := Kp5.wr W6 (Or.inl (by simp))
  have Od6 : Old Z n0 h6 := Od5.wr W6 lo_a1
  refine own_go st6 ?_
  show own_Goes _ _ _ _ _ _ _ T6 (mkF m 59 #[.val (.ref a1), .val (.int (1 : Int32)), .val (.int (0 : Int32)), .unset] [(.ref b5)])
  exact own_retA X6 hx hlk hret rfl rfl (hb hby d12_59) (by decide) (by decide) (by rw [e6]; exact ⟨b5, _, rfl, N6, bo_b5, Kp6, F_mc_6, F_sz_6, F_el_6, V_b5_6, O5, E_b5_6⟩)
def Q_rm_grow (Z : State) (h0 : Heap) (n0 : Nat) (a1 : Addr) (v : Option Value) (h : Heap) (L : List Loc) : Prop := ∃ b kc, v = some (.ref b) ∧ Fr n0 L ∧ h0.size ≤ b ∧ Keep h0 h [a1] ∧ Fld Z h a1 "java/util/AbstractList" "modCount" "I" (.int (1 : Int32)) ∧ Fld Z h a1 "java/util/ArrayList" "size" "I" (.int (0 : Int32)) ∧ Fld Z h a1 "java/util/ArrayList" "elementData" "[Ljava/lang/Object;" (.ref b) ∧ Arv Z h b kc (.object "java/lang/Object") (10 : Int32) [] .null ∧ Ovr Z kc "java/lang/Object" ∧ Exa Z h b "[Ljava/lang/Object;"
set_option maxRecDepth 65536 in
set_option maxHeartbeats 40000000 in
theorem rm_grow (l : Launch) (Z : State) (a0 : Array Value) (hw : ∀ d ∈ tables_1, d.before a0 Z = true) (ws : List Jvm.Cond) (a1 aD : Addr) (cD : Cell) (h0 : Heap) (n0 : Nat) (Z0 : n0 ≤ h0.size) (E_a1 : Exa Z h0 a1 "java/util/ArrayList") (F_mc : Fld Z h0 a1 "java/util/AbstractList" "modCount" "I" (.int (1 : Int32))) (F_sz : Fld Z h0 a1 "java/util/ArrayList" "size" "I" (.int (0 : Int32))) (F_el : Fld Z h0 a1 "java/util/ArrayList" "elementData" "[Ljava/lang/Object;" (.ref aD)) (lo_a1 : n0 ≤ a1) (SD : Sta Z Z.heap "java/util/ArrayList" "DEFAULTCAPACITY_EMPTY_ELEMENTDATA" "[Ljava/lang/Object;" (.ref aD)) (AD : Arr Z Z.heap aD cD (.object "java/lang/Object")) (zD : cD.slots.size = 0) (Od0 : Old Z n0 h0) :
    MetFree l (⟨"java/util/ArrayList", "grow", "()[Ljava/lang/Object;"⟩ : MethodName) (head1 (Jvm.Cond.code (⟨"java/util/ArrayList", "grow", "()[Ljava/lang/Object;"⟩ : MethodName) jdk_38_method_7_code 1 (some (.array (.object "java/lang/Object"))) :: ws) ({ frames := 2, cells := 1, slots := 10, locals := 29 } : Room)) (fun a U => a = #[(.ref a1)] ∧ Z.Warmed39 U.vm ∧ U.heap = h0) (fun _ _ _ _ _ => True) (fun _ U o U' => ∃ rv rL, o = .returned rv ∧ Q_rm_grow Z h0 n0 a1 rv U'.heap rL ∧ FrameEnd U o U' rL ({ frames := 2, cells := 1, slots := 10, locals := 29 } : Room).cells ({ frames := 2, cells := 1, slots := 10, locals := 29 } : Room).slots) := by
  refine own_met (y := (⟨"java/util/ArrayList", "grow", "()[Ljava/lang/Object;"⟩ : MethodName)) (Q := Q_rm_grow Z h0 n0 a1) (own := "java/util/ArrayList") rfl (plainFor_of_name pn_11) ?_
  intro p e s m below meth c s₁ C e0 X0
  obtain ⟨hx, hby, hml, hown, hnm, hret, hlk, hZ⟩ := C
  have N0 := Fr.nil n0
  rw [ef_11]
  have Kp0 : Keep h0 h0 [a1] := Keep.refl h0 _
  show own_Goes _ _ _ _ _ _ _ s₁ (mkF m 0 #[.val (.ref a1)] [])
  refine own_go (fun _ k => XS.aloadN X0.here hx rfl (hb hby d11_0) rfl rfl k) ?_
  show own_Goes _ _ _ _ _ _ _ s₁ (mkF m 1 #[.val (.ref a1)] [(.ref a1)])
  refine own_go (fun _ k => XS.aloadN X0.here hx rfl (hb hby d11_1) rfl rfl k) ?_
  show own_Goes _ _ _ _ _ _ _ s₁ (mkF m 2 #[.val (.ref a1)] [(.ref a1), (.ref a1)])
  obtain ⟨T1, X1, e1, st1⟩ := getF X0 hx hZ hown (host := "") (Or.inl (hw _ (List.mem_of_getElem? (i := 74) rfl))) Via.refl e0 F_sz (g := (mkF m 2 #[.val (.ref a1)] [(.ref a1), (.ref a1)])) rfl rfl (hb hby d11_2)
  refine own_go st1 ?_
  show own_Goes _ _ _ _ _ _ _ T1 (mkF m 5 #[.val (.ref a1)] [(.int (0 : Int32)), (.ref a1)])
  refine own_go (fun _ k => XS.iconst X1.here hx rfl (hb hby d11_5) k) ?_
  show own_Goes _ _ _ _ _ _ _ T1 (mkF m 6 #[.val (.ref a1)] [(.int (1 : Int32)), (.int (0 : Int32)), (.ref a1)])
  refine own_go (fun _ k => XS.iadd X1.here hx rfl (hb hby d11_6) rfl k) ?_
  show own_Goes _ _ _ _ _ _ _ T1 (mkF m 7 #[.val (.ref a1)] [(.int (1 : Int32)), (.ref a1)])
  obtain ⟨cq2, zq2, zr2⟩ := E_a1.cell
  obtain ⟨_, _, ⟨T2, L2, k2, n2⟩, -, X2, ⟨Lc2, hQ2, l2, y2, z2⟩, st2⟩ := X1.privateBack hx (y := (⟨"java/util/ArrayList", "grow", "(I)[Ljava/lang/Object;"⟩ : MethodName)) hown (mvT hZ (hw _ (List.mem_of_getElem? (i := 86) rfl))) (mvT hZ (hw _ (List.mem_of_getElem? (i := 87) rfl))) (own_selP (y := (⟨"java/util/ArrayList", "grow", "(I)[Ljava/lang/Object;"⟩ : MethodName)) rfl (mvT hZ (hw _ (List.mem_of_getElem? (i := 44) rfl))) (mvT hZ (hw _ (List.mem_of_getElem? (i := 87) rfl))) (Cond.privateMethod_at (mvP hZ (hw _ (List.mem_of_getElem? (i := 88) rfl)) (args := #[]))) (by decide)) (Cond.privateMethod_at (mvP hZ (hw _ (List.mem_of_getElem? (i := 88) rfl)) (args := #[]))) (mvT hZ (hw _ (List.mem_of_getElem? (i := 90) rfl))) (by decide) (backOf (W := 0) (rm_growI l Z a0 hw [] a1 aD cD h0 n0 Z0 E_a1 F_mc F_sz F_el lo_a1 SD AD zD Od0) hZ (hw _ (List.mem_of_getElem? (i := 90) rfl)) (hw _ (List.mem_of_getElem? (i := 45) rfl)) (by decide) (by decide)) (g := (mkF m 7 #[.val (.ref a1)] [(.int (1 : Int32)), (.ref a1)])) rfl (by rw [hml]; rfl) (Steps.refl _) (a := a1) (by rw [e1]; exact zq2) zr2 (argsL := [(.int (1 : Int32))]) (rest := []) (lenOf pd_2 rfl) rfl (by show 2 * 0 + _ ≤ _; exact Nat.le_of_eq rfl) (hb hby d11_7) (fun _ _ => ⟨rfl, e1, (by decide : 0 + 1 ≤ _), (by decide : 0 + 10 ≤ _)⟩)
  dsimp only [Pt.U, Pt.locs, Pt.cells, Pt.slots] at X2 l2 y2 z2 st2 hQ2
  subst l2 y2 z2
  obtain ⟨bb2, kk2, rfl, N2q, hb2, K2, Fa2, Fb2, Fc2, Va2, Ov2, Ea2⟩ := hQ2
  have N2 := Fr.app N0 N2q
  refine own_goS st2 ?_
  show own_Goes _ _ _ _ _ _ _ T2 (mkF m 10 #[.val (.ref a1)] [(.ref bb2)])
  have E_a1_2 : Exa Z T2.heap a1 "java/util/ArrayList" := E_a1.keep K2
  have Zs2 : n0 ≤ T2.heap.size := Nat.le_trans Z0 K2.1
  have Kp2 : Keep h0 T2.heap [a1] := Kp0.trans K2 (allS (Or.inl (by simp)) all0)
  have Od2 : Old Z n0 T2.heap := Od0.keep K2 (allS lo_a1 all0)
  have lo_bb2 : n0 ≤ bb2 := Nat.le_trans Z0 hb2
  have bo_bb2 : h0.size ≤ bb2 := Nat.le_trans Kp0.1 hb2
  have ne_a1_bb2 : a1 ≠ bb2 := Nat.ne_of_lt (Nat.lt_of_lt_of_le E_a1.lt hb2)
  exact own_retA X2 hx hlk hret rfl rfl (hb hby d11_10) (by decide) (by decide) ⟨bb2, kk2, rfl, N2, bo_bb2, Kp2, Fa2, Fb2, Fc2, Va2, Ov2, Ea2⟩
def Q_rm_addP0 (Z : State) (h0 : Heap) (n0 : Nat) (a1 a2 : Addr) (v : Option Value) (h : Heap) (L : List Loc) : Prop := ∃ b kc, v = none ∧ Fr n0 L ∧ h0.size ≤ b ∧ Keep h0 h [a1] ∧ Fld Z h a1 "java/util/AbstractList" "modCount" "I" (.int (1 : Int32)) ∧ Fld Z h a1 "java/util/ArrayList" "size" "I" (.int (1 : Int32)) ∧ Fld Z h a1 "java/util/ArrayList" "elementData" "[Ljava/lang/Object;" (.ref b) ∧ Arv Z h b kc (.object "java/lang/Object") (10 : Int32) [(.ref a2)] .null ∧ Ovr Z kc "java/lang/Object" ∧ Exa Z h b "[Ljava/lang/Object;"
set_option maxRecDepth 65536 in
set_option maxHeartbeats 40000000 in
theorem rm_addP0 (l : Launch) (Z : State) (a0 : Array Value) (hw : ∀ d ∈ tables_1, d.before a0 Z = true) (ws : List Jvm.Cond) (a1 a2 aD : Addr) (cD : Cell) (h0 : Heap) (n0 : Nat) (Z0 : n0 ≤ h0.size) (E_a1 : Exa Z h0 a1 "java/util/ArrayList") (F_mc : Fld Z h0 a1 "java/util/AbstractList" "modCount" "I" (.int (1 : Int32))) (F_sz : Fld Z h0 a1 "java/util/ArrayList" "size" "I" (.int (0 : Int32))) (F_el : Fld Z h0 a1 "java/util/ArrayList" "elementData" "[Ljava/lang/Object;" (.ref aD)) (E_a2 : Exa Z h0 a2 "com/example/treellis/treellis/cfa/StructType$Member") (lo_a1 : n0 ≤ a1) (ne_a1_a2 : a1 ≠ a2) (SD : Sta Z Z.heap "java/util/ArrayList" "DEFAULTCAPACITY_EMPTY_ELEMENTDATA" "[Ljava/lang/Object;" (.ref aD)) (AD : Arr Z Z.heap aD cD (.object "java/lang/Object")) (zD : cD.slots.size = 0) (Od0 : Old Z n0 h0) :
    MetFree l (⟨"java/util/ArrayList", "add", "(Ljava/lang/Object;[Ljava/lang/Object;I)V"⟩ : MethodName) (head1 (Jvm.Cond.code (⟨"java/util/ArrayList", "add", "(Ljava/lang/Object;[Ljava/lang/Object;I)V"⟩ : MethodName) jdk_38_method_24_code 4 none :: ws) ({ frames := 3, cells := 1, slots := 10, locals := 41 } : Room)) (fun a U => a = #[(.ref a1), (.ref a2), (.ref aD), (.int (0 : Int32))] ∧ Z.Warmed39 U.vm ∧ U.heap = h0) (fun _ _ _ _ _ => True) (fun _ U o U' => ∃ rv rL, o = .returned rv ∧ Q_rm_addP0 Z h0 n0 a1 a2 rv U'.heap rL ∧ FrameEnd U o U' rL ({ frames := 3, cells := 1, slots := 10, locals := 41 } : Room).cells ({ frames := 3, cells := 1, slots := 10, locals := 41 } : Room).slots) := by
  refine own_met (y := (⟨"java/util/ArrayList", "add", "(Ljava/lang/Object;[Ljava/lang/Object;I)V"⟩ : MethodName)) (Q := Q_rm_addP0 Z h0 n0 a1 a2) (own := "java/util/ArrayList") rfl (plainFor_of_name pn_10) ?_
  intro p e s m below meth c s₁ C e0 X0
  obtain ⟨hx, hby, hml, hown, hnm, hret, hlk, hZ⟩ := C
  have N0 := Fr.nil n0
  rw [ef_10]
  have Kp0 : Keep h0 h0 [a1] := Keep.refl h0 _
  show own_Goes _ _ _ _ _ _ _ s₁ (mkF m 0 #[.val (.ref a1), .val (.ref a2), .val (.ref aD), .val (.int (0 : Int32))] [])
  refine own_go (fun _ k => XS.iloadN X0.here hx rfl (hb hby d10_0) rfl k) ?_
  show own_Goes _ _ _ _ _ _ _ s₁ (mkF m 1 #[.val (.ref a1), .val (.ref a2), .val (.ref aD), .val (.int (0 : Int32))] [(.int (0 : Int32))])
  refine own_go (fun _ k => XS.aloadN X0.here hx rfl (hb hby d10_1) rfl rfl k) ?_
  show own_Goes _ _ _ _ _ _ _ s₁ (mkF m 2 #[.val (.ref a1), .val (.ref a2), .val (.ref aD), .val (.int (0 : Int32))] [(.ref aD), (.int (0 : Int32))])
  refine own_go (fun t k => X0.arraylength hx (by rw [e0]; exact (AD.ext Od0.2).1) (State.isArrayOf_alike hZ.alike (AD.ext Od0.2).2.1) (g := (mkF m 2 #[.val (.ref a1), .val (.ref a2), .val (.ref aD), .val (.int (0 : Int32))] [(.ref aD), (.int (0 : Int32))])) rfl rfl (hb hby d10_2) t k) ?_
  rw [show cD.slots.size.toInt32 = (0 : Int32) from (by rw [zD]; rfl)]
  show own_Goes _ _ _ _ _ _ _ s₁ (mkF m 3 #[.val (.ref a1), .val (.ref a2), .val (.ref aD), .val (.int (0 : Int32))] [(.int (0 : Int32)), (.int (0 : Int32))])
  refine own_go (fun _ k => XS.icmpNo X0.here hx rfl (hb hby d10_3) rfl (teq (by decide : (0 : Int32) = (0 : Int32))).2 k) ?_
  show own_Goes _ _ _ _ _ _ _ s₁ (mkF m 6 #[.val (.ref a1), .val (.ref a2), .val (.ref aD), .val (.int (0 : Int32))] [])
  refine own_go (fun _ k => XS.aloadN X0.here hx rfl (hb hby d10_6) rfl rfl k) ?_
  show own_Goes _ _ _ _ _ _ _ s₁ (mkF m 7 #[.val (.ref a1), .val (.ref a2), .val (.ref aD), .val (.int (0 : Int32))] [(.ref a1)])
  obtain ⟨cq1, zq1, zr1⟩ := E_a1.cell
  obtain ⟨_, _, ⟨T1, L1, k1, n1⟩, -, X1, ⟨Lc1, hQ1, l1, y1, z1⟩, st1⟩ := X0.privateBack hx (y := (⟨"java/util/ArrayList", "grow", "()[Ljava/lang/Object;"⟩ : MethodName)) hown (mvT hZ (hw _ (List.mem_of_getElem? (i := 81) rfl))) (mvT hZ (hw _ (List.mem_of_getElem? (i := 82) rfl))) (own_selP (y := (⟨"java/util/ArrayList", "grow", "()[Ljava/lang/Object;"⟩ : MethodName)) rfl (mvT hZ (hw _ (List.mem_of_getElem? (i := 44) rfl))) (mvT hZ (hw _ (List.mem_of_getElem? (i := 82) rfl))) (Cond.privateMethod_at (mvP hZ (hw _ (List.mem_of_getElem? (i := 83) rfl)) (args := #[]))) (by decide)) (Cond.privateMethod_at (mvP hZ (hw _ (List.mem_of_getElem? (i := 83) rfl)) (args := #[]))) (mvT hZ (hw _ (List.mem_of_getElem? (i := 85) rfl))) (by decide) (backOf (W := 0) (rm_grow l Z a0 hw [] a1 aD cD h0 n0 Z0 E_a1 F_mc F_sz F_el lo_a1 SD AD zD Od0) hZ (hw _ (List.mem_of_getElem? (i := 85) rfl)) (hw _ (List.mem_of_getElem? (i := 45) rfl)) (by decide) (by decide)) (g := (mkF m 7 #[.val (.ref a1), .val (.ref a2), .val (.ref aD), .val (.int (0 : Int32))] [(.ref a1)])) rfl (by rw [hml]; rfl) (Steps.refl _) (a := a1) (by rw [e0]; exact zq1) zr1 (argsL := []) (rest := []) (lenOf pd_3 rfl) rfl (by show 2 * 0 + _ ≤ _; exact Nat.le_of_eq rfl) (hb hby d10_7) (fun _ _ => ⟨rfl, e0, (by decide : 0 + 1 ≤ _), (by decide : 0 + 10 ≤ _)⟩)
  dsimp only [Pt.U, Pt.locs, Pt.cells, Pt.slots] at X1 l1 y1 z1 st1 hQ1
  subst l1 y1 z1
  obtain ⟨bb1, kk1, rfl, N1q, hb1, K1, Fa1, Fb1, Fc1, Va1, Ov1, Ea1⟩ := hQ1
  have N1 := Fr.app N0 N1q
  refine own_goS st1 ?_
  show own_Goes _ _ _ _ _ _ _ T1 (mkF m 10 #[.val (.ref a1), .val (.ref a2), .val (.ref aD), .val (.int (0 : Int32))] [(.ref bb1)])
  have E_a1_1 : Exa Z T1.heap a1 "java/util/ArrayList" := E_a1.keep K1
  have E_a2_1 : Exa Z T1.heap a2 "com/example/treellis/treellis/cfa/StructType$Member" := E_a2.keep K1
  have Zs1 : n0 ≤ T1.heap.size := Nat.le_trans Z0 K1.1
  have Kp1 : Keep h0 T1.heap [a1] := Kp0.trans K1 (allS (Or.inl (by simp)) all0)
  have Od1 : Old Z n0 T1.heap := Od0.keep K1 (allS lo_a1 all0)
  have lo_bb1 : n0 ≤ bb1 := Nat.le_trans Z0 hb1
  have bo_bb1 : h0.size ≤ bb1 := Nat.le_trans Kp0.1 hb1
  have ne_a1_bb1 : a1 ≠ bb1 := Nat.ne_of_lt (Nat.lt_of_lt_of_le E_a1.lt hb1)
  have ne_a2_bb1 : a2 ≠ bb1 := Nat.ne_of_lt (Nat.lt_of_lt_of_le E_a2.lt hb1)
  refine own_go (fun _ k => XS.astoreN X1.here hx rfl (hb hby d10_10) rfl rfl (l' := #[.val (.ref a1), .val (.ref a2), .val (.ref bb1), .val (.int (0 : Int32))]) rfl k) ?_
  show own_Goes _ _ _ _ _ _ _ T1 (mkF m 11 #[.val (.ref a1), .val (.ref a2), .val (.ref bb1), .val (.int (0 : Int32))] [])
  refine own_go (fun _ k => XS.aloadN X1.here hx rfl (hb hby d10_11) rfl rfl k) ?_
  show own_Goes _ _ _ _ _ _ _ T1 (mkF m 12 #[.val (.ref a1), .val (.ref a2), .val (.ref bb1), .val (.int (0 : Int32))] [(.ref bb1)])
  refine own_go (fun _ k => XS.iloadN X1.here hx rfl (hb hby d10_12) rfl k) ?_
  show own_Goes _ _ _ _ _ _ _ T1 (mkF m 13 #[.val (.ref a1), .val (.ref a2), .val (.ref bb1), .val (.int (0 : Int32))] [(.int (0 : Int32)), (.ref bb1)])
  refine own_go (fun _ k => XS.aloadN X1.here hx rfl (hb hby d10_13) rfl rfl k) ?_
  show own_Goes _ _ _ _ _ _ _ T1 (mkF m 14 #[.val (.ref a1), .val (.ref a2), .val (.ref bb1), .val (.int (0 : Int32))] [(.ref a2), (.int (0 : Int32)), (.ref bb1)])
  have P2 : Arv Z T1.heap bb1 kk1 (.object "java/lang/Object") (10 : Int32) [.null] .null := Va1.pad (pad_rep [] .null 1)
  obtain ⟨c2, A2, q2, S2, M2, H2, G2⟩ := id P2
  have hin2 := inb_of S2 (j := (0 : Int32)) ⟨by decide, by decide⟩
  obtain ⟨T2, h2, X2, e2, W2, st2⟩ := stR X1 hx hZ rfl A2 (j := (0 : Int32)) hin2 rfl (Sto.ofV A2 q2 Ov1 (Ins.of_exa E_a2_1 (hw _ (List.mem_of_getElem? (i := 97) rfl)))) (g := (mkF m 14 #[.val (.ref a1), .val (.ref a2), .val (.ref bb1), .val (.int (0 : Int32))] [(.ref a2), (.int (0 : Int32)), (.ref bb1)])) rfl rfl (hb hby d10_14)
  have N2 := Fr.snoc X2 N1 lo_bb1
  have E_a1_2 : Exa Z h2 a1 "java/util/ArrayList" := E_a1_1.wr W2
  have E_a2_2 : Exa Z h2 a2 "com/example/treellis/treellis/cfa/StructType$Member" := E_a2_1.wr W2
  have F_mc_2 : Fld Z h2 a1 "java/util/AbstractList" "modCount" "I" (.int (1 : Int32)) := Fa1.other W2 (Or.inl ne_a1_bb1)
  have F_sz_2 : Fld Z h2 a1 "java/util/ArrayList" "size" "I" (.int (0 : Int32)) := Fb1.other W2 (Or.inl ne_a1_bb1)
  have F_el_2 : Fld Z h2 a1 "java/util/ArrayList" "elementData" "[Ljava/lang/Object;" (.ref bb1) := Fc1.other W2 (Or.inl ne_a1_bb1)
  have E_b_2 : Exa Z h2 bb1 "[Ljava/lang/Object;" := Ea1.wr W2
  have Zs2 : n0 ≤ h2.size := Nat.le_trans Zs1 (Keep.of_wr W2).1
  have Kp2 : Keep h0 h2 [a1] := Kp1.wr W2 (Or.inr bo_bb1)
  have Od2 : Old Z n0 h2 := Od1.wr W2 lo_bb1
  have V_b_2 : Arv Z h2 bb1 kk1 (.object "java/lang/Object") (10 : Int32) [(.ref a2)] .null := Arv.set A2 q2 S2 M2 H2 G2 rfl W2 0 rfl (Nat.le_of_ble_eq_true rfl)
  refine own_go st2 ?_
  show own_Goes _ _ _ _ _ _ _ T2 (mkF m 15 #[.val (.ref a1), .val (.ref a2), .val (.ref bb1), .val (.int (0 : Int32))] [])
  refine own_go (fun _ k => XS.aloadN X2.here hx rfl (hb hby d10_15) rfl rfl k) ?_
  show own_Goes _ _ _ _ _ _ _ T2 (mkF m 16 #[.val (.ref a1), .val (.ref a2), .val (.ref bb1), .val (.int (0 : Int32))] [(.ref a1)])
  refine own_go (fun _ k => XS.iloadN X2.here hx rfl (hb hby d10_16) rfl k) ?_
  show own_Goes _ _ _ _ _ _ _ T2 (mkF m 17 #[.val (.ref a1), .val (.ref a2), .val (.ref bb1), .val (.int (0 : Int32))] [(.int (0 : Int32)), (.ref a1)])
  refine own_go (fun _ k => XS.iconst X2.here hx rfl (hb hby d10_17) k) ?_
  show own_Goes _ _ _ _ _ _ _ T2 (mkF m 18 #[.val (.ref a1), .val (.ref a2), .val (.ref bb1), .val (.int (0 : Int32))] [(.int (1 : Int32)), (.int (0 : Int32)), (.ref a1)])
  refine own_go (fun _ k => XS.iadd X2.here hx rfl (hb hby d10_18) rfl k) ?_
  show own_Goes _ _ _ _ _ _ _ T2 (mkF m 19 #[.val (.ref a1), .val (.ref a2), .val (.ref bb1), .val (.int (0 : Int32))] [(.int (1 : Int32)), (.ref a1)])
  obtain ⟨T3, h3, X3, e3, W3, st3⟩ := putF X2 hx hZ hown (host := "") (Or.inl (hw _ (List.mem_of_getElem? (i := 74) rfl))) Via.refl e2 F_sz_2 E_a1_2 (Or.inl (hw _ (List.mem_of_getElem? (i := 75) rfl))) (hw _ (List.mem_of_getElem? (i := 44) rfl)) (ty := .int) (by decide) rfl rfl (g := (mkF m 19 #[.val (.ref a1), .val (.ref a2), .val (.ref bb1), .val (.int (0 : Int32))] [(.int (1 : Int32)), (.ref a1)])) rfl rfl (hb hby d10_19)
  have F_sz_3 : Fld Z h3 a1 "java/util/ArrayList" "size" "I" (.int (1 : Int32)) := F_sz_2.same W3
  have N3 := Fr.snoc X3 N2 lo_a1
  have E_a1_3 : Exa Z h3 a1 "java/util/ArrayList" := E_a1_2.wr W3
  have E_a2_3 : Exa Z h3 a2 "com/example/treellis/treellis/cfa/StructType$Member" := E_a2_2.wr W3
  have F_mc_3 : Fld Z h3 a1 "java/util/AbstractList" "modCount" "I" (.int (1 : Int32)) := F_mc_2.other W3 (Or.inr (slot_ne (Or.inl (hw _ (List.mem_of_getElem? (i := 63) rfl))) (Or.inl (hw _ (List.mem_of_getElem? (i := 75) rfl))) (by decide) (t := .int) (t' := .int) (by decide) (by decide)))
  have F_el_3 : Fld Z h3 a1 "java/util/ArrayList" "elementData" "[Ljava/lang/Object;" (.ref bb1) := F_el_2.other W3 (Or.inr (slot_ne (Or.inl (hw _ (List.mem_of_getElem? (i := 66) rfl))) (Or.inl (hw _ (List.mem_of_getElem? (i := 75) rfl))) (by decide) (t := (.array (.object "java/lang/Object"))) (t' := .int) (by decide) (by decide)))
  have E_b_3 : Exa Z h3 bb1 "[Ljava/lang/Object;" := E_b_2.wr W3
  have V_b_3 : Arv Z h3 bb1 kk1 (.object "java/lang/Object") (10 : Int32) [(.ref a2)] .null := V_b_2.other W3 (Ne.symm ne_a1_bb1)
  have Zs3 : n0 ≤ h3.size := Nat.le_trans Zs2 (Keep.of_wr W3).1
  have Kp3 : Keep h0 h3 [a1] := Kp2.wr W3 (Or.inl (by simp))
  have Od3 : Old Z n0 h3 := Od2.wr W3 lo_a1
  refine own_go st3 ?_
  show own_Goes _ _ _ _ _ _ _ T3 (mkF m 22 #[.val (.ref a1), .val (.ref a2), .val (.ref bb1), .val (.int (0 : Int32))] [])
  exact own_retV X3 hx hlk hret (hb hby d10_22) (by decide) (by decide) (by rw [e3]; exact ⟨bb1, kk1, rfl, N3, bo_bb1, Kp3, F_mc_3, F_sz_3, F_el_3, V_b_3, Ov1, E_b_3⟩)
def Q_rm_addP1 (Z : State) (h0 : Heap) (n0 : Nat) (a1 a2 a3 : Addr) (kc : ClassId) (v : Option Value) (h : Heap) (L : List Loc) : Prop := v = none ∧ Fr n0 L ∧ Keep h0 h [a1, a3] ∧ Fld Z h a1 "java/util/AbstractList" "modCount" "I" (.int (2 : Int32)) ∧ Fld Z h a1 "java/util/ArrayList" "size" "I" (.int (2 : Int32)) ∧ Fld Z h a1 "java/util/ArrayList" "elementData" "[Ljava/lang/Object;" (.ref a3) ∧ Arv Z h a3 kc (.object "java/lang/Object") (10 : Int32) [(.ref a2), (.ref a2)] .null
set_option maxRecDepth 65536 in
set_option maxHeartbeats 40000000 in
theorem rm_addP1 (l : Launch) (Z : State) (a0 : Array Value) (hw : ∀ d ∈ tables_1, d.before a0 Z = true) (ws : List Jvm.Cond) (a1 a2 a3 : Addr) (kc : ClassId) (h0 : Heap) (n0 : Nat) (Z0 : n0 ≤ h0.size) (E_a1 : Exa Z h0 a1 "java/util/ArrayList") (F_mc : Fld Z h0 a1 "java/util/AbstractList" "modCount" "I" (.int (2 : Int32))) (F_sz : Fld Z h0 a1 "java/util/ArrayList" "size" "I" (.int (1 : Int32))) (F_el : Fld Z h0 a1 "java/util/ArrayList" "elementData" "[Ljava/lang/Object;" (.ref a3)) (V_b : Arv Z h0 a3 kc (.object "java/lang/Object") (10 : Int32) [(.ref a2)] .null) (E_a2 : Exa Z h0 a2 "com/example/treellis/treellis/cfa/StructType$Member") (lo_a1 : n0 ≤ a1) (lo_a3 : n0 ≤ a3) (ne_a1_a2 : a1 ≠ a2) (ne_a1_a3 : a1 ≠ a3) (ne_a2_a3 : a2 ≠ a3) (Ov : Ovr Z kc "java/lang/Object") :
    MetFree l (⟨"java/util/ArrayList", "add", "(Ljava/lang/Object;[Ljava/lang/Object;I)V"⟩ : MethodName) (head1 (Jvm.Cond.code (⟨"java/util/ArrayList", "add", "(Ljava/lang/Object;[Ljava/lang/Object;I)V"⟩ : MethodName) jdk_38_method_24_code 4 none :: ws) ({ frames := 0, cells := 0, slots := 0, locals := 0 } : Room)) (fun a U => a = #[(.ref a1), (.ref a2), (.ref a3), (.int (1 : Int32))] ∧ Z.Warmed39 U.vm ∧ U.heap = h0) (fun _ _ _ _ _ => True) (fun _ U o U' => ∃ rv rL, o = .returned rv ∧ Q_rm_addP1 Z h0 n0 a1 a2 a3 kc rv U'.heap rL ∧ FrameEnd U o U' rL ({ frames := 0, cells := 0, slots := 0, locals := 0 } : Room).cells ({ frames := 0, cells := 0, slots := 0, locals := 0 } : Room).slots) := by
  refine own_met (y := (⟨"java/util/ArrayList", "add", "(Ljava/lang/Object;[Ljava/lang/Object;I)V"⟩ : MethodName)) (Q := Q_rm_addP1 Z h0 n0 a1 a2 a3 kc) (own := "java/util/ArrayList") rfl (plainFor_of_name pn_10) ?_
  intro p e s m below meth c s₁ C e0 X0
  obtain ⟨hx, hby, hml, hown, hnm, hret, hlk, hZ⟩ := C
  have N0 := Fr.nil n0
  rw [ef_10]
  have Kp0 : Keep h0 h0 [a1, a3] := Keep.refl h0 _
  show own_Goes _ _ _ _ _ _ _ s₁ (mkF m 0 #[.val (.ref a1), .val (.ref a2), .val (.ref a3), .val (.int (1 : Int32))] [])
  refine own_go (fun _ k => XS.iloadN X0.here hx rfl (hb hby d10_0) rfl k) ?_
  show own_Goes _ _ _ _ _ _ _ s₁ (mkF m 1 #[.val (.ref a1), .val (.ref a2), .val (.ref a3), .val (.int (1 : Int32))] [(.int (1 : Int32))])
  refine own_go (fun _ k => XS.aloadN X0.here hx rfl (hb hby d10_1) rfl rfl k) ?_
  show own_Goes _ _ _ _ _ _ _ s₁ (mkF m 2 #[.val (.ref a1), .val (.ref a2), .val (.ref a3), .val (.int (1 : Int32))] [(.ref a3), (.int (1 : Int32))])
  obtain ⟨c1, A1, q1, S1, M1, H1, G1⟩ := id V_b
  refine own_go (fun t k => X0.arraylength hx (by rw [e0]; exact A1.1) (State.isArrayOf_alike hZ.alike A1.2.1) (g := (mkF m 2 #[.val (.ref a1), .val (.ref a2), .val (.ref a3), .val (.int (1 : Int32))] [(.ref a3), (.int (1 : Int32))])) rfl rfl (hb hby d10_2) t k) ?_
  rw [len_of S1 M1]
  show own_Goes _ _ _ _ _ _ _ s₁ (mkF m 3 #[.val (.ref a1), .val (.ref a2), .val (.ref a3), .val (.int (1 : Int32))] [(.int (10 : Int32)), (.int (1 : Int32))])
  refine own_go (fun _ k => XS.icmpYes X0.here hx rfl (pc0 := 3) (pc' := 11) rfl (hb hby d10_3) rfl (feq (by decide : ¬ ((1 : Int32) = (10 : Int32)))).2 (by decide) (by decide) k) ?_
  show own_Goes _ _ _ _ _ _ _ s₁ (mkF m 11 #[.val (.ref a1), .val (.ref a2), .val (.ref a3), .val (.int (1 : Int32))] [])
  refine own_go (fun _ k => XS.aloadN X0.here hx rfl (hb hby d10_11) rfl rfl k) ?_
  show own_Goes _ _ _ _ _ _ _ s₁ (mkF m 12 #[.val (.ref a1), .val (.ref a2), .val (.ref a3), .val (.int (1 : Int32))] [(.ref a3)])
  refine own_go (fun _ k => XS.iloadN X0.here hx rfl (hb hby d10_12) rfl k) ?_
  show own_Goes _ _ _ _ _ _ _ s₁ (mkF m 13 #[.val (.ref a1), .val (.ref a2), .val (.ref a3), .val (.int (1 : Int32))] [(.int (1 : Int32)), (.ref a3)])
  refine own_go (fun _ k => XS.aloadN X0.here hx rfl (hb hby d10_13) rfl rfl k) ?_
  show own_Goes _ _ _ _ _ _ _ s₁ (mkF m 14 #[.val (.ref a1), .val (.ref a2), .val (.ref a3), .val (.int (1 : Int32))] [(.ref a2), (.int (1 : Int32)), (.ref a3)])
  have P2 : Arv Z h0 a3 kc (.object "java/lang/Object") (10 : Int32) [(.ref a2), .null] .null := V_b.pad (pad_rep [(.ref a2)] .null 1)
  obtain ⟨c2, A2, q2, S2, M2, H2, G2⟩ := id P2
  have hin2 := inb_of S2 (j := (1 : Int32)) ⟨by decide, by decide⟩
  obtain ⟨T2, h2, X2, e2, W2, st2⟩ := stR X0 hx hZ e0 A2 (j := (1 : Int32)) hin2 rfl (Sto.ofV A2 q2 Ov (Ins.of_exa E_a2 (hw _ (List.mem_of_getElem? (i := 97) rfl)))) (g := (mkF m 14 #[.val (.ref a1), .val (.ref a2), .val (.ref a3), .val (.int (1 : Int32))] [(.ref a2), (.int (1 : Int32)), (.ref a3)])) rfl rfl (hb hby d10_14)
  have N2 := Fr.snoc X2 N0 lo_a3
  have E_a1_2 : Exa Z h2 a1 "java/util/ArrayList" := E_a1.wr W2
  have F_mc_2 : Fld Z h2 a1 "java/util/AbstractList" "modCount" "I" (.int (2 : Int32)) := F_mc.other W2 (Or.inl ne_a1_a3)
  have F_sz_2 : Fld Z h2 a1 "java/util/ArrayList" "size" "I" (.int (1 : Int32)) := F_sz.other W2 (Or.inl ne_a1_a3)
  have F_el_2 : Fld Z h2 a1 "java/util/ArrayList" "elementData" "[Ljava/lang/Object;" (.ref a3) := F_el.other W2 (Or.inl ne_a1_a3)
  have E_a2_2 : Exa Z h2 a2 "com/example/treellis/treellis/cfa/StructType$Member" := E_a2.wr W2
  have Zs2 : n0 ≤ h2.size := Nat.le_trans Z0 (Keep.of_wr W2).1
  have Kp2 : Keep h0 h2 [a1, a3] := Kp0.wr W2 (Or.inl (by simp))
  have V_b_2 : Arv Z h2 a3 kc (.object "java/lang/Object") (10 : Int32) [(.ref a2), (.ref a2)] .null := Arv.set A2 q2 S2 M2 H2 G2 rfl W2 1 rfl (Nat.le_of_ble_eq_true rfl)
  refine own_go st2 ?_
  show own_Goes _ _ _ _ _ _ _ T2 (mkF m 15 #[.val (.ref a1), .val (.ref a2), .val (.ref a3), .val (.int (1 : Int32))] [])
  refine own_go (fun _ k => XS.aloadN X2.here hx rfl (hb hby d10_15) rfl rfl k) ?_
  show own_Goes _ _ _ _ _ _ _ T2 (mkF m 16 #[.val (.ref a1), .val (.ref a2), .val (.ref a3), .val (.int (1 : Int32))] [(.ref a1)])
  refine own_go (fun _ k => XS.iloadN X2.here hx rfl (hb hby d10_16) rfl k) ?_
  show own_Goes _ _ _ _ _ _ _ T2 (mkF m 17 #[.val (.ref a1), .val (.ref a2), .val (.ref a3), .val (.int (1 : Int32))] [(.int (1 : Int32)), (.ref a1)])
  refine own_go (fun _ k => XS.iconst X2.here hx rfl (hb hby d10_17) k) ?_
  show own_Goes _ _ _ _ _ _ _ T2 (mkF m 18 #[.val (.ref a1), .val (.ref a2), .val (.ref a3), .val (.int (1 : Int32))] [(.int (1 : Int32)), (.int (1 : Int32)), (.ref a1)])
  refine own_go (fun _ k => XS.iadd X2.here hx rfl (hb hby d10_18) rfl k) ?_
  show own_Goes _ _ _ _ _ _ _ T2 (mkF m 19 #[.val (.ref a1), .val (.ref a2), .val (.ref a3), .val (.int (1 : Int32))] [(.int (2 : Int32)), (.ref a1)])
  obtain ⟨T3, h3, X3, e3, W3, st3⟩ := putF X2 hx hZ hown (host := "") (Or.inl (hw _ (List.mem_of_getElem? (i := 74) rfl))) Via.refl e2 F_sz_2 E_a1_2 (Or.inl (hw _ (List.mem_of_getElem? (i := 75) rfl))) (hw _ (List.mem_of_getElem? (i := 44) rfl)) (ty := .int) (by decide) rfl rfl (g := (mkF m 19 #[.val (.ref a1), .val (.ref a2), .val (.ref a3), .val (.int (1 : Int32))] [(.int (2 : Int32)), (.ref a1)])) rfl rfl (hb hby d10_19)
  have F_sz_3 : Fld Z h3 a1 "java/util/ArrayList" "size" "I" (.int (2 : Int32)) := F_sz_2.same W3
  have N3 := Fr.snoc X3 N2 lo_a1
  have E_a1_3 : Exa Z h3 a1 "java/util/ArrayList" := E_a1_2.wr W3
  have F_mc_3 : Fld Z h3 a1 "java/util/AbstractList" "modCount" "I" (.int (2 : Int32)) := F_mc_2.other W3 (Or.inr (slot_ne (Or.inl (hw _ (List.mem_of_getElem? (i := 63) rfl))) (Or.inl (hw _ (List.mem_of_getElem? (i := 75) rfl))) (by decide) (t := .int) (t' := .int) (by decide) (by decide)))
  have F_el_3 : Fld Z h3 a1 "java/util/ArrayList" "elementData" "[Ljava/lang/Object;" (.ref a3) := F_el_2.other W3 (Or.inr (slot_ne (Or.inl (hw _ (List.mem_of_getElem? (i := 66) rfl))) (Or.inl (hw _ (List.mem_of_getElem? (i := 75) rfl))) (by decide) (t := (.array (.object "java/lang/Object"))) (t' := .int) (by decide) (by decide)))
  have E_a2_3 : Exa Z h3 a2 "com/example/treellis/treellis/cfa/StructType$Member" := E_a2_2.wr W3
  have V_b_3 : Arv Z h3 a3 kc (.object "java/lang/Object") (10 : Int32) [(.ref a2), (.ref a2)] .null := V_b_2.other W3 (Ne.symm ne_a1_a3)
  have Zs3 : n0 ≤ h3.size := Nat.le_trans Zs2 (Keep.of_wr W3).1
  have Kp3 : Keep h0 h3 [a1, a3] := Kp2.wr W3 (Or.inl (by simp))
  refine own_go st3 ?_
  show own_Goes _ _ _ _ _ _ _ T3 (mkF m 22 #[.val (.ref a1), .val (.ref a2), .val (.ref a3), .val (.int (1 : Int32))] [])
  exact own_retV X3 hx hlk hret (hb hby d10_22) (by decide) (by decide) (by rw [e3]; exact ⟨rfl, N3, Kp3, F_mc_3, F_sz_3, F_el_3, V_b_3⟩)
def Q_rm_addP2 (Z : State) (h0 : Heap) (n0 : Nat) (a1 a2 a3 : Addr) (kc : ClassId) (v : Option Value) (h : Heap) (L : List Loc) : Prop := v = none ∧ Fr n0 L ∧ Keep h0 h [a1, a3] ∧ Fld Z h a1 "java/util/AbstractList" "modCount" "I" (.int (3 : Int32)) ∧ Fld Z h a1 "java/util/ArrayList" "size" "I" (.int (3 : Int32)) ∧ Fld Z h a1 "java/util/ArrayList" "elementData" "[Ljava/lang/Object;" (.ref a3) ∧ Arv Z h a3 kc (.object "java/lang/Object") (10 : Int32) [(.ref a2), (.ref a2), (.ref a2)] .null
set_option maxRecDepth 65536 in
set_option maxHeartbeats 40000000 in
theorem rm_addP2 (l : Launch) (Z : State) (a0 : Array Value) (hw : ∀ d ∈ tables_1, d.before a0 Z = true) (ws : List Jvm.Cond) (a1 a2 a3 : Addr) (kc : ClassId) (h0 : Heap) (n0 : Nat) (Z0 : n0 ≤ h0.size) (E_a1 : Exa Z h0 a1 "java/util/ArrayList") (F_mc : Fld Z h0 a1 "java/util/AbstractList" "modCount" "I" (.int (3 : Int32))) (F_sz : Fld Z h0 a1 "java/util/ArrayList" "size" "I" (.int (2 : Int32))) (F_el : Fld Z h0 a1 "java/util/ArrayList" "elementData" "[Ljava/lang/Object;" (.ref a3)) (V_b : Arv Z h0 a3 kc (.object "java/lang/Object") (10 : Int32) [(.ref a2), (.ref a2)] .null) (E_a2 : Exa Z h0 a2 "com/example/treellis/treellis/cfa/StructType$Member") (lo_a1 : n0 ≤ a1) (lo_a3 : n0 ≤ a3) (ne_a1_a2 : a1 ≠ a2) (ne_a1_a3 : a1 ≠ a3) (ne_a2_a3 : a2 ≠ a3) (Ov : Ovr Z kc "java/lang/Object") :
    MetFree l (⟨"java/util/ArrayList", "add", "(Ljava/lang/Object;[Ljava/lang/Object;I)V"⟩ : MethodName) (head1 (Jvm.Cond.code (⟨"java/util/ArrayList", "add", "(Ljava/lang/Object;[Ljava/lang/Object;I)V"⟩ : MethodName) jdk_38_method_24_code 4 none :: ws) ({ frames := 0, cells := 0, slots := 0, locals := 0 } : Room)) (fun a U => a = #[(.ref a1), (.ref a2), (.ref a3), (.int (2 : Int32))] ∧ Z.Warmed39 U.vm ∧ U.heap = h0) (fun _ _ _ _ _ => True) (fun _ U o U' => ∃ rv rL, o = .returned rv ∧ Q_rm_addP2 Z h0 n0 a1 a2 a3 kc rv U'.heap rL ∧ FrameEnd U o U' rL ({ frames := 0, cells := 0, slots := 0, locals := 0 } : Room).cells ({ frames := 0, cells := 0, slots := 0, locals := 0 } : Room).slots) := by
  refine own_met (y := (⟨"java/util/ArrayList", "add", "(Ljava/lang/Object;[Ljava/lang/Object;I)V"⟩ : MethodName)) (Q := Q_rm_addP2 Z h0 n0 a1 a2 a3 kc) (own := "java/util/ArrayList") rfl (plainFor_of_name pn_10) ?_
  intro p e s m below meth c s₁ C e0 X0
  obtain ⟨hx, hby, hml, hown, hnm, hret, hlk, hZ⟩ := C
  have N0 := Fr.nil n0
  rw [ef_10]
  have Kp0 : Keep h0 h0 [a1, a3] := Keep.refl h0 _
  show own_Goes _ _ _ _ _ _ _ s₁ (mkF m 0 #[.val (.ref a1), .val (.ref a2), .val (.ref a3), .val (.int (2 : Int32))] [])
  refine own_go (fun _ k => XS.iloadN X0.here hx rfl (hb hby d10_0) rfl k) ?_
  show own_Goes _ _ _ _ _ _ _ s₁ (mkF m 1 #[.val (.ref a1), .val (.ref a2), .val (.ref a3), .val (.int (2 : Int32))] [(.int (2 : Int32))])
  refine own_go (fun _ k => XS.aloadN X0.here hx rfl (hb hby d10_1) rfl rfl k) ?_
  show own_Goes _ _ _ _ _ _ _ s₁ (mkF m 2 #[.val (.ref a1), .val (.ref a2), .val (.ref a3), .val (.int (2 : Int32))] [(.ref a3), (.int (2 : Int32))])
  obtain ⟨c1, A1, q1, S1, M1, H1, G1⟩ := id V_b
  refine own_go (fun t k => X0.arraylength hx (by rw [e0]; exact A1.1) (State.isArrayOf_alike hZ.alike A1.2.1) (g := (mkF m 2 #[.val (.ref a1), .val (.ref a2), .val (.ref a3), .val (.int (2 : Int32))] [(.ref a3), (.int (2 : Int32))])) rfl rfl (hb hby d10_2) t k) ?_
  rw [len_of S1 M1]
  show own_Goes _ _ _ _ _ _ _ s₁ (mkF m 3 #[.val (.ref a1), .val (.ref a2), .val (.ref a3), .val (.int (2 : Int32))] [(.int (10 : Int32)), (.int (2 : Int32))])
  refine own_go (fun _ k => XS.icmpYes X0.here hx rfl (pc0 := 3) (pc' := 11) rfl (hb hby d10_3) rfl (feq (by decide : ¬ ((2 : Int32) = (10 : Int32)))).2 (by decide) (by decide) k) ?_
  show own_Goes _ _ _ _ _ _ _ s₁ (mkF m 11 #[.val (.ref a1), .val (.ref a2), .val (.ref a3), .val (.int (2 : Int32))] [])
  refine own_go (fun _ k => XS.aloadN X0.here hx rfl (hb hby d10_11) rfl rfl k) ?_
  show own_Goes _ _ _ _ _ _ _ s₁ (mkF m 12 #[.val (.ref a1), .val (.ref a2), .val (.ref a3), .val (.int (2 : Int32))] [(.ref a3)])
  refine own_go (fun _ k => XS.iloadN X0.here hx rfl (hb hby d10_12) rfl k) ?_
  show own_Goes _ _ _ _ _ _ _ s₁ (mkF m 13 #[.val (.ref a1), .val (.ref a2), .val (.ref a3), .val (.int (2 : Int32))] [(.int (2 : Int32)), (.ref a3)])
  refine own_go (fun _ k => XS.aloadN X0.here hx rfl (hb hby d10_13) rfl rfl k) ?_
  show own_Goes _ _ _ _ _ _ _ s₁ (mkF m 14 #[.val (.ref a1), .val (.ref a2), .val (.ref a3), .val (.int (2 : Int32))] [(.ref a2), (.int (2 : Int32)), (.ref a3)])
  have P2 : Arv Z h0 a3 kc (.object "java/lang/Object") (10 : Int32) [(.ref a2), (.ref a2), .null] .null := V_b.pad (pad_rep [(.ref a2), (.ref a2)] .null 1)
  obtain ⟨c2, A2, q2, S2, M2, H2, G2⟩ := id P2
  have hin2 := inb_of S2 (j := (2 : Int32)) ⟨by decide, by decide⟩
  obtain ⟨T2, h2, X2, e2, W2, st2⟩ := stR X0 hx hZ e0 A2 (j := (2 : Int32)) hin2 rfl (Sto.ofV A2 q2 Ov (Ins.of_exa E_a2 (hw _ (List.mem_of_getElem? (i := 97) rfl)))) (g := (mkF m 14 #[.val (.ref a1), .val (.ref a2), .val (.ref a3), .val (.int (2 : Int32))] [(.ref a2), (.int (2 : Int32)), (.ref a3)])) rfl rfl (hb hby d10_14)
  have N2 := Fr.snoc X2 N0 lo_a3
  have E_a1_2 : Exa Z h2 a1 "java/util/ArrayList" := E_a1.wr W2
  have F_mc_2 : Fld Z h2 a1 "java/util/AbstractList" "modCount" "I" (.int (3 : Int32)) := F_mc.other W2 (Or.inl ne_a1_a3)
  have F_sz_2 : Fld Z h2 a1 "java/util/ArrayList" "size" "I" (.int (2 : Int32)) := F_sz.other W2 (Or.inl ne_a1_a3)
  have F_el_2 : Fld Z h2 a1 "java/util/ArrayList" "elementData" "[Ljava/lang/Object;" (.ref a3) := F_el.other W2 (Or.inl ne_a1_a3)
  have E_a2_2 : Exa Z h2 a2 "com/example/treellis/treellis/cfa/StructType$Member" := E_a2.wr W2
  have Zs2 : n0 ≤ h2.size := Nat.le_trans Z0 (Keep.of_wr W2).1
  have Kp2 : Keep h0 h2 [a1, a3] := Kp0.wr W2 (Or.inl (by simp))
  have V_b_2 : Arv Z h2 a3 kc (.object "java/lang/Object") (10 : Int32) [(.ref a2), (.ref a2), (.ref a2)] .null := Arv.set A2 q2 S2 M2 H2 G2 rfl W2 2 rfl (Nat.le_of_ble_eq_true rfl)
  refine own_go st2 ?_
  show own_Goes _ _ _ _ _ _ _ T2 (mkF m 15 #[.val (.ref a1), .val (.ref a2), .val (.ref a3), .val (.int (2 : Int32))] [])
  refine own_go (fun _ k => XS.aloadN X2.here hx rfl (hb hby d10_15) rfl rfl k) ?_
  show own_Goes _ _ _ _ _ _ _ T2 (mkF m 16 #[.val (.ref a1), .val (.ref a2), .val (.ref a3), .val (.int (2 : Int32))] [(.ref a1)])
  refine own_go (fun _ k => XS.iloadN X2.here hx rfl (hb hby d10_16) rfl k) ?_
  show own_Goes _ _ _ _ _ _ _ T2 (mkF m 17 #[.val (.ref a1), .val (.ref a2), .val (.ref a3), .val (.int (2 : Int32))] [(.int (2 : Int32)), (.ref a1)])
  refine own_go (fun _ k => XS.iconst X2.here hx rfl (hb hby d10_17) k) ?_
  show own_Goes _ _ _ _ _ _ _ T2 (mkF m 18 #[.val (.ref a1), .val (.ref a2), .val (.ref a3), .val (.int (2 : Int32))] [(.int (1 : Int32)), (.int (2 : Int32)), (.ref a1)])
  refine own_go (fun _ k => XS.iadd X2.here hx rfl (hb hby d10_18) rfl k) ?_
  show own_Goes _ _ _ _ _ _ _ T2 (mkF m 19 #[.val (.ref a1), .val (.ref a2), .val (.ref a3), .val (.int (2 : Int32))] [(.int (3 : Int32)), (.ref a1)])
  obtain ⟨T3, h3, X3, e3, W3, st3⟩ := putF X2 hx hZ hown (host := "") (Or.inl (hw _ (List.mem_of_getElem? (i := 74) rfl))) Via.refl e2 F_sz_2 E_a1_2 (Or.inl (hw _ (List.mem_of_getElem? (i := 75) rfl))) (hw _ (List.mem_of_getElem? (i := 44) rfl)) (ty := .int) (by decide) rfl rfl (g := (mkF m 19 #[.val (.ref a1), .val (.ref a2), .val (.ref a3), .val (.int (2 : Int32))] [(.int (3 : Int32)), (.ref a1)])) rfl rfl (hb hby d10_19)
  have F_sz_3 : Fld Z h3 a1 "java/util/ArrayList" "size" "I" (.int (3 : Int32)) := F_sz_2.same W3
  have N3 := Fr.snoc X3 N2 lo_a1
  have E_a1_3 : Exa Z h3 a1 "java/util/ArrayList" := E_a1_2.wr W3
  have F_mc_3 : Fld Z h3 a1 "java/util/AbstractList" "modCount" "I" (.int (3 : Int32)) := F_mc_2.other W3 (Or.inr (slot_ne (Or.inl (hw _ (List.mem_of_getElem? (i := 63) rfl))) (Or.inl (hw _ (List.mem_of_getElem? (i := 75) rfl))) (by decide) (t := .int) (t' := .int) (by decide) (by decide)))
  have F_el_3 : Fld Z h3 a1 "java/util/ArrayList" "elementData" "[Ljava/lang/Object;" (.ref a3) := F_el_2.other W3 (Or.inr (slot_ne (Or.inl (hw _ (List.mem_of_getElem? (i := 66) rfl))) (Or.inl (hw _ (List.mem_of_getElem? (i := 75) rfl))) (by decide) (t := (.array (.object "java/lang/Object"))) (t' := .int) (by decide) (by decide)))
  have E_a2_3 : Exa Z h3 a2 "com/example/treellis/treellis/cfa/StructType$Member" := E_a2_2.wr W3
  have V_b_3 : Arv Z h3 a3 kc (.object "java/lang/Object") (10 : Int32) [(.ref a2), (.ref a2), (.ref a2)] .null := V_b_2.other W3 (Ne.symm ne_a1_a3)
  have Zs3 : n0 ≤ h3.size := Nat.le_trans Zs2 (Keep.of_wr W3).1
  have Kp3 : Keep h0 h3 [a1, a3] := Kp2.wr W3 (Or.inl (by simp))
  refine own_go st3 ?_
  show own_Goes _ _ _ _ _ _ _ T3 (mkF m 22 #[.val (.ref a1), .val (.ref a2), .val (.ref a3), .val (.int (2 : Int32))] [])
  exact own_retV X3 hx hlk hret (hb hby d10_22) (by decide) (by decide) (by rw [e3]; exact ⟨rfl, N3, Kp3, F_mc_3, F_sz_3, F_el_3, V_b_3⟩)
def Q_rm_add0 (Z : State) (h0 : Heap) (n0 : Nat) (a1 a2 : Addr) (v : Option Value) (h : Heap) (L : List Loc) : Prop := ∃ b kc, v = some (.int 1) ∧ Fr n0 L ∧ h0.size ≤ b ∧ Keep h0 h [a1] ∧ Fld Z h a1 "java/util/AbstractList" "modCount" "I" (.int (1 : Int32)) ∧ Fld Z h a1 "java/util/ArrayList" "size" "I" (.int (1 : Int32)) ∧ Fld Z h a1 "java/util/ArrayList" "elementData" "[Ljava/lang/Object;" (.ref b) ∧ Arv Z h b kc (.object "java/lang/Object") (10 : Int32) [(.ref a2)] .null ∧ Ovr Z kc "java/lang/Object" ∧ Exa Z h b "[Ljava/lang/Object;"
set_option maxRecDepth 65536 in
set_option maxHeartbeats 40000000 in
theorem rm_add0 (l : Launch) (Z : State) (a0 : Array Value) (hw : ∀ d ∈ tables_1, d.before a0 Z = true) (ws : List Jvm.Cond) (a1 a2 aD : Addr) (cD : Cell) (h0 : Heap) (n0 : Nat) (Z0 : n0 ≤ h0.size) (E_a1 : Exa Z h0 a1 "java/util/ArrayList") (F_mc : Fld Z h0 a1 "java/util/AbstractList" "modCount" "I" (.int (0 : Int32))) (F_sz : Fld Z h0 a1 "java/util/ArrayList" "size" "I" (.int (0 : Int32))) (F_el : Fld Z h0 a1 "java/util/ArrayList" "elementData" "[Ljava/lang/Object;" (.ref aD)) (E_a2 : Exa Z h0 a2 "com/example/treellis/treellis/cfa/StructType$Member") (lo_a1 : n0 ≤ a1) (ne_a1_a2 : a1 ≠ a2) (SD : Sta Z Z.heap "java/util/ArrayList" "DEFAULTCAPACITY_EMPTY_ELEMENTDATA" "[Ljava/lang/Object;" (.ref aD)) (AD : Arr Z Z.heap aD cD (.object "java/lang/Object")) (zD : cD.slots.size = 0) (Od0 : Old Z n0 h0) :
    MetFree l (⟨"java/util/ArrayList", "add", "(Ljava/lang/Object;)Z"⟩ : MethodName) (head1 (Jvm.Cond.code (⟨"java/util/ArrayList", "add", "(Ljava/lang/Object;)Z"⟩ : MethodName) jdk_38_method_25_code 2 (some .boolean) :: ws) ({ frames := 4, cells := 1, slots := 10, locals := 56 } : Room)) (fun a U => a = #[(.ref a1), (.ref a2)] ∧ Z.Warmed39 U.vm ∧ U.heap = h0) (fun _ _ _ _ _ => True) (fun _ U o U' => ∃ rv rL, o = .returned rv ∧ Q_rm_add0 Z h0 n0 a1 a2 rv U'.heap rL ∧ FrameEnd U o U' rL ({ frames := 4, cells := 1, slots := 10, locals := 56 } : Room).cells ({ frames := 4, cells := 1, slots := 10, locals := 56 } : Room).slots) := by
  refine own_met (y := (⟨"java/util/ArrayList", "add", "(Ljava/lang/Object;)Z"⟩ : MethodName)) (Q := Q_rm_add0 Z h0 n0 a1 a2) (own := "java/util/ArrayList") rfl (plainFor_of_name pn_9) ?_
  intro p e s m below meth c s₁ C e0 X0
  obtain ⟨hx, hby, hml, hown, hnm, hret, hlk, hZ⟩ := C
  have N0 := Fr.nil n0
  rw [ef_9]
  have Kp0 : Keep h0 h0 [a1] := Keep.refl h0 _
  show own_Goes _ _ _ _ _ _ _ s₁ (mkF m 0 #[.val (.ref a1), .val (.ref a2)] [])
  refine own_go (fun _ k => XS.aloadN X0.here hx rfl (hb hby d9_0) rfl rfl k) ?_
  show own_Goes _ _ _ _ _ _ _ s₁ (mkF m 1 #[.val (.ref a1), .val (.ref a2)] [(.ref a1)])
  refine own_go (fun _ k => XS.dup X0.here hx rfl (hb hby d9_1) rfl rfl k) ?_
  show own_Goes _ _ _ _ _ _ _ s₁ (mkF m 2 #[.val (.ref a1), .val (.ref a2)] [(.ref a1), (.ref a1)])
  obtain ⟨T1, X1, e1, st1⟩ := getF X0 hx hZ hown (host := "") (Or.inl (hw _ (List.mem_of_getElem? (i := 72) rfl))) (Via.of (hw _ (List.mem_of_getElem? (i := 73) rfl))) e0 F_mc (g := (mkF m 2 #[.val (.ref a1), .val (.ref a2)] [(.ref a1), (.ref a1)])) rfl rfl (hb hby d9_2)
  refine own_go st1 ?_
  show own_Goes _ _ _ _ _ _ _ T1 (mkF m 5 #[.val (.ref a1), .val (.ref a2)] [(.int (0 : Int32)), (.ref a1)])
  refine own_go (fun _ k => XS.iconst X1.here hx rfl (hb hby d9_5) k) ?_
  show own_Goes _ _ _ _ _ _ _ T1 (mkF m 6 #[.val (.ref a1), .val (.ref a2)] [(.int (1 : Int32)), (.int (0 : Int32)), (.ref a1)])
  refine own_go (fun _ k => XS.iadd X1.here hx rfl (hb hby d9_6) rfl k) ?_
  show own_Goes _ _ _ _ _ _ _ T1 (mkF m 7 #[.val (.ref a1), .val (.ref a2)] [(.int (1 : Int32)), (.ref a1)])
  obtain ⟨T2, h2, X2, e2, W2, st2⟩ := putF X1 hx hZ hown (host := "") (Or.inl (hw _ (List.mem_of_getElem? (i := 72) rfl))) (Via.of (hw _ (List.mem_of_getElem? (i := 73) rfl))) e1 F_mc E_a1 (Or.inl (hw _ (List.mem_of_getElem? (i := 63) rfl))) (hw _ (List.mem_of_getElem? (i := 44) rfl)) (ty := .int) (by decide) rfl rfl (g := (mkF m 7 #[.val (.ref a1), .val (.ref a2)] [(.int (1 : Int32)), (.ref a1)])) rfl rfl (hb hby d9_7)
  have F_mc_2 : Fld Z h2 a1 "java/util/AbstractList" "modCount" "I" (.int (1 : Int32)) := F_mc.same W2
  have N2 := Fr.snoc X2 N0 lo_a1
  have E_a1_2 : Exa Z h2 a1 "java/util/ArrayList" := E_a1.wr W2
  have F_sz_2 : Fld Z h2 a1 "java/util/ArrayList" "size" "I" (.int (0 : Int32)) := F_sz.other W2 (Or.inr (slot_ne (Or.inl (hw _ (List.mem_of_getElem? (i := 75) rfl))) (Or.inl (hw _ (List.mem_of_getElem? (i := 63) rfl))) (by decide) (t := .int) (t' := .int) (by decide) (by decide)))
  have F_el_2 : Fld Z h2 a1 "java/util/ArrayList" "elementData" "[Ljava/lang/Object;" (.ref aD) := F_el.other W2 (Or.inr (slot_ne (Or.inl (hw _ (List.mem_of_getElem? (i := 66) rfl))) (Or.inl (hw _ (List.mem_of_getElem? (i := 63) rfl))) (by decide) (t := (.array (.object "java/lang/Object"))) (t' := .int) (by decide) (by decide)))
  have E_a2_2 : Exa Z h2 a2 "com/example/treellis/treellis/cfa/StructType$Member" := E_a2.wr W2
  have Zs2 : n0 ≤ h2.size := Nat.le_trans Z0 (Keep.of_wr W2).1
  have Kp2 : Keep h0 h2 [a1] := Kp0.wr W2 (Or.inl (by simp))
  have Od2 : Old Z n0 h2 := Od0.wr W2 lo_a1
  refine own_go st2 ?_
  show own_Goes _ _ _ _ _ _ _ T2 (mkF m 10 #[.val (.ref a1), .val (.ref a2)] [])
  refine own_go (fun _ k => XS.aloadN X2.here hx rfl (hb hby d9_10) rfl rfl k) ?_
  show own_Goes _ _ _ _ _ _ _ T2 (mkF m 11 #[.val (.ref a1), .val (.ref a2)] [(.ref a1)])
  refine own_go (fun _ k => XS.aloadN X2.here hx rfl (hb hby d9_11) rfl rfl k) ?_
  show own_Goes _ _ _ _ _ _ _ T2 (mkF m 12 #[.val (.ref a1), .val (.ref a2)] [(.ref a2), (.ref a1)])
  refine own_go (fun _ k => XS.aloadN X2.here hx rfl (hb hby d9_12) rfl rfl k) ?_
  show own_Goes _ _ _ _ _ _ _ T2 (mkF m 13 #[.val (.ref a1), .val (.ref a2)] [(.ref a1), (.ref a2), (.ref a1)])
  obtain ⟨T3, X3, e3, st3⟩ := getF X2 hx hZ hown (host := "") (Or.inl (hw _ (List.mem_of_getElem? (i := 65) rfl))) Via.refl e2 F_el_2 (g := (mkF m 13 #[.val (.ref a1), .val (.ref a2)] [(.ref a1), (.ref a2), (.ref a1)])) rfl rfl (hb hby d9_13)
  refine own_go st3 ?_
  show own_Goes _ _ _ _ _ _ _ T3 (mkF m 16 #[.val (.ref a1), .val (.ref a2)] [(.ref aD), (.ref a2), (.ref a1)])
  refine own_go (fun _ k => XS.aloadN X3.here hx rfl (hb hby d9_16) rfl rfl k) ?_
  show own_Goes _ _ _ _ _ _ _ T3 (mkF m 17 #[.val (.ref a1), .val (.ref a2)] [(.ref a1), (.ref aD), (.ref a2), (.ref a1)])
  obtain ⟨T4, X4, e4, st4⟩ := getF X3 hx hZ hown (host := "") (Or.inl (hw _ (List.mem_of_getElem? (i := 74) rfl))) Via.refl e3 F_sz_2 (g := (mkF m 17 #[.val (.ref a1), .val (.ref a2)] [(.ref a1), (.ref aD), (.ref a2), (.ref a1)])) rfl rfl (hb hby d9_17)
  refine own_go st4 ?_
  show own_Goes _ _ _ _ _ _ _ T4 (mkF m 20 #[.val (.ref a1), .val (.ref a2)] [(.int (0 : Int32)), (.ref aD), (.ref a2), (.ref a1)])
  obtain ⟨cq5, zq5, zr5⟩ := E_a1_2.cell
  obtain ⟨_, _, ⟨T5, L5, k5, n5⟩, -, X5, ⟨Lc5, hQ5, l5, y5, z5⟩, st5⟩ := X4.privateBack hx (y := (⟨"java/util/ArrayList", "add", "(Ljava/lang/Object;[Ljava/lang/Object;I)V"⟩ : MethodName)) hown (mvT hZ (hw _ (List.mem_of_getElem? (i := 76) rfl))) (mvT hZ (hw _ (List.mem_of_getElem? (i := 77) rfl))) (own_selP (y := (⟨"java/util/ArrayList", "add", "(Ljava/lang/Object;[Ljava/lang/Object;I)V"⟩ : MethodName)) rfl (mvT hZ (hw _ (List.mem_of_getElem? (i := 44) rfl))) (mvT hZ (hw _ (List.mem_of_getElem? (i := 77) rfl))) (Cond.privateMethod_at (mvP hZ (hw _ (List.mem_of_getElem? (i := 78) rfl)) (args := #[]))) (by decide)) (Cond.privateMethod_at (mvP hZ (hw _ (List.mem_of_getElem? (i := 78) rfl)) (args := #[]))) (mvT hZ (hw _ (List.mem_of_getElem? (i := 80) rfl))) (by decide) (backOf (W := 0) (rm_addP0 l Z a0 hw [] a1 a2 aD cD h2 n0 Zs2 E_a1_2 F_mc_2 F_sz_2 F_el_2 E_a2_2 lo_a1 ne_a1_a2 SD AD zD Od2) hZ (hw _ (List.mem_of_getElem? (i := 80) rfl)) (hw _ (List.mem_of_getElem? (i := 45) rfl)) (by decide) (by decide)) (g := (mkF m 20 #[.val (.ref a1), .val (.ref a2)] [(.int (0 : Int32)), (.ref aD), (.ref a2), (.ref a1)])) rfl (by rw [hml]; rfl) (Steps.refl _) (a := a1) (by rw [e4]; exact zq5) zr5 (argsL := [(.ref a2), (.ref aD), (.int (0 : Int32))]) (rest := []) (lenOf pd_4 rfl) rfl (by show 2 * 0 + _ ≤ _; exact Nat.le_of_eq rfl) (hb hby d9_20) (fun _ _ => ⟨rfl, e4, (by decide : 0 + 1 ≤ _), (by decide : 0 + 10 ≤ _)⟩)
  dsimp only [Pt.U, Pt.locs, Pt.cells, Pt.slots] at X5 l5 y5 z5 st5 hQ5
  subst l5 y5 z5
  obtain ⟨bb5, kk5, rfl, N5q, hb5, K5, Fa5, Fb5, Fc5, Va5, Ov5, Ea5⟩ := hQ5
  have N5 := Fr.app N2 N5q
  refine own_goS st5 ?_
  show own_Goes _ _ _ _ _ _ _ T5 (mkF m 23 #[.val (.ref a1), .val (.ref a2)] [])
  have E_a1_5 : Exa Z T5.heap a1 "java/util/ArrayList" := E_a1_2.keep K5
  have E_a2_5 : Exa Z T5.heap a2 "com/example/treellis/treellis/cfa/StructType$Member" := E_a2_2.keep K5
  have Zs5 : n0 ≤ T5.heap.size := Nat.le_trans Zs2 K5.1
  have Kp5 : Keep h0 T5.heap [a1] := Kp2.trans K5 (allS (Or.inl (by simp)) all0)
  have Od5 : Old Z n0 T5.heap := Od2.keep K5 (allS lo_a1 all0)
  have lo_bb5 : n0 ≤ bb5 := Nat.le_trans Zs2 hb5
  have bo_bb5 : h0.size ≤ bb5 := Nat.le_trans Kp2.1 hb5
  have ne_a1_bb5 : a1 ≠ bb5 := Nat.ne_of_lt (Nat.lt_of_lt_of_le E_a1_2.lt hb5)
  have ne_a2_bb5 : a2 ≠ bb5 := Nat.ne_of_lt (Nat.lt_of_lt_of_le E_a2_2.lt hb5)
  refine own_go (fun _ k => XS.iconst X5.here hx rfl (hb hby d9_23) k) ?_
  show own_Goes _ _ _ _ _ _ _ T5 (mkF m 24 #[.val (.ref a1), .val (.ref a2)] [(.int (1 : Int32))])
  exact own_retN X5 hx (t := .boolean) hlk hret (by simp) (hb hby d9_24) (by decide) (by decide) ⟨bb5, kk5, rfl, N5, bo_bb5, Kp5, Fa5, Fb5, Fc5, Va5, Ov5, Ea5⟩
def Q_rm_add1 (Z : State) (h0 : Heap) (n0 : Nat) (a1 a2 a3 : Addr) (kc : ClassId) (v : Option Value) (h : Heap) (L : List Loc) : Prop := v = some (.int 1) ∧ Fr n0 L ∧ Keep h0 h [a1, a3] ∧ Fld Z h a1 "java/util/AbstractList" "modCount" "I" (.int (2 : Int32)) ∧ Fld Z h a1 "java/util/ArrayList" "size" "I" (.int (2 : Int32)) ∧ Fld Z h a1 "java/util/ArrayList" "elementData" "[Ljava/lang/Object;" (.ref a3) ∧ Arv Z h a3 kc (.object "java/lang/Object") (10 : Int32) [(.ref a2), (.ref a2)] .null
set_option maxRecDepth 65536 in
set_option maxHeartbeats 40000000 in
theorem rm_add1 (l : Launch) (Z : State) (a0 : Array Value) (hw : ∀ d ∈ tables_1, d.before a0 Z = true) (ws : List Jvm.Cond) (a1 a2 a3 : Addr) (kc : ClassId) (h0 : Heap) (n0 : Nat) (Z0 : n0 ≤ h0.size) (E_a1 : Exa Z h0 a1 "java/util/ArrayList") (F_mc : Fld Z h0 a1 "java/util/AbstractList" "modCount" "I" (.int (1 : Int32))) (F_sz : Fld Z h0 a1 "java/util/ArrayList" "size" "I" (.int (1 : Int32))) (F_el : Fld Z h0 a1 "java/util/ArrayList" "elementData" "[Ljava/lang/Object;" (.ref a3)) (V_b : Arv Z h0 a3 kc (.object "java/lang/Object") (10 : Int32) [(.ref a2)] .null) (E_a2 : Exa Z h0 a2 "com/example/treellis/treellis/cfa/StructType$Member") (lo_a1 : n0 ≤ a1) (lo_a3 : n0 ≤ a3) (ne_a1_a2 : a1 ≠ a2) (ne_a1_a3 : a1 ≠ a3) (ne_a2_a3 : a2 ≠ a3) (Ov : Ovr Z kc "java/lang/Object") :
    MetFree l (⟨"java/util/ArrayList", "add", "(Ljava/lang/Object;)Z"⟩ : MethodName) (head1 (Jvm.Cond.code (⟨"java/util/ArrayList", "add", "(Ljava/lang/Object;)Z"⟩ : MethodName) jdk_38_method_25_code 2 (some .boolean) :: ws) ({ frames := 1, cells := 0, slots := 0, locals := 15 } : Room)) (fun a U => a = #[(.ref a1), (.ref a2)] ∧ Z.Warmed39 U.vm ∧ U.heap = h0) (fun _ _ _ _ _ => True) (fun _ U o U' => ∃ rv rL, o = .returned rv ∧ Q_rm_add1 Z h0 n0 a1 a2 a3 kc rv U'.heap rL ∧ FrameEnd U o U' rL ({ frames := 1, cells := 0, slots := 0, locals := 15 } : Room).cells ({ frames := 1, cells := 0, slots := 0, locals := 15 } : Room).slots) := by
  refine own_met (y := (⟨"java/util/ArrayList", "add", "(Ljava/lang/Object;)Z"⟩ : MethodName)) (Q := Q_rm_add1 Z h0 n0 a1 a2 a3 kc) (own := "java/util/ArrayList") rfl (plainFor_of_name pn_9) ?_
  intro p e s m below meth c s₁ C e0 X0
  obtain ⟨hx, hby, hml, hown, hnm, hret, hlk, hZ⟩ := C
  have N0 := Fr.nil n0
  rw [ef_9]
  have Kp0 : Keep h0 h0 [a1, a3] := Keep.refl h0 _
  show own_Goes _ _ _ _ _ _ _ s₁ (mkF m 0 #[.val (.ref a1), .val (.ref a2)] [])
  refine own_go (fun _ k => XS.aloadN X0.here hx rfl (hb hby d9_0) rfl rfl k) ?_
  show own_Goes _ _ _ _ _ _ _ s₁ (mkF m 1 #[.val (.ref a1), .val (.ref a2)] [(.ref a1)])
  refine own_go (fun _ k => XS.dup X0.here hx rfl (hb hby d9_1) rfl rfl k) ?_
  show own_Goes _ _ _ _ _ _ _ s₁ (mkF m 2 #[.val (.ref a1), .val (.ref a2)] [(.ref a1), (.ref a1)])
  obtain ⟨T1, X1, e1, st1⟩ := getF X0 hx hZ hown (host := "") (Or.inl (hw _ (List.mem_of_getElem? (i := 72) rfl))) (Via.of (hw _ (List.mem_of_getElem? (i := 73) rfl))) e0 F_mc (g := (mkF m 2 #[.val (.ref a1), .val (.ref a2)] [(.ref a1), (.ref a1)])) rfl rfl (hb hby d9_2)
  refine own_go st1 ?_
  show own_Goes _ _ _ _ _ _ _ T1 (mkF m 5 #[.val (.ref a1), .val (.ref a2)] [(.int (1 : Int32)), (.ref a1)])
  refine own_go (fun _ k => XS.iconst X1.here hx rfl (hb hby d9_5) k) ?_
  show own_Goes _ _ _ _ _ _ _ T1 (mkF m 6 #[.val (.ref a1), .val (.ref a2)] [(.int (1 : Int32)), (.int (1 : Int32)), (.ref a1)])
  refine own_go (fun _ k => XS.iadd X1.here hx rfl (hb hby d9_6) rfl k) ?_
  show own_Goes _ _ _ _ _ _ _ T1 (mkF m 7 #[.val (.ref a1), .val (.ref a2)] [(.int (2 : Int32)), (.ref a1)])
  obtain ⟨T2, h2, X2, e2, W2, st2⟩ := putF X1 hx hZ hown (host := "") (Or.inl (hw _ (List.mem_of_getElem? (i := 72) rfl))) (Via.of (hw _ (List.mem_of_getElem? (i := 73) rfl))) e1 F_mc E_a1 (Or.inl (hw _ (List.mem_of_getElem? (i := 63) rfl))) (hw _ (List.mem_of_getElem? (i := 44) rfl)) (ty := .int) (by decide) rfl rfl (g := (mkF m 7 #[.val (.ref a1), .val (.ref a2)] [(.int (2 : Int32)), (.ref a1)])) rfl rfl (hb hby d9_7)
  have F_mc_2 : Fld Z h2 a1 "java/util/AbstractList" "modCount" "I" (.int (2 : Int32)) := F_mc.same W2
  have N2 := Fr.snoc X2 N0 lo_a1
  have E_a1_2 : Exa Z h2 a1 "java/util/ArrayList" := E_a1.wr W2
  have F_sz_2 : Fld Z h2 a1 "java/util/ArrayList" "size" "I" (.int (1 : Int32)) := F_sz.other W2 (Or.inr (slot_ne (Or.inl (hw _ (List.mem_of_getElem? (i := 75) rfl))) (Or.inl (hw _ (List.mem_of_getElem? (i := 63) rfl))) (by decide) (t := .int) (t' := .int) (by decide) (by decide)))
  have F_el_2 : Fld Z h2 a1 "java/util/ArrayList" "elementData" "[Ljava/lang/Object;" (.ref a3) := F_el.other W2 (Or.inr (slot_ne (Or.inl (hw _ (List.mem_of_getElem? (i := 66) rfl))) (Or.inl (hw _ (List.mem_of_getElem? (i := 63) rfl))) (by decide) (t := (.array (.object "java/lang/Object"))) (t' := .int) (by decide) (by decide)))
  have V_b_2 : Arv Z h2 a3 kc (.object "java/lang/Object") (10 : Int32) [(.ref a2)] .null := V_b.other W2 (Ne.symm ne_a1_a3)
  have E_a2_2 : Exa Z h2 a2 "com/example/treellis/treellis/cfa/StructType$Member" := E_a2.wr W2
  have Zs2 : n0 ≤ h2.size := Nat.le_trans Z0 (Keep.of_wr W2).1
  have Kp2 : Keep h0 h2 [a1, a3] := Kp0.wr W2 (Or.inl (by simp))
  refine own_go st2 ?_
  show own_Goes _ _ _ _ _ _ _ T2 (mkF m 10 #[.val (.ref a1), .val (.ref a2)] [])
  refine own_go (fun _ k => XS.aloadN X2.here hx rfl (hb hby d9_10) rfl rfl k) ?_
  show own_Goes _ _ _ _ _ _ _ T2 (mkF m 11 #[.val (.ref a1), .val (.ref a2)] [(.ref a1)])
  refine own_go (fun _ k => XS.aloadN X2.here hx rfl (hb hby d9_11) rfl rfl k) ?_
  show own_Goes _ _ _ _ _ _ _ T2 (mkF m 12 #[.val (.ref a1), .val (.ref a2)] [(.ref a2), (.ref a1)])
  refine own_go (fun _ k => XS.aloadN X2.here hx rfl (hb hby d9_12) rfl rfl k) ?_
  show own_Goes _ _ _ _ _ _ _ T2 (mkF m 13 #[.val (.ref a1), .val (.ref a2)] [(.ref a1), (.ref a2), (.ref a1)])
  obtain ⟨T3, X3, e3, st3⟩ := getF X2 hx hZ hown (host := "") (Or.inl (hw _ (List.mem_of_getElem? (i := 65) rfl))) Via.refl e2 F_el_2 (g := (mkF m 13 #[.val (.ref a1), .val (.ref a2)] [(.ref a1), (.ref a2), (.ref a1)])) rfl rfl (hb hby d9_13)
  refine own_go st3 ?_
  show own_Goes _ _ _ _ _ _ _ T3 (mkF m 16 #[.val (.ref a1), .val (.ref a2)] [(.ref a3), (.ref a2), (.ref a1)])
  refine own_go (fun _ k => XS.aloadN X3.here hx rfl (hb hby d9_16) rfl rfl k) ?_
  show own_Goes _ _ _ _ _ _ _ T3 (mkF m 17 #[.val (.ref a1), .val (.ref a2)] [(.ref a1), (.ref a3), (.ref a2), (.ref a1)])
  obtain ⟨T4, X4, e4, st4⟩ := getF X3 hx hZ hown (host := "") (Or.inl (hw _ (List.mem_of_getElem? (i := 74) rfl))) Via.refl e3 F_sz_2 (g := (mkF m 17 #[.val (.ref a1), .val (.ref a2)] [(.ref a1), (.ref a3), (.ref a2), (.ref a1)])) rfl rfl (hb hby d9_17)
  refine own_go st4 ?_
  show own_Goes _ _ _ _ _ _ _ T4 (mkF m 20 #[.val (.ref a1), .val (.ref a2)] [(.int (1 : Int32)), (.ref a3), (.ref a2), (.ref a1)])
  obtain ⟨cq5, zq5, zr5⟩ := E_a1_2.cell
  obtain ⟨_, _, ⟨T5, L5, k5, n5⟩, -, X5, ⟨Lc5, hQ5, l5, y5, z5⟩, st5⟩ := X4.privateBack hx (y := (⟨"java/util/ArrayList", "add", "(Ljava/lang/Object;[Ljava/lang/Object;I)V"⟩ : MethodName)) hown (mvT hZ (hw _ (List.mem_of_getElem? (i := 76) rfl))) (mvT hZ (hw _ (List.mem_of_getElem? (i := 77) rfl))) (own_selP (y := (⟨"java/util/ArrayList", "add", "(Ljava/lang/Object;[Ljava/lang/Object;I)V"⟩ : MethodName)) rfl (mvT hZ (hw _ (List.mem_of_getElem? (i := 44) rfl))) (mvT hZ (hw _ (List.mem_of_getElem? (i := 77) rfl))) (Cond.privateMethod_at (mvP hZ (hw _ (List.mem_of_getElem? (i := 78) rfl)) (args := #[]))) (by decide)) (Cond.privateMethod_at (mvP hZ (hw _ (List.mem_of_getElem? (i := 78) rfl)) (args := #[]))) (mvT hZ (hw _ (List.mem_of_getElem? (i := 80) rfl))) (by decide) (backOf (W := 0) (rm_addP1 l Z a0 hw [] a1 a2 a3 kc h2 n0 Zs2 E_a1_2 F_mc_2 F_sz_2 F_el_2 V_b_2 E_a2_2 lo_a1 lo_a3 ne_a1_a2 ne_a1_a3 ne_a2_a3 Ov) hZ (hw _ (List.mem_of_getElem? (i := 80) rfl)) (hw _ (List.mem_of_getElem? (i := 45) rfl)) (by decide) (by decide)) (g := (mkF m 20 #[.val (.ref a1), .val (.ref a2)] [(.int (1 : Int32)), (.ref a3), (.ref a2), (.ref a1)])) rfl (by rw [hml]; rfl) (Steps.refl _) (a := a1) (by rw [e4]; exact zq5) zr5 (argsL := [(.ref a2), (.ref a3), (.int (1 : Int32))]) (rest := []) (lenOf pd_4 rfl) rfl (by show 2 * 0 + _ ≤ _; exact Nat.le_of_eq rfl) (hb hby d9_20) (fun _ _ => ⟨rfl, e4, (by decide : 0 + 0 ≤ _), (by decide : 0 + 0 ≤ _)⟩)
  dsimp only [Pt.U, Pt.locs, Pt.cells, Pt.slots] at X5 l5 y5 z5 st5 hQ5
  subst l5 y5 z5
  obtain ⟨rfl, N5q, K5, Fa5, Fb5, Fc5, Va5⟩ := hQ5
  have N5 := Fr.app N2 N5q
  refine own_goS st5 ?_
  show own_Goes _ _ _ _ _ _ _ T5 (mkF m 23 #[.val (.ref a1), .val (.ref a2)] [])
  have E_a1_5 : Exa Z T5.heap a1 "java/util/ArrayList" := E_a1_2.keep K5
  have E_a2_5 : Exa Z T5.heap a2 "com/example/treellis/treellis/cfa/StructType$Member" := E_a2_2.keep K5
  have Zs5 : n0 ≤ T5.heap.size := Nat.le_trans Zs2 K5.1
  have Kp5 : Keep h0 T5.heap [a1, a3] := Kp2.trans K5 (allS (Or.inl (by simp)) (allS (Or.inl (by simp)) all0))
  refine own_go (fun _ k => XS.iconst X5.here hx rfl (hb hby d9_23) k) ?_
  show own_Goes _ _ _ _ _ _ _ T5 (mkF m 24 #[.val (.ref a1), .val (.ref a2)] [(.int (1 : Int32))])
  exact own_retN X5 hx (t := .boolean) hlk hret (by simp) (hb hby d9_24) (by decide) (by decide) ⟨rfl, N5, Kp5, Fa5, Fb5, Fc5, Va5⟩
def Q_rm_add2 (Z : State) (h0 : Heap) (n0 : Nat) (a1 a2 a3 : Addr) (kc : ClassId) (v : Option Value) (h : Heap) (L : List Loc) : Prop := v = some (.int 1) ∧ Fr n0 L ∧ Keep h0 h [a1, a3] ∧ Fld Z h a1 "java/util/AbstractList" "modCount" "I" (.int (3 : Int32)) ∧ Fld Z h a1 "java/util/ArrayList" "size" "I" (.int (3 : Int32)) ∧ Fld Z h a1 "java/util/ArrayList" "elementData" "[Ljava/lang/Object;" (.ref a3) ∧ Arv Z h a3 kc (.object "java/lang/Object") (10 : Int32) [(.ref a2), (.ref a2), (.ref a2)] .null
set_option maxRecDepth 65536 in
set_option maxHeartbeats 40000000 in
theorem rm_add2 (l : Launch) (Z : State) (a0 : Array Value) (hw : ∀ d ∈ tables_1, d.before a0 Z = true) (ws : List Jvm.Cond) (a1 a2 a3 : Addr) (kc : ClassId) (h0 : Heap) (n0 : Nat) (Z0 : n0 ≤ h0.size) (E_a1 : Exa Z h0 a1 "java/util/ArrayList") (F_mc : Fld Z h0 a1 "java/util/AbstractList" "modCount" "I" (.int (2 : Int32))) (F_sz : Fld Z h0 a1 "java/util/ArrayList" "size" "I" (.int (2 : Int32))) (F_el : Fld Z h0 a1 "java/util/ArrayList" "elementData" "[Ljava/lang/Object;" (.ref a3)) (V_b : Arv Z h0 a3 kc (.object "java/lang/Object") (10 : Int32) [(.ref a2), (.ref a2)] .null) (E_a2 : Exa Z h0 a2 "com/example/treellis/treellis/cfa/StructType$Member") (lo_a1 : n0 ≤ a1) (lo_a3 : n0 ≤ a3) (ne_a1_a2 : a1 ≠ a2) (ne_a1_a3 : a1 ≠ a3) (ne_a2_a3 : a2 ≠ a3) (Ov : Ovr Z kc "java/lang/Object") :
    MetFree l (⟨"java/util/ArrayList", "add", "(Ljava/lang/Object;)Z"⟩ : MethodName) (head1 (Jvm.Cond.code (⟨"java/util/ArrayList", "add", "(Ljava/lang/Object;)Z"⟩ : MethodName) jdk_38_method_25_code 2 (some .boolean) :: ws) ({ frames := 1, cells := 0, slots := 0, locals := 15 } : Room)) (fun a U => a = #[(.ref a1), (.ref a2)] ∧ Z.Warmed39 U.vm ∧ U.heap = h0) (fun _ _ _ _ _ => True) (fun _ U o U' => ∃ rv rL, o = .returned rv ∧ Q_rm_add2 Z h0 n0 a1 a2 a3 kc rv U'.heap rL ∧ FrameEnd U o U' rL ({ frames := 1, cells := 0, slots := 0, locals := 15 } : Room).cells ({ frames := 1, cells := 0, slots := 0, locals := 15 } : Room).slots) := by
  refine own_met (y := (⟨"java/util/ArrayList", "add", "(Ljava/lang/Object;)Z"⟩ : MethodName)) (Q := Q_rm_add2 Z h0 n0 a1 a2 a3 kc) (own := "java/util/ArrayList") rfl (plainFor_of_name pn_9) ?_
  intro p e s m below meth c s₁ C e0 X0
  obtain ⟨hx, hby, hml, hown, hnm, hret, hlk, hZ⟩ := C
  have N0 := Fr.nil n0
  rw [ef_9]
  have Kp0 : Keep h0 h0 [a1, a3] := Keep.refl h0 _
  show own_Goes _ _ _ _ _ _ _ s₁ (mkF m 0 #[.val (.ref a1), .val (.ref a2)] [])
  refine own_go (fun _ k => XS.aloadN X0.here hx rfl (hb hby d9_0) rfl rfl k) ?_
  show own_Goes _ _ _ _ _ _ _ s₁ (mkF m 1 #[.val (.ref a1), .val (.ref a2)] [(.ref a1)])
  refine own_go (fun _ k => XS.dup X0.here hx rfl (hb hby d9_1) rfl rfl k) ?_
  show own_Goes _ _ _ _ _ _ _ s₁ (mkF m 2 #[.val (.ref a1), .val (.ref a2)] [(.ref a1), (.ref a1)])
  obtain ⟨T1, X1, e1, st1⟩ := getF X0 hx hZ hown (host := "") (Or.inl (hw _ (List.mem_of_getElem? (i := 72) rfl))) (Via.of (hw _ (List.mem_of_getElem? (i := 73) rfl))) e0 F_mc (g := (mkF m 2 #[.val (.ref a1), .val (.ref a2)] [(.ref a1), (.ref a1)])) rfl rfl (hb hby d9_2)
  refine own_go st1 ?_
  show own_Goes _ _ _ _ _ _ _ T1 (mkF m 5 #[.val (.ref a1), .val (.ref a2)] [(.int (2 : Int32)), (.ref a1)])
  refine own_go (fun _ k => XS.iconst X1.here hx rfl (hb hby d9_5) k) ?_
  show own_Goes _ _ _ _ _ _ _ T1 (mkF m 6 #[.val (.ref a1), .val (.ref a2)] [(.int (1 : Int32)), (.int (2 : Int32)), (.ref a1)])
  refine own_go (fun _ k => XS.iadd X1.here hx rfl (hb hby d9_6) rfl k) ?_
  show own_Goes _ _ _ _ _ _ _ T1 (mkF m 7 #[.val (.ref a1), .val (.ref a2)] [(.int (3 : Int32)), (.ref a1)])
  obtain ⟨T2, h2, X2, e2, W2, st2⟩ := putF X1 hx hZ hown (host := "") (Or.inl (hw _ (List.mem_of_getElem? (i := 72) rfl))) (Via.of (hw _ (List.mem_of_getElem? (i := 73) rfl))) e1 F_mc E_a1 (Or.inl (hw _ (List.mem_of_getElem? (i := 63) rfl))) (hw _ (List.mem_of_getElem? (i := 44) rfl)) (ty := .int) (by decide) rfl rfl (g := (mkF m 7 #[.val (.ref a1), .val (.ref a2)] [(.int (3 : Int32)), (.ref a1)])) rfl rfl (hb hby d9_7)
  have F_mc_2 : Fld Z h2 a1 "java/util/AbstractList" "modCount" "I" (.int (3 : Int32)) := F_mc.same W2
  have N2 := Fr.snoc X2 N0 lo_a1
  have E_a1_2 : Exa Z h2 a1 "java/util/ArrayList" := E_a1.wr W2
  have F_sz_2 : Fld Z h2 a1 "java/util/ArrayList" "size" "I" (.int (2 : Int32)) := F_sz.other W2 (Or.inr (slot_ne (Or.inl (hw _ (List.mem_of_getElem? (i := 75) rfl))) (Or.inl (hw _ (List.mem_of_getElem? (i := 63) rfl))) (by decide) (t := .int) (t' := .int) (by decide) (by decide)))
  have F_el_2 : Fld Z h2 a1 "java/util/ArrayList" "elementData" "[Ljava/lang/Object;" (.ref a3) := F_el.other W2 (Or.inr (slot_ne (Or.inl (hw _ (List.mem_of_getElem? (i := 66) rfl))) (Or.inl (hw _ (List.mem_of_getElem? (i := 63) rfl))) (by decide) (t := (.array (.object "java/lang/Object"))) (t' := .int) (by decide) (by decide)))
  have V_b_2 : Arv Z h2 a3 kc (.object "java/lang/Object") (10 : Int32) [(.ref a2), (.ref a2)] .null := V_b.other W2 (Ne.symm ne_a1_a3)
  have E_a2_2 : Exa Z h2 a2 "com/example/treellis/treellis/cfa/StructType$Member" := E_a2.wr W2
  have Zs2 : n0 ≤ h2.size := Nat.le_trans Z0 (Keep.of_wr W2).1
  have Kp2 : Keep h0 h2 [a1, a3] := Kp0.wr W2 (Or.inl (by simp))
  refine own_go st2 ?_
  show own_Goes _ _ _ _ _ _ _ T2 (mkF m 10 #[.val (.ref a1), .val (.ref a2)] [])
  refine own_go (fun _ k => XS.aloadN X2.here hx rfl (hb hby d9_10) rfl rfl k) ?_
  show own_Goes _ _ _ _ _ _ _ T2 (mkF m 11 #[.val (.ref a1), .val (.ref a2)] [(.ref a1)])
  refine own_go (fun _ k => XS.aloadN X2.here hx rfl (hb hby d9_11) rfl rfl k) ?_
  show own_Goes _ _ _ _ _ _ _ T2 (mkF m 12 #[.val (.ref a1), .val (.ref a2)] [(.ref a2), (.ref a1)])
  refine own_go (fun _ k => XS.aloadN X2.here hx rfl (hb hby d9_12) rfl rfl k) ?_
  show own_Goes _ _ _ _ _ _ _ T2 (mkF m 13 #[.val (.ref a1), .val (.ref a2)] [(.ref a1), (.ref a2), (.ref a1)])
  obtain ⟨T3, X3, e3, st3⟩ := getF X2 hx hZ hown (host := "") (Or.inl (hw _ (List.mem_of_getElem? (i := 65) rfl))) Via.refl e2 F_el_2 (g := (mkF m 13 #[.val (.ref a1), .val (.ref a2)] [(.ref a1), (.ref a2), (.ref a1)])) rfl rfl (hb hby d9_13)
  refine own_go st3 ?_
  show own_Goes _ _ _ _ _ _ _ T3 (mkF m 16 #[.val (.ref a1), .val (.ref a2)] [(.ref a3), (.ref a2), (.ref a1)])
  refine own_go (fun _ k => XS.aloadN X3.here hx rfl (hb hby d9_16) rfl rfl k) ?_
  show own_Goes _ _ _ _ _ _ _ T3 (mkF m 17 #[.val (.ref a1), .val (.ref a2)] [(.ref a1), (.ref a3), (.ref a2), (.ref a1)])
  obtain ⟨T4, X4, e4, st4⟩ := getF X3 hx hZ hown (host := "") (Or.inl (hw _ (List.mem_of_getElem? (i := 74) rfl))) Via.refl e3 F_sz_2 (g := (mkF m 17 #[.val (.ref a1), .val (.ref a2)] [(.ref a1), (.ref a3), (.ref a2), (.ref a1)])) rfl rfl (hb hby d9_17)
  refine own_go st4 ?_
  show own_Goes _ _ _ _ _ _ _ T4 (mkF m 20 #[.val (.ref a1), .val (.ref a2)] [(.int (2 : Int32)), (.ref a3), (.ref a2), (.ref a1)])
  obtain ⟨cq5, zq5, zr5⟩ := E_a1_2.cell
  obtain ⟨_, _, ⟨T5, L5, k5, n5⟩, -, X5, ⟨Lc5, hQ5, l5, y5, z5⟩, st5⟩ := X4.privateBack hx (y := (⟨"java/util/ArrayList", "add", "(Ljava/lang/Object;[Ljava/lang/Object;I)V"⟩ : MethodName)) hown (mvT hZ (hw _ (List.mem_of_getElem? (i := 76) rfl))) (mvT hZ (hw _ (List.mem_of_getElem? (i := 77) rfl))) (own_selP (y := (⟨"java/util/ArrayList", "add", "(Ljava/lang/Object;[Ljava/lang/Object;I)V"⟩ : MethodName)) rfl (mvT hZ (hw _ (List.mem_of_getElem? (i := 44) rfl))) (mvT hZ (hw _ (List.mem_of_getElem? (i := 77) rfl))) (Cond.privateMethod_at (mvP hZ (hw _ (List.mem_of_getElem? (i := 78) rfl)) (args := #[]))) (by decide)) (Cond.privateMethod_at (mvP hZ (hw _ (List.mem_of_getElem? (i := 78) rfl)) (args := #[]))) (mvT hZ (hw _ (List.mem_of_getElem? (i := 80) rfl))) (by decide) (backOf (W := 0) (rm_addP2 l Z a0 hw [] a1 a2 a3 kc h2 n0 Zs2 E_a1_2 F_mc_2 F_sz_2 F_el_2 V_b_2 E_a2_2 lo_a1 lo_a3 ne_a1_a2 ne_a1_a3 ne_a2_a3 Ov) hZ (hw _ (List.mem_of_getElem? (i := 80) rfl)) (hw _ (List.mem_of_getElem? (i := 45) rfl)) (by decide) (by decide)) (g := (mkF m 20 #[.val (.ref a1), .val (.ref a2)] [(.int (2 : Int32)), (.ref a3), (.ref a2), (.ref a1)])) rfl (by rw [hml]; rfl) (Steps.refl _) (a := a1) (by rw [e4]; exact zq5) zr5 (argsL := [(.ref a2), (.ref a3), (.int (2 : Int32))]) (rest := []) (lenOf pd_4 rfl) rfl (by show 2 * 0 + _ ≤ _; exact Nat.le_of_eq rfl) (hb hby d9_20) (fun _ _ => ⟨rfl, e4, (by decide : 0 + 0 ≤ _), (by decide : 0 + 0 ≤ _)⟩)
  dsimp only [Pt.U, Pt.locs, Pt.cells, Pt.slots] at X5 l5 y5 z5 st5 hQ5
  subst l5 y5 z5
  obtain ⟨rfl, N5q, K5, Fa5, Fb5, Fc5, Va5⟩ := hQ5
  have N5 := Fr.app N2 N5q
  refine own_goS st5 ?_
  show own_Goes _ _ _ _ _ _ _ T5 (mkF m 23 #[.val (.ref a1), .val (.ref a2)] [])
  have E_a1_5 : Exa Z T5.heap a1 "java/util/ArrayList" := E_a1_2.keep K5
  have E_a2_5 : Exa Z T5.heap a2 "com/example/treellis/treellis/cfa/StructType$Member" := E_a2_2.keep K5
  have Zs5 : n0 ≤ T5.heap.size := Nat.le_trans Zs2 K5.1
  have Kp5 : Keep h0 T5.heap [a1, a3] := Kp2.trans K5 (allS (Or.inl (by simp)) (allS (Or.inl (by simp)) all0))
  refine own_go (fun _ k => XS.iconst X5.here hx rfl (hb hby d9_23) k) ?_
  show own_Goes _ _ _ _ _ _ _ T5 (mkF m 24 #[.val (.ref a1), .val (.ref a2)] [(.int (1 : Int32))])
  exact own_retN X5 hx (t := .boolean) hlk hret (by simp) (hb hby d9_24) (by decide) (by decide) ⟨rfl, N5, Kp5, Fa5, Fb5, Fc5, Va5⟩
def Q_rm_ie0 (Z : State) (h0 : Heap) (n0 : Nat)  (v : Option Value) (h : Heap) (L : List Loc) : Prop := v = some (.int 1) ∧ Fr n0 L ∧ h = h0
set_option maxRecDepth 65536 in
set_option maxHeartbeats 40000000 in
theorem rm_ie0 (l : Launch) (Z : State) (a0 : Array Value) (hw : ∀ d ∈ tables_1, d.before a0 Z = true) (ws : List Jvm.Cond) (a1 : Addr) (h0 : Heap) (n0 : Nat) (Z0 : n0 ≤ h0.size) (F_sz : Fld Z h0 a1 "java/util/ArrayList" "size" "I" (.int (0 : Int32))) :
    MetFree l (⟨"java/util/ArrayList", "isEmpty", "()Z"⟩ : MethodName) (head1 (Jvm.Cond.code (⟨"java/util/ArrayList", "isEmpty", "()Z"⟩ : MethodName) jdk_38_method_9_code 1 (some .boolean) :: ws) ({ frames := 0, cells := 0, slots := 0, locals := 0 } : Room)) (fun a U => a = #[(.ref a1)] ∧ Z.Warmed39 U.vm ∧ U.heap = h0) (fun _ _ _ _ _ => True) (fun _ U o U' => ∃ rv rL, o = .returned rv ∧ Q_rm_ie0 Z h0 n0  rv U'.heap rL ∧ FrameEnd U o U' rL ({ frames := 0, cells := 0, slots := 0, locals := 0 } : Room).cells ({ frames := 0, cells := 0, slots := 0, locals := 0 } : Room).slots) := by
  refine own_met (y := (⟨"java/util/ArrayList", "isEmpty", "()Z"⟩ : MethodName)) (Q := Q_rm_ie0 Z h0 n0 ) (own := "java/util/ArrayList") rfl (plainFor_of_name pn_17) ?_
  intro p e s m below meth c s₁ C e0 X0
  obtain ⟨hx, hby, hml, hown, hnm, hret, hlk, hZ⟩ := C
  have N0 := Fr.nil n0
  rw [ef_17]
  show own_Goes _ _ _ _ _ _ _ s₁ (mkF m 0 #[.val (.ref a1)] [])
  refine own_go (fun _ k => XS.aloadN X0.here hx rfl (hb hby d17_0) rfl rfl k) ?_
  show own_Goes _ _ _ _ _ _ _ s₁ (mkF m 1 #[.val (.ref a1)] [(.ref a1)])
  obtain ⟨T1, X1, e1, st1⟩ := getF X0 hx hZ hown (host := "") (Or.inl (hw _ (List.mem_of_getElem? (i := 74) rfl))) Via.refl e0 F_sz (g := (mkF m 1 #[.val (.ref a1)] [(.ref a1)])) rfl rfl (hb hby d17_1)
  refine own_go st1 ?_
  show own_Goes _ _ _ _ _ _ _ T1 (mkF m 4 #[.val (.ref a1)] [(.int (0 : Int32))])
  refine own_go (fun _ k => XS.ifNo X1.here hx rfl (hb hby d17_4) rfl ((if0 _ _).trans (teq (by decide : (0 : Int32) = (0 : Int32))).2) k) ?_
  show own_Goes _ _ _ _ _ _ _ T1 (mkF m 7 #[.val (.ref a1)] [])
  refine own_go (fun _ k => XS.iconst X1.here hx rfl (hb hby d17_7) k) ?_
  show own_Goes _ _ _ _ _ _ _ T1 (mkF m 8 #[.val (.ref a1)] [(.int (1 : Int32))])
  refine own_go (fun _ k => XS.goto X1.here hx rfl (pc0 := 8) (pc' := 12) rfl (hb hby d17_8) (by decide) (by decide) k) ?_
  show own_Goes _ _ _ _ _ _ _ T1 (mkF m 12 #[.val (.ref a1)] [(.int (1 : Int32))])
  exact own_retN X1 hx (t := .boolean) hlk hret (by simp) (hb hby d17_12) (by decide) (by decide) (by rw [e1]; exact ⟨rfl, N0, rfl⟩)
def Q_rm_ie1 (Z : State) (h0 : Heap) (n0 : Nat)  (v : Option Value) (h : Heap) (L : List Loc) : Prop := v = some (.int 0) ∧ Fr n0 L ∧ h = h0
set_option maxRecDepth 65536 in
set_option maxHeartbeats 40000000 in
theorem rm_ie1 (l : Launch) (Z : State) (a0 : Array Value) (hw : ∀ d ∈ tables_1, d.before a0 Z = true) (ws : List Jvm.Cond) (a1 : Addr) (h0 : Heap) (n0 : Nat) (Z0 : n0 ≤ h0.size) (F_sz : Fld Z h0 a1 "java/util/ArrayList" "size" "I" (.int (1 : Int32))) :
    MetFree l (⟨"java/util/ArrayList", "isEmpty", "()Z"⟩ : MethodName) (head1 (Jvm.Cond.code (⟨"java/util/ArrayList", "isEmpty", "()Z"⟩ : MethodName) jdk_38_method_9_code 1 (some .boolean) :: ws) ({ frames := 0, cells := 0, slots := 0, locals := 0 } : Room)) (fun a U => a = #[(.ref a1)] ∧ Z.Warmed39 U.vm ∧ U.heap = h0) (fun _ _ _ _ _ => True) (fun _ U o U' => ∃ rv rL, o = .returned rv ∧ Q_rm_ie1 Z h0 n0  rv U'.heap rL ∧ FrameEnd U o U' rL ({ frames := 0, cells := 0, slots := 0, locals := 0 } : Room).cells ({ frames := 0, cells := 0, slots := 0, locals := 0 } : Room).slots) := by
  refine own_met (y := (⟨"java/util/ArrayList", "isEmpty", "()Z"⟩ : MethodName)) (Q := Q_rm_ie1 Z h0 n0 ) (own := "java/util/ArrayList") rfl (plainFor_of_name pn_17) ?_
  intro p e s m below meth c s₁ C e0 X0
  obtain ⟨hx, hby, hml, hown, hnm, hret, hlk, hZ⟩ := C
  have N0 := Fr.nil n0
  rw [ef_17]
  show own_Goes _ _ _ _ _ _ _ s₁ (mkF m 0 #[.val (.ref a1)] [])
  refine own_go (fun _ k => XS.aloadN X0.here hx rfl (hb hby d17_0) rfl rfl k) ?_
  show own_Goes _ _ _ _ _ _ _ s₁ (mkF m 1 #[.val (.ref a1)] [(.ref a1)])
  obtain ⟨T1, X1, e1, st1⟩ := getF X0 hx hZ hown (host := "") (Or.inl (hw _ (List.mem_of_getElem? (i := 74) rfl))) Via.refl e0 F_sz (g := (mkF m 1 #[.val (.ref a1)] [(.ref a1)])) rfl rfl (hb hby d17_1)
  refine own_go st1 ?_
  show own_Goes _ _ _ _ _ _ _ T1 (mkF m 4 #[.val (.ref a1)] [(.int (1 : Int32))])
  refine own_go (fun _ k => XS.ifYes X1.here hx rfl (pc0 := 4) (pc' := 11) rfl (hb hby d17_4) rfl ((if0 _ _).trans (feq (by decide : ¬ ((1 : Int32) = (0 : Int32)))).2) (by decide) (by decide) k) ?_
  show own_Goes _ _ _ _ _ _ _ T1 (mkF m 11 #[.val (.ref a1)] [])
  refine own_go (fun _ k => XS.iconst X1.here hx rfl (hb hby d17_11) k) ?_
  show own_Goes _ _ _ _ _ _ _ T1 (mkF m 12 #[.val (.ref a1)] [(.int (0 : Int32))])
  exact own_retN X1 hx (t := .boolean) hlk hret (by simp) (hb hby d17_12) (by decide) (by decide) (by rw [e1]; exact ⟨rfl, N0, rfl⟩)
def Q_rm_ie2 (Z : State) (h0 : Heap) (n0 : Nat)  (v : Option Value) (h : Heap) (L : List Loc) : Prop := v = some (.int 0) ∧ Fr n0 L ∧ h = h0
set_option maxRecDepth 65536 in
set_option maxHeartbeats 40000000 in
theorem rm_ie2 (l : Launch) (Z : State) (a0 : Array Value) (hw : ∀ d ∈ tables_1, d.before a0 Z = true) (ws : List Jvm.Cond) (a1 : Addr) (h0 : Heap) (n0 : Nat) (Z0 : n0 ≤ h0.size) (F_sz : Fld Z h0 a1 "java/util/ArrayList" "size" "I" (.int (2 : Int32))) :
    MetFree l (⟨"java/util/ArrayList", "isEmpty", "()Z"⟩ : MethodName) (head1 (Jvm.Cond.code (⟨"java/util/ArrayList", "isEmpty", "()Z"⟩ : MethodName) jdk_38_method_9_code 1 (some .boolean) :: ws) ({ frames := 0, cells := 0, slots := 0, locals := 0 } : Room)) (fun a U => a = #[(.ref a1)] ∧ Z.Warmed39 U.vm ∧ U.heap = h0) (fun _ _ _ _ _ => True) (fun _ U o U' => ∃ rv rL, o = .returned rv ∧ Q_rm_ie2 Z h0 n0  rv U'.heap rL ∧ FrameEnd U o U' rL ({ frames := 0, cells := 0, slots := 0, locals := 0 } : Room).cells ({ frames := 0, cells := 0, slots := 0, locals := 0 } : Room).slots) := by
  refine own_met (y := (⟨"java/util/ArrayList", "isEmpty", "()Z"⟩ : MethodName)) (Q := Q_rm_ie2 Z h0 n0 ) (own := "java/util/ArrayList") rfl (plainFor_of_name pn_17) ?_
  intro p e s m below meth c s₁ C e0 X0
  obtain ⟨hx, hby, hml, hown, hnm, hret, hlk, hZ⟩ := C
  have N0 := Fr.nil n0
  rw [ef_17]
  show own_Goes _ _ _ _ _ _ _ s₁ (mkF m 0 #[.val (.ref a1)] [])
  refine own_go (fun _ k => XS.aloadN X0.here hx rfl (hb hby d17_0) rfl rfl k) ?_
  show own_Goes _ _ _ _ _ _ _ s₁ (mkF m 1 #[.val (.ref a1)] [(.ref a1)])
  obtain ⟨T1, X1, e1, st1⟩ := getF X0 hx hZ hown (host := "") (Or.inl (hw _ (List.mem_of_getElem? (i := 74) rfl))) Via.refl e0 F_sz (g := (mkF m 1 #[.val (.ref a1)] [(.ref a1)])) rfl rfl (hb hby d17_1)
  refine own_go st1 ?_
  show own_Goes _ _ _ _ _ _ _ T1 (mkF m 4 #[.val (.ref a1)] [(.int (2 : Int32))])
  refine own_go (fun _ k => XS.ifYes X1.here hx rfl (pc0 := 4) (pc' := 11) rfl (hb hby d17_4) rfl ((if0 _ _).trans (feq (by decide : ¬ ((2 : Int32) = (0 : Int32)))).2) (by decide) (by decide) k) ?_
  show own_Goes _ _ _ _ _ _ _ T1 (mkF m 11 #[.val (.ref a1)] [])
  refine own_go (fun _ k => XS.iconst X1.here hx rfl (hb hby d17_11) k) ?_
  show own_Goes _ _ _ _ _ _ _ T1 (mkF m 12 #[.val (.ref a1)] [(.int (0 : Int32))])
  exact own_retN X1 hx (t := .boolean) hlk hret (by simp) (hb hby d17_12) (by decide) (by decide) (by rw [e1]; exact ⟨rfl, N0, rfl⟩)
def Q_rm_ie3 (Z : State) (h0 : Heap) (n0 : Nat)  (v : Option Value) (h : Heap) (L : List Loc) : Prop := v = some (.int 0) ∧ Fr n0 L ∧ h = h0
set_option maxRecDepth 65536 in
set_option maxHeartbeats 40000000 in
theorem rm_ie3 (l : Launch) (Z : State) (a0 : Array Value) (hw : ∀ d ∈ tables_1, d.before a0 Z = true) (ws : List Jvm.Cond) (a1 : Addr) (h0 : Heap) (n0 : Nat) (Z0 : n0 ≤ h0.size) (F_sz : Fld Z h0 a1 "java/util/ArrayList" "size" "I" (.int (3 : Int32))) :
    MetFree l (⟨"java/util/ArrayList", "isEmpty", "()Z"⟩ : MethodName) (head1 (Jvm.Cond.code (⟨"java/util/ArrayList", "isEmpty", "()Z"⟩ : MethodName) jdk_38_method_9_code 1 (some .boolean) :: ws) ({ frames := 0, cells := 0, slots := 0, locals := 0 } : Room)) (fun a U => a = #[(.ref a1)] ∧ Z.Warmed39 U.vm ∧ U.heap = h0) (fun _ _ _ _ _ => True) (fun _ U o U' => ∃ rv rL, o = .returned rv ∧ Q_rm_ie3 Z h0 n0  rv U'.heap rL ∧ FrameEnd U o U' rL ({ frames := 0, cells := 0, slots := 0, locals := 0 } : Room).cells ({ frames := 0, cells := 0, slots := 0, locals := 0 } : Room).slots) := by
  refine own_met (y := (⟨"java/util/ArrayList", "isEmpty", "()Z"⟩ : MethodName)) (Q := Q_rm_ie3 Z h0 n0 ) (own := "java/util/ArrayList") rfl (plainFor_of_name pn_17) ?_
  intro p e s m below meth c s₁ C e0 X0
  obtain ⟨hx, hby, hml, hown, hnm, hret, hlk, hZ⟩ := C
  have N0 := Fr.nil n0
  rw [ef_17]
  show own_Goes _ _ _ _ _ _ _ s₁ (mkF m 0 #[.val (.ref a1)] [])
  refine own_go (fun _ k => XS.aloadN X0.here hx rfl (hb hby d17_0) rfl rfl k) ?_
  show own_Goes _ _ _ _ _ _ _ s₁ (mkF m 1 #[.val (.ref a1)] [(.ref a1)])
  obtain ⟨T1, X1, e1, st1⟩ := getF X0 hx hZ hown (host := "") (Or.inl (hw _ (List.mem_of_getElem? (i := 74) rfl))) Via.refl e0 F_sz (g := (mkF m 1 #[.val (.ref a1)] [(.ref a1)])) rfl rfl (hb hby d17_1)
  refine own_go st1 ?_
  show own_Goes _ _ _ _ _ _ _ T1 (mkF m 4 #[.val (.ref a1)] [(.int (3 : Int32))])
  refine own_go (fun _ k => XS.ifYes X1.here hx rfl (pc0 := 4) (pc' := 11) rfl (hb hby d17_4) rfl ((if0 _ _).trans (feq (by decide : ¬ ((3 : Int32) = (0 : Int32)))).2) (by decide) (by decide) k) ?_
  show own_Goes _ _ _ _ _ _ _ T1 (mkF m 11 #[.val (.ref a1)] [])
  refine own_go (fun _ k => XS.iconst X1.here hx rfl (hb hby d17_11) k) ?_
  show own_Goes _ _ _ _ _ _ _ T1 (mkF m 12 #[.val (.ref a1)] [(.int (0 : Int32))])
  exact own_retN X1 hx (t := .boolean) hlk hret (by simp) (hb hby d17_12) (by decide) (by decide) (by rw [e1]; exact ⟨rfl, N0, rfl⟩)
def Q_rm_cp3_1 (Z : State) (h0 : Heap) (n0 : Nat) (a2 : Addr) (v : Option Value) (h : Heap) (L : List Loc) : Prop := ∃ b kd, v = some (.ref b) ∧ Fr n0 L ∧ h0.size ≤ b ∧ Keep h0 h [] ∧ Arv Z h b kd (.object "java/lang/Object") (1 : Int32) [(.ref a2)] .null
set_option maxRecDepth 65536 in
set_option maxHeartbeats 40000000 in
theorem rm_cp3_1 (l : Launch) (Z : State) (a0 : Array Value) (hw : ∀ d ∈ tables_1, d.before a0 Z = true) (ws : List Jvm.Cond) (a1 a2 aM : Addr) (kc : ClassId) (h0 : Heap) (n0 : Nat) (Z0 : n0 ≤ h0.size) (V_b : Arv Z h0 a1 kc (.object "java/lang/Object") (10 : Int32) [(.ref a2)] .null) (E_a2 : Exa Z h0 a2 "com/example/treellis/treellis/cfa/StructType$Member") (E_b : Exa Z h0 a1 "[Ljava/lang/Object;") (ne_a1_a2 : a1 ≠ a2) (MM : Mir Z "[Ljava/lang/Object;" aM) :
    MetFree l (⟨"java/util/Arrays", "copyOf", "([Ljava/lang/Object;ILjava/lang/Class;)[Ljava/lang/Object;"⟩ : MethodName) (head1 (Jvm.Cond.code (⟨"java/util/Arrays", "copyOf", "([Ljava/lang/Object;ILjava/lang/Class;)[Ljava/lang/Object;"⟩ : MethodName) jdk_65_method_120_code 4 (some (.array (.object "java/lang/Object"))) :: ws) ({ frames := 1, cells := 1, slots := 1, locals := 40 } : Room)) (fun a U => a = #[(.ref a1), (.int (1 : Int32)), (.ref aM)] ∧ Z.Warmed39 U.vm ∧ U.heap = h0) (fun _ _ _ _ _ => True) (fun _ U o U' => ∃ rv rL, o = .returned rv ∧ Q_rm_cp3_1 Z h0 n0 a2 rv U'.heap rL ∧ FrameEnd U o U' rL ({ frames := 1, cells := 1, slots := 1, locals := 40 } : Room).cells ({ frames := 1, cells := 1, slots := 1, locals := 40 } : Room).slots) := by
  refine own_met (y := (⟨"java/util/Arrays", "copyOf", "([Ljava/lang/Object;ILjava/lang/Class;)[Ljava/lang/Object;"⟩ : MethodName)) (Q := Q_rm_cp3_1 Z h0 n0 a2) (own := "java/util/Arrays") rfl (plainFor_of_name pn_20) ?_
  intro p e s m below meth c s₁ C e0 X0
  obtain ⟨hx, hby, hml, hown, hnm, hret, hlk, hZ⟩ := C
  have N0 := Fr.nil n0
  rw [ef_20]
  have Kp0 : Keep h0 h0 [] := Keep.refl h0 _
  show own_Goes _ _ _ _ _ _ _ s₁ (mkF m 0 #[.val (.ref a1), .val (.int (1 : Int32)), .val (.ref aM), .unset] [])
  refine own_go (fun _ k => XS.aloadN X0.here hx rfl (hb hby d20_0) rfl rfl k) ?_
  show own_Goes _ _ _ _ _ _ _ s₁ (mkF m 1 #[.val (.ref a1), .val (.int (1 : Int32)), .val (.ref aM), .unset] [(.ref aM)])
  obtain ⟨vm1, X1, st1⟩ := X0.ldcMirror hx hown (mvT hZ (hw _ (List.mem_of_getElem? (i := 147) rfl))) (own_mir hZ MM) (g := (mkF m 1 #[.val (.ref a1), .val (.int (1 : Int32)), .val (.ref aM), .unset] [(.ref aM)])) rfl (hb hby d20_1)
  have e1 : (s₁.setVm vm1).heap = h0 := e0
  generalize s₁.setVm vm1 = T1 at X1 st1 e1
  refine own_go st1 ?_
  show own_Goes _ _ _ _ _ _ _ T1 (mkF m 3 #[.val (.ref a1), .val (.int (1 : Int32)), .val (.ref aM), .unset] [(.ref aM), (.ref aM)])
  refine own_go (fun _ k => Jvm.RoadKit.acmp (g := (mkF m 3 #[.val (.ref a1), .val (.int (1 : Int32)), .val (.ref aM), .unset] [(.ref aM), (.ref aM)])) X1 hx rfl rfl rfl (pc0 := 3) (pc' := 6) (same := true) rfl (hb hby d20_3) rfl (decide_eq_true rfl) (by decide) (by decide) k) ?_
  show own_Goes _ _ _ _ _ _ _ T1 (mkF m 6 #[.val (.ref a1), .val (.int (1 : Int32)), .val (.ref aM), .unset] [])
  refine own_go (fun _ k => XS.iloadN X1.here hx rfl (hb hby d20_6) rfl k) ?_
  show own_Goes _ _ _ _ _ _ _ T1 (mkF m 7 #[.val (.ref a1), .val (.int (1 : Int32)), .val (.ref aM), .unset] [(.int (1 : Int32))])
  obtain ⟨T2, h2, k2, X2, e2, E2, A2, B2, O2, st2⟩ := newRE X1 hx hZ hown (hw _ (List.mem_of_getElem? (i := 148) rfl)) (hw _ (List.mem_of_getElem? (i := 96) rfl)) e1 (g := (mkF m 7 #[.val (.ref a1), .val (.int (1 : Int32)), .val (.ref aM), .unset] [(.int (1 : Int32))])) rfl (hb hby d20_7) rfl (by decide) (cap := 1) (by decide) (by decide) (by decide) (by decide) (ad := "[Ljava/lang/Object;") (by decide)
  obtain ⟨b2, g2⟩ : ∃ z, z = h0.size := ⟨_, rfl⟩
  rw [← g2] at A2 B2 st2
  have lo_b2 : n0 ≤ b2 := Nat.le_trans Z0 (Nat.le_of_eq g2.symm)
  have bo_b2 : h0.size ≤ b2 := Nat.le_trans Kp0.1 (Nat.le_of_eq g2.symm)
  have ne_a1_b2 : a1 ≠ b2 := Nat.ne_of_lt (Nat.lt_of_lt_of_le V_b.lt (Nat.le_of_eq g2.symm))
  have ne_a2_b2 : a2 ≠ b2 := Nat.ne_of_lt (Nat.lt_of_lt_of_le E_a2.lt (Nat.le_of_eq g2.symm))
  have V_b_2 : Arv Z h2 a1 kc (.object "java/lang/Object") (10 : Int32) [(.ref a2)] .null := V_b.ext E2
  have E_a2_2 : Exa Z h2 a2 "com/example/treellis/treellis/cfa/StructType$Member" := E_a2.ext E2
  have E_b_2 : Exa Z h2 a1 "[Ljava/lang/Object;" := E_b.ext E2
  have Zs2 : n0 ≤ h2.size := Nat.le_trans Z0 E2.1
  have Kp2 : Keep h0 h2 [] := Kp0.ext E2
  have V2 : Arv Z h2 b2 k2 (.object "java/lang/Object") (1 : Int32) [] .null := Arv.new A2 (by decide)
  refine own_go st2 ?_
  show own_Goes _ _ _ _ _ _ _ T2 (mkF m 10 #[.val (.ref a1), .val (.int (1 : Int32)), .val (.ref aM), .unset] [(.ref b2)])
  refine own_go (fun _ k => XS.goto X2.here hx rfl (pc0 := 10) (pc' := 24) rfl (hb hby d20_10) (by decide) (by decide) k) ?_
  show own_Goes _ _ _ _ _ _ _ T2 (mkF m 24 #[.val (.ref a1), .val (.int (1 : Int32)), .val (.ref aM), .unset] [(.ref b2)])
  refine own_go (fun _ k => XS.astoreN X2.here hx rfl (hb hby d20_24) rfl rfl (l' := #[.val (.ref a1), .val (.int (1 : Int32)), .val (.ref aM), .val (.ref b2)]) rfl k) ?_
  show own_Goes _ _ _ _ _ _ _ T2 (mkF m 25 #[.val (.ref a1), .val (.int (1 : Int32)), .val (.ref aM), .val (.ref b2)] [])
  refine own_go (fun _ k => XS.aloadN X2.here hx rfl (hb hby d20_25) rfl rfl k) ?_
  show own_Goes _ _ _ _ _ _ _ T2 (mkF m 26 #[.val (.ref a1), .val (.int (1 : Int32)), .val (.ref aM), .val (.ref b2)] [(.ref a1)])
  refine own_go (fun _ k => XS.iconst X2.here hx rfl (hb hby d20_26) k) ?_
  show own_Goes _ _ _ _ _ _ _ T2 (mkF m 27 #[.val (.ref a1), .val (.int (1 : Int32)), .val (.ref aM), .val (.ref b2)] [(.int (0 : Int32)), (.ref a1)])
  refine own_go (fun _ k => XS.aloadN X2.here hx rfl (hb hby d20_27) rfl rfl k) ?_
  show own_Goes _ _ _ _ _ _ _ T2 (mkF m 28 #[.val (.ref a1), .val (.int (1 : Int32)), .val (.ref aM), .val (.ref b2)] [(.ref b2), (.int (0 : Int32)), (.ref a1)])
  refine own_go (fun _ k => XS.iconst X2.here hx rfl (hb hby d20_28) k) ?_
  show own_Goes _ _ _ _ _ _ _ T2 (mkF m 29 #[.val (.ref a1), .val (.int (1 : Int32)), .val (.ref aM), .val (.ref b2)] [(.int (0 : Int32)), (.ref b2), (.int (0 : Int32)), (.ref a1)])
  refine own_go (fun _ k => XS.aloadN X2.here hx rfl (hb hby d20_29) rfl rfl k) ?_
  show own_Goes _ _ _ _ _ _ _ T2 (mkF m 30 #[.val (.ref a1), .val (.int (1 : Int32)), .val (.ref aM), .val (.ref b2)] [(.ref a1), (.int (0 : Int32)), (.ref b2), (.int (0 : Int32)), (.ref a1)])
  obtain ⟨c3, A3, q3, S3, M3, H3, G3⟩ := id V_b_2
  refine own_go (fun t k => X2.arraylength hx (by rw [e2]; exact A3.1) (State.isArrayOf_alike hZ.alike A3.2.1) (g := (mkF m 30 #[.val (.ref a1), .val (.int (1 : Int32)), .val (.ref aM), .val (.ref b2)] [(.ref a1), (.int (0 : Int32)), (.ref b2), (.int (0 : Int32)), (.ref a1)])) rfl rfl (hb hby d20_30) t k) ?_
  rw [len_of S3 M3]
  show own_Goes _ _ _ _ _ _ _ T2 (mkF m 31 #[.val (.ref a1), .val (.int (1 : Int32)), .val (.ref aM), .val (.ref b2)] [(.int (10 : Int32)), (.int (0 : Int32)), (.ref b2), (.int (0 : Int32)), (.ref a1)])
  refine own_go (fun _ k => XS.iloadN X2.here hx rfl (hb hby d20_31) rfl k) ?_
  show own_Goes _ _ _ _ _ _ _ T2 (mkF m 32 #[.val (.ref a1), .val (.int (1 : Int32)), .val (.ref aM), .val (.ref b2)] [(.int (1 : Int32)), (.int (10 : Int32)), (.int (0 : Int32)), (.ref b2), (.int (0 : Int32)), (.ref a1)])
  obtain ⟨_, _, ⟨T4, L4, k4, n4⟩, -, X4, ⟨Lc4, hQ4, l4, y4, z4⟩, st4⟩ := Jvm.LawKit.callS X2 hx (y := (⟨"java/lang/Math", "min", "(II)I"⟩ : MethodName)) hown (mvT hZ (hw _ (List.mem_of_getElem? (i := 149) rfl))) (mvT hZ (hw _ (List.mem_of_getElem? (i := 150) rfl))) (mvT hZ (hw _ (List.mem_of_getElem? (i := 93) rfl))) (mvT hZ (hw _ (List.mem_of_getElem? (i := 151) rfl))) (by decide) (backOf (W := 4) (rm_min1 l Z a0 hw [] h2 n0 Zs2) hZ (hw _ (List.mem_of_getElem? (i := 151) rfl)) (hw _ (List.mem_of_getElem? (i := 93) rfl)) (by decide) (by decide)) (g := (mkF m 32 #[.val (.ref a1), .val (.int (1 : Int32)), .val (.ref aM), .val (.ref b2)] [(.int (1 : Int32)), (.int (10 : Int32)), (.int (0 : Int32)), (.ref b2), (.int (0 : Int32)), (.ref a1)])) rfl (by rw [hml]; rfl) (argsL := [(.int (10 : Int32)), (.int (1 : Int32))]) (rest := [(.int (0 : Int32)), (.ref b2), (.int (0 : Int32)), (.ref a1)]) (lenOf pd_1 rfl) rfl (by show 2 * 0 + _ ≤ _; exact Nat.le_of_eq rfl) (hb hby d20_32) (fun _ _ => ⟨rfl, e2, (by decide : 0 + 1 + 0 ≤ _), (by decide : 0 + 1 + 0 ≤ _)⟩)
  dsimp only [Pt.U, Pt.locs, Pt.cells, Pt.slots] at X4 l4 y4 z4 st4 hQ4
  subst l4 y4 z4
  obtain ⟨rfl, N4q, e4⟩ := hQ4
  have N4 := Fr.app N0 N4q
  refine own_go st4 ?_
  show own_Goes _ _ _ _ _ _ _ T4 (mkF m 35 #[.val (.ref a1), .val (.int (1 : Int32)), .val (.ref aM), .val (.ref b2)] [(.int (1 : Int32)), (.int (0 : Int32)), (.ref b2), (.int (0 : Int32)), (.ref a1)])
  have P5 : Arv Z h2 b2 k2 (.object "java/lang/Object") (1 : Int32) [.null] .null := V2.pad (pad_rep [] .null 1)
  have I5 : Sto Z h2 b2 (.ref a2) := by
    obtain ⟨c, A, q, -⟩ := id V2
    exact Sto.ofV A q O2 (Ins.of_exa E_a2_2 (hw _ (List.mem_of_getElem? (i := 97) rfl)))
  obtain ⟨T5, h5, L5, X5, e5, N5, K5, V5, st5⟩ := cpA X4 hx hZ hown (hw _ (List.mem_of_getElem? (i := 152) rfl)) (hw _ (List.mem_of_getElem? (i := 155) rfl)) (hw _ (List.mem_of_getElem? (i := 153) rfl)) (hw _ (List.mem_of_getElem? (i := 154) rfl)) e4 V_b_2 P5 (us := [(.ref a2)]) (Or.inr ⟨rfl, rfl, ⟨I5, trivial⟩⟩) (sp := 0) (dp := 0) (nn := (1 : Int32)) (by decide) (by decide) (by decide) (by decide) (by decide) rfl (by decide) N4 lo_b2 (g := (mkF m 35 #[.val (.ref a1), .val (.int (1 : Int32)), .val (.ref aM), .val (.ref b2)] [(.int (1 : Int32)), (.int (0 : Int32)), (.ref b2), (.int (0 : Int32)), (.ref a1)])) rfl (by rw [hml]; rfl) rfl (hb hby d20_35) (by decide) (W := 0) (by show 2 * 0 + _ ≤ _; exact Nat.le_of_eq rfl) (by decide)
  have V_b_5 : Arv Z h5 a1 kc (.object "java/lang/Object") (10 : Int32) [(.ref a2)] .null := V_b_2.keep K5 (ninS ne_a1_b2 nin0)
  have E_a2_5 : Exa Z h5 a2 "com/example/treellis/treellis/cfa/StructType$Member" := E_a2_2.keep K5
  have E_b_5 : Exa Z h5 a1 "[Ljava/lang/Object;" := E_b_2.keep K5
  have E_b2_5 : Exa Z h5 b2 "[Ljava/lang/Object;" := B2.keep K5
  have Zs5 : n0 ≤ h5.size := Nat.le_trans Zs2 K5.1
  have Kp5 : Keep h0 h5 [] := Kp2.trans K5 (allS (Or.inr bo_b2) all0)
  refine own_go st5 ?_
  show own_Goes _ _ _ _ _ _ _ T5 (mkF m 38 #[.val (.ref a1), .val (.int (1 : Int32)), .val (.ref aM), .val (.ref b2)] [])
  refine own_go (fun _ k => XS.aloadN X5.here hx rfl (hb hby d20_38) rfl rfl k) ?_
  show own_Goes _ _ _ _ _ _ _ T5 (mkF m 39 #[.val (.ref a1), .val (.int (1 : Int32)), .val (.ref aM), .val (.ref b2)] [(.ref b2)])
  exact own_retA X5 hx hlk hret rfl rfl (hb hby d20_39) (by decide) (by decide) (by rw [e5]; exact ⟨b2, _, rfl, N5, bo_b2, Kp5, V5⟩)
def Q_rm_cp2_1 (Z : State) (h0 : Heap) (n0 : Nat) (a2 : Addr) (v : Option Value) (h : Heap) (L : List Loc) : Prop := ∃ b kd, v = some (.ref b) ∧ Fr n0 L ∧ h0.size ≤ b ∧ Keep h0 h [] ∧ Arv Z h b kd (.object "java/lang/Object") (1 : Int32) [(.ref a2)] .null
set_option maxRecDepth 65536 in
set_option maxHeartbeats 40000000 in
theorem rm_cp2_1 (l : Launch) (Z : State) (a0 : Array Value) (hw : ∀ d ∈ tables_1, d.before a0 Z = true) (ws : List Jvm.Cond) (a1 a2 aM : Addr) (kc : ClassId) (h0 : Heap) (n0 : Nat) (Z0 : n0 ≤ h0.size) (V_b : Arv Z h0 a1 kc (.object "java/lang/Object") (10 : Int32) [(.ref a2)] .null) (E_a2 : Exa Z h0 a2 "com/example/treellis/treellis/cfa/StructType$Member") (E_b : Exa Z h0 a1 "[Ljava/lang/Object;") (ne_a1_a2 : a1 ≠ a2) (MM : Mir Z "[Ljava/lang/Object;" aM) :
    MetFree l (⟨"java/util/Arrays", "copyOf", "([Ljava/lang/Object;I)[Ljava/lang/Object;"⟩ : MethodName) (head1 (Jvm.Cond.code (⟨"java/util/Arrays", "copyOf", "([Ljava/lang/Object;I)[Ljava/lang/Object;"⟩ : MethodName) jdk_65_method_119_code 2 (some (.array (.object "java/lang/Object"))) :: ws) ({ frames := 2, cells := 1, slots := 1, locals := 55 } : Room)) (fun a U => a = #[(.ref a1), (.int (1 : Int32))] ∧ Z.Warmed39 U.vm ∧ U.heap = h0) (fun _ _ _ _ _ => True) (fun _ U o U' => ∃ rv rL, o = .returned rv ∧ Q_rm_cp2_1 Z h0 n0 a2 rv U'.heap rL ∧ FrameEnd U o U' rL ({ frames := 2, cells := 1, slots := 1, locals := 55 } : Room).cells ({ frames := 2, cells := 1, slots := 1, locals := 55 } : Room).slots) := by
  refine own_met (y := (⟨"java/util/Arrays", "copyOf", "([Ljava/lang/Object;I)[Ljava/lang/Object;"⟩ : MethodName)) (Q := Q_rm_cp2_1 Z h0 n0 a2) (own := "java/util/Arrays") rfl (plainFor_of_name pn_19) ?_
  intro p e s m below meth c s₁ C e0 X0
  obtain ⟨hx, hby, hml, hown, hnm, hret, hlk, hZ⟩ := C
  have N0 := Fr.nil n0
  rw [ef_19]
  have Kp0 : Keep h0 h0 [] := Keep.refl h0 _
  show own_Goes _ _ _ _ _ _ _ s₁ (mkF m 0 #[.val (.ref a1), .val (.int (1 : Int32))] [])
  refine own_go (fun _ k => XS.aloadN X0.here hx rfl (hb hby d19_0) rfl rfl k) ?_
  show own_Goes _ _ _ _ _ _ _ s₁ (mkF m 1 #[.val (.ref a1), .val (.int (1 : Int32))] [(.ref a1)])
  refine own_go (fun _ k => XS.iloadN X0.here hx rfl (hb hby d19_1) rfl k) ?_
  show own_Goes _ _ _ _ _ _ _ s₁ (mkF m 2 #[.val (.ref a1), .val (.int (1 : Int32))] [(.int (1 : Int32)), (.ref a1)])
  refine own_go (fun _ k => XS.aloadN X0.here hx rfl (hb hby d19_2) rfl rfl k) ?_
  show own_Goes _ _ _ _ _ _ _ s₁ (mkF m 3 #[.val (.ref a1), .val (.int (1 : Int32))] [(.ref a1), (.int (1 : Int32)), (.ref a1)])
  obtain ⟨T1, X1, e1, st1⟩ := gcls X0 hx hZ hown (hw _ (List.mem_of_getElem? (i := 138) rfl)) (hw _ (List.mem_of_getElem? (i := 139) rfl)) (hw _ (List.mem_of_getElem? (i := 115) rfl)) (hw _ (List.mem_of_getElem? (i := 141) rfl)) (hw _ (List.mem_of_getElem? (i := 140) rfl)) (hw _ (List.mem_of_getElem? (i := 142) rfl)) e0 E_b MM (g := (mkF m 3 #[.val (.ref a1), .val (.int (1 : Int32))] [(.ref a1), (.int (1 : Int32)), (.ref a1)])) rfl (by rw [hml]; rfl) rfl (hb hby d19_3) (by decide) (W := 2) (by show 2 * 0 + _ ≤ _; exact Nat.le_of_eq rfl) (by decide)
  refine own_go st1 ?_
  show own_Goes _ _ _ _ _ _ _ T1 (mkF m 6 #[.val (.ref a1), .val (.int (1 : Int32))] [(.ref aM), (.int (1 : Int32)), (.ref a1)])
  obtain ⟨_, _, ⟨T2, L2, k2, n2⟩, -, X2, ⟨Lc2, hQ2, l2, y2, z2⟩, st2⟩ := Jvm.LawKit.callS X1 hx (y := (⟨"java/util/Arrays", "copyOf", "([Ljava/lang/Object;ILjava/lang/Class;)[Ljava/lang/Object;"⟩ : MethodName)) hown (mvT hZ (hw _ (List.mem_of_getElem? (i := 144) rfl))) (mvT hZ (hw _ (List.mem_of_getElem? (i := 145) rfl))) (mvT hZ (hw _ (List.mem_of_getElem? (i := 136) rfl))) (mvT hZ (hw _ (List.mem_of_getElem? (i := 146) rfl))) (by decide) (backOf (W := 0) (rm_cp3_1 l Z a0 hw [] a1 a2 aM kc h0 n0 Z0 V_b E_a2 E_b ne_a1_a2 MM) hZ (hw _ (List.mem_of_getElem? (i := 146) rfl)) (hw _ (List.mem_of_getElem? (i := 136) rfl)) (by decide) (by decide)) (g := (mkF m 6 #[.val (.ref a1), .val (.int (1 : Int32))] [(.ref aM), (.int (1 : Int32)), (.ref a1)])) rfl (by rw [hml]; rfl) (argsL := [(.ref a1), (.int (1 : Int32)), (.ref aM)]) (rest := []) (lenOf pd_5 rfl) rfl (by show 2 * 0 + _ ≤ _; exact Nat.le_of_eq rfl) (hb hby d19_6) (fun _ _ => ⟨rfl, e1, (by decide : 0 + 1 ≤ _), (by decide : 0 + 1 ≤ _)⟩)
  dsimp only [Pt.U, Pt.locs, Pt.cells, Pt.slots] at X2 l2 y2 z2 st2 hQ2
  subst l2 y2 z2
  obtain ⟨bb2, kk2, rfl, N2q, hb2, K2, Va2⟩ := hQ2
  have N2 := Fr.app N0 N2q
  refine own_go st2 ?_
  show own_Goes _ _ _ _ _ _ _ T2 (mkF m 9 #[.val (.ref a1), .val (.int (1 : Int32))] [(.ref bb2)])
  have V_b_2 : Arv Z T2.heap a1 kc (.object "java/lang/Object") (10 : Int32) [(.ref a2)] .null := V_b.keep K2 nin0
  have E_a2_2 : Exa Z T2.heap a2 "com/example/treellis/treellis/cfa/StructType$Member" := E_a2.keep K2
  have E_b_2 : Exa Z T2.heap a1 "[Ljava/lang/Object;" := E_b.keep K2
  have Zs2 : n0 ≤ T2.heap.size := Nat.le_trans Z0 K2.1
  have Kp2 : Keep h0 T2.heap [] := Kp0.trans K2 all0
  have lo_bb2 : n0 ≤ bb2 := Nat.le_trans Z0 hb2
  have bo_bb2 : h0.size ≤ bb2 := Nat.le_trans Kp0.1 hb2
  have ne_a1_bb2 : a1 ≠ bb2 := Nat.ne_of_lt (Nat.lt_of_lt_of_le V_b.lt hb2)
  have ne_a2_bb2 : a2 ≠ bb2 := Nat.ne_of_lt (Nat.lt_of_lt_of_le E_a2.lt hb2)
  exact own_retA X2 hx hlk hret rfl rfl (hb hby d19_9) (by decide) (by decide) ⟨bb2, _, rfl, N2, bo_bb2, Kp2, Va2⟩
def Q_rm_ta1 (Z : State) (h0 : Heap) (n0 : Nat) (a2 : Addr) (v : Option Value) (h : Heap) (L : List Loc) : Prop := ∃ b kd, v = some (.ref b) ∧ Fr n0 L ∧ h0.size ≤ b ∧ Keep h0 h [] ∧ Arv Z h b kd (.object "java/lang/Object") (1 : Int32) [(.ref a2)] .null
set_option maxRecDepth 65536 in
set_option maxHeartbeats 40000000 in
theorem rm_ta1 (l : Launch) (Z : State) (a0 : Array Value) (hw : ∀ d ∈ tables_1, d.before a0 Z = true) (ws : List Jvm.Cond) (a1 a2 a3 aM : Addr) (kc : ClassId) (h0 : Heap) (n0 : Nat) (Z0 : n0 ≤ h0.size) (F_sz : Fld Z h0 a1 "java/util/ArrayList" "size" "I" (.int (1 : Int32))) (F_el : Fld Z h0 a1 "java/util/ArrayList" "elementData" "[Ljava/lang/Object;" (.ref a3)) (V_b : Arv Z h0 a3 kc (.object "java/lang/Object") (10 : Int32) [(.ref a2)] .null) (E_a2 : Exa Z h0 a2 "com/example/treellis/treellis/cfa/StructType$Member") (E_b : Exa Z h0 a3 "[Ljava/lang/Object;") (ne_a3_a2 : a3 ≠ a2) (MM : Mir Z "[Ljava/lang/Object;" aM) :
    MetFree l (⟨"java/util/ArrayList", "toArray", "()[Ljava/lang/Object;"⟩ : MethodName) (head1 (Jvm.Cond.code (⟨"java/util/ArrayList", "toArray", "()[Ljava/lang/Object;"⟩ : MethodName) jdk_38_method_16_code 1 (some (.array (.object "java/lang/Object"))) :: ws) ({ frames := 3, cells := 1, slots := 1, locals := 68 } : Room)) (fun a U => a = #[(.ref a1)] ∧ Z.Warmed39 U.vm ∧ U.heap = h0) (fun _ _ _ _ _ => True) (fun _ U o U' => ∃ rv rL, o = .returned rv ∧ Q_rm_ta1 Z h0 n0 a2 rv U'.heap rL ∧ FrameEnd U o U' rL ({ frames := 3, cells := 1, slots := 1, locals := 68 } : Room).cells ({ frames := 3, cells := 1, slots := 1, locals := 68 } : Room).slots) := by
  refine own_met (y := (⟨"java/util/ArrayList", "toArray", "()[Ljava/lang/Object;"⟩ : MethodName)) (Q := Q_rm_ta1 Z h0 n0 a2) (own := "java/util/ArrayList") rfl (plainFor_of_name pn_18) ?_
  intro p e s m below meth c s₁ C e0 X0
  obtain ⟨hx, hby, hml, hown, hnm, hret, hlk, hZ⟩ := C
  have N0 := Fr.nil n0
  rw [ef_18]
  have Kp0 : Keep h0 h0 [] := Keep.refl h0 _
  show own_Goes _ _ _ _ _ _ _ s₁ (mkF m 0 #[.val (.ref a1)] [])
  refine own_go (fun _ k => XS.aloadN X0.here hx rfl (hb hby d18_0) rfl rfl k) ?_
  show own_Goes _ _ _ _ _ _ _ s₁ (mkF m 1 #[.val (.ref a1)] [(.ref a1)])
  obtain ⟨T1, X1, e1, st1⟩ := getF X0 hx hZ hown (host := "") (Or.inl (hw _ (List.mem_of_getElem? (i := 65) rfl))) Via.refl e0 F_el (g := (mkF m 1 #[.val (.ref a1)] [(.ref a1)])) rfl rfl (hb hby d18_1)
  refine own_go st1 ?_
  show own_Goes _ _ _ _ _ _ _ T1 (mkF m 4 #[.val (.ref a1)] [(.ref a3)])
  refine own_go (fun _ k => XS.aloadN X1.here hx rfl (hb hby d18_4) rfl rfl k) ?_
  show own_Goes _ _ _ _ _ _ _ T1 (mkF m 5 #[.val (.ref a1)] [(.ref a1), (.ref a3)])
  obtain ⟨T2, X2, e2, st2⟩ := getF X1 hx hZ hown (host := "") (Or.inl (hw _ (List.mem_of_getElem? (i := 74) rfl))) Via.refl e1 F_sz (g := (mkF m 5 #[.val (.ref a1)] [(.ref a1), (.ref a3)])) rfl rfl (hb hby d18_5)
  refine own_go st2 ?_
  show own_Goes _ _ _ _ _ _ _ T2 (mkF m 8 #[.val (.ref a1)] [(.int (1 : Int32)), (.ref a3)])
  obtain ⟨_, _, ⟨T3, L3, k3, n3⟩, -, X3, ⟨Lc3, hQ3, l3, y3, z3⟩, st3⟩ := Jvm.LawKit.callS X2 hx (y := (⟨"java/util/Arrays", "copyOf", "([Ljava/lang/Object;I)[Ljava/lang/Object;"⟩ : MethodName)) hown (mvT hZ (hw _ (List.mem_of_getElem? (i := 134) rfl))) (mvT hZ (hw _ (List.mem_of_getElem? (i := 135) rfl))) (mvT hZ (hw _ (List.mem_of_getElem? (i := 136) rfl))) (mvT hZ (hw _ (List.mem_of_getElem? (i := 137) rfl))) (by decide) (backOf (W := 0) (rm_cp2_1 l Z a0 hw [] a3 a2 aM kc h0 n0 Z0 V_b E_a2 E_b ne_a3_a2 MM) hZ (hw _ (List.mem_of_getElem? (i := 137) rfl)) (hw _ (List.mem_of_getElem? (i := 136) rfl)) (by decide) (by decide)) (g := (mkF m 8 #[.val (.ref a1)] [(.int (1 : Int32)), (.ref a3)])) rfl (by rw [hml]; rfl) (argsL := [(.ref a3), (.int (1 : Int32))]) (rest := []) (lenOf pd_6 rfl) rfl (by show 2 * 0 + _ ≤ _; exact Nat.le_of_eq rfl) (hb hby d18_8) (fun _ _ => ⟨rfl, e2, (by decide : 0 + 1 ≤ _), (by decide : 0 + 1 ≤ _)⟩)
  dsimp only [Pt.U, Pt.locs, Pt.cells, Pt.slots] at X3 l3 y3 z3 st3 hQ3
  subst l3 y3 z3
  obtain ⟨bb3, kk3, rfl, N3q, hb3, K3, Va3⟩ := hQ3
  have N3 := Fr.app N0 N3q
  refine own_go st3 ?_
  show own_Goes _ _ _ _ _ _ _ T3 (mkF m 11 #[.val (.ref a1)] [(.ref bb3)])
  have F_sz_3 : Fld Z T3.heap a1 "java/util/ArrayList" "size" "I" (.int (1 : Int32)) := F_sz.keep K3 nin0
  have F_el_3 : Fld Z T3.heap a1 "java/util/ArrayList" "elementData" "[Ljava/lang/Object;" (.ref a3) := F_el.keep K3 nin0
  have V_b_3 : Arv Z T3.heap a3 kc (.object "java/lang/Object") (10 : Int32) [(.ref a2)] .null := V_b.keep K3 nin0
  have E_a2_3 : Exa Z T3.heap a2 "com/example/treellis/treellis/cfa/StructType$Member" := E_a2.keep K3
  have E_b_3 : Exa Z T3.heap a3 "[Ljava/lang/Object;" := E_b.keep K3
  have Zs3 : n0 ≤ T3.heap.size := Nat.le_trans Z0 K3.1
  have Kp3 : Keep h0 T3.heap [] := Kp0.trans K3 all0
  have lo_bb3 : n0 ≤ bb3 := Nat.le_trans Z0 hb3
  have bo_bb3 : h0.size ≤ bb3 := Nat.le_trans Kp0.1 hb3
  have ne_a1_bb3 : a1 ≠ bb3 := Nat.ne_of_lt (Nat.lt_of_lt_of_le F_sz.lt hb3)
  have ne_a3_bb3 : a3 ≠ bb3 := Nat.ne_of_lt (Nat.lt_of_lt_of_le V_b.lt hb3)
  have ne_a2_bb3 : a2 ≠ bb3 := Nat.ne_of_lt (Nat.lt_of_lt_of_le E_a2.lt hb3)
  exact own_retA X3 hx hlk hret rfl rfl (hb hby d18_11) (by decide) (by decide) ⟨bb3, _, rfl, N3, bo_bb3, Kp3, Va3⟩
def Q_rm_cp3_2 (Z : State) (h0 : Heap) (n0 : Nat) (a2 : Addr) (v : Option Value) (h : Heap) (L : List Loc) : Prop := ∃ b kd, v = some (.ref b) ∧ Fr n0 L ∧ h0.size ≤ b ∧ Keep h0 h [] ∧ Arv Z h b kd (.object "java/lang/Object") (2 : Int32) [(.ref a2), (.ref a2)] .null
set_option maxRecDepth 65536 in
set_option maxHeartbeats 40000000 in
theorem rm_cp3_2 (l : Launch) (Z : State) (a0 : Array Value) (hw : ∀ d ∈ tables_1, d.before a0 Z = true) (ws : List Jvm.Cond) (a1 a2 aM : Addr) (kc : ClassId) (h0 : Heap) (n0 : Nat) (Z0 : n0 ≤ h0.size) (V_b : Arv Z h0 a1 kc (.object "java/lang/Object") (10 : Int32) [(.ref a2), (.ref a2)] .null) (E_a2 : Exa Z h0 a2 "com/example/treellis/treellis/cfa/StructType$Member") (E_b : Exa Z h0 a1 "[Ljava/lang/Object;") (ne_a1_a2 : a1 ≠ a2) (MM : Mir Z "[Ljava/lang/Object;" aM) :
    MetFree l (⟨"java/util/Arrays", "copyOf", "([Ljava/lang/Object;ILjava/lang/Class;)[Ljava/lang/Object;"⟩ : MethodName) (head1 (Jvm.Cond.code (⟨"java/util/Arrays", "copyOf", "([Ljava/lang/Object;ILjava/lang/Class;)[Ljava/lang/Object;"⟩ : MethodName) jdk_65_method_120_code 4 (some (.array (.object "java/lang/Object"))) :: ws) ({ frames := 1, cells := 1, slots := 2, locals := 40 } : Room)) (fun a U => a = #[(.ref a1), (.int (2 : Int32)), (.ref aM)] ∧ Z.Warmed39 U.vm ∧ U.heap = h0) (fun _ _ _ _ _ => True) (fun _ U o U' => ∃ rv rL, o = .returned rv ∧ Q_rm_cp3_2 Z h0 n0 a2 rv U'.heap rL ∧ FrameEnd U o U' rL ({ frames := 1, cells := 1, slots := 2, locals := 40 } : Room).cells ({ frames := 1, cells := 1, slots := 2, locals := 40 } : Room).slots) := by
  refine own_met (y := (⟨"java/util/Arrays", "copyOf", "([Ljava/lang/Object;ILjava/lang/Class;)[Ljava/lang/Object;"⟩ : MethodName)) (Q := Q_rm_cp3_2 Z h0 n0 a2) (own := "java/util/Arrays") rfl (plainFor_of_name pn_20) ?_
  intro p e s m below meth c s₁ C e0 X0
  obtain ⟨hx, hby, hml, hown, hnm, hret, hlk, hZ⟩ := C
  have N0 := Fr.nil n0
  rw [ef_20]
  have Kp0 : Keep h0 h0 [] := Keep.refl h0 _
  show own_Goes _ _ _ _ _ _ _ s₁ (mkF m 0 #[.val (.ref a1), .val (.int (2 : Int32)), .val (.ref aM), .unset] [])
  refine own_go (fun _ k => XS.aloadN X0.here hx rfl (hb hby d20_0) rfl rfl k) ?_
  show own_Goes _ _ _ _ _ _ _ s₁ (mkF m 1 #[.val (.ref a1), .val (.int (2 : Int32)), .val (.ref aM), .unset] [(.ref aM)])
  obtain ⟨vm1, X1, st1⟩ := X0.ldcMirror hx hown (mvT hZ (hw _ (List.mem_of_getElem? (i := 147) rfl))) (own_mir hZ MM) (g := (mkF m 1 #[.val (.ref a1), .val (.int (2 : Int32)), .val (.ref aM), .unset] [(.ref aM)])) rfl (hb hby d20_1)
  have e1 : (s₁.setVm vm1).heap = h0 := e0
  generalize s₁.setVm vm1 = T1 at X1 st1 e1
  refine own_go st1 ?_
  show own_Goes _ _ _ _ _ _ _ T1 (mkF m 3 #[.val (.ref a1), .val (.int (2 : Int32)), .val (.ref aM), .unset] [(.ref aM), (.ref aM)])
  refine own_go (fun _ k => Jvm.RoadKit.acmp (g := (mkF m 3 #[.val (.ref a1), .val (.int (2 : Int32)), .val (.ref aM), .unset] [(.ref aM), (.ref aM)])) X1 hx rfl rfl rfl (pc0 := 3) (pc' := 6) (same := true) rfl (hb hby d20_3) rfl (decide_eq_true rfl) (by decide) (by decide) k) ?_
  show own_Goes _ _ _ _ _ _ _ T1 (mkF m 6 #[.val (.ref a1), .val (.int (2 : Int32)), .val (.ref aM), .unset] [])
  refine own_go (fun _ k => XS.iloadN X1.here hx rfl (hb hby d20_6) rfl k) ?_
  show own_Goes _ _ _ _ _ _ _ T1 (mkF m 7 #[.val (.ref a1), .val (.int (2 : Int32)), .val (.ref aM), .unset] [(.int (2 : Int32))])
  obtain ⟨T2, h2, k2, X2, e2, E2, A2, B2, O2, st2⟩ := newRE X1 hx hZ hown (hw _ (List.mem_of_getElem? (i := 148) rfl)) (hw _ (List.mem_of_getElem? (i := 96) rfl)) e1 (g := (mkF m 7 #[.val (.ref a1), .val (.int (2 : Int32)), .val (.ref aM), .unset] [(.int (2 : Int32))])) rfl (hb hby d20_7) rfl (by decide) (cap := 2) (by decide) (by decide) (by decide) (by decide) (ad := "[Ljava/lang/Object;") (by decide)
  obtain ⟨b2, g2⟩ : ∃ z, z = h0.size := ⟨_, rfl⟩
  rw [← g2] at A2 B2 st2
  have lo_b2 : n0 ≤ b2 := Nat.le_trans Z0 (Nat.le_of_eq g2.symm)
  have bo_b2 : h0.size ≤ b2 := Nat.le_trans Kp0.1 (Nat.le_of_eq g2.symm)
  have ne_a1_b2 : a1 ≠ b2 := Nat.ne_of_lt (Nat.lt_of_lt_of_le V_b.lt (Nat.le_of_eq g2.symm))
  have ne_a2_b2 : a2 ≠ b2 := Nat.ne_of_lt (Nat.lt_of_lt_of_le E_a2.lt (Nat.le_of_eq g2.symm))
  have V_b_2 : Arv Z h2 a1 kc (.object "java/lang/Object") (10 : Int32) [(.ref a2), (.ref a2)] .null := V_b.ext E2
  have E_a2_2 : Exa Z h2 a2 "com/example/treellis/treellis/cfa/StructType$Member" := E_a2.ext E2
  have E_b_2 : Exa Z h2 a1 "[Ljava/lang/Object;" := E_b.ext E2
  have Zs2 : n0 ≤ h2.size := Nat.le_trans Z0 E2.1
  have Kp2 : Keep h0 h2 [] := Kp0.ext E2
  have V2 : Arv Z h2 b2 k2 (.object "java/lang/Object") (2 : Int32) [] .null := Arv.new A2 (by decide)
  refine own_go st2 ?_
  show own_Goes _ _ _ _ _ _ _ T2 (mkF m 10 #[.val (.ref a1), .val (.int (2 : Int32)), .val (.ref aM), .unset] [(.ref b2)])
  refine own_go (fun _ k => XS.goto X2.here hx rfl (pc0 := 10) (pc' := 24) rfl (hb hby d20_10) (by decide) (by decide) k) ?_
  show own_Goes _ _ _ _ _ _ _ T2 (mkF m 24 #[.val (.ref a1), .val (.int (2 : Int32)), .val (.ref aM), .unset] [(.ref b2)])
  refine own_go (fun _ k => XS.astoreN X2.here hx rfl (hb hby d20_24) rfl rfl (l' := #[.val (.ref a1), .val (.int (2 : Int32)), .val (.ref aM), .val (.ref b2)]) rfl k) ?_
  show own_Goes _ _ _ _ _ _ _ T2 (mkF m 25 #[.val (.ref a1), .val (.int (2 : Int32)), .val (.ref aM), .val (.ref b2)] [])
  refine own_go (fun _ k => XS.aloadN X2.here hx rfl (hb hby d20_25) rfl rfl k) ?_
  show own_Goes _ _ _ _ _ _ _ T2 (mkF m 26 #[.val (.ref a1), .val (.int (2 : Int32)), .val (.ref aM), .val (.ref b2)] [(.ref a1)])
  refine own_go (fun _ k => XS.iconst X2.here hx rfl (hb hby d20_26) k) ?_
  show own_Goes _ _ _ _ _ _ _ T2 (mkF m 27 #[.val (.ref a1), .val (.int (2 : Int32)), .val (.ref aM), .val (.ref b2)] [(.int (0 : Int32)), (.ref a1)])
  refine own_go (fun _ k => XS.aloadN X2.here hx rfl (hb hby d20_27) rfl rfl k) ?_
  show own_Goes _ _ _ _ _ _ _ T2 (mkF m 28 #[.val (.ref a1), .val (.int (2 : Int32)), .val (.ref aM), .val (.ref b2)] [(.ref b2), (.int (0 : Int32)), (.ref a1)])
  refine own_go (fun _ k => XS.iconst X2.here hx rfl (hb hby d20_28) k) ?_
  show own_Goes _ _ _ _ _ _ _ T2 (mkF m 29 #[.val (.ref a1), .val (.int (2 : Int32)), .val (.ref aM), .val (.ref b2)] [(.int (0 : Int32)), (.ref b2), (.int (0 : Int32)), (.ref a1)])
  refine own_go (fun _ k => XS.aloadN X2.here hx rfl (hb hby d20_29) rfl rfl k) ?_
  show own_Goes _ _ _ _ _ _ _ T2 (mkF m 30 #[.val (.ref a1), .val (.int (2 : Int32)), .val (.ref aM), .val (.ref b2)] [(.ref a1), (.int (0 : Int32)), (.ref b2), (.int (0 : Int32)), (.ref a1)])
  obtain ⟨c3, A3, q3, S3, M3, H3, G3⟩ := id V_b_2
  refine own_go (fun t k => X2.arraylength hx (by rw [e2]; exact A3.1) (State.isArrayOf_alike hZ.alike A3.2.1) (g := (mkF m 30 #[.val (.ref a1), .val (.int (2 : Int32)), .val (.ref aM), .val (.ref b2)] [(.ref a1), (.int (0 : Int32)), (.ref b2), (.int (0 : Int32)), (.ref a1)])) rfl rfl (hb hby d20_30) t k) ?_
  rw [len_of S3 M3]
  show own_Goes _ _ _ _ _ _ _ T2 (mkF m 31 #[.val (.ref a1), .val (.int (2 : Int32)), .val (.ref aM), .val (.ref b2)] [(.int (10 : Int32)), (.int (0 : Int32)), (.ref b2), (.int (0 : Int32)), (.ref a1)])
  refine own_go (fun _ k => XS.iloadN X2.here hx rfl (hb hby d20_31) rfl k) ?_
  show own_Goes _ _ _ _ _ _ _ T2 (mkF m 32 #[.val (.ref a1), .val (.int (2 : Int32)), .val (.ref aM), .val (.ref b2)] [(.int (2 : Int32)), (.int (10 : Int32)), (.int (0 : Int32)), (.ref b2), (.int (0 : Int32)), (.ref a1)])
  obtain ⟨_, _, ⟨T4, L4, k4, n4⟩, -, X4, ⟨Lc4, hQ4, l4, y4, z4⟩, st4⟩ := Jvm.LawKit.callS X2 hx (y := (⟨"java/lang/Math", "min", "(II)I"⟩ : MethodName)) hown (mvT hZ (hw _ (List.mem_of_getElem? (i := 149) rfl))) (mvT hZ (hw _ (List.mem_of_getElem? (i := 150) rfl))) (mvT hZ (hw _ (List.mem_of_getElem? (i := 93) rfl))) (mvT hZ (hw _ (List.mem_of_getElem? (i := 151) rfl))) (by decide) (backOf (W := 4) (rm_min2 l Z a0 hw [] h2 n0 Zs2) hZ (hw _ (List.mem_of_getElem? (i := 151) rfl)) (hw _ (List.mem_of_getElem? (i := 93) rfl)) (by decide) (by decide)) (g := (mkF m 32 #[.val (.ref a1), .val (.int (2 : Int32)), .val (.ref aM), .val (.ref b2)] [(.int (2 : Int32)), (.int (10 : Int32)), (.int (0 : Int32)), (.ref b2), (.int (0 : Int32)), (.ref a1)])) rfl (by rw [hml]; rfl) (argsL := [(.int (10 : Int32)), (.int (2 : Int32))]) (rest := [(.int (0 : Int32)), (.ref b2), (.int (0 : Int32)), (.ref a1)]) (lenOf pd_1 rfl) rfl (by show 2 * 0 + _ ≤ _; exact Nat.le_of_eq rfl) (hb hby d20_32) (fun _ _ => ⟨rfl, e2, (by decide : 0 + 1 + 0 ≤ _), (by decide : 0 + 2 + 0 ≤ _)⟩)
  dsimp only [Pt.U, Pt.locs, Pt.cells, Pt.slots] at X4 l4 y4 z4 st4 hQ4
  subst l4 y4 z4
  obtain ⟨rfl, N4q, e4⟩ := hQ4
  have N4 := Fr.app N0 N4q
  refine own_go st4 ?_
  show own_Goes _ _ _ _ _ _ _ T4 (mkF m 35 #[.val (.ref a1), .val (.int (2 : Int32)), .val (.ref aM), .val (.ref b2)] [(.int (2 : Int32)), (.int (0 : Int32)), (.ref b2), (.int (0 : Int32)), (.ref a1)])
  have P5 : Arv Z h2 b2 k2 (.object "java/lang/Object") (2 : Int32) [.null, .null] .null := V2.pad (pad_rep [] .null 2)
  have I5 : Sto Z h2 b2 (.ref a2) := by
    obtain ⟨c, A, q, -⟩ := id V2
    exact Sto.ofV A q O2 (Ins.of_exa E_a2_2 (hw _ (List.mem_of_getElem? (i := 97) rfl)))
  obtain ⟨T5, h5, L5, X5, e5, N5, K5, V5, st5⟩ := cpA X4 hx hZ hown (hw _ (List.mem_of_getElem? (i := 152) rfl)) (hw _ (List.mem_of_getElem? (i := 155) rfl)) (hw _ (List.mem_of_getElem? (i := 153) rfl)) (hw _ (List.mem_of_getElem? (i := 154) rfl)) e4 V_b_2 P5 (us := [(.ref a2), (.ref a2)]) (Or.inr ⟨rfl, rfl, ⟨I5, I5, trivial⟩⟩) (sp := 0) (dp := 0) (nn := (2 : Int32)) (by decide) (by decide) (by decide) (by decide) (by decide) rfl (by decide) N4 lo_b2 (g := (mkF m 35 #[.val (.ref a1), .val (.int (2 : Int32)), .val (.ref aM), .val (.ref b2)] [(.int (2 : Int32)), (.int (0 : Int32)), (.ref b2), (.int (0 : Int32)), (.ref a1)])) rfl (by rw [hml]; rfl) rfl (hb hby d20_35) (by decide) (W := 0) (by show 2 * 0 + _ ≤ _; exact Nat.le_of_eq rfl) (by decide)
  have V_b_5 : Arv Z h5 a1 kc (.object "java/lang/Object") (10 : Int32) [(.ref a2), (.ref a2)] .null := V_b_2.keep K5 (ninS ne_a1_b2 nin0)
  have E_a2_5 : Exa Z h5 a2 "com/example/treellis/treellis/cfa/StructType$Member" := E_a2_2.keep K5
  have E_b_5 : Exa Z h5 a1 "[Ljava/lang/Object;" := E_b_2.keep K5
  have E_b2_5 : Exa Z h5 b2 "[Ljava/lang/Object;" := B2.keep K5
  have Zs5 : n0 ≤ h5.size := Nat.le_trans Zs2 K5.1
  have Kp5 : Keep h0 h5 [] := Kp2.trans K5 (allS (Or.inr bo_b2) all0)
  refine own_go st5 ?_
  show own_Goes _ _ _ _ _ _ _ T5 (mkF m 38 #[.val (.ref a1), .val (.int (2 : Int32)), .val (.ref aM), .val (.ref b2)] [])
  refine own_go (fun _ k => XS.aloadN X5.here hx rfl (hb hby d20_38) rfl rfl k) ?_
  show own_Goes _ _ _ _ _ _ _ T5 (mkF m 39 #[.val (.ref a1), .val (.int (2 : Int32)), .val (.ref aM), .val (.ref b2)] [(.ref b2)])
  exact own_retA X5 hx hlk hret rfl rfl (hb hby d20_39) (by decide) (by decide) (by rw [e5]; exact ⟨b2, _, rfl, N5, bo_b2, Kp5, V5⟩)
def Q_rm_cp2_2 (Z : State) (h0 : Heap) (n0 : Nat) (a2 : Addr) (v : Option Value) (h : Heap) (L : List Loc) : Prop := ∃ b kd, v = some (.ref b) ∧ Fr n0 L ∧ h0.size ≤ b ∧ Keep h0 h [] ∧ Arv Z h b kd (.object "java/lang/Object") (2 : Int32) [(.ref a2), (.ref a2)] .null
set_option maxRecDepth 65536 in
set_option maxHeartbeats 40000000 in
theorem rm_cp2_2 (l : Launch) (Z : State) (a0 : Array Value) (hw : ∀ d ∈ tables_1, d.before a0 Z = true) (ws : List Jvm.Cond) (a1 a2 aM : Addr) (kc : ClassId) (h0 : Heap) (n0 : Nat) (Z0 : n0 ≤ h0.size) (V_b : Arv Z h0 a1 kc (.object "java/lang/Object") (10 : Int32) [(.ref a2), (.ref a2)] .null) (E_a2 : Exa Z h0 a2 "com/example/treellis/treellis/cfa/StructType$Member") (E_b : Exa Z h0 a1 "[Ljava/lang/Object;") (ne_a1_a2 : a1 ≠ a2) (MM : Mir Z "[Ljava/lang/Object;" aM) :
    MetFree l (⟨"java/util/Arrays", "copyOf", "([Ljava/lang/Object;I)[Ljava/lang/Object;"⟩ : MethodName) (head1 (Jvm.Cond.code (⟨"java/util/Arrays", "copyOf", "([Ljava/lang/Object;I)[Ljava/lang/Object;"⟩ : MethodName) jdk_65_method_119_code 2 (some (.array (.object "java/lang/Object"))) :: ws) ({ frames := 2, cells := 1, slots := 2, locals := 55 } : Room)) (fun a U => a = #[(.ref a1), (.int (2 : Int32))] ∧ Z.Warmed39 U.vm ∧ U.heap = h0) (fun _ _ _ _ _ => True) (fun _ U o U' => ∃ rv rL, o = .returned rv ∧ Q_rm_cp2_2 Z h0 n0 a2 rv U'.heap rL ∧ FrameEnd U o U' rL ({ frames := 2, cells := 1, slots := 2, locals := 55 } : Room).cells ({ frames := 2, cells := 1, slots := 2, locals := 55 } : Room).slots) := by
  refine own_met (y := (⟨"java/util/Arrays", "copyOf", "([Ljava/lang/Object;I)[Ljava/lang/Object;"⟩ : MethodName)) (Q := Q_rm_cp2_2 Z h0 n0 a2) (own := "java/util/Arrays") rfl (plainFor_of_name pn_19) ?_
  intro p e s m below meth c s₁ C e0 X0
  obtain ⟨hx, hby, hml, hown, hnm, hret, hlk, hZ⟩ := C
  have N0 := Fr.nil n0
  rw [ef_19]
  have Kp0 : Keep h0 h0 [] := Keep.refl h0 _
  show own_Goes _ _ _ _ _ _ _ s₁ (mkF m 0 #[.val (.ref a1), .val (.int (2 : Int32))] [])
  refine own_go (fun _ k => XS.aloadN X0.here hx rfl (hb hby d19_0) rfl rfl k) ?_
  show own_Goes _ _ _ _ _ _ _ s₁ (mkF m 1 #[.val (.ref a1), .val (.int (2 : Int32))] [(.ref a1)])
  refine own_go (fun _ k => XS.iloadN X0.here hx rfl (hb hby d19_1) rfl k) ?_
  show own_Goes _ _ _ _ _ _ _ s₁ (mkF m 2 #[.val (.ref a1), .val (.int (2 : Int32))] [(.int (2 : Int32)), (.ref a1)])
  refine own_go (fun _ k => XS.aloadN X0.here hx rfl (hb hby d19_2) rfl rfl k) ?_
  show own_Goes _ _ _ _ _ _ _ s₁ (mkF m 3 #[.val (.ref a1), .val (.int (2 : Int32))] [(.ref a1), (.int (2 : Int32)), (.ref a1)])
  obtain ⟨T1, X1, e1, st1⟩ := gcls X0 hx hZ hown (hw _ (List.mem_of_getElem? (i := 138) rfl)) (hw _ (List.mem_of_getElem? (i := 139) rfl)) (hw _ (List.mem_of_getElem? (i := 115) rfl)) (hw _ (List.mem_of_getElem? (i := 141) rfl)) (hw _ (List.mem_of_getElem? (i := 140) rfl)) (hw _ (List.mem_of_getElem? (i := 142) rfl)) e0 E_b MM (g := (mkF m 3 #[.val (.ref a1), .val (.int (2 : Int32))] [(.ref a1), (.int (2 : Int32)), (.ref a1)])) rfl (by rw [hml]; rfl) rfl (hb hby d19_3) (by decide) (W := 2) (by show 2 * 0 + _ ≤ _; exact Nat.le_of_eq rfl) (by decide)
  refine own_go st1 ?_
  show own_Goes _ _ _ _ _ _ _ T1 (mkF m 6 #[.val (.ref a1), .val (.int (2 : Int32))] [(.ref aM), (.int (2 : Int32)), (.ref a1)])
  obtain ⟨_, _, ⟨T2, L2, k2, n2⟩, -, X2, ⟨Lc2, hQ2, l2, y2, z2⟩, st2⟩ := Jvm.LawKit.callS X1 hx (y := (⟨"java/util/Arrays", "copyOf", "([Ljava/lang/Object;ILjava/lang/Class;)[Ljava/lang/Object;"⟩ : MethodName)) hown (mvT hZ (hw _ (List.mem_of_getElem? (i := 144) rfl))) (mvT hZ (hw _ (List.mem_of_getElem? (i := 145) rfl))) (mvT hZ (hw _ (List.mem_of_getElem? (i := 136) rfl))) (mvT hZ (hw _ (List.mem_of_getElem? (i := 146) rfl))) (by decide) (backOf (W := 0) (rm_cp3_2 l Z a0 hw [] a1 a2 aM kc h0 n0 Z0 V_b E_a2 E_b ne_a1_a2 MM) hZ (hw _ (List.mem_of_getElem? (i := 146) rfl)) (hw _ (List.mem_of_getElem? (i := 136) rfl)) (by decide) (by decide)) (g := (mkF m 6 #[.val (.ref a1), .val (.int (2 : Int32))] [(.ref aM), (.int (2 : Int32)), (.ref a1)])) rfl (by rw [hml]; rfl) (argsL := [(.ref a1), (.int (2 : Int32)), (.ref aM)]) (rest := []) (lenOf pd_5 rfl) rfl (by show 2 * 0 + _ ≤ _; exact Nat.le_of_eq rfl) (hb hby d19_6) (fun _ _ => ⟨rfl, e1, (by decide : 0 + 1 ≤ _), (by decide : 0 + 2 ≤ _)⟩)
  dsimp only [Pt.U, Pt.locs, Pt.cells, Pt.slots] at X2 l2 y2 z2 st2 hQ2
  subst l2 y2 z2
  obtain ⟨bb2, kk2, rfl, N2q, hb2, K2, Va2⟩ := hQ2
  have N2 := Fr.app N0 N2q
  refine own_go st2 ?_
  show own_Goes _ _ _ _ _ _ _ T2 (mkF m 9 #[.val (.ref a1), .val (.int (2 : Int32))] [(.ref bb2)])
  have V_b_2 : Arv Z T2.heap a1 kc (.object "java/lang/Object") (10 : Int32) [(.ref a2), (.ref a2)] .null := V_b.keep K2 nin0
  have E_a2_2 : Exa Z T2.heap a2 "com/example/treellis/treellis/cfa/StructType$Member" := E_a2.keep K2
  have E_b_2 : Exa Z T2.heap a1 "[Ljava/lang/Object;" := E_b.keep K2
  have Zs2 : n0 ≤ T2.heap.size := Nat.le_trans Z0 K2.1
  have Kp2 : Keep h0 T2.heap [] := Kp0.trans K2 all0
  have lo_bb2 : n0 ≤ bb2 := Nat.le_trans Z0 hb2
  have bo_bb2 : h0.size ≤ bb2 := Nat.le_trans Kp0.1 hb2
  have ne_a1_bb2 : a1 ≠ bb2 := Nat.ne_of_lt (Nat.lt_of_lt_of_le V_b.lt hb2)
  have ne_a2_bb2 : a2 ≠ bb2 := Nat.ne_of_lt (Nat.lt_of_lt_of_le E_a2.lt hb2)
  exact own_retA X2 hx hlk hret rfl rfl (hb hby d19_9) (by decide) (by decide) ⟨bb2, _, rfl, N2, bo_bb2, Kp2, Va2⟩
def Q_rm_ta2 (Z : State) (h0 : Heap) (n0 : Nat) (a2 : Addr) (v : Option Value) (h : Heap) (L : List Loc) : Prop := ∃ b kd, v = some (.ref b) ∧ Fr n0 L ∧ h0.size ≤ b ∧ Keep h0 h [] ∧ Arv Z h b kd (.object "java/lang/Object") (2 : Int32) [(.ref a2), (.ref a2)] .null
set_option maxRecDepth 65536 in
set_option maxHeartbeats 40000000 in
theorem rm_ta2 (l : Launch) (Z : State) (a0 : Array Value) (hw : ∀ d ∈ tables_1, d.before a0 Z = true) (ws : List Jvm.Cond) (a1 a2 a3 aM : Addr) (kc : ClassId) (h0 : Heap) (n0 : Nat) (Z0 : n0 ≤ h0.size) (F_sz : Fld Z h0 a1 "java/util/ArrayList" "size" "I" (.int (2 : Int32))) (F_el : Fld Z h0 a1 "java/util/ArrayList" "elementData" "[Ljava/lang/Object;" (.ref a3)) (V_b : Arv Z h0 a3 kc (.object "java/lang/Object") (10 : Int32) [(.ref a2), (.ref a2)] .null) (E_a2 : Exa Z h0 a2 "com/example/treellis/treellis/cfa/StructType$Member") (E_b : Exa Z h0 a3 "[Ljava/lang/Object;") (ne_a3_a2 : a3 ≠ a2) (MM : Mir Z "[Ljava/lang/Object;" aM) :
    MetFree l (⟨"java/util/ArrayList", "toArray", "()[Ljava/lang/Object;"⟩ : MethodName) (head1 (Jvm.Cond.code (⟨"java/util/ArrayList", "toArray", "()[Ljava/lang/Object;"⟩ : MethodName) jdk_38_method_16_code 1 (some (.array (.object "java/lang/Object"))) :: ws) ({ frames := 3, cells := 1, slots := 2, locals := 68 } : Room)) (fun a U => a = #[(.ref a1)] ∧ Z.Warmed39 U.vm ∧ U.heap = h0) (fun _ _ _ _ _ => True) (fun _ U o U' => ∃ rv rL, o = .returned rv ∧ Q_rm_ta2 Z h0 n0 a2 rv U'.heap rL ∧ FrameEnd U o U' rL ({ frames := 3, cells := 1, slots := 2, locals := 68 } : Room).cells ({ frames := 3, cells := 1, slots := 2, locals := 68 } : Room).slots) := by
  refine own_met (y := (⟨"java/util/ArrayList", "toArray", "()[Ljava/lang/Object;"⟩ : MethodName)) (Q := Q_rm_ta2 Z h0 n0 a2) (own := "java/util/ArrayList") rfl (plainFor_of_name pn_18) ?_
  intro p e s m below meth c s₁ C e0 X0
  obtain ⟨hx, hby, hml, hown, hnm, hret, hlk, hZ⟩ := C
  have N0 := Fr.nil n0
  rw [ef_18]
  have Kp0 : Keep h0 h0 [] := Keep.refl h0 _
  show own_Goes _ _ _ _ _ _ _ s₁ (mkF m 0 #[.val (.ref a1)] [])
  refine own_go (fun _ k => XS.aloadN X0.here hx rfl (hb hby d18_0) rfl rfl k) ?_
  show own_Goes _ _ _ _ _ _ _ s₁ (mkF m 1 #[.val (.ref a1)] [(.ref a1)])
  obtain ⟨T1, X1, e1, st1⟩ := getF X0 hx hZ hown (host := "") (Or.inl (hw _ (List.mem_of_getElem? (i := 65) rfl))) Via.refl e0 F_el (g := (mkF m 1 #[.val (.ref a1)] [(.ref a1)])) rfl rfl (hb hby d18_1)
  refine own_go st1 ?_
  show own_Goes _ _ _ _ _ _ _ T1 (mkF m 4 #[.val (.ref a1)] [(.ref a3)])
  refine own_go (fun _ k => XS.aloadN X1.here hx rfl (hb hby d18_4) rfl rfl k) ?_
  show own_Goes _ _ _ _ _ _ _ T1 (mkF m 5 #[.val (.ref a1)] [(.ref a1), (.ref a3)])
  obtain ⟨T2, X2, e2, st2⟩ := getF X1 hx hZ hown (host := "") (Or.inl (hw _ (List.mem_of_getElem? (i := 74) rfl))) Via.refl e1 F_sz (g := (mkF m 5 #[.val (.ref a1)] [(.ref a1), (.ref a3)])) rfl rfl (hb hby d18_5)
  refine own_go st2 ?_
  show own_Goes _ _ _ _ _ _ _ T2 (mkF m 8 #[.val (.ref a1)] [(.int (2 : Int32)), (.ref a3)])
  obtain ⟨_, _, ⟨T3, L3, k3, n3⟩, -, X3, ⟨Lc3, hQ3, l3, y3, z3⟩, st3⟩ := Jvm.LawKit.callS X2 hx (y := (⟨"java/util/Arrays", "copyOf", "([Ljava/lang/Object;I)[Ljava/lang/Object;"⟩ : MethodName)) hown (mvT hZ (hw _ (List.mem_of_getElem? (i := 134) rfl))) (mvT hZ (hw _ (List.mem_of_getElem? (i := 135) rfl))) (mvT hZ (hw _ (List.mem_of_getElem? (i := 136) rfl))) (mvT hZ (hw _ (List.mem_of_getElem? (i := 137) rfl))) (by decide) (backOf (W := 0) (rm_cp2_2 l Z a0 hw [] a3 a2 aM kc h0 n0 Z0 V_b E_a2 E_b ne_a3_a2 MM) hZ (hw _ (List.mem_of_getElem? (i := 137) rfl)) (hw _ (List.mem_of_getElem? (i := 136) rfl)) (by decide) (by decide)) (g := (mkF m 8 #[.val (.ref a1)] [(.int (2 : Int32)), (.ref a3)])) rfl (by rw [hml]; rfl) (argsL := [(.ref a3), (.int (2 : Int32))]) (rest := []) (lenOf pd_6 rfl) rfl (by show 2 * 0 + _ ≤ _; exact Nat.le_of_eq rfl) (hb hby d18_8) (fun _ _ => ⟨rfl, e2, (by decide : 0 + 1 ≤ _), (by decide : 0 + 2 ≤ _)⟩)
  dsimp only [Pt.U, Pt.locs, Pt.cells, Pt.slots] at X3 l3 y3 z3 st3 hQ3
  subst l3 y3 z3
  obtain ⟨bb3, kk3, rfl, N3q, hb3, K3, Va3⟩ := hQ3
  have N3 := Fr.app N0 N3q
  refine own_go st3 ?_
  show own_Goes _ _ _ _ _ _ _ T3 (mkF m 11 #[.val (.ref a1)] [(.ref bb3)])
  have F_sz_3 : Fld Z T3.heap a1 "java/util/ArrayList" "size" "I" (.int (2 : Int32)) := F_sz.keep K3 nin0
  have F_el_3 : Fld Z T3.heap a1 "java/util/ArrayList" "elementData" "[Ljava/lang/Object;" (.ref a3) := F_el.keep K3 nin0
  have V_b_3 : Arv Z T3.heap a3 kc (.object "java/lang/Object") (10 : Int32) [(.ref a2), (.ref a2)] .null := V_b.keep K3 nin0
  have E_a2_3 : Exa Z T3.heap a2 "com/example/treellis/treellis/cfa/StructType$Member" := E_a2.keep K3
  have E_b_3 : Exa Z T3.heap a3 "[Ljava/lang/Object;" := E_b.keep K3
  have Zs3 : n0 ≤ T3.heap.size := Nat.le_trans Z0 K3.1
  have Kp3 : Keep h0 T3.heap [] := Kp0.trans K3 all0
  have lo_bb3 : n0 ≤ bb3 := Nat.le_trans Z0 hb3
  have bo_bb3 : h0.size ≤ bb3 := Nat.le_trans Kp0.1 hb3
  have ne_a1_bb3 : a1 ≠ bb3 := Nat.ne_of_lt (Nat.lt_of_lt_of_le F_sz.lt hb3)
  have ne_a3_bb3 : a3 ≠ bb3 := Nat.ne_of_lt (Nat.lt_of_lt_of_le V_b.lt hb3)
  have ne_a2_bb3 : a2 ≠ bb3 := Nat.ne_of_lt (Nat.lt_of_lt_of_le E_a2.lt hb3)
  exact own_retA X3 hx hlk hret rfl rfl (hb hby d18_11) (by decide) (by decide) ⟨bb3, _, rfl, N3, bo_bb3, Kp3, Va3⟩
def Q_rm_cp3_3 (Z : State) (h0 : Heap) (n0 : Nat) (a2 : Addr) (v : Option Value) (h : Heap) (L : List Loc) : Prop := ∃ b kd, v = some (.ref b) ∧ Fr n0 L ∧ h0.size ≤ b ∧ Keep h0 h [] ∧ Arv Z h b kd (.object "java/lang/Object") (3 : Int32) [(.ref a2), (.ref a2), (.ref a2)] .null
set_option maxRecDepth 65536 in
set_option maxHeartbeats 40000000 in
theorem rm_cp3_3 (l : Launch) (Z : State) (a0 : Array Value) (hw : ∀ d ∈ tables_1, d.before a0 Z = true) (ws : List Jvm.Cond) (a1 a2 aM : Addr) (kc : ClassId) (h0 : Heap) (n0 : Nat) (Z0 : n0 ≤ h0.size) (V_b : Arv Z h0 a1 kc (.object "java/lang/Object") (10 : Int32) [(.ref a2), (.ref a2), (.ref a2)] .null) (E_a2 : Exa Z h0 a2 "com/example/treellis/treellis/cfa/StructType$Member") (E_b : Exa Z h0 a1 "[Ljava/lang/Object;") (ne_a1_a2 : a1 ≠ a2) (MM : Mir Z "[Ljava/lang/Object;" aM) :
    MetFree l (⟨"java/util/Arrays", "copyOf", "([Ljava/lang/Object;ILjava/lang/Class;)[Ljava/lang/Object;"⟩ : MethodName) (head1 (Jvm.Cond.code (⟨"java/util/Arrays", "copyOf", "([Ljava/lang/Object;ILjava/lang/Class;)[Ljava/lang/Object;"⟩ : MethodName) jdk_65_method_120_code 4 (some (.array (.object "java/lang/Object"))) :: ws) ({ frames := 1, cells := 1, slots := 3, locals := 40 } : Room)) (fun a U => a = #[(.ref a1), (.int (3 : Int32)), (.ref aM)] ∧ Z.Warmed39 U.vm ∧ U.heap = h0) (fun _ _ _ _ _ => True) (fun _ U o U' => ∃ rv rL, o = .returned rv ∧ Q_rm_cp3_3 Z h0 n0 a2 rv U'.heap rL ∧ FrameEnd U o U' rL ({ frames := 1, cells := 1, slots := 3, locals := 40 } : Room).cells ({ frames := 1, cells := 1, slots := 3, locals := 40 } : Room).slots) := by
  refine own_met (y := (⟨"java/util/Arrays", "copyOf", "([Ljava/lang/Object;ILjava/lang/Class;)[Ljava/lang/Object;"⟩ : MethodName)) (Q := Q_rm_cp3_3 Z h0 n0 a2) (own := "java/util/Arrays") rfl (plainFor_of_name pn_20) ?_
  intro p e s m below meth c s₁ C e0 X0
  obtain ⟨hx, hby, hml, hown, hnm, hret, hlk, hZ⟩ := C
  have N0 := Fr.nil n0
  rw [ef_20]
  have Kp0 : Keep h0 h0 [] := Keep.refl h0 _
  show own_Goes _ _ _ _ _ _ _ s₁ (mkF m 0 #[.val (.ref a1), .val (.int (3 : Int32)), .val (.ref aM), .unset] [])
  refine own_go (fun _ k => XS.aloadN X0.here hx rfl (hb hby d20_0) rfl rfl k) ?_
  show own_Goes _ _ _ _ _ _ _ s₁ (mkF m 1 #[.val (.ref a1), .val (.int (3 : Int32)), .val (.ref aM), .unset] [(.ref aM)])
  obtain ⟨vm1, X1, st1⟩ := X0.ldcMirror hx hown (mvT hZ (hw _ (List.mem_of_getElem? (i := 147) rfl))) (own_mir hZ MM) (g := (mkF m 1 #[.val (.ref a1), .val (.int (3 : Int32)), .val (.ref aM), .unset] [(.ref aM)])) rfl (hb hby d20_1)
  have e1 : (s₁.setVm vm1).heap = h0 := e0
  generalize s₁.setVm vm1 = T1 at X1 st1 e1
  refine own_go st1 ?_
  show own_Goes _ _ _ _ _ _ _ T1 (mkF m 3 #[.val (.ref a1), .val (.int (3 : Int32)), .val (.ref aM), .unset] [(.ref aM), (.ref aM)])
  refine own_go (fun _ k => Jvm.RoadKit.acmp (g := (mkF m 3 #[.val (.ref a1), .val (.int (3 : Int32)), .val (.ref aM), .unset] [(.ref aM), (.ref aM)])) X1 hx rfl rfl rfl (pc0 := 3) (pc' := 6) (same := true) rfl (hb hby d20_3) rfl (decide_eq_true rfl) (by decide) (by decide) k) ?_
  show own_Goes _ _ _ _ _ _ _ T1 (mkF m 6 #[.val (.ref a1), .val (.int (3 : Int32)), .val (.ref aM), .unset] [])
  refine own_go (fun _ k => XS.iloadN X1.here hx rfl (hb hby d20_6) rfl k) ?_
  show own_Goes _ _ _ _ _ _ _ T1 (mkF m 7 #[.val (.ref a1), .val (.int (3 : Int32)), .val (.ref aM), .unset] [(.int (3 : Int32))])
  obtain ⟨T2, h2, k2, X2, e2, E2, A2, B2, O2, st2⟩ := newRE X1 hx hZ hown (hw _ (List.mem_of_getElem? (i := 148) rfl)) (hw _ (List.mem_of_getElem? (i := 96) rfl)) e1 (g := (mkF m 7 #[.val (.ref a1), .val (.int (3 : Int32)), .val (.ref aM), .unset] [(.int (3 : Int32))])) rfl (hb hby d20_7) rfl (by decide) (cap := 3) (by decide) (by decide) (by decide) (by decide) (ad := "[Ljava/lang/Object;") (by decide)
  obtain ⟨b2, g2⟩ : ∃ z, z = h0.size := ⟨_, rfl⟩
  rw [← g2] at A2 B2 st2
  have lo_b2 : n0 ≤ b2 := Nat.le_trans Z0 (Nat.le_of_eq g2.symm)
  have bo_b2 : h0.size ≤ b2 := Nat.le_trans Kp0.1 (Nat.le_of_eq g2.symm)
  have ne_a1_b2 : a1 ≠ b2 := Nat.ne_of_lt (Nat.lt_of_lt_of_le V_b.lt (Nat.le_of_eq g2.symm))
  have ne_a2_b2 : a2 ≠ b2 := Nat.ne_of_lt (Nat.lt_of_lt_of_le E_a2.lt (Nat.le_of_eq g2.symm))
  have V_b_2 : Arv Z h2 a1 kc (.object "java/lang/Object") (10 : Int32) [(.ref a2), (.ref a2), (.ref a2)] .null := V_b.ext E2
  have E_a2_2 : Exa Z h2 a2 "com/example/treellis/treellis/cfa/StructType$Member" := E_a2.ext E2
  have E_b_2 : Exa Z h2 a1 "[Ljava/lang/Object;" := E_b.ext E2
  have Zs2 : n0 ≤ h2.size := Nat.le_trans Z0 E2.1
  have Kp2 : Keep h0 h2 [] := Kp0.ext E2
  have V2 : Arv Z h2 b2 k2 (.object "java/lang/Object") (3 : Int32) [] .null := Arv.new A2 (by decide)
  refine own_go st2 ?_
  show own_Goes _ _ _ _ _ _ _ T2 (mkF m 10 #[.val (.ref a1), .val (.int (3 : Int32)), .val (.ref aM), .unset] [(.ref b2)])
  refine own_go (fun _ k => XS.goto X2.here hx rfl (pc0 := 10) (pc' := 24) rfl (hb hby d20_10) (by decide) (by decide) k) ?_
  show own_Goes _ _ _ _ _ _ _ T2 (mkF m 24 #[.val (.ref a1), .val (.int (3 : Int32)), .val (.ref aM), .unset] [(.ref b2)])
  refine own_go (fun _ k => XS.astoreN X2.here hx rfl (hb hby d20_24) rfl rfl (l' := #[.val (.ref a1), .val (.int (3 : Int32)), .val (.ref aM), .val (.ref b2)]) rfl k) ?_
  show own_Goes _ _ _ _ _ _ _ T2 (mkF m 25 #[.val (.ref a1), .val (.int (3 : Int32)), .val (.ref aM), .val (.ref b2)] [])
  refine own_go (fun _ k => XS.aloadN X2.here hx rfl (hb hby d20_25) rfl rfl k) ?_
  show own_Goes _ _ _ _ _ _ _ T2 (mkF m 26 #[.val (.ref a1), .val (.int (3 : Int32)), .val (.ref aM), .val (.ref b2)] [(.ref a1)])
  refine own_go (fun _ k => XS.iconst X2.here hx rfl (hb hby d20_26) k) ?_
  show own_Goes _ _ _ _ _ _ _ T2 (mkF m 27 #[.val (.ref a1), .val (.int (3 : Int32)), .val (.ref aM), .val (.ref b2)] [(.int (0 : Int32)), (.ref a1)])
  refine own_go (fun _ k => XS.aloadN X2.here hx rfl (hb hby d20_27) rfl rfl k) ?_
  show own_Goes _ _ _ _ _ _ _ T2 (mkF m 28 #[.val (.ref a1), .val (.int (3 : Int32)), .val (.ref aM), .val (.ref b2)] [(.ref b2), (.int (0 : Int32)), (.ref a1)])
  refine own_go (fun _ k => XS.iconst X2.here hx rfl (hb hby d20_28) k) ?_
  show own_Goes _ _ _ _ _ _ _ T2 (mkF m 29 #[.val (.ref a1), .val (.int (3 : Int32)), .val (.ref aM), .val (.ref b2)] [(.int (0 : Int32)), (.ref b2), (.int (0 : Int32)), (.ref a1)])
  refine own_go (fun _ k => XS.aloadN X2.here hx rfl (hb hby d20_29) rfl rfl k) ?_
  show own_Goes _ _ _ _ _ _ _ T2 (mkF m 30 #[.val (.ref a1), .val (.int (3 : Int32)), .val (.ref aM), .val (.ref b2)] [(.ref a1), (.int (0 : Int32)), (.ref b2), (.int (0 : Int32)), (.ref a1)])
  obtain ⟨c3, A3, q3, S3, M3, H3, G3⟩ := id V_b_2
  refine own_go (fun t k => X2.arraylength hx (by rw [e2]; exact A3.1) (State.isArrayOf_alike hZ.alike A3.2.1) (g := (mkF m 30 #[.val (.ref a1), .val (.int (3 : Int32)), .val (.ref aM), .val (.ref b2)] [(.ref a1), (.int (0 : Int32)), (.ref b2), (.int (0 : Int32)), (.ref a1)])) rfl rfl (hb hby d20_30) t k) ?_
  rw [len_of S3 M3]
  show own_Goes _ _ _ _ _ _ _ T2 (mkF m 31 #[.val (.ref a1), .val (.int (3 : Int32)), .val (.ref aM), .val (.ref b2)] [(.int (10 : Int32)), (.int (0 : Int32)), (.ref b2), (.int (0 : Int32)), (.ref a1)])
  refine own_go (fun _ k => XS.iloadN X2.here hx rfl (hb hby d20_31) rfl k) ?_
  show own_Goes _ _ _ _ _ _ _ T2 (mkF m 32 #[.val (.ref a1), .val (.int (3 : Int32)), .val (.ref aM), .val (.ref b2)] [(.int (3 : Int32)), (.int (10 : Int32)), (.int (0 : Int32)), (.ref b2), (.int (0 : Int32)), (.ref a1)])
  obtain ⟨_, _, ⟨T4, L4, k4, n4⟩, -, X4, ⟨Lc4, hQ4, l4, y4, z4⟩, st4⟩ := Jvm.LawKit.callS X2 hx (y := (⟨"java/lang/Math", "min", "(II)I"⟩ : MethodName)) hown (mvT hZ (hw _ (List.mem_of_getElem? (i := 149) rfl))) (mvT hZ (hw _ (List.mem_of_getElem? (i := 150) rfl))) (mvT hZ (hw _ (List.mem_of_getElem? (i := 93) rfl))) (mvT hZ (hw _ (List.mem_of_getElem? (i := 151) rfl))) (by decide) (backOf (W := 4) (rm_min3 l Z a0 hw [] h2 n0 Zs2) hZ (hw _ (List.mem_of_getElem? (i := 151) rfl)) (hw _ (List.mem_of_getElem? (i := 93) rfl)) (by decide) (by decide)) (g := (mkF m 32 #[.val (.ref a1), .val (.int (3 : Int32)), .val (.ref aM), .val (.ref b2)] [(.int (3 : Int32)), (.int (10 : Int32)), (.int (0 : Int32)), (.ref b2), (.int (0 : Int32)), (.ref a1)])) rfl (by rw [hml]; rfl) (argsL := [(.int (10 : Int32)), (.int (3 : Int32))]) (rest := [(.int (0 : Int32)), (.ref b2), (.int (0 : Int32)), (.ref a1)]) (lenOf pd_1 rfl) rfl (by show 2 * 0 + _ ≤ _; exact Nat.le_of_eq rfl) (hb hby d20_32) (fun _ _ => ⟨rfl, e2, (by decide : 0 + 1 + 0 ≤ _), (by decide : 0 + 3 + 0 ≤ _)⟩)
  dsimp only [Pt.U, Pt.locs, Pt.cells, Pt.slots] at X4 l4 y4 z4 st4 hQ4
  subst l4 y4 z4
  obtain ⟨rfl, N4q, e4⟩ := hQ4
  have N4 := Fr.app N0 N4q
  refine own_go st4 ?_
  show own_Goes _ _ _ _ _ _ _ T4 (mkF m 35 #[.val (.ref a1), .val (.int (3 : Int32)), .val (.ref aM), .val (.ref b2)] [(.int (3 : Int32)), (.int (0 : Int32)), (.ref b2), (.int (0 : Int32)), (.ref a1)])
  have P5 : Arv Z h2 b2 k2 (.object "java/lang/Object") (3 : Int32) [.null, .null, .null] .null := V2.pad (pad_rep [] .null 3)
  have I5 : Sto Z h2 b2 (.ref a2) := by
    obtain ⟨c, A, q, -⟩ := id V2
    exact Sto.ofV A q O2 (Ins.of_exa E_a2_2 (hw _ (List.mem_of_getElem? (i := 97) rfl)))
  obtain ⟨T5, h5, L5, X5, e5, N5, K5, V5, st5⟩ := cpA X4 hx hZ hown (hw _ (List.mem_of_getElem? (i := 152) rfl)) (hw _ (List.mem_of_getElem? (i := 155) rfl)) (hw _ (List.mem_of_getElem? (i := 153) rfl)) (hw _ (List.mem_of_getElem? (i := 154) rfl)) e4 V_b_2 P5 (us := [(.ref a2), (.ref a2), (.ref a2)]) (Or.inr ⟨rfl, rfl, ⟨I5, I5, I5, trivial⟩⟩) (sp := 0) (dp := 0) (nn := (3 : Int32)) (by decide) (by decide) (by decide) (by decide) (by decide) rfl (by decide) N4 lo_b2 (g := (mkF m 35 #[.val (.ref a1), .val (.int (3 : Int32)), .val (.ref aM), .val (.ref b2)] [(.int (3 : Int32)), (.int (0 : Int32)), (.ref b2), (.int (0 : Int32)), (.ref a1)])) rfl (by rw [hml]; rfl) rfl (hb hby d20_35) (by decide) (W := 0) (by show 2 * 0 + _ ≤ _; exact Nat.le_of_eq rfl) (by decide)
  have V_b_5 : Arv Z h5 a1 kc (.object "java/lang/Object") (10 : Int32) [(.ref a2), (.ref a2), (.ref a2)] .null := V_b_2.keep K5 (ninS ne_a1_b2 nin0)
  have E_a2_5 : Exa Z h5 a2 "com/example/treellis/treellis/cfa/StructType$Member" := E_a2_2.keep K5
  have E_b_5 : Exa Z h5 a1 "[Ljava/lang/Object;" := E_b_2.keep K5
  have E_b2_5 : Exa Z h5 b2 "[Ljava/lang/Object;" := B2.keep K5
  have Zs5 : n0 ≤ h5.size := Nat.le_trans Zs2 K5.1
  have Kp5 : Keep h0 h5 [] := Kp2.trans K5 (allS (Or.inr bo_b2) all0)
  refine own_go st5 ?_
  show own_Goes _ _ _ _ _ _ _ T5 (mkF m 38 #[.val (.ref a1), .val (.int (3 : Int32)), .val (.ref aM), .val (.ref b2)] [])
  refine own_go (fun _ k => XS.aloadN X5.here hx rfl (hb hby d20_38) rfl rfl k) ?_
  show own_Goes _ _ _ _ _ _ _ T5 (mkF m 39 #[.val (.ref a1), .val (.int (3 : Int32)), .val (.ref aM), .val (.ref b2)] [(.ref b2)])
  exact own_retA X5 hx hlk hret rfl rfl (hb hby d20_39) (by decide) (by decide) (by rw [e5]; exact ⟨b2, _, rfl, N5, bo_b2, Kp5, V5⟩)
def Q_rm_cp2_3 (Z : State) (h0 : Heap) (n0 : Nat) (a2 : Addr) (v : Option Value) (h : Heap) (L : List Loc) : Prop := ∃ b kd, v = some (.ref b) ∧ Fr n0 L ∧ h0.size ≤ b ∧ Keep h0 h [] ∧ Arv Z h b kd (.object "java/lang/Object") (3 : Int32) [(.ref a2), (.ref a2), (.ref a2)] .null
set_option maxRecDepth 65536 in
set_option maxHeartbeats 40000000 in
theorem rm_cp2_3 (l : Launch) (Z : State) (a0 : Array Value) (hw : ∀ d ∈ tables_1, d.before a0 Z = true) (ws : List Jvm.Cond) (a1 a2 aM : Addr) (kc : ClassId) (h0 : Heap) (n0 : Nat) (Z0 : n0 ≤ h0.size) (V_b : Arv Z h0 a1 kc (.object "java/lang/Object") (10 : Int32) [(.ref a2), (.ref a2), (.ref a2)] .null) (E_a2 : Exa Z h0 a2 "com/example/treellis/treellis/cfa/StructType$Member") (E_b : Exa Z h0 a1 "[Ljava/lang/Object;") (ne_a1_a2 : a1 ≠ a2) (MM : Mir Z "[Ljava/lang/Object;" aM) :
    MetFree l (⟨"java/util/Arrays", "copyOf", "([Ljava/lang/Object;I)[Ljava/lang/Object;"⟩ : MethodName) (head1 (Jvm.Cond.code (⟨"java/util/Arrays", "copyOf", "([Ljava/lang/Object;I)[Ljava/lang/Object;"⟩ : MethodName) jdk_65_method_119_code 2 (some (.array (.object "java/lang/Object"))) :: ws) ({ frames := 2, cells := 1, slots := 3, locals := 55 } : Room)) (fun a U => a = #[(.ref a1), (.int (3 : Int32))] ∧ Z.Warmed39 U.vm ∧ U.heap = h0) (fun _ _ _ _ _ => True) (fun _ U o U' => ∃ rv rL, o = .returned rv ∧ Q_rm_cp2_3 Z h0 n0 a2 rv U'.heap rL ∧ FrameEnd U o U' rL ({ frames := 2, cells := 1, slots := 3, locals := 55 } : Room).cells ({ frames := 2, cells := 1, slots := 3, locals := 55 } : Room).slots) := by
  refine own_met (y := (⟨"java/util/Arrays", "copyOf", "([Ljava/lang/Object;I)[Ljava/lang/Object;"⟩ : MethodName)) (Q := Q_rm_cp2_3 Z h0 n0 a2) (own := "java/util/Arrays") rfl (plainFor_of_name pn_19) ?_
  intro p e s m below meth c s₁ C e0 X0
  obtain ⟨hx, hby, hml, hown, hnm, hret, hlk, hZ⟩ := C
  have N0 := Fr.nil n0
  rw [ef_19]
  have Kp0 : Keep h0 h0 [] := Keep.refl h0 _
  show own_Goes _ _ _ _ _ _ _ s₁ (mkF m 0 #[.val (.ref a1), .val (.int (3 : Int32))] [])
  refine own_go (fun _ k => XS.aloadN X0.here hx rfl (hb hby d19_0) rfl rfl k) ?_
  show own_Goes _ _ _ _ _ _ _ s₁ (mkF m 1 #[.val (.ref a1), .val (.int (3 : Int32))] [(.ref a1)])
  refine own_go (fun _ k => XS.iloadN X0.here hx rfl (hb hby d19_1) rfl k) ?_
  show own_Goes _ _ _ _ _ _ _ s₁ (mkF m 2 #[.val (.ref a1), .val (.int (3 : Int32))] [(.int (3 : Int32)), (.ref a1)])
  refine own_go (fun _ k => XS.aloadN X0.here hx rfl (hb hby d19_2) rfl rfl k) ?_
  show own_Goes _ _ _ _ _ _ _ s₁ (mkF m 3 #[.val (.ref a1), .val (.int (3 : Int32))] [(.ref a1), (.int (3 : Int32)), (.ref a1)])
  obtain ⟨T1, X1, e1, st1⟩ := gcls X0 hx hZ hown (hw _ (List.mem_of_getElem? (i := 138) rfl)) (hw _ (List.mem_of_getElem? (i := 139) rfl)) (hw _ (List.mem_of_getElem? (i := 115) rfl)) (hw _ (List.mem_of_getElem? (i := 141) rfl)) (hw _ (List.mem_of_getElem? (i := 140) rfl)) (hw _ (List.mem_of_getElem? (i := 142) rfl)) e0 E_b MM (g := (mkF m 3 #[.val (.ref a1), .val (.int (3 : Int32))] [(.ref a1), (.int (3 : Int32)), (.ref a1)])) rfl (by rw [hml]; rfl) rfl (hb hby d19_3) (by decide) (W := 2) (by show 2 * 0 + _ ≤ _; exact Nat.le_of_eq rfl) (by decide)
  refine own_go st1 ?_
  show own_Goes _ _ _ _ _ _ _ T1 (mkF m 6 #[.val (.ref a1), .val (.int (3 : Int32))] [(.ref aM), (.int (3 : Int32)), (.ref a1)])
  obtain ⟨_, _, ⟨T2, L2, k2, n2⟩, -, X2, ⟨Lc2, hQ2, l2, y2, z2⟩, st2⟩ := Jvm.LawKit.callS X1 hx (y := (⟨"java/util/Arrays", "copyOf", "([Ljava/lang/Object;ILjava/lang/Class;)[Ljava/lang/Object;"⟩ : MethodName)) hown (mvT hZ (hw _ (List.mem_of_getElem? (i := 144) rfl))) (mvT hZ (hw _ (List.mem_of_getElem? (i := 145) rfl))) (mvT hZ (hw _ (List.mem_of_getElem? (i := 136) rfl))) (mvT hZ (hw _ (List.mem_of_getElem? (i := 146) rfl))) (by decide) (backOf (W := 0) (rm_cp3_3 l Z a0 hw [] a1 a2 aM kc h0 n0 Z0 V_b E_a2 E_b ne_a1_a2 MM) hZ (hw _ (List.mem_of_getElem? (i := 146) rfl)) (hw _ (List.mem_of_getElem? (i := 136) rfl)) (by decide) (by decide)) (g := (mkF m 6 #[.val (.ref a1), .val (.int (3 : Int32))] [(.ref aM), (.int (3 : Int32)), (.ref a1)])) rfl (by rw [hml]; rfl) (argsL := [(.ref a1), (.int (3 : Int32)), (.ref aM)]) (rest := []) (lenOf pd_5 rfl) rfl (by show 2 * 0 + _ ≤ _; exact Nat.le_of_eq rfl) (hb hby d19_6) (fun _ _ => ⟨rfl, e1, (by decide : 0 + 1 ≤ _), (by decide : 0 + 3 ≤ _)⟩)
  dsimp only [Pt.U, Pt.locs, Pt.cells, Pt.slots] at X2 l2 y2 z2 st2 hQ2
  subst l2 y2 z2
  obtain ⟨bb2, kk2, rfl, N2q, hb2, K2, Va2⟩ := hQ2
  have N2 := Fr.app N0 N2q
  refine own_go st2 ?_
  show own_Goes _ _ _ _ _ _ _ T2 (mkF m 9 #[.val (.ref a1), .val (.int (3 : Int32))] [(.ref bb2)])
  have V_b_2 : Arv Z T2.heap a1 kc (.object "java/lang/Object") (10 : Int32) [(.ref a2), (.ref a2), (.ref a2)] .null := V_b.keep K2 nin0
  have E_a2_2 : Exa Z T2.heap a2 "com/example/treellis/treellis/cfa/StructType$Member" := E_a2.keep K2
  have E_b_2 : Exa Z T2.heap a1 "[Ljava/lang/Object;" := E_b.keep K2
  have Zs2 : n0 ≤ T2.heap.size := Nat.le_trans Z0 K2.1
  have Kp2 : Keep h0 T2.heap [] := Kp0.trans K2 all0
  have lo_bb2 : n0 ≤ bb2 := Nat.le_trans Z0 hb2
  have bo_bb2 : h0.size ≤ bb2 := Nat.le_trans Kp0.1 hb2
  have ne_a1_bb2 : a1 ≠ bb2 := Nat.ne_of_lt (Nat.lt_of_lt_of_le V_b.lt hb2)
  have ne_a2_bb2 : a2 ≠ bb2 := Nat.ne_of_lt (Nat.lt_of_lt_of_le E_a2.lt hb2)
  exact own_retA X2 hx hlk hret rfl rfl (hb hby d19_9) (by decide) (by decide) ⟨bb2, _, rfl, N2, bo_bb2, Kp2, Va2⟩
def Q_rm_ta3 (Z : State) (h0 : Heap) (n0 : Nat) (a2 : Addr) (v : Option Value) (h : Heap) (L : List Loc) : Prop := ∃ b kd, v = some (.ref b) ∧ Fr n0 L ∧ h0.size ≤ b ∧ Keep h0 h [] ∧ Arv Z h b kd (.object "java/lang/Object") (3 : Int32) [(.ref a2), (.ref a2), (.ref a2)] .null
set_option maxRecDepth 65536 in
set_option maxHeartbeats 40000000 in
theorem rm_ta3 (l : Launch) (Z : State) (a0 : Array Value) (hw : ∀ d ∈ tables_1, d.before a0 Z = true) (ws : List Jvm.Cond) (a1 a2 a3 aM : Addr) (kc : ClassId) (h0 : Heap) (n0 : Nat) (Z0 : n0 ≤ h0.size) (F_sz : Fld Z h0 a1 "java/util/ArrayList" "size" "I" (.int (3 : Int32))) (F_el : Fld Z h0 a1 "java/util/ArrayList" "elementData" "[Ljava/lang/Object;" (.ref a3)) (V_b : Arv Z h0 a3 kc (.object "java/lang/Object") (10 : Int32) [(.ref a2), (.ref a2), (.ref a2)] .null) (E_a2 : Exa Z h0 a2 "com/example/treellis/treellis/cfa/StructType$Member") (E_b : Exa Z h0 a3 "[Ljava/lang/Object;") (ne_a3_a2 : a3 ≠ a2) (MM : Mir Z "[Ljava/lang/Object;" aM) :
    MetFree l (⟨"java/util/ArrayList", "toArray", "()[Ljava/lang/Object;"⟩ : MethodName) (head1 (Jvm.Cond.code (⟨"java/util/ArrayList", "toArray", "()[Ljava/lang/Object;"⟩ : MethodName) jdk_38_method_16_code 1 (some (.array (.object "java/lang/Object"))) :: ws) ({ frames := 3, cells := 1, slots := 3, locals := 68 } : Room)) (fun a U => a = #[(.ref a1)] ∧ Z.Warmed39 U.vm ∧ U.heap = h0) (fun _ _ _ _ _ => True) (fun _ U o U' => ∃ rv rL, o = .returned rv ∧ Q_rm_ta3 Z h0 n0 a2 rv U'.heap rL ∧ FrameEnd U o U' rL ({ frames := 3, cells := 1, slots := 3, locals := 68 } : Room).cells ({ frames := 3, cells := 1, slots := 3, locals := 68 } : Room).slots) := by
  refine own_met (y := (⟨"java/util/ArrayList", "toArray", "()[Ljava/lang/Object;"⟩ : MethodName)) (Q := Q_rm_ta3 Z h0 n0 a2) (own := "java/util/ArrayList") rfl (plainFor_of_name pn_18) ?_
  intro p e s m below meth c s₁ C e0 X0
  obtain ⟨hx, hby, hml, hown, hnm, hret, hlk, hZ⟩ := C
  have N0 := Fr.nil n0
  rw [ef_18]
  have Kp0 : Keep h0 h0 [] := Keep.refl h0 _
  show own_Goes _ _ _ _ _ _ _ s₁ (mkF m 0 #[.val (.ref a1)] [])
  refine own_go (fun _ k => XS.aloadN X0.here hx rfl (hb hby d18_0) rfl rfl k) ?_
  show own_Goes _ _ _ _ _ _ _ s₁ (mkF m 1 #[.val (.ref a1)] [(.ref a1)])
  obtain ⟨T1, X1, e1, st1⟩ := getF X0 hx hZ hown (host := "") (Or.inl (hw _ (List.mem_of_getElem? (i := 65) rfl))) Via.refl e0 F_el (g := (mkF m 1 #[.val (.ref a1)] [(.ref a1)])) rfl rfl (hb hby d18_1)
  refine own_go st1 ?_
  show own_Goes _ _ _ _ _ _ _ T1 (mkF m 4 #[.val (.ref a1)] [(.ref a3)])
  refine own_go (fun _ k => XS.aloadN X1.here hx rfl (hb hby d18_4) rfl rfl k) ?_
  show own_Goes _ _ _ _ _ _ _ T1 (mkF m 5 #[.val (.ref a1)] [(.ref a1), (.ref a3)])
  obtain ⟨T2, X2, e2, st2⟩ := getF X1 hx hZ hown (host := "") (Or.inl (hw _ (List.mem_of_getElem? (i := 74) rfl))) Via.refl e1 F_sz (g := (mkF m 5 #[.val (.ref a1)] [(.ref a1), (.ref a3)])) rfl rfl (hb hby d18_5)
  refine own_go st2 ?_
  show own_Goes _ _ _ _ _ _ _ T2 (mkF m 8 #[.val (.ref a1)] [(.int (3 : Int32)), (.ref a3)])
  obtain ⟨_, _, ⟨T3, L3, k3, n3⟩, -, X3, ⟨Lc3, hQ3, l3, y3, z3⟩, st3⟩ := Jvm.LawKit.callS X2 hx (y := (⟨"java/util/Arrays", "copyOf", "([Ljava/lang/Object;I)[Ljava/lang/Object;"⟩ : MethodName)) hown (mvT hZ (hw _ (List.mem_of_getElem? (i := 134) rfl))) (mvT hZ (hw _ (List.mem_of_getElem? (i := 135) rfl))) (mvT hZ (hw _ (List.mem_of_getElem? (i := 136) rfl))) (mvT hZ (hw _ (List.mem_of_getElem? (i := 137) rfl))) (by decide) (backOf (W := 0) (rm_cp2_3 l Z a0 hw [] a3 a2 aM kc h0 n0 Z0 V_b E_a2 E_b ne_a3_a2 MM) hZ (hw _ (List.mem_of_getElem? (i := 137) rfl)) (hw _ (List.mem_of_getElem? (i := 136) rfl)) (by decide) (by decide)) (g := (mkF m 8 #[.val (.ref a1)] [(.int (3 : Int32)), (.ref a3)])) rfl (by rw [hml]; rfl) (argsL := [(.ref a3), (.int (3 : Int32))]) (rest := []) (lenOf pd_6 rfl) rfl (by show 2 * 0 + _ ≤ _; exact Nat.le_of_eq rfl) (hb hby d18_8) (fun _ _ => ⟨rfl, e2, (by decide : 0 + 1 ≤ _), (by decide : 0 + 3 ≤ _)⟩)
  dsimp only [Pt.U, Pt.locs, Pt.cells, Pt.slots] at X3 l3 y3 z3 st3 hQ3
  subst l3 y3 z3
  obtain ⟨bb3, kk3, rfl, N3q, hb3, K3, Va3⟩ := hQ3
  have N3 := Fr.app N0 N3q
  refine own_go st3 ?_
  show own_Goes _ _ _ _ _ _ _ T3 (mkF m 11 #[.val (.ref a1)] [(.ref bb3)])
  have F_sz_3 : Fld Z T3.heap a1 "java/util/ArrayList" "size" "I" (.int (3 : Int32)) := F_sz.keep K3 nin0
  have F_el_3 : Fld Z T3.heap a1 "java/util/ArrayList" "elementData" "[Ljava/lang/Object;" (.ref a3) := F_el.keep K3 nin0
  have V_b_3 : Arv Z T3.heap a3 kc (.object "java/lang/Object") (10 : Int32) [(.ref a2), (.ref a2), (.ref a2)] .null := V_b.keep K3 nin0
  have E_a2_3 : Exa Z T3.heap a2 "com/example/treellis/treellis/cfa/StructType$Member" := E_a2.keep K3
  have E_b_3 : Exa Z T3.heap a3 "[Ljava/lang/Object;" := E_b.keep K3
  have Zs3 : n0 ≤ T3.heap.size := Nat.le_trans Z0 K3.1
  have Kp3 : Keep h0 T3.heap [] := Kp0.trans K3 all0
  have lo_bb3 : n0 ≤ bb3 := Nat.le_trans Z0 hb3
  have bo_bb3 : h0.size ≤ bb3 := Nat.le_trans Kp0.1 hb3
  have ne_a1_bb3 : a1 ≠ bb3 := Nat.ne_of_lt (Nat.lt_of_lt_of_le F_sz.lt hb3)
  have ne_a3_bb3 : a3 ≠ bb3 := Nat.ne_of_lt (Nat.lt_of_lt_of_le V_b.lt hb3)
  have ne_a2_bb3 : a2 ≠ bb3 := Nat.ne_of_lt (Nat.lt_of_lt_of_le E_a2.lt hb3)
  exact own_retA X3 hx hlk hret rfl rfl (hb hby d18_11) (by decide) (by decide) ⟨bb3, _, rfl, N3, bo_bb3, Kp3, Va3⟩
def Q_rm_l1 (Z : State) (h0 : Heap) (n0 : Nat) (a1 aE : Addr) (v : Option Value) (h : Heap) (L : List Loc) : Prop := v = none ∧ Fr n0 L ∧ Keep h0 h [a1] ∧ Fld Z h a1 "java/util/ImmutableCollections$List12" "e1" "Ljava/lang/Object;" (.ref aE)
set_option maxRecDepth 65536 in
set_option maxHeartbeats 40000000 in
theorem rm_l1 (l : Launch) (Z : State) (a0 : Array Value) (hw : ∀ d ∈ tables_1, d.before a0 Z = true) (ws : List Jvm.Cond) (a1 a2 aE : Addr) (h0 : Heap) (n0 : Nat) (Z0 : n0 ≤ h0.size) (E_a1 : Exa Z h0 a1 "java/util/ImmutableCollections$List12") (F_e0 : Fld Z h0 a1 "java/util/ImmutableCollections$List12" "e0" "Ljava/lang/Object;" .null) (F_e1 : Fld Z h0 a1 "java/util/ImmutableCollections$List12" "e1" "Ljava/lang/Object;" .null) (lo_a1 : n0 ≤ a1) (SE : Sta Z Z.heap "java/util/ImmutableCollections" "EMPTY" "Ljava/lang/Object;" (.ref aE)) (Od0 : Old Z n0 h0) :
    MetFree l (⟨"java/util/ImmutableCollections$List12", "<init>", "(Ljava/lang/Object;)V"⟩ : MethodName) (head1 (Jvm.Cond.code (⟨"java/util/ImmutableCollections$List12", "<init>", "(Ljava/lang/Object;)V"⟩ : MethodName) jdk_44_method_1_code 2 none :: ws) ({ frames := 4, cells := 0, slots := 0, locals := 48 } : Room)) (fun a U => a = #[(.ref a1), (.ref a2)] ∧ Z.Warmed39 U.vm ∧ U.heap = h0) (fun _ _ _ _ _ => True) (fun _ U o U' => ∃ rv rL, o = .returned rv ∧ Q_rm_l1 Z h0 n0 a1 aE rv U'.heap rL ∧ FrameEnd U o U' rL ({ frames := 4, cells := 0, slots := 0, locals := 48 } : Room).cells ({ frames := 4, cells := 0, slots := 0, locals := 48 } : Room).slots) := by
  refine own_met (y := (⟨"java/util/ImmutableCollections$List12", "<init>", "(Ljava/lang/Object;)V"⟩ : MethodName)) (Q := Q_rm_l1 Z h0 n0 a1 aE) (own := "java/util/ImmutableCollections$List12") rfl (plainFor_of_name pn_34) ?_
  intro p e s m below meth c s₁ C e0 X0
  obtain ⟨hx, hby, hml, hown, hnm, hret, hlk, hZ⟩ := C
  have N0 := Fr.nil n0
  rw [ef_34]
  have Kp0 : Keep h0 h0 [a1] := Keep.refl h0 _
  show own_Goes _ _ _ _ _ _ _ s₁ (mkF m 0 #[.val (.ref a1), .val (.ref a2)] [])
  refine own_go (fun _ k => XS.aloadN X0.here hx rfl (hb hby d34_0) rfl rfl k) ?_
  show own_Goes _ _ _ _ _ _ _ s₁ (mkF m 1 #[.val (.ref a1), .val (.ref a2)] [(.ref a1)])
  obtain ⟨_, _, ⟨T1, L1, k1, n1⟩, -, X1, ⟨Lc1, hQ1, l1, y1, z1⟩, st1⟩ := X0.specialBack hx (y := (⟨"java/util/ImmutableCollections$AbstractImmutableList", "<init>", "()V"⟩ : MethodName)) rfl hown (mvT hZ (hw _ (List.mem_of_getElem? (i := 166) rfl))) (mvT hZ (hw _ (List.mem_of_getElem? (i := 167) rfl))) (mvT hZ (hw _ (List.mem_of_getElem? (i := 171) rfl))) (by decide) (backOf (W := 0) (rm_ail l Z a0 hw [] a1 h0 n0 Z0) hZ (hw _ (List.mem_of_getElem? (i := 171) rfl)) (hw _ (List.mem_of_getElem? (i := 170) rfl)) (by decide) (by decide)) (g := (mkF m 1 #[.val (.ref a1), .val (.ref a2)] [(.ref a1)])) rfl (by rw [hml]; rfl) (Steps.refl _) (a := a1) (argsL := []) (rest := []) (lenOf pd_0 rfl) rfl (by show 2 * 0 + _ ≤ _; exact Nat.le_of_eq rfl) (hb hby d34_1) (fun _ _ => ⟨rfl, e0, (by decide : 0 + 0 ≤ _), (by decide : 0 + 0 ≤ _)⟩)
  dsimp only [Pt.U, Pt.locs, Pt.cells, Pt.slots] at X1 l1 y1 z1 st1 hQ1
  subst l1 y1 z1
  obtain ⟨rfl, N1q, e1⟩ := hQ1
  have N1 := Fr.app N0 N1q
  refine own_goS st1 ?_
  show own_Goes _ _ _ _ _ _ _ T1 (mkF m 4 #[.val (.ref a1), .val (.ref a2)] [])
  refine own_go (fun _ k => XS.aloadN X1.here hx rfl (hb hby d34_4) rfl rfl k) ?_
  show own_Goes _ _ _ _ _ _ _ T1 (mkF m 5 #[.val (.ref a1), .val (.ref a2)] [(.ref a1)])
  refine own_go (fun _ k => XS.aloadN X1.here hx rfl (hb hby d34_5) rfl rfl k) ?_
  show own_Goes _ _ _ _ _ _ _ T1 (mkF m 6 #[.val (.ref a1), .val (.ref a2)] [(.ref a2), (.ref a1)])
  obtain ⟨_, _, ⟨T2, L2, k2, n2⟩, -, X2, ⟨Lc2, hQ2, l2, y2, z2⟩, st2⟩ := Jvm.LawKit.callS X1 hx (y := (⟨"java/util/Objects", "requireNonNull", "(Ljava/lang/Object;)Ljava/lang/Object;"⟩ : MethodName)) hown (mvT hZ (hw _ (List.mem_of_getElem? (i := 180) rfl))) (mvT hZ (hw _ (List.mem_of_getElem? (i := 181) rfl))) (mvT hZ (hw _ (List.mem_of_getElem? (i := 182) rfl))) (mvT hZ (hw _ (List.mem_of_getElem? (i := 183) rfl))) (by decide) (backOf (W := 1) (rm_rnn l Z a0 hw [] a2 h0 n0 Z0) hZ (hw _ (List.mem_of_getElem? (i := 183) rfl)) (hw _ (List.mem_of_getElem? (i := 182) rfl)) (by decide) (by decide)) (g := (mkF m 6 #[.val (.ref a1), .val (.ref a2)] [(.ref a2), (.ref a1)])) rfl (by rw [hml]; rfl) (argsL := [(.ref a2)]) (rest := [(.ref a1)]) (lenOf pd_7 rfl) rfl (by show 2 * 0 + _ ≤ _; exact Nat.le_of_eq rfl) (hb hby d34_6) (fun _ _ => ⟨rfl, e1, (by decide : 0 + 0 + 0 ≤ _), (by decide : 0 + 0 + 0 ≤ _)⟩)
  dsimp only [Pt.U, Pt.locs, Pt.cells, Pt.slots] at X2 l2 y2 z2 st2 hQ2
  subst l2 y2 z2
  obtain ⟨rfl, N2q, e2⟩ := hQ2
  have N2 := Fr.app N1 N2q
  refine own_go st2 ?_
  show own_Goes _ _ _ _ _ _ _ T2 (mkF m 9 #[.val (.ref a1), .val (.ref a2)] [(.ref a2), (.ref a1)])
  obtain ⟨T3, h3, X3, e3, W3, st3⟩ := putF X2 hx hZ hown (host := "") (Or.inl (hw _ (List.mem_of_getElem? (i := 184) rfl))) Via.refl e2 F_e0 E_a1 (Or.inr ⟨(hw _ (List.mem_of_getElem? (i := 185) rfl)), rfl, hnm⟩) (hw _ (List.mem_of_getElem? (i := 160) rfl)) (ty := (.object "java/lang/Object")) (by decide) rfl rfl (g := (mkF m 9 #[.val (.ref a1), .val (.ref a2)] [(.ref a2), (.ref a1)])) rfl rfl (hb hby d34_9)
  have F_e0_3 : Fld Z h3 a1 "java/util/ImmutableCollections$List12" "e0" "Ljava/lang/Object;" (.ref a2) := F_e0.same W3
  have N3 := Fr.snoc X3 N2 lo_a1
  have E_a1_3 : Exa Z h3 a1 "java/util/ImmutableCollections$List12" := E_a1.wr W3
  have F_e1_3 : Fld Z h3 a1 "java/util/ImmutableCollections$List12" "e1" "Ljava/lang/Object;" .null := F_e1.other W3 (Or.inr (slot_ne (Or.inr (hw _ (List.mem_of_getElem? (i := 187) rfl))) (Or.inr (hw _ (List.mem_of_getElem? (i := 185) rfl))) (by decide) (t := (.object "java/lang/Object")) (t' := (.object "java/lang/Object")) (by decide) (by decide)))
  have Zs3 : n0 ≤ h3.size := Nat.le_trans Z0 (Keep.of_wr W3).1
  have Kp3 : Keep h0 h3 [a1] := Kp0.wr W3 (Or.inl (by simp))
  have Od3 : Old Z n0 h3 := Od0.wr W3 lo_a1
  refine own_go st3 ?_
  show own_Goes _ _ _ _ _ _ _ T3 (mkF m 12 #[.val (.ref a1), .val (.ref a2)] [])
  refine own_go (fun _ k => XS.aloadN X3.here hx rfl (hb hby d34_12) rfl rfl k) ?_
  show own_Goes _ _ _ _ _ _ _ T3 (mkF m 13 #[.val (.ref a1), .val (.ref a2)] [(.ref a1)])
  obtain ⟨T4, X4, e4, st4⟩ := getS2 X3 hx hZ hown (Or.inr (hw _ (List.mem_of_getElem? (i := 201) rfl))) Via.refl e3 (SE.ext Od3.2) (g := (mkF m 13 #[.val (.ref a1), .val (.ref a2)] [(.ref a1)])) rfl (hb hby d34_13)
  refine own_go st4 ?_
  show own_Goes _ _ _ _ _ _ _ T4 (mkF m 16 #[.val (.ref a1), .val (.ref a2)] [(.ref aE), (.ref a1)])
  obtain ⟨T5, h5, X5, e5, W5, st5⟩ := putF X4 hx hZ hown (host := "") (Or.inl (hw _ (List.mem_of_getElem? (i := 186) rfl))) Via.refl e4 F_e1_3 E_a1_3 (Or.inr ⟨(hw _ (List.mem_of_getElem? (i := 187) rfl)), rfl, hnm⟩) (hw _ (List.mem_of_getElem? (i := 160) rfl)) (ty := (.object "java/lang/Object")) (by decide) rfl rfl (g := (mkF m 16 #[.val (.ref a1), .val (.ref a2)] [(.ref aE), (.ref a1)])) rfl rfl (hb hby d34_16)
  have F_e1_5 : Fld Z h5 a1 "java/util/ImmutableCollections$List12" "e1" "Ljava/lang/Object;" (.ref aE) := F_e1_3.same W5
  have N5 := Fr.snoc X5 N3 lo_a1
  have E_a1_5 : Exa Z h5 a1 "java/util/ImmutableCollections$List12" := E_a1_3.wr W5
  have F_e0_5 : Fld Z h5 a1 "java/util/ImmutableCollections$List12" "e0" "Ljava/lang/Object;" (.ref a2) := F_e0_3.other W5 (Or.inr (slot_ne (Or.inr (hw _ (List.mem_of_getElem? (i := 185) rfl))) (Or.inr (hw _ (List.mem_of_getElem? (i := 187) rfl))) (by decide) (t := (.object "java/lang/Object")) (t' := (.object "java/lang/Object")) (by decide) (by decide)))
  have Zs5 : n0 ≤ h5.size := Nat.le_trans Zs3 (Keep.of_wr W5).1
  have Kp5 : Keep h0 h5 [a1] := Kp3.wr W5 (Or.inl (by simp))
  have Od5 : Old Z n0 h5 := Od3.wr W5 lo_a1
  refine own_go st5 ?_
  show own_Goes _ _ _ _ _ _ _ T5 (mkF m 19 #[.val (.ref a1), .val (.ref a2)] [])
  exact own_retV X5 hx hlk hret (hb hby d34_19) (by decide) (by decide) (by rw [e5]; exact ⟨rfl, N5, Kp5, F_e1_5⟩)
def Q_rm_l2 (Z : State) (h0 : Heap) (n0 : Nat) (a1 a3 : Addr) (v : Option Value) (h : Heap) (L : List Loc) : Prop := v = none ∧ Fr n0 L ∧ Keep h0 h [a1] ∧ Fld Z h a1 "java/util/ImmutableCollections$List12" "e1" "Ljava/lang/Object;" (.ref a3)
set_option maxRecDepth 65536 in
set_option maxHeartbeats 40000000 in
theorem rm_l2 (l : Launch) (Z : State) (a0 : Array Value) (hw : ∀ d ∈ tables_1, d.before a0 Z = true) (ws : List Jvm.Cond) (a1 a2 a3 : Addr) (h0 : Heap) (n0 : Nat) (Z0 : n0 ≤ h0.size) (E_a1 : Exa Z h0 a1 "java/util/ImmutableCollections$List12") (F_e0 : Fld Z h0 a1 "java/util/ImmutableCollections$List12" "e0" "Ljava/lang/Object;" .null) (F_e1 : Fld Z h0 a1 "java/util/ImmutableCollections$List12" "e1" "Ljava/lang/Object;" .null) (lo_a1 : n0 ≤ a1) :
    MetFree l (⟨"java/util/ImmutableCollections$List12", "<init>", "(Ljava/lang/Object;Ljava/lang/Object;)V"⟩ : MethodName) (head1 (Jvm.Cond.code (⟨"java/util/ImmutableCollections$List12", "<init>", "(Ljava/lang/Object;Ljava/lang/Object;)V"⟩ : MethodName) jdk_44_method_2_code 3 none :: ws) ({ frames := 4, cells := 0, slots := 0, locals := 48 } : Room)) (fun a U => a = #[(.ref a1), (.ref a2), (.ref a3)] ∧ Z.Warmed39 U.vm ∧ U.heap = h0) (fun _ _ _ _ _ => True) (fun _ U o U' => ∃ rv rL, o = .returned rv ∧ Q_rm_l2 Z h0 n0 a1 a3 rv U'.heap rL ∧ FrameEnd U o U' rL ({ frames := 4, cells := 0, slots := 0, locals := 48 } : Room).cells ({ frames := 4, cells := 0, slots := 0, locals := 48 } : Room).slots) := by
  refine own_met (y := (⟨"java/util/ImmutableCollections$List12", "<init>", "(Ljava/lang/Object;Ljava/lang/Object;)V"⟩ : MethodName)) (Q := Q_rm_l2 Z h0 n0 a1 a3) (own := "java/util/ImmutableCollections$List12") rfl (plainFor_of_name pn_23) ?_
  intro p e s m below meth c s₁ C e0 X0
  obtain ⟨hx, hby, hml, hown, hnm, hret, hlk, hZ⟩ := C
  have N0 := Fr.nil n0
  rw [ef_23]
  have Kp0 : Keep h0 h0 [a1] := Keep.refl h0 _
  show own_Goes _ _ _ _ _ _ _ s₁ (mkF m 0 #[.val (.ref a1), .val (.ref a2), .val (.ref a3)] [])
  refine own_go (fun _ k => XS.aloadN X0.here hx rfl (hb hby d23_0) rfl rfl k) ?_
  show own_Goes _ _ _ _ _ _ _ s₁ (mkF m 1 #[.val (.ref a1), .val (.ref a2), .val (.ref a3)] [(.ref a1)])
  obtain ⟨_, _, ⟨T1, L1, k1, n1⟩, -, X1, ⟨Lc1, hQ1, l1, y1, z1⟩, st1⟩ := X0.specialBack hx (y := (⟨"java/util/ImmutableCollections$AbstractImmutableList", "<init>", "()V"⟩ : MethodName)) rfl hown (mvT hZ (hw _ (List.mem_of_getElem? (i := 166) rfl))) (mvT hZ (hw _ (List.mem_of_getElem? (i := 167) rfl))) (mvT hZ (hw _ (List.mem_of_getElem? (i := 171) rfl))) (by decide) (backOf (W := 0) (rm_ail l Z a0 hw [] a1 h0 n0 Z0) hZ (hw _ (List.mem_of_getElem? (i := 171) rfl)) (hw _ (List.mem_of_getElem? (i := 170) rfl)) (by decide) (by decide)) (g := (mkF m 1 #[.val (.ref a1), .val (.ref a2), .val (.ref a3)] [(.ref a1)])) rfl (by rw [hml]; rfl) (Steps.refl _) (a := a1) (argsL := []) (rest := []) (lenOf pd_0 rfl) rfl (by show 2 * 0 + _ ≤ _; exact Nat.le_of_eq rfl) (hb hby d23_1) (fun _ _ => ⟨rfl, e0, (by decide : 0 + 0 ≤ _), (by decide : 0 + 0 ≤ _)⟩)
  dsimp only [Pt.U, Pt.locs, Pt.cells, Pt.slots] at X1 l1 y1 z1 st1 hQ1
  subst l1 y1 z1
  obtain ⟨rfl, N1q, e1⟩ := hQ1
  have N1 := Fr.app N0 N1q
  refine own_goS st1 ?_
  show own_Goes _ _ _ _ _ _ _ T1 (mkF m 4 #[.val (.ref a1), .val (.ref a2), .val (.ref a3)] [])
  refine own_go (fun _ k => XS.aloadN X1.here hx rfl (hb hby d23_4) rfl rfl k) ?_
  show own_Goes _ _ _ _ _ _ _ T1 (mkF m 5 #[.val (.ref a1), .val (.ref a2), .val (.ref a3)] [(.ref a1)])
  refine own_go (fun _ k => XS.aloadN X1.here hx rfl (hb hby d23_5) rfl rfl k) ?_
  show own_Goes _ _ _ _ _ _ _ T1 (mkF m 6 #[.val (.ref a1), .val (.ref a2), .val (.ref a3)] [(.ref a2), (.ref a1)])
  obtain ⟨_, _, ⟨T2, L2, k2, n2⟩, -, X2, ⟨Lc2, hQ2, l2, y2, z2⟩, st2⟩ := Jvm.LawKit.callS X1 hx (y := (⟨"java/util/Objects", "requireNonNull", "(Ljava/lang/Object;)Ljava/lang/Object;"⟩ : MethodName)) hown (mvT hZ (hw _ (List.mem_of_getElem? (i := 180) rfl))) (mvT hZ (hw _ (List.mem_of_getElem? (i := 181) rfl))) (mvT hZ (hw _ (List.mem_of_getElem? (i := 182) rfl))) (mvT hZ (hw _ (List.mem_of_getElem? (i := 183) rfl))) (by decide) (backOf (W := 1) (rm_rnn l Z a0 hw [] a2 h0 n0 Z0) hZ (hw _ (List.mem_of_getElem? (i := 183) rfl)) (hw _ (List.mem_of_getElem? (i := 182) rfl)) (by decide) (by decide)) (g := (mkF m 6 #[.val (.ref a1), .val (.ref a2), .val (.ref a3)] [(.ref a2), (.ref a1)])) rfl (by rw [hml]; rfl) (argsL := [(.ref a2)]) (rest := [(.ref a1)]) (lenOf pd_7 rfl) rfl (by show 2 * 0 + _ ≤ _; exact Nat.le_of_eq rfl) (hb hby d23_6) (fun _ _ => ⟨rfl, e1, (by decide : 0 + 0 + 0 ≤ _), (by decide : 0 + 0 + 0 ≤ _)⟩)
  dsimp only [Pt.U, Pt.locs, Pt.cells, Pt.slots] at X2 l2 y2 z2 st2 hQ2
  subst l2 y2 z2
  obtain ⟨rfl, N2q, e2⟩ := hQ2
  have N2 := Fr.app N1 N2q
  refine own_go st2 ?_
  show own_Goes _ _ _ _ _ _ _ T2 (mkF m 9 #[.val (.ref a1), .val (.ref a2), .val (.ref a3)] [(.ref a2), (.ref a1)])
  obtain ⟨T3, h3, X3, e3, W3, st3⟩ := putF X2 hx hZ hown (host := "") (Or.inl (hw _ (List.mem_of_getElem? (i := 184) rfl))) Via.refl e2 F_e0 E_a1 (Or.inr ⟨(hw _ (List.mem_of_getElem? (i := 185) rfl)), rfl, hnm⟩) (hw _ (List.mem_of_getElem? (i := 160) rfl)) (ty := (.object "java/lang/Object")) (by decide) rfl rfl (g := (mkF m 9 #[.val (.ref a1), .val (.ref a2), .val (.ref a3)] [(.ref a2), (.ref a1)])) rfl rfl (hb hby d23_9)
  have F_e0_3 : Fld Z h3 a1 "java/util/ImmutableCollections$List12" "e0" "Ljava/lang/Object;" (.ref a2) := F_e0.same W3
  have N3 := Fr.snoc X3 N2 lo_a1
  have E_a1_3 : Exa Z h3 a1 "java/util/ImmutableCollections$List12" := E_a1.wr W3
  have F_e1_3 : Fld Z h3 a1 "java/util/ImmutableCollections$List12" "e1" "Ljava/lang/Object;" .null := F_e1.other W3 (Or.inr (slot_ne (Or.inr (hw _ (List.mem_of_getElem? (i := 187) rfl))) (Or.inr (hw _ (List.mem_of_getElem? (i := 185) rfl))) (by decide) (t := (.object "java/lang/Object")) (t' := (.object "java/lang/Object")) (by decide) (by decide)))
  have Zs3 : n0 ≤ h3.size := Nat.le_trans Z0 (Keep.of_wr W3).1
  have Kp3 : Keep h0 h3 [a1] := Kp0.wr W3 (Or.inl (by simp))
  refine own_go st3 ?_
  show own_Goes _ _ _ _ _ _ _ T3 (mkF m 12 #[.val (.ref a1), .val (.ref a2), .val (.ref a3)] [])
  refine own_go (fun _ k => XS.aloadN X3.here hx rfl (hb hby d23_12) rfl rfl k) ?_
  show own_Goes _ _ _ _ _ _ _ T3 (mkF m 13 #[.val (.ref a1), .val (.ref a2), .val (.ref a3)] [(.ref a1)])
  refine own_go (fun _ k => XS.aloadN X3.here hx rfl (hb hby d23_13) rfl rfl k) ?_
  show own_Goes _ _ _ _ _ _ _ T3 (mkF m 14 #[.val (.ref a1), .val (.ref a2), .val (.ref a3)] [(.ref a3), (.ref a1)])
  obtain ⟨_, _, ⟨T4, L4, k4, n4⟩, -, X4, ⟨Lc4, hQ4, l4, y4, z4⟩, st4⟩ := Jvm.LawKit.callS X3 hx (y := (⟨"java/util/Objects", "requireNonNull", "(Ljava/lang/Object;)Ljava/lang/Object;"⟩ : MethodName)) hown (mvT hZ (hw _ (List.mem_of_getElem? (i := 180) rfl))) (mvT hZ (hw _ (List.mem_of_getElem? (i := 181) rfl))) (mvT hZ (hw _ (List.mem_of_getElem? (i := 182) rfl))) (mvT hZ (hw _ (List.mem_of_getElem? (i := 183) rfl))) (by decide) (backOf (W := 1) (rm_rnn l Z a0 hw [] a3 h3 n0 Zs3) hZ (hw _ (List.mem_of_getElem? (i := 183) rfl)) (hw _ (List.mem_of_getElem? (i := 182) rfl)) (by decide) (by decide)) (g := (mkF m 14 #[.val (.ref a1), .val (.ref a2), .val (.ref a3)] [(.ref a3), (.ref a1)])) rfl (by rw [hml]; rfl) (argsL := [(.ref a3)]) (rest := [(.ref a1)]) (lenOf pd_7 rfl) rfl (by show 2 * 0 + _ ≤ _; exact Nat.le_of_eq rfl) (hb hby d23_14) (fun _ _ => ⟨rfl, e3, (by decide : 0 + 0 + 0 + 0 ≤ _), (by decide : 0 + 0 + 0 + 0 ≤ _)⟩)
  dsimp only [Pt.U, Pt.locs, Pt.cells, Pt.slots] at X4 l4 y4 z4 st4 hQ4
  subst l4 y4 z4
  obtain ⟨rfl, N4q, e4⟩ := hQ4
  have N4 := Fr.app N3 N4q
  refine own_go st4 ?_
  show own_Goes _ _ _ _ _ _ _ T4 (mkF m 17 #[.val (.ref a1), .val (.ref a2), .val (.ref a3)] [(.ref a3), (.ref a1)])
  obtain ⟨T5, h5, X5, e5, W5, st5⟩ := putF X4 hx hZ hown (host := "") (Or.inl (hw _ (List.mem_of_getElem? (i := 186) rfl))) Via.refl e4 F_e1_3 E_a1_3 (Or.inr ⟨(hw _ (List.mem_of_getElem? (i := 187) rfl)), rfl, hnm⟩) (hw _ (List.mem_of_getElem? (i := 160) rfl)) (ty := (.object "java/lang/Object")) (by decide) rfl rfl (g := (mkF m 17 #[.val (.ref a1), .val (.ref a2), .val (.ref a3)] [(.ref a3), (.ref a1)])) rfl rfl (hb hby d23_17)
  have F_e1_5 : Fld Z h5 a1 "java/util/ImmutableCollections$List12" "e1" "Ljava/lang/Object;" (.ref a3) := F_e1_3.same W5
  have N5 := Fr.snoc X5 N4 lo_a1
  have E_a1_5 : Exa Z h5 a1 "java/util/ImmutableCollections$List12" := E_a1_3.wr W5
  have F_e0_5 : Fld Z h5 a1 "java/util/ImmutableCollections$List12" "e0" "Ljava/lang/Object;" (.ref a2) := F_e0_3.other W5 (Or.inr (slot_ne (Or.inr (hw _ (List.mem_of_getElem? (i := 185) rfl))) (Or.inr (hw _ (List.mem_of_getElem? (i := 187) rfl))) (by decide) (t := (.object "java/lang/Object")) (t' := (.object "java/lang/Object")) (by decide) (by decide)))
  have Zs5 : n0 ≤ h5.size := Nat.le_trans Zs3 (Keep.of_wr W5).1
  have Kp5 : Keep h0 h5 [a1] := Kp3.wr W5 (Or.inl (by simp))
  refine own_go st5 ?_
  show own_Goes _ _ _ _ _ _ _ T5 (mkF m 20 #[.val (.ref a1), .val (.ref a2), .val (.ref a3)] [])
  exact own_retV X5 hx hlk hret (hb hby d23_20) (by decide) (by decide) (by rw [e5]; exact ⟨rfl, N5, Kp5, F_e1_5⟩)
def Q_rm_ln (Z : State) (h0 : Heap) (n0 : Nat) (a1 a2 : Addr) (v : Option Value) (h : Heap) (L : List Loc) : Prop := v = none ∧ Fr n0 L ∧ Keep h0 h [a1] ∧ Fld Z h a1 "java/util/ImmutableCollections$ListN" "elements" "[Ljava/lang/Object;" (.ref a2)
set_option maxRecDepth 65536 in
set_option maxHeartbeats 40000000 in
theorem rm_ln (l : Launch) (Z : State) (a0 : Array Value) (hw : ∀ d ∈ tables_1, d.before a0 Z = true) (ws : List Jvm.Cond) (a1 a2 : Addr) (h0 : Heap) (n0 : Nat) (Z0 : n0 ≤ h0.size) (E_a1 : Exa Z h0 a1 "java/util/ImmutableCollections$ListN") (F_es : Fld Z h0 a1 "java/util/ImmutableCollections$ListN" "elements" "[Ljava/lang/Object;" .null) (F_an : Fld Z h0 a1 "java/util/ImmutableCollections$ListN" "allowNulls" "Z" (.int (0 : Int32))) (lo_a1 : n0 ≤ a1) :
    MetFree l (⟨"java/util/ImmutableCollections$ListN", "<init>", "([Ljava/lang/Object;Z)V"⟩ : MethodName) (head1 (Jvm.Cond.code (⟨"java/util/ImmutableCollections$ListN", "<init>", "([Ljava/lang/Object;Z)V"⟩ : MethodName) jdk_45_method_1_code 3 none :: ws) ({ frames := 4, cells := 0, slots := 0, locals := 48 } : Room)) (fun a U => a = #[(.ref a1), (.ref a2), (.int (0 : Int32))] ∧ Z.Warmed39 U.vm ∧ U.heap = h0) (fun _ _ _ _ _ => True) (fun _ U o U' => ∃ rv rL, o = .returned rv ∧ Q_rm_ln Z h0 n0 a1 a2 rv U'.heap rL ∧ FrameEnd U o U' rL ({ frames := 4, cells := 0, slots := 0, locals := 48 } : Room).cells ({ frames := 4, cells := 0, slots := 0, locals := 48 } : Room).slots) := by
  refine own_met (y := (⟨"java/util/ImmutableCollections$ListN", "<init>", "([Ljava/lang/Object;Z)V"⟩ : MethodName)) (Q := Q_rm_ln Z h0 n0 a1 a2) (own := "java/util/ImmutableCollections$ListN") rfl (plainFor_of_name pn_36) ?_
  intro p e s m below meth c s₁ C e0 X0
  obtain ⟨hx, hby, hml, hown, hnm, hret, hlk, hZ⟩ := C
  have N0 := Fr.nil n0
  rw [ef_36]
  have Kp0 : Keep h0 h0 [a1] := Keep.refl h0 _
  show own_Goes _ _ _ _ _ _ _ s₁ (mkF m 0 #[.val (.ref a1), .val (.ref a2), .val (.int (0 : Int32))] [])
  refine own_go (fun _ k => XS.aloadN X0.here hx rfl (hb hby d36_0) rfl rfl k) ?_
  show own_Goes _ _ _ _ _ _ _ s₁ (mkF m 1 #[.val (.ref a1), .val (.ref a2), .val (.int (0 : Int32))] [(.ref a1)])
  obtain ⟨_, _, ⟨T1, L1, k1, n1⟩, -, X1, ⟨Lc1, hQ1, l1, y1, z1⟩, st1⟩ := X0.specialBack hx (y := (⟨"java/util/ImmutableCollections$AbstractImmutableList", "<init>", "()V"⟩ : MethodName)) rfl hown (mvT hZ (hw _ (List.mem_of_getElem? (i := 252) rfl))) (mvT hZ (hw _ (List.mem_of_getElem? (i := 167) rfl))) (mvT hZ (hw _ (List.mem_of_getElem? (i := 171) rfl))) (by decide) (backOf (W := 0) (rm_ail l Z a0 hw [] a1 h0 n0 Z0) hZ (hw _ (List.mem_of_getElem? (i := 171) rfl)) (hw _ (List.mem_of_getElem? (i := 170) rfl)) (by decide) (by decide)) (g := (mkF m 1 #[.val (.ref a1), .val (.ref a2), .val (.int (0 : Int32))] [(.ref a1)])) rfl (by rw [hml]; rfl) (Steps.refl _) (a := a1) (argsL := []) (rest := []) (lenOf pd_0 rfl) rfl (by show 2 * 0 + _ ≤ _; exact Nat.le_of_eq rfl) (hb hby d36_1) (fun _ _ => ⟨rfl, e0, (by decide : 0 + 0 ≤ _), (by decide : 0 + 0 ≤ _)⟩)
  dsimp only [Pt.U, Pt.locs, Pt.cells, Pt.slots] at X1 l1 y1 z1 st1 hQ1
  subst l1 y1 z1
  obtain ⟨rfl, N1q, e1⟩ := hQ1
  have N1 := Fr.app N0 N1q
  refine own_goS st1 ?_
  show own_Goes _ _ _ _ _ _ _ T1 (mkF m 4 #[.val (.ref a1), .val (.ref a2), .val (.int (0 : Int32))] [])
  refine own_go (fun _ k => XS.aloadN X1.here hx rfl (hb hby d36_4) rfl rfl k) ?_
  show own_Goes _ _ _ _ _ _ _ T1 (mkF m 5 #[.val (.ref a1), .val (.ref a2), .val (.int (0 : Int32))] [(.ref a1)])
  refine own_go (fun _ k => XS.aloadN X1.here hx rfl (hb hby d36_5) rfl rfl k) ?_
  show own_Goes _ _ _ _ _ _ _ T1 (mkF m 6 #[.val (.ref a1), .val (.ref a2), .val (.int (0 : Int32))] [(.ref a2), (.ref a1)])
  obtain ⟨T2, h2, X2, e2, W2, st2⟩ := putF X1 hx hZ hown (host := "") (Or.inl (hw _ (List.mem_of_getElem? (i := 256) rfl))) Via.refl e1 F_es E_a1 (Or.inr ⟨(hw _ (List.mem_of_getElem? (i := 257) rfl)), rfl, hnm⟩) (hw _ (List.mem_of_getElem? (i := 246) rfl)) (ty := (.array (.object "java/lang/Object"))) (by decide) rfl rfl (g := (mkF m 6 #[.val (.ref a1), .val (.ref a2), .val (.int (0 : Int32))] [(.ref a2), (.ref a1)])) rfl rfl (hb hby d36_6)
  have F_es_2 : Fld Z h2 a1 "java/util/ImmutableCollections$ListN" "elements" "[Ljava/lang/Object;" (.ref a2) := F_es.same W2
  have N2 := Fr.snoc X2 N1 lo_a1
  have E_a1_2 : Exa Z h2 a1 "java/util/ImmutableCollections$ListN" := E_a1.wr W2
  have F_an_2 : Fld Z h2 a1 "java/util/ImmutableCollections$ListN" "allowNulls" "Z" (.int (0 : Int32)) := F_an.other W2 (Or.inr (slot_ne (Or.inr (hw _ (List.mem_of_getElem? (i := 259) rfl))) (Or.inr (hw _ (List.mem_of_getElem? (i := 257) rfl))) (by decide) (t := .boolean) (t' := (.array (.object "java/lang/Object"))) (by decide) (by decide)))
  have Zs2 : n0 ≤ h2.size := Nat.le_trans Z0 (Keep.of_wr W2).1
  have Kp2 : Keep h0 h2 [a1] := Kp0.wr W2 (Or.inl (by simp))
  refine own_go st2 ?_
  show own_Goes _ _ _ _ _ _ _ T2 (mkF m 9 #[.val (.ref a1), .val (.ref a2), .val (.int (0 : Int32))] [])
  refine own_go (fun _ k => XS.aloadN X2.here hx rfl (hb hby d36_9) rfl rfl k) ?_
  show own_Goes _ _ _ _ _ _ _ T2 (mkF m 10 #[.val (.ref a1), .val (.ref a2), .val (.int (0 : Int32))] [(.ref a1)])
  refine own_go (fun _ k => XS.iloadN X2.here hx rfl (hb hby d36_10) rfl k) ?_
  show own_Goes _ _ _ _ _ _ _ T2 (mkF m 11 #[.val (.ref a1), .val (.ref a2), .val (.int (0 : Int32))] [(.int (0 : Int32)), (.ref a1)])
  obtain ⟨T3, h3, X3, e3, W3, st3⟩ := putFN X2 hx hZ hown (hw _ (List.mem_of_getElem? (i := 258) rfl)) Via.refl e2 F_an_2 E_a1_2 (Or.inr ⟨(hw _ (List.mem_of_getElem? (i := 259) rfl)), rfl, hnm⟩) (hw _ (List.mem_of_getElem? (i := 246) rfl)) (ty := .boolean) (v' := (.int (nar .boolean (0 : Int32)))) (by decide) rfl (fits_nar_bool _) (g := (mkF m 11 #[.val (.ref a1), .val (.ref a2), .val (.int (0 : Int32))] [(.int (0 : Int32)), (.ref a1)])) rfl rfl (hb hby d36_11)
  have F_an_3 : Fld Z h3 a1 "java/util/ImmutableCollections$ListN" "allowNulls" "Z" (.int (nar .boolean (0 : Int32))) := F_an_2.same W3
  have N3 := Fr.snoc X3 N2 lo_a1
  have E_a1_3 : Exa Z h3 a1 "java/util/ImmutableCollections$ListN" := E_a1_2.wr W3
  have F_es_3 : Fld Z h3 a1 "java/util/ImmutableCollections$ListN" "elements" "[Ljava/lang/Object;" (.ref a2) := F_es_2.other W3 (Or.inr (slot_ne (Or.inr (hw _ (List.mem_of_getElem? (i := 257) rfl))) (Or.inr (hw _ (List.mem_of_getElem? (i := 259) rfl))) (by decide) (t := (.array (.object "java/lang/Object"))) (t' := .boolean) (by decide) (by decide)))
  have Zs3 : n0 ≤ h3.size := Nat.le_trans Zs2 (Keep.of_wr W3).1
  have Kp3 : Keep h0 h3 [a1] := Kp2.wr W3 (Or.inl (by simp))
  refine own_go st3 ?_
  show own_Goes _ _ _ _ _ _ _ T3 (mkF m 14 #[.val (.ref a1), .val (.ref a2), .val (.int (0 : Int32))] [])
  exact own_retV X3 hx hlk hret (hb hby d36_14) (by decide) (by decide) (by rw [e3]; exact ⟨rfl, N3, Kp3, F_es_3⟩)
def Q_rm_lfa (Z : State) (h0 : Heap) (n0 : Nat) (a2 : Addr) (v : Option Value) (h : Heap) (L : List Loc) : Prop := ∃ r e ke, v = some (.ref r) ∧ Fr n0 L ∧ h0.size ≤ r ∧ h0.size ≤ e ∧ Keep h0 h [] ∧ Exa Z h r "java/util/ImmutableCollections$ListN" ∧ Fld Z h r "java/util/ImmutableCollections$ListN" "elements" "[Ljava/lang/Object;" (.ref e) ∧ Arv Z h e ke (.object "java/lang/Object") (3 : Int32) [(.ref a2), (.ref a2), (.ref a2)] .null
set_option maxRecDepth 65536 in
set_option maxHeartbeats 40000000 in
theorem rm_lfa (l : Launch) (Z : State) (a0 : Array Value) (hw : ∀ d ∈ tables_1, d.before a0 Z = true) (ws : List Jvm.Cond) (a1 a2 : Addr) (kc : ClassId) (h0 : Heap) (n0 : Nat) (Z0 : n0 ≤ h0.size) (V_s : Arv Z h0 a1 kc (.object "java/lang/Object") (3 : Int32) [(.ref a2), (.ref a2), (.ref a2)] .null) (E_a2 : Exa Z h0 a2 "com/example/treellis/treellis/cfa/StructType$Member") (ne_a1_a2 : a1 ≠ a2) :
    MetFree l (⟨"java/util/ImmutableCollections", "listFromArray", "([Ljava/lang/Object;)Ljava/util/List;"⟩ : MethodName) (head1 (Jvm.Cond.code (⟨"java/util/ImmutableCollections", "listFromArray", "([Ljava/lang/Object;)Ljava/util/List;"⟩ : MethodName) jdk_56_method_4_code 3 (some (.object "java/util/List")) :: ws) ({ frames := 5, cells := 2, slots := 5, locals := 63 } : Room)) (fun a U => a = #[(.ref a1)] ∧ Z.Warmed39 U.vm ∧ U.heap = h0) (fun _ _ _ _ _ => True) (fun _ U o U' => ∃ rv rL, o = .returned rv ∧ Q_rm_lfa Z h0 n0 a2 rv U'.heap rL ∧ FrameEnd U o U' rL ({ frames := 5, cells := 2, slots := 5, locals := 63 } : Room).cells ({ frames := 5, cells := 2, slots := 5, locals := 63 } : Room).slots) := by
  refine own_met (y := (⟨"java/util/ImmutableCollections", "listFromArray", "([Ljava/lang/Object;)Ljava/util/List;"⟩ : MethodName)) (Q := Q_rm_lfa Z h0 n0 a2) (own := "java/util/ImmutableCollections") rfl (plainFor_of_name pn_35) ?_
  intro p e s m below meth c s₁ C e0 X0
  obtain ⟨hx, hby, hml, hown, hnm, hret, hlk, hZ⟩ := C
  have N0 := Fr.nil n0
  rw [ef_35]
  have Kp0 : Keep h0 h0 [] := Keep.refl h0 _
  show own_Goes _ _ _ _ _ _ _ s₁ (mkF m 0 #[.val (.ref a1), .unset, .unset] [])
  refine own_go (fun _ k => XS.aloadN X0.here hx rfl (hb hby d35_0) rfl rfl k) ?_
  show own_Goes _ _ _ _ _ _ _ s₁ (mkF m 1 #[.val (.ref a1), .unset, .unset] [(.ref a1)])
  obtain ⟨c1, A1, q1, S1, M1, H1, G1⟩ := id V_s
  refine own_go (fun t k => X0.arraylength hx (by rw [e0]; exact A1.1) (State.isArrayOf_alike hZ.alike A1.2.1) (g := (mkF m 1 #[.val (.ref a1), .unset, .unset] [(.ref a1)])) rfl rfl (hb hby d35_1) t k) ?_
  rw [len_of S1 M1]
  show own_Goes _ _ _ _ _ _ _ s₁ (mkF m 2 #[.val (.ref a1), .unset, .unset] [(.int (3 : Int32))])
  obtain ⟨T2, h2, k2, X2, e2, E2, A2, B2, O2, st2⟩ := newRE X0 hx hZ hown (hw _ (List.mem_of_getElem? (i := 244) rfl)) (hw _ (List.mem_of_getElem? (i := 96) rfl)) e0 (g := (mkF m 2 #[.val (.ref a1), .unset, .unset] [(.int (3 : Int32))])) rfl (hb hby d35_2) rfl (by decide) (cap := 3) (by decide) (by decide) (by decide) (by decide) (ad := "[Ljava/lang/Object;") (by decide)
  obtain ⟨b2, g2⟩ : ∃ z, z = h0.size := ⟨_, rfl⟩
  rw [← g2] at A2 B2 st2
  have lo_b2 : n0 ≤ b2 := Nat.le_trans Z0 (Nat.le_of_eq g2.symm)
  have bo_b2 : h0.size ≤ b2 := Nat.le_trans Kp0.1 (Nat.le_of_eq g2.symm)
  have ne_a1_b2 : a1 ≠ b2 := Nat.ne_of_lt (Nat.lt_of_lt_of_le V_s.lt (Nat.le_of_eq g2.symm))
  have ne_a2_b2 : a2 ≠ b2 := Nat.ne_of_lt (Nat.lt_of_lt_of_le E_a2.lt (Nat.le_of_eq g2.symm))
  have V_s_2 : Arv Z h2 a1 kc (.object "java/lang/Object") (3 : Int32) [(.ref a2), (.ref a2), (.ref a2)] .null := V_s.ext E2
  have E_a2_2 : Exa Z h2 a2 "com/example/treellis/treellis/cfa/StructType$Member" := E_a2.ext E2
  have Zs2 : n0 ≤ h2.size := Nat.le_trans Z0 E2.1
  have Kp2 : Keep h0 h2 [] := Kp0.ext E2
  have V2 : Arv Z h2 b2 k2 (.object "java/lang/Object") (3 : Int32) [] .null := Arv.new A2 (by decide)
  refine own_go st2 ?_
  show own_Goes _ _ _ _ _ _ _ T2 (mkF m 5 #[.val (.ref a1), .unset, .unset] [(.ref b2)])
  refine own_go (fun _ k => XS.astoreN X2.here hx rfl (hb hby d35_5) rfl rfl (l' := #[.val (.ref a1), .val (.ref b2), .unset]) rfl k) ?_
  show own_Goes _ _ _ _ _ _ _ T2 (mkF m 6 #[.val (.ref a1), .val (.ref b2), .unset] [])
  refine own_go (fun _ k => XS.iconst X2.here hx rfl (hb hby d35_6) k) ?_
  show own_Goes _ _ _ _ _ _ _ T2 (mkF m 7 #[.val (.ref a1), .val (.ref b2), .unset] [(.int (0 : Int32))])
  refine own_go (fun _ k => XS.istoreN X2.here hx rfl (hb hby d35_7) rfl (l' := #[.val (.ref a1), .val (.ref b2), .val (.int (0 : Int32))]) rfl k) ?_
  show own_Goes _ _ _ _ _ _ _ T2 (mkF m 8 #[.val (.ref a1), .val (.ref b2), .val (.int (0 : Int32))] [])
  refine own_go (fun _ k => XS.iloadN X2.here hx rfl (hb hby d35_8) rfl k) ?_
  show own_Goes _ _ _ _ _ _ _ T2 (mkF m 9 #[.val (.ref a1), .val (.ref b2), .val (.int (0 : Int32))] [(.int (0 : Int32))])
  refine own_go (fun _ k => XS.aloadN X2.here hx rfl (hb hby d35_9) rfl rfl k) ?_
  show own_Goes _ _ _ _ _ _ _ T2 (mkF m 10 #[.val (.ref a1), .val (.ref b2), .val (.int (0 : Int32))] [(.ref a1), (.int (0 : Int32))])
  obtain ⟨c3, A3, q3, S3, M3, H3, G3⟩ := id V_s_2
  refine own_go (fun t k => X2.arraylength hx (by rw [e2]; exact A3.1) (State.isArrayOf_alike hZ.alike A3.2.1) (g := (mkF m 10 #[.val (.ref a1), .val (.ref b2), .val (.int (0 : Int32))] [(.ref a1), (.int (0 : Int32))])) rfl rfl (hb hby d35_10) t k) ?_
  rw [len_of S3 M3]
  show own_Goes _ _ _ _ _ _ _ T2 (mkF m 11 #[.val (.ref a1), .val (.ref b2), .val (.int (0 : Int32))] [(.int (3 : Int32)), (.int (0 : Int32))])
  refine own_go (fun _ k => XS.icmpNo X2.here hx rfl (hb hby d35_11) rfl (tlt (by decide : (0 : Int32) < (3 : Int32))).2.1 k) ?_
  show own_Goes _ _ _ _ _ _ _ T2 (mkF m 14 #[.val (.ref a1), .val (.ref b2), .val (.int (0 : Int32))] [])
  refine own_go (fun _ k => XS.aloadN X2.here hx rfl (hb hby d35_14) rfl rfl k) ?_
  show own_Goes _ _ _ _ _ _ _ T2 (mkF m 15 #[.val (.ref a1), .val (.ref b2), .val (.int (0 : Int32))] [(.ref b2)])
  refine own_go (fun _ k => XS.iloadN X2.here hx rfl (hb hby d35_15) rfl k) ?_
  show own_Goes _ _ _ _ _ _ _ T2 (mkF m 16 #[.val (.ref a1), .val (.ref b2), .val (.int (0 : Int32))] [(.int (0 : Int32)), (.ref b2)])
  refine own_go (fun _ k => XS.aloadN X2.here hx rfl (hb hby d35_16) rfl rfl k) ?_
  show own_Goes _ _ _ _ _ _ _ T2 (mkF m 17 #[.val (.ref a1), .val (.ref b2), .val (.int (0 : Int32))] [(.ref a1), (.int (0 : Int32)), (.ref b2)])
  refine own_go (fun _ k => XS.iloadN X2.here hx rfl (hb hby d35_17) rfl k) ?_
  show own_Goes _ _ _ _ _ _ _ T2 (mkF m 18 #[.val (.ref a1), .val (.ref b2), .val (.int (0 : Int32))] [(.int (0 : Int32)), (.ref a1), (.int (0 : Int32)), (.ref b2)])
  obtain ⟨c4, A4, q4, S4, M4, H4, G4⟩ := id V_s_2
  have hin4 := inb_of S4 (j := (0 : Int32)) ⟨by decide, by decide⟩
  refine own_go (fun t k => X2.aaload hx (j := (0 : Int32)) (v := (.ref a2)) (by rw [e2]; exact A4.1) (State.isArrayOf_alike hZ.alike A4.2.1) rfl A4.2.2 hin4 (H4.at hin4 rfl) (g := (mkF m 18 #[.val (.ref a1), .val (.ref b2), .val (.int (0 : Int32))] [(.int (0 : Int32)), (.ref a1), (.int (0 : Int32)), (.ref b2)])) rfl rfl (hb hby d35_18) t k) ?_
  show own_Goes _ _ _ _ _ _ _ T2 (mkF m 19 #[.val (.ref a1), .val (.ref b2), .val (.int (0 : Int32))] [(.ref a2), (.int (0 : Int32)), (.ref b2)])
  obtain ⟨_, _, ⟨T5, L5, k5, n5⟩, -, X5, ⟨Lc5, hQ5, l5, y5, z5⟩, st5⟩ := Jvm.LawKit.callS X2 hx (y := (⟨"java/util/Objects", "requireNonNull", "(Ljava/lang/Object;)Ljava/lang/Object;"⟩ : MethodName)) hown (mvT hZ (hw _ (List.mem_of_getElem? (i := 245) rfl))) (mvT hZ (hw _ (List.mem_of_getElem? (i := 181) rfl))) (mvT hZ (hw _ (List.mem_of_getElem? (i := 182) rfl))) (mvT hZ (hw _ (List.mem_of_getElem? (i := 183) rfl))) (by decide) (backOf (W := 2) (rm_rnn l Z a0 hw [] a2 h2 n0 Zs2) hZ (hw _ (List.mem_of_getElem? (i := 183) rfl)) (hw _ (List.mem_of_getElem? (i := 182) rfl)) (by decide) (by decide)) (g := (mkF m 19 #[.val (.ref a1), .val (.ref b2), .val (.int (0 : Int32))] [(.ref a2), (.int (0 : Int32)), (.ref b2)])) rfl (by rw [hml]; rfl) (argsL := [(.ref a2)]) (rest := [(.int (0 : Int32)), (.ref b2)]) (lenOf pd_7 rfl) rfl (by show 2 * 0 + _ ≤ _; exact Nat.le_of_eq rfl) (hb hby d35_19) (fun _ _ => ⟨rfl, e2, (by decide : 0 + 1 + 0 ≤ _), (by decide : 0 + 3 + 0 ≤ _)⟩)
  dsimp only [Pt.U, Pt.locs, Pt.cells, Pt.slots] at X5 l5 y5 z5 st5 hQ5
  subst l5 y5 z5
  obtain ⟨rfl, N5q, e5⟩ := hQ5
  have N5 := Fr.app N0 N5q
  refine own_go st5 ?_
  show own_Goes _ _ _ _ _ _ _ T5 (mkF m 22 #[.val (.ref a1), .val (.ref b2), .val (.int (0 : Int32))] [(.ref a2), (.int (0 : Int32)), (.ref b2)])
  have P6 : Arv Z h2 b2 k2 (.object "java/lang/Object") (3 : Int32) [.null] .null := V2.pad (pad_rep [] .null 1)
  obtain ⟨c6, A6, q6, S6, M6, H6, G6⟩ := id P6
  have hin6 := inb_of S6 (j := (0 : Int32)) ⟨by decide, by decide⟩
  obtain ⟨T6, h6, X6, e6, W6, st6⟩ := stR X5 hx hZ e5 A6 (j := (0 : Int32)) hin6 rfl (Sto.ofV A6 q6 O2 (Ins.of_exa E_a2_2 (hw _ (List.mem_of_getElem? (i := 97) rfl)))) (g := (mkF m 22 #[.val (.ref a1), .val (.ref b2), .val (.int (0 : Int32))] [(.ref a2), (.int (0 : Int32)), (.ref b2)])) rfl rfl (hb hby d35_22)
  have N6 := Fr.snoc X6 N5 lo_b2
  have V_s_6 : Arv Z h6 a1 kc (.object "java/lang/Object") (3 : Int32) [(.ref a2), (.ref a2), (.ref a2)] .null := V_s_2.other W6 ne_a1_b2
  have E_a2_6 : Exa Z h6 a2 "com/example/treellis/treellis/cfa/StructType$Member" := E_a2_2.wr W6
  have E_b2_6 : Exa Z h6 b2 "[Ljava/lang/Object;" := B2.wr W6
  have Zs6 : n0 ≤ h6.size := Nat.le_trans Zs2 (Keep.of_wr W6).1
  have Kp6 : Keep h0 h6 [] := Kp2.wr W6 (Or.inr bo_b2)
  have V_b2_6 : Arv Z h6 b2 k2 (.object "java/lang/Object") (3 : Int32) [(.ref a2)] .null := Arv.set A6 q6 S6 M6 H6 G6 rfl W6 0 rfl (Nat.le_of_ble_eq_true rfl)
  refine own_go st6 ?_
  show own_Goes _ _ _ _ _ _ _ T6 (mkF m 23 #[.val (.ref a1), .val (.ref b2), .val (.int (0 : Int32))] [])
  refine own_go (fun _ k => XS.iinc X6.here hx rfl (hb hby d35_23) rfl (l' := #[.val (.ref a1), .val (.ref b2), .val (.int (1 : Int32))]) rfl k) ?_
  show own_Goes _ _ _ _ _ _ _ T6 (mkF m 26 #[.val (.ref a1), .val (.ref b2), .val (.int (1 : Int32))] [])
  refine own_go (fun _ k => XS.goto X6.here hx rfl (pc0 := 26) (pc' := 8) rfl (hb hby d35_26) (by decide) (by decide) k) ?_
  show own_Goes _ _ _ _ _ _ _ T6 (mkF m 8 #[.val (.ref a1), .val (.ref b2), .val (.int (1 : Int32))] [])
  refine own_go (fun _ k => XS.iloadN X6.here hx rfl (hb hby d35_8) rfl k) ?_
  show own_Goes _ _ _ _ _ _ _ T6 (mkF m 9 #[.val (.ref a1), .val (.ref b2), .val (.int (1 : Int32))] [(.int (1 : Int32))])
  refine own_go (fun _ k => XS.aloadN X6.here hx rfl (hb hby d35_9) rfl rfl k) ?_
  show own_Goes _ _ _ _ _ _ _ T6 (mkF m 10 #[.val (.ref a1), .val (.ref b2), .val (.int (1 : Int32))] [(.ref a1), (.int (1 : Int32))])
  obtain ⟨c7, A7, q7, S7, M7, H7, G7⟩ := id V_s_6
  refine own_go (fun t k => X6.arraylength hx (by rw [e6]; exact A7.1) (State.isArrayOf_alike hZ.alike A7.2.1) (g := (mkF m 10 #[.val (.ref a1), .val (.ref b2), .val (.int (1 : Int32))] [(.ref a1), (.int (1 : Int32))])) rfl rfl (hb hby d35_10) t k) ?_
  rw [len_of S7 M7]
  show own_Goes _ _ _ _ _ _ _ T6 (mkF m 11 #[.val (.ref a1), .val (.ref b2), .val (.int (1 : Int32))] [(.int (3 : Int32)), (.int (1 : Int32))])
  refine own_go (fun _ k => XS.icmpNo X6.here hx rfl (hb hby d35_11) rfl (tlt (by decide : (1 : Int32) < (3 : Int32))).2.1 k) ?_
  show own_Goes _ _ _ _ _ _ _ T6 (mkF m 14 #[.val (.ref a1), .val (.ref b2), .val (.int (1 : Int32))] [])
  refine own_go (fun _ k => XS.aloadN X6.here hx rfl (hb hby d35_14) rfl rfl k) ?_
  show own_Goes _ _ _ _ _ _ _ T6 (mkF m 15 #[.val (.ref a1), .val (.ref b2), .val (.int (1 : Int32))] [(.ref b2)])
  refine own_go (fun _ k => XS.iloadN X6.here hx rfl (hb hby d35_15) rfl k) ?_
  show own_Goes _ _ _ _ _ _ _ T6 (mkF m 16 #[.val (.ref a1), .val (.ref b2), .val (.int (1 : Int32))] [(.int (1 : Int32)), (.ref b2)])
  refine own_go (fun _ k => XS.aloadN X6.here hx rfl (hb hby d35_16) rfl rfl k) ?_
  show own_Goes _ _ _ _ _ _ _ T6 (mkF m 17 #[.val (.ref a1), .val (.ref b2), .val (.int (1 : Int32))] [(.ref a1), (.int (1 : Int32)), (.ref b2)])
  refine own_go (fun _ k => XS.iloadN X6.here hx rfl (hb hby d35_17) rfl k) ?_
  show own_Goes _ _ _ _ _ _ _ T6 (mkF m 18 #[.val (.ref a1), .val (.ref b2), .val (.int (1 : Int32))] [(.int (1 : Int32)), (.ref a1), (.int (1 : Int32)), (.ref b2)])
  obtain ⟨c8, A8, q8, S8, M8, H8, G8⟩ := id V_s_6
  have hin8 := inb_of S8 (j := (1 : Int32)) ⟨by decide, by decide⟩
  refine own_go (fun t k => X6.aaload hx (j := (1 : Int32)) (v := (.ref a2)) (by rw [e6]; exact A8.1) (State.isArrayOf_alike hZ.alike A8.2.1) rfl A8.2.2 hin8 (H8.at hin8 rfl) (g := (mkF m 18 #[.val (.ref a1), .val (.ref b2), .val (.int (1 : Int32))] [(.int (1 : Int32)), (.ref a1), (.int (1 : Int32)), (.ref b2)])) rfl rfl (hb hby d35_18) t k) ?_
  show own_Goes _ _ _ _ _ _ _ T6 (mkF m 19 #[.val (.ref a1), .val (.ref b2), .val (.int (1 : Int32))] [(.ref a2), (.int (1 : Int32)), (.ref b2)])
  obtain ⟨_, _, ⟨T9, L9, k9, n9⟩, -, X9, ⟨Lc9, hQ9, l9, y9, z9⟩, st9⟩ := Jvm.LawKit.callS X6 hx (y := (⟨"java/util/Objects", "requireNonNull", "(Ljava/lang/Object;)Ljava/lang/Object;"⟩ : MethodName)) hown (mvT hZ (hw _ (List.mem_of_getElem? (i := 245) rfl))) (mvT hZ (hw _ (List.mem_of_getElem? (i := 181) rfl))) (mvT hZ (hw _ (List.mem_of_getElem? (i := 182) rfl))) (mvT hZ (hw _ (List.mem_of_getElem? (i := 183) rfl))) (by decide) (backOf (W := 2) (rm_rnn l Z a0 hw [] a2 h6 n0 Zs6) hZ (hw _ (List.mem_of_getElem? (i := 183) rfl)) (hw _ (List.mem_of_getElem? (i := 182) rfl)) (by decide) (by decide)) (g := (mkF m 19 #[.val (.ref a1), .val (.ref b2), .val (.int (1 : Int32))] [(.ref a2), (.int (1 : Int32)), (.ref b2)])) rfl (by rw [hml]; rfl) (argsL := [(.ref a2)]) (rest := [(.int (1 : Int32)), (.ref b2)]) (lenOf pd_7 rfl) rfl (by show 2 * 0 + _ ≤ _; exact Nat.le_of_eq rfl) (hb hby d35_19) (fun _ _ => ⟨rfl, e6, (by decide : 0 + 1 + 0 + 0 ≤ _), (by decide : 0 + 3 + 0 + 0 ≤ _)⟩)
  dsimp only [Pt.U, Pt.locs, Pt.cells, Pt.slots] at X9 l9 y9 z9 st9 hQ9
  subst l9 y9 z9
  obtain ⟨rfl, N9q, e9⟩ := hQ9
  have N9 := Fr.app N6 N9q
  refine own_go st9 ?_
  show own_Goes _ _ _ _ _ _ _ T9 (mkF m 22 #[.val (.ref a1), .val (.ref b2), .val (.int (1 : Int32))] [(.ref a2), (.int (1 : Int32)), (.ref b2)])
  have P10 : Arv Z h6 b2 k2 (.object "java/lang/Object") (3 : Int32) [(.ref a2), .null] .null := V_b2_6.pad (pad_rep [(.ref a2)] .null 1)
  obtain ⟨c10, A10, q10, S10, M10, H10, G10⟩ := id P10
  have hin10 := inb_of S10 (j := (1 : Int32)) ⟨by decide, by decide⟩
  obtain ⟨T10, h10, X10, e10, W10, st10⟩ := stR X9 hx hZ e9 A10 (j := (1 : Int32)) hin10 rfl (Sto.ofV A10 q10 O2 (Ins.of_exa E_a2_6 (hw _ (List.mem_of_getElem? (i := 97) rfl)))) (g := (mkF m 22 #[.val (.ref a1), .val (.ref b2), .val (.int (1 : Int32))] [(.ref a2), (.int (1 : Int32)), (.ref b2)])) rfl rfl (hb hby d35_22)
  have N10 := Fr.snoc X10 N9 lo_b2
  have V_s_10 : Arv Z h10 a1 kc (.object "java/lang/Object") (3 : Int32) [(.ref a2), (.ref a2), (.ref a2)] .null := V_s_6.other W10 ne_a1_b2
  have E_a2_10 : Exa Z h10 a2 "com/example/treellis/treellis/cfa/StructType$Member" := E_a2_6.wr W10
  have E_b2_10 : Exa Z h10 b2 "[Ljava/lang/Object;" := E_b2_6.wr W10
  have Zs10 : n0 ≤ h10.size := Nat.le_trans Zs6 (Keep.of_wr W10).1
  have Kp10 : Keep h0 h10 [] := Kp6.wr W10 (Or.inr bo_b2)
  have V_b2_10 : Arv Z h10 b2 k2 (.object "java/lang/Object") (3 : Int32) [(.ref a2), (.ref a2)] .null := Arv.set A10 q10 S10 M10 H10 G10 rfl W10 1 rfl (Nat.le_of_ble_eq_true rfl)
  refine own_go st10 ?_
  show own_Goes _ _ _ _ _ _ _ T10 (mkF m 23 #[.val (.ref a1), .val (.ref b2), .val (.int (1 : Int32))] [])
  refine own_go (fun _ k => XS.iinc X10.here hx rfl (hb hby d35_23) rfl (l' := #[.val (.ref a1), .val (.ref b2), .val (.int (2 : Int32))]) rfl k) ?_
  show own_Goes _ _ _ _ _ _ _ T10 (mkF m 26 #[.val (.ref a1), .val (.ref b2), .val (.int (2 : Int32))] [])
  refine own_go (fun _ k => XS.goto X10.here hx rfl (pc0 := 26) (pc' := 8) rfl (hb hby d35_26) (by decide) (by decide) k) ?_
  show own_Goes _ _ _ _ _ _ _ T10 (mkF m 8 #[.val (.ref a1), .val (.ref b2), .val (.int (2 : Int32))] [])
  refine own_go (fun _ k => XS.iloadN X10.here hx rfl (hb hby d35_8) rfl k) ?_
  show own_Goes _ _ _ _ _ _ _ T10 (mkF m 9 #[.val (.ref a1), .val (.ref b2), .val (.int (2 : Int32))] [(.int (2 : Int32))])
  refine own_go (fun _ k => XS.aloadN X10.here hx rfl (hb hby d35_9) rfl rfl k) ?_
  show own_Goes _ _ _ _ _ _ _ T10 (mkF m 10 #[.val (.ref a1), .val (.ref b2), .val (.int (2 : Int32))] [(.ref a1), (.int (2 : Int32))])
  obtain ⟨c11, A11, q11, S11, M11, H11, G11⟩ := id V_s_10
  refine own_go (fun t k => X10.arraylength hx (by rw [e10]; exact A11.1) (State.isArrayOf_alike hZ.alike A11.2.1) (g := (mkF m 10 #[.val (.ref a1), .val (.ref b2), .val (.int (2 : Int32))] [(.ref a1), (.int (2 : Int32))])) rfl rfl (hb hby d35_10) t k) ?_
  rw [len_of S11 M11]
  show own_Goes _ _ _ _ _ _ _ T10 (mkF m 11 #[.val (.ref a1), .val (.ref b2), .val (.int (2 : Int32))] [(.int (3 : Int32)), (.int (2 : Int32))])
  refine own_go (fun _ k => XS.icmpNo X10.here hx rfl (hb hby d35_11) rfl (tlt (by decide : (2 : Int32) < (3 : Int32))).2.1 k) ?_
  show own_Goes _ _ _ _ _ _ _ T10 (mkF m 14 #[.val (.ref a1), .val (.ref b2), .val (.int (2 : Int32))] [])
  refine own_go (fun _ k => XS.aloadN X10.here hx rfl (hb hby d35_14) rfl rfl k) ?_
  show own_Goes _ _ _ _ _ _ _ T10 (mkF m 15 #[.val (.ref a1), .val (.ref b2), .val (.int (2 : Int32))] [(.ref b2)])
  refine own_go (fun _ k => XS.iloadN X10.here hx rfl (hb hby d35_15) rfl k) ?_
  show own_Goes _ _ _ _ _ _ _ T10 (mkF m 16 #[.val (.ref a1), .val (.ref b2), .val (.int (2 : Int32))] [(.int (2 : Int32)), (.ref b2)])
  refine own_go (fun _ k => XS.aloadN X10.here hx rfl (hb hby d35_16) rfl rfl k) ?_
  show own_Goes _ _ _ _ _ _ _ T10 (mkF m 17 #[.val (.ref a1), .val (.ref b2), .val (.int (2 : Int32))] [(.ref a1), (.int (2 : Int32)), (.ref b2)])
  refine own_go (fun _ k => XS.iloadN X10.here hx rfl (hb hby d35_17) rfl k) ?_
  show own_Goes _ _ _ _ _ _ _ T10 (mkF m 18 #[.val (.ref a1), .val (.ref b2), .val (.int (2 : Int32))] [(.int (2 : Int32)), (.ref a1), (.int (2 : Int32)), (.ref b2)])
  obtain ⟨c12, A12, q12, S12, M12, H12, G12⟩ := id V_s_10
  have hin12 := inb_of S12 (j := (2 : Int32)) ⟨by decide, by decide⟩
  refine own_go (fun t k => X10.aaload hx (j := (2 : Int32)) (v := (.ref a2)) (by rw [e10]; exact A12.1) (State.isArrayOf_alike hZ.alike A12.2.1) rfl A12.2.2 hin12 (H12.at hin12 rfl) (g := (mkF m 18 #[.val (.ref a1), .val (.ref b2), .val (.int (2 : Int32))] [(.int (2 : Int32)), (.ref a1), (.int (2 : Int32)), (.ref b2)])) rfl rfl (hb hby d35_18) t k) ?_
  show own_Goes _ _ _ _ _ _ _ T10 (mkF m 19 #[.val (.ref a1), .val (.ref b2), .val (.int (2 : Int32))] [(.ref a2), (.int (2 : Int32)), (.ref b2)])
  obtain ⟨_, _, ⟨T13, L13, k13, n13⟩, -, X13, ⟨Lc13, hQ13, l13, y13, z13⟩, st13⟩ := Jvm.LawKit.callS X10 hx (y := (⟨"java/util/Objects", "requireNonNull", "(Ljava/lang/Object;)Ljava/lang/Object;"⟩ : MethodName)) hown (mvT hZ (hw _ (List.mem_of_getElem? (i := 245) rfl))) (mvT hZ (hw _ (List.mem_of_getElem? (i := 181) rfl))) (mvT hZ (hw _ (List.mem_of_getElem? (i := 182) rfl))) (mvT hZ (hw _ (List.mem_of_getElem? (i := 183) rfl))) (by decide) (backOf (W := 2) (rm_rnn l Z a0 hw [] a2 h10 n0 Zs10) hZ (hw _ (List.mem_of_getElem? (i := 183) rfl)) (hw _ (List.mem_of_getElem? (i := 182) rfl)) (by decide) (by decide)) (g := (mkF m 19 #[.val (.ref a1), .val (.ref b2), .val (.int (2 : Int32))] [(.ref a2), (.int (2 : Int32)), (.ref b2)])) rfl (by rw [hml]; rfl) (argsL := [(.ref a2)]) (rest := [(.int (2 : Int32)), (.ref b2)]) (lenOf pd_7 rfl) rfl (by show 2 * 0 + _ ≤ _; exact Nat.le_of_eq rfl) (hb hby d35_19) (fun _ _ => ⟨rfl, e10, (by decide : 0 + 1 + 0 + 0 + 0 ≤ _), (by decide : 0 + 3 + 0 + 0 + 0 ≤ _)⟩)
  dsimp only [Pt.U, Pt.locs, Pt.cells, Pt.slots] at X13 l13 y13 z13 st13 hQ13
  subst l13 y13 z13
  obtain ⟨rfl, N13q, e13⟩ := hQ13
  have N13 := Fr.app N10 N13q
  refine own_go st13 ?_
  show own_Goes _ _ _ _ _ _ _ T13 (mkF m 22 #[.val (.ref a1), .val (.ref b2), .val (.int (2 : Int32))] [(.ref a2), (.int (2 : Int32)), (.ref b2)])
  have P14 : Arv Z h10 b2 k2 (.object "java/lang/Object") (3 : Int32) [(.ref a2), (.ref a2), .null] .null := V_b2_10.pad (pad_rep [(.ref a2), (.ref a2)] .null 1)
  obtain ⟨c14, A14, q14, S14, M14, H14, G14⟩ := id P14
  have hin14 := inb_of S14 (j := (2 : Int32)) ⟨by decide, by decide⟩
  obtain ⟨T14, h14, X14, e14, W14, st14⟩ := stR X13 hx hZ e13 A14 (j := (2 : Int32)) hin14 rfl (Sto.ofV A14 q14 O2 (Ins.of_exa E_a2_10 (hw _ (List.mem_of_getElem? (i := 97) rfl)))) (g := (mkF m 22 #[.val (.ref a1), .val (.ref b2), .val (.int (2 : Int32))] [(.ref a2), (.int (2 : Int32)), (.ref b2)])) rfl rfl (hb hby d35_22)
  have N14 := Fr.snoc X14 N13 lo_b2
  have V_s_14 : Arv Z h14 a1 kc (.object "java/lang/Object") (3 : Int32) [(.ref a2), (.ref a2), (.ref a2)] .null := V_s_10.other W14 ne_a1_b2
  have E_a2_14 : Exa Z h14 a2 "com/example/treellis/treellis/cfa/StructType$Member" := E_a2_10.wr W14
  have E_b2_14 : Exa Z h14 b2 "[Ljava/lang/Object;" := E_b2_10.wr W14
  have Zs14 : n0 ≤ h14.size := Nat.le_trans Zs10 (Keep.of_wr W14).1
  have Kp14 : Keep h0 h14 [] := Kp10.wr W14 (Or.inr bo_b2)
  have V_b2_14 : Arv Z h14 b2 k2 (.object "java/lang/Object") (3 : Int32) [(.ref a2), (.ref a2), (.ref a2)] .null := Arv.set A14 q14 S14 M14 H14 G14 rfl W14 2 rfl (Nat.le_of_ble_eq_true rfl)
  refine own_go st14 ?_
  show own_Goes _ _ _ _ _ _ _ T14 (mkF m 23 #[.val (.ref a1), .val (.ref b2), .val (.int (2 : Int32))] [])
  refine own_go (fun _ k => XS.iinc X14.here hx rfl (hb hby d35_23) rfl (l' := #[.val (.ref a1), .val (.ref b2), .val (.int (3 : Int32))]) rfl k) ?_
  show own_Goes _ _ _ _ _ _ _ T14 (mkF m 26 #[.val (.ref a1), .val (.ref b2), .val (.int (3 : Int32))] [])
  refine own_go (fun _ k => XS.goto X14.here hx rfl (pc0 := 26) (pc' := 8) rfl (hb hby d35_26) (by decide) (by decide) k) ?_
  show own_Goes _ _ _ _ _ _ _ T14 (mkF m 8 #[.val (.ref a1), .val (.ref b2), .val (.int (3 : Int32))] [])
  refine own_go (fun _ k => XS.iloadN X14.here hx rfl (hb hby d35_8) rfl k) ?_
  show own_Goes _ _ _ _ _ _ _ T14 (mkF m 9 #[.val (.ref a1), .val (.ref b2), .val (.int (3 : Int32))] [(.int (3 : Int32))])
  refine own_go (fun _ k => XS.aloadN X14.here hx rfl (hb hby d35_9) rfl rfl k) ?_
  show own_Goes _ _ _ _ _ _ _ T14 (mkF m 10 #[.val (.ref a1), .val (.ref b2), .val (.int (3 : Int32))] [(.ref a1), (.int (3 : Int32))])
  obtain ⟨c15, A15, q15, S15, M15, H15, G15⟩ := id V_s_14
  refine own_go (fun t k => X14.arraylength hx (by rw [e14]; exact A15.1) (State.isArrayOf_alike hZ.alike A15.2.1) (g := (mkF m 10 #[.val (.ref a1), .val (.ref b2), .val (.int (3 : Int32))] [(.ref a1), (.int (3 : Int32))])) rfl rfl (hb hby d35_10) t k) ?_
  rw [len_of S15 M15]
  show own_Goes _ _ _ _ _ _ _ T14 (mkF m 11 #[.val (.ref a1), .val (.ref b2), .val (.int (3 : Int32))] [(.int (3 : Int32)), (.int (3 : Int32))])
  refine own_go (fun _ k => XS.icmpYes X14.here hx rfl (pc0 := 11) (pc' := 29) rfl (hb hby d35_11) rfl (flt (by decide : ¬ ((3 : Int32) < (3 : Int32)))).2.1 (by decide) (by decide) k) ?_
  show own_Goes _ _ _ _ _ _ _ T14 (mkF m 29 #[.val (.ref a1), .val (.ref b2), .val (.int (3 : Int32))] [])
  obtain ⟨T16, h16, X16, e16, E16, A16, D16, -, st16⟩ := newO X14 hx hZ hown (hw _ (List.mem_of_getElem? (i := 116) rfl)) (hw _ (List.mem_of_getElem? (i := 246) rfl)) (hw _ (List.mem_of_getElem? (i := 247) rfl)) e14 (g := (mkF m 29 #[.val (.ref a1), .val (.ref b2), .val (.int (3 : Int32))] [])) rfl (hb hby d35_29) (by decide) (by decide)
  obtain ⟨b16, g16⟩ : ∃ z, z = h14.size := ⟨_, rfl⟩
  rw [← g16] at A16 D16 st16
  have lo_b16 : n0 ≤ b16 := Nat.le_trans Zs14 (Nat.le_of_eq g16.symm)
  have bo_b16 : h0.size ≤ b16 := Nat.le_trans Kp14.1 (Nat.le_of_eq g16.symm)
  have ne_a1_b16 : a1 ≠ b16 := Nat.ne_of_lt (Nat.lt_of_lt_of_le V_s_14.lt (Nat.le_of_eq g16.symm))
  have ne_a2_b16 : a2 ≠ b16 := Nat.ne_of_lt (Nat.lt_of_lt_of_le E_a2_14.lt (Nat.le_of_eq g16.symm))
  have ne_b2_b16 : b2 ≠ b16 := Nat.ne_of_lt (Nat.lt_of_lt_of_le E_b2_14.lt (Nat.le_of_eq g16.symm))
  have V_s_16 : Arv Z h16 a1 kc (.object "java/lang/Object") (3 : Int32) [(.ref a2), (.ref a2), (.ref a2)] .null := V_s_14.ext E16
  have E_a2_16 : Exa Z h16 a2 "com/example/treellis/treellis/cfa/StructType$Member" := E_a2_14.ext E16
  have E_b2_16 : Exa Z h16 b2 "[Ljava/lang/Object;" := E_b2_14.ext E16
  have V_b2_16 : Arv Z h16 b2 k2 (.object "java/lang/Object") (3 : Int32) [(.ref a2), (.ref a2), (.ref a2)] .null := V_b2_14.ext E16
  have Zs16 : n0 ≤ h16.size := Nat.le_trans Zs14 E16.1
  have Kp16 : Keep h0 h16 [] := Kp14.ext E16
  have F_elements_b16 : Fld Z h16 b16 "java/util/ImmutableCollections$ListN" "elements" "[Ljava/lang/Object;" .null := D16 (Or.inr (hw _ (List.mem_of_getElem? (i := 257) rfl))) (ty := (.array (.object "java/lang/Object"))) (by decide)
  have F_allowNulls_b16 : Fld Z h16 b16 "java/util/ImmutableCollections$ListN" "allowNulls" "Z" (.int (0 : Int32)) := D16 (Or.inr (hw _ (List.mem_of_getElem? (i := 259) rfl))) (ty := .boolean) (by decide)
  refine own_go st16 ?_
  show own_Goes _ _ _ _ _ _ _ T16 (mkF m 32 #[.val (.ref a1), .val (.ref b2), .val (.int (3 : Int32))] [(.ref b16)])
  refine own_go (fun _ k => XS.dup X16.here hx rfl (hb hby d35_32) rfl rfl k) ?_
  show own_Goes _ _ _ _ _ _ _ T16 (mkF m 33 #[.val (.ref a1), .val (.ref b2), .val (.int (3 : Int32))] [(.ref b16), (.ref b16)])
  refine own_go (fun _ k => XS.aloadN X16.here hx rfl (hb hby d35_33) rfl rfl k) ?_
  show own_Goes _ _ _ _ _ _ _ T16 (mkF m 34 #[.val (.ref a1), .val (.ref b2), .val (.int (3 : Int32))] [(.ref b2), (.ref b16), (.ref b16)])
  refine own_go (fun _ k => XS.iconst X16.here hx rfl (hb hby d35_34) k) ?_
  show own_Goes _ _ _ _ _ _ _ T16 (mkF m 35 #[.val (.ref a1), .val (.ref b2), .val (.int (3 : Int32))] [(.int (0 : Int32)), (.ref b2), (.ref b16), (.ref b16)])
  obtain ⟨_, _, ⟨T17, L17, k17, n17⟩, -, X17, ⟨Lc17, hQ17, l17, y17, z17⟩, st17⟩ := X16.specialBackNest hx (y := (⟨"java/util/ImmutableCollections$ListN", "<init>", "([Ljava/lang/Object;Z)V"⟩ : MethodName)) rfl hown (mvM hZ (hw _ (List.mem_of_getElem? (i := 248) rfl))) (mvT hZ (hw _ (List.mem_of_getElem? (i := 249) rfl))) (mvT hZ (hw _ (List.mem_of_getElem? (i := 251) rfl))) (by decide) (backOf (W := 1) (rm_ln l Z a0 hw [] b16 b2 h16 n0 Zs16 A16 F_elements_b16 F_allowNulls_b16 lo_b16) hZ (hw _ (List.mem_of_getElem? (i := 251) rfl)) (hw _ (List.mem_of_getElem? (i := 247) rfl)) (by decide) (by decide)) (g := (mkF m 35 #[.val (.ref a1), .val (.ref b2), .val (.int (3 : Int32))] [(.int (0 : Int32)), (.ref b2), (.ref b16), (.ref b16)])) rfl (by rw [hml]; rfl) (Steps.refl _) (a := b16) (argsL := [(.ref b2), (.int (0 : Int32))]) (rest := [(.ref b16)]) (lenOf pd_8 rfl) rfl (by show 2 * 0 + _ ≤ _; exact Nat.le_of_eq rfl) (hb hby d35_35) (fun _ _ => ⟨rfl, e16, (by decide : 0 + 1 + 0 + 0 + 0 + 1 + 0 ≤ _), (by decide : 0 + 3 + 0 + 0 + 0 + 2 + 0 ≤ _)⟩)
  dsimp only [Pt.U, Pt.locs, Pt.cells, Pt.slots] at X17 l17 y17 z17 st17 hQ17
  subst l17 y17 z17
  obtain ⟨rfl, N17q, K17, Fa17⟩ := hQ17
  have N17 := Fr.app N14 N17q
  refine own_goS st17 ?_
  show own_Goes _ _ _ _ _ _ _ T17 (mkF m 38 #[.val (.ref a1), .val (.ref b2), .val (.int (3 : Int32))] [(.ref b16)])
  have V_s_17 : Arv Z T17.heap a1 kc (.object "java/lang/Object") (3 : Int32) [(.ref a2), (.ref a2), (.ref a2)] .null := V_s_16.keep K17 (ninS ne_a1_b16 nin0)
  have E_a2_17 : Exa Z T17.heap a2 "com/example/treellis/treellis/cfa/StructType$Member" := E_a2_16.keep K17
  have E_b2_17 : Exa Z T17.heap b2 "[Ljava/lang/Object;" := E_b2_16.keep K17
  have V_b2_17 : Arv Z T17.heap b2 k2 (.object "java/lang/Object") (3 : Int32) [(.ref a2), (.ref a2), (.ref a2)] .null := V_b2_16.keep K17 (ninS ne_b2_b16 nin0)
  have E_b16_17 : Exa Z T17.heap b16 "java/util/ImmutableCollections$ListN" := A16.keep K17
  have Zs17 : n0 ≤ T17.heap.size := Nat.le_trans Zs16 K17.1
  have Kp17 : Keep h0 T17.heap [] := Kp16.trans K17 (allS (Or.inr bo_b16) all0)
  exact own_retA X17 hx hlk hret rfl rfl (hb hby d35_38) (by decide) (by decide) ⟨b16, b2, _, rfl, N17, bo_b16, bo_b2, Kp17, E_b16_17, Fa17, V_b2_17⟩
def Q_rm_of1 (Z : State) (h0 : Heap) (n0 : Nat) (aE : Addr) (v : Option Value) (h : Heap) (L : List Loc) : Prop := ∃ r, v = some (.ref r) ∧ Fr n0 L ∧ h0.size ≤ r ∧ Keep h0 h [] ∧ Exa Z h r "java/util/ImmutableCollections$List12" ∧ Fld Z h r "java/util/ImmutableCollections$List12" "e1" "Ljava/lang/Object;" (.ref aE)
set_option maxRecDepth 65536 in
set_option maxHeartbeats 40000000 in
theorem rm_of1 (l : Launch) (Z : State) (a0 : Array Value) (hw : ∀ d ∈ tables_1, d.before a0 Z = true) (ws : List Jvm.Cond) (a1 a2 aE : Addr) (kc : ClassId) (h0 : Heap) (n0 : Nat) (Z0 : n0 ≤ h0.size) (V_s : Arv Z h0 a1 kc (.object "java/lang/Object") (1 : Int32) [(.ref a2)] .null) (E_a2 : Exa Z h0 a2 "com/example/treellis/treellis/cfa/StructType$Member") (ne_a1_a2 : a1 ≠ a2) (SE : Sta Z Z.heap "java/util/ImmutableCollections" "EMPTY" "Ljava/lang/Object;" (.ref aE)) (Od0 : Old Z n0 h0) :
    MetFree l (⟨"java/util/List", "of", "([Ljava/lang/Object;)Ljava/util/List;"⟩ : MethodName) (head1 (Jvm.Cond.code (⟨"java/util/List", "of", "([Ljava/lang/Object;)Ljava/util/List;"⟩ : MethodName) jdk_40_method_47_code 2 (some (.object "java/util/List")) :: ws) ({ frames := 5, cells := 1, slots := 2, locals := 62 } : Room)) (fun a U => a = #[(.ref a1)] ∧ Z.Warmed39 U.vm ∧ U.heap = h0) (fun _ _ _ _ _ => True) (fun _ U o U' => ∃ rv rL, o = .returned rv ∧ Q_rm_of1 Z h0 n0 aE rv U'.heap rL ∧ FrameEnd U o U' rL ({ frames := 5, cells := 1, slots := 2, locals := 62 } : Room).cells ({ frames := 5, cells := 1, slots := 2, locals := 62 } : Room).slots) := by
  refine own_met (y := (⟨"java/util/List", "of", "([Ljava/lang/Object;)Ljava/util/List;"⟩ : MethodName)) (Q := Q_rm_of1 Z h0 n0 aE) (own := "java/util/List") rfl (plainFor_of_name pn_22) ?_
  intro p e s m below meth c s₁ C e0 X0
  obtain ⟨hx, hby, hml, hown, hnm, hret, hlk, hZ⟩ := C
  have N0 := Fr.nil n0
  rw [ef_22]
  have Kp0 : Keep h0 h0 [] := Keep.refl h0 _
  show own_Goes _ _ _ _ _ _ _ s₁ (mkF m 0 #[.val (.ref a1), .unset] [])
  refine own_go (fun _ k => XS.aloadN X0.here hx rfl (hb hby d22_0) rfl rfl k) ?_
  show own_Goes _ _ _ _ _ _ _ s₁ (mkF m 1 #[.val (.ref a1), .unset] [(.ref a1)])
  obtain ⟨c1, A1, q1, S1, M1, H1, G1⟩ := id V_s
  refine own_go (fun t k => X0.arraylength hx (by rw [e0]; exact A1.1) (State.isArrayOf_alike hZ.alike A1.2.1) (g := (mkF m 1 #[.val (.ref a1), .unset] [(.ref a1)])) rfl rfl (hb hby d22_1) t k) ?_
  rw [len_of S1 M1]
  show own_Goes _ _ _ _ _ _ _ s₁ (mkF m 2 #[.val (.ref a1), .unset] [(.int (1 : Int32))])
  refine own_go (fun _ k => XS.tswIn X0.here hx rfl (pc0 := 2) (pc' := 34) (o := 32) rfl (hb hby d22_2) rfl (by decide) rfl (by decide) rfl k) ?_
  show own_Goes _ _ _ _ _ _ _ s₁ (mkF m 34 #[.val (.ref a1), .unset] [])
  obtain ⟨T2, h2, X2, e2, E2, A2, D2, -, st2⟩ := newO X0 hx hZ hown (hw _ (List.mem_of_getElem? (i := 159) rfl)) (hw _ (List.mem_of_getElem? (i := 160) rfl)) (hw _ (List.mem_of_getElem? (i := 161) rfl)) e0 (g := (mkF m 34 #[.val (.ref a1), .unset] [])) rfl (hb hby d22_34) (by decide) (by decide)
  obtain ⟨b2, g2⟩ : ∃ z, z = h0.size := ⟨_, rfl⟩
  rw [← g2] at A2 D2 st2
  have lo_b2 : n0 ≤ b2 := Nat.le_trans Z0 (Nat.le_of_eq g2.symm)
  have bo_b2 : h0.size ≤ b2 := Nat.le_trans Kp0.1 (Nat.le_of_eq g2.symm)
  have ne_a1_b2 : a1 ≠ b2 := Nat.ne_of_lt (Nat.lt_of_lt_of_le V_s.lt (Nat.le_of_eq g2.symm))
  have ne_a2_b2 : a2 ≠ b2 := Nat.ne_of_lt (Nat.lt_of_lt_of_le E_a2.lt (Nat.le_of_eq g2.symm))
  have V_s_2 : Arv Z h2 a1 kc (.object "java/lang/Object") (1 : Int32) [(.ref a2)] .null := V_s.ext E2
  have E_a2_2 : Exa Z h2 a2 "com/example/treellis/treellis/cfa/StructType$Member" := E_a2.ext E2
  have Zs2 : n0 ≤ h2.size := Nat.le_trans Z0 E2.1
  have Kp2 : Keep h0 h2 [] := Kp0.ext E2
  have Od2 : Old Z n0 h2 := Od0.ext E2
  have F_e0_b2 : Fld Z h2 b2 "java/util/ImmutableCollections$List12" "e0" "Ljava/lang/Object;" .null := D2 (Or.inr (hw _ (List.mem_of_getElem? (i := 185) rfl))) (ty := (.object "java/lang/Object")) (by decide)
  have F_e1_b2 : Fld Z h2 b2 "java/util/ImmutableCollections$List12" "e1" "Ljava/lang/Object;" .null := D2 (Or.inr (hw _ (List.mem_of_getElem? (i := 187) rfl))) (ty := (.object "java/lang/Object")) (by decide)
  refine own_go st2 ?_
  show own_Goes _ _ _ _ _ _ _ T2 (mkF m 37 #[.val (.ref a1), .unset] [(.ref b2)])
  refine own_go (fun _ k => XS.dup X2.here hx rfl (hb hby d22_37) rfl rfl k) ?_
  show own_Goes _ _ _ _ _ _ _ T2 (mkF m 38 #[.val (.ref a1), .unset] [(.ref b2), (.ref b2)])
  refine own_go (fun _ k => XS.aloadN X2.here hx rfl (hb hby d22_38) rfl rfl k) ?_
  show own_Goes _ _ _ _ _ _ _ T2 (mkF m 39 #[.val (.ref a1), .unset] [(.ref a1), (.ref b2), (.ref b2)])
  refine own_go (fun _ k => XS.iconst X2.here hx rfl (hb hby d22_39) k) ?_
  show own_Goes _ _ _ _ _ _ _ T2 (mkF m 40 #[.val (.ref a1), .unset] [(.int (0 : Int32)), (.ref a1), (.ref b2), (.ref b2)])
  obtain ⟨c3, A3, q3, S3, M3, H3, G3⟩ := id V_s_2
  have hin3 := inb_of S3 (j := (0 : Int32)) ⟨by decide, by decide⟩
  refine own_go (fun t k => X2.aaload hx (j := (0 : Int32)) (v := (.ref a2)) (by rw [e2]; exact A3.1) (State.isArrayOf_alike hZ.alike A3.2.1) rfl A3.2.2 hin3 (H3.at hin3 rfl) (g := (mkF m 40 #[.val (.ref a1), .unset] [(.int (0 : Int32)), (.ref a1), (.ref b2), (.ref b2)])) rfl rfl (hb hby d22_40) t k) ?_
  show own_Goes _ _ _ _ _ _ _ T2 (mkF m 41 #[.val (.ref a1), .unset] [(.ref a2), (.ref b2), (.ref b2)])
  obtain ⟨_, _, ⟨T4, L4, k4, n4⟩, -, X4, ⟨Lc4, hQ4, l4, y4, z4⟩, st4⟩ := X2.specialBack hx (y := (⟨"java/util/ImmutableCollections$List12", "<init>", "(Ljava/lang/Object;)V"⟩ : MethodName)) rfl hown (mvT hZ (hw _ (List.mem_of_getElem? (i := 238) rfl))) (mvT hZ (hw _ (List.mem_of_getElem? (i := 239) rfl))) (mvT hZ (hw _ (List.mem_of_getElem? (i := 240) rfl))) (by decide) (backOf (W := 1) (rm_l1 l Z a0 hw [] b2 a2 aE h2 n0 Zs2 A2 F_e0_b2 F_e1_b2 lo_b2 SE Od2) hZ (hw _ (List.mem_of_getElem? (i := 240) rfl)) (hw _ (List.mem_of_getElem? (i := 161) rfl)) (by decide) (by decide)) (g := (mkF m 41 #[.val (.ref a1), .unset] [(.ref a2), (.ref b2), (.ref b2)])) rfl (by rw [hml]; rfl) (Steps.refl _) (a := b2) (argsL := [(.ref a2)]) (rest := [(.ref b2)]) (lenOf pd_9 rfl) rfl (by show 2 * 0 + _ ≤ _; exact Nat.le_of_eq rfl) (hb hby d22_41) (fun _ _ => ⟨rfl, e2, (by decide : 0 + 1 + 0 ≤ _), (by decide : 0 + 2 + 0 ≤ _)⟩)
  dsimp only [Pt.U, Pt.locs, Pt.cells, Pt.slots] at X4 l4 y4 z4 st4 hQ4
  subst l4 y4 z4
  obtain ⟨rfl, N4q, K4, Fa4⟩ := hQ4
  have N4 := Fr.app N0 N4q
  refine own_goS st4 ?_
  show own_Goes _ _ _ _ _ _ _ T4 (mkF m 44 #[.val (.ref a1), .unset] [(.ref b2)])
  have V_s_4 : Arv Z T4.heap a1 kc (.object "java/lang/Object") (1 : Int32) [(.ref a2)] .null := V_s_2.keep K4 (ninS ne_a1_b2 nin0)
  have E_a2_4 : Exa Z T4.heap a2 "com/example/treellis/treellis/cfa/StructType$Member" := E_a2_2.keep K4
  have E_b2_4 : Exa Z T4.heap b2 "java/util/ImmutableCollections$List12" := A2.keep K4
  have Zs4 : n0 ≤ T4.heap.size := Nat.le_trans Zs2 K4.1
  have Kp4 : Keep h0 T4.heap [] := Kp2.trans K4 (allS (Or.inr bo_b2) all0)
  have Od4 : Old Z n0 T4.heap := Od2.keep K4 (allS lo_b2 all0)
  exact own_retA X4 hx hlk hret rfl rfl (hb hby d22_44) (by decide) (by decide) ⟨b2, rfl, N4, bo_b2, Kp4, E_b2_4, Fa4⟩
def Q_rm_of2 (Z : State) (h0 : Heap) (n0 : Nat) (a2 : Addr) (v : Option Value) (h : Heap) (L : List Loc) : Prop := ∃ r, v = some (.ref r) ∧ Fr n0 L ∧ h0.size ≤ r ∧ Keep h0 h [] ∧ Exa Z h r "java/util/ImmutableCollections$List12" ∧ Fld Z h r "java/util/ImmutableCollections$List12" "e1" "Ljava/lang/Object;" (.ref a2)
set_option maxRecDepth 65536 in
set_option maxHeartbeats 40000000 in
theorem rm_of2 (l : Launch) (Z : State) (a0 : Array Value) (hw : ∀ d ∈ tables_1, d.before a0 Z = true) (ws : List Jvm.Cond) (a1 a2 aE : Addr) (kc : ClassId) (h0 : Heap) (n0 : Nat) (Z0 : n0 ≤ h0.size) (V_s : Arv Z h0 a1 kc (.object "java/lang/Object") (2 : Int32) [(.ref a2), (.ref a2)] .null) (E_a2 : Exa Z h0 a2 "com/example/treellis/treellis/cfa/StructType$Member") (ne_a1_a2 : a1 ≠ a2) (SE : Sta Z Z.heap "java/util/ImmutableCollections" "EMPTY" "Ljava/lang/Object;" (.ref aE)) (Od0 : Old Z n0 h0) :
    MetFree l (⟨"java/util/List", "of", "([Ljava/lang/Object;)Ljava/util/List;"⟩ : MethodName) (head1 (Jvm.Cond.code (⟨"java/util/List", "of", "([Ljava/lang/Object;)Ljava/util/List;"⟩ : MethodName) jdk_40_method_47_code 2 (some (.object "java/util/List")) :: ws) ({ frames := 5, cells := 1, slots := 2, locals := 63 } : Room)) (fun a U => a = #[(.ref a1)] ∧ Z.Warmed39 U.vm ∧ U.heap = h0) (fun _ _ _ _ _ => True) (fun _ U o U' => ∃ rv rL, o = .returned rv ∧ Q_rm_of2 Z h0 n0 a2 rv U'.heap rL ∧ FrameEnd U o U' rL ({ frames := 5, cells := 1, slots := 2, locals := 63 } : Room).cells ({ frames := 5, cells := 1, slots := 2, locals := 63 } : Room).slots) := by
  refine own_met (y := (⟨"java/util/List", "of", "([Ljava/lang/Object;)Ljava/util/List;"⟩ : MethodName)) (Q := Q_rm_of2 Z h0 n0 a2) (own := "java/util/List") rfl (plainFor_of_name pn_22) ?_
  intro p e s m below meth c s₁ C e0 X0
  obtain ⟨hx, hby, hml, hown, hnm, hret, hlk, hZ⟩ := C
  have N0 := Fr.nil n0
  rw [ef_22]
  have Kp0 : Keep h0 h0 [] := Keep.refl h0 _
  show own_Goes _ _ _ _ _ _ _ s₁ (mkF m 0 #[.val (.ref a1), .unset] [])
  refine own_go (fun _ k => XS.aloadN X0.here hx rfl (hb hby d22_0) rfl rfl k) ?_
  show own_Goes _ _ _ _ _ _ _ s₁ (mkF m 1 #[.val (.ref a1), .unset] [(.ref a1)])
  obtain ⟨c1, A1, q1, S1, M1, H1, G1⟩ := id V_s
  refine own_go (fun t k => X0.arraylength hx (by rw [e0]; exact A1.1) (State.isArrayOf_alike hZ.alike A1.2.1) (g := (mkF m 1 #[.val (.ref a1), .unset] [(.ref a1)])) rfl rfl (hb hby d22_1) t k) ?_
  rw [len_of S1 M1]
  show own_Goes _ _ _ _ _ _ _ s₁ (mkF m 2 #[.val (.ref a1), .unset] [(.int (2 : Int32))])
  refine own_go (fun _ k => XS.tswIn X0.here hx rfl (pc0 := 2) (pc' := 45) (o := 43) rfl (hb hby d22_2) rfl (by decide) rfl (by decide) rfl k) ?_
  show own_Goes _ _ _ _ _ _ _ s₁ (mkF m 45 #[.val (.ref a1), .unset] [])
  obtain ⟨T2, h2, X2, e2, E2, A2, D2, -, st2⟩ := newO X0 hx hZ hown (hw _ (List.mem_of_getElem? (i := 159) rfl)) (hw _ (List.mem_of_getElem? (i := 160) rfl)) (hw _ (List.mem_of_getElem? (i := 161) rfl)) e0 (g := (mkF m 45 #[.val (.ref a1), .unset] [])) rfl (hb hby d22_45) (by decide) (by decide)
  obtain ⟨b2, g2⟩ : ∃ z, z = h0.size := ⟨_, rfl⟩
  rw [← g2] at A2 D2 st2
  have lo_b2 : n0 ≤ b2 := Nat.le_trans Z0 (Nat.le_of_eq g2.symm)
  have bo_b2 : h0.size ≤ b2 := Nat.le_trans Kp0.1 (Nat.le_of_eq g2.symm)
  have ne_a1_b2 : a1 ≠ b2 := Nat.ne_of_lt (Nat.lt_of_lt_of_le V_s.lt (Nat.le_of_eq g2.symm))
  have ne_a2_b2 : a2 ≠ b2 := Nat.ne_of_lt (Nat.lt_of_lt_of_le E_a2.lt (Nat.le_of_eq g2.symm))
  have V_s_2 : Arv Z h2 a1 kc (.object "java/lang/Object") (2 : Int32) [(.ref a2), (.ref a2)] .null := V_s.ext E2
  have E_a2_2 : Exa Z h2 a2 "com/example/treellis/treellis/cfa/StructType$Member" := E_a2.ext E2
  have Zs2 : n0 ≤ h2.size := Nat.le_trans Z0 E2.1
  have Kp2 : Keep h0 h2 [] := Kp0.ext E2
  have Od2 : Old Z n0 h2 := Od0.ext E2
  have F_e0_b2 : Fld Z h2 b2 "java/util/ImmutableCollections$List12" "e0" "Ljava/lang/Object;" .null := D2 (Or.inr (hw _ (List.mem_of_getElem? (i := 185) rfl))) (ty := (.object "java/lang/Object")) (by decide)
  have F_e1_b2 : Fld Z h2 b2 "java/util/ImmutableCollections$List12" "e1" "Ljava/lang/Object;" .null := D2 (Or.inr (hw _ (List.mem_of_getElem? (i := 187) rfl))) (ty := (.object "java/lang/Object")) (by decide)
  refine own_go st2 ?_
  show own_Goes _ _ _ _ _ _ _ T2 (mkF m 48 #[.val (.ref a1), .unset] [(.ref b2)])
  refine own_go (fun _ k => XS.dup X2.here hx rfl (hb hby d22_48) rfl rfl k) ?_
  show own_Goes _ _ _ _ _ _ _ T2 (mkF m 49 #[.val (.ref a1), .unset] [(.ref b2), (.ref b2)])
  refine own_go (fun _ k => XS.aloadN X2.here hx rfl (hb hby d22_49) rfl rfl k) ?_
  show own_Goes _ _ _ _ _ _ _ T2 (mkF m 50 #[.val (.ref a1), .unset] [(.ref a1), (.ref b2), (.ref b2)])
  refine own_go (fun _ k => XS.iconst X2.here hx rfl (hb hby d22_50) k) ?_
  show own_Goes _ _ _ _ _ _ _ T2 (mkF m 51 #[.val (.ref a1), .unset] [(.int (0 : Int32)), (.ref a1), (.ref b2), (.ref b2)])
  obtain ⟨c3, A3, q3, S3, M3, H3, G3⟩ := id V_s_2
  have hin3 := inb_of S3 (j := (0 : Int32)) ⟨by decide, by decide⟩
  refine own_go (fun t k => X2.aaload hx (j := (0 : Int32)) (v := (.ref a2)) (by rw [e2]; exact A3.1) (State.isArrayOf_alike hZ.alike A3.2.1) rfl A3.2.2 hin3 (H3.at hin3 rfl) (g := (mkF m 51 #[.val (.ref a1), .unset] [(.int (0 : Int32)), (.ref a1), (.ref b2), (.ref b2)])) rfl rfl (hb hby d22_51) t k) ?_
  show own_Goes _ _ _ _ _ _ _ T2 (mkF m 52 #[.val (.ref a1), .unset] [(.ref a2), (.ref b2), (.ref b2)])
  refine own_go (fun _ k => XS.aloadN X2.here hx rfl (hb hby d22_52) rfl rfl k) ?_
  show own_Goes _ _ _ _ _ _ _ T2 (mkF m 53 #[.val (.ref a1), .unset] [(.ref a1), (.ref a2), (.ref b2), (.ref b2)])
  refine own_go (fun _ k => XS.iconst X2.here hx rfl (hb hby d22_53) k) ?_
  show own_Goes _ _ _ _ _ _ _ T2 (mkF m 54 #[.val (.ref a1), .unset] [(.int (1 : Int32)), (.ref a1), (.ref a2), (.ref b2), (.ref b2)])
  obtain ⟨c4, A4, q4, S4, M4, H4, G4⟩ := id V_s_2
  have hin4 := inb_of S4 (j := (1 : Int32)) ⟨by decide, by decide⟩
  refine own_go (fun t k => X2.aaload hx (j := (1 : Int32)) (v := (.ref a2)) (by rw [e2]; exact A4.1) (State.isArrayOf_alike hZ.alike A4.2.1) rfl A4.2.2 hin4 (H4.at hin4 rfl) (g := (mkF m 54 #[.val (.ref a1), .unset] [(.int (1 : Int32)), (.ref a1), (.ref a2), (.ref b2), (.ref b2)])) rfl rfl (hb hby d22_54) t k) ?_
  show own_Goes _ _ _ _ _ _ _ T2 (mkF m 55 #[.val (.ref a1), .unset] [(.ref a2), (.ref a2), (.ref b2), (.ref b2)])
  obtain ⟨_, _, ⟨T5, L5, k5, n5⟩, -, X5, ⟨Lc5, hQ5, l5, y5, z5⟩, st5⟩ := X2.specialBack hx (y := (⟨"java/util/ImmutableCollections$List12", "<init>", "(Ljava/lang/Object;Ljava/lang/Object;)V"⟩ : MethodName)) rfl hown (mvT hZ (hw _ (List.mem_of_getElem? (i := 162) rfl))) (mvT hZ (hw _ (List.mem_of_getElem? (i := 163) rfl))) (mvT hZ (hw _ (List.mem_of_getElem? (i := 165) rfl))) (by decide) (backOf (W := 1) (rm_l2 l Z a0 hw [] b2 a2 a2 h2 n0 Zs2 A2 F_e0_b2 F_e1_b2 lo_b2) hZ (hw _ (List.mem_of_getElem? (i := 165) rfl)) (hw _ (List.mem_of_getElem? (i := 161) rfl)) (by decide) (by decide)) (g := (mkF m 55 #[.val (.ref a1), .unset] [(.ref a2), (.ref a2), (.ref b2), (.ref b2)])) rfl (by rw [hml]; rfl) (Steps.refl _) (a := b2) (argsL := [(.ref a2), (.ref a2)]) (rest := [(.ref b2)]) (lenOf pd_10 rfl) rfl (by show 2 * 0 + _ ≤ _; exact Nat.le_of_eq rfl) (hb hby d22_55) (fun _ _ => ⟨rfl, e2, (by decide : 0 + 1 + 0 ≤ _), (by decide : 0 + 2 + 0 ≤ _)⟩)
  dsimp only [Pt.U, Pt.locs, Pt.cells, Pt.slots] at X5 l5 y5 z5 st5 hQ5
  subst l5 y5 z5
  obtain ⟨rfl, N5q, K5, Fa5⟩ := hQ5
  have N5 := Fr.app N0 N5q
  refine own_goS st5 ?_
  show own_Goes _ _ _ _ _ _ _ T5 (mkF m 58 #[.val (.ref a1), .unset] [(.ref b2)])
  have V_s_5 : Arv Z T5.heap a1 kc (.object "java/lang/Object") (2 : Int32) [(.ref a2), (.ref a2)] .null := V_s_2.keep K5 (ninS ne_a1_b2 nin0)
  have E_a2_5 : Exa Z T5.heap a2 "com/example/treellis/treellis/cfa/StructType$Member" := E_a2_2.keep K5
  have E_b2_5 : Exa Z T5.heap b2 "java/util/ImmutableCollections$List12" := A2.keep K5
  have Zs5 : n0 ≤ T5.heap.size := Nat.le_trans Zs2 K5.1
  have Kp5 : Keep h0 T5.heap [] := Kp2.trans K5 (allS (Or.inr bo_b2) all0)
  have Od5 : Old Z n0 T5.heap := Od2.keep K5 (allS lo_b2 all0)
  exact own_retA X5 hx hlk hret rfl rfl (hb hby d22_58) (by decide) (by decide) ⟨b2, rfl, N5, bo_b2, Kp5, E_b2_5, Fa5⟩
def Q_rm_of3 (Z : State) (h0 : Heap) (n0 : Nat) (a2 : Addr) (v : Option Value) (h : Heap) (L : List Loc) : Prop := ∃ r e ke, v = some (.ref r) ∧ Fr n0 L ∧ h0.size ≤ r ∧ h0.size ≤ e ∧ Keep h0 h [] ∧ Exa Z h r "java/util/ImmutableCollections$ListN" ∧ Fld Z h r "java/util/ImmutableCollections$ListN" "elements" "[Ljava/lang/Object;" (.ref e) ∧ Arv Z h e ke (.object "java/lang/Object") (3 : Int32) [(.ref a2), (.ref a2), (.ref a2)] .null
set_option maxRecDepth 65536 in
set_option maxHeartbeats 40000000 in
theorem rm_of3 (l : Launch) (Z : State) (a0 : Array Value) (hw : ∀ d ∈ tables_1, d.before a0 Z = true) (ws : List Jvm.Cond) (a1 a2 : Addr) (kc : ClassId) (h0 : Heap) (n0 : Nat) (Z0 : n0 ≤ h0.size) (V_s : Arv Z h0 a1 kc (.object "java/lang/Object") (3 : Int32) [(.ref a2), (.ref a2), (.ref a2)] .null) (E_a2 : Exa Z h0 a2 "com/example/treellis/treellis/cfa/StructType$Member") (ne_a1_a2 : a1 ≠ a2) :
    MetFree l (⟨"java/util/List", "of", "([Ljava/lang/Object;)Ljava/util/List;"⟩ : MethodName) (head1 (Jvm.Cond.code (⟨"java/util/List", "of", "([Ljava/lang/Object;)Ljava/util/List;"⟩ : MethodName) jdk_40_method_47_code 2 (some (.object "java/util/List")) :: ws) ({ frames := 6, cells := 2, slots := 5, locals := 77 } : Room)) (fun a U => a = #[(.ref a1)] ∧ Z.Warmed39 U.vm ∧ U.heap = h0) (fun _ _ _ _ _ => True) (fun _ U o U' => ∃ rv rL, o = .returned rv ∧ Q_rm_of3 Z h0 n0 a2 rv U'.heap rL ∧ FrameEnd U o U' rL ({ frames := 6, cells := 2, slots := 5, locals := 77 } : Room).cells ({ frames := 6, cells := 2, slots := 5, locals := 77 } : Room).slots) := by
  refine own_met (y := (⟨"java/util/List", "of", "([Ljava/lang/Object;)Ljava/util/List;"⟩ : MethodName)) (Q := Q_rm_of3 Z h0 n0 a2) (own := "java/util/List") rfl (plainFor_of_name pn_22) ?_
  intro p e s m below meth c s₁ C e0 X0
  obtain ⟨hx, hby, hml, hown, hnm, hret, hlk, hZ⟩ := C
  have N0 := Fr.nil n0
  rw [ef_22]
  have Kp0 : Keep h0 h0 [] := Keep.refl h0 _
  show own_Goes _ _ _ _ _ _ _ s₁ (mkF m 0 #[.val (.ref a1), .unset] [])
  refine own_go (fun _ k => XS.aloadN X0.here hx rfl (hb hby d22_0) rfl rfl k) ?_
  show own_Goes _ _ _ _ _ _ _ s₁ (mkF m 1 #[.val (.ref a1), .unset] [(.ref a1)])
  obtain ⟨c1, A1, q1, S1, M1, H1, G1⟩ := id V_s
  refine own_go (fun t k => X0.arraylength hx (by rw [e0]; exact A1.1) (State.isArrayOf_alike hZ.alike A1.2.1) (g := (mkF m 1 #[.val (.ref a1), .unset] [(.ref a1)])) rfl rfl (hb hby d22_1) t k) ?_
  rw [len_of S1 M1]
  show own_Goes _ _ _ _ _ _ _ s₁ (mkF m 2 #[.val (.ref a1), .unset] [(.int (3 : Int32))])
  refine own_go (fun _ k => XS.tswOut X0.here hx rfl (pc0 := 2) (pc' := 59) rfl (hb hby d22_2) rfl (by decide) (by decide) rfl k) ?_
  show own_Goes _ _ _ _ _ _ _ s₁ (mkF m 59 #[.val (.ref a1), .unset] [])
  refine own_go (fun _ k => XS.aloadN X0.here hx rfl (hb hby d22_59) rfl rfl k) ?_
  show own_Goes _ _ _ _ _ _ _ s₁ (mkF m 60 #[.val (.ref a1), .unset] [(.ref a1)])
  obtain ⟨_, _, ⟨T2, L2, k2, n2⟩, -, X2, ⟨Lc2, hQ2, l2, y2, z2⟩, st2⟩ := Jvm.LawKit.callS X0 hx (y := (⟨"java/util/ImmutableCollections", "listFromArray", "([Ljava/lang/Object;)Ljava/util/List;"⟩ : MethodName)) hown (mvT hZ (hw _ (List.mem_of_getElem? (i := 241) rfl))) (mvT hZ (hw _ (List.mem_of_getElem? (i := 242) rfl))) (mvT hZ (hw _ (List.mem_of_getElem? (i := 109) rfl))) (mvT hZ (hw _ (List.mem_of_getElem? (i := 243) rfl))) (by decide) (backOf (W := 0) (rm_lfa l Z a0 hw [] a1 a2 kc h0 n0 Z0 V_s E_a2 ne_a1_a2) hZ (hw _ (List.mem_of_getElem? (i := 243) rfl)) (hw _ (List.mem_of_getElem? (i := 109) rfl)) (by decide) (by decide)) (g := (mkF m 60 #[.val (.ref a1), .unset] [(.ref a1)])) rfl (by rw [hml]; rfl) (argsL := [(.ref a1)]) (rest := []) (lenOf pd_11 rfl) rfl (by show 2 * 0 + _ ≤ _; exact Nat.le_of_eq rfl) (hb hby d22_60) (fun _ _ => ⟨rfl, e0, (by decide : 0 + 2 ≤ _), (by decide : 0 + 5 ≤ _)⟩)
  dsimp only [Pt.U, Pt.locs, Pt.cells, Pt.slots] at X2 l2 y2 z2 st2 hQ2
  subst l2 y2 z2
  obtain ⟨rr2, ee2, ke2, rfl, N2q, hr2, he2, K2, Ex2, Fa2, Va2⟩ := hQ2
  have N2 := Fr.app N0 N2q
  refine own_go st2 ?_
  show own_Goes _ _ _ _ _ _ _ T2 (mkF m 63 #[.val (.ref a1), .unset] [(.ref rr2)])
  have V_s_2 : Arv Z T2.heap a1 kc (.object "java/lang/Object") (3 : Int32) [(.ref a2), (.ref a2), (.ref a2)] .null := V_s.keep K2 nin0
  have E_a2_2 : Exa Z T2.heap a2 "com/example/treellis/treellis/cfa/StructType$Member" := E_a2.keep K2
  have Zs2 : n0 ≤ T2.heap.size := Nat.le_trans Z0 K2.1
  have Kp2 : Keep h0 T2.heap [] := Kp0.trans K2 all0
  have lo_rr2 : n0 ≤ rr2 := Nat.le_trans Z0 hr2
  have bo_rr2 : h0.size ≤ rr2 := Nat.le_trans Kp0.1 hr2
  have ne_a1_rr2 : a1 ≠ rr2 := Nat.ne_of_lt (Nat.lt_of_lt_of_le V_s.lt hr2)
  have ne_a2_rr2 : a2 ≠ rr2 := Nat.ne_of_lt (Nat.lt_of_lt_of_le E_a2.lt hr2)
  have lo_ee2 : n0 ≤ ee2 := Nat.le_trans Z0 he2
  have bo_ee2 : h0.size ≤ ee2 := Nat.le_trans Kp0.1 he2
  have ne_a1_ee2 : a1 ≠ ee2 := Nat.ne_of_lt (Nat.lt_of_lt_of_le V_s.lt he2)
  have ne_a2_ee2 : a2 ≠ ee2 := Nat.ne_of_lt (Nat.lt_of_lt_of_le E_a2.lt he2)
  exact own_retA X2 hx hlk hret rfl rfl (hb hby d22_63) (by decide) (by decide) ⟨rr2, ee2, _, rfl, N2, bo_rr2, bo_ee2, Kp2, Ex2, Fa2, Va2⟩
def Q_rm_of0 (Z : State) (h0 : Heap) (n0 : Nat) (aL : Addr) (v : Option Value) (h : Heap) (L : List Loc) : Prop := v = some (.ref aL) ∧ Fr n0 L ∧ h = h0
set_option maxRecDepth 65536 in
set_option maxHeartbeats 40000000 in
theorem rm_of0 (l : Launch) (Z : State) (a0 : Array Value) (hw : ∀ d ∈ tables_1, d.before a0 Z = true) (ws : List Jvm.Cond) (aL : Addr) (h0 : Heap) (n0 : Nat) (Z0 : n0 ≤ h0.size) (SL : Sta Z Z.heap "java/util/ImmutableCollections" "EMPTY_LIST" "Ljava/util/ImmutableCollections$ListN;" (.ref aL)) (Od0 : Old Z n0 h0) :
    MetFree l (⟨"java/util/List", "of", "()Ljava/util/List;"⟩ : MethodName) (head1 (Jvm.Cond.code (⟨"java/util/List", "of", "()Ljava/util/List;"⟩ : MethodName) jdk_40_method_36_code 0 (some (.object "java/util/List")) :: ws) ({ frames := 0, cells := 0, slots := 0, locals := 0 } : Room)) (fun a U => a = #[] ∧ Z.Warmed39 U.vm ∧ U.heap = h0) (fun _ _ _ _ _ => True) (fun _ U o U' => ∃ rv rL, o = .returned rv ∧ Q_rm_of0 Z h0 n0 aL rv U'.heap rL ∧ FrameEnd U o U' rL ({ frames := 0, cells := 0, slots := 0, locals := 0 } : Room).cells ({ frames := 0, cells := 0, slots := 0, locals := 0 } : Room).slots) := by
  refine own_met (y := (⟨"java/util/List", "of", "()Ljava/util/List;"⟩ : MethodName)) (Q := Q_rm_of0 Z h0 n0 aL) (own := "java/util/List") rfl (plainFor_of_name pn_38) ?_
  intro p e s m below meth c s₁ C e0 X0
  obtain ⟨hx, hby, hml, hown, hnm, hret, hlk, hZ⟩ := C
  have N0 := Fr.nil n0
  rw [ef_38]
  show own_Goes _ _ _ _ _ _ _ s₁ (mkF m 0 #[] [])
  obtain ⟨T1, X1, e1, st1⟩ := getS2 X0 hx hZ hown (host := "") (Or.inl (hw _ (List.mem_of_getElem? (i := 269) rfl))) Via.refl e0 (SL.ext Od0.2) (g := (mkF m 0 #[] [])) rfl (hb hby d38_0)
  refine own_go st1 ?_
  show own_Goes _ _ _ _ _ _ _ T1 (mkF m 3 #[] [(.ref aL)])
  exact own_retA X1 hx hlk hret rfl rfl (hb hby d38_3) (by decide) (by decide) (by rw [e1]; exact ⟨rfl, N0, rfl⟩)
def Q_rm_lc0 (Z : State) (h0 : Heap) (n0 : Nat) (aL : Addr) (v : Option Value) (h : Heap) (L : List Loc) : Prop := v = some (.ref aL) ∧ Fr n0 L ∧ h = h0
set_option maxRecDepth 65536 in
set_option maxHeartbeats 40000000 in
theorem rm_lc0 (l : Launch) (Z : State) (a0 : Array Value) (hw : ∀ d ∈ tables_1, d.before a0 Z = true) (ws : List Jvm.Cond) (a1 a2 a3 aM aE aL : Addr) (kc : ClassId) (h0 : Heap) (n0 : Nat) (Z0 : n0 ≤ h0.size) (E_a1 : Exa Z h0 a1 "java/util/ArrayList") (F_sz : Fld Z h0 a1 "java/util/ArrayList" "size" "I" (.int (0 : Int32))) (MM : Mir Z "[Ljava/lang/Object;" aM) (SE : Sta Z Z.heap "java/util/ImmutableCollections" "EMPTY" "Ljava/lang/Object;" (.ref aE)) (SL : Sta Z Z.heap "java/util/ImmutableCollections" "EMPTY_LIST" "Ljava/util/ImmutableCollections$ListN;" (.ref aL)) (Od0 : Old Z n0 h0) :
    MetFree l (⟨"java/util/ImmutableCollections", "listCopy", "(Ljava/util/Collection;)Ljava/util/List;"⟩ : MethodName) (head1 (Jvm.Cond.code (⟨"java/util/ImmutableCollections", "listCopy", "(Ljava/util/Collection;)Ljava/util/List;"⟩ : MethodName) jdk_56_method_3_code 2 (some (.object "java/util/List")) :: ws) ({ frames := 1, cells := 0, slots := 0, locals := 12 } : Room)) (fun a U => a = #[(.ref a1)] ∧ Z.Warmed39 U.vm ∧ U.heap = h0) (fun _ _ _ _ _ => True) (fun _ U o U' => ∃ rv rL, o = .returned rv ∧ Q_rm_lc0 Z h0 n0 aL rv U'.heap rL ∧ FrameEnd U o U' rL ({ frames := 1, cells := 0, slots := 0, locals := 12 } : Room).cells ({ frames := 1, cells := 0, slots := 0, locals := 12 } : Room).slots) := by
  refine own_met (y := (⟨"java/util/ImmutableCollections", "listCopy", "(Ljava/util/Collection;)Ljava/util/List;"⟩ : MethodName)) (Q := Q_rm_lc0 Z h0 n0 aL) (own := "java/util/ImmutableCollections") rfl (plainFor_of_name pn_16) ?_
  intro p e s m below meth c s₁ C e0 X0
  obtain ⟨hx, hby, hml, hown, hnm, hret, hlk, hZ⟩ := C
  have N0 := Fr.nil n0
  rw [ef_16]
  have Kp0 : Keep h0 h0 [] := Keep.refl h0 _
  show own_Goes _ _ _ _ _ _ _ s₁ (mkF m 0 #[.val (.ref a1), .unset] [])
  refine own_go (fun _ k => XS.aloadN X0.here hx rfl (hb hby d16_0) rfl rfl k) ?_
  show own_Goes _ _ _ _ _ _ _ s₁ (mkF m 1 #[.val (.ref a1), .unset] [(.ref a1)])
  obtain ⟨T1, X1, e1, st1⟩ := instNo X0 hx hZ hown (hw _ (List.mem_of_getElem? (i := 111) rfl)) e0 E_a1 (own_nas3 (hw _ (List.mem_of_getElem? (i := 112) rfl)) (hw _ (List.mem_of_getElem? (i := 113) rfl)) (hw _ (List.mem_of_getElem? (i := 114) rfl)) (hw _ (List.mem_of_getElem? (i := 115) rfl)) (hw _ (List.mem_of_getElem? (i := 160) rfl)) (by decide) (by decide) (by decide) (by decide)) (g := (mkF m 1 #[.val (.ref a1), .unset] [(.ref a1)])) rfl rfl (hb hby d16_1)
  refine own_go st1 ?_
  show own_Goes _ _ _ _ _ _ _ T1 (mkF m 4 #[.val (.ref a1), .unset] [(.int (0 : Int32))])
  refine own_go (fun _ k => XS.ifNo X1.here hx rfl (hb hby d16_4) rfl ((if0 _ _).trans (teq (by decide : (0 : Int32) = (0 : Int32))).2) k) ?_
  show own_Goes _ _ _ _ _ _ _ T1 (mkF m 7 #[.val (.ref a1), .unset] [])
  refine own_go (fun _ k => XS.aloadN X1.here hx rfl (hb hby d16_7) rfl rfl k) ?_
  show own_Goes _ _ _ _ _ _ _ T1 (mkF m 8 #[.val (.ref a1), .unset] [(.ref a1)])
  obtain ⟨T2, X2, e2, st2⟩ := instNo X1 hx hZ hown (hw _ (List.mem_of_getElem? (i := 116) rfl)) e1 E_a1 (own_nas3 (hw _ (List.mem_of_getElem? (i := 112) rfl)) (hw _ (List.mem_of_getElem? (i := 113) rfl)) (hw _ (List.mem_of_getElem? (i := 114) rfl)) (hw _ (List.mem_of_getElem? (i := 115) rfl)) (hw _ (List.mem_of_getElem? (i := 246) rfl)) (by decide) (by decide) (by decide) (by decide)) (g := (mkF m 8 #[.val (.ref a1), .unset] [(.ref a1)])) rfl rfl (hb hby d16_8)
  refine own_go st2 ?_
  show own_Goes _ _ _ _ _ _ _ T2 (mkF m 11 #[.val (.ref a1), .unset] [(.int (0 : Int32))])
  refine own_go (fun _ k => XS.ifYes X2.here hx rfl (pc0 := 11) (pc' := 31) rfl (hb hby d16_11) rfl ((if0 _ _).trans (teq (by decide : (0 : Int32) = (0 : Int32))).1) (by decide) (by decide) k) ?_
  show own_Goes _ _ _ _ _ _ _ T2 (mkF m 31 #[.val (.ref a1), .unset] [])
  refine own_go (fun _ k => XS.aloadN X2.here hx rfl (hb hby d16_31) rfl rfl k) ?_
  show own_Goes _ _ _ _ _ _ _ T2 (mkF m 32 #[.val (.ref a1), .unset] [(.ref a1)])
  obtain ⟨cq3, kq3, zq3a, zq3b, zq3c⟩ := isOf hZ e2 E_a1
  obtain ⟨_, _, ⟨T3, L3, k3, n3⟩, -, X3, ⟨Lc3, hQ3, l3, y3, z3⟩, st3⟩ := X2.interfaceBack hx (xi := (⟨"java/util/Collection", "isEmpty", "()Z"⟩ : MethodName)) (y := (⟨"java/util/ArrayList", "isEmpty", "()Z"⟩ : MethodName)) hown (mvT hZ (hw _ (List.mem_of_getElem? (i := 117) rfl))) (mvT hZ (hw _ (List.mem_of_getElem? (i := 118) rfl))) (mvT hZ (hw _ (List.mem_of_getElem? (i := 119) rfl))) (mvT hZ (hw _ (List.mem_of_getElem? (i := 120) rfl))) (mvT hZ (hw _ (List.mem_of_getElem? (i := 121) rfl))) (mvT hZ (hw _ (List.mem_of_getElem? (i := 122) rfl))) (mvT hZ (hw _ (List.mem_of_getElem? (i := 123) rfl))) (mvT hZ (hw _ (List.mem_of_getElem? (i := 124) rfl))) (by decide) (backOf (W := 0) (rm_ie0 l Z a0 hw [] a1 h0 n0 Z0 F_sz) hZ (hw _ (List.mem_of_getElem? (i := 125) rfl)) (hw _ (List.mem_of_getElem? (i := 45) rfl)) (by decide) (by decide)) zq3a zq3b zq3c (g := (mkF m 32 #[.val (.ref a1), .unset] [(.ref a1)])) rfl (by rw [hml]; rfl) (Steps.refl _) (argsL := []) (rest := []) (lenOf pd_12 rfl) rfl (by show 2 * 0 + _ ≤ _; exact Nat.le_of_eq rfl) (hb hby d16_32) (fun _ _ => ⟨rfl, e2, (by decide : 0 + 0 ≤ _), (by decide : 0 + 0 ≤ _)⟩)
  dsimp only [Pt.U, Pt.locs, Pt.cells, Pt.slots] at X3 l3 y3 z3 st3 hQ3
  subst l3 y3 z3
  obtain ⟨rfl, N3q, e3⟩ := hQ3
  have N3 := Fr.app N0 N3q
  refine own_goS st3 ?_
  show own_Goes _ _ _ _ _ _ _ T3 (mkF m 37 #[.val (.ref a1), .unset] [(.int (1 : Int32))])
  refine own_go (fun _ k => XS.ifNo X3.here hx rfl (hb hby d16_37) rfl ((if0 _ _).trans (feq (by decide : ¬ ((1 : Int32) = (0 : Int32)))).1) k) ?_
  show own_Goes _ _ _ _ _ _ _ T3 (mkF m 40 #[.val (.ref a1), .unset] [])
  obtain ⟨_, _, ⟨T4, L4, k4, n4⟩, -, X4, ⟨Lc4, hQ4, l4, y4, z4⟩, st4⟩ := Jvm.LawKit.callS X3 hx (y := (⟨"java/util/List", "of", "()Ljava/util/List;"⟩ : MethodName)) hown (mvT hZ (hw _ (List.mem_of_getElem? (i := 266) rfl))) (mvT hZ (hw _ (List.mem_of_getElem? (i := 267) rfl))) (mvT hZ (hw _ (List.mem_of_getElem? (i := 105) rfl))) (mvT hZ (hw _ (List.mem_of_getElem? (i := 268) rfl))) (by decide) (backOf (W := 0) (rm_of0 l Z a0 hw [] aL h0 n0 Z0 SL Od0) hZ (hw _ (List.mem_of_getElem? (i := 268) rfl)) (hw _ (List.mem_of_getElem? (i := 105) rfl)) (by decide) (by decide)) (g := (mkF m 40 #[.val (.ref a1), .unset] [])) rfl (by rw [hml]; rfl) (argsL := []) (rest := []) (lenOf pd_13 rfl) rfl (by show 2 * 0 + _ ≤ _; exact Nat.le_of_eq rfl) (hb hby d16_40) (fun _ _ => ⟨rfl, e3, (by decide : 0 + 0 + 0 ≤ _), (by decide : 0 + 0 + 0 ≤ _)⟩)
  dsimp only [Pt.U, Pt.locs, Pt.cells, Pt.slots] at X4 l4 y4 z4 st4 hQ4
  subst l4 y4 z4
  obtain ⟨rfl, N4q, e4⟩ := hQ4
  have N4 := Fr.app N3 N4q
  refine own_go st4 ?_
  show own_Goes _ _ _ _ _ _ _ T4 (mkF m 43 #[.val (.ref a1), .unset] [(.ref aL)])
  exact own_retA X4 hx hlk hret rfl rfl (hb hby d16_43) (by decide) (by decide) (by rw [e4]; exact ⟨rfl, N4, rfl⟩)
def Q_rm_co0 (Z : State) (h0 : Heap) (n0 : Nat) (aL : Addr) (v : Option Value) (h : Heap) (L : List Loc) : Prop := v = some (.ref aL) ∧ Fr n0 L ∧ h = h0
set_option maxRecDepth 65536 in
set_option maxHeartbeats 40000000 in
theorem rm_co0 (l : Launch) (Z : State) (a0 : Array Value) (hw : ∀ d ∈ tables_1, d.before a0 Z = true) (ws : List Jvm.Cond) (a1 a2 a3 aM aE aL : Addr) (kc : ClassId) (h0 : Heap) (n0 : Nat) (Z0 : n0 ≤ h0.size) (E_a1 : Exa Z h0 a1 "java/util/ArrayList") (F_sz : Fld Z h0 a1 "java/util/ArrayList" "size" "I" (.int (0 : Int32))) (MM : Mir Z "[Ljava/lang/Object;" aM) (SE : Sta Z Z.heap "java/util/ImmutableCollections" "EMPTY" "Ljava/lang/Object;" (.ref aE)) (SL : Sta Z Z.heap "java/util/ImmutableCollections" "EMPTY_LIST" "Ljava/util/ImmutableCollections$ListN;" (.ref aL)) (Od0 : Old Z n0 h0) :
    MetFree l (⟨"java/util/List", "copyOf", "(Ljava/util/Collection;)Ljava/util/List;"⟩ : MethodName) (head1 (Jvm.Cond.code (⟨"java/util/List", "copyOf", "(Ljava/util/Collection;)Ljava/util/List;"⟩ : MethodName) jdk_40_method_48_code 1 (some (.object "java/util/List")) :: ws) ({ frames := 2, cells := 0, slots := 0, locals := 25 } : Room)) (fun a U => a = #[(.ref a1)] ∧ Z.Warmed39 U.vm ∧ U.heap = h0) (fun _ _ _ _ _ => True) (fun _ U o U' => ∃ rv rL, o = .returned rv ∧ Q_rm_co0 Z h0 n0 aL rv U'.heap rL ∧ FrameEnd U o U' rL ({ frames := 2, cells := 0, slots := 0, locals := 25 } : Room).cells ({ frames := 2, cells := 0, slots := 0, locals := 25 } : Room).slots) := by
  refine own_met (y := (⟨"java/util/List", "copyOf", "(Ljava/util/Collection;)Ljava/util/List;"⟩ : MethodName)) (Q := Q_rm_co0 Z h0 n0 aL) (own := "java/util/List") rfl (plainFor_of_name pn_15) ?_
  intro p e s m below meth c s₁ C e0 X0
  obtain ⟨hx, hby, hml, hown, hnm, hret, hlk, hZ⟩ := C
  have N0 := Fr.nil n0
  rw [ef_15]
  have Kp0 : Keep h0 h0 [] := Keep.refl h0 _
  show own_Goes _ _ _ _ _ _ _ s₁ (mkF m 0 #[.val (.ref a1)] [])
  refine own_go (fun _ k => XS.aloadN X0.here hx rfl (hb hby d15_0) rfl rfl k) ?_
  show own_Goes _ _ _ _ _ _ _ s₁ (mkF m 1 #[.val (.ref a1)] [(.ref a1)])
  obtain ⟨_, _, ⟨T1, L1, k1, n1⟩, -, X1, ⟨Lc1, hQ1, l1, y1, z1⟩, st1⟩ := Jvm.LawKit.callS X0 hx (y := (⟨"java/util/ImmutableCollections", "listCopy", "(Ljava/util/Collection;)Ljava/util/List;"⟩ : MethodName)) hown (mvT hZ (hw _ (List.mem_of_getElem? (i := 107) rfl))) (mvT hZ (hw _ (List.mem_of_getElem? (i := 108) rfl))) (mvT hZ (hw _ (List.mem_of_getElem? (i := 109) rfl))) (mvT hZ (hw _ (List.mem_of_getElem? (i := 110) rfl))) (by decide) (backOf (W := 0) (rm_lc0 l Z a0 hw [] a1 a2 a3 aM aE aL kc h0 n0 Z0 E_a1 F_sz MM SE SL Od0) hZ (hw _ (List.mem_of_getElem? (i := 110) rfl)) (hw _ (List.mem_of_getElem? (i := 109) rfl)) (by decide) (by decide)) (g := (mkF m 1 #[.val (.ref a1)] [(.ref a1)])) rfl (by rw [hml]; rfl) (argsL := [(.ref a1)]) (rest := []) (lenOf pd_14 rfl) rfl (by show 2 * 0 + _ ≤ _; exact Nat.le_of_eq rfl) (hb hby d15_1) (fun _ _ => ⟨rfl, e0, (by decide : 0 + 0 ≤ _), (by decide : 0 + 0 ≤ _)⟩)
  dsimp only [Pt.U, Pt.locs, Pt.cells, Pt.slots] at X1 l1 y1 z1 st1 hQ1
  subst l1 y1 z1
  obtain ⟨rfl, N1q, e1⟩ := hQ1
  have N1 := Fr.app N0 N1q
  refine own_go st1 ?_
  show own_Goes _ _ _ _ _ _ _ T1 (mkF m 4 #[.val (.ref a1)] [(.ref aL)])
  exact own_retA X1 hx hlk hret rfl rfl (hb hby d15_4) (by decide) (by decide) (by rw [e1]; exact ⟨rfl, N1, rfl⟩)
def Q_rm_cm0 (Z : State) (h0 : Heap) (n0 : Nat) (a5 aL : Addr) (p2 p3 : Int32) (v : Option Value) (h : Heap) (L : List Loc) : Prop := v = none ∧ Fr n0 L ∧ Keep h0 h [a5] ∧ Fld Z h a5 "com/example/treellis/treellis/cfa/StructType" "members" "Ljava/util/List;" (.ref aL) ∧ Fld Z h a5 "com/example/treellis/treellis/cfa/StructType" "packing" "I" (.int p2) ∧ Fld Z h a5 "com/example/treellis/treellis/cfa/StructType" "alignment" "I" (.int p3)
set_option maxRecDepth 65536 in
set_option maxHeartbeats 40000000 in
theorem rm_cm0 (l : Launch) (Z : State) (a0 : Array Value) (hw : ∀ d ∈ tables_1, d.before a0 Z = true) (ws : List Jvm.Cond) (a5 a1 a2 a3 aM aE aL : Addr) (kc : ClassId) (p2 p3 : Int32) (h0 : Heap) (n0 : Nat) (Z0 : n0 ≤ h0.size) (E_a1 : Exa Z h0 a1 "java/util/ArrayList") (F_sz : Fld Z h0 a1 "java/util/ArrayList" "size" "I" (.int (0 : Int32))) (E_a5 : Exa Z h0 a5 "com/example/treellis/treellis/cfa/StructType") (F_mb : Fld Z h0 a5 "com/example/treellis/treellis/cfa/StructType" "members" "Ljava/util/List;" .null) (F_pk : Fld Z h0 a5 "com/example/treellis/treellis/cfa/StructType" "packing" "I" (.int (0 : Int32))) (F_ag : Fld Z h0 a5 "com/example/treellis/treellis/cfa/StructType" "alignment" "I" (.int (0 : Int32))) (lo_a5 : n0 ≤ a5) (ne_a5_a1 : a5 ≠ a1) (MM : Mir Z "[Ljava/lang/Object;" aM) (SE : Sta Z Z.heap "java/util/ImmutableCollections" "EMPTY" "Ljava/lang/Object;" (.ref aE)) (SL : Sta Z Z.heap "java/util/ImmutableCollections" "EMPTY_LIST" "Ljava/util/ImmutableCollections$ListN;" (.ref aL)) (Od0 : Old Z n0 h0) :
    MetFree l (⟨"com/example/treellis/treellis/cfa/StructType", "complete", "(Ljava/util/List;II)V"⟩ : MethodName) (head1 (Jvm.Cond.code (⟨"com/example/treellis/treellis/cfa/StructType", "complete", "(Ljava/util/List;II)V"⟩ : MethodName) prog_52_method_2_code 4 none :: ws) ({ frames := 3, cells := 0, slots := 0, locals := 38 } : Room)) (fun a U => a = #[(.ref a5), (.ref a1), (.int p2), (.int p3)] ∧ Z.Warmed39 U.vm ∧ U.heap = h0) (fun _ _ _ _ _ => True) (fun _ U o U' => ∃ rv rL, o = .returned rv ∧ Q_rm_cm0 Z h0 n0 a5 aL p2 p3 rv U'.heap rL ∧ FrameEnd U o U' rL ({ frames := 3, cells := 0, slots := 0, locals := 38 } : Room).cells ({ frames := 3, cells := 0, slots := 0, locals := 38 } : Room).slots) := by
  refine own_met (y := (⟨"com/example/treellis/treellis/cfa/StructType", "complete", "(Ljava/util/List;II)V"⟩ : MethodName)) (Q := Q_rm_cm0 Z h0 n0 a5 aL p2 p3) (own := "com/example/treellis/treellis/cfa/StructType") rfl (plainFor_of_name pn_14) ?_
  intro p e s m below meth c s₁ C e0 X0
  obtain ⟨hx, hby, hml, hown, hnm, hret, hlk, hZ⟩ := C
  have N0 := Fr.nil n0
  rw [ef_14]
  have Kp0 : Keep h0 h0 [a5] := Keep.refl h0 _
  show own_Goes _ _ _ _ _ _ _ s₁ (mkF m 0 #[.val (.ref a5), .val (.ref a1), .val (.int p2), .val (.int p3)] [])
  refine own_go (fun _ k => XS.aloadN X0.here hx rfl (hb hby d14_0) rfl rfl k) ?_
  show own_Goes _ _ _ _ _ _ _ s₁ (mkF m 1 #[.val (.ref a5), .val (.ref a1), .val (.int p2), .val (.int p3)] [(.ref a5)])
  obtain ⟨T1, X1, e1, st1⟩ := getF X0 hx hZ hown (host := "") (Or.inl (hw _ (List.mem_of_getElem? (i := 21) rfl))) Via.refl e0 F_mb (g := (mkF m 1 #[.val (.ref a5), .val (.ref a1), .val (.int p2), .val (.int p3)] [(.ref a5)])) rfl rfl (hb hby d14_1)
  refine own_go st1 ?_
  show own_Goes _ _ _ _ _ _ _ T1 (mkF m 4 #[.val (.ref a5), .val (.ref a1), .val (.int p2), .val (.int p3)] [.null])
  refine own_go (fun _ k => XS.ifnullYes X1.here hx rfl (pc0 := 4) (pc' := 24) rfl (hb hby d14_4) rfl (by decide) (by decide) k) ?_
  show own_Goes _ _ _ _ _ _ _ T1 (mkF m 24 #[.val (.ref a5), .val (.ref a1), .val (.int p2), .val (.int p3)] [])
  refine own_go (fun _ k => XS.aloadN X1.here hx rfl (hb hby d14_24) rfl rfl k) ?_
  show own_Goes _ _ _ _ _ _ _ T1 (mkF m 25 #[.val (.ref a5), .val (.ref a1), .val (.int p2), .val (.int p3)] [(.ref a5)])
  refine own_go (fun _ k => XS.aloadN X1.here hx rfl (hb hby d14_25) rfl rfl k) ?_
  show own_Goes _ _ _ _ _ _ _ T1 (mkF m 26 #[.val (.ref a5), .val (.ref a1), .val (.int p2), .val (.int p3)] [(.ref a1), (.ref a5)])
  obtain ⟨_, _, ⟨T2, L2, k2, n2⟩, -, X2, ⟨Lc2, hQ2, l2, y2, z2⟩, st2⟩ := Jvm.LawKit.callS X1 hx (y := (⟨"java/util/List", "copyOf", "(Ljava/util/Collection;)Ljava/util/List;"⟩ : MethodName)) hown (mvT hZ (hw _ (List.mem_of_getElem? (i := 103) rfl))) (mvT hZ (hw _ (List.mem_of_getElem? (i := 104) rfl))) (mvT hZ (hw _ (List.mem_of_getElem? (i := 105) rfl))) (mvT hZ (hw _ (List.mem_of_getElem? (i := 106) rfl))) (by decide) (backOf (W := 1) (rm_co0 l Z a0 hw [] a1 a2 a3 aM aE aL kc h0 n0 Z0 E_a1 F_sz MM SE SL Od0) hZ (hw _ (List.mem_of_getElem? (i := 106) rfl)) (hw _ (List.mem_of_getElem? (i := 105) rfl)) (by decide) (by decide)) (g := (mkF m 26 #[.val (.ref a5), .val (.ref a1), .val (.int p2), .val (.int p3)] [(.ref a1), (.ref a5)])) rfl (by rw [hml]; rfl) (argsL := [(.ref a1)]) (rest := [(.ref a5)]) (lenOf pd_14 rfl) rfl (by show 2 * 0 + _ ≤ _; exact Nat.le_of_eq rfl) (hb hby d14_26) (fun _ _ => ⟨rfl, e1, (by decide : 0 + 0 ≤ _), (by decide : 0 + 0 ≤ _)⟩)
  dsimp only [Pt.U, Pt.locs, Pt.cells, Pt.slots] at X2 l2 y2 z2 st2 hQ2
  subst l2 y2 z2
  obtain ⟨rfl, N2q, e2⟩ := hQ2
  have N2 := Fr.app N0 N2q
  refine own_go st2 ?_
  show own_Goes _ _ _ _ _ _ _ T2 (mkF m 29 #[.val (.ref a5), .val (.ref a1), .val (.int p2), .val (.int p3)] [(.ref aL), (.ref a5)])
  obtain ⟨T3, h3, X3, e3, W3, st3⟩ := putF X2 hx hZ hown (host := "") (Or.inl (hw _ (List.mem_of_getElem? (i := 21) rfl))) Via.refl e2 F_mb E_a5 (Or.inl (hw _ (List.mem_of_getElem? (i := 22) rfl))) (hw _ (List.mem_of_getElem? (i := 4) rfl)) (ty := (.object "java/util/List")) (by decide) rfl rfl (g := (mkF m 29 #[.val (.ref a5), .val (.ref a1), .val (.int p2), .val (.int p3)] [(.ref aL), (.ref a5)])) rfl rfl (hb hby d14_29)
  have F_mb_3 : Fld Z h3 a5 "com/example/treellis/treellis/cfa/StructType" "members" "Ljava/util/List;" (.ref aL) := F_mb.same W3
  have N3 := Fr.snoc X3 N2 lo_a5
  have E_a1_3 : Exa Z h3 a1 "java/util/ArrayList" := E_a1.wr W3
  have F_sz_3 : Fld Z h3 a1 "java/util/ArrayList" "size" "I" (.int (0 : Int32)) := F_sz.other W3 (Or.inl (Ne.symm ne_a5_a1))
  have E_a5_3 : Exa Z h3 a5 "com/example/treellis/treellis/cfa/StructType" := E_a5.wr W3
  have F_pk_3 : Fld Z h3 a5 "com/example/treellis/treellis/cfa/StructType" "packing" "I" (.int (0 : Int32)) := F_pk.other W3 (Or.inr (slot_ne (Or.inl (hw _ (List.mem_of_getElem? (i := 189) rfl))) (Or.inl (hw _ (List.mem_of_getElem? (i := 22) rfl))) (by decide) (t := .int) (t' := (.object "java/util/List")) (by decide) (by decide)))
  have F_ag_3 : Fld Z h3 a5 "com/example/treellis/treellis/cfa/StructType" "alignment" "I" (.int (0 : Int32)) := F_ag.other W3 (Or.inr (slot_ne (Or.inl (hw _ (List.mem_of_getElem? (i := 191) rfl))) (Or.inl (hw _ (List.mem_of_getElem? (i := 22) rfl))) (by decide) (t := .int) (t' := (.object "java/util/List")) (by decide) (by decide)))
  have Zs3 : n0 ≤ h3.size := Nat.le_trans Z0 (Keep.of_wr W3).1
  have Kp3 : Keep h0 h3 [a5] := Kp0.wr W3 (Or.inl (by simp))
  have Od3 : Old Z n0 h3 := Od0.wr W3 lo_a5
  refine own_go st3 ?_
  show own_Goes _ _ _ _ _ _ _ T3 (mkF m 32 #[.val (.ref a5), .val (.ref a1), .val (.int p2), .val (.int p3)] [])
  refine own_go (fun _ k => XS.aloadN X3.here hx rfl (hb hby d14_32) rfl rfl k) ?_
  show own_Goes _ _ _ _ _ _ _ T3 (mkF m 33 #[.val (.ref a5), .val (.ref a1), .val (.int p2), .val (.int p3)] [(.ref a5)])
  refine own_go (fun _ k => XS.iloadN X3.here hx rfl (hb hby d14_33) rfl k) ?_
  show own_Goes _ _ _ _ _ _ _ T3 (mkF m 34 #[.val (.ref a5), .val (.ref a1), .val (.int p2), .val (.int p3)] [(.int p2), (.ref a5)])
  obtain ⟨T4, h4, X4, e4, W4, st4⟩ := putF X3 hx hZ hown (host := "") (Or.inl (hw _ (List.mem_of_getElem? (i := 188) rfl))) Via.refl e3 F_pk_3 E_a5_3 (Or.inl (hw _ (List.mem_of_getElem? (i := 189) rfl))) (hw _ (List.mem_of_getElem? (i := 4) rfl)) (ty := .int) (by decide) rfl rfl (g := (mkF m 34 #[.val (.ref a5), .val (.ref a1), .val (.int p2), .val (.int p3)] [(.int p2), (.ref a5)])) rfl rfl (hb hby d14_34)
  have F_pk_4 : Fld Z h4 a5 "com/example/treellis/treellis/cfa/StructType" "packing" "I" (.int p2) := F_pk_3.same W4
  have N4 := Fr.snoc X4 N3 lo_a5
  have E_a1_4 : Exa Z h4 a1 "java/util/ArrayList" := E_a1_3.wr W4
  have F_sz_4 : Fld Z h4 a1 "java/util/ArrayList" "size" "I" (.int (0 : Int32)) := F_sz_3.other W4 (Or.inl (Ne.symm ne_a5_a1))
  have E_a5_4 : Exa Z h4 a5 "com/example/treellis/treellis/cfa/StructType" := E_a5_3.wr W4
  have F_ag_4 : Fld Z h4 a5 "com/example/treellis/treellis/cfa/StructType" "alignment" "I" (.int (0 : Int32)) := F_ag_3.other W4 (Or.inr (slot_ne (Or.inl (hw _ (List.mem_of_getElem? (i := 191) rfl))) (Or.inl (hw _ (List.mem_of_getElem? (i := 189) rfl))) (by decide) (t := .int) (t' := .int) (by decide) (by decide)))
  have F_mb_4 : Fld Z h4 a5 "com/example/treellis/treellis/cfa/StructType" "members" "Ljava/util/List;" (.ref aL) := F_mb_3.other W4 (Or.inr (slot_ne (Or.inl (hw _ (List.mem_of_getElem? (i := 22) rfl))) (Or.inl (hw _ (List.mem_of_getElem? (i := 189) rfl))) (by decide) (t := (.object "java/util/List")) (t' := .int) (by decide) (by decide)))
  have Zs4 : n0 ≤ h4.size := Nat.le_trans Zs3 (Keep.of_wr W4).1
  have Kp4 : Keep h0 h4 [a5] := Kp3.wr W4 (Or.inl (by simp))
  have Od4 : Old Z n0 h4 := Od3.wr W4 lo_a5
  refine own_go st4 ?_
  show own_Goes _ _ _ _ _ _ _ T4 (mkF m 37 #[.val (.ref a5), .val (.ref a1), .val (.int p2), .val (.int p3)] [])
  refine own_go (fun _ k => XS.aloadN X4.here hx rfl (hb hby d14_37) rfl rfl k) ?_
  show own_Goes _ _ _ _ _ _ _ T4 (mkF m 38 #[.val (.ref a5), .val (.ref a1), .val (.int p2), .val (.int p3)] [(.ref a5)])
  refine own_go (fun _ k => XS.iloadN X4.here hx rfl (hb hby d14_38) rfl k) ?_
  show own_Goes _ _ _ _ _ _ _ T4 (mkF m 39 #[.val (.ref a5), .val (.ref a1), .val (.int p2), .val (.int p3)] [(.int p3), (.ref a5)])
  obtain ⟨T5, h5, X5, e5, W5, st5⟩ := putF X4 hx hZ hown (host := "") (Or.inl (hw _ (List.mem_of_getElem? (i := 190) rfl))) Via.refl e4 F_ag_4 E_a5_4 (Or.inl (hw _ (List.mem_of_getElem? (i := 191) rfl))) (hw _ (List.mem_of_getElem? (i := 4) rfl)) (ty := .int) (by decide) rfl rfl (g := (mkF m 39 #[.val (.ref a5), .val (.ref a1), .val (.int p2), .val (.int p3)] [(.int p3), (.ref a5)])) rfl rfl (hb hby d14_39)
  have F_ag_5 : Fld Z h5 a5 "com/example/treellis/treellis/cfa/StructType" "alignment" "I" (.int p3) := F_ag_4.same W5
  have N5 := Fr.snoc X5 N4 lo_a5
  have E_a1_5 : Exa Z h5 a1 "java/util/ArrayList" := E_a1_4.wr W5
  have F_sz_5 : Fld Z h5 a1 "java/util/ArrayList" "size" "I" (.int (0 : Int32)) := F_sz_4.other W5 (Or.inl (Ne.symm ne_a5_a1))
  have E_a5_5 : Exa Z h5 a5 "com/example/treellis/treellis/cfa/StructType" := E_a5_4.wr W5
  have F_mb_5 : Fld Z h5 a5 "com/example/treellis/treellis/cfa/StructType" "members" "Ljava/util/List;" (.ref aL) := F_mb_4.other W5 (Or.inr (slot_ne (Or.inl (hw _ (List.mem_of_getElem? (i := 22) rfl))) (Or.inl (hw _ (List.mem_of_getElem? (i := 191) rfl))) (by decide) (t := (.object "java/util/List")) (t' := .int) (by decide) (by decide)))
  have F_pk_5 : Fld Z h5 a5 "com/example/treellis/treellis/cfa/StructType" "packing" "I" (.int p2) := F_pk_4.other W5 (Or.inr (slot_ne (Or.inl (hw _ (List.mem_of_getElem? (i := 189) rfl))) (Or.inl (hw _ (List.mem_of_getElem? (i := 191) rfl))) (by decide) (t := .int) (t' := .int) (by decide) (by decide)))
  have Zs5 : n0 ≤ h5.size := Nat.le_trans Zs4 (Keep.of_wr W5).1
  have Kp5 : Keep h0 h5 [a5] := Kp4.wr W5 (Or.inl (by simp))
  have Od5 : Old Z n0 h5 := Od4.wr W5 lo_a5
  refine own_go st5 ?_
  show own_Goes _ _ _ _ _ _ _ T5 (mkF m 42 #[.val (.ref a5), .val (.ref a1), .val (.int p2), .val (.int p3)] [])
  exact own_retV X5 hx hlk hret (hb hby d14_42) (by decide) (by decide) (by rw [e5]; exact ⟨rfl, N5, Kp5, F_mb_5, F_pk_5, F_ag_5⟩)
def Q_rm_lc1 (Z : State) (h0 : Heap) (n0 : Nat) (aE : Addr) (v : Option Value) (h : Heap) (L : List Loc) : Prop := ∃ r, v = some (.ref r) ∧ Fr n0 L ∧ h0.size ≤ r ∧ Keep h0 h [] ∧ Exa Z h r "java/util/ImmutableCollections$List12" ∧ Fld Z h r "java/util/ImmutableCollections$List12" "e1" "Ljava/lang/Object;" (.ref aE)
set_option maxRecDepth 65536 in
set_option maxHeartbeats 40000000 in
theorem rm_lc1 (l : Launch) (Z : State) (a0 : Array Value) (hw : ∀ d ∈ tables_1, d.before a0 Z = true) (ws : List Jvm.Cond) (a1 a2 a3 aM aE aL : Addr) (kc : ClassId) (h0 : Heap) (n0 : Nat) (Z0 : n0 ≤ h0.size) (E_a1 : Exa Z h0 a1 "java/util/ArrayList") (F_sz : Fld Z h0 a1 "java/util/ArrayList" "size" "I" (.int (1 : Int32))) (F_el : Fld Z h0 a1 "java/util/ArrayList" "elementData" "[Ljava/lang/Object;" (.ref a3)) (V_b : Arv Z h0 a3 kc (.object "java/lang/Object") (10 : Int32) [(.ref a2)] .null) (E_a2 : Exa Z h0 a2 "com/example/treellis/treellis/cfa/StructType$Member") (E_b : Exa Z h0 a3 "[Ljava/lang/Object;") (ne_a3_a2 : a3 ≠ a2) (MM : Mir Z "[Ljava/lang/Object;" aM) (SE : Sta Z Z.heap "java/util/ImmutableCollections" "EMPTY" "Ljava/lang/Object;" (.ref aE)) (SL : Sta Z Z.heap "java/util/ImmutableCollections" "EMPTY_LIST" "Ljava/util/ImmutableCollections$ListN;" (.ref aL)) (Od0 : Old Z n0 h0) :
    MetFree l (⟨"java/util/ImmutableCollections", "listCopy", "(Ljava/util/Collection;)Ljava/util/List;"⟩ : MethodName) (head1 (Jvm.Cond.code (⟨"java/util/ImmutableCollections", "listCopy", "(Ljava/util/Collection;)Ljava/util/List;"⟩ : MethodName) jdk_56_method_3_code 2 (some (.object "java/util/List")) :: ws) ({ frames := 6, cells := 2, slots := 3, locals := 80 } : Room)) (fun a U => a = #[(.ref a1)] ∧ Z.Warmed39 U.vm ∧ U.heap = h0) (fun _ _ _ _ _ => True) (fun _ U o U' => ∃ rv rL, o = .returned rv ∧ Q_rm_lc1 Z h0 n0 aE rv U'.heap rL ∧ FrameEnd U o U' rL ({ frames := 6, cells := 2, slots := 3, locals := 80 } : Room).cells ({ frames := 6, cells := 2, slots := 3, locals := 80 } : Room).slots) := by
  refine own_met (y := (⟨"java/util/ImmutableCollections", "listCopy", "(Ljava/util/Collection;)Ljava/util/List;"⟩ : MethodName)) (Q := Q_rm_lc1 Z h0 n0 aE) (own := "java/util/ImmutableCollections") rfl (plainFor_of_name pn_16) ?_
  intro p e s m below meth c s₁ C e0 X0
  obtain ⟨hx, hby, hml, hown, hnm, hret, hlk, hZ⟩ := C
  have N0 := Fr.nil n0
  rw [ef_16]
  have Kp0 : Keep h0 h0 [] := Keep.refl h0 _
  show own_Goes _ _ _ _ _ _ _ s₁ (mkF m 0 #[.val (.ref a1), .unset] [])
  refine own_go (fun _ k => XS.aloadN X0.here hx rfl (hb hby d16_0) rfl rfl k) ?_
  show own_Goes _ _ _ _ _ _ _ s₁ (mkF m 1 #[.val (.ref a1), .unset] [(.ref a1)])
  obtain ⟨T1, X1, e1, st1⟩ := instNo X0 hx hZ hown (hw _ (List.mem_of_getElem? (i := 111) rfl)) e0 E_a1 (own_nas3 (hw _ (List.mem_of_getElem? (i := 112) rfl)) (hw _ (List.mem_of_getElem? (i := 113) rfl)) (hw _ (List.mem_of_getElem? (i := 114) rfl)) (hw _ (List.mem_of_getElem? (i := 115) rfl)) (hw _ (List.mem_of_getElem? (i := 160) rfl)) (by decide) (by decide) (by decide) (by decide)) (g := (mkF m 1 #[.val (.ref a1), .unset] [(.ref a1)])) rfl rfl (hb hby d16_1)
  refine own_go st1 ?_
  show own_Goes _ _ _ _ _ _ _ T1 (mkF m 4 #[.val (.ref a1), .unset] [(.int (0 : Int32))])
  refine own_go (fun _ k => XS.ifNo X1.here hx rfl (hb hby d16_4) rfl ((if0 _ _).trans (teq (by decide : (0 : Int32) = (0 : Int32))).2) k) ?_
  show own_Goes _ _ _ _ _ _ _ T1 (mkF m 7 #[.val (.ref a1), .unset] [])
  refine own_go (fun _ k => XS.aloadN X1.here hx rfl (hb hby d16_7) rfl rfl k) ?_
  show own_Goes _ _ _ _ _ _ _ T1 (mkF m 8 #[.val (.ref a1), .unset] [(.ref a1)])
  obtain ⟨T2, X2, e2, st2⟩ := instNo X1 hx hZ hown (hw _ (List.mem_of_getElem? (i := 116) rfl)) e1 E_a1 (own_nas3 (hw _ (List.mem_of_getElem? (i := 112) rfl)) (hw _ (List.mem_of_getElem? (i := 113) rfl)) (hw _ (List.mem_of_getElem? (i := 114) rfl)) (hw _ (List.mem_of_getElem? (i := 115) rfl)) (hw _ (List.mem_of_getElem? (i := 246) rfl)) (by decide) (by decide) (by decide) (by decide)) (g := (mkF m 8 #[.val (.ref a1), .unset] [(.ref a1)])) rfl rfl (hb hby d16_8)
  refine own_go st2 ?_
  show own_Goes _ _ _ _ _ _ _ T2 (mkF m 11 #[.val (.ref a1), .unset] [(.int (0 : Int32))])
  refine own_go (fun _ k => XS.ifYes X2.here hx rfl (pc0 := 11) (pc' := 31) rfl (hb hby d16_11) rfl ((if0 _ _).trans (teq (by decide : (0 : Int32) = (0 : Int32))).1) (by decide) (by decide) k) ?_
  show own_Goes _ _ _ _ _ _ _ T2 (mkF m 31 #[.val (.ref a1), .unset] [])
  refine own_go (fun _ k => XS.aloadN X2.here hx rfl (hb hby d16_31) rfl rfl k) ?_
  show own_Goes _ _ _ _ _ _ _ T2 (mkF m 32 #[.val (.ref a1), .unset] [(.ref a1)])
  obtain ⟨cq3, kq3, zq3a, zq3b, zq3c⟩ := isOf hZ e2 E_a1
  obtain ⟨_, _, ⟨T3, L3, k3, n3⟩, -, X3, ⟨Lc3, hQ3, l3, y3, z3⟩, st3⟩ := X2.interfaceBack hx (xi := (⟨"java/util/Collection", "isEmpty", "()Z"⟩ : MethodName)) (y := (⟨"java/util/ArrayList", "isEmpty", "()Z"⟩ : MethodName)) hown (mvT hZ (hw _ (List.mem_of_getElem? (i := 117) rfl))) (mvT hZ (hw _ (List.mem_of_getElem? (i := 118) rfl))) (mvT hZ (hw _ (List.mem_of_getElem? (i := 119) rfl))) (mvT hZ (hw _ (List.mem_of_getElem? (i := 120) rfl))) (mvT hZ (hw _ (List.mem_of_getElem? (i := 121) rfl))) (mvT hZ (hw _ (List.mem_of_getElem? (i := 122) rfl))) (mvT hZ (hw _ (List.mem_of_getElem? (i := 123) rfl))) (mvT hZ (hw _ (List.mem_of_getElem? (i := 124) rfl))) (by decide) (backOf (W := 0) (rm_ie1 l Z a0 hw [] a1 h0 n0 Z0 F_sz) hZ (hw _ (List.mem_of_getElem? (i := 125) rfl)) (hw _ (List.mem_of_getElem? (i := 45) rfl)) (by decide) (by decide)) zq3a zq3b zq3c (g := (mkF m 32 #[.val (.ref a1), .unset] [(.ref a1)])) rfl (by rw [hml]; rfl) (Steps.refl _) (argsL := []) (rest := []) (lenOf pd_12 rfl) rfl (by show 2 * 0 + _ ≤ _; exact Nat.le_of_eq rfl) (hb hby d16_32) (fun _ _ => ⟨rfl, e2, (by decide : 0 + 0 ≤ _), (by decide : 0 + 0 ≤ _)⟩)
  dsimp only [Pt.U, Pt.locs, Pt.cells, Pt.slots] at X3 l3 y3 z3 st3 hQ3
  subst l3 y3 z3
  obtain ⟨rfl, N3q, e3⟩ := hQ3
  have N3 := Fr.app N0 N3q
  refine own_goS st3 ?_
  show own_Goes _ _ _ _ _ _ _ T3 (mkF m 37 #[.val (.ref a1), .unset] [(.int (0 : Int32))])
  refine own_go (fun _ k => XS.ifYes X3.here hx rfl (pc0 := 37) (pc' := 44) rfl (hb hby d16_37) rfl ((if0 _ _).trans (teq (by decide : (0 : Int32) = (0 : Int32))).1) (by decide) (by decide) k) ?_
  show own_Goes _ _ _ _ _ _ _ T3 (mkF m 44 #[.val (.ref a1), .unset] [])
  refine own_go (fun _ k => XS.aloadN X3.here hx rfl (hb hby d16_44) rfl rfl k) ?_
  show own_Goes _ _ _ _ _ _ _ T3 (mkF m 45 #[.val (.ref a1), .unset] [(.ref a1)])
  obtain ⟨cq4, kq4, zq4a, zq4b, zq4c⟩ := isOf hZ e3 E_a1
  obtain ⟨_, _, ⟨T4, L4, k4, n4⟩, -, X4, ⟨Lc4, hQ4, l4, y4, z4⟩, st4⟩ := X3.interfaceBack hx (xi := (⟨"java/util/Collection", "toArray", "()[Ljava/lang/Object;"⟩ : MethodName)) (y := (⟨"java/util/ArrayList", "toArray", "()[Ljava/lang/Object;"⟩ : MethodName)) hown (mvT hZ (hw _ (List.mem_of_getElem? (i := 126) rfl))) (mvT hZ (hw _ (List.mem_of_getElem? (i := 127) rfl))) (mvT hZ (hw _ (List.mem_of_getElem? (i := 128) rfl))) (mvT hZ (hw _ (List.mem_of_getElem? (i := 129) rfl))) (mvT hZ (hw _ (List.mem_of_getElem? (i := 130) rfl))) (mvT hZ (hw _ (List.mem_of_getElem? (i := 131) rfl))) (mvT hZ (hw _ (List.mem_of_getElem? (i := 132) rfl))) (mvT hZ (hw _ (List.mem_of_getElem? (i := 124) rfl))) (by decide) (backOf (W := 0) (rm_ta1 l Z a0 hw [] a1 a2 a3 aM kc h0 n0 Z0 F_sz F_el V_b E_a2 E_b ne_a3_a2 MM) hZ (hw _ (List.mem_of_getElem? (i := 133) rfl)) (hw _ (List.mem_of_getElem? (i := 45) rfl)) (by decide) (by decide)) zq4a zq4b zq4c (g := (mkF m 45 #[.val (.ref a1), .unset] [(.ref a1)])) rfl (by rw [hml]; rfl) (Steps.refl _) (argsL := []) (rest := []) (lenOf pd_3 rfl) rfl (by show 2 * 0 + _ ≤ _; exact Nat.le_of_eq rfl) (hb hby d16_45) (fun _ _ => ⟨rfl, e3, (by decide : 0 + 0 + 1 ≤ _), (by decide : 0 + 0 + 1 ≤ _)⟩)
  dsimp only [Pt.U, Pt.locs, Pt.cells, Pt.slots] at X4 l4 y4 z4 st4 hQ4
  subst l4 y4 z4
  obtain ⟨bb4, kk4, rfl, N4q, hb4, K4, Va4⟩ := hQ4
  have N4 := Fr.app N3 N4q
  refine own_goS st4 ?_
  show own_Goes _ _ _ _ _ _ _ T4 (mkF m 50 #[.val (.ref a1), .unset] [(.ref bb4)])
  have E_a1_4 : Exa Z T4.heap a1 "java/util/ArrayList" := E_a1.keep K4
  have F_sz_4 : Fld Z T4.heap a1 "java/util/ArrayList" "size" "I" (.int (1 : Int32)) := F_sz.keep K4 nin0
  have F_el_4 : Fld Z T4.heap a1 "java/util/ArrayList" "elementData" "[Ljava/lang/Object;" (.ref a3) := F_el.keep K4 nin0
  have V_b_4 : Arv Z T4.heap a3 kc (.object "java/lang/Object") (10 : Int32) [(.ref a2)] .null := V_b.keep K4 nin0
  have E_a2_4 : Exa Z T4.heap a2 "com/example/treellis/treellis/cfa/StructType$Member" := E_a2.keep K4
  have E_b_4 : Exa Z T4.heap a3 "[Ljava/lang/Object;" := E_b.keep K4
  have Zs4 : n0 ≤ T4.heap.size := Nat.le_trans Z0 K4.1
  have Kp4 : Keep h0 T4.heap [] := Kp0.trans K4 all0
  have Od4 : Old Z n0 T4.heap := Od0.keep K4 all0
  have lo_bb4 : n0 ≤ bb4 := Nat.le_trans Z0 hb4
  have bo_bb4 : h0.size ≤ bb4 := Nat.le_trans Kp0.1 hb4
  have ne_a1_bb4 : a1 ≠ bb4 := Nat.ne_of_lt (Nat.lt_of_lt_of_le E_a1.lt hb4)
  have ne_a3_bb4 : a3 ≠ bb4 := Nat.ne_of_lt (Nat.lt_of_lt_of_le V_b.lt hb4)
  have ne_a2_bb4 : a2 ≠ bb4 := Nat.ne_of_lt (Nat.lt_of_lt_of_le E_a2.lt hb4)
  obtain ⟨_, _, ⟨T5, L5, k5, n5⟩, -, X5, ⟨Lc5, hQ5, l5, y5, z5⟩, st5⟩ := Jvm.LawKit.callS X4 hx (y := (⟨"java/util/List", "of", "([Ljava/lang/Object;)Ljava/util/List;"⟩ : MethodName)) hown (mvT hZ (hw _ (List.mem_of_getElem? (i := 156) rfl))) (mvT hZ (hw _ (List.mem_of_getElem? (i := 157) rfl))) (mvT hZ (hw _ (List.mem_of_getElem? (i := 105) rfl))) (mvT hZ (hw _ (List.mem_of_getElem? (i := 158) rfl))) (by decide) (backOf (W := 0) (rm_of1 l Z a0 hw [] bb4 a2 aE kk4 T4.heap n0 Zs4 Va4 E_a2_4 (Ne.symm ne_a2_bb4) SE Od4) hZ (hw _ (List.mem_of_getElem? (i := 158) rfl)) (hw _ (List.mem_of_getElem? (i := 105) rfl)) (by decide) (by decide)) (g := (mkF m 50 #[.val (.ref a1), .unset] [(.ref bb4)])) rfl (by rw [hml]; rfl) (argsL := [(.ref bb4)]) (rest := []) (lenOf pd_11 rfl) rfl (by show 2 * 0 + _ ≤ _; exact Nat.le_of_eq rfl) (hb hby d16_50) (fun _ _ => ⟨rfl, rfl, (by decide : 0 + 0 + 1 + 1 ≤ _), (by decide : 0 + 0 + 1 + 2 ≤ _)⟩)
  dsimp only [Pt.U, Pt.locs, Pt.cells, Pt.slots] at X5 l5 y5 z5 st5 hQ5
  subst l5 y5 z5
  obtain ⟨rr5, rfl, N5q, hr5, K5, Ex5, Fa5⟩ := hQ5
  have N5 := Fr.app N4 N5q
  refine own_go st5 ?_
  show own_Goes _ _ _ _ _ _ _ T5 (mkF m 53 #[.val (.ref a1), .unset] [(.ref rr5)])
  have E_a1_5 : Exa Z T5.heap a1 "java/util/ArrayList" := E_a1_4.keep K5
  have F_sz_5 : Fld Z T5.heap a1 "java/util/ArrayList" "size" "I" (.int (1 : Int32)) := F_sz_4.keep K5 nin0
  have F_el_5 : Fld Z T5.heap a1 "java/util/ArrayList" "elementData" "[Ljava/lang/Object;" (.ref a3) := F_el_4.keep K5 nin0
  have V_b_5 : Arv Z T5.heap a3 kc (.object "java/lang/Object") (10 : Int32) [(.ref a2)] .null := V_b_4.keep K5 nin0
  have E_a2_5 : Exa Z T5.heap a2 "com/example/treellis/treellis/cfa/StructType$Member" := E_a2_4.keep K5
  have E_b_5 : Exa Z T5.heap a3 "[Ljava/lang/Object;" := E_b_4.keep K5
  have V_c_5 : Arv Z T5.heap bb4 kk4 (.object "java/lang/Object") (1 : Int32) [(.ref a2)] .null := Va4.keep K5 nin0
  have Zs5 : n0 ≤ T5.heap.size := Nat.le_trans Zs4 K5.1
  have Kp5 : Keep h0 T5.heap [] := Kp4.trans K5 all0
  have Od5 : Old Z n0 T5.heap := Od4.keep K5 all0
  have lo_rr5 : n0 ≤ rr5 := Nat.le_trans Zs4 hr5
  have bo_rr5 : h0.size ≤ rr5 := Nat.le_trans Kp4.1 hr5
  have ne_a1_rr5 : a1 ≠ rr5 := Nat.ne_of_lt (Nat.lt_of_lt_of_le E_a1_4.lt hr5)
  have ne_a3_rr5 : a3 ≠ rr5 := Nat.ne_of_lt (Nat.lt_of_lt_of_le V_b_4.lt hr5)
  have ne_a2_rr5 : a2 ≠ rr5 := Nat.ne_of_lt (Nat.lt_of_lt_of_le E_a2_4.lt hr5)
  have ne_bb4_rr5 : bb4 ≠ rr5 := Nat.ne_of_lt (Nat.lt_of_lt_of_le Va4.lt hr5)
  exact own_retA X5 hx hlk hret rfl rfl (hb hby d16_53) (by decide) (by decide) ⟨rr5, rfl, N5, bo_rr5, Kp5, Ex5, Fa5⟩
def Q_rm_co1 (Z : State) (h0 : Heap) (n0 : Nat) (aE : Addr) (v : Option Value) (h : Heap) (L : List Loc) : Prop := ∃ r, v = some (.ref r) ∧ Fr n0 L ∧ h0.size ≤ r ∧ Keep h0 h [] ∧ Exa Z h r "java/util/ImmutableCollections$List12" ∧ Fld Z h r "java/util/ImmutableCollections$List12" "e1" "Ljava/lang/Object;" (.ref aE)
set_option maxRecDepth 65536 in
set_option maxHeartbeats 40000000 in
theorem rm_co1 (l : Launch) (Z : State) (a0 : Array Value) (hw : ∀ d ∈ tables_1, d.before a0 Z = true) (ws : List Jvm.Cond) (a1 a2 a3 aM aE aL : Addr) (kc : ClassId) (h0 : Heap) (n0 : Nat) (Z0 : n0 ≤ h0.size) (E_a1 : Exa Z h0 a1 "java/util/ArrayList") (F_sz : Fld Z h0 a1 "java/util/ArrayList" "size" "I" (.int (1 : Int32))) (F_el : Fld Z h0 a1 "java/util/ArrayList" "elementData" "[Ljava/lang/Object;" (.ref a3)) (V_b : Arv Z h0 a3 kc (.object "java/lang/Object") (10 : Int32) [(.ref a2)] .null) (E_a2 : Exa Z h0 a2 "com/example/treellis/treellis/cfa/StructType$Member") (E_b : Exa Z h0 a3 "[Ljava/lang/Object;") (ne_a3_a2 : a3 ≠ a2) (MM : Mir Z "[Ljava/lang/Object;" aM) (SE : Sta Z Z.heap "java/util/ImmutableCollections" "EMPTY" "Ljava/lang/Object;" (.ref aE)) (SL : Sta Z Z.heap "java/util/ImmutableCollections" "EMPTY_LIST" "Ljava/util/ImmutableCollections$ListN;" (.ref aL)) (Od0 : Old Z n0 h0) :
    MetFree l (⟨"java/util/List", "copyOf", "(Ljava/util/Collection;)Ljava/util/List;"⟩ : MethodName) (head1 (Jvm.Cond.code (⟨"java/util/List", "copyOf", "(Ljava/util/Collection;)Ljava/util/List;"⟩ : MethodName) jdk_40_method_48_code 1 (some (.object "java/util/List")) :: ws) ({ frames := 7, cells := 2, slots := 3, locals := 93 } : Room)) (fun a U => a = #[(.ref a1)] ∧ Z.Warmed39 U.vm ∧ U.heap = h0) (fun _ _ _ _ _ => True) (fun _ U o U' => ∃ rv rL, o = .returned rv ∧ Q_rm_co1 Z h0 n0 aE rv U'.heap rL ∧ FrameEnd U o U' rL ({ frames := 7, cells := 2, slots := 3, locals := 93 } : Room).cells ({ frames := 7, cells := 2, slots := 3, locals := 93 } : Room).slots) := by
  refine own_met (y := (⟨"java/util/List", "copyOf", "(Ljava/util/Collection;)Ljava/util/List;"⟩ : MethodName)) (Q := Q_rm_co1 Z h0 n0 aE) (own := "java/util/List") rfl (plainFor_of_name pn_15) ?_
  intro p e s m below meth c s₁ C e0 X0
  obtain ⟨hx, hby, hml, hown, hnm, hret, hlk, hZ⟩ := C
  have N0 := Fr.nil n0
  rw [ef_15]
  have Kp0 : Keep h0 h0 [] := Keep.refl h0 _
  show own_Goes _ _ _ _ _ _ _ s₁ (mkF m 0 #[.val (.ref a1)] [])
  refine own_go (fun _ k => XS.aloadN X0.here hx rfl (hb hby d15_0) rfl rfl k) ?_
  show own_Goes _ _ _ _ _ _ _ s₁ (mkF m 1 #[.val (.ref a1)] [(.ref a1)])
  obtain ⟨_, _, ⟨T1, L1, k1, n1⟩, -, X1, ⟨Lc1, hQ1, l1, y1, z1⟩, st1⟩ := Jvm.LawKit.callS X0 hx (y := (⟨"java/util/ImmutableCollections", "listCopy", "(Ljava/util/Collection;)Ljava/util/List;"⟩ : MethodName)) hown (mvT hZ (hw _ (List.mem_of_getElem? (i := 107) rfl))) (mvT hZ (hw _ (List.mem_of_getElem? (i := 108) rfl))) (mvT hZ (hw _ (List.mem_of_getElem? (i := 109) rfl))) (mvT hZ (hw _ (List.mem_of_getElem? (i := 110) rfl))) (by decide) (backOf (W := 0) (rm_lc1 l Z a0 hw [] a1 a2 a3 aM aE aL kc h0 n0 Z0 E_a1 F_sz F_el V_b E_a2 E_b ne_a3_a2 MM SE SL Od0) hZ (hw _ (List.mem_of_getElem? (i := 110) rfl)) (hw _ (List.mem_of_getElem? (i := 109) rfl)) (by decide) (by decide)) (g := (mkF m 1 #[.val (.ref a1)] [(.ref a1)])) rfl (by rw [hml]; rfl) (argsL := [(.ref a1)]) (rest := []) (lenOf pd_14 rfl) rfl (by show 2 * 0 + _ ≤ _; exact Nat.le_of_eq rfl) (hb hby d15_1) (fun _ _ => ⟨rfl, e0, (by decide : 0 + 2 ≤ _), (by decide : 0 + 3 ≤ _)⟩)
  dsimp only [Pt.U, Pt.locs, Pt.cells, Pt.slots] at X1 l1 y1 z1 st1 hQ1
  subst l1 y1 z1
  obtain ⟨rr1, rfl, N1q, hr1, K1, Ex1, Fa1⟩ := hQ1
  have N1 := Fr.app N0 N1q
  refine own_go st1 ?_
  show own_Goes _ _ _ _ _ _ _ T1 (mkF m 4 #[.val (.ref a1)] [(.ref rr1)])
  have E_a1_1 : Exa Z T1.heap a1 "java/util/ArrayList" := E_a1.keep K1
  have F_sz_1 : Fld Z T1.heap a1 "java/util/ArrayList" "size" "I" (.int (1 : Int32)) := F_sz.keep K1 nin0
  have F_el_1 : Fld Z T1.heap a1 "java/util/ArrayList" "elementData" "[Ljava/lang/Object;" (.ref a3) := F_el.keep K1 nin0
  have V_b_1 : Arv Z T1.heap a3 kc (.object "java/lang/Object") (10 : Int32) [(.ref a2)] .null := V_b.keep K1 nin0
  have E_a2_1 : Exa Z T1.heap a2 "com/example/treellis/treellis/cfa/StructType$Member" := E_a2.keep K1
  have E_b_1 : Exa Z T1.heap a3 "[Ljava/lang/Object;" := E_b.keep K1
  have Zs1 : n0 ≤ T1.heap.size := Nat.le_trans Z0 K1.1
  have Kp1 : Keep h0 T1.heap [] := Kp0.trans K1 all0
  have Od1 : Old Z n0 T1.heap := Od0.keep K1 all0
  have lo_rr1 : n0 ≤ rr1 := Nat.le_trans Z0 hr1
  have bo_rr1 : h0.size ≤ rr1 := Nat.le_trans Kp0.1 hr1
  have ne_a1_rr1 : a1 ≠ rr1 := Nat.ne_of_lt (Nat.lt_of_lt_of_le E_a1.lt hr1)
  have ne_a3_rr1 : a3 ≠ rr1 := Nat.ne_of_lt (Nat.lt_of_lt_of_le V_b.lt hr1)
  have ne_a2_rr1 : a2 ≠ rr1 := Nat.ne_of_lt (Nat.lt_of_lt_of_le E_a2.lt hr1)
  exact own_retA X1 hx hlk hret rfl rfl (hb hby d15_4) (by decide) (by decide) ⟨rr1, rfl, N1, bo_rr1, Kp1, Ex1, Fa1⟩
def Q_rm_cm1 (Z : State) (h0 : Heap) (n0 : Nat) (a5 aE : Addr) (p2 p3 : Int32) (v : Option Value) (h : Heap) (L : List Loc) : Prop := ∃ r, v = none ∧ Fr n0 L ∧ Keep h0 h [a5] ∧ Fld Z h a5 "com/example/treellis/treellis/cfa/StructType" "members" "Ljava/util/List;" (.ref r) ∧ Fld Z h a5 "com/example/treellis/treellis/cfa/StructType" "packing" "I" (.int p2) ∧ Fld Z h a5 "com/example/treellis/treellis/cfa/StructType" "alignment" "I" (.int p3) ∧ Exa Z h r "java/util/ImmutableCollections$List12" ∧ Fld Z h r "java/util/ImmutableCollections$List12" "e1" "Ljava/lang/Object;" (.ref aE)
set_option maxRecDepth 65536 in
set_option maxHeartbeats 40000000 in
theorem rm_cm1 (l : Launch) (Z : State) (a0 : Array Value) (hw : ∀ d ∈ tables_1, d.before a0 Z = true) (ws : List Jvm.Cond) (a5 a1 a2 a3 aM aE aL : Addr) (kc : ClassId) (p2 p3 : Int32) (h0 : Heap) (n0 : Nat) (Z0 : n0 ≤ h0.size) (E_a1 : Exa Z h0 a1 "java/util/ArrayList") (F_sz : Fld Z h0 a1 "java/util/ArrayList" "size" "I" (.int (1 : Int32))) (F_el : Fld Z h0 a1 "java/util/ArrayList" "elementData" "[Ljava/lang/Object;" (.ref a3)) (V_b : Arv Z h0 a3 kc (.object "java/lang/Object") (10 : Int32) [(.ref a2)] .null) (E_a2 : Exa Z h0 a2 "com/example/treellis/treellis/cfa/StructType$Member") (E_b : Exa Z h0 a3 "[Ljava/lang/Object;") (E_a5 : Exa Z h0 a5 "com/example/treellis/treellis/cfa/StructType") (F_mb : Fld Z h0 a5 "com/example/treellis/treellis/cfa/StructType" "members" "Ljava/util/List;" .null) (F_pk : Fld Z h0 a5 "com/example/treellis/treellis/cfa/StructType" "packing" "I" (.int (0 : Int32))) (F_ag : Fld Z h0 a5 "com/example/treellis/treellis/cfa/StructType" "alignment" "I" (.int (0 : Int32))) (lo_a5 : n0 ≤ a5) (ne_a5_a1 : a5 ≠ a1) (ne_a5_a2 : a5 ≠ a2) (ne_a5_a3 : a5 ≠ a3) (ne_a3_a2 : a3 ≠ a2) (ne_a1_a2 : a1 ≠ a2) (ne_a1_a3 : a1 ≠ a3) (MM : Mir Z "[Ljava/lang/Object;" aM) (SE : Sta Z Z.heap "java/util/ImmutableCollections" "EMPTY" "Ljava/lang/Object;" (.ref aE)) (SL : Sta Z Z.heap "java/util/ImmutableCollections" "EMPTY_LIST" "Ljava/util/ImmutableCollections$ListN;" (.ref aL)) (Od0 : Old Z n0 h0) :
    MetFree l (⟨"com/example/treellis/treellis/cfa/StructType", "complete", "(Ljava/util/List;II)V"⟩ : MethodName) (head1 (Jvm.Cond.code (⟨"com/example/treellis/treellis/cfa/StructType", "complete", "(Ljava/util/List;II)V"⟩ : MethodName) prog_52_method_2_code 4 none :: ws) ({ frames := 8, cells := 2, slots := 3, locals := 106 } : Room)) (fun a U => a = #[(.ref a5), (.ref a1), (.int p2), (.int p3)] ∧ Z.Warmed39 U.vm ∧ U.heap = h0) (fun _ _ _ _ _ => True) (fun _ U o U' => ∃ rv rL, o = .returned rv ∧ Q_rm_cm1 Z h0 n0 a5 aE p2 p3 rv U'.heap rL ∧ FrameEnd U o U' rL ({ frames := 8, cells := 2, slots := 3, locals := 106 } : Room).cells ({ frames := 8, cells := 2, slots := 3, locals := 106 } : Room).slots) := by
  refine own_met (y := (⟨"com/example/treellis/treellis/cfa/StructType", "complete", "(Ljava/util/List;II)V"⟩ : MethodName)) (Q := Q_rm_cm1 Z h0 n0 a5 aE p2 p3) (own := "com/example/treellis/treellis/cfa/StructType") rfl (plainFor_of_name pn_14) ?_
  intro p e s m below meth c s₁ C e0 X0
  obtain ⟨hx, hby, hml, hown, hnm, hret, hlk, hZ⟩ := C
  have N0 := Fr.nil n0
  rw [ef_14]
  have Kp0 : Keep h0 h0 [a5] := Keep.refl h0 _
  show own_Goes _ _ _ _ _ _ _ s₁ (mkF m 0 #[.val (.ref a5), .val (.ref a1), .val (.int p2), .val (.int p3)] [])
  refine own_go (fun _ k => XS.aloadN X0.here hx rfl (hb hby d14_0) rfl rfl k) ?_
  show own_Goes _ _ _ _ _ _ _ s₁ (mkF m 1 #[.val (.ref a5), .val (.ref a1), .val (.int p2), .val (.int p3)] [(.ref a5)])
  obtain ⟨T1, X1, e1, st1⟩ := getF X0 hx hZ hown (host := "") (Or.inl (hw _ (List.mem_of_getElem? (i := 21) rfl))) Via.refl e0 F_mb (g := (mkF m 1 #[.val (.ref a5), .val (.ref a1), .val (.int p2), .val (.int p3)] [(.ref a5)])) rfl rfl (hb hby d14_1)
  refine own_go st1 ?_
  show own_Goes _ _ _ _ _ _ _ T1 (mkF m 4 #[.val (.ref a5), .val (.ref a1), .val (.int p2), .val (.int p3)] [.null])
  refine own_go (fun _ k => XS.ifnullYes X1.here hx rfl (pc0 := 4) (pc' := 24) rfl (hb hby d14_4) rfl (by decide) (by decide) k) ?_
  show own_Goes _ _ _ _ _ _ _ T1 (mkF m 24 #[.val (.ref a5), .val (.ref a1), .val (.int p2), .val (.int p3)] [])
  refine own_go (fun _ k => XS.aloadN X1.here hx rfl (hb hby d14_24) rfl rfl k) ?_
  show own_Goes _ _ _ _ _ _ _ T1 (mkF m 25 #[.val (.ref a5), .val (.ref a1), .val (.int p2), .val (.int p3)] [(.ref a5)])
  refine own_go (fun _ k => XS.aloadN X1.here hx rfl (hb hby d14_25) rfl rfl k) ?_
  show own_Goes _ _ _ _ _ _ _ T1 (mkF m 26 #[.val (.ref a5), .val (.ref a1), .val (.int p2), .val (.int p3)] [(.ref a1), (.ref a5)])
  obtain ⟨_, _, ⟨T2, L2, k2, n2⟩, -, X2, ⟨Lc2, hQ2, l2, y2, z2⟩, st2⟩ := Jvm.LawKit.callS X1 hx (y := (⟨"java/util/List", "copyOf", "(Ljava/util/Collection;)Ljava/util/List;"⟩ : MethodName)) hown (mvT hZ (hw _ (List.mem_of_getElem? (i := 103) rfl))) (mvT hZ (hw _ (List.mem_of_getElem? (i := 104) rfl))) (mvT hZ (hw _ (List.mem_of_getElem? (i := 105) rfl))) (mvT hZ (hw _ (List.mem_of_getElem? (i := 106) rfl))) (by decide) (backOf (W := 1) (rm_co1 l Z a0 hw [] a1 a2 a3 aM aE aL kc h0 n0 Z0 E_a1 F_sz F_el V_b E_a2 E_b ne_a3_a2 MM SE SL Od0) hZ (hw _ (List.mem_of_getElem? (i := 106) rfl)) (hw _ (List.mem_of_getElem? (i := 105) rfl)) (by decide) (by decide)) (g := (mkF m 26 #[.val (.ref a5), .val (.ref a1), .val (.int p2), .val (.int p3)] [(.ref a1), (.ref a5)])) rfl (by rw [hml]; rfl) (argsL := [(.ref a1)]) (rest := [(.ref a5)]) (lenOf pd_14 rfl) rfl (by show 2 * 0 + _ ≤ _; exact Nat.le_of_eq rfl) (hb hby d14_26) (fun _ _ => ⟨rfl, e1, (by decide : 0 + 2 ≤ _), (by decide : 0 + 3 ≤ _)⟩)
  dsimp only [Pt.U, Pt.locs, Pt.cells, Pt.slots] at X2 l2 y2 z2 st2 hQ2
  subst l2 y2 z2
  obtain ⟨rr2, rfl, N2q, hr2, K2, Ex2, Fa2⟩ := hQ2
  have N2 := Fr.app N0 N2q
  refine own_go st2 ?_
  show own_Goes _ _ _ _ _ _ _ T2 (mkF m 29 #[.val (.ref a5), .val (.ref a1), .val (.int p2), .val (.int p3)] [(.ref rr2), (.ref a5)])
  have E_a1_2 : Exa Z T2.heap a1 "java/util/ArrayList" := E_a1.keep K2
  have F_sz_2 : Fld Z T2.heap a1 "java/util/ArrayList" "size" "I" (.int (1 : Int32)) := F_sz.keep K2 nin0
  have F_el_2 : Fld Z T2.heap a1 "java/util/ArrayList" "elementData" "[Ljava/lang/Object;" (.ref a3) := F_el.keep K2 nin0
  have V_b_2 : Arv Z T2.heap a3 kc (.object "java/lang/Object") (10 : Int32) [(.ref a2)] .null := V_b.keep K2 nin0
  have E_a2_2 : Exa Z T2.heap a2 "com/example/treellis/treellis/cfa/StructType$Member" := E_a2.keep K2
  have E_b_2 : Exa Z T2.heap a3 "[Ljava/lang/Object;" := E_b.keep K2
  have E_a5_2 : Exa Z T2.heap a5 "com/example/treellis/treellis/cfa/StructType" := E_a5.keep K2
  have F_mb_2 : Fld Z T2.heap a5 "com/example/treellis/treellis/cfa/StructType" "members" "Ljava/util/List;" .null := F_mb.keep K2 nin0
  have F_pk_2 : Fld Z T2.heap a5 "com/example/treellis/treellis/cfa/StructType" "packing" "I" (.int (0 : Int32)) := F_pk.keep K2 nin0
  have F_ag_2 : Fld Z T2.heap a5 "com/example/treellis/treellis/cfa/StructType" "alignment" "I" (.int (0 : Int32)) := F_ag.keep K2 nin0
  have Zs2 : n0 ≤ T2.heap.size := Nat.le_trans Z0 K2.1
  have Kp2 : Keep h0 T2.heap [a5] := Kp0.trans K2 all0
  have Od2 : Old Z n0 T2.heap := Od0.keep K2 all0
  have lo_rr2 : n0 ≤ rr2 := Nat.le_trans Z0 hr2
  have bo_rr2 : h0.size ≤ rr2 := Nat.le_trans Kp0.1 hr2
  have ne_a1_rr2 : a1 ≠ rr2 := Nat.ne_of_lt (Nat.lt_of_lt_of_le E_a1.lt hr2)
  have ne_a3_rr2 : a3 ≠ rr2 := Nat.ne_of_lt (Nat.lt_of_lt_of_le V_b.lt hr2)
  have ne_a2_rr2 : a2 ≠ rr2 := Nat.ne_of_lt (Nat.lt_of_lt_of_le E_a2.lt hr2)
  have ne_a5_rr2 : a5 ≠ rr2 := Nat.ne_of_lt (Nat.lt_of_lt_of_le E_a5.lt hr2)
  obtain ⟨T3, h3, X3, e3, W3, st3⟩ := putF X2 hx hZ hown (host := "") (Or.inl (hw _ (List.mem_of_getElem? (i := 21) rfl))) Via.refl rfl F_mb_2 E_a5_2 (Or.inl (hw _ (List.mem_of_getElem? (i := 22) rfl))) (hw _ (List.mem_of_getElem? (i := 4) rfl)) (ty := (.object "java/util/List")) (by decide) rfl rfl (g := (mkF m 29 #[.val (.ref a5), .val (.ref a1), .val (.int p2), .val (.int p3)] [(.ref rr2), (.ref a5)])) rfl rfl (hb hby d14_29)
  have F_mb_3 : Fld Z h3 a5 "com/example/treellis/treellis/cfa/StructType" "members" "Ljava/util/List;" (.ref rr2) := F_mb_2.same W3
  have N3 := Fr.snoc X3 N2 lo_a5
  have E_a1_3 : Exa Z h3 a1 "java/util/ArrayList" := E_a1_2.wr W3
  have F_sz_3 : Fld Z h3 a1 "java/util/ArrayList" "size" "I" (.int (1 : Int32)) := F_sz_2.other W3 (Or.inl (Ne.symm ne_a5_a1))
  have F_el_3 : Fld Z h3 a1 "java/util/ArrayList" "elementData" "[Ljava/lang/Object;" (.ref a3) := F_el_2.other W3 (Or.inl (Ne.symm ne_a5_a1))
  have V_b_3 : Arv Z h3 a3 kc (.object "java/lang/Object") (10 : Int32) [(.ref a2)] .null := V_b_2.other W3 (Ne.symm ne_a5_a3)
  have E_a2_3 : Exa Z h3 a2 "com/example/treellis/treellis/cfa/StructType$Member" := E_a2_2.wr W3
  have E_b_3 : Exa Z h3 a3 "[Ljava/lang/Object;" := E_b_2.wr W3
  have E_a5_3 : Exa Z h3 a5 "com/example/treellis/treellis/cfa/StructType" := E_a5_2.wr W3
  have F_pk_3 : Fld Z h3 a5 "com/example/treellis/treellis/cfa/StructType" "packing" "I" (.int (0 : Int32)) := F_pk_2.other W3 (Or.inr (slot_ne (Or.inl (hw _ (List.mem_of_getElem? (i := 189) rfl))) (Or.inl (hw _ (List.mem_of_getElem? (i := 22) rfl))) (by decide) (t := .int) (t' := (.object "java/util/List")) (by decide) (by decide)))
  have F_ag_3 : Fld Z h3 a5 "com/example/treellis/treellis/cfa/StructType" "alignment" "I" (.int (0 : Int32)) := F_ag_2.other W3 (Or.inr (slot_ne (Or.inl (hw _ (List.mem_of_getElem? (i := 191) rfl))) (Or.inl (hw _ (List.mem_of_getElem? (i := 22) rfl))) (by decide) (t := .int) (t' := (.object "java/util/List")) (by decide) (by decide)))
  have E_r_3 : Exa Z h3 rr2 "java/util/ImmutableCollections$List12" := Ex2.wr W3
  have F_e1_3 : Fld Z h3 rr2 "java/util/ImmutableCollections$List12" "e1" "Ljava/lang/Object;" (.ref aE) := Fa2.other W3 (Or.inl (Ne.symm ne_a5_rr2))
  have Zs3 : n0 ≤ h3.size := Nat.le_trans Zs2 (Keep.of_wr W3).1
  have Kp3 : Keep h0 h3 [a5] := Kp2.wr W3 (Or.inl (by simp))
  have Od3 : Old Z n0 h3 := Od2.wr W3 lo_a5
  refine own_go st3 ?_
  show own_Goes _ _ _ _ _ _ _ T3 (mkF m 32 #[.val (.ref a5), .val (.ref a1), .val (.int p2), .val (.int p3)] [])
  refine own_go (fun _ k => XS.aloadN X3.here hx rfl (hb hby d14_32) rfl rfl k) ?_
  show own_Goes _ _ _ _ _ _ _ T3 (mkF m 33 #[.val (.ref a5), .val (.ref a1), .val (.int p2), .val (.int p3)] [(.ref a5)])
  refine own_go (fun _ k => XS.iloadN X3.here hx rfl (hb hby d14_33) rfl k) ?_
  show own_Goes _ _ _ _ _ _ _ T3 (mkF m 34 #[.val (.ref a5), .val (.ref a1), .val (.int p2), .val (.int p3)] [(.int p2), (.ref a5)])
  obtain ⟨T4, h4, X4, e4, W4, st4⟩ := putF X3 hx hZ hown (host := "") (Or.inl (hw _ (List.mem_of_getElem? (i := 188) rfl))) Via.refl e3 F_pk_3 E_a5_3 (Or.inl (hw _ (List.mem_of_getElem? (i := 189) rfl))) (hw _ (List.mem_of_getElem? (i := 4) rfl)) (ty := .int) (by decide) rfl rfl (g := (mkF m 34 #[.val (.ref a5), .val (.ref a1), .val (.int p2), .val (.int p3)] [(.int p2), (.ref a5)])) rfl rfl (hb hby d14_34)
  have F_pk_4 : Fld Z h4 a5 "com/example/treellis/treellis/cfa/StructType" "packing" "I" (.int p2) := F_pk_3.same W4
  have N4 := Fr.snoc X4 N3 lo_a5
  have E_a1_4 : Exa Z h4 a1 "java/util/ArrayList" := E_a1_3.wr W4
  have F_sz_4 : Fld Z h4 a1 "java/util/ArrayList" "size" "I" (.int (1 : Int32)) := F_sz_3.other W4 (Or.inl (Ne.symm ne_a5_a1))
  have F_el_4 : Fld Z h4 a1 "java/util/ArrayList" "elementData" "[Ljava/lang/Object;" (.ref a3) := F_el_3.other W4 (Or.inl (Ne.symm ne_a5_a1))
  have V_b_4 : Arv Z h4 a3 kc (.object "java/lang/Object") (10 : Int32) [(.ref a2)] .null := V_b_3.other W4 (Ne.symm ne_a5_a3)
  have E_a2_4 : Exa Z h4 a2 "com/example/treellis/treellis/cfa/StructType$Member" := E_a2_3.wr W4
  have E_b_4 : Exa Z h4 a3 "[Ljava/lang/Object;" := E_b_3.wr W4
  have E_a5_4 : Exa Z h4 a5 "com/example/treellis/treellis/cfa/StructType" := E_a5_3.wr W4
  have F_ag_4 : Fld Z h4 a5 "com/example/treellis/treellis/cfa/StructType" "alignment" "I" (.int (0 : Int32)) := F_ag_3.other W4 (Or.inr (slot_ne (Or.inl (hw _ (List.mem_of_getElem? (i := 191) rfl))) (Or.inl (hw _ (List.mem_of_getElem? (i := 189) rfl))) (by decide) (t := .int) (t' := .int) (by decide) (by decide)))
  have E_r_4 : Exa Z h4 rr2 "java/util/ImmutableCollections$List12" := E_r_3.wr W4
  have F_e1_4 : Fld Z h4 rr2 "java/util/ImmutableCollections$List12" "e1" "Ljava/lang/Object;" (.ref aE) := F_e1_3.other W4 (Or.inl (Ne.symm ne_a5_rr2))
  have F_mb_4 : Fld Z h4 a5 "com/example/treellis/treellis/cfa/StructType" "members" "Ljava/util/List;" (.ref rr2) := F_mb_3.other W4 (Or.inr (slot_ne (Or.inl (hw _ (List.mem_of_getElem? (i := 22) rfl))) (Or.inl (hw _ (List.mem_of_getElem? (i := 189) rfl))) (by decide) (t := (.object "java/util/List")) (t' := .int) (by decide) (by decide)))
  have Zs4 : n0 ≤ h4.size := Nat.le_trans Zs3 (Keep.of_wr W4).1
  have Kp4 : Keep h0 h4 [a5] := Kp3.wr W4 (Or.inl (by simp))
  have Od4 : Old Z n0 h4 := Od3.wr W4 lo_a5
  refine own_go st4 ?_
  show own_Goes _ _ _ _ _ _ _ T4 (mkF m 37 #[.val (.ref a5), .val (.ref a1), .val (.int p2), .val (.int p3)] [])
  refine own_go (fun _ k => XS.aloadN X4.here hx rfl (hb hby d14_37) rfl rfl k) ?_
  show own_Goes _ _ _ _ _ _ _ T4 (mkF m 38 #[.val (.ref a5), .val (.ref a1), .val (.int p2), .val (.int p3)] [(.ref a5)])
  refine own_go (fun _ k => XS.iloadN X4.here hx rfl (hb hby d14_38) rfl k) ?_
  show own_Goes _ _ _ _ _ _ _ T4 (mkF m 39 #[.val (.ref a5), .val (.ref a1), .val (.int p2), .val (.int p3)] [(.int p3), (.ref a5)])
  obtain ⟨T5, h5, X5, e5, W5, st5⟩ := putF X4 hx hZ hown (host := "") (Or.inl (hw _ (List.mem_of_getElem? (i := 190) rfl))) Via.refl e4 F_ag_4 E_a5_4 (Or.inl (hw _ (List.mem_of_getElem? (i := 191) rfl))) (hw _ (List.mem_of_getElem? (i := 4) rfl)) (ty := .int) (by decide) rfl rfl (g := (mkF m 39 #[.val (.ref a5), .val (.ref a1), .val (.int p2), .val (.int p3)] [(.int p3), (.ref a5)])) rfl rfl (hb hby d14_39)
  have F_ag_5 : Fld Z h5 a5 "com/example/treellis/treellis/cfa/StructType" "alignment" "I" (.int p3) := F_ag_4.same W5
  have N5 := Fr.snoc X5 N4 lo_a5
  have E_a1_5 : Exa Z h5 a1 "java/util/ArrayList" := E_a1_4.wr W5
  have F_sz_5 : Fld Z h5 a1 "java/util/ArrayList" "size" "I" (.int (1 : Int32)) := F_sz_4.other W5 (Or.inl (Ne.symm ne_a5_a1))
  have F_el_5 : Fld Z h5 a1 "java/util/ArrayList" "elementData" "[Ljava/lang/Object;" (.ref a3) := F_el_4.other W5 (Or.inl (Ne.symm ne_a5_a1))
  have V_b_5 : Arv Z h5 a3 kc (.object "java/lang/Object") (10 : Int32) [(.ref a2)] .null := V_b_4.other W5 (Ne.symm ne_a5_a3)
  have E_a2_5 : Exa Z h5 a2 "com/example/treellis/treellis/cfa/StructType$Member" := E_a2_4.wr W5
  have E_b_5 : Exa Z h5 a3 "[Ljava/lang/Object;" := E_b_4.wr W5
  have E_a5_5 : Exa Z h5 a5 "com/example/treellis/treellis/cfa/StructType" := E_a5_4.wr W5
  have E_r_5 : Exa Z h5 rr2 "java/util/ImmutableCollections$List12" := E_r_4.wr W5
  have F_e1_5 : Fld Z h5 rr2 "java/util/ImmutableCollections$List12" "e1" "Ljava/lang/Object;" (.ref aE) := F_e1_4.other W5 (Or.inl (Ne.symm ne_a5_rr2))
  have F_mb_5 : Fld Z h5 a5 "com/example/treellis/treellis/cfa/StructType" "members" "Ljava/util/List;" (.ref rr2) := F_mb_4.other W5 (Or.inr (slot_ne (Or.inl (hw _ (List.mem_of_getElem? (i := 22) rfl))) (Or.inl (hw _ (List.mem_of_getElem? (i := 191) rfl))) (by decide) (t := (.object "java/util/List")) (t' := .int) (by decide) (by decide)))
  have F_pk_5 : Fld Z h5 a5 "com/example/treellis/treellis/cfa/StructType" "packing" "I" (.int p2) := F_pk_4.other W5 (Or.inr (slot_ne (Or.inl (hw _ (List.mem_of_getElem? (i := 189) rfl))) (Or.inl (hw _ (List.mem_of_getElem? (i := 191) rfl))) (by decide) (t := .int) (t' := .int) (by decide) (by decide)))
  have Zs5 : n0 ≤ h5.size := Nat.le_trans Zs4 (Keep.of_wr W5).1
  have Kp5 : Keep h0 h5 [a5] := Kp4.wr W5 (Or.inl (by simp))
  have Od5 : Old Z n0 h5 := Od4.wr W5 lo_a5
  refine own_go st5 ?_
  show own_Goes _ _ _ _ _ _ _ T5 (mkF m 42 #[.val (.ref a5), .val (.ref a1), .val (.int p2), .val (.int p3)] [])
  exact own_retV X5 hx hlk hret (hb hby d14_42) (by decide) (by decide) (by rw [e5]; exact ⟨rr2, rfl, N5, Kp5, F_mb_5, F_pk_5, F_ag_5, E_r_5, F_e1_5⟩)
def Q_rm_lc2 (Z : State) (h0 : Heap) (n0 : Nat) (a2 : Addr) (v : Option Value) (h : Heap) (L : List Loc) : Prop := ∃ r, v = some (.ref r) ∧ Fr n0 L ∧ h0.size ≤ r ∧ Keep h0 h [] ∧ Exa Z h r "java/util/ImmutableCollections$List12" ∧ Fld Z h r "java/util/ImmutableCollections$List12" "e1" "Ljava/lang/Object;" (.ref a2)
set_option maxRecDepth 65536 in
set_option maxHeartbeats 40000000 in
theorem rm_lc2 (l : Launch) (Z : State) (a0 : Array Value) (hw : ∀ d ∈ tables_1, d.before a0 Z = true) (ws : List Jvm.Cond) (a1 a2 a3 aM aE aL : Addr) (kc : ClassId) (h0 : Heap) (n0 : Nat) (Z0 : n0 ≤ h0.size) (E_a1 : Exa Z h0 a1 "java/util/ArrayList") (F_sz : Fld Z h0 a1 "java/util/ArrayList" "size" "I" (.int (2 : Int32))) (F_el : Fld Z h0 a1 "java/util/ArrayList" "elementData" "[Ljava/lang/Object;" (.ref a3)) (V_b : Arv Z h0 a3 kc (.object "java/lang/Object") (10 : Int32) [(.ref a2), (.ref a2)] .null) (E_a2 : Exa Z h0 a2 "com/example/treellis/treellis/cfa/StructType$Member") (E_b : Exa Z h0 a3 "[Ljava/lang/Object;") (ne_a3_a2 : a3 ≠ a2) (MM : Mir Z "[Ljava/lang/Object;" aM) (SE : Sta Z Z.heap "java/util/ImmutableCollections" "EMPTY" "Ljava/lang/Object;" (.ref aE)) (SL : Sta Z Z.heap "java/util/ImmutableCollections" "EMPTY_LIST" "Ljava/util/ImmutableCollections$ListN;" (.ref aL)) (Od0 : Old Z n0 h0) :
    MetFree l (⟨"java/util/ImmutableCollections", "listCopy", "(Ljava/util/Collection;)Ljava/util/List;"⟩ : MethodName) (head1 (Jvm.Cond.code (⟨"java/util/ImmutableCollections", "listCopy", "(Ljava/util/Collection;)Ljava/util/List;"⟩ : MethodName) jdk_56_method_3_code 2 (some (.object "java/util/List")) :: ws) ({ frames := 6, cells := 2, slots := 4, locals := 80 } : Room)) (fun a U => a = #[(.ref a1)] ∧ Z.Warmed39 U.vm ∧ U.heap = h0) (fun _ _ _ _ _ => True) (fun _ U o U' => ∃ rv rL, o = .returned rv ∧ Q_rm_lc2 Z h0 n0 a2 rv U'.heap rL ∧ FrameEnd U o U' rL ({ frames := 6, cells := 2, slots := 4, locals := 80 } : Room).cells ({ frames := 6, cells := 2, slots := 4, locals := 80 } : Room).slots) := by
  refine own_met (y := (⟨"java/util/ImmutableCollections", "listCopy", "(Ljava/util/Collection;)Ljava/util/List;"⟩ : MethodName)) (Q := Q_rm_lc2 Z h0 n0 a2) (own := "java/util/ImmutableCollections") rfl (plainFor_of_name pn_16) ?_
  intro p e s m below meth c s₁ C e0 X0
  obtain ⟨hx, hby, hml, hown, hnm, hret, hlk, hZ⟩ := C
  have N0 := Fr.nil n0
  rw [ef_16]
  have Kp0 : Keep h0 h0 [] := Keep.refl h0 _
  show own_Goes _ _ _ _ _ _ _ s₁ (mkF m 0 #[.val (.ref a1), .unset] [])
  refine own_go (fun _ k => XS.aloadN X0.here hx rfl (hb hby d16_0) rfl rfl k) ?_
  show own_Goes _ _ _ _ _ _ _ s₁ (mkF m 1 #[.val (.ref a1), .unset] [(.ref a1)])
  obtain ⟨T1, X1, e1, st1⟩ := instNo X0 hx hZ hown (hw _ (List.mem_of_getElem? (i := 111) rfl)) e0 E_a1 (own_nas3 (hw _ (List.mem_of_getElem? (i := 112) rfl)) (hw _ (List.mem_of_getElem? (i := 113) rfl)) (hw _ (List.mem_of_getElem? (i := 114) rfl)) (hw _ (List.mem_of_getElem? (i := 115) rfl)) (hw _ (List.mem_of_getElem? (i := 160) rfl)) (by decide) (by decide) (by decide) (by decide)) (g := (mkF m 1 #[.val (.ref a1), .unset] [(.ref a1)])) rfl rfl (hb hby d16_1)
  refine own_go st1 ?_
  show own_Goes _ _ _ _ _ _ _ T1 (mkF m 4 #[.val (.ref a1), .unset] [(.int (0 : Int32))])
  refine own_go (fun _ k => XS.ifNo X1.here hx rfl (hb hby d16_4) rfl ((if0 _ _).trans (teq (by decide : (0 : Int32) = (0 : Int32))).2) k) ?_
  show own_Goes _ _ _ _ _ _ _ T1 (mkF m 7 #[.val (.ref a1), .unset] [])
  refine own_go (fun _ k => XS.aloadN X1.here hx rfl (hb hby d16_7) rfl rfl k) ?_
  show own_Goes _ _ _ _ _ _ _ T1 (mkF m 8 #[.val (.ref a1), .unset] [(.ref a1)])
  obtain ⟨T2, X2, e2, st2⟩ := instNo X1 hx hZ hown (hw _ (List.mem_of_getElem? (i := 116) rfl)) e1 E_a1 (own_nas3 (hw _ (List.mem_of_getElem? (i := 112) rfl)) (hw _ (List.mem_of_getElem? (i := 113) rfl)) (hw _ (List.mem_of_getElem? (i := 114) rfl)) (hw _ (List.mem_of_getElem? (i := 115) rfl)) (hw _ (List.mem_of_getElem? (i := 246) rfl)) (by decide) (by decide) (by decide) (by decide)) (g := (mkF m 8 #[.val (.ref a1), .unset] [(.ref a1)])) rfl rfl (hb hby d16_8)
  refine own_go st2 ?_
  show own_Goes _ _ _ _ _ _ _ T2 (mkF m 11 #[.val (.ref a1), .unset] [(.int (0 : Int32))])
  refine own_go (fun _ k => XS.ifYes X2.here hx rfl (pc0 := 11) (pc' := 31) rfl (hb hby d16_11) rfl ((if0 _ _).trans (teq (by decide : (0 : Int32) = (0 : Int32))).1) (by decide) (by decide) k) ?_
  show own_Goes _ _ _ _ _ _ _ T2 (mkF m 31 #[.val (.ref a1), .unset] [])
  refine own_go (fun _ k => XS.aloadN X2.here hx rfl (hb hby d16_31) rfl rfl k) ?_
  show own_Goes _ _ _ _ _ _ _ T2 (mkF m 32 #[.val (.ref a1), .unset] [(.ref a1)])
  obtain ⟨cq3, kq3, zq3a, zq3b, zq3c⟩ := isOf hZ e2 E_a1
  obtain ⟨_, _, ⟨T3, L3, k3, n3⟩, -, X3, ⟨Lc3, hQ3, l3, y3, z3⟩, st3⟩ := X2.interfaceBack hx (xi := (⟨"java/util/Collection", "isEmpty", "()Z"⟩ : MethodName)) (y := (⟨"java/util/ArrayList", "isEmpty", "()Z"⟩ : MethodName)) hown (mvT hZ (hw _ (List.mem_of_getElem? (i := 117) rfl))) (mvT hZ (hw _ (List.mem_of_getElem? (i := 118) rfl))) (mvT hZ (hw _ (List.mem_of_getElem? (i := 119) rfl))) (mvT hZ (hw _ (List.mem_of_getElem? (i := 120) rfl))) (mvT hZ (hw _ (List.mem_of_getElem? (i := 121) rfl))) (mvT hZ (hw _ (List.mem_of_getElem? (i := 122) rfl))) (mvT hZ (hw _ (List.mem_of_getElem? (i := 123) rfl))) (mvT hZ (hw _ (List.mem_of_getElem? (i := 124) rfl))) (by decide) (backOf (W := 0) (rm_ie2 l Z a0 hw [] a1 h0 n0 Z0 F_sz) hZ (hw _ (List.mem_of_getElem? (i := 125) rfl)) (hw _ (List.mem_of_getElem? (i := 45) rfl)) (by decide) (by decide)) zq3a zq3b zq3c (g := (mkF m 32 #[.val (.ref a1), .unset] [(.ref a1)])) rfl (by rw [hml]; rfl) (Steps.refl _) (argsL := []) (rest := []) (lenOf pd_12 rfl) rfl (by show 2 * 0 + _ ≤ _; exact Nat.le_of_eq rfl) (hb hby d16_32) (fun _ _ => ⟨rfl, e2, (by decide : 0 + 0 ≤ _), (by decide : 0 + 0 ≤ _)⟩)
  dsimp only [Pt.U, Pt.locs, Pt.cells, Pt.slots] at X3 l3 y3 z3 st3 hQ3
  subst l3 y3 z3
  obtain ⟨rfl, N3q, e3⟩ := hQ3
  have N3 := Fr.app N0 N3q
  refine own_goS st3 ?_
  show own_Goes _ _ _ _ _ _ _ T3 (mkF m 37 #[.val (.ref a1), .unset] [(.int (0 : Int32))])
  refine own_go (fun _ k => XS.ifYes X3.here hx rfl (pc0 := 37) (pc' := 44) rfl (hb hby d16_37) rfl ((if0 _ _).trans (teq (by decide : (0 : Int32) = (0 : Int32))).1) (by decide) (by decide) k) ?_
  show own_Goes _ _ _ _ _ _ _ T3 (mkF m 44 #[.val (.ref a1), .unset] [])
  refine own_go (fun _ k => XS.aloadN X3.here hx rfl (hb hby d16_44) rfl rfl k) ?_
  show own_Goes _ _ _ _ _ _ _ T3 (mkF m 45 #[.val (.ref a1), .unset] [(.ref a1)])
  obtain ⟨cq4, kq4, zq4a, zq4b, zq4c⟩ := isOf hZ e3 E_a1
  obtain ⟨_, _, ⟨T4, L4, k4, n4⟩, -, X4, ⟨Lc4, hQ4, l4, y4, z4⟩, st4⟩ := X3.interfaceBack hx (xi := (⟨"java/util/Collection", "toArray", "()[Ljava/lang/Object;"⟩ : MethodName)) (y := (⟨"java/util/ArrayList", "toArray", "()[Ljava/lang/Object;"⟩ : MethodName)) hown (mvT hZ (hw _ (List.mem_of_getElem? (i := 126) rfl))) (mvT hZ (hw _ (List.mem_of_getElem? (i := 127) rfl))) (mvT hZ (hw _ (List.mem_of_getElem? (i := 128) rfl))) (mvT hZ (hw _ (List.mem_of_getElem? (i := 129) rfl))) (mvT hZ (hw _ (List.mem_of_getElem? (i := 130) rfl))) (mvT hZ (hw _ (List.mem_of_getElem? (i := 131) rfl))) (mvT hZ (hw _ (List.mem_of_getElem? (i := 132) rfl))) (mvT hZ (hw _ (List.mem_of_getElem? (i := 124) rfl))) (by decide) (backOf (W := 0) (rm_ta2 l Z a0 hw [] a1 a2 a3 aM kc h0 n0 Z0 F_sz F_el V_b E_a2 E_b ne_a3_a2 MM) hZ (hw _ (List.mem_of_getElem? (i := 133) rfl)) (hw _ (List.mem_of_getElem? (i := 45) rfl)) (by decide) (by decide)) zq4a zq4b zq4c (g := (mkF m 45 #[.val (.ref a1), .unset] [(.ref a1)])) rfl (by rw [hml]; rfl) (Steps.refl _) (argsL := []) (rest := []) (lenOf pd_3 rfl) rfl (by show 2 * 0 + _ ≤ _; exact Nat.le_of_eq rfl) (hb hby d16_45) (fun _ _ => ⟨rfl, e3, (by decide : 0 + 0 + 1 ≤ _), (by decide : 0 + 0 + 2 ≤ _)⟩)
  dsimp only [Pt.U, Pt.locs, Pt.cells, Pt.slots] at X4 l4 y4 z4 st4 hQ4
  subst l4 y4 z4
  obtain ⟨bb4, kk4, rfl, N4q, hb4, K4, Va4⟩ := hQ4
  have N4 := Fr.app N3 N4q
  refine own_goS st4 ?_
  show own_Goes _ _ _ _ _ _ _ T4 (mkF m 50 #[.val (.ref a1), .unset] [(.ref bb4)])
  have E_a1_4 : Exa Z T4.heap a1 "java/util/ArrayList" := E_a1.keep K4
  have F_sz_4 : Fld Z T4.heap a1 "java/util/ArrayList" "size" "I" (.int (2 : Int32)) := F_sz.keep K4 nin0
  have F_el_4 : Fld Z T4.heap a1 "java/util/ArrayList" "elementData" "[Ljava/lang/Object;" (.ref a3) := F_el.keep K4 nin0
  have V_b_4 : Arv Z T4.heap a3 kc (.object "java/lang/Object") (10 : Int32) [(.ref a2), (.ref a2)] .null := V_b.keep K4 nin0
  have E_a2_4 : Exa Z T4.heap a2 "com/example/treellis/treellis/cfa/StructType$Member" := E_a2.keep K4
  have E_b_4 : Exa Z T4.heap a3 "[Ljava/lang/Object;" := E_b.keep K4
  have Zs4 : n0 ≤ T4.heap.size := Nat.le_trans Z0 K4.1
  have Kp4 : Keep h0 T4.heap [] := Kp0.trans K4 all0
  have Od4 : Old Z n0 T4.heap := Od0.keep K4 all0
  have lo_bb4 : n0 ≤ bb4 := Nat.le_trans Z0 hb4
  have bo_bb4 : h0.size ≤ bb4 := Nat.le_trans Kp0.1 hb4
  have ne_a1_bb4 : a1 ≠ bb4 := Nat.ne_of_lt (Nat.lt_of_lt_of_le E_a1.lt hb4)
  have ne_a3_bb4 : a3 ≠ bb4 := Nat.ne_of_lt (Nat.lt_of_lt_of_le V_b.lt hb4)
  have ne_a2_bb4 : a2 ≠ bb4 := Nat.ne_of_lt (Nat.lt_of_lt_of_le E_a2.lt hb4)
  obtain ⟨_, _, ⟨T5, L5, k5, n5⟩, -, X5, ⟨Lc5, hQ5, l5, y5, z5⟩, st5⟩ := Jvm.LawKit.callS X4 hx (y := (⟨"java/util/List", "of", "([Ljava/lang/Object;)Ljava/util/List;"⟩ : MethodName)) hown (mvT hZ (hw _ (List.mem_of_getElem? (i := 156) rfl))) (mvT hZ (hw _ (List.mem_of_getElem? (i := 157) rfl))) (mvT hZ (hw _ (List.mem_of_getElem? (i := 105) rfl))) (mvT hZ (hw _ (List.mem_of_getElem? (i := 158) rfl))) (by decide) (backOf (W := 0) (rm_of2 l Z a0 hw [] bb4 a2 aE kk4 T4.heap n0 Zs4 Va4 E_a2_4 (Ne.symm ne_a2_bb4) SE Od4) hZ (hw _ (List.mem_of_getElem? (i := 158) rfl)) (hw _ (List.mem_of_getElem? (i := 105) rfl)) (by decide) (by decide)) (g := (mkF m 50 #[.val (.ref a1), .unset] [(.ref bb4)])) rfl (by rw [hml]; rfl) (argsL := [(.ref bb4)]) (rest := []) (lenOf pd_11 rfl) rfl (by show 2 * 0 + _ ≤ _; exact Nat.le_of_eq rfl) (hb hby d16_50) (fun _ _ => ⟨rfl, rfl, (by decide : 0 + 0 + 1 + 1 ≤ _), (by decide : 0 + 0 + 2 + 2 ≤ _)⟩)
  dsimp only [Pt.U, Pt.locs, Pt.cells, Pt.slots] at X5 l5 y5 z5 st5 hQ5
  subst l5 y5 z5
  obtain ⟨rr5, rfl, N5q, hr5, K5, Ex5, Fa5⟩ := hQ5
  have N5 := Fr.app N4 N5q
  refine own_go st5 ?_
  show own_Goes _ _ _ _ _ _ _ T5 (mkF m 53 #[.val (.ref a1), .unset] [(.ref rr5)])
  have E_a1_5 : Exa Z T5.heap a1 "java/util/ArrayList" := E_a1_4.keep K5
  have F_sz_5 : Fld Z T5.heap a1 "java/util/ArrayList" "size" "I" (.int (2 : Int32)) := F_sz_4.keep K5 nin0
  have F_el_5 : Fld Z T5.heap a1 "java/util/ArrayList" "elementData" "[Ljava/lang/Object;" (.ref a3) := F_el_4.keep K5 nin0
  have V_b_5 : Arv Z T5.heap a3 kc (.object "java/lang/Object") (10 : Int32) [(.ref a2), (.ref a2)] .null := V_b_4.keep K5 nin0
  have E_a2_5 : Exa Z T5.heap a2 "com/example/treellis/treellis/cfa/StructType$Member" := E_a2_4.keep K5
  have E_b_5 : Exa Z T5.heap a3 "[Ljava/lang/Object;" := E_b_4.keep K5
  have V_c_5 : Arv Z T5.heap bb4 kk4 (.object "java/lang/Object") (2 : Int32) [(.ref a2), (.ref a2)] .null := Va4.keep K5 nin0
  have Zs5 : n0 ≤ T5.heap.size := Nat.le_trans Zs4 K5.1
  have Kp5 : Keep h0 T5.heap [] := Kp4.trans K5 all0
  have Od5 : Old Z n0 T5.heap := Od4.keep K5 all0
  have lo_rr5 : n0 ≤ rr5 := Nat.le_trans Zs4 hr5
  have bo_rr5 : h0.size ≤ rr5 := Nat.le_trans Kp4.1 hr5
  have ne_a1_rr5 : a1 ≠ rr5 := Nat.ne_of_lt (Nat.lt_of_lt_of_le E_a1_4.lt hr5)
  have ne_a3_rr5 : a3 ≠ rr5 := Nat.ne_of_lt (Nat.lt_of_lt_of_le V_b_4.lt hr5)
  have ne_a2_rr5 : a2 ≠ rr5 := Nat.ne_of_lt (Nat.lt_of_lt_of_le E_a2_4.lt hr5)
  have ne_bb4_rr5 : bb4 ≠ rr5 := Nat.ne_of_lt (Nat.lt_of_lt_of_le Va4.lt hr5)
  exact own_retA X5 hx hlk hret rfl rfl (hb hby d16_53) (by decide) (by decide) ⟨rr5, rfl, N5, bo_rr5, Kp5, Ex5, Fa5⟩
def Q_rm_co2 (Z : State) (h0 : Heap) (n0 : Nat) (a2 : Addr) (v : Option Value) (h : Heap) (L : List Loc) : Prop := ∃ r, v = some (.ref r) ∧ Fr n0 L ∧ h0.size ≤ r ∧ Keep h0 h [] ∧ Exa Z h r "java/util/ImmutableCollections$List12" ∧ Fld Z h r "java/util/ImmutableCollections$List12" "e1" "Ljava/lang/Object;" (.ref a2)
set_option maxRecDepth 65536 in
set_option maxHeartbeats 40000000 in
theorem rm_co2 (l : Launch) (Z : State) (a0 : Array Value) (hw : ∀ d ∈ tables_1, d.before a0 Z = true) (ws : List Jvm.Cond) (a1 a2 a3 aM aE aL : Addr) (kc : ClassId) (h0 : Heap) (n0 : Nat) (Z0 : n0 ≤ h0.size) (E_a1 : Exa Z h0 a1 "java/util/ArrayList") (F_sz : Fld Z h0 a1 "java/util/ArrayList" "size" "I" (.int (2 : Int32))) (F_el : Fld Z h0 a1 "java/util/ArrayList" "elementData" "[Ljava/lang/Object;" (.ref a3)) (V_b : Arv Z h0 a3 kc (.object "java/lang/Object") (10 : Int32) [(.ref a2), (.ref a2)] .null) (E_a2 : Exa Z h0 a2 "com/example/treellis/treellis/cfa/StructType$Member") (E_b : Exa Z h0 a3 "[Ljava/lang/Object;") (ne_a3_a2 : a3 ≠ a2) (MM : Mir Z "[Ljava/lang/Object;" aM) (SE : Sta Z Z.heap "java/util/ImmutableCollections" "EMPTY" "Ljava/lang/Object;" (.ref aE)) (SL : Sta Z Z.heap "java/util/ImmutableCollections" "EMPTY_LIST" "Ljava/util/ImmutableCollections$ListN;" (.ref aL)) (Od0 : Old Z n0 h0) :
    MetFree l (⟨"java/util/List", "copyOf", "(Ljava/util/Collection;)Ljava/util/List;"⟩ : MethodName) (head1 (Jvm.Cond.code (⟨"java/util/List", "copyOf", "(Ljava/util/Collection;)Ljava/util/List;"⟩ : MethodName) jdk_40_method_48_code 1 (some (.object "java/util/List")) :: ws) ({ frames := 7, cells := 2, slots := 4, locals := 93 } : Room)) (fun a U => a = #[(.ref a1)] ∧ Z.Warmed39 U.vm ∧ U.heap = h0) (fun _ _ _ _ _ => True) (fun _ U o U' => ∃ rv rL, o = .returned rv ∧ Q_rm_co2 Z h0 n0 a2 rv U'.heap rL ∧ FrameEnd U o U' rL ({ frames := 7, cells := 2, slots := 4, locals := 93 } : Room).cells ({ frames := 7, cells := 2, slots := 4, locals := 93 } : Room).slots) := by
  refine own_met (y := (⟨"java/util/List", "copyOf", "(Ljava/util/Collection;)Ljava/util/List;"⟩ : MethodName)) (Q := Q_rm_co2 Z h0 n0 a2) (own := "java/util/List") rfl (plainFor_of_name pn_15) ?_
  intro p e s m below meth c s₁ C e0 X0
  obtain ⟨hx, hby, hml, hown, hnm, hret, hlk, hZ⟩ := C
  have N0 := Fr.nil n0
  rw [ef_15]
  have Kp0 : Keep h0 h0 [] := Keep.refl h0 _
  show own_Goes _ _ _ _ _ _ _ s₁ (mkF m 0 #[.val (.ref a1)] [])
  refine own_go (fun _ k => XS.aloadN X0.here hx rfl (hb hby d15_0) rfl rfl k) ?_
  show own_Goes _ _ _ _ _ _ _ s₁ (mkF m 1 #[.val (.ref a1)] [(.ref a1)])
  obtain ⟨_, _, ⟨T1, L1, k1, n1⟩, -, X1, ⟨Lc1, hQ1, l1, y1, z1⟩, st1⟩ := Jvm.LawKit.callS X0 hx (y := (⟨"java/util/ImmutableCollections", "listCopy", "(Ljava/util/Collection;)Ljava/util/List;"⟩ : MethodName)) hown (mvT hZ (hw _ (List.mem_of_getElem? (i := 107) rfl))) (mvT hZ (hw _ (List.mem_of_getElem? (i := 108) rfl))) (mvT hZ (hw _ (List.mem_of_getElem? (i := 109) rfl))) (mvT hZ (hw _ (List.mem_of_getElem? (i := 110) rfl))) (by decide) (backOf (W := 0) (rm_lc2 l Z a0 hw [] a1 a2 a3 aM aE aL kc h0 n0 Z0 E_a1 F_sz F_el V_b E_a2 E_b ne_a3_a2 MM SE SL Od0) hZ (hw _ (List.mem_of_getElem? (i := 110) rfl)) (hw _ (List.mem_of_getElem? (i := 109) rfl)) (by decide) (by decide)) (g := (mkF m 1 #[.val (.ref a1)] [(.ref a1)])) rfl (by rw [hml]; rfl) (argsL := [(.ref a1)]) (rest := []) (lenOf pd_14 rfl) rfl (by show 2 * 0 + _ ≤ _; exact Nat.le_of_eq rfl) (hb hby d15_1) (fun _ _ => ⟨rfl, e0, (by decide : 0 + 2 ≤ _), (by decide : 0 + 4 ≤ _)⟩)
  dsimp only [Pt.U, Pt.locs, Pt.cells, Pt.slots] at X1 l1 y1 z1 st1 hQ1
  subst l1 y1 z1
  obtain ⟨rr1, rfl, N1q, hr1, K1, Ex1, Fa1⟩ := hQ1
  have N1 := Fr.app N0 N1q
  refine own_go st1 ?_
  show own_Goes _ _ _ _ _ _ _ T1 (mkF m 4 #[.val (.ref a1)] [(.ref rr1)])
  have E_a1_1 : Exa Z T1.heap a1 "java/util/ArrayList" := E_a1.keep K1
  have F_sz_1 : Fld Z T1.heap a1 "java/util/ArrayList" "size" "I" (.int (2 : Int32)) := F_sz.keep K1 nin0
  have F_el_1 : Fld Z T1.heap a1 "java/util/ArrayList" "elementData" "[Ljava/lang/Object;" (.ref a3) := F_el.keep K1 nin0
  have V_b_1 : Arv Z T1.heap a3 kc (.object "java/lang/Object") (10 : Int32) [(.ref a2), (.ref a2)] .null := V_b.keep K1 nin0
  have E_a2_1 : Exa Z T1.heap a2 "com/example/treellis/treellis/cfa/StructType$Member" := E_a2.keep K1
  have E_b_1 : Exa Z T1.heap a3 "[Ljava/lang/Object;" := E_b.keep K1
  have Zs1 : n0 ≤ T1.heap.size := Nat.le_trans Z0 K1.1
  have Kp1 : Keep h0 T1.heap [] := Kp0.trans K1 all0
  have Od1 : Old Z n0 T1.heap := Od0.keep K1 all0
  have lo_rr1 : n0 ≤ rr1 := Nat.le_trans Z0 hr1
  have bo_rr1 : h0.size ≤ rr1 := Nat.le_trans Kp0.1 hr1
  have ne_a1_rr1 : a1 ≠ rr1 := Nat.ne_of_lt (Nat.lt_of_lt_of_le E_a1.lt hr1)
  have ne_a3_rr1 : a3 ≠ rr1 := Nat.ne_of_lt (Nat.lt_of_lt_of_le V_b.lt hr1)
  have ne_a2_rr1 : a2 ≠ rr1 := Nat.ne_of_lt (Nat.lt_of_lt_of_le E_a2.lt hr1)
  exact own_retA X1 hx hlk hret rfl rfl (hb hby d15_4) (by decide) (by decide) ⟨rr1, rfl, N1, bo_rr1, Kp1, Ex1, Fa1⟩
def Q_rm_cm2 (Z : State) (h0 : Heap) (n0 : Nat) (a5 a2 : Addr) (p2 p3 : Int32) (v : Option Value) (h : Heap) (L : List Loc) : Prop := ∃ r, v = none ∧ Fr n0 L ∧ Keep h0 h [a5] ∧ Fld Z h a5 "com/example/treellis/treellis/cfa/StructType" "members" "Ljava/util/List;" (.ref r) ∧ Fld Z h a5 "com/example/treellis/treellis/cfa/StructType" "packing" "I" (.int p2) ∧ Fld Z h a5 "com/example/treellis/treellis/cfa/StructType" "alignment" "I" (.int p3) ∧ Exa Z h r "java/util/ImmutableCollections$List12" ∧ Fld Z h r "java/util/ImmutableCollections$List12" "e1" "Ljava/lang/Object;" (.ref a2)
set_option maxRecDepth 65536 in
set_option maxHeartbeats 40000000 in
theorem rm_cm2 (l : Launch) (Z : State) (a0 : Array Value) (hw : ∀ d ∈ tables_1, d.before a0 Z = true) (ws : List Jvm.Cond) (a5 a1 a2 a3 aM aE aL : Addr) (kc : ClassId) (p2 p3 : Int32) (h0 : Heap) (n0 : Nat) (Z0 : n0 ≤ h0.size) (E_a1 : Exa Z h0 a1 "java/util/ArrayList") (F_sz : Fld Z h0 a1 "java/util/ArrayList" "size" "I" (.int (2 : Int32))) (F_el : Fld Z h0 a1 "java/util/ArrayList" "elementData" "[Ljava/lang/Object;" (.ref a3)) (V_b : Arv Z h0 a3 kc (.object "java/lang/Object") (10 : Int32) [(.ref a2), (.ref a2)] .null) (E_a2 : Exa Z h0 a2 "com/example/treellis/treellis/cfa/StructType$Member") (E_b : Exa Z h0 a3 "[Ljava/lang/Object;") (E_a5 : Exa Z h0 a5 "com/example/treellis/treellis/cfa/StructType") (F_mb : Fld Z h0 a5 "com/example/treellis/treellis/cfa/StructType" "members" "Ljava/util/List;" .null) (F_pk : Fld Z h0 a5 "com/example/treellis/treellis/cfa/StructType" "packing" "I" (.int (0 : Int32))) (F_ag : Fld Z h0 a5 "com/example/treellis/treellis/cfa/StructType" "alignment" "I" (.int (0 : Int32))) (lo_a5 : n0 ≤ a5) (ne_a5_a1 : a5 ≠ a1) (ne_a5_a2 : a5 ≠ a2) (ne_a5_a3 : a5 ≠ a3) (ne_a3_a2 : a3 ≠ a2) (ne_a1_a2 : a1 ≠ a2) (ne_a1_a3 : a1 ≠ a3) (MM : Mir Z "[Ljava/lang/Object;" aM) (SE : Sta Z Z.heap "java/util/ImmutableCollections" "EMPTY" "Ljava/lang/Object;" (.ref aE)) (SL : Sta Z Z.heap "java/util/ImmutableCollections" "EMPTY_LIST" "Ljava/util/ImmutableCollections$ListN;" (.ref aL)) (Od0 : Old Z n0 h0) :
    MetFree l (⟨"com/example/treellis/treellis/cfa/StructType", "complete", "(Ljava/util/List;II)V"⟩ : MethodName) (head1 (Jvm.Cond.code (⟨"com/example/treellis/treellis/cfa/StructType", "complete", "(Ljava/util/List;II)V"⟩ : MethodName) prog_52_method_2_code 4 none :: ws) ({ frames := 8, cells := 2, slots := 4, locals := 106 } : Room)) (fun a U => a = #[(.ref a5), (.ref a1), (.int p2), (.int p3)] ∧ Z.Warmed39 U.vm ∧ U.heap = h0) (fun _ _ _ _ _ => True) (fun _ U o U' => ∃ rv rL, o = .returned rv ∧ Q_rm_cm2 Z h0 n0 a5 a2 p2 p3 rv U'.heap rL ∧ FrameEnd U o U' rL ({ frames := 8, cells := 2, slots := 4, locals := 106 } : Room).cells ({ frames := 8, cells := 2, slots := 4, locals := 106 } : Room).slots) := by
  refine own_met (y := (⟨"com/example/treellis/treellis/cfa/StructType", "complete", "(Ljava/util/List;II)V"⟩ : MethodName)) (Q := Q_rm_cm2 Z h0 n0 a5 a2 p2 p3) (own := "com/example/treellis/treellis/cfa/StructType") rfl (plainFor_of_name pn_14) ?_
  intro p e s m below meth c s₁ C e0 X0
  obtain ⟨hx, hby, hml, hown, hnm, hret, hlk, hZ⟩ := C
  have N0 := Fr.nil n0
  rw [ef_14]
  have Kp0 : Keep h0 h0 [a5] := Keep.refl h0 _
  show own_Goes _ _ _ _ _ _ _ s₁ (mkF m 0 #[.val (.ref a5), .val (.ref a1), .val (.int p2), .val (.int p3)] [])
  refine own_go (fun _ k => XS.aloadN X0.here hx rfl (hb hby d14_0) rfl rfl k) ?_
  show own_Goes _ _ _ _ _ _ _ s₁ (mkF m 1 #[.val (.ref a5), .val (.ref a1), .val (.int p2), .val (.int p3)] [(.ref a5)])
  obtain ⟨T1, X1, e1, st1⟩ := getF X0 hx hZ hown (host := "") (Or.inl (hw _ (List.mem_of_getElem? (i := 21) rfl))) Via.refl e0 F_mb (g := (mkF m 1 #[.val (.ref a5), .val (.ref a1), .val (.int p2), .val (.int p3)] [(.ref a5)])) rfl rfl (hb hby d14_1)
  refine own_go st1 ?_
  show own_Goes _ _ _ _ _ _ _ T1 (mkF m 4 #[.val (.ref a5), .val (.ref a1), .val (.int p2), .val (.int p3)] [.null])
  refine own_go (fun _ k => XS.ifnullYes X1.here hx rfl (pc0 := 4) (pc' := 24) rfl (hb hby d14_4) rfl (by decide) (by decide) k) ?_
  show own_Goes _ _ _ _ _ _ _ T1 (mkF m 24 #[.val (.ref a5), .val (.ref a1), .val (.int p2), .val (.int p3)] [])
  refine own_go (fun _ k => XS.aloadN X1.here hx rfl (hb hby d14_24) rfl rfl k) ?_
  show own_Goes _ _ _ _ _ _ _ T1 (mkF m 25 #[.val (.ref a5), .val (.ref a1), .val (.int p2), .val (.int p3)] [(.ref a5)])
  refine own_go (fun _ k => XS.aloadN X1.here hx rfl (hb hby d14_25) rfl rfl k) ?_
  show own_Goes _ _ _ _ _ _ _ T1 (mkF m 26 #[.val (.ref a5), .val (.ref a1), .val (.int p2), .val (.int p3)] [(.ref a1), (.ref a5)])
  obtain ⟨_, _, ⟨T2, L2, k2, n2⟩, -, X2, ⟨Lc2, hQ2, l2, y2, z2⟩, st2⟩ := Jvm.LawKit.callS X1 hx (y := (⟨"java/util/List", "copyOf", "(Ljava/util/Collection;)Ljava/util/List;"⟩ : MethodName)) hown (mvT hZ (hw _ (List.mem_of_getElem? (i := 103) rfl))) (mvT hZ (hw _ (List.mem_of_getElem? (i := 104) rfl))) (mvT hZ (hw _ (List.mem_of_getElem? (i := 105) rfl))) (mvT hZ (hw _ (List.mem_of_getElem? (i := 106) rfl))) (by decide) (backOf (W := 1) (rm_co2 l Z a0 hw [] a1 a2 a3 aM aE aL kc h0 n0 Z0 E_a1 F_sz F_el V_b E_a2 E_b ne_a3_a2 MM SE SL Od0) hZ (hw _ (List.mem_of_getElem? (i := 106) rfl)) (hw _ (List.mem_of_getElem? (i := 105) rfl)) (by decide) (by decide)) (g := (mkF m 26 #[.val (.ref a5), .val (.ref a1), .val (.int p2), .val (.int p3)] [(.ref a1), (.ref a5)])) rfl (by rw [hml]; rfl) (argsL := [(.ref a1)]) (rest := [(.ref a5)]) (lenOf pd_14 rfl) rfl (by show 2 * 0 + _ ≤ _; exact Nat.le_of_eq rfl) (hb hby d14_26) (fun _ _ => ⟨rfl, e1, (by decide : 0 + 2 ≤ _), (by decide : 0 + 4 ≤ _)⟩)
  dsimp only [Pt.U, Pt.locs, Pt.cells, Pt.slots] at X2 l2 y2 z2 st2 hQ2
  subst l2 y2 z2
  obtain ⟨rr2, rfl, N2q, hr2, K2, Ex2, Fa2⟩ := hQ2
  have N2 := Fr.app N0 N2q
  refine own_go st2 ?_
  show own_Goes _ _ _ _ _ _ _ T2 (mkF m 29 #[.val (.ref a5), .val (.ref a1), .val (.int p2), .val (.int p3)] [(.ref rr2), (.ref a5)])
  have E_a1_2 : Exa Z T2.heap a1 "java/util/ArrayList" := E_a1.keep K2
  have F_sz_2 : Fld Z T2.heap a1 "java/util/ArrayList" "size" "I" (.int (2 : Int32)) := F_sz.keep K2 nin0
  have F_el_2 : Fld Z T2.heap a1 "java/util/ArrayList" "elementData" "[Ljava/lang/Object;" (.ref a3) := F_el.keep K2 nin0
  have V_b_2 : Arv Z T2.heap a3 kc (.object "java/lang/Object") (10 : Int32) [(.ref a2), (.ref a2)] .null := V_b.keep K2 nin0
  have E_a2_2 : Exa Z T2.heap a2 "com/example/treellis/treellis/cfa/StructType$Member" := E_a2.keep K2
  have E_b_2 : Exa Z T2.heap a3 "[Ljava/lang/Object;" := E_b.keep K2
  have E_a5_2 : Exa Z T2.heap a5 "com/example/treellis/treellis/cfa/StructType" := E_a5.keep K2
  have F_mb_2 : Fld Z T2.heap a5 "com/example/treellis/treellis/cfa/StructType" "members" "Ljava/util/List;" .null := F_mb.keep K2 nin0
  have F_pk_2 : Fld Z T2.heap a5 "com/example/treellis/treellis/cfa/StructType" "packing" "I" (.int (0 : Int32)) := F_pk.keep K2 nin0
  have F_ag_2 : Fld Z T2.heap a5 "com/example/treellis/treellis/cfa/StructType" "alignment" "I" (.int (0 : Int32)) := F_ag.keep K2 nin0
  have Zs2 : n0 ≤ T2.heap.size := Nat.le_trans Z0 K2.1
  have Kp2 : Keep h0 T2.heap [a5] := Kp0.trans K2 all0
  have Od2 : Old Z n0 T2.heap := Od0.keep K2 all0
  have lo_rr2 : n0 ≤ rr2 := Nat.le_trans Z0 hr2
  have bo_rr2 : h0.size ≤ rr2 := Nat.le_trans Kp0.1 hr2
  have ne_a1_rr2 : a1 ≠ rr2 := Nat.ne_of_lt (Nat.lt_of_lt_of_le E_a1.lt hr2)
  have ne_a3_rr2 : a3 ≠ rr2 := Nat.ne_of_lt (Nat.lt_of_lt_of_le V_b.lt hr2)
  have ne_a2_rr2 : a2 ≠ rr2 := Nat.ne_of_lt (Nat.lt_of_lt_of_le E_a2.lt hr2)
  have ne_a5_rr2 : a5 ≠ rr2 := Nat.ne_of_lt (Nat.lt_of_lt_of_le E_a5.lt hr2)
  obtain ⟨T3, h3, X3, e3, W3, st3⟩ := putF X2 hx hZ hown (host := "") (Or.inl (hw _ (List.mem_of_getElem? (i := 21) rfl))) Via.refl rfl F_mb_2 E_a5_2 (Or.inl (hw _ (List.mem_of_getElem? (i := 22) rfl))) (hw _ (List.mem_of_getElem? (i := 4) rfl)) (ty := (.object "java/util/List")) (by decide) rfl rfl (g := (mkF m 29 #[.val (.ref a5), .val (.ref a1), .val (.int p2), .val (.int p3)] [(.ref rr2), (.ref a5)])) rfl rfl (hb hby d14_29)
  have F_mb_3 : Fld Z h3 a5 "com/example/treellis/treellis/cfa/StructType" "members" "Ljava/util/List;" (.ref rr2) := F_mb_2.same W3
  have N3 := Fr.snoc X3 N2 lo_a5
  have E_a1_3 : Exa Z h3 a1 "java/util/ArrayList" := E_a1_2.wr W3
  have F_sz_3 : Fld Z h3 a1 "java/util/ArrayList" "size" "I" (.int (2 : Int32)) := F_sz_2.other W3 (Or.inl (Ne.symm ne_a5_a1))
  have F_el_3 : Fld Z h3 a1 "java/util/ArrayList" "elementData" "[Ljava/lang/Object;" (.ref a3) := F_el_2.other W3 (Or.inl (Ne.symm ne_a5_a1))
  have V_b_3 : Arv Z h3 a3 kc (.object "java/lang/Object") (10 : Int32) [(.ref a2), (.ref a2)] .null := V_b_2.other W3 (Ne.symm ne_a5_a3)
  have E_a2_3 : Exa Z h3 a2 "com/example/treellis/treellis/cfa/StructType$Member" := E_a2_2.wr W3
  have E_b_3 : Exa Z h3 a3 "[Ljava/lang/Object;" := E_b_2.wr W3
  have E_a5_3 : Exa Z h3 a5 "com/example/treellis/treellis/cfa/StructType" := E_a5_2.wr W3
  have F_pk_3 : Fld Z h3 a5 "com/example/treellis/treellis/cfa/StructType" "packing" "I" (.int (0 : Int32)) := F_pk_2.other W3 (Or.inr (slot_ne (Or.inl (hw _ (List.mem_of_getElem? (i := 189) rfl))) (Or.inl (hw _ (List.mem_of_getElem? (i := 22) rfl))) (by decide) (t := .int) (t' := (.object "java/util/List")) (by decide) (by decide)))
  have F_ag_3 : Fld Z h3 a5 "com/example/treellis/treellis/cfa/StructType" "alignment" "I" (.int (0 : Int32)) := F_ag_2.other W3 (Or.inr (slot_ne (Or.inl (hw _ (List.mem_of_getElem? (i := 191) rfl))) (Or.inl (hw _ (List.mem_of_getElem? (i := 22) rfl))) (by decide) (t := .int) (t' := (.object "java/util/List")) (by decide) (by decide)))
  have E_r_3 : Exa Z h3 rr2 "java/util/ImmutableCollections$List12" := Ex2.wr W3
  have F_e1_3 : Fld Z h3 rr2 "java/util/ImmutableCollections$List12" "e1" "Ljava/lang/Object;" (.ref a2) := Fa2.other W3 (Or.inl (Ne.symm ne_a5_rr2))
  have Zs3 : n0 ≤ h3.size := Nat.le_trans Zs2 (Keep.of_wr W3).1
  have Kp3 : Keep h0 h3 [a5] := Kp2.wr W3 (Or.inl (by simp))
  have Od3 : Old Z n0 h3 := Od2.wr W3 lo_a5
  refine own_go st3 ?_
  show own_Goes _ _ _ _ _ _ _ T3 (mkF m 32 #[.val (.ref a5), .val (.ref a1), .val (.int p2), .val (.int p3)] [])
  refine own_go (fun _ k => XS.aloadN X3.here hx rfl (hb hby d14_32) rfl rfl k) ?_
  show own_Goes _ _ _ _ _ _ _ T3 (mkF m 33 #[.val (.ref a5), .val (.ref a1), .val (.int p2), .val (.int p3)] [(.ref a5)])
  refine own_go (fun _ k => XS.iloadN X3.here hx rfl (hb hby d14_33) rfl k) ?_
  show own_Goes _ _ _ _ _ _ _ T3 (mkF m 34 #[.val (.ref a5), .val (.ref a1), .val (.int p2), .val (.int p3)] [(.int p2), (.ref a5)])
  obtain ⟨T4, h4, X4, e4, W4, st4⟩ := putF X3 hx hZ hown (host := "") (Or.inl (hw _ (List.mem_of_getElem? (i := 188) rfl))) Via.refl e3 F_pk_3 E_a5_3 (Or.inl (hw _ (List.mem_of_getElem? (i := 189) rfl))) (hw _ (List.mem_of_getElem? (i := 4) rfl)) (ty := .int) (by decide) rfl rfl (g := (mkF m 34 #[.val (.ref a5), .val (.ref a1), .val (.int p2), .val (.int p3)] [(.int p2), (.ref a5)])) rfl rfl (hb hby d14_34)
  have F_pk_4 : Fld Z h4 a5 "com/example/treellis/treellis/cfa/StructType" "packing" "I" (.int p2) := F_pk_3.same W4
  have N4 := Fr.snoc X4 N3 lo_a5
  have E_a1_4 : Exa Z h4 a1 "java/util/ArrayList" := E_a1_3.wr W4
  have F_sz_4 : Fld Z h4 a1 "java/util/ArrayList" "size" "I" (.int (2 : Int32)) := F_sz_3.other W4 (Or.inl (Ne.symm ne_a5_a1))
  have F_el_4 : Fld Z h4 a1 "java/util/ArrayList" "elementData" "[Ljava/lang/Object;" (.ref a3) := F_el_3.other W4 (Or.inl (Ne.symm ne_a5_a1))
  have V_b_4 : Arv Z h4 a3 kc (.object "java/lang/Object") (10 : Int32) [(.ref a2), (.ref a2)] .null := V_b_3.other W4 (Ne.symm ne_a5_a3)
  have E_a2_4 : Exa Z h4 a2 "com/example/treellis/treellis/cfa/StructType$Member" := E_a2_3.wr W4
  have E_b_4 : Exa Z h4 a3 "[Ljava/lang/Object;" := E_b_3.wr W4
  have E_a5_4 : Exa Z h4 a5 "com/example/treellis/treellis/cfa/StructType" := E_a5_3.wr W4
  have F_ag_4 : Fld Z h4 a5 "com/example/treellis/treellis/cfa/StructType" "alignment" "I" (.int (0 : Int32)) := F_ag_3.other W4 (Or.inr (slot_ne (Or.inl (hw _ (List.mem_of_getElem? (i := 191) rfl))) (Or.inl (hw _ (List.mem_of_getElem? (i := 189) rfl))) (by decide) (t := .int) (t' := .int) (by decide) (by decide)))
  have E_r_4 : Exa Z h4 rr2 "java/util/ImmutableCollections$List12" := E_r_3.wr W4
  have F_e1_4 : Fld Z h4 rr2 "java/util/ImmutableCollections$List12" "e1" "Ljava/lang/Object;" (.ref a2) := F_e1_3.other W4 (Or.inl (Ne.symm ne_a5_rr2))
  have F_mb_4 : Fld Z h4 a5 "com/example/treellis/treellis/cfa/StructType" "members" "Ljava/util/List;" (.ref rr2) := F_mb_3.other W4 (Or.inr (slot_ne (Or.inl (hw _ (List.mem_of_getElem? (i := 22) rfl))) (Or.inl (hw _ (List.mem_of_getElem? (i := 189) rfl))) (by decide) (t := (.object "java/util/List")) (t' := .int) (by decide) (by decide)))
  have Zs4 : n0 ≤ h4.size := Nat.le_trans Zs3 (Keep.of_wr W4).1
  have Kp4 : Keep h0 h4 [a5] := Kp3.wr W4 (Or.inl (by simp))
  have Od4 : Old Z n0 h4 := Od3.wr W4 lo_a5
  refine own_go st4 ?_
  show own_Goes _ _ _ _ _ _ _ T4 (mkF m 37 #[.val (.ref a5), .val (.ref a1), .val (.int p2), .val (.int p3)] [])
  refine own_go (fun _ k => XS.aloadN X4.here hx rfl (hb hby d14_37) rfl rfl k) ?_
  show own_Goes _ _ _ _ _ _ _ T4 (mkF m 38 #[.val (.ref a5), .val (.ref a1), .val (.int p2), .val (.int p3)] [(.ref a5)])
  refine own_go (fun _ k => XS.iloadN X4.here hx rfl (hb hby d14_38) rfl k) ?_
  show own_Goes _ _ _ _ _ _ _ T4 (mkF m 39 #[.val (.ref a5), .val (.ref a1), .val (.int p2), .val (.int p3)] [(.int p3), (.ref a5)])
  obtain ⟨T5, h5, X5, e5, W5, st5⟩ := putF X4 hx hZ hown (host := "") (Or.inl (hw _ (List.mem_of_getElem? (i := 190) rfl))) Via.refl e4 F_ag_4 E_a5_4 (Or.inl (hw _ (List.mem_of_getElem? (i := 191) rfl))) (hw _ (List.mem_of_getElem? (i := 4) rfl)) (ty := .int) (by decide) rfl rfl (g := (mkF m 39 #[.val (.ref a5), .val (.ref a1), .val (.int p2), .val (.int p3)] [(.int p3), (.ref a5)])) rfl rfl (hb hby d14_39)
  have F_ag_5 : Fld Z h5 a5 "com/example/treellis/treellis/cfa/StructType" "alignment" "I" (.int p3) := F_ag_4.same W5
  have N5 := Fr.snoc X5 N4 lo_a5
  have E_a1_5 : Exa Z h5 a1 "java/util/ArrayList" := E_a1_4.wr W5
  have F_sz_5 : Fld Z h5 a1 "java/util/ArrayList" "size" "I" (.int (2 : Int32)) := F_sz_4.other W5 (Or.inl (Ne.symm ne_a5_a1))
  have F_el_5 : Fld Z h5 a1 "java/util/ArrayList" "elementData" "[Ljava/lang/Object;" (.ref a3) := F_el_4.other W5 (Or.inl (Ne.symm ne_a5_a1))
  have V_b_5 : Arv Z h5 a3 kc (.object "java/lang/Object") (10 : Int32) [(.ref a2), (.ref a2)] .null := V_b_4.other W5 (Ne.symm ne_a5_a3)
  have E_a2_5 : Exa Z h5 a2 "com/example/treellis/treellis/cfa/StructType$Member" := E_a2_4.wr W5
  have E_b_5 : Exa Z h5 a3 "[Ljava/lang/Object;" := E_b_4.wr W5
  have E_a5_5 : Exa Z h5 a5 "com/example/treellis/treellis/cfa/StructType" := E_a5_4.wr W5
  have E_r_5 : Exa Z h5 rr2 "java/util/ImmutableCollections$List12" := E_r_4.wr W5
  have F_e1_5 : Fld Z h5 rr2 "java/util/ImmutableCollections$List12" "e1" "Ljava/lang/Object;" (.ref a2) := F_e1_4.other W5 (Or.inl (Ne.symm ne_a5_rr2))
  have F_mb_5 : Fld Z h5 a5 "com/example/treellis/treellis/cfa/StructType" "members" "Ljava/util/List;" (.ref rr2) := F_mb_4.other W5 (Or.inr (slot_ne (Or.inl (hw _ (List.mem_of_getElem? (i := 22) rfl))) (Or.inl (hw _ (List.mem_of_getElem? (i := 191) rfl))) (by decide) (t := (.object "java/util/List")) (t' := .int) (by decide) (by decide)))
  have F_pk_5 : Fld Z h5 a5 "com/example/treellis/treellis/cfa/StructType" "packing" "I" (.int p2) := F_pk_4.other W5 (Or.inr (slot_ne (Or.inl (hw _ (List.mem_of_getElem? (i := 189) rfl))) (Or.inl (hw _ (List.mem_of_getElem? (i := 191) rfl))) (by decide) (t := .int) (t' := .int) (by decide) (by decide)))
  have Zs5 : n0 ≤ h5.size := Nat.le_trans Zs4 (Keep.of_wr W5).1
  have Kp5 : Keep h0 h5 [a5] := Kp4.wr W5 (Or.inl (by simp))
  have Od5 : Old Z n0 h5 := Od4.wr W5 lo_a5
  refine own_go st5 ?_
  show own_Goes _ _ _ _ _ _ _ T5 (mkF m 42 #[.val (.ref a5), .val (.ref a1), .val (.int p2), .val (.int p3)] [])
  exact own_retV X5 hx hlk hret (hb hby d14_42) (by decide) (by decide) (by rw [e5]; exact ⟨rr2, rfl, N5, Kp5, F_mb_5, F_pk_5, F_ag_5, E_r_5, F_e1_5⟩)
def Q_rm_lc3 (Z : State) (h0 : Heap) (n0 : Nat) (a2 : Addr) (v : Option Value) (h : Heap) (L : List Loc) : Prop := ∃ r e ke, v = some (.ref r) ∧ Fr n0 L ∧ h0.size ≤ r ∧ h0.size ≤ e ∧ Keep h0 h [] ∧ Exa Z h r "java/util/ImmutableCollections$ListN" ∧ Fld Z h r "java/util/ImmutableCollections$ListN" "elements" "[Ljava/lang/Object;" (.ref e) ∧ Arv Z h e ke (.object "java/lang/Object") (3 : Int32) [(.ref a2), (.ref a2), (.ref a2)] .null
set_option maxRecDepth 65536 in
set_option maxHeartbeats 40000000 in
theorem rm_lc3 (l : Launch) (Z : State) (a0 : Array Value) (hw : ∀ d ∈ tables_1, d.before a0 Z = true) (ws : List Jvm.Cond) (a1 a2 a3 aM aE aL : Addr) (kc : ClassId) (h0 : Heap) (n0 : Nat) (Z0 : n0 ≤ h0.size) (E_a1 : Exa Z h0 a1 "java/util/ArrayList") (F_sz : Fld Z h0 a1 "java/util/ArrayList" "size" "I" (.int (3 : Int32))) (F_el : Fld Z h0 a1 "java/util/ArrayList" "elementData" "[Ljava/lang/Object;" (.ref a3)) (V_b : Arv Z h0 a3 kc (.object "java/lang/Object") (10 : Int32) [(.ref a2), (.ref a2), (.ref a2)] .null) (E_a2 : Exa Z h0 a2 "com/example/treellis/treellis/cfa/StructType$Member") (E_b : Exa Z h0 a3 "[Ljava/lang/Object;") (ne_a3_a2 : a3 ≠ a2) (MM : Mir Z "[Ljava/lang/Object;" aM) (SE : Sta Z Z.heap "java/util/ImmutableCollections" "EMPTY" "Ljava/lang/Object;" (.ref aE)) (SL : Sta Z Z.heap "java/util/ImmutableCollections" "EMPTY_LIST" "Ljava/util/ImmutableCollections$ListN;" (.ref aL)) (Od0 : Old Z n0 h0) :
    MetFree l (⟨"java/util/ImmutableCollections", "listCopy", "(Ljava/util/Collection;)Ljava/util/List;"⟩ : MethodName) (head1 (Jvm.Cond.code (⟨"java/util/ImmutableCollections", "listCopy", "(Ljava/util/Collection;)Ljava/util/List;"⟩ : MethodName) jdk_56_method_3_code 2 (some (.object "java/util/List")) :: ws) ({ frames := 7, cells := 3, slots := 8, locals := 90 } : Room)) (fun a U => a = #[(.ref a1)] ∧ Z.Warmed39 U.vm ∧ U.heap = h0) (fun _ _ _ _ _ => True) (fun _ U o U' => ∃ rv rL, o = .returned rv ∧ Q_rm_lc3 Z h0 n0 a2 rv U'.heap rL ∧ FrameEnd U o U' rL ({ frames := 7, cells := 3, slots := 8, locals := 90 } : Room).cells ({ frames := 7, cells := 3, slots := 8, locals := 90 } : Room).slots) := by
  refine own_met (y := (⟨"java/util/ImmutableCollections", "listCopy", "(Ljava/util/Collection;)Ljava/util/List;"⟩ : MethodName)) (Q := Q_rm_lc3 Z h0 n0 a2) (own := "java/util/ImmutableCollections") rfl (plainFor_of_name pn_16) ?_
  intro p e s m below meth c s₁ C e0 X0
  obtain ⟨hx, hby, hml, hown, hnm, hret, hlk, hZ⟩ := C
  have N0 := Fr.nil n0
  rw [ef_16]
  have Kp0 : Keep h0 h0 [] := Keep.refl h0 _
  show own_Goes _ _ _ _ _ _ _ s₁ (mkF m 0 #[.val (.ref a1), .unset] [])
  refine own_go (fun _ k => XS.aloadN X0.here hx rfl (hb hby d16_0) rfl rfl k) ?_
  show own_Goes _ _ _ _ _ _ _ s₁ (mkF m 1 #[.val (.ref a1), .unset] [(.ref a1)])
  obtain ⟨T1, X1, e1, st1⟩ := instNo X0 hx hZ hown (hw _ (List.mem_of_getElem? (i := 111) rfl)) e0 E_a1 (own_nas3 (hw _ (List.mem_of_getElem? (i := 112) rfl)) (hw _ (List.mem_of_getElem? (i := 113) rfl)) (hw _ (List.mem_of_getElem? (i := 114) rfl)) (hw _ (List.mem_of_getElem? (i := 115) rfl)) (hw _ (List.mem_of_getElem? (i := 160) rfl)) (by decide) (by decide) (by decide) (by decide)) (g := (mkF m 1 #[.val (.ref a1), .unset] [(.ref a1)])) rfl rfl (hb hby d16_1)
  refine own_go st1 ?_
  show own_Goes _ _ _ _ _ _ _ T1 (mkF m 4 #[.val (.ref a1), .unset] [(.int (0 : Int32))])
  refine own_go (fun _ k => XS.ifNo X1.here hx rfl (hb hby d16_4) rfl ((if0 _ _).trans (teq (by decide : (0 : Int32) = (0 : Int32))).2) k) ?_
  show own_Goes _ _ _ _ _ _ _ T1 (mkF m 7 #[.val (.ref a1), .unset] [])
  refine own_go (fun _ k => XS.aloadN X1.here hx rfl (hb hby d16_7) rfl rfl k) ?_
  show own_Goes _ _ _ _ _ _ _ T1 (mkF m 8 #[.val (.ref a1), .unset] [(.ref a1)])
  obtain ⟨T2, X2, e2, st2⟩ := instNo X1 hx hZ hown (hw _ (List.mem_of_getElem? (i := 116) rfl)) e1 E_a1 (own_nas3 (hw _ (List.mem_of_getElem? (i := 112) rfl)) (hw _ (List.mem_of_getElem? (i := 113) rfl)) (hw _ (List.mem_of_getElem? (i := 114) rfl)) (hw _ (List.mem_of_getElem? (i := 115) rfl)) (hw _ (List.mem_of_getElem? (i := 246) rfl)) (by decide) (by decide) (by decide) (by decide)) (g := (mkF m 8 #[.val (.ref a1), .unset] [(.ref a1)])) rfl rfl (hb hby d16_8)
  refine own_go st2 ?_
  show own_Goes _ _ _ _ _ _ _ T2 (mkF m 11 #[.val (.ref a1), .unset] [(.int (0 : Int32))])
  refine own_go (fun _ k => XS.ifYes X2.here hx rfl (pc0 := 11) (pc' := 31) rfl (hb hby d16_11) rfl ((if0 _ _).trans (teq (by decide : (0 : Int32) = (0 : Int32))).1) (by decide) (by decide) k) ?_
  show own_Goes _ _ _ _ _ _ _ T2 (mkF m 31 #[.val (.ref a1), .unset] [])
  refine own_go (fun _ k => XS.aloadN X2.here hx rfl (hb hby d16_31) rfl rfl k) ?_
  show own_Goes _ _ _ _ _ _ _ T2 (mkF m 32 #[.val (.ref a1), .unset] [(.ref a1)])
  obtain ⟨cq3, kq3, zq3a, zq3b, zq3c⟩ := isOf hZ e2 E_a1
  obtain ⟨_, _, ⟨T3, L3, k3, n3⟩, -, X3, ⟨Lc3, hQ3, l3, y3, z3⟩, st3⟩ := X2.interfaceBack hx (xi := (⟨"java/util/Collection", "isEmpty", "()Z"⟩ : MethodName)) (y := (⟨"java/util/ArrayList", "isEmpty", "()Z"⟩ : MethodName)) hown (mvT hZ (hw _ (List.mem_of_getElem? (i := 117) rfl))) (mvT hZ (hw _ (List.mem_of_getElem? (i := 118) rfl))) (mvT hZ (hw _ (List.mem_of_getElem? (i := 119) rfl))) (mvT hZ (hw _ (List.mem_of_getElem? (i := 120) rfl))) (mvT hZ (hw _ (List.mem_of_getElem? (i := 121) rfl))) (mvT hZ (hw _ (List.mem_of_getElem? (i := 122) rfl))) (mvT hZ (hw _ (List.mem_of_getElem? (i := 123) rfl))) (mvT hZ (hw _ (List.mem_of_getElem? (i := 124) rfl))) (by decide) (backOf (W := 0) (rm_ie3 l Z a0 hw [] a1 h0 n0 Z0 F_sz) hZ (hw _ (List.mem_of_getElem? (i := 125) rfl)) (hw _ (List.mem_of_getElem? (i := 45) rfl)) (by decide) (by decide)) zq3a zq3b zq3c (g := (mkF m 32 #[.val (.ref a1), .unset] [(.ref a1)])) rfl (by rw [hml]; rfl) (Steps.refl _) (argsL := []) (rest := []) (lenOf pd_12 rfl) rfl (by show 2 * 0 + _ ≤ _; exact Nat.le_of_eq rfl) (hb hby d16_32) (fun _ _ => ⟨rfl, e2, (by decide : 0 + 0 ≤ _), (by decide : 0 + 0 ≤ _)⟩)
  dsimp only [Pt.U, Pt.locs, Pt.cells, Pt.slots] at X3 l3 y3 z3 st3 hQ3
  subst l3 y3 z3
  obtain ⟨rfl, N3q, e3⟩ := hQ3
  have N3 := Fr.app N0 N3q
  refine own_goS st3 ?_
  show own_Goes _ _ _ _ _ _ _ T3 (mkF m 37 #[.val (.ref a1), .unset] [(.int (0 : Int32))])
  refine own_go (fun _ k => XS.ifYes X3.here hx rfl (pc0 := 37) (pc' := 44) rfl (hb hby d16_37) rfl ((if0 _ _).trans (teq (by decide : (0 : Int32) = (0 : Int32))).1) (by decide) (by decide) k) ?_
  show own_Goes _ _ _ _ _ _ _ T3 (mkF m 44 #[.val (.ref a1), .unset] [])
  refine own_go (fun _ k => XS.aloadN X3.here hx rfl (hb hby d16_44) rfl rfl k) ?_
  show own_Goes _ _ _ _ _ _ _ T3 (mkF m 45 #[.val (.ref a1), .unset] [(.ref a1)])
  obtain ⟨cq4, kq4, zq4a, zq4b, zq4c⟩ := isOf hZ e3 E_a1
  obtain ⟨_, _, ⟨T4, L4, k4, n4⟩, -, X4, ⟨Lc4, hQ4, l4, y4, z4⟩, st4⟩ := X3.interfaceBack hx (xi := (⟨"java/util/Collection", "toArray", "()[Ljava/lang/Object;"⟩ : MethodName)) (y := (⟨"java/util/ArrayList", "toArray", "()[Ljava/lang/Object;"⟩ : MethodName)) hown (mvT hZ (hw _ (List.mem_of_getElem? (i := 126) rfl))) (mvT hZ (hw _ (List.mem_of_getElem? (i := 127) rfl))) (mvT hZ (hw _ (List.mem_of_getElem? (i := 128) rfl))) (mvT hZ (hw _ (List.mem_of_getElem? (i := 129) rfl))) (mvT hZ (hw _ (List.mem_of_getElem? (i := 130) rfl))) (mvT hZ (hw _ (List.mem_of_getElem? (i := 131) rfl))) (mvT hZ (hw _ (List.mem_of_getElem? (i := 132) rfl))) (mvT hZ (hw _ (List.mem_of_getElem? (i := 124) rfl))) (by decide) (backOf (W := 0) (rm_ta3 l Z a0 hw [] a1 a2 a3 aM kc h0 n0 Z0 F_sz F_el V_b E_a2 E_b ne_a3_a2 MM) hZ (hw _ (List.mem_of_getElem? (i := 133) rfl)) (hw _ (List.mem_of_getElem? (i := 45) rfl)) (by decide) (by decide)) zq4a zq4b zq4c (g := (mkF m 45 #[.val (.ref a1), .unset] [(.ref a1)])) rfl (by rw [hml]; rfl) (Steps.refl _) (argsL := []) (rest := []) (lenOf pd_3 rfl) rfl (by show 2 * 0 + _ ≤ _; exact Nat.le_of_eq rfl) (hb hby d16_45) (fun _ _ => ⟨rfl, e3, (by decide : 0 + 0 + 1 ≤ _), (by decide : 0 + 0 + 3 ≤ _)⟩)
  dsimp only [Pt.U, Pt.locs, Pt.cells, Pt.slots] at X4 l4 y4 z4 st4 hQ4
  subst l4 y4 z4
  obtain ⟨bb4, kk4, rfl, N4q, hb4, K4, Va4⟩ := hQ4
  have N4 := Fr.app N3 N4q
  refine own_goS st4 ?_
  show own_Goes _ _ _ _ _ _ _ T4 (mkF m 50 #[.val (.ref a1), .unset] [(.ref bb4)])
  have E_a1_4 : Exa Z T4.heap a1 "java/util/ArrayList" := E_a1.keep K4
  have F_sz_4 : Fld Z T4.heap a1 "java/util/ArrayList" "size" "I" (.int (3 : Int32)) := F_sz.keep K4 nin0
  have F_el_4 : Fld Z T4.heap a1 "java/util/ArrayList" "elementData" "[Ljava/lang/Object;" (.ref a3) := F_el.keep K4 nin0
  have V_b_4 : Arv Z T4.heap a3 kc (.object "java/lang/Object") (10 : Int32) [(.ref a2), (.ref a2), (.ref a2)] .null := V_b.keep K4 nin0
  have E_a2_4 : Exa Z T4.heap a2 "com/example/treellis/treellis/cfa/StructType$Member" := E_a2.keep K4
  have E_b_4 : Exa Z T4.heap a3 "[Ljava/lang/Object;" := E_b.keep K4
  have Zs4 : n0 ≤ T4.heap.size := Nat.le_trans Z0 K4.1
  have Kp4 : Keep h0 T4.heap [] := Kp0.trans K4 all0
  have Od4 : Old Z n0 T4.heap := Od0.keep K4 all0
  have lo_bb4 : n0 ≤ bb4 := Nat.le_trans Z0 hb4
  have bo_bb4 : h0.size ≤ bb4 := Nat.le_trans Kp0.1 hb4
  have ne_a1_bb4 : a1 ≠ bb4 := Nat.ne_of_lt (Nat.lt_of_lt_of_le E_a1.lt hb4)
  have ne_a3_bb4 : a3 ≠ bb4 := Nat.ne_of_lt (Nat.lt_of_lt_of_le V_b.lt hb4)
  have ne_a2_bb4 : a2 ≠ bb4 := Nat.ne_of_lt (Nat.lt_of_lt_of_le E_a2.lt hb4)
  obtain ⟨_, _, ⟨T5, L5, k5, n5⟩, -, X5, ⟨Lc5, hQ5, l5, y5, z5⟩, st5⟩ := Jvm.LawKit.callS X4 hx (y := (⟨"java/util/List", "of", "([Ljava/lang/Object;)Ljava/util/List;"⟩ : MethodName)) hown (mvT hZ (hw _ (List.mem_of_getElem? (i := 156) rfl))) (mvT hZ (hw _ (List.mem_of_getElem? (i := 157) rfl))) (mvT hZ (hw _ (List.mem_of_getElem? (i := 105) rfl))) (mvT hZ (hw _ (List.mem_of_getElem? (i := 158) rfl))) (by decide) (backOf (W := 0) (rm_of3 l Z a0 hw [] bb4 a2 kk4 T4.heap n0 Zs4 Va4 E_a2_4 (Ne.symm ne_a2_bb4)) hZ (hw _ (List.mem_of_getElem? (i := 158) rfl)) (hw _ (List.mem_of_getElem? (i := 105) rfl)) (by decide) (by decide)) (g := (mkF m 50 #[.val (.ref a1), .unset] [(.ref bb4)])) rfl (by rw [hml]; rfl) (argsL := [(.ref bb4)]) (rest := []) (lenOf pd_11 rfl) rfl (by show 2 * 0 + _ ≤ _; exact Nat.le_of_eq rfl) (hb hby d16_50) (fun _ _ => ⟨rfl, rfl, (by decide : 0 + 0 + 1 + 2 ≤ _), (by decide : 0 + 0 + 3 + 5 ≤ _)⟩)
  dsimp only [Pt.U, Pt.locs, Pt.cells, Pt.slots] at X5 l5 y5 z5 st5 hQ5
  subst l5 y5 z5
  obtain ⟨rr5, ee5, ke5, rfl, N5q, hr5, he5, K5, Ex5, Fa5, Va5⟩ := hQ5
  have N5 := Fr.app N4 N5q
  refine own_go st5 ?_
  show own_Goes _ _ _ _ _ _ _ T5 (mkF m 53 #[.val (.ref a1), .unset] [(.ref rr5)])
  have E_a1_5 : Exa Z T5.heap a1 "java/util/ArrayList" := E_a1_4.keep K5
  have F_sz_5 : Fld Z T5.heap a1 "java/util/ArrayList" "size" "I" (.int (3 : Int32)) := F_sz_4.keep K5 nin0
  have F_el_5 : Fld Z T5.heap a1 "java/util/ArrayList" "elementData" "[Ljava/lang/Object;" (.ref a3) := F_el_4.keep K5 nin0
  have V_b_5 : Arv Z T5.heap a3 kc (.object "java/lang/Object") (10 : Int32) [(.ref a2), (.ref a2), (.ref a2)] .null := V_b_4.keep K5 nin0
  have E_a2_5 : Exa Z T5.heap a2 "com/example/treellis/treellis/cfa/StructType$Member" := E_a2_4.keep K5
  have E_b_5 : Exa Z T5.heap a3 "[Ljava/lang/Object;" := E_b_4.keep K5
  have V_c_5 : Arv Z T5.heap bb4 kk4 (.object "java/lang/Object") (3 : Int32) [(.ref a2), (.ref a2), (.ref a2)] .null := Va4.keep K5 nin0
  have Zs5 : n0 ≤ T5.heap.size := Nat.le_trans Zs4 K5.1
  have Kp5 : Keep h0 T5.heap [] := Kp4.trans K5 all0
  have Od5 : Old Z n0 T5.heap := Od4.keep K5 all0
  have lo_rr5 : n0 ≤ rr5 := Nat.le_trans Zs4 hr5
  have bo_rr5 : h0.size ≤ rr5 := Nat.le_trans Kp4.1 hr5
  have ne_a1_rr5 : a1 ≠ rr5 := Nat.ne_of_lt (Nat.lt_of_lt_of_le E_a1_4.lt hr5)
  have ne_a3_rr5 : a3 ≠ rr5 := Nat.ne_of_lt (Nat.lt_of_lt_of_le V_b_4.lt hr5)
  have ne_a2_rr5 : a2 ≠ rr5 := Nat.ne_of_lt (Nat.lt_of_lt_of_le E_a2_4.lt hr5)
  have ne_bb4_rr5 : bb4 ≠ rr5 := Nat.ne_of_lt (Nat.lt_of_lt_of_le Va4.lt hr5)
  have lo_ee5 : n0 ≤ ee5 := Nat.le_trans Zs4 he5
  have bo_ee5 : h0.size ≤ ee5 := Nat.le_trans Kp4.1 he5
  have ne_a1_ee5 : a1 ≠ ee5 := Nat.ne_of_lt (Nat.lt_of_lt_of_le E_a1_4.lt he5)
  have ne_a3_ee5 : a3 ≠ ee5 := Nat.ne_of_lt (Nat.lt_of_lt_of_le V_b_4.lt he5)
  have ne_a2_ee5 : a2 ≠ ee5 := Nat.ne_of_lt (Nat.lt_of_lt_of_le E_a2_4.lt he5)
  have ne_bb4_ee5 : bb4 ≠ ee5 := Nat.ne_of_lt (Nat.lt_of_lt_of_le Va4.lt he5)
  exact own_retA X5 hx hlk hret rfl rfl (hb hby d16_53) (by decide) (by decide) ⟨rr5, ee5, _, rfl, N5, bo_rr5, bo_ee5, Kp5, Ex5, Fa5, Va5⟩
def Q_rm_co3 (Z : State) (h0 : Heap) (n0 : Nat) (a2 : Addr) (v : Option Value) (h : Heap) (L : List Loc) : Prop := ∃ r e ke, v = some (.ref r) ∧ Fr n0 L ∧ h0.size ≤ r ∧ h0.size ≤ e ∧ Keep h0 h [] ∧ Exa Z h r "java/util/ImmutableCollections$ListN" ∧ Fld Z h r "java/util/ImmutableCollections$ListN" "elements" "[Ljava/lang/Object;" (.ref e) ∧ Arv Z h e ke (.object "java/lang/Object") (3 : Int32) [(.ref a2), (.ref a2), (.ref a2)] .null
set_option maxRecDepth 65536 in
set_option maxHeartbeats 40000000 in
theorem rm_co3 (l : Launch) (Z : State) (a0 : Array Value) (hw : ∀ d ∈ tables_1, d.before a0 Z = true) (ws : List Jvm.Cond) (a1 a2 a3 aM aE aL : Addr) (kc : ClassId) (h0 : Heap) (n0 : Nat) (Z0 : n0 ≤ h0.size) (E_a1 : Exa Z h0 a1 "java/util/ArrayList") (F_sz : Fld Z h0 a1 "java/util/ArrayList" "size" "I" (.int (3 : Int32))) (F_el : Fld Z h0 a1 "java/util/ArrayList" "elementData" "[Ljava/lang/Object;" (.ref a3)) (V_b : Arv Z h0 a3 kc (.object "java/lang/Object") (10 : Int32) [(.ref a2), (.ref a2), (.ref a2)] .null) (E_a2 : Exa Z h0 a2 "com/example/treellis/treellis/cfa/StructType$Member") (E_b : Exa Z h0 a3 "[Ljava/lang/Object;") (ne_a3_a2 : a3 ≠ a2) (MM : Mir Z "[Ljava/lang/Object;" aM) (SE : Sta Z Z.heap "java/util/ImmutableCollections" "EMPTY" "Ljava/lang/Object;" (.ref aE)) (SL : Sta Z Z.heap "java/util/ImmutableCollections" "EMPTY_LIST" "Ljava/util/ImmutableCollections$ListN;" (.ref aL)) (Od0 : Old Z n0 h0) :
    MetFree l (⟨"java/util/List", "copyOf", "(Ljava/util/Collection;)Ljava/util/List;"⟩ : MethodName) (head1 (Jvm.Cond.code (⟨"java/util/List", "copyOf", "(Ljava/util/Collection;)Ljava/util/List;"⟩ : MethodName) jdk_40_method_48_code 1 (some (.object "java/util/List")) :: ws) ({ frames := 8, cells := 3, slots := 8, locals := 103 } : Room)) (fun a U => a = #[(.ref a1)] ∧ Z.Warmed39 U.vm ∧ U.heap = h0) (fun _ _ _ _ _ => True) (fun _ U o U' => ∃ rv rL, o = .returned rv ∧ Q_rm_co3 Z h0 n0 a2 rv U'.heap rL ∧ FrameEnd U o U' rL ({ frames := 8, cells := 3, slots := 8, locals := 103 } : Room).cells ({ frames := 8, cells := 3, slots := 8, locals := 103 } : Room).slots) := by
  refine own_met (y := (⟨"java/util/List", "copyOf", "(Ljava/util/Collection;)Ljava/util/List;"⟩ : MethodName)) (Q := Q_rm_co3 Z h0 n0 a2) (own := "java/util/List") rfl (plainFor_of_name pn_15) ?_
  intro p e s m below meth c s₁ C e0 X0
  obtain ⟨hx, hby, hml, hown, hnm, hret, hlk, hZ⟩ := C
  have N0 := Fr.nil n0
  rw [ef_15]
  have Kp0 : Keep h0 h0 [] := Keep.refl h0 _
  show own_Goes _ _ _ _ _ _ _ s₁ (mkF m 0 #[.val (.ref a1)] [])
  refine own_go (fun _ k => XS.aloadN X0.here hx rfl (hb hby d15_0) rfl rfl k) ?_
  show own_Goes _ _ _ _ _ _ _ s₁ (mkF m 1 #[.val (.ref a1)] [(.ref a1)])
  obtain ⟨_, _, ⟨T1, L1, k1, n1⟩, -, X1, ⟨Lc1, hQ1, l1, y1, z1⟩, st1⟩ := Jvm.LawKit.callS X0 hx (y := (⟨"java/util/ImmutableCollections", "listCopy", "(Ljava/util/Collection;)Ljava/util/List;"⟩ : MethodName)) hown (mvT hZ (hw _ (List.mem_of_getElem? (i := 107) rfl))) (mvT hZ (hw _ (List.mem_of_getElem? (i := 108) rfl))) (mvT hZ (hw _ (List.mem_of_getElem? (i := 109) rfl))) (mvT hZ (hw _ (List.mem_of_getElem? (i := 110) rfl))) (by decide) (backOf (W := 0) (rm_lc3 l Z a0 hw [] a1 a2 a3 aM aE aL kc h0 n0 Z0 E_a1 F_sz F_el V_b E_a2 E_b ne_a3_a2 MM SE SL Od0) hZ (hw _ (List.mem_of_getElem? (i := 110) rfl)) (hw _ (List.mem_of_getElem? (i := 109) rfl)) (by decide) (by decide)) (g := (mkF m 1 #[.val (.ref a1)] [(.ref a1)])) rfl (by rw [hml]; rfl) (argsL := [(.ref a1)]) (rest := []) (lenOf pd_14 rfl) rfl (by show 2 * 0 + _ ≤ _; exact Nat.le_of_eq rfl) (hb hby d15_1) (fun _ _ => ⟨rfl, e0, (by decide : 0 + 3 ≤ _), (by decide : 0 + 8 ≤ _)⟩)
  dsimp only [Pt.U, Pt.locs, Pt.cells, Pt.slots] at X1 l1 y1 z1 st1 hQ1
  subst l1 y1 z1
  obtain ⟨rr1, ee1, ke1, rfl, N1q, hr1, he1, K1, Ex1, Fa1, Va1⟩ := hQ1
  have N1 := Fr.app N0 N1q
  refine own_go st1 ?_
  show own_Goes _ _ _ _ _ _ _ T1 (mkF m 4 #[.val (.ref a1)] [(.ref rr1)])
  have E_a1_1 : Exa Z T1.heap a1 "java/util/ArrayList" := E_a1.keep K1
  have F_sz_1 : Fld Z T1.heap a1 "java/util/ArrayList" "size" "I" (.int (3 : Int32)) := F_sz.keep K1 nin0
  have F_el_1 : Fld Z T1.heap a1 "java/util/ArrayList" "elementData" "[Ljava/lang/Object;" (.ref a3) := F_el.keep K1 nin0
  have V_b_1 : Arv Z T1.heap a3 kc (.object "java/lang/Object") (10 : Int32) [(.ref a2), (.ref a2), (.ref a2)] .null := V_b.keep K1 nin0
  have E_a2_1 : Exa Z T1.heap a2 "com/example/treellis/treellis/cfa/StructType$Member" := E_a2.keep K1
  have E_b_1 : Exa Z T1.heap a3 "[Ljava/lang/Object;" := E_b.keep K1
  have Zs1 : n0 ≤ T1.heap.size := Nat.le_trans Z0 K1.1
  have Kp1 : Keep h0 T1.heap [] := Kp0.trans K1 all0
  have Od1 : Old Z n0 T1.heap := Od0.keep K1 all0
  have lo_rr1 : n0 ≤ rr1 := Nat.le_trans Z0 hr1
  have bo_rr1 : h0.size ≤ rr1 := Nat.le_trans Kp0.1 hr1
  have ne_a1_rr1 : a1 ≠ rr1 := Nat.ne_of_lt (Nat.lt_of_lt_of_le E_a1.lt hr1)
  have ne_a3_rr1 : a3 ≠ rr1 := Nat.ne_of_lt (Nat.lt_of_lt_of_le V_b.lt hr1)
  have ne_a2_rr1 : a2 ≠ rr1 := Nat.ne_of_lt (Nat.lt_of_lt_of_le E_a2.lt hr1)
  have lo_ee1 : n0 ≤ ee1 := Nat.le_trans Z0 he1
  have bo_ee1 : h0.size ≤ ee1 := Nat.le_trans Kp0.1 he1
  have ne_a1_ee1 : a1 ≠ ee1 := Nat.ne_of_lt (Nat.lt_of_lt_of_le E_a1.lt he1)
  have ne_a3_ee1 : a3 ≠ ee1 := Nat.ne_of_lt (Nat.lt_of_lt_of_le V_b.lt he1)
  have ne_a2_ee1 : a2 ≠ ee1 := Nat.ne_of_lt (Nat.lt_of_lt_of_le E_a2.lt he1)
  exact own_retA X1 hx hlk hret rfl rfl (hb hby d15_4) (by decide) (by decide) ⟨rr1, ee1, _, rfl, N1, bo_rr1, bo_ee1, Kp1, Ex1, Fa1, Va1⟩
def Q_rm_cm3 (Z : State) (h0 : Heap) (n0 : Nat) (a5 a2 : Addr) (p2 p3 : Int32) (v : Option Value) (h : Heap) (L : List Loc) : Prop := ∃ r e ke, v = none ∧ Fr n0 L ∧ Keep h0 h [a5] ∧ Fld Z h a5 "com/example/treellis/treellis/cfa/StructType" "members" "Ljava/util/List;" (.ref r) ∧ Fld Z h a5 "com/example/treellis/treellis/cfa/StructType" "packing" "I" (.int p2) ∧ Fld Z h a5 "com/example/treellis/treellis/cfa/StructType" "alignment" "I" (.int p3) ∧ Exa Z h r "java/util/ImmutableCollections$ListN" ∧ Fld Z h r "java/util/ImmutableCollections$ListN" "elements" "[Ljava/lang/Object;" (.ref e) ∧ Arv Z h e ke (.object "java/lang/Object") (3 : Int32) [(.ref a2), (.ref a2), (.ref a2)] .null
set_option maxRecDepth 65536 in
set_option maxHeartbeats 40000000 in
theorem rm_cm3 (l : Launch) (Z : State) (a0 : Array Value) (hw : ∀ d ∈ tables_1, d.before a0 Z = true) (ws : List Jvm.Cond) (a5 a1 a2 a3 aM aE aL : Addr) (kc : ClassId) (p2 p3 : Int32) (h0 : Heap) (n0 : Nat) (Z0 : n0 ≤ h0.size) (E_a1 : Exa Z h0 a1 "java/util/ArrayList") (F_sz : Fld Z h0 a1 "java/util/ArrayList" "size" "I" (.int (3 : Int32))) (F_el : Fld Z h0 a1 "java/util/ArrayList" "elementData" "[Ljava/lang/Object;" (.ref a3)) (V_b : Arv Z h0 a3 kc (.object "java/lang/Object") (10 : Int32) [(.ref a2), (.ref a2), (.ref a2)] .null) (E_a2 : Exa Z h0 a2 "com/example/treellis/treellis/cfa/StructType$Member") (E_b : Exa Z h0 a3 "[Ljava/lang/Object;") (E_a5 : Exa Z h0 a5 "com/example/treellis/treellis/cfa/StructType") (F_mb : Fld Z h0 a5 "com/example/treellis/treellis/cfa/StructType" "members" "Ljava/util/List;" .null) (F_pk : Fld Z h0 a5 "com/example/treellis/treellis/cfa/StructType" "packing" "I" (.int (0 : Int32))) (F_ag : Fld Z h0 a5 "com/example/treellis/treellis/cfa/StructType" "alignment" "I" (.int (0 : Int32))) (lo_a5 : n0 ≤ a5) (ne_a5_a1 : a5 ≠ a1) (ne_a5_a2 : a5 ≠ a2) (ne_a5_a3 : a5 ≠ a3) (ne_a3_a2 : a3 ≠ a2) (ne_a1_a2 : a1 ≠ a2) (ne_a1_a3 : a1 ≠ a3) (MM : Mir Z "[Ljava/lang/Object;" aM) (SE : Sta Z Z.heap "java/util/ImmutableCollections" "EMPTY" "Ljava/lang/Object;" (.ref aE)) (SL : Sta Z Z.heap "java/util/ImmutableCollections" "EMPTY_LIST" "Ljava/util/ImmutableCollections$ListN;" (.ref aL)) (Od0 : Old Z n0 h0) :
    MetFree l (⟨"com/example/treellis/treellis/cfa/StructType", "complete", "(Ljava/util/List;II)V"⟩ : MethodName) (head1 (Jvm.Cond.code (⟨"com/example/treellis/treellis/cfa/StructType", "complete", "(Ljava/util/List;II)V"⟩ : MethodName) prog_52_method_2_code 4 none :: ws) ({ frames := 9, cells := 3, slots := 8, locals := 116 } : Room)) (fun a U => a = #[(.ref a5), (.ref a1), (.int p2), (.int p3)] ∧ Z.Warmed39 U.vm ∧ U.heap = h0) (fun _ _ _ _ _ => True) (fun _ U o U' => ∃ rv rL, o = .returned rv ∧ Q_rm_cm3 Z h0 n0 a5 a2 p2 p3 rv U'.heap rL ∧ FrameEnd U o U' rL ({ frames := 9, cells := 3, slots := 8, locals := 116 } : Room).cells ({ frames := 9, cells := 3, slots := 8, locals := 116 } : Room).slots) := by
  refine own_met (y := (⟨"com/example/treellis/treellis/cfa/StructType", "complete", "(Ljava/util/List;II)V"⟩ : MethodName)) (Q := Q_rm_cm3 Z h0 n0 a5 a2 p2 p3) (own := "com/example/treellis/treellis/cfa/StructType") rfl (plainFor_of_name pn_14) ?_
  intro p e s m below meth c s₁ C e0 X0
  obtain ⟨hx, hby, hml, hown, hnm, hret, hlk, hZ⟩ := C
  have N0 := Fr.nil n0
  rw [ef_14]
  have Kp0 : Keep h0 h0 [a5] := Keep.refl h0 _
  show own_Goes _ _ _ _ _ _ _ s₁ (mkF m 0 #[.val (.ref a5), .val (.ref a1), .val (.int p2), .val (.int p3)] [])
  refine own_go (fun _ k => XS.aloadN X0.here hx rfl (hb hby d14_0) rfl rfl k) ?_
  show own_Goes _ _ _ _ _ _ _ s₁ (mkF m 1 #[.val (.ref a5), .val (.ref a1), .val (.int p2), .val (.int p3)] [(.ref a5)])
  obtain ⟨T1, X1, e1, st1⟩ := getF X0 hx hZ hown (host := "") (Or.inl (hw _ (List.mem_of_getElem? (i := 21) rfl))) Via.refl e0 F_mb (g := (mkF m 1 #[.val (.ref a5), .val (.ref a1), .val (.int p2), .val (.int p3)] [(.ref a5)])) rfl rfl (hb hby d14_1)
  refine own_go st1 ?_
  show own_Goes _ _ _ _ _ _ _ T1 (mkF m 4 #[.val (.ref a5), .val (.ref a1), .val (.int p2), .val (.int p3)] [.null])
  refine own_go (fun _ k => XS.ifnullYes X1.here hx rfl (pc0 := 4) (pc' := 24) rfl (hb hby d14_4) rfl (by decide) (by decide) k) ?_
  show own_Goes _ _ _ _ _ _ _ T1 (mkF m 24 #[.val (.ref a5), .val (.ref a1), .val (.int p2), .val (.int p3)] [])
  refine own_go (fun _ k => XS.aloadN X1.here hx rfl (hb hby d14_24) rfl rfl k) ?_
  show own_Goes _ _ _ _ _ _ _ T1 (mkF m 25 #[.val (.ref a5), .val (.ref a1), .val (.int p2), .val (.int p3)] [(.ref a5)])
  refine own_go (fun _ k => XS.aloadN X1.here hx rfl (hb hby d14_25) rfl rfl k) ?_
  show own_Goes _ _ _ _ _ _ _ T1 (mkF m 26 #[.val (.ref a5), .val (.ref a1), .val (.int p2), .val (.int p3)] [(.ref a1), (.ref a5)])
  obtain ⟨_, _, ⟨T2, L2, k2, n2⟩, -, X2, ⟨Lc2, hQ2, l2, y2, z2⟩, st2⟩ := Jvm.LawKit.callS X1 hx (y := (⟨"java/util/List", "copyOf", "(Ljava/util/Collection;)Ljava/util/List;"⟩ : MethodName)) hown (mvT hZ (hw _ (List.mem_of_getElem? (i := 103) rfl))) (mvT hZ (hw _ (List.mem_of_getElem? (i := 104) rfl))) (mvT hZ (hw _ (List.mem_of_getElem? (i := 105) rfl))) (mvT hZ (hw _ (List.mem_of_getElem? (i := 106) rfl))) (by decide) (backOf (W := 1) (rm_co3 l Z a0 hw [] a1 a2 a3 aM aE aL kc h0 n0 Z0 E_a1 F_sz F_el V_b E_a2 E_b ne_a3_a2 MM SE SL Od0) hZ (hw _ (List.mem_of_getElem? (i := 106) rfl)) (hw _ (List.mem_of_getElem? (i := 105) rfl)) (by decide) (by decide)) (g := (mkF m 26 #[.val (.ref a5), .val (.ref a1), .val (.int p2), .val (.int p3)] [(.ref a1), (.ref a5)])) rfl (by rw [hml]; rfl) (argsL := [(.ref a1)]) (rest := [(.ref a5)]) (lenOf pd_14 rfl) rfl (by show 2 * 0 + _ ≤ _; exact Nat.le_of_eq rfl) (hb hby d14_26) (fun _ _ => ⟨rfl, e1, (by decide : 0 + 3 ≤ _), (by decide : 0 + 8 ≤ _)⟩)
  dsimp only [Pt.U, Pt.locs, Pt.cells, Pt.slots] at X2 l2 y2 z2 st2 hQ2
  subst l2 y2 z2
  obtain ⟨rr2, ee2, ke2, rfl, N2q, hr2, he2, K2, Ex2, Fa2, Va2⟩ := hQ2
  have N2 := Fr.app N0 N2q
  refine own_go st2 ?_
  show own_Goes _ _ _ _ _ _ _ T2 (mkF m 29 #[.val (.ref a5), .val (.ref a1), .val (.int p2), .val (.int p3)] [(.ref rr2), (.ref a5)])
  have E_a1_2 : Exa Z T2.heap a1 "java/util/ArrayList" := E_a1.keep K2
  have F_sz_2 : Fld Z T2.heap a1 "java/util/ArrayList" "size" "I" (.int (3 : Int32)) := F_sz.keep K2 nin0
  have F_el_2 : Fld Z T2.heap a1 "java/util/ArrayList" "elementData" "[Ljava/lang/Object;" (.ref a3) := F_el.keep K2 nin0
  have V_b_2 : Arv Z T2.heap a3 kc (.object "java/lang/Object") (10 : Int32) [(.ref a2), (.ref a2), (.ref a2)] .null := V_b.keep K2 nin0
  have E_a2_2 : Exa Z T2.heap a2 "com/example/treellis/treellis/cfa/StructType$Member" := E_a2.keep K2
  have E_b_2 : Exa Z T2.heap a3 "[Ljava/lang/Object;" := E_b.keep K2
  have E_a5_2 : Exa Z T2.heap a5 "com/example/treellis/treellis/cfa/StructType" := E_a5.keep K2
  have F_mb_2 : Fld Z T2.heap a5 "com/example/treellis/treellis/cfa/StructType" "members" "Ljava/util/List;" .null := F_mb.keep K2 nin0
  have F_pk_2 : Fld Z T2.heap a5 "com/example/treellis/treellis/cfa/StructType" "packing" "I" (.int (0 : Int32)) := F_pk.keep K2 nin0
  have F_ag_2 : Fld Z T2.heap a5 "com/example/treellis/treellis/cfa/StructType" "alignment" "I" (.int (0 : Int32)) := F_ag.keep K2 nin0
  have Zs2 : n0 ≤ T2.heap.size := Nat.le_trans Z0 K2.1
  have Kp2 : Keep h0 T2.heap [a5] := Kp0.trans K2 all0
  have Od2 : Old Z n0 T2.heap := Od0.keep K2 all0
  have lo_rr2 : n0 ≤ rr2 := Nat.le_trans Z0 hr2
  have bo_rr2 : h0.size ≤ rr2 := Nat.le_trans Kp0.1 hr2
  have ne_a1_rr2 : a1 ≠ rr2 := Nat.ne_of_lt (Nat.lt_of_lt_of_le E_a1.lt hr2)
  have ne_a3_rr2 : a3 ≠ rr2 := Nat.ne_of_lt (Nat.lt_of_lt_of_le V_b.lt hr2)
  have ne_a2_rr2 : a2 ≠ rr2 := Nat.ne_of_lt (Nat.lt_of_lt_of_le E_a2.lt hr2)
  have ne_a5_rr2 : a5 ≠ rr2 := Nat.ne_of_lt (Nat.lt_of_lt_of_le E_a5.lt hr2)
  have lo_ee2 : n0 ≤ ee2 := Nat.le_trans Z0 he2
  have bo_ee2 : h0.size ≤ ee2 := Nat.le_trans Kp0.1 he2
  have ne_a1_ee2 : a1 ≠ ee2 := Nat.ne_of_lt (Nat.lt_of_lt_of_le E_a1.lt he2)
  have ne_a3_ee2 : a3 ≠ ee2 := Nat.ne_of_lt (Nat.lt_of_lt_of_le V_b.lt he2)
  have ne_a2_ee2 : a2 ≠ ee2 := Nat.ne_of_lt (Nat.lt_of_lt_of_le E_a2.lt he2)
  have ne_a5_ee2 : a5 ≠ ee2 := Nat.ne_of_lt (Nat.lt_of_lt_of_le E_a5.lt he2)
  obtain ⟨T3, h3, X3, e3, W3, st3⟩ := putF X2 hx hZ hown (host := "") (Or.inl (hw _ (List.mem_of_getElem? (i := 21) rfl))) Via.refl rfl F_mb_2 E_a5_2 (Or.inl (hw _ (List.mem_of_getElem? (i := 22) rfl))) (hw _ (List.mem_of_getElem? (i := 4) rfl)) (ty := (.object "java/util/List")) (by decide) rfl rfl (g := (mkF m 29 #[.val (.ref a5), .val (.ref a1), .val (.int p2), .val (.int p3)] [(.ref rr2), (.ref a5)])) rfl rfl (hb hby d14_29)
  have F_mb_3 : Fld Z h3 a5 "com/example/treellis/treellis/cfa/StructType" "members" "Ljava/util/List;" (.ref rr2) := F_mb_2.same W3
  have N3 := Fr.snoc X3 N2 lo_a5
  have E_a1_3 : Exa Z h3 a1 "java/util/ArrayList" := E_a1_2.wr W3
  have F_sz_3 : Fld Z h3 a1 "java/util/ArrayList" "size" "I" (.int (3 : Int32)) := F_sz_2.other W3 (Or.inl (Ne.symm ne_a5_a1))
  have F_el_3 : Fld Z h3 a1 "java/util/ArrayList" "elementData" "[Ljava/lang/Object;" (.ref a3) := F_el_2.other W3 (Or.inl (Ne.symm ne_a5_a1))
  have V_b_3 : Arv Z h3 a3 kc (.object "java/lang/Object") (10 : Int32) [(.ref a2), (.ref a2), (.ref a2)] .null := V_b_2.other W3 (Ne.symm ne_a5_a3)
  have E_a2_3 : Exa Z h3 a2 "com/example/treellis/treellis/cfa/StructType$Member" := E_a2_2.wr W3
  have E_b_3 : Exa Z h3 a3 "[Ljava/lang/Object;" := E_b_2.wr W3
  have E_a5_3 : Exa Z h3 a5 "com/example/treellis/treellis/cfa/StructType" := E_a5_2.wr W3
  have F_pk_3 : Fld Z h3 a5 "com/example/treellis/treellis/cfa/StructType" "packing" "I" (.int (0 : Int32)) := F_pk_2.other W3 (Or.inr (slot_ne (Or.inl (hw _ (List.mem_of_getElem? (i := 189) rfl))) (Or.inl (hw _ (List.mem_of_getElem? (i := 22) rfl))) (by decide) (t := .int) (t' := (.object "java/util/List")) (by decide) (by decide)))
  have F_ag_3 : Fld Z h3 a5 "com/example/treellis/treellis/cfa/StructType" "alignment" "I" (.int (0 : Int32)) := F_ag_2.other W3 (Or.inr (slot_ne (Or.inl (hw _ (List.mem_of_getElem? (i := 191) rfl))) (Or.inl (hw _ (List.mem_of_getElem? (i := 22) rfl))) (by decide) (t := .int) (t' := (.object "java/util/List")) (by decide) (by decide)))
  have E_r_3 : Exa Z h3 rr2 "java/util/ImmutableCollections$ListN" := Ex2.wr W3
  have F_es_3 : Fld Z h3 rr2 "java/util/ImmutableCollections$ListN" "elements" "[Ljava/lang/Object;" (.ref ee2) := Fa2.other W3 (Or.inl (Ne.symm ne_a5_rr2))
  have V_e_3 : Arv Z h3 ee2 ke2 (.object "java/lang/Object") (3 : Int32) [(.ref a2), (.ref a2), (.ref a2)] .null := Va2.other W3 (Ne.symm ne_a5_ee2)
  have Zs3 : n0 ≤ h3.size := Nat.le_trans Zs2 (Keep.of_wr W3).1
  have Kp3 : Keep h0 h3 [a5] := Kp2.wr W3 (Or.inl (by simp))
  have Od3 : Old Z n0 h3 := Od2.wr W3 lo_a5
  refine own_go st3 ?_
  show own_Goes _ _ _ _ _ _ _ T3 (mkF m 32 #[.val (.ref a5), .val (.ref a1), .val (.int p2), .val (.int p3)] [])
  refine own_go (fun _ k => XS.aloadN X3.here hx rfl (hb hby d14_32) rfl rfl k) ?_
  show own_Goes _ _ _ _ _ _ _ T3 (mkF m 33 #[.val (.ref a5), .val (.ref a1), .val (.int p2), .val (.int p3)] [(.ref a5)])
  refine own_go (fun _ k => XS.iloadN X3.here hx rfl (hb hby d14_33) rfl k) ?_
  show own_Goes _ _ _ _ _ _ _ T3 (mkF m 34 #[.val (.ref a5), .val (.ref a1), .val (.int p2), .val (.int p3)] [(.int p2), (.ref a5)])
  obtain ⟨T4, h4, X4, e4, W4, st4⟩ := putF X3 hx hZ hown (host := "") (Or.inl (hw _ (List.mem_of_getElem? (i := 188) rfl))) Via.refl e3 F_pk_3 E_a5_3 (Or.inl (hw _ (List.mem_of_getElem? (i := 189) rfl))) (hw _ (List.mem_of_getElem? (i := 4) rfl)) (ty := .int) (by decide) rfl rfl (g := (mkF m 34 #[.val (.ref a5), .val (.ref a1), .val (.int p2), .val (.int p3)] [(.int p2), (.ref a5)])) rfl rfl (hb hby d14_34)
  have F_pk_4 : Fld Z h4 a5 "com/example/treellis/treellis/cfa/StructType" "packing" "I" (.int p2) := F_pk_3.same W4
  have N4 := Fr.snoc X4 N3 lo_a5
  have E_a1_4 : Exa Z h4 a1 "java/util/ArrayList" := E_a1_3.wr W4
  have F_sz_4 : Fld Z h4 a1 "java/util/ArrayList" "size" "I" (.int (3 : Int32)) := F_sz_3.other W4 (Or.inl (Ne.symm ne_a5_a1))
  have F_el_4 : Fld Z h4 a1 "java/util/ArrayList" "elementData" "[Ljava/lang/Object;" (.ref a3) := F_el_3.other W4 (Or.inl (Ne.symm ne_a5_a1))
  have V_b_4 : Arv Z h4 a3 kc (.object "java/lang/Object") (10 : Int32) [(.ref a2), (.ref a2), (.ref a2)] .null := V_b_3.other W4 (Ne.symm ne_a5_a3)
  have E_a2_4 : Exa Z h4 a2 "com/example/treellis/treellis/cfa/StructType$Member" := E_a2_3.wr W4
  have E_b_4 : Exa Z h4 a3 "[Ljava/lang/Object;" := E_b_3.wr W4
  have E_a5_4 : Exa Z h4 a5 "com/example/treellis/treellis/cfa/StructType" := E_a5_3.wr W4
  have F_ag_4 : Fld Z h4 a5 "com/example/treellis/treellis/cfa/StructType" "alignment" "I" (.int (0 : Int32)) := F_ag_3.other W4 (Or.inr (slot_ne (Or.inl (hw _ (List.mem_of_getElem? (i := 191) rfl))) (Or.inl (hw _ (List.mem_of_getElem? (i := 189) rfl))) (by decide) (t := .int) (t' := .int) (by decide) (by decide)))
  have E_r_4 : Exa Z h4 rr2 "java/util/ImmutableCollections$ListN" := E_r_3.wr W4
  have F_es_4 : Fld Z h4 rr2 "java/util/ImmutableCollections$ListN" "elements" "[Ljava/lang/Object;" (.ref ee2) := F_es_3.other W4 (Or.inl (Ne.symm ne_a5_rr2))
  have V_e_4 : Arv Z h4 ee2 ke2 (.object "java/lang/Object") (3 : Int32) [(.ref a2), (.ref a2), (.ref a2)] .null := V_e_3.other W4 (Ne.symm ne_a5_ee2)
  have F_mb_4 : Fld Z h4 a5 "com/example/treellis/treellis/cfa/StructType" "members" "Ljava/util/List;" (.ref rr2) := F_mb_3.other W4 (Or.inr (slot_ne (Or.inl (hw _ (List.mem_of_getElem? (i := 22) rfl))) (Or.inl (hw _ (List.mem_of_getElem? (i := 189) rfl))) (by decide) (t := (.object "java/util/List")) (t' := .int) (by decide) (by decide)))
  have Zs4 : n0 ≤ h4.size := Nat.le_trans Zs3 (Keep.of_wr W4).1
  have Kp4 : Keep h0 h4 [a5] := Kp3.wr W4 (Or.inl (by simp))
  have Od4 : Old Z n0 h4 := Od3.wr W4 lo_a5
  refine own_go st4 ?_
  show own_Goes _ _ _ _ _ _ _ T4 (mkF m 37 #[.val (.ref a5), .val (.ref a1), .val (.int p2), .val (.int p3)] [])
  refine own_go (fun _ k => XS.aloadN X4.here hx rfl (hb hby d14_37) rfl rfl k) ?_
  show own_Goes _ _ _ _ _ _ _ T4 (mkF m 38 #[.val (.ref a5), .val (.ref a1), .val (.int p2), .val (.int p3)] [(.ref a5)])
  refine own_go (fun _ k => XS.iloadN X4.here hx rfl (hb hby d14_38) rfl k) ?_
  show own_Goes _ _ _ _ _ _ _ T4 (mkF m 39 #[.val (.ref a5), .val (.ref a1), .val (.int p2), .val (.int p3)] [(.int p3), (.ref a5)])
  obtain ⟨T5, h5, X5, e5, W5, st5⟩ := putF X4 hx hZ hown (host := "") (Or.inl (hw _ (List.mem_of_getElem? (i := 190) rfl))) Via.refl e4 F_ag_4 E_a5_4 (Or.inl (hw _ (List.mem_of_getElem? (i := 191) rfl))) (hw _ (List.mem_of_getElem? (i := 4) rfl)) (ty := .int) (by decide) rfl rfl (g := (mkF m 39 #[.val (.ref a5), .val (.ref a1), .val (.int p2), .val (.int p3)] [(.int p3), (.ref a5)])) rfl rfl (hb hby d14_39)
  have F_ag_5 : Fld Z h5 a5 "com/example/treellis/treellis/cfa/StructType" "alignment" "I" (.int p3) := F_ag_4.same W5
  have N5 := Fr.snoc X5 N4 lo_a5
  have E_a1_5 : Exa Z h5 a1 "java/util/ArrayList" := E_a1_4.wr W5
  have F_sz_5 : Fld Z h5 a1 "java/util/ArrayList" "size" "I" (.int (3 : Int32)) := F_sz_4.other W5 (Or.inl (Ne.symm ne_a5_a1))
  have F_el_5 : Fld Z h5 a1 "java/util/ArrayList" "elementData" "[Ljava/lang/Object;" (.ref a3) := F_el_4.other W5 (Or.inl (Ne.symm ne_a5_a1))
  have V_b_5 : Arv Z h5 a3 kc (.object "java/lang/Object") (10 : Int32) [(.ref a2), (.ref a2), (.ref a2)] .null := V_b_4.other W5 (Ne.symm ne_a5_a3)
  have E_a2_5 : Exa Z h5 a2 "com/example/treellis/treellis/cfa/StructType$Member" := E_a2_4.wr W5
  have E_b_5 : Exa Z h5 a3 "[Ljava/lang/Object;" := E_b_4.wr W5
  have E_a5_5 : Exa Z h5 a5 "com/example/treellis/treellis/cfa/StructType" := E_a5_4.wr W5
  have E_r_5 : Exa Z h5 rr2 "java/util/ImmutableCollections$ListN" := E_r_4.wr W5
  have F_es_5 : Fld Z h5 rr2 "java/util/ImmutableCollections$ListN" "elements" "[Ljava/lang/Object;" (.ref ee2) := F_es_4.other W5 (Or.inl (Ne.symm ne_a5_rr2))
  have V_e_5 : Arv Z h5 ee2 ke2 (.object "java/lang/Object") (3 : Int32) [(.ref a2), (.ref a2), (.ref a2)] .null := V_e_4.other W5 (Ne.symm ne_a5_ee2)
  have F_mb_5 : Fld Z h5 a5 "com/example/treellis/treellis/cfa/StructType" "members" "Ljava/util/List;" (.ref rr2) := F_mb_4.other W5 (Or.inr (slot_ne (Or.inl (hw _ (List.mem_of_getElem? (i := 22) rfl))) (Or.inl (hw _ (List.mem_of_getElem? (i := 191) rfl))) (by decide) (t := (.object "java/util/List")) (t' := .int) (by decide) (by decide)))
  have F_pk_5 : Fld Z h5 a5 "com/example/treellis/treellis/cfa/StructType" "packing" "I" (.int p2) := F_pk_4.other W5 (Or.inr (slot_ne (Or.inl (hw _ (List.mem_of_getElem? (i := 189) rfl))) (Or.inl (hw _ (List.mem_of_getElem? (i := 191) rfl))) (by decide) (t := .int) (t' := .int) (by decide) (by decide)))
  have Zs5 : n0 ≤ h5.size := Nat.le_trans Zs4 (Keep.of_wr W5).1
  have Kp5 : Keep h0 h5 [a5] := Kp4.wr W5 (Or.inl (by simp))
  have Od5 : Old Z n0 h5 := Od4.wr W5 lo_a5
  refine own_go st5 ?_
  show own_Goes _ _ _ _ _ _ _ T5 (mkF m 42 #[.val (.ref a5), .val (.ref a1), .val (.int p2), .val (.int p3)] [])
  exact own_retV X5 hx hlk hret (hb hby d14_42) (by decide) (by decide) (by rw [e5]; exact ⟨rr2, ee2, _, rfl, N5, Kp5, F_mb_5, F_pk_5, F_ag_5, E_r_5, F_es_5, V_e_5⟩)
def Q_rm_s1 (Z : State) (h0 : Heap) (n0 : Nat)  (v : Option Value) (h : Heap) (L : List Loc) : Prop := v = some (.int 1) ∧ Fr n0 L ∧ h = h0
set_option maxRecDepth 65536 in
set_option maxHeartbeats 40000000 in
theorem rm_s1 (l : Launch) (Z : State) (a0 : Array Value) (hw : ∀ d ∈ tables_1, d.before a0 Z = true) (ws : List Jvm.Cond) (a1 a2 aE : Addr) (h0 : Heap) (n0 : Nat) (Z0 : n0 ≤ h0.size) (F_e1 : Fld Z h0 a1 "java/util/ImmutableCollections$List12" "e1" "Ljava/lang/Object;" (.ref aE)) (SE : Sta Z Z.heap "java/util/ImmutableCollections" "EMPTY" "Ljava/lang/Object;" (.ref aE)) (Od0 : Old Z n0 h0) :
    MetFree l (⟨"java/util/ImmutableCollections$List12", "size", "()I"⟩ : MethodName) (head1 (Jvm.Cond.code (⟨"java/util/ImmutableCollections$List12", "size", "()I"⟩ : MethodName) jdk_44_method_3_code 1 (some .int) :: ws) ({ frames := 0, cells := 0, slots := 0, locals := 0 } : Room)) (fun a U => a = #[(.ref a1)] ∧ Z.Warmed39 U.vm ∧ U.heap = h0) (fun _ _ _ _ _ => True) (fun _ U o U' => ∃ rv rL, o = .returned rv ∧ Q_rm_s1 Z h0 n0  rv U'.heap rL ∧ FrameEnd U o U' rL ({ frames := 0, cells := 0, slots := 0, locals := 0 } : Room).cells ({ frames := 0, cells := 0, slots := 0, locals := 0 } : Room).slots) := by
  refine own_met (y := (⟨"java/util/ImmutableCollections$List12", "size", "()I"⟩ : MethodName)) (Q := Q_rm_s1 Z h0 n0 ) (own := "java/util/ImmutableCollections$List12") rfl (plainFor_of_name pn_27) ?_
  intro p e s m below meth c s₁ C e0 X0
  obtain ⟨hx, hby, hml, hown, hnm, hret, hlk, hZ⟩ := C
  have N0 := Fr.nil n0
  rw [ef_27]
  show own_Goes _ _ _ _ _ _ _ s₁ (mkF m 0 #[.val (.ref a1)] [])
  refine own_go (fun _ k => XS.aloadN X0.here hx rfl (hb hby d27_0) rfl rfl k) ?_
  show own_Goes _ _ _ _ _ _ _ s₁ (mkF m 1 #[.val (.ref a1)] [(.ref a1)])
  obtain ⟨T1, X1, e1, st1⟩ := getF X0 hx hZ hown (host := "") (Or.inl (hw _ (List.mem_of_getElem? (i := 186) rfl))) Via.refl e0 F_e1 (g := (mkF m 1 #[.val (.ref a1)] [(.ref a1)])) rfl rfl (hb hby d27_1)
  refine own_go st1 ?_
  show own_Goes _ _ _ _ _ _ _ T1 (mkF m 4 #[.val (.ref a1)] [(.ref aE)])
  obtain ⟨T2, X2, e2, st2⟩ := getS2 X1 hx hZ hown (Or.inr (hw _ (List.mem_of_getElem? (i := 201) rfl))) Via.refl e1 (SE.ext Od0.2) (g := (mkF m 4 #[.val (.ref a1)] [(.ref aE)])) rfl (hb hby d27_4)
  refine own_go st2 ?_
  show own_Goes _ _ _ _ _ _ _ T2 (mkF m 7 #[.val (.ref a1)] [(.ref aE), (.ref aE)])
  refine own_go (fun _ k => Jvm.RoadKit.acmp (g := (mkF m 7 #[.val (.ref a1)] [(.ref aE), (.ref aE)])) X2 hx rfl rfl rfl (pc0 := 7) (pc' := 14) (same := true) rfl (hb hby d27_7) rfl (decide_eq_true rfl) (by decide) (by decide) k) ?_
  show own_Goes _ _ _ _ _ _ _ T2 (mkF m 14 #[.val (.ref a1)] [])
  refine own_go (fun _ k => XS.iconst X2.here hx rfl (hb hby d27_14) k) ?_
  show own_Goes _ _ _ _ _ _ _ T2 (mkF m 15 #[.val (.ref a1)] [(.int (1 : Int32))])
  exact own_retI X2 hx hlk hret (hb hby d27_15) (by decide) (by decide) (by rw [e2]; exact ⟨rfl, N0, rfl⟩)
def Q_rm_s2 (Z : State) (h0 : Heap) (n0 : Nat)  (v : Option Value) (h : Heap) (L : List Loc) : Prop := v = some (.int 2) ∧ Fr n0 L ∧ h = h0
set_option maxRecDepth 65536 in
set_option maxHeartbeats 40000000 in
theorem rm_s2 (l : Launch) (Z : State) (a0 : Array Value) (hw : ∀ d ∈ tables_1, d.before a0 Z = true) (ws : List Jvm.Cond) (a1 a2 aE : Addr) (h0 : Heap) (n0 : Nat) (Z0 : n0 ≤ h0.size) (F_e1 : Fld Z h0 a1 "java/util/ImmutableCollections$List12" "e1" "Ljava/lang/Object;" (.ref a2)) (SE : Sta Z Z.heap "java/util/ImmutableCollections" "EMPTY" "Ljava/lang/Object;" (.ref aE)) (Od0 : Old Z n0 h0) (hne : ¬ a2 = aE) :
    MetFree l (⟨"java/util/ImmutableCollections$List12", "size", "()I"⟩ : MethodName) (head1 (Jvm.Cond.code (⟨"java/util/ImmutableCollections$List12", "size", "()I"⟩ : MethodName) jdk_44_method_3_code 1 (some .int) :: ws) ({ frames := 0, cells := 0, slots := 0, locals := 0 } : Room)) (fun a U => a = #[(.ref a1)] ∧ Z.Warmed39 U.vm ∧ U.heap = h0) (fun _ _ _ _ _ => True) (fun _ U o U' => ∃ rv rL, o = .returned rv ∧ Q_rm_s2 Z h0 n0  rv U'.heap rL ∧ FrameEnd U o U' rL ({ frames := 0, cells := 0, slots := 0, locals := 0 } : Room).cells ({ frames := 0, cells := 0, slots := 0, locals := 0 } : Room).slots) := by
  refine own_met (y := (⟨"java/util/ImmutableCollections$List12", "size", "()I"⟩ : MethodName)) (Q := Q_rm_s2 Z h0 n0 ) (own := "java/util/ImmutableCollections$List12") rfl (plainFor_of_name pn_27) ?_
  intro p e s m below meth c s₁ C e0 X0
  obtain ⟨hx, hby, hml, hown, hnm, hret, hlk, hZ⟩ := C
  have N0 := Fr.nil n0
  rw [ef_27]
  show own_Goes _ _ _ _ _ _ _ s₁ (mkF m 0 #[.val (.ref a1)] [])
  refine own_go (fun _ k => XS.aloadN X0.here hx rfl (hb hby d27_0) rfl rfl k) ?_
  show own_Goes _ _ _ _ _ _ _ s₁ (mkF m 1 #[.val (.ref a1)] [(.ref a1)])
  obtain ⟨T1, X1, e1, st1⟩ := getF X0 hx hZ hown (host := "") (Or.inl (hw _ (List.mem_of_getElem? (i := 186) rfl))) Via.refl e0 F_e1 (g := (mkF m 1 #[.val (.ref a1)] [(.ref a1)])) rfl rfl (hb hby d27_1)
  refine own_go st1 ?_
  show own_Goes _ _ _ _ _ _ _ T1 (mkF m 4 #[.val (.ref a1)] [(.ref a2)])
  obtain ⟨T2, X2, e2, st2⟩ := getS2 X1 hx hZ hown (Or.inr (hw _ (List.mem_of_getElem? (i := 201) rfl))) Via.refl e1 (SE.ext Od0.2) (g := (mkF m 4 #[.val (.ref a1)] [(.ref a2)])) rfl (hb hby d27_4)
  refine own_go st2 ?_
  show own_Goes _ _ _ _ _ _ _ T2 (mkF m 7 #[.val (.ref a1)] [(.ref aE), (.ref a2)])
  refine own_go (fun _ k => Jvm.RoadKit.acmp (g := (mkF m 7 #[.val (.ref a1)] [(.ref aE), (.ref a2)])) X2 hx rfl rfl rfl (pc0 := 7) (pc' := 10) (same := false) rfl (hb hby d27_7) rfl (decide_eq_false fun q => hne (Value.ref.inj q)) (by decide) (by decide) k) ?_
  show own_Goes _ _ _ _ _ _ _ T2 (mkF m 10 #[.val (.ref a1)] [])
  refine own_go (fun _ k => XS.iconst X2.here hx rfl (hb hby d27_10) k) ?_
  show own_Goes _ _ _ _ _ _ _ T2 (mkF m 11 #[.val (.ref a1)] [(.int (2 : Int32))])
  refine own_go (fun _ k => XS.goto X2.here hx rfl (pc0 := 11) (pc' := 15) rfl (hb hby d27_11) (by decide) (by decide) k) ?_
  show own_Goes _ _ _ _ _ _ _ T2 (mkF m 15 #[.val (.ref a1)] [(.int (2 : Int32))])
  exact own_retI X2 hx hlk hret (hb hby d27_15) (by decide) (by decide) (by rw [e2]; exact ⟨rfl, N0, rfl⟩)
def Q_rm_sN (Z : State) (h0 : Heap) (n0 : Nat) (p9 : Int32) (v : Option Value) (h : Heap) (L : List Loc) : Prop := v = some (.int p9) ∧ Fr n0 L ∧ h = h0
set_option maxRecDepth 65536 in
set_option maxHeartbeats 40000000 in
theorem rm_sN (l : Launch) (Z : State) (a0 : Array Value) (hw : ∀ d ∈ tables_1, d.before a0 Z = true) (ws : List Jvm.Cond) (a1 a2 : Addr) (cl : Cell) (p9 : Int32) (h0 : Heap) (n0 : Nat) (Z0 : n0 ≤ h0.size) (F_es : Fld Z h0 a1 "java/util/ImmutableCollections$ListN" "elements" "[Ljava/lang/Object;" (.ref a2)) (A2 : Arr Z h0 a2 cl (.object "java/lang/Object")) (S9 : cl.slots.size.toInt32 = p9) :
    MetFree l (⟨"java/util/ImmutableCollections$ListN", "size", "()I"⟩ : MethodName) (head1 (Jvm.Cond.code (⟨"java/util/ImmutableCollections$ListN", "size", "()I"⟩ : MethodName) jdk_45_method_3_code 1 (some .int) :: ws) ({ frames := 0, cells := 0, slots := 0, locals := 0 } : Room)) (fun a U => a = #[(.ref a1)] ∧ Z.Warmed39 U.vm ∧ U.heap = h0) (fun _ _ _ _ _ => True) (fun _ U o U' => ∃ rv rL, o = .returned rv ∧ Q_rm_sN Z h0 n0 p9 rv U'.heap rL ∧ FrameEnd U o U' rL ({ frames := 0, cells := 0, slots := 0, locals := 0 } : Room).cells ({ frames := 0, cells := 0, slots := 0, locals := 0 } : Room).slots) := by
  refine own_met (y := (⟨"java/util/ImmutableCollections$ListN", "size", "()I"⟩ : MethodName)) (Q := Q_rm_sN Z h0 n0 p9) (own := "java/util/ImmutableCollections$ListN") rfl (plainFor_of_name pn_37) ?_
  intro p e s m below meth c s₁ C e0 X0
  obtain ⟨hx, hby, hml, hown, hnm, hret, hlk, hZ⟩ := C
  have N0 := Fr.nil n0
  rw [ef_37]
  show own_Goes _ _ _ _ _ _ _ s₁ (mkF m 0 #[.val (.ref a1)] [])
  refine own_go (fun _ k => XS.aloadN X0.here hx rfl (hb hby d37_0) rfl rfl k) ?_
  show own_Goes _ _ _ _ _ _ _ s₁ (mkF m 1 #[.val (.ref a1)] [(.ref a1)])
  obtain ⟨T1, X1, e1, st1⟩ := getF X0 hx hZ hown (host := "") (Or.inl (hw _ (List.mem_of_getElem? (i := 256) rfl))) Via.refl e0 F_es (g := (mkF m 1 #[.val (.ref a1)] [(.ref a1)])) rfl rfl (hb hby d37_1)
  refine own_go st1 ?_
  show own_Goes _ _ _ _ _ _ _ T1 (mkF m 4 #[.val (.ref a1)] [(.ref a2)])
  refine own_go (fun t k => X1.arraylength hx (by rw [e1]; exact A2.1) (State.isArrayOf_alike hZ.alike A2.2.1) (g := (mkF m 4 #[.val (.ref a1)] [(.ref a2)])) rfl rfl (hb hby d37_4) t k) ?_
  rw [show cl.slots.size.toInt32 = p9 from S9]
  show own_Goes _ _ _ _ _ _ _ T1 (mkF m 5 #[.val (.ref a1)] [(.int p9)])
  exact own_retI X1 hx hlk hret (hb hby d37_5) (by decide) (by decide) (by rw [e1]; exact ⟨rfl, N0, rfl⟩)
def Q_rm_packing (Z : State) (h0 : Heap) (n0 : Nat) (p9 : Int32) (v : Option Value) (h : Heap) (L : List Loc) : Prop := v = some (.int p9) ∧ Fr n0 L ∧ h = h0
set_option maxRecDepth 65536 in
set_option maxHeartbeats 40000000 in
theorem rm_packing (l : Launch) (Z : State) (a0 : Array Value) (hw : ∀ d ∈ tables_1, d.before a0 Z = true) (ws : List Jvm.Cond) (a1 : Addr) (p9 : Int32) (h0 : Heap) (n0 : Nat) (Z0 : n0 ≤ h0.size) (F : Fld Z h0 a1 "com/example/treellis/treellis/cfa/StructType" "packing" "I" (.int p9)) :
    MetFree l (⟨"com/example/treellis/treellis/cfa/StructType", "packing", "()I"⟩ : MethodName) (head1 (Jvm.Cond.code (⟨"com/example/treellis/treellis/cfa/StructType", "packing", "()I"⟩ : MethodName) prog_52_method_6_code 1 (some .int) :: ws) ({ frames := 0, cells := 0, slots := 0, locals := 0 } : Room)) (fun a U => a = #[(.ref a1)] ∧ Z.Warmed39 U.vm ∧ U.heap = h0) (fun _ _ _ _ _ => True) (fun _ U o U' => ∃ rv rL, o = .returned rv ∧ Q_rm_packing Z h0 n0 p9 rv U'.heap rL ∧ FrameEnd U o U' rL ({ frames := 0, cells := 0, slots := 0, locals := 0 } : Room).cells ({ frames := 0, cells := 0, slots := 0, locals := 0 } : Room).slots) := by
  refine own_met (y := (⟨"com/example/treellis/treellis/cfa/StructType", "packing", "()I"⟩ : MethodName)) (Q := Q_rm_packing Z h0 n0 p9) (own := "com/example/treellis/treellis/cfa/StructType") rfl (plainFor_of_name pn_28) ?_
  intro p e s m below meth c s₁ C e0 X0
  obtain ⟨hx, hby, hml, hown, hnm, hret, hlk, hZ⟩ := C
  have N0 := Fr.nil n0
  rw [ef_28]
  show own_Goes _ _ _ _ _ _ _ s₁ (mkF m 0 #[.val (.ref a1)] [])
  refine own_go (fun _ k => XS.aloadN X0.here hx rfl (hb hby d28_0) rfl rfl k) ?_
  show own_Goes _ _ _ _ _ _ _ s₁ (mkF m 1 #[.val (.ref a1)] [(.ref a1)])
  obtain ⟨T1, X1, e1, st1⟩ := getF X0 hx hZ hown (host := "") (Or.inl (hw _ (List.mem_of_getElem? (i := 188) rfl))) Via.refl e0 F (g := (mkF m 1 #[.val (.ref a1)] [(.ref a1)])) rfl rfl (hb hby d28_1)
  refine own_go st1 ?_
  show own_Goes _ _ _ _ _ _ _ T1 (mkF m 4 #[.val (.ref a1)] [(.int p9)])
  exact own_retI X1 hx hlk hret (hb hby d28_4) (by decide) (by decide) (by rw [e1]; exact ⟨rfl, N0, rfl⟩)
def Q_rm_alignment (Z : State) (h0 : Heap) (n0 : Nat) (p9 : Int32) (v : Option Value) (h : Heap) (L : List Loc) : Prop := v = some (.int p9) ∧ Fr n0 L ∧ h = h0
set_option maxRecDepth 65536 in
set_option maxHeartbeats 40000000 in
theorem rm_alignment (l : Launch) (Z : State) (a0 : Array Value) (hw : ∀ d ∈ tables_1, d.before a0 Z = true) (ws : List Jvm.Cond) (a1 : Addr) (p9 : Int32) (h0 : Heap) (n0 : Nat) (Z0 : n0 ≤ h0.size) (F : Fld Z h0 a1 "com/example/treellis/treellis/cfa/StructType" "alignment" "I" (.int p9)) :
    MetFree l (⟨"com/example/treellis/treellis/cfa/StructType", "alignment", "()I"⟩ : MethodName) (head1 (Jvm.Cond.code (⟨"com/example/treellis/treellis/cfa/StructType", "alignment", "()I"⟩ : MethodName) prog_52_method_7_code 1 (some .int) :: ws) ({ frames := 0, cells := 0, slots := 0, locals := 0 } : Room)) (fun a U => a = #[(.ref a1)] ∧ Z.Warmed39 U.vm ∧ U.heap = h0) (fun _ _ _ _ _ => True) (fun _ U o U' => ∃ rv rL, o = .returned rv ∧ Q_rm_alignment Z h0 n0 p9 rv U'.heap rL ∧ FrameEnd U o U' rL ({ frames := 0, cells := 0, slots := 0, locals := 0 } : Room).cells ({ frames := 0, cells := 0, slots := 0, locals := 0 } : Room).slots) := by
  refine own_met (y := (⟨"com/example/treellis/treellis/cfa/StructType", "alignment", "()I"⟩ : MethodName)) (Q := Q_rm_alignment Z h0 n0 p9) (own := "com/example/treellis/treellis/cfa/StructType") rfl (plainFor_of_name pn_29) ?_
  intro p e s m below meth c s₁ C e0 X0
  obtain ⟨hx, hby, hml, hown, hnm, hret, hlk, hZ⟩ := C
  have N0 := Fr.nil n0
  rw [ef_29]
  show own_Goes _ _ _ _ _ _ _ s₁ (mkF m 0 #[.val (.ref a1)] [])
  refine own_go (fun _ k => XS.aloadN X0.here hx rfl (hb hby d29_0) rfl rfl k) ?_
  show own_Goes _ _ _ _ _ _ _ s₁ (mkF m 1 #[.val (.ref a1)] [(.ref a1)])
  obtain ⟨T1, X1, e1, st1⟩ := getF X0 hx hZ hown (host := "") (Or.inl (hw _ (List.mem_of_getElem? (i := 190) rfl))) Via.refl e0 F (g := (mkF m 1 #[.val (.ref a1)] [(.ref a1)])) rfl rfl (hb hby d29_1)
  refine own_go st1 ?_
  show own_Goes _ _ _ _ _ _ _ T1 (mkF m 4 #[.val (.ref a1)] [(.int p9)])
  exact own_retI X1 hx hlk hret (hb hby d29_4) (by decide) (by decide) (by rw [e1]; exact ⟨rfl, N0, rfl⟩)
def Q_rm_icN (Z : State) (h0 : Heap) (n0 : Nat)  (v : Option Value) (h : Heap) (L : List Loc) : Prop := v = some (.int 0) ∧ Fr n0 L ∧ h = h0
set_option maxRecDepth 65536 in
set_option maxHeartbeats 40000000 in
theorem rm_icN (l : Launch) (Z : State) (a0 : Array Value) (hw : ∀ d ∈ tables_1, d.before a0 Z = true) (ws : List Jvm.Cond) (a1 a2 : Addr) (h0 : Heap) (n0 : Nat) (Z0 : n0 ≤ h0.size) (F : Fld Z h0 a1 "com/example/treellis/treellis/cfa/StructType" "members" "Ljava/util/List;" .null) :
    MetFree l (⟨"com/example/treellis/treellis/cfa/StructType", "isComplete", "()Z"⟩ : MethodName) (head1 (Jvm.Cond.code (⟨"com/example/treellis/treellis/cfa/StructType", "isComplete", "()Z"⟩ : MethodName) prog_52_method_4_code 1 (some .boolean) :: ws) ({ frames := 0, cells := 0, slots := 0, locals := 0 } : Room)) (fun a U => a = #[(.ref a1)] ∧ Z.Warmed39 U.vm ∧ U.heap = h0) (fun _ _ _ _ _ => True) (fun _ U o U' => ∃ rv rL, o = .returned rv ∧ Q_rm_icN Z h0 n0  rv U'.heap rL ∧ FrameEnd U o U' rL ({ frames := 0, cells := 0, slots := 0, locals := 0 } : Room).cells ({ frames := 0, cells := 0, slots := 0, locals := 0 } : Room).slots) := by
  refine own_met (y := (⟨"com/example/treellis/treellis/cfa/StructType", "isComplete", "()Z"⟩ : MethodName)) (Q := Q_rm_icN Z h0 n0 ) (own := "com/example/treellis/treellis/cfa/StructType") rfl (plainFor_of_name pn_3) ?_
  intro p e s m below meth c s₁ C e0 X0
  obtain ⟨hx, hby, hml, hown, hnm, hret, hlk, hZ⟩ := C
  have N0 := Fr.nil n0
  rw [ef_3]
  show own_Goes _ _ _ _ _ _ _ s₁ (mkF m 0 #[.val (.ref a1)] [])
  refine own_go (fun _ k => XS.aloadN X0.here hx rfl (hb hby d3_0) rfl rfl k) ?_
  show own_Goes _ _ _ _ _ _ _ s₁ (mkF m 1 #[.val (.ref a1)] [(.ref a1)])
  obtain ⟨T1, X1, e1, st1⟩ := getF X0 hx hZ hown (host := "") (Or.inl (hw _ (List.mem_of_getElem? (i := 21) rfl))) Via.refl e0 F (g := (mkF m 1 #[.val (.ref a1)] [(.ref a1)])) rfl rfl (hb hby d3_1)
  refine own_go st1 ?_
  show own_Goes _ _ _ _ _ _ _ T1 (mkF m 4 #[.val (.ref a1)] [.null])
  refine own_go (fun _ k => XS.ifnullYes X1.here hx rfl (pc0 := 4) (pc' := 11) rfl (hb hby d3_4) rfl (by decide) (by decide) k) ?_
  show own_Goes _ _ _ _ _ _ _ T1 (mkF m 11 #[.val (.ref a1)] [])
  refine own_go (fun _ k => XS.iconst X1.here hx rfl (hb hby d3_11) k) ?_
  show own_Goes _ _ _ _ _ _ _ T1 (mkF m 12 #[.val (.ref a1)] [(.int (0 : Int32))])
  exact own_retN X1 hx (t := .boolean) hlk hret (by simp) (hb hby d3_12) (by decide) (by decide) (by rw [e1]; exact ⟨rfl, N0, rfl⟩)
def Q_rm_mbN (Z : State) (h0 : Heap) (n0 : Nat)  (v : Option Value) (h : Heap) (L : List Loc) : Prop := v = some .null ∧ Fr n0 L ∧ h = h0
set_option maxRecDepth 65536 in
set_option maxHeartbeats 40000000 in
theorem rm_mbN (l : Launch) (Z : State) (a0 : Array Value) (hw : ∀ d ∈ tables_1, d.before a0 Z = true) (ws : List Jvm.Cond) (a1 a2 : Addr) (h0 : Heap) (n0 : Nat) (Z0 : n0 ≤ h0.size) (F : Fld Z h0 a1 "com/example/treellis/treellis/cfa/StructType" "members" "Ljava/util/List;" .null) :
    MetFree l (⟨"com/example/treellis/treellis/cfa/StructType", "members", "()Ljava/util/List;"⟩ : MethodName) (head1 (Jvm.Cond.code (⟨"com/example/treellis/treellis/cfa/StructType", "members", "()Ljava/util/List;"⟩ : MethodName) prog_52_method_5_code 1 (some (.object "java/util/List")) :: ws) ({ frames := 0, cells := 0, slots := 0, locals := 0 } : Room)) (fun a U => a = #[(.ref a1)] ∧ Z.Warmed39 U.vm ∧ U.heap = h0) (fun _ _ _ _ _ => True) (fun _ U o U' => ∃ rv rL, o = .returned rv ∧ Q_rm_mbN Z h0 n0  rv U'.heap rL ∧ FrameEnd U o U' rL ({ frames := 0, cells := 0, slots := 0, locals := 0 } : Room).cells ({ frames := 0, cells := 0, slots := 0, locals := 0 } : Room).slots) := by
  refine own_met (y := (⟨"com/example/treellis/treellis/cfa/StructType", "members", "()Ljava/util/List;"⟩ : MethodName)) (Q := Q_rm_mbN Z h0 n0 ) (own := "com/example/treellis/treellis/cfa/StructType") rfl (plainFor_of_name pn_4) ?_
  intro p e s m below meth c s₁ C e0 X0
  obtain ⟨hx, hby, hml, hown, hnm, hret, hlk, hZ⟩ := C
  have N0 := Fr.nil n0
  rw [ef_4]
  show own_Goes _ _ _ _ _ _ _ s₁ (mkF m 0 #[.val (.ref a1)] [])
  refine own_go (fun _ k => XS.aloadN X0.here hx rfl (hb hby d4_0) rfl rfl k) ?_
  show own_Goes _ _ _ _ _ _ _ s₁ (mkF m 1 #[.val (.ref a1)] [(.ref a1)])
  obtain ⟨T1, X1, e1, st1⟩ := getF X0 hx hZ hown (host := "") (Or.inl (hw _ (List.mem_of_getElem? (i := 21) rfl))) Via.refl e0 F (g := (mkF m 1 #[.val (.ref a1)] [(.ref a1)])) rfl rfl (hb hby d4_1)
  refine own_go st1 ?_
  show own_Goes _ _ _ _ _ _ _ T1 (mkF m 4 #[.val (.ref a1)] [.null])
  exact own_retA X1 hx hlk hret rfl rfl (hb hby d4_4) (by decide) (by decide) (by rw [e1]; exact ⟨rfl, N0, rfl⟩)
def Q_rm_icR (Z : State) (h0 : Heap) (n0 : Nat)  (v : Option Value) (h : Heap) (L : List Loc) : Prop := v = some (.int 1) ∧ Fr n0 L ∧ h = h0
set_option maxRecDepth 65536 in
set_option maxHeartbeats 40000000 in
theorem rm_icR (l : Launch) (Z : State) (a0 : Array Value) (hw : ∀ d ∈ tables_1, d.before a0 Z = true) (ws : List Jvm.Cond) (a1 a2 : Addr) (h0 : Heap) (n0 : Nat) (Z0 : n0 ≤ h0.size) (F : Fld Z h0 a1 "com/example/treellis/treellis/cfa/StructType" "members" "Ljava/util/List;" (.ref a2)) :
    MetFree l (⟨"com/example/treellis/treellis/cfa/StructType", "isComplete", "()Z"⟩ : MethodName) (head1 (Jvm.Cond.code (⟨"com/example/treellis/treellis/cfa/StructType", "isComplete", "()Z"⟩ : MethodName) prog_52_method_4_code 1 (some .boolean) :: ws) ({ frames := 0, cells := 0, slots := 0, locals := 0 } : Room)) (fun a U => a = #[(.ref a1)] ∧ Z.Warmed39 U.vm ∧ U.heap = h0) (fun _ _ _ _ _ => True) (fun _ U o U' => ∃ rv rL, o = .returned rv ∧ Q_rm_icR Z h0 n0  rv U'.heap rL ∧ FrameEnd U o U' rL ({ frames := 0, cells := 0, slots := 0, locals := 0 } : Room).cells ({ frames := 0, cells := 0, slots := 0, locals := 0 } : Room).slots) := by
  refine own_met (y := (⟨"com/example/treellis/treellis/cfa/StructType", "isComplete", "()Z"⟩ : MethodName)) (Q := Q_rm_icR Z h0 n0 ) (own := "com/example/treellis/treellis/cfa/StructType") rfl (plainFor_of_name pn_3) ?_
  intro p e s m below meth c s₁ C e0 X0
  obtain ⟨hx, hby, hml, hown, hnm, hret, hlk, hZ⟩ := C
  have N0 := Fr.nil n0
  rw [ef_3]
  show own_Goes _ _ _ _ _ _ _ s₁ (mkF m 0 #[.val (.ref a1)] [])
  refine own_go (fun _ k => XS.aloadN X0.here hx rfl (hb hby d3_0) rfl rfl k) ?_
  show own_Goes _ _ _ _ _ _ _ s₁ (mkF m 1 #[.val (.ref a1)] [(.ref a1)])
  obtain ⟨T1, X1, e1, st1⟩ := getF X0 hx hZ hown (host := "") (Or.inl (hw _ (List.mem_of_getElem? (i := 21) rfl))) Via.refl e0 F (g := (mkF m 1 #[.val (.ref a1)] [(.ref a1)])) rfl rfl (hb hby d3_1)
  refine own_go st1 ?_
  show own_Goes _ _ _ _ _ _ _ T1 (mkF m 4 #[.val (.ref a1)] [(.ref a2)])
  refine own_go (fun _ k => XS.ifnullNo X1.here hx rfl (hb hby d3_4) rfl k) ?_
  show own_Goes _ _ _ _ _ _ _ T1 (mkF m 7 #[.val (.ref a1)] [])
  refine own_go (fun _ k => XS.iconst X1.here hx rfl (hb hby d3_7) k) ?_
  show own_Goes _ _ _ _ _ _ _ T1 (mkF m 8 #[.val (.ref a1)] [(.int (1 : Int32))])
  refine own_go (fun _ k => XS.goto X1.here hx rfl (pc0 := 8) (pc' := 12) rfl (hb hby d3_8) (by decide) (by decide) k) ?_
  show own_Goes _ _ _ _ _ _ _ T1 (mkF m 12 #[.val (.ref a1)] [(.int (1 : Int32))])
  exact own_retN X1 hx (t := .boolean) hlk hret (by simp) (hb hby d3_12) (by decide) (by decide) (by rw [e1]; exact ⟨rfl, N0, rfl⟩)
def Q_rm_mbR (Z : State) (h0 : Heap) (n0 : Nat) (a2 : Addr) (v : Option Value) (h : Heap) (L : List Loc) : Prop := v = some (.ref a2) ∧ Fr n0 L ∧ h = h0
set_option maxRecDepth 65536 in
set_option maxHeartbeats 40000000 in
theorem rm_mbR (l : Launch) (Z : State) (a0 : Array Value) (hw : ∀ d ∈ tables_1, d.before a0 Z = true) (ws : List Jvm.Cond) (a1 a2 : Addr) (h0 : Heap) (n0 : Nat) (Z0 : n0 ≤ h0.size) (F : Fld Z h0 a1 "com/example/treellis/treellis/cfa/StructType" "members" "Ljava/util/List;" (.ref a2)) :
    MetFree l (⟨"com/example/treellis/treellis/cfa/StructType", "members", "()Ljava/util/List;"⟩ : MethodName) (head1 (Jvm.Cond.code (⟨"com/example/treellis/treellis/cfa/StructType", "members", "()Ljava/util/List;"⟩ : MethodName) prog_52_method_5_code 1 (some (.object "java/util/List")) :: ws) ({ frames := 0, cells := 0, slots := 0, locals := 0 } : Room)) (fun a U => a = #[(.ref a1)] ∧ Z.Warmed39 U.vm ∧ U.heap = h0) (fun _ _ _ _ _ => True) (fun _ U o U' => ∃ rv rL, o = .returned rv ∧ Q_rm_mbR Z h0 n0 a2 rv U'.heap rL ∧ FrameEnd U o U' rL ({ frames := 0, cells := 0, slots := 0, locals := 0 } : Room).cells ({ frames := 0, cells := 0, slots := 0, locals := 0 } : Room).slots) := by
  refine own_met (y := (⟨"com/example/treellis/treellis/cfa/StructType", "members", "()Ljava/util/List;"⟩ : MethodName)) (Q := Q_rm_mbR Z h0 n0 a2) (own := "com/example/treellis/treellis/cfa/StructType") rfl (plainFor_of_name pn_4) ?_
  intro p e s m below meth c s₁ C e0 X0
  obtain ⟨hx, hby, hml, hown, hnm, hret, hlk, hZ⟩ := C
  have N0 := Fr.nil n0
  rw [ef_4]
  show own_Goes _ _ _ _ _ _ _ s₁ (mkF m 0 #[.val (.ref a1)] [])
  refine own_go (fun _ k => XS.aloadN X0.here hx rfl (hb hby d4_0) rfl rfl k) ?_
  show own_Goes _ _ _ _ _ _ _ s₁ (mkF m 1 #[.val (.ref a1)] [(.ref a1)])
  obtain ⟨T1, X1, e1, st1⟩ := getF X0 hx hZ hown (host := "") (Or.inl (hw _ (List.mem_of_getElem? (i := 21) rfl))) Via.refl e0 F (g := (mkF m 1 #[.val (.ref a1)] [(.ref a1)])) rfl rfl (hb hby d4_1)
  refine own_go st1 ?_
  show own_Goes _ _ _ _ _ _ _ T1 (mkF m 4 #[.val (.ref a1)] [(.ref a2)])
  exact own_retA X1 hx hlk hret rfl rfl (hb hby d4_4) (by decide) (by decide) (by rw [e1]; exact ⟨rfl, N0, rfl⟩)
def Q_rm_siN (Z : State) (h0 : Heap) (n0 : Nat) (a1 : Addr) (v : Option Value) (h : Heap) (L : List Loc) : Prop := v = none ∧ Fr n0 L ∧ Keep h0 h [a1] ∧ Fld Z h a1 "com/example/treellis/treellis/cfa/StructType" "members" "Ljava/util/List;" .null ∧ Fld Z h a1 "com/example/treellis/treellis/cfa/StructType" "packing" "I" (.int (0 : Int32)) ∧ Fld Z h a1 "com/example/treellis/treellis/cfa/StructType" "alignment" "I" (.int (0 : Int32))
set_option maxRecDepth 65536 in
set_option maxHeartbeats 40000000 in
theorem rm_siN (l : Launch) (Z : State) (a0 : Array Value) (hw : ∀ d ∈ tables_1, d.before a0 Z = true) (ws : List Jvm.Cond) (a1 a2 a3 : Addr) (h0 : Heap) (n0 : Nat) (Z0 : n0 ≤ h0.size) (E_a1 : Exa Z h0 a1 "com/example/treellis/treellis/cfa/StructType") (F_kind : Fld Z h0 a1 "com/example/treellis/treellis/cfa/StructType" "kind" "Lcom/example/treellis/treellis/cfa/StructType$Kind;" .null) (F_tag : Fld Z h0 a1 "com/example/treellis/treellis/cfa/StructType" "tag" "Ljava/lang/String;" .null) (F_members : Fld Z h0 a1 "com/example/treellis/treellis/cfa/StructType" "members" "Ljava/util/List;" .null) (F_packing : Fld Z h0 a1 "com/example/treellis/treellis/cfa/StructType" "packing" "I" (.int (0 : Int32))) (F_alignment : Fld Z h0 a1 "com/example/treellis/treellis/cfa/StructType" "alignment" "I" (.int (0 : Int32))) (lo_a1 : n0 ≤ a1) :
    MetFree l (⟨"com/example/treellis/treellis/cfa/StructType", "<init>", "(Lcom/example/treellis/treellis/cfa/StructType$Kind;Ljava/lang/String;)V"⟩ : MethodName) (head1 (Jvm.Cond.code (⟨"com/example/treellis/treellis/cfa/StructType", "<init>", "(Lcom/example/treellis/treellis/cfa/StructType$Kind;Ljava/lang/String;)V"⟩ : MethodName) prog_52_method_1_code 3 none :: ws) ({ frames := 1, cells := 0, slots := 0, locals := 12 } : Room)) (fun a U => a = #[(.ref a1), (.ref a2), .null] ∧ Z.Warmed39 U.vm ∧ U.heap = h0) (fun _ _ _ _ _ => True) (fun _ U o U' => ∃ rv rL, o = .returned rv ∧ Q_rm_siN Z h0 n0 a1 rv U'.heap rL ∧ FrameEnd U o U' rL ({ frames := 1, cells := 0, slots := 0, locals := 12 } : Room).cells ({ frames := 1, cells := 0, slots := 0, locals := 12 } : Room).slots) := by
  refine own_met (y := (⟨"com/example/treellis/treellis/cfa/StructType", "<init>", "(Lcom/example/treellis/treellis/cfa/StructType$Kind;Ljava/lang/String;)V"⟩ : MethodName)) (Q := Q_rm_siN Z h0 n0 a1) (own := "com/example/treellis/treellis/cfa/StructType") rfl (plainFor_of_name pn_1) ?_
  intro p e s m below meth c s₁ C e0 X0
  obtain ⟨hx, hby, hml, hown, hnm, hret, hlk, hZ⟩ := C
  have N0 := Fr.nil n0
  rw [ef_rm_siN]
  have Kp0 : Keep h0 h0 [a1] := Keep.refl h0 _
  show own_Goes _ _ _ _ _ _ _ s₁ (mkF m 0 #[.val (.ref a1), .val (.ref a2), .val .null] [])
  refine own_go (fun _ k => XS.aloadN X0.here hx rfl (hb hby d1_0) rfl rfl k) ?_
  show own_Goes _ _ _ _ _ _ _ s₁ (mkF m 1 #[.val (.ref a1), .val (.ref a2), .val .null] [(.ref a1)])
  obtain ⟨T1, X1, e1, st1⟩ := initO X0 hx hZ hown (hw _ (List.mem_of_getElem? (i := 9) rfl)) (hw _ (List.mem_of_getElem? (i := 10) rfl)) (hw _ (List.mem_of_getElem? (i := 11) rfl)) e0 (g := (mkF m 1 #[.val (.ref a1), .val (.ref a2), .val .null] [(.ref a1)])) rfl (by rw [hml]; rfl) rfl (hb hby d1_1) (by decide) (W := 0) (by show 2 * 0 + _ ≤ _; exact Nat.le_of_eq rfl) (by decide)
  refine own_go st1 ?_
  show own_Goes _ _ _ _ _ _ _ T1 (mkF m 4 #[.val (.ref a1), .val (.ref a2), .val .null] [])
  refine own_go (fun _ k => XS.aloadN X1.here hx rfl (hb hby d1_4) rfl rfl k) ?_
  show own_Goes _ _ _ _ _ _ _ T1 (mkF m 5 #[.val (.ref a1), .val (.ref a2), .val .null] [(.ref a1)])
  refine own_go (fun _ k => XS.aloadN X1.here hx rfl (hb hby d1_5) rfl rfl k) ?_
  show own_Goes _ _ _ _ _ _ _ T1 (mkF m 6 #[.val (.ref a1), .val (.ref a2), .val .null] [(.ref a2), (.ref a1)])
  obtain ⟨T2, h2, X2, e2, W2, st2⟩ := putF X1 hx hZ hown (host := "") (Or.inl (hw _ (List.mem_of_getElem? (i := 12) rfl))) Via.refl e1 F_kind E_a1 (Or.inr ⟨(hw _ (List.mem_of_getElem? (i := 13) rfl)), rfl, hnm⟩) (hw _ (List.mem_of_getElem? (i := 4) rfl)) (ty := (.object "com/example/treellis/treellis/cfa/StructType$Kind")) (by decide) rfl rfl (g := (mkF m 6 #[.val (.ref a1), .val (.ref a2), .val .null] [(.ref a2), (.ref a1)])) rfl rfl (hb hby d1_6)
  have F_kind_2 : Fld Z h2 a1 "com/example/treellis/treellis/cfa/StructType" "kind" "Lcom/example/treellis/treellis/cfa/StructType$Kind;" (.ref a2) := F_kind.same W2
  have N2 := Fr.snoc X2 N0 lo_a1
  have E_a1_2 : Exa Z h2 a1 "com/example/treellis/treellis/cfa/StructType" := E_a1.wr W2
  have F_tag_2 : Fld Z h2 a1 "com/example/treellis/treellis/cfa/StructType" "tag" "Ljava/lang/String;" .null := F_tag.other W2 (Or.inr (slot_ne (Or.inr (hw _ (List.mem_of_getElem? (i := 15) rfl))) (Or.inr (hw _ (List.mem_of_getElem? (i := 13) rfl))) (by decide) (t := (.object "java/lang/String")) (t' := (.object "com/example/treellis/treellis/cfa/StructType$Kind")) (by decide) (by decide)))
  have F_members_2 : Fld Z h2 a1 "com/example/treellis/treellis/cfa/StructType" "members" "Ljava/util/List;" .null := F_members.other W2 (Or.inr (slot_ne (Or.inl (hw _ (List.mem_of_getElem? (i := 22) rfl))) (Or.inr (hw _ (List.mem_of_getElem? (i := 13) rfl))) (by decide) (t := (.object "java/util/List")) (t' := (.object "com/example/treellis/treellis/cfa/StructType$Kind")) (by decide) (by decide)))
  have F_packing_2 : Fld Z h2 a1 "com/example/treellis/treellis/cfa/StructType" "packing" "I" (.int (0 : Int32)) := F_packing.other W2 (Or.inr (slot_ne (Or.inl (hw _ (List.mem_of_getElem? (i := 189) rfl))) (Or.inr (hw _ (List.mem_of_getElem? (i := 13) rfl))) (by decide) (t := .int) (t' := (.object "com/example/treellis/treellis/cfa/StructType$Kind")) (by decide) (by decide)))
  have F_alignment_2 : Fld Z h2 a1 "com/example/treellis/treellis/cfa/StructType" "alignment" "I" (.int (0 : Int32)) := F_alignment.other W2 (Or.inr (slot_ne (Or.inl (hw _ (List.mem_of_getElem? (i := 191) rfl))) (Or.inr (hw _ (List.mem_of_getElem? (i := 13) rfl))) (by decide) (t := .int) (t' := (.object "com/example/treellis/treellis/cfa/StructType$Kind")) (by decide) (by decide)))
  have Zs2 : n0 ≤ h2.size := Nat.le_trans Z0 (Keep.of_wr W2).1
  have Kp2 : Keep h0 h2 [a1] := Kp0.wr W2 (Or.inl (by simp))
  refine own_go st2 ?_
  show own_Goes _ _ _ _ _ _ _ T2 (mkF m 9 #[.val (.ref a1), .val (.ref a2), .val .null] [])
  refine own_go (fun _ k => XS.aloadN X2.here hx rfl (hb hby d1_9) rfl rfl k) ?_
  show own_Goes _ _ _ _ _ _ _ T2 (mkF m 10 #[.val (.ref a1), .val (.ref a2), .val .null] [(.ref a1)])
  refine own_go (fun _ k => XS.aloadN X2.here hx rfl (hb hby d1_10) rfl rfl k) ?_
  show own_Goes _ _ _ _ _ _ _ T2 (mkF m 11 #[.val (.ref a1), .val (.ref a2), .val .null] [.null, (.ref a1)])
  obtain ⟨T3, h3, X3, e3, W3, st3⟩ := putF X2 hx hZ hown (host := "") (Or.inl (hw _ (List.mem_of_getElem? (i := 14) rfl))) Via.refl e2 F_tag_2 E_a1_2 (Or.inr ⟨(hw _ (List.mem_of_getElem? (i := 15) rfl)), rfl, hnm⟩) (hw _ (List.mem_of_getElem? (i := 4) rfl)) (ty := (.object "java/lang/String")) (by decide) rfl rfl (g := (mkF m 11 #[.val (.ref a1), .val (.ref a2), .val .null] [.null, (.ref a1)])) rfl rfl (hb hby d1_11)
  have F_tag_3 : Fld Z h3 a1 "com/example/treellis/treellis/cfa/StructType" "tag" "Ljava/lang/String;" .null := F_tag_2.same W3
  have N3 := Fr.snoc X3 N2 lo_a1
  have E_a1_3 : Exa Z h3 a1 "com/example/treellis/treellis/cfa/StructType" := E_a1_2.wr W3
  have F_members_3 : Fld Z h3 a1 "com/example/treellis/treellis/cfa/StructType" "members" "Ljava/util/List;" .null := F_members_2.other W3 (Or.inr (slot_ne (Or.inl (hw _ (List.mem_of_getElem? (i := 22) rfl))) (Or.inr (hw _ (List.mem_of_getElem? (i := 15) rfl))) (by decide) (t := (.object "java/util/List")) (t' := (.object "java/lang/String")) (by decide) (by decide)))
  have F_packing_3 : Fld Z h3 a1 "com/example/treellis/treellis/cfa/StructType" "packing" "I" (.int (0 : Int32)) := F_packing_2.other W3 (Or.inr (slot_ne (Or.inl (hw _ (List.mem_of_getElem? (i := 189) rfl))) (Or.inr (hw _ (List.mem_of_getElem? (i := 15) rfl))) (by decide) (t := .int) (t' := (.object "java/lang/String")) (by decide) (by decide)))
  have F_alignment_3 : Fld Z h3 a1 "com/example/treellis/treellis/cfa/StructType" "alignment" "I" (.int (0 : Int32)) := F_alignment_2.other W3 (Or.inr (slot_ne (Or.inl (hw _ (List.mem_of_getElem? (i := 191) rfl))) (Or.inr (hw _ (List.mem_of_getElem? (i := 15) rfl))) (by decide) (t := .int) (t' := (.object "java/lang/String")) (by decide) (by decide)))
  have F_kind_3 : Fld Z h3 a1 "com/example/treellis/treellis/cfa/StructType" "kind" "Lcom/example/treellis/treellis/cfa/StructType$Kind;" (.ref a2) := F_kind_2.other W3 (Or.inr (slot_ne (Or.inr (hw _ (List.mem_of_getElem? (i := 13) rfl))) (Or.inr (hw _ (List.mem_of_getElem? (i := 15) rfl))) (by decide) (t := (.object "com/example/treellis/treellis/cfa/StructType$Kind")) (t' := (.object "java/lang/String")) (by decide) (by decide)))
  have Zs3 : n0 ≤ h3.size := Nat.le_trans Zs2 (Keep.of_wr W3).1
  have Kp3 : Keep h0 h3 [a1] := Kp2.wr W3 (Or.inl (by simp))
  refine own_go st3 ?_
  show own_Goes _ _ _ _ _ _ _ T3 (mkF m 14 #[.val (.ref a1), .val (.ref a2), .val .null] [])
  exact own_retV X3 hx hlk hret (hb hby d1_14) (by decide) (by decide) (by rw [e3]; exact ⟨rfl, N3, Kp3, F_members_3, F_packing_3, F_alignment_3⟩)
def Q_rm_siR (Z : State) (h0 : Heap) (n0 : Nat) (a1 : Addr) (v : Option Value) (h : Heap) (L : List Loc) : Prop := v = none ∧ Fr n0 L ∧ Keep h0 h [a1] ∧ Fld Z h a1 "com/example/treellis/treellis/cfa/StructType" "members" "Ljava/util/List;" .null ∧ Fld Z h a1 "com/example/treellis/treellis/cfa/StructType" "packing" "I" (.int (0 : Int32)) ∧ Fld Z h a1 "com/example/treellis/treellis/cfa/StructType" "alignment" "I" (.int (0 : Int32))
set_option maxRecDepth 65536 in
set_option maxHeartbeats 40000000 in
theorem rm_siR (l : Launch) (Z : State) (a0 : Array Value) (hw : ∀ d ∈ tables_1, d.before a0 Z = true) (ws : List Jvm.Cond) (a1 a2 a3 : Addr) (h0 : Heap) (n0 : Nat) (Z0 : n0 ≤ h0.size) (E_a1 : Exa Z h0 a1 "com/example/treellis/treellis/cfa/StructType") (F_kind : Fld Z h0 a1 "com/example/treellis/treellis/cfa/StructType" "kind" "Lcom/example/treellis/treellis/cfa/StructType$Kind;" .null) (F_tag : Fld Z h0 a1 "com/example/treellis/treellis/cfa/StructType" "tag" "Ljava/lang/String;" .null) (F_members : Fld Z h0 a1 "com/example/treellis/treellis/cfa/StructType" "members" "Ljava/util/List;" .null) (F_packing : Fld Z h0 a1 "com/example/treellis/treellis/cfa/StructType" "packing" "I" (.int (0 : Int32))) (F_alignment : Fld Z h0 a1 "com/example/treellis/treellis/cfa/StructType" "alignment" "I" (.int (0 : Int32))) (lo_a1 : n0 ≤ a1) :
    MetFree l (⟨"com/example/treellis/treellis/cfa/StructType", "<init>", "(Lcom/example/treellis/treellis/cfa/StructType$Kind;Ljava/lang/String;)V"⟩ : MethodName) (head1 (Jvm.Cond.code (⟨"com/example/treellis/treellis/cfa/StructType", "<init>", "(Lcom/example/treellis/treellis/cfa/StructType$Kind;Ljava/lang/String;)V"⟩ : MethodName) prog_52_method_1_code 3 none :: ws) ({ frames := 1, cells := 0, slots := 0, locals := 12 } : Room)) (fun a U => a = #[(.ref a1), (.ref a2), (.ref a3)] ∧ Z.Warmed39 U.vm ∧ U.heap = h0) (fun _ _ _ _ _ => True) (fun _ U o U' => ∃ rv rL, o = .returned rv ∧ Q_rm_siR Z h0 n0 a1 rv U'.heap rL ∧ FrameEnd U o U' rL ({ frames := 1, cells := 0, slots := 0, locals := 12 } : Room).cells ({ frames := 1, cells := 0, slots := 0, locals := 12 } : Room).slots) := by
  refine own_met (y := (⟨"com/example/treellis/treellis/cfa/StructType", "<init>", "(Lcom/example/treellis/treellis/cfa/StructType$Kind;Ljava/lang/String;)V"⟩ : MethodName)) (Q := Q_rm_siR Z h0 n0 a1) (own := "com/example/treellis/treellis/cfa/StructType") rfl (plainFor_of_name pn_1) ?_
  intro p e s m below meth c s₁ C e0 X0
  obtain ⟨hx, hby, hml, hown, hnm, hret, hlk, hZ⟩ := C
  have N0 := Fr.nil n0
  rw [ef_1]
  have Kp0 : Keep h0 h0 [a1] := Keep.refl h0 _
  show own_Goes _ _ _ _ _ _ _ s₁ (mkF m 0 #[.val (.ref a1), .val (.ref a2), .val (.ref a3)] [])
  refine own_go (fun _ k => XS.aloadN X0.here hx rfl (hb hby d1_0) rfl rfl k) ?_
  show own_Goes _ _ _ _ _ _ _ s₁ (mkF m 1 #[.val (.ref a1), .val (.ref a2), .val (.ref a3)] [(.ref a1)])
  obtain ⟨T1, X1, e1, st1⟩ := initO X0 hx hZ hown (hw _ (List.mem_of_getElem? (i := 9) rfl)) (hw _ (List.mem_of_getElem? (i := 10) rfl)) (hw _ (List.mem_of_getElem? (i := 11) rfl)) e0 (g := (mkF m 1 #[.val (.ref a1), .val (.ref a2), .val (.ref a3)] [(.ref a1)])) rfl (by rw [hml]; rfl) rfl (hb hby d1_1) (by decide) (W := 0) (by show 2 * 0 + _ ≤ _; exact Nat.le_of_eq rfl) (by decide)
  refine own_go st1 ?_
  show own_Goes _ _ _ _ _ _ _ T1 (mkF m 4 #[.val (.ref a1), .val (.ref a2), .val (.ref a3)] [])
  refine own_go (fun _ k => XS.aloadN X1.here hx rfl (hb hby d1_4) rfl rfl k) ?_
  show own_Goes _ _ _ _ _ _ _ T1 (mkF m 5 #[.val (.ref a1), .val (.ref a2), .val (.ref a3)] [(.ref a1)])
  refine own_go (fun _ k => XS.aloadN X1.here hx rfl (hb hby d1_5) rfl rfl k) ?_
  show own_Goes _ _ _ _ _ _ _ T1 (mkF m 6 #[.val (.ref a1), .val (.ref a2), .val (.ref a3)] [(.ref a2), (.ref a1)])
  obtain ⟨T2, h2, X2, e2, W2, st2⟩ := putF X1 hx hZ hown (host := "") (Or.inl (hw _ (List.mem_of_getElem? (i := 12) rfl))) Via.refl e1 F_kind E_a1 (Or.inr ⟨(hw _ (List.mem_of_getElem? (i := 13) rfl)), rfl, hnm⟩) (hw _ (List.mem_of_getElem? (i := 4) rfl)) (ty := (.object "com/example/treellis/treellis/cfa/StructType$Kind")) (by decide) rfl rfl (g := (mkF m 6 #[.val (.ref a1), .val (.ref a2), .val (.ref a3)] [(.ref a2), (.ref a1)])) rfl rfl (hb hby d1_6)
  have F_kind_2 : Fld Z h2 a1 "com/example/treellis/treellis/cfa/StructType" "kind" "Lcom/example/treellis/treellis/cfa/StructType$Kind;" (.ref a2) := F_kind.same W2
  have N2 := Fr.snoc X2 N0 lo_a1
  have E_a1_2 : Exa Z h2 a1 "com/example/treellis/treellis/cfa/StructType" := E_a1.wr W2
  have F_tag_2 : Fld Z h2 a1 "com/example/treellis/treellis/cfa/StructType" "tag" "Ljava/lang/String;" .null := F_tag.other W2 (Or.inr (slot_ne (Or.inr (hw _ (List.mem_of_getElem? (i := 15) rfl))) (Or.inr (hw _ (List.mem_of_getElem? (i := 13) rfl))) (by decide) (t := (.object "java/lang/String")) (t' := (.object "com/example/treellis/treellis/cfa/StructType$Kind")) (by decide) (by decide)))
  have F_members_2 : Fld Z h2 a1 "com/example/treellis/treellis/cfa/StructType" "members" "Ljava/util/List;" .null := F_members.other W2 (Or.inr (slot_ne (Or.inl (hw _ (List.mem_of_getElem? (i := 22) rfl))) (Or.inr (hw _ (List.mem_of_getElem? (i := 13) rfl))) (by decide) (t := (.object "java/util/List")) (t' := (.object "com/example/treellis/treellis/cfa/StructType$Kind")) (by decide) (by decide)))
  have F_packing_2 : Fld Z h2 a1 "com/example/treellis/treellis/cfa/StructType" "packing" "I" (.int (0 : Int32)) := F_packing.other W2 (Or.inr (slot_ne (Or.inl (hw _ (List.mem_of_getElem? (i := 189) rfl))) (Or.inr (hw _ (List.mem_of_getElem? (i := 13) rfl))) (by decide) (t := .int) (t' := (.object "com/example/treellis/treellis/cfa/StructType$Kind")) (by decide) (by decide)))
  have F_alignment_2 : Fld Z h2 a1 "com/example/treellis/treellis/cfa/StructType" "alignment" "I" (.int (0 : Int32)) := F_alignment.other W2 (Or.inr (slot_ne (Or.inl (hw _ (List.mem_of_getElem? (i := 191) rfl))) (Or.inr (hw _ (List.mem_of_getElem? (i := 13) rfl))) (by decide) (t := .int) (t' := (.object "com/example/treellis/treellis/cfa/StructType$Kind")) (by decide) (by decide)))
  have Zs2 : n0 ≤ h2.size := Nat.le_trans Z0 (Keep.of_wr W2).1
  have Kp2 : Keep h0 h2 [a1] := Kp0.wr W2 (Or.inl (by simp))
  refine own_go st2 ?_
  show own_Goes _ _ _ _ _ _ _ T2 (mkF m 9 #[.val (.ref a1), .val (.ref a2), .val (.ref a3)] [])
  refine own_go (fun _ k => XS.aloadN X2.here hx rfl (hb hby d1_9) rfl rfl k) ?_
  show own_Goes _ _ _ _ _ _ _ T2 (mkF m 10 #[.val (.ref a1), .val (.ref a2), .val (.ref a3)] [(.ref a1)])
  refine own_go (fun _ k => XS.aloadN X2.here hx rfl (hb hby d1_10) rfl rfl k) ?_
  show own_Goes _ _ _ _ _ _ _ T2 (mkF m 11 #[.val (.ref a1), .val (.ref a2), .val (.ref a3)] [(.ref a3), (.ref a1)])
  obtain ⟨T3, h3, X3, e3, W3, st3⟩ := putF X2 hx hZ hown (host := "") (Or.inl (hw _ (List.mem_of_getElem? (i := 14) rfl))) Via.refl e2 F_tag_2 E_a1_2 (Or.inr ⟨(hw _ (List.mem_of_getElem? (i := 15) rfl)), rfl, hnm⟩) (hw _ (List.mem_of_getElem? (i := 4) rfl)) (ty := (.object "java/lang/String")) (by decide) rfl rfl (g := (mkF m 11 #[.val (.ref a1), .val (.ref a2), .val (.ref a3)] [(.ref a3), (.ref a1)])) rfl rfl (hb hby d1_11)
  have F_tag_3 : Fld Z h3 a1 "com/example/treellis/treellis/cfa/StructType" "tag" "Ljava/lang/String;" (.ref a3) := F_tag_2.same W3
  have N3 := Fr.snoc X3 N2 lo_a1
  have E_a1_3 : Exa Z h3 a1 "com/example/treellis/treellis/cfa/StructType" := E_a1_2.wr W3
  have F_members_3 : Fld Z h3 a1 "com/example/treellis/treellis/cfa/StructType" "members" "Ljava/util/List;" .null := F_members_2.other W3 (Or.inr (slot_ne (Or.inl (hw _ (List.mem_of_getElem? (i := 22) rfl))) (Or.inr (hw _ (List.mem_of_getElem? (i := 15) rfl))) (by decide) (t := (.object "java/util/List")) (t' := (.object "java/lang/String")) (by decide) (by decide)))
  have F_packing_3 : Fld Z h3 a1 "com/example/treellis/treellis/cfa/StructType" "packing" "I" (.int (0 : Int32)) := F_packing_2.other W3 (Or.inr (slot_ne (Or.inl (hw _ (List.mem_of_getElem? (i := 189) rfl))) (Or.inr (hw _ (List.mem_of_getElem? (i := 15) rfl))) (by decide) (t := .int) (t' := (.object "java/lang/String")) (by decide) (by decide)))
  have F_alignment_3 : Fld Z h3 a1 "com/example/treellis/treellis/cfa/StructType" "alignment" "I" (.int (0 : Int32)) := F_alignment_2.other W3 (Or.inr (slot_ne (Or.inl (hw _ (List.mem_of_getElem? (i := 191) rfl))) (Or.inr (hw _ (List.mem_of_getElem? (i := 15) rfl))) (by decide) (t := .int) (t' := (.object "java/lang/String")) (by decide) (by decide)))
  have F_kind_3 : Fld Z h3 a1 "com/example/treellis/treellis/cfa/StructType" "kind" "Lcom/example/treellis/treellis/cfa/StructType$Kind;" (.ref a2) := F_kind_2.other W3 (Or.inr (slot_ne (Or.inr (hw _ (List.mem_of_getElem? (i := 13) rfl))) (Or.inr (hw _ (List.mem_of_getElem? (i := 15) rfl))) (by decide) (t := (.object "com/example/treellis/treellis/cfa/StructType$Kind")) (t' := (.object "java/lang/String")) (by decide) (by decide)))
  have Zs3 : n0 ≤ h3.size := Nat.le_trans Zs2 (Keep.of_wr W3).1
  have Kp3 : Keep h0 h3 [a1] := Kp2.wr W3 (Or.inl (by simp))
  refine own_go st3 ?_
  show own_Goes _ _ _ _ _ _ _ T3 (mkF m 14 #[.val (.ref a1), .val (.ref a2), .val (.ref a3)] [])
  exact own_retV X3 hx hlk hret (hb hby d1_14) (by decide) (by decide) (by rw [e3]; exact ⟨rfl, N3, Kp3, F_members_3, F_packing_3, F_alignment_3⟩)
def Q_rm_mi (Z : State) (h0 : Heap) (n0 : Nat) (a1 : Addr) (v : Option Value) (h : Heap) (L : List Loc) : Prop := v = none ∧ Fr n0 L ∧ Keep h0 h [a1]
set_option maxRecDepth 65536 in
set_option maxHeartbeats 40000000 in
theorem rm_mi (l : Launch) (Z : State) (a0 : Array Value) (hw : ∀ d ∈ tables_1, d.before a0 Z = true) (ws : List Jvm.Cond) (a1 a2 : Addr) (h0 : Heap) (n0 : Nat) (Z0 : n0 ≤ h0.size) (E_a1 : Exa Z h0 a1 "com/example/treellis/treellis/cfa/StructType$Member") (F_name : Fld Z h0 a1 "com/example/treellis/treellis/cfa/StructType$Member" "name" "Ljava/lang/String;" .null) (F_type : Fld Z h0 a1 "com/example/treellis/treellis/cfa/StructType$Member" "type" "Lcom/example/treellis/treellis/cfa/Type;" .null) (F_bitWidth : Fld Z h0 a1 "com/example/treellis/treellis/cfa/StructType$Member" "bitWidth" "Ljava/lang/Integer;" .null) (F_alignment : Fld Z h0 a1 "com/example/treellis/treellis/cfa/StructType$Member" "alignment" "I" (.int (0 : Int32))) (lo_a1 : n0 ≤ a1) :
    MetFree l (⟨"com/example/treellis/treellis/cfa/StructType$Member", "<init>", "(Ljava/lang/String;Lcom/example/treellis/treellis/cfa/Type;Ljava/lang/Integer;I)V"⟩ : MethodName) (head1 (Jvm.Cond.code (⟨"com/example/treellis/treellis/cfa/StructType$Member", "<init>", "(Ljava/lang/String;Lcom/example/treellis/treellis/cfa/Type;Ljava/lang/Integer;I)V"⟩ : MethodName) prog_54_method_1_code 5 none :: ws) ({ frames := 1, cells := 0, slots := 0, locals := 12 } : Room)) (fun a U => a = #[(.ref a1), .null, (.ref a2), .null, (.int (0 : Int32))] ∧ Z.Warmed39 U.vm ∧ U.heap = h0) (fun _ _ _ _ _ => True) (fun _ U o U' => ∃ rv rL, o = .returned rv ∧ Q_rm_mi Z h0 n0 a1 rv U'.heap rL ∧ FrameEnd U o U' rL ({ frames := 1, cells := 0, slots := 0, locals := 12 } : Room).cells ({ frames := 1, cells := 0, slots := 0, locals := 12 } : Room).slots) := by
  refine own_met (y := (⟨"com/example/treellis/treellis/cfa/StructType$Member", "<init>", "(Ljava/lang/String;Lcom/example/treellis/treellis/cfa/Type;Ljava/lang/Integer;I)V"⟩ : MethodName)) (Q := Q_rm_mi Z h0 n0 a1) (own := "com/example/treellis/treellis/cfa/StructType$Member") rfl (plainFor_of_name pn_5) ?_
  intro p e s m below meth c s₁ C e0 X0
  obtain ⟨hx, hby, hml, hown, hnm, hret, hlk, hZ⟩ := C
  have N0 := Fr.nil n0
  rw [ef_rm_mi]
  have Kp0 : Keep h0 h0 [a1] := Keep.refl h0 _
  show own_Goes _ _ _ _ _ _ _ s₁ (mkF m 0 #[.val (.ref a1), .val .null, .val (.ref a2), .val .null, .val (.int (0 : Int32))] [])
  refine own_go (fun _ k => XS.aloadN X0.here hx rfl (hb hby d5_0) rfl rfl k) ?_
  show own_Goes _ _ _ _ _ _ _ s₁ (mkF m 1 #[.val (.ref a1), .val .null, .val (.ref a2), .val .null, .val (.int (0 : Int32))] [(.ref a1)])
  obtain ⟨T1, X1, e1, st1⟩ := initO X0 hx hZ hown (hw _ (List.mem_of_getElem? (i := 34) rfl)) (hw _ (List.mem_of_getElem? (i := 10) rfl)) (hw _ (List.mem_of_getElem? (i := 11) rfl)) e0 (g := (mkF m 1 #[.val (.ref a1), .val .null, .val (.ref a2), .val .null, .val (.int (0 : Int32))] [(.ref a1)])) rfl (by rw [hml]; rfl) rfl (hb hby d5_1) (by decide) (W := 0) (by show 2 * 0 + _ ≤ _; exact Nat.le_of_eq rfl) (by decide)
  refine own_go st1 ?_
  show own_Goes _ _ _ _ _ _ _ T1 (mkF m 4 #[.val (.ref a1), .val .null, .val (.ref a2), .val .null, .val (.int (0 : Int32))] [])
  refine own_go (fun _ k => XS.aloadN X1.here hx rfl (hb hby d5_4) rfl rfl k) ?_
  show own_Goes _ _ _ _ _ _ _ T1 (mkF m 5 #[.val (.ref a1), .val .null, .val (.ref a2), .val .null, .val (.int (0 : Int32))] [(.ref a1)])
  refine own_go (fun _ k => XS.aloadN X1.here hx rfl (hb hby d5_5) rfl rfl k) ?_
  show own_Goes _ _ _ _ _ _ _ T1 (mkF m 6 #[.val (.ref a1), .val .null, .val (.ref a2), .val .null, .val (.int (0 : Int32))] [.null, (.ref a1)])
  obtain ⟨T2, h2, X2, e2, W2, st2⟩ := putF X1 hx hZ hown (host := "") (Or.inl (hw _ (List.mem_of_getElem? (i := 35) rfl))) Via.refl e1 F_name E_a1 (Or.inr ⟨(hw _ (List.mem_of_getElem? (i := 36) rfl)), rfl, hnm⟩) (hw _ (List.mem_of_getElem? (i := 29) rfl)) (ty := (.object "java/lang/String")) (by decide) rfl rfl (g := (mkF m 6 #[.val (.ref a1), .val .null, .val (.ref a2), .val .null, .val (.int (0 : Int32))] [.null, (.ref a1)])) rfl rfl (hb hby d5_6)
  have F_name_2 : Fld Z h2 a1 "com/example/treellis/treellis/cfa/StructType$Member" "name" "Ljava/lang/String;" .null := F_name.same W2
  have N2 := Fr.snoc X2 N0 lo_a1
  have E_a1_2 : Exa Z h2 a1 "com/example/treellis/treellis/cfa/StructType$Member" := E_a1.wr W2
  have F_type_2 : Fld Z h2 a1 "com/example/treellis/treellis/cfa/StructType$Member" "type" "Lcom/example/treellis/treellis/cfa/Type;" .null := F_type.other W2 (Or.inr (slot_ne (Or.inr (hw _ (List.mem_of_getElem? (i := 38) rfl))) (Or.inr (hw _ (List.mem_of_getElem? (i := 36) rfl))) (by decide) (t := (.object "com/example/treellis/treellis/cfa/Type")) (t' := (.object "java/lang/String")) (by decide) (by decide)))
  have F_bitWidth_2 : Fld Z h2 a1 "com/example/treellis/treellis/cfa/StructType$Member" "bitWidth" "Ljava/lang/Integer;" .null := F_bitWidth.other W2 (Or.inr (slot_ne (Or.inr (hw _ (List.mem_of_getElem? (i := 40) rfl))) (Or.inr (hw _ (List.mem_of_getElem? (i := 36) rfl))) (by decide) (t := (.object "java/lang/Integer")) (t' := (.object "java/lang/String")) (by decide) (by decide)))
  have F_alignment_2 : Fld Z h2 a1 "com/example/treellis/treellis/cfa/StructType$Member" "alignment" "I" (.int (0 : Int32)) := F_alignment.other W2 (Or.inr (slot_ne (Or.inr (hw _ (List.mem_of_getElem? (i := 42) rfl))) (Or.inr (hw _ (List.mem_of_getElem? (i := 36) rfl))) (by decide) (t := .int) (t' := (.object "java/lang/String")) (by decide) (by decide)))
  have Zs2 : n0 ≤ h2.size := Nat.le_trans Z0 (Keep.of_wr W2).1
  have Kp2 : Keep h0 h2 [a1] := Kp0.wr W2 (Or.inl (by simp))
  refine own_go st2 ?_
  show own_Goes _ _ _ _ _ _ _ T2 (mkF m 9 #[.val (.ref a1), .val .null, .val (.ref a2), .val .null, .val (.int (0 : Int32))] [])
  refine own_go (fun _ k => XS.aloadN X2.here hx rfl (hb hby d5_9) rfl rfl k) ?_
  show own_Goes _ _ _ _ _ _ _ T2 (mkF m 10 #[.val (.ref a1), .val .null, .val (.ref a2), .val .null, .val (.int (0 : Int32))] [(.ref a1)])
  refine own_go (fun _ k => XS.aloadN X2.here hx rfl (hb hby d5_10) rfl rfl k) ?_
  show own_Goes _ _ _ _ _ _ _ T2 (mkF m 11 #[.val (.ref a1), .val .null, .val (.ref a2), .val .null, .val (.int (0 : Int32))] [(.ref a2), (.ref a1)])
  obtain ⟨T3, h3, X3, e3, W3, st3⟩ := putF X2 hx hZ hown (host := "") (Or.inl (hw _ (List.mem_of_getElem? (i := 37) rfl))) Via.refl e2 F_type_2 E_a1_2 (Or.inr ⟨(hw _ (List.mem_of_getElem? (i := 38) rfl)), rfl, hnm⟩) (hw _ (List.mem_of_getElem? (i := 29) rfl)) (ty := (.object "com/example/treellis/treellis/cfa/Type")) (by decide) rfl rfl (g := (mkF m 11 #[.val (.ref a1), .val .null, .val (.ref a2), .val .null, .val (.int (0 : Int32))] [(.ref a2), (.ref a1)])) rfl rfl (hb hby d5_11)
  have F_type_3 : Fld Z h3 a1 "com/example/treellis/treellis/cfa/StructType$Member" "type" "Lcom/example/treellis/treellis/cfa/Type;" (.ref a2) := F_type_2.same W3
  have N3 := Fr.snoc X3 N2 lo_a1
  have E_a1_3 : Exa Z h3 a1 "com/example/treellis/treellis/cfa/StructType$Member" := E_a1_2.wr W3
  have F_bitWidth_3 : Fld Z h3 a1 "com/example/treellis/treellis/cfa/StructType$Member" "bitWidth" "Ljava/lang/Integer;" .null := F_bitWidth_2.other W3 (Or.inr (slot_ne (Or.inr (hw _ (List.mem_of_getElem? (i := 40) rfl))) (Or.inr (hw _ (List.mem_of_getElem? (i := 38) rfl))) (by decide) (t := (.object "java/lang/Integer")) (t' := (.object "com/example/treellis/treellis/cfa/Type")) (by decide) (by decide)))
  have F_alignment_3 : Fld Z h3 a1 "com/example/treellis/treellis/cfa/StructType$Member" "alignment" "I" (.int (0 : Int32)) := F_alignment_2.other W3 (Or.inr (slot_ne (Or.inr (hw _ (List.mem_of_getElem? (i := 42) rfl))) (Or.inr (hw _ (List.mem_of_getElem? (i := 38) rfl))) (by decide) (t := .int) (t' := (.object "com/example/treellis/treellis/cfa/Type")) (by decide) (by decide)))
  have F_name_3 : Fld Z h3 a1 "com/example/treellis/treellis/cfa/StructType$Member" "name" "Ljava/lang/String;" .null := F_name_2.other W3 (Or.inr (slot_ne (Or.inr (hw _ (List.mem_of_getElem? (i := 36) rfl))) (Or.inr (hw _ (List.mem_of_getElem? (i := 38) rfl))) (by decide) (t := (.object "java/lang/String")) (t' := (.object "com/example/treellis/treellis/cfa/Type")) (by decide) (by decide)))
  have Zs3 : n0 ≤ h3.size := Nat.le_trans Zs2 (Keep.of_wr W3).1
  have Kp3 : Keep h0 h3 [a1] := Kp2.wr W3 (Or.inl (by simp))
  refine own_go st3 ?_
  show own_Goes _ _ _ _ _ _ _ T3 (mkF m 14 #[.val (.ref a1), .val .null, .val (.ref a2), .val .null, .val (.int (0 : Int32))] [])
  refine own_go (fun _ k => XS.aloadN X3.here hx rfl (hb hby d5_14) rfl rfl k) ?_
  show own_Goes _ _ _ _ _ _ _ T3 (mkF m 15 #[.val (.ref a1), .val .null, .val (.ref a2), .val .null, .val (.int (0 : Int32))] [(.ref a1)])
  refine own_go (fun _ k => XS.aloadN X3.here hx rfl (hb hby d5_15) rfl rfl k) ?_
  show own_Goes _ _ _ _ _ _ _ T3 (mkF m 16 #[.val (.ref a1), .val .null, .val (.ref a2), .val .null, .val (.int (0 : Int32))] [.null, (.ref a1)])
  obtain ⟨T4, h4, X4, e4, W4, st4⟩ := putF X3 hx hZ hown (host := "") (Or.inl (hw _ (List.mem_of_getElem? (i := 39) rfl))) Via.refl e3 F_bitWidth_3 E_a1_3 (Or.inr ⟨(hw _ (List.mem_of_getElem? (i := 40) rfl)), rfl, hnm⟩) (hw _ (List.mem_of_getElem? (i := 29) rfl)) (ty := (.object "java/lang/Integer")) (by decide) rfl rfl (g := (mkF m 16 #[.val (.ref a1), .val .null, .val (.ref a2), .val .null, .val (.int (0 : Int32))] [.null, (.ref a1)])) rfl rfl (hb hby d5_16)
  have F_bitWidth_4 : Fld Z h4 a1 "com/example/treellis/treellis/cfa/StructType$Member" "bitWidth" "Ljava/lang/Integer;" .null := F_bitWidth_3.same W4
  have N4 := Fr.snoc X4 N3 lo_a1
  have E_a1_4 : Exa Z h4 a1 "com/example/treellis/treellis/cfa/StructType$Member" := E_a1_3.wr W4
  have F_alignment_4 : Fld Z h4 a1 "com/example/treellis/treellis/cfa/StructType$Member" "alignment" "I" (.int (0 : Int32)) := F_alignment_3.other W4 (Or.inr (slot_ne (Or.inr (hw _ (List.mem_of_getElem? (i := 42) rfl))) (Or.inr (hw _ (List.mem_of_getElem? (i := 40) rfl))) (by decide) (t := .int) (t' := (.object "java/lang/Integer")) (by decide) (by decide)))
  have F_name_4 : Fld Z h4 a1 "com/example/treellis/treellis/cfa/StructType$Member" "name" "Ljava/lang/String;" .null := F_name_3.other W4 (Or.inr (slot_ne (Or.inr (hw _ (List.mem_of_getElem? (i := 36) rfl))) (Or.inr (hw _ (List.mem_of_getElem? (i := 40) rfl))) (by decide) (t := (.object "java/lang/String")) (t' := (.object "java/lang/Integer")) (by decide) (by decide)))
  have F_type_4 : Fld Z h4 a1 "com/example/treellis/treellis/cfa/StructType$Member" "type" "Lcom/example/treellis/treellis/cfa/Type;" (.ref a2) := F_type_3.other W4 (Or.inr (slot_ne (Or.inr (hw _ (List.mem_of_getElem? (i := 38) rfl))) (Or.inr (hw _ (List.mem_of_getElem? (i := 40) rfl))) (by decide) (t := (.object "com/example/treellis/treellis/cfa/Type")) (t' := (.object "java/lang/Integer")) (by decide) (by decide)))
  have Zs4 : n0 ≤ h4.size := Nat.le_trans Zs3 (Keep.of_wr W4).1
  have Kp4 : Keep h0 h4 [a1] := Kp3.wr W4 (Or.inl (by simp))
  refine own_go st4 ?_
  show own_Goes _ _ _ _ _ _ _ T4 (mkF m 19 #[.val (.ref a1), .val .null, .val (.ref a2), .val .null, .val (.int (0 : Int32))] [])
  refine own_go (fun _ k => XS.aloadN X4.here hx rfl (hb hby d5_19) rfl rfl k) ?_
  show own_Goes _ _ _ _ _ _ _ T4 (mkF m 20 #[.val (.ref a1), .val .null, .val (.ref a2), .val .null, .val (.int (0 : Int32))] [(.ref a1)])
  refine own_go (fun _ k => XS.iload X4.here hx rfl (hb hby d5_20) rfl k) ?_
  show own_Goes _ _ _ _ _ _ _ T4 (mkF m 22 #[.val (.ref a1), .val .null, .val (.ref a2), .val .null, .val (.int (0 : Int32))] [(.int (0 : Int32)), (.ref a1)])
  obtain ⟨T5, h5, X5, e5, W5, st5⟩ := putF X4 hx hZ hown (host := "") (Or.inl (hw _ (List.mem_of_getElem? (i := 41) rfl))) Via.refl e4 F_alignment_4 E_a1_4 (Or.inr ⟨(hw _ (List.mem_of_getElem? (i := 42) rfl)), rfl, hnm⟩) (hw _ (List.mem_of_getElem? (i := 29) rfl)) (ty := .int) (by decide) rfl rfl (g := (mkF m 22 #[.val (.ref a1), .val .null, .val (.ref a2), .val .null, .val (.int (0 : Int32))] [(.int (0 : Int32)), (.ref a1)])) rfl rfl (hb hby d5_22)
  have F_alignment_5 : Fld Z h5 a1 "com/example/treellis/treellis/cfa/StructType$Member" "alignment" "I" (.int (0 : Int32)) := F_alignment_4.same W5
  have N5 := Fr.snoc X5 N4 lo_a1
  have E_a1_5 : Exa Z h5 a1 "com/example/treellis/treellis/cfa/StructType$Member" := E_a1_4.wr W5
  have F_name_5 : Fld Z h5 a1 "com/example/treellis/treellis/cfa/StructType$Member" "name" "Ljava/lang/String;" .null := F_name_4.other W5 (Or.inr (slot_ne (Or.inr (hw _ (List.mem_of_getElem? (i := 36) rfl))) (Or.inr (hw _ (List.mem_of_getElem? (i := 42) rfl))) (by decide) (t := (.object "java/lang/String")) (t' := .int) (by decide) (by decide)))
  have F_type_5 : Fld Z h5 a1 "com/example/treellis/treellis/cfa/StructType$Member" "type" "Lcom/example/treellis/treellis/cfa/Type;" (.ref a2) := F_type_4.other W5 (Or.inr (slot_ne (Or.inr (hw _ (List.mem_of_getElem? (i := 38) rfl))) (Or.inr (hw _ (List.mem_of_getElem? (i := 42) rfl))) (by decide) (t := (.object "com/example/treellis/treellis/cfa/Type")) (t' := .int) (by decide) (by decide)))
  have F_bitWidth_5 : Fld Z h5 a1 "com/example/treellis/treellis/cfa/StructType$Member" "bitWidth" "Ljava/lang/Integer;" .null := F_bitWidth_4.other W5 (Or.inr (slot_ne (Or.inr (hw _ (List.mem_of_getElem? (i := 40) rfl))) (Or.inr (hw _ (List.mem_of_getElem? (i := 42) rfl))) (by decide) (t := (.object "java/lang/Integer")) (t' := .int) (by decide) (by decide)))
  have Zs5 : n0 ≤ h5.size := Nat.le_trans Zs4 (Keep.of_wr W5).1
  have Kp5 : Keep h0 h5 [a1] := Kp4.wr W5 (Or.inl (by simp))
  refine own_go st5 ?_
  show own_Goes _ _ _ _ _ _ _ T5 (mkF m 25 #[.val (.ref a1), .val .null, .val (.ref a2), .val .null, .val (.int (0 : Int32))] [])
  exact own_retV X5 hx hlk hret (hb hby d5_25) (by decide) (by decide) (by rw [e5]; exact ⟨rfl, N5, Kp5⟩)
def Q_rm_ce (Z : State) (h0 : Heap) (n0 : Nat)  (v : Option Value) (h : Heap) (L : List Loc) : Prop := v = some (.int 1) ∧ Fr n0 L ∧ h = h0
set_option maxRecDepth 65536 in
set_option maxHeartbeats 40000000 in
theorem rm_ce (l : Launch) (Z : State) (a0 : Array Value) (hw : ∀ d ∈ tables_1, d.before a0 Z = true) (ws : List Jvm.Cond) (p1 : Int32) (h0 : Heap) (n0 : Nat) (Z0 : n0 ≤ h0.size) (hp : ¬ (255 : Int32) < p1) :
    MetFree l (⟨"java/lang/StringLatin1", "canEncode", "(C)Z"⟩ : MethodName) (head1 (Jvm.Cond.code (⟨"java/lang/StringLatin1", "canEncode", "(C)Z"⟩ : MethodName) jdk_43_method_3_code 1 (some .boolean) :: ws) ({ frames := 0, cells := 0, slots := 0, locals := 0 } : Room)) (fun a U => a = #[(.int p1)] ∧ Z.Warmed39 U.vm ∧ U.heap = h0) (fun _ _ _ _ _ => True) (fun _ U o U' => ∃ rv rL, o = .returned rv ∧ Q_rm_ce Z h0 n0  rv U'.heap rL ∧ FrameEnd U o U' rL ({ frames := 0, cells := 0, slots := 0, locals := 0 } : Room).cells ({ frames := 0, cells := 0, slots := 0, locals := 0 } : Room).slots) := by
  refine own_met (y := (⟨"java/lang/StringLatin1", "canEncode", "(C)Z"⟩ : MethodName)) (Q := Q_rm_ce Z h0 n0 ) (own := "java/lang/StringLatin1") rfl (plainFor_of_name pn_31) ?_
  intro p e s m below meth c s₁ C e0 X0
  obtain ⟨hx, hby, hml, hown, hnm, hret, hlk, hZ⟩ := C
  have N0 := Fr.nil n0
  rw [ef_31]
  show own_Goes _ _ _ _ _ _ _ s₁ (mkF m 0 #[.val (.int p1)] [])
  refine own_go (fun _ k => XS.iloadN X0.here hx rfl (hb hby d31_0) rfl k) ?_
  show own_Goes _ _ _ _ _ _ _ s₁ (mkF m 1 #[.val (.int p1)] [(.int p1)])
  refine own_go (fun _ k => XS.sipush X0.here hx rfl (hb hby d31_1) k) ?_
  show own_Goes _ _ _ _ _ _ _ s₁ (mkF m 4 #[.val (.int p1)] [(.int (255 : Int32)), (.int p1)])
  refine own_go (fun _ k => XS.icmpNo X0.here hx rfl (hb hby d31_4) rfl (flt hp).2.2.1 k) ?_
  show own_Goes _ _ _ _ _ _ _ s₁ (mkF m 7 #[.val (.int p1)] [])
  refine own_go (fun _ k => XS.iconst X0.here hx rfl (hb hby d31_7) k) ?_
  show own_Goes _ _ _ _ _ _ _ s₁ (mkF m 8 #[.val (.int p1)] [(.int (1 : Int32))])
  refine own_go (fun _ k => XS.goto X0.here hx rfl (pc0 := 8) (pc' := 12) rfl (hb hby d31_8) (by decide) (by decide) k) ?_
  show own_Goes _ _ _ _ _ _ _ s₁ (mkF m 12 #[.val (.int p1)] [(.int (1 : Int32))])
  exact own_retN X0 hx (t := .boolean) hlk hret (by simp) (hb hby d31_12) (by decide) (by decide) (by rw [e0]; exact ⟨rfl, N0, rfl⟩)
def Q_rm_tb (Z : State) (h0 : Heap) (n0 : Nat)  (v : Option Value) (h : Heap) (L : List Loc) : Prop := ∃ b, v = some (.ref b) ∧ Fr n0 L ∧ h0.size ≤ b ∧ Keep h0 h []
set_option maxRecDepth 65536 in
set_option maxHeartbeats 40000000 in
theorem rm_tb (l : Launch) (Z : State) (a0 : Array Value) (hw : ∀ d ∈ tables_1, d.before a0 Z = true) (ws : List Jvm.Cond) (p1 : Int32) (h0 : Heap) (n0 : Nat) (Z0 : n0 ≤ h0.size) :
    MetFree l (⟨"java/lang/StringLatin1", "toBytes", "(C)[B"⟩ : MethodName) (head1 (Jvm.Cond.code (⟨"java/lang/StringLatin1", "toBytes", "(C)[B"⟩ : MethodName) jdk_43_method_46_code 1 (some (.array .byte)) :: ws) ({ frames := 0, cells := 1, slots := 1, locals := 0 } : Room)) (fun a U => a = #[(.int p1)] ∧ Z.Warmed39 U.vm ∧ U.heap = h0) (fun _ _ _ _ _ => True) (fun _ U o U' => ∃ rv rL, o = .returned rv ∧ Q_rm_tb Z h0 n0  rv U'.heap rL ∧ FrameEnd U o U' rL ({ frames := 0, cells := 1, slots := 1, locals := 0 } : Room).cells ({ frames := 0, cells := 1, slots := 1, locals := 0 } : Room).slots) := by
  refine own_met (y := (⟨"java/lang/StringLatin1", "toBytes", "(C)[B"⟩ : MethodName)) (Q := Q_rm_tb Z h0 n0 ) (own := "java/lang/StringLatin1") rfl (plainFor_of_name pn_32) ?_
  intro p e s m below meth c s₁ C e0 X0
  obtain ⟨hx, hby, hml, hown, hnm, hret, hlk, hZ⟩ := C
  have N0 := Fr.nil n0
  rw [ef_32]
  have Kp0 : Keep h0 h0 [] := Keep.refl h0 _
  show own_Goes _ _ _ _ _ _ _ s₁ (mkF m 0 #[.val (.int p1)] [])
  refine own_go (fun _ k => XS.iconst X0.here hx rfl (hb hby d32_0) k) ?_
  show own_Goes _ _ _ _ _ _ _ s₁ (mkF m 1 #[.val (.int p1)] [(.int (1 : Int32))])
  obtain ⟨T1, h1, k1, X1, e1, E1, A1, st1⟩ := newP X0 hx hZ (hw _ (List.mem_of_getElem? (i := 228) rfl)) e0 (g := (mkF m 1 #[.val (.int p1)] [(.int (1 : Int32))])) rfl (hb hby d32_1) rfl (by decide) (cap := 1) (by decide) (by decide) (by decide) (by decide)
  obtain ⟨b1, g1⟩ : ∃ z, z = h0.size := ⟨_, rfl⟩
  rw [← g1] at A1 st1
  have lo_b1 : n0 ≤ b1 := Nat.le_trans Z0 (Nat.le_of_eq g1.symm)
  have bo_b1 : h0.size ≤ b1 := Nat.le_trans Kp0.1 (Nat.le_of_eq g1.symm)
  have Zs1 : n0 ≤ h1.size := Nat.le_trans Z0 E1.1
  have Kp1 : Keep h0 h1 [] := Kp0.ext E1
  refine own_go st1 ?_
  show own_Goes _ _ _ _ _ _ _ T1 (mkF m 3 #[.val (.int p1)] [(.ref b1)])
  refine own_go (fun _ k => XS.dup X1.here hx rfl (hb hby d32_3) rfl rfl k) ?_
  show own_Goes _ _ _ _ _ _ _ T1 (mkF m 4 #[.val (.int p1)] [(.ref b1), (.ref b1)])
  refine own_go (fun _ k => XS.iconst X1.here hx rfl (hb hby d32_4) k) ?_
  show own_Goes _ _ _ _ _ _ _ T1 (mkF m 5 #[.val (.int p1)] [(.int (0 : Int32)), (.ref b1), (.ref b1)])
  refine own_go (fun _ k => XS.iloadN X1.here hx rfl (hb hby d32_5) rfl k) ?_
  show own_Goes _ _ _ _ _ _ _ T1 (mkF m 6 #[.val (.int p1)] [(.int p1), (.int (0 : Int32)), (.ref b1), (.ref b1)])
  refine own_go (fun _ k => XS.i2b X1.here hx rfl (hb hby d32_6) rfl k) ?_
  show own_Goes _ _ _ _ _ _ _ T1 (mkF m 7 #[.val (.int p1)] [(.int (p1.toInt8.toInt32)), (.int (0 : Int32)), (.ref b1), (.ref b1)])
  obtain ⟨T2, h2, X2, e2, W2, st2⟩ := stB X1 hx hZ e1 A1 (j := (0 : Int32)) (by show ¬ ((0 : Int32) < 0 ∨ 1 ≤ Int32.toNatClampNeg (0 : Int32)); decide) (g := (mkF m 7 #[.val (.int p1)] [(.int (p1.toInt8.toInt32)), (.int (0 : Int32)), (.ref b1), (.ref b1)])) rfl rfl (hb hby d32_7)
  have N2 := Fr.snoc X2 N0 lo_b1
  have Zs2 : n0 ≤ h2.size := Nat.le_trans Zs1 (Keep.of_wr W2).1
  have Kp2 : Keep h0 h2 [] := Kp1.wr W2 (Or.inr bo_b1)
  have V_b1_2 : Arr Z h2 b1 ((newA k1 .byte (1 : Int32)).setSlot ((0 : Int32)).toNatClampNeg (.int (nar .byte (p1.toInt8.toInt32)))) .byte := A1.same W2
  refine own_go st2 ?_
  show own_Goes _ _ _ _ _ _ _ T2 (mkF m 8 #[.val (.int p1)] [(.ref b1)])
  exact own_retA X2 hx hlk hret rfl rfl (hb hby d32_8) (by decide) (by decide) (by rw [e2]; exact ⟨b1, rfl, N2, bo_b1, Kp2⟩)
def Q_rm_sb (Z : State) (h0 : Heap) (n0 : Nat) (a1 : Addr) (v : Option Value) (h : Heap) (L : List Loc) : Prop := v = none ∧ Fr n0 L ∧ Keep h0 h [a1]
set_option maxRecDepth 65536 in
set_option maxHeartbeats 40000000 in
theorem rm_sb (l : Launch) (Z : State) (a0 : Array Value) (hw : ∀ d ∈ tables_1, d.before a0 Z = true) (ws : List Jvm.Cond) (a1 a2 : Addr) (h0 : Heap) (n0 : Nat) (Z0 : n0 ≤ h0.size) (E_a1 : Exa Z h0 a1 "java/lang/String") (F_value : Fld Z h0 a1 "java/lang/String" "value" "[B" .null) (F_coder : Fld Z h0 a1 "java/lang/String" "coder" "B" (.int (0 : Int32))) (lo_a1 : n0 ≤ a1) :
    MetFree l (⟨"java/lang/String", "<init>", "([BB)V"⟩ : MethodName) (head1 (Jvm.Cond.code (⟨"java/lang/String", "<init>", "([BB)V"⟩ : MethodName) jdk_42_method_151_code 3 none :: ws) ({ frames := 1, cells := 0, slots := 0, locals := 12 } : Room)) (fun a U => a = #[(.ref a1), (.ref a2), (.int (0 : Int32))] ∧ Z.Warmed39 U.vm ∧ U.heap = h0) (fun _ _ _ _ _ => True) (fun _ U o U' => ∃ rv rL, o = .returned rv ∧ Q_rm_sb Z h0 n0 a1 rv U'.heap rL ∧ FrameEnd U o U' rL ({ frames := 1, cells := 0, slots := 0, locals := 12 } : Room).cells ({ frames := 1, cells := 0, slots := 0, locals := 12 } : Room).slots) := by
  refine own_met (y := (⟨"java/lang/String", "<init>", "([BB)V"⟩ : MethodName)) (Q := Q_rm_sb Z h0 n0 a1) (own := "java/lang/String") rfl (plainFor_of_name pn_33) ?_
  intro p e s m below meth c s₁ C e0 X0
  obtain ⟨hx, hby, hml, hown, hnm, hret, hlk, hZ⟩ := C
  have N0 := Fr.nil n0
  rw [ef_33]
  have Kp0 : Keep h0 h0 [a1] := Keep.refl h0 _
  show own_Goes _ _ _ _ _ _ _ s₁ (mkF m 0 #[.val (.ref a1), .val (.ref a2), .val (.int (0 : Int32))] [])
  refine own_go (fun _ k => XS.aloadN X0.here hx rfl (hb hby d33_0) rfl rfl k) ?_
  show own_Goes _ _ _ _ _ _ _ s₁ (mkF m 1 #[.val (.ref a1), .val (.ref a2), .val (.int (0 : Int32))] [(.ref a1)])
  obtain ⟨T1, X1, e1, st1⟩ := initO X0 hx hZ hown (hw _ (List.mem_of_getElem? (i := 233) rfl)) (hw _ (List.mem_of_getElem? (i := 10) rfl)) (hw _ (List.mem_of_getElem? (i := 11) rfl)) e0 (g := (mkF m 1 #[.val (.ref a1), .val (.ref a2), .val (.int (0 : Int32))] [(.ref a1)])) rfl (by rw [hml]; rfl) rfl (hb hby d33_1) (by decide) (W := 0) (by show 2 * 0 + _ ≤ _; exact Nat.le_of_eq rfl) (by decide)
  refine own_go st1 ?_
  show own_Goes _ _ _ _ _ _ _ T1 (mkF m 4 #[.val (.ref a1), .val (.ref a2), .val (.int (0 : Int32))] [])
  refine own_go (fun _ k => XS.aloadN X1.here hx rfl (hb hby d33_4) rfl rfl k) ?_
  show own_Goes _ _ _ _ _ _ _ T1 (mkF m 5 #[.val (.ref a1), .val (.ref a2), .val (.int (0 : Int32))] [(.ref a1)])
  refine own_go (fun _ k => XS.aloadN X1.here hx rfl (hb hby d33_5) rfl rfl k) ?_
  show own_Goes _ _ _ _ _ _ _ T1 (mkF m 6 #[.val (.ref a1), .val (.ref a2), .val (.int (0 : Int32))] [(.ref a2), (.ref a1)])
  obtain ⟨T2, h2, X2, e2, W2, st2⟩ := putF X1 hx hZ hown (host := "") (Or.inl (hw _ (List.mem_of_getElem? (i := 234) rfl))) Via.refl e1 F_value E_a1 (Or.inr ⟨(hw _ (List.mem_of_getElem? (i := 235) rfl)), rfl, hnm⟩) (hw _ (List.mem_of_getElem? (i := 224) rfl)) (ty := (.array .byte)) (by decide) rfl rfl (g := (mkF m 6 #[.val (.ref a1), .val (.ref a2), .val (.int (0 : Int32))] [(.ref a2), (.ref a1)])) rfl rfl (hb hby d33_6)
  have F_value_2 : Fld Z h2 a1 "java/lang/String" "value" "[B" (.ref a2) := F_value.same W2
  have N2 := Fr.snoc X2 N0 lo_a1
  have E_a1_2 : Exa Z h2 a1 "java/lang/String" := E_a1.wr W2
  have F_coder_2 : Fld Z h2 a1 "java/lang/String" "coder" "B" (.int (0 : Int32)) := F_coder.other W2 (Or.inr (slot_ne (Or.inr (hw _ (List.mem_of_getElem? (i := 237) rfl))) (Or.inr (hw _ (List.mem_of_getElem? (i := 235) rfl))) (by decide) (t := .byte) (t' := (.array .byte)) (by decide) (by decide)))
  have Zs2 : n0 ≤ h2.size := Nat.le_trans Z0 (Keep.of_wr W2).1
  have Kp2 : Keep h0 h2 [a1] := Kp0.wr W2 (Or.inl (by simp))
  refine own_go st2 ?_
  show own_Goes _ _ _ _ _ _ _ T2 (mkF m 9 #[.val (.ref a1), .val (.ref a2), .val (.int (0 : Int32))] [])
  refine own_go (fun _ k => XS.aloadN X2.here hx rfl (hb hby d33_9) rfl rfl k) ?_
  show own_Goes _ _ _ _ _ _ _ T2 (mkF m 10 #[.val (.ref a1), .val (.ref a2), .val (.int (0 : Int32))] [(.ref a1)])
  refine own_go (fun _ k => XS.iloadN X2.here hx rfl (hb hby d33_10) rfl k) ?_
  show own_Goes _ _ _ _ _ _ _ T2 (mkF m 11 #[.val (.ref a1), .val (.ref a2), .val (.int (0 : Int32))] [(.int (0 : Int32)), (.ref a1)])
  obtain ⟨T3, h3, X3, e3, W3, st3⟩ := putFN X2 hx hZ hown (hw _ (List.mem_of_getElem? (i := 236) rfl)) Via.refl e2 F_coder_2 E_a1_2 (Or.inr ⟨(hw _ (List.mem_of_getElem? (i := 237) rfl)), rfl, hnm⟩) (hw _ (List.mem_of_getElem? (i := 224) rfl)) (ty := .byte) (v' := (.int (nar .byte (0 : Int32)))) (by decide) rfl (fits_nar_byte _) (g := (mkF m 11 #[.val (.ref a1), .val (.ref a2), .val (.int (0 : Int32))] [(.int (0 : Int32)), (.ref a1)])) rfl rfl (hb hby d33_11)
  have F_coder_3 : Fld Z h3 a1 "java/lang/String" "coder" "B" (.int (nar .byte (0 : Int32))) := F_coder_2.same W3
  have N3 := Fr.snoc X3 N2 lo_a1
  have E_a1_3 : Exa Z h3 a1 "java/lang/String" := E_a1_2.wr W3
  have F_value_3 : Fld Z h3 a1 "java/lang/String" "value" "[B" (.ref a2) := F_value_2.other W3 (Or.inr (slot_ne (Or.inr (hw _ (List.mem_of_getElem? (i := 235) rfl))) (Or.inr (hw _ (List.mem_of_getElem? (i := 237) rfl))) (by decide) (t := (.array .byte)) (t' := .byte) (by decide) (by decide)))
  have Zs3 : n0 ≤ h3.size := Nat.le_trans Zs2 (Keep.of_wr W3).1
  have Kp3 : Keep h0 h3 [a1] := Kp2.wr W3 (Or.inl (by simp))
  refine own_go st3 ?_
  show own_Goes _ _ _ _ _ _ _ T3 (mkF m 14 #[.val (.ref a1), .val (.ref a2), .val (.int (0 : Int32))] [])
  exact own_retV X3 hx hlk hret (hb hby d33_14) (by decide) (by decide) (by rw [e3]; exact ⟨rfl, N3, Kp3⟩)
def Q_rm_vo (Z : State) (h0 : Heap) (n0 : Nat)  (v : Option Value) (h : Heap) (L : List Loc) : Prop := ∃ b, v = some (.ref b) ∧ Fr n0 L ∧ h0.size ≤ b ∧ Keep h0 h []
set_option maxRecDepth 65536 in
set_option maxHeartbeats 40000000 in
theorem rm_vo (l : Launch) (Z : State) (a0 : Array Value) (hw : ∀ d ∈ tables_1, d.before a0 Z = true) (ws : List Jvm.Cond) (p1 : Int32) (h0 : Heap) (n0 : Nat) (Z0 : n0 ≤ h0.size) (hp : ¬ (255 : Int32) < p1) (G1 : Int32) (O2 : Sta Z Z.heap "java/lang/String" "COMPACT_STRINGS" "Z" (.int G1)) (P5 : ¬ (G1 = (0 : Int32))) (Od0 : Old Z n0 h0) :
    MetFree l (⟨"java/lang/String", "valueOf", "(C)Ljava/lang/String;"⟩ : MethodName) (head1 (Jvm.Cond.code (⟨"java/lang/String", "valueOf", "(C)Ljava/lang/String;"⟩ : MethodName) jdk_42_method_139_code 1 (some (.object "java/lang/String")) :: ws) ({ frames := 2, cells := 2, slots := 5, locals := 27 } : Room)) (fun a U => a = #[(.int p1)] ∧ Z.Warmed39 U.vm ∧ U.heap = h0) (fun _ _ _ _ _ => True) (fun _ U o U' => ∃ rv rL, o = .returned rv ∧ Q_rm_vo Z h0 n0  rv U'.heap rL ∧ FrameEnd U o U' rL ({ frames := 2, cells := 2, slots := 5, locals := 27 } : Room).cells ({ frames := 2, cells := 2, slots := 5, locals := 27 } : Room).slots) := by
  refine own_met (y := (⟨"java/lang/String", "valueOf", "(C)Ljava/lang/String;"⟩ : MethodName)) (Q := Q_rm_vo Z h0 n0 ) (own := "java/lang/String") rfl (plainFor_of_name pn_30) ?_
  intro p e s m below meth c s₁ C e0 X0
  obtain ⟨hx, hby, hml, hown, hnm, hret, hlk, hZ⟩ := C
  have N0 := Fr.nil n0
  rw [ef_30]
  have Kp0 : Keep h0 h0 [] := Keep.refl h0 _
  show own_Goes _ _ _ _ _ _ _ s₁ (mkF m 0 #[.val (.int p1)] [])
  obtain ⟨T1, X1, e1, st1⟩ := getS2 X0 hx hZ hown (host := "") (Or.inl (hw _ (List.mem_of_getElem? (i := 218) rfl))) Via.refl e0 (O2.ext Od0.2) (g := (mkF m 0 #[.val (.int p1)] [])) rfl (hb hby d30_0)
  refine own_go st1 ?_
  show own_Goes _ _ _ _ _ _ _ T1 (mkF m 3 #[.val (.int p1)] [(.int G1)])
  refine own_go (fun _ k => XS.ifNo X1.here hx rfl (hb hby d30_3) rfl ((if0 _ _).trans (feq P5).1) k) ?_
  show own_Goes _ _ _ _ _ _ _ T1 (mkF m 6 #[.val (.int p1)] [])
  refine own_go (fun _ k => XS.iloadN X1.here hx rfl (hb hby d30_6) rfl k) ?_
  show own_Goes _ _ _ _ _ _ _ T1 (mkF m 7 #[.val (.int p1)] [(.int p1)])
  obtain ⟨_, _, ⟨T2, L2, k2, n2⟩, -, X2, ⟨Lc2, hQ2, l2, y2, z2⟩, st2⟩ := Jvm.LawKit.callS X1 hx (y := (⟨"java/lang/StringLatin1", "canEncode", "(C)Z"⟩ : MethodName)) hown (mvT hZ (hw _ (List.mem_of_getElem? (i := 219) rfl))) (mvT hZ (hw _ (List.mem_of_getElem? (i := 220) rfl))) (mvT hZ (hw _ (List.mem_of_getElem? (i := 221) rfl))) (mvT hZ (hw _ (List.mem_of_getElem? (i := 222) rfl))) (by decide) (backOf (W := 0) (rm_ce l Z a0 hw [] p1 h0 n0 Z0 hp) hZ (hw _ (List.mem_of_getElem? (i := 222) rfl)) (hw _ (List.mem_of_getElem? (i := 221) rfl)) (by decide) (by decide)) (g := (mkF m 7 #[.val (.int p1)] [(.int p1)])) rfl (by rw [hml]; rfl) (argsL := [(.int p1)]) (rest := []) (lenOf pd_15 rfl) rfl (by show 2 * 0 + _ ≤ _; exact Nat.le_of_eq rfl) (hb hby d30_7) (fun _ _ => ⟨rfl, e1, (by decide : 0 + 0 ≤ _), (by decide : 0 + 0 ≤ _)⟩)
  dsimp only [Pt.U, Pt.locs, Pt.cells, Pt.slots] at X2 l2 y2 z2 st2 hQ2
  subst l2 y2 z2
  obtain ⟨rfl, N2q, e2⟩ := hQ2
  have N2 := Fr.app N0 N2q
  refine own_go st2 ?_
  show own_Goes _ _ _ _ _ _ _ T2 (mkF m 10 #[.val (.int p1)] [(.int (1 : Int32))])
  refine own_go (fun _ k => XS.ifNo X2.here hx rfl (hb hby d30_10) rfl ((if0 _ _).trans (feq (by decide : ¬ ((1 : Int32) = (0 : Int32)))).1) k) ?_
  show own_Goes _ _ _ _ _ _ _ T2 (mkF m 13 #[.val (.int p1)] [])
  obtain ⟨T3, h3, X3, e3, E3, A3, D3, -, st3⟩ := newO X2 hx hZ hown (hw _ (List.mem_of_getElem? (i := 223) rfl)) (hw _ (List.mem_of_getElem? (i := 224) rfl)) (hw _ (List.mem_of_getElem? (i := 216) rfl)) e2 (g := (mkF m 13 #[.val (.int p1)] [])) rfl (hb hby d30_13) (by decide) (by decide)
  obtain ⟨b3, g3⟩ : ∃ z, z = h0.size := ⟨_, rfl⟩
  rw [← g3] at A3 D3 st3
  have lo_b3 : n0 ≤ b3 := Nat.le_trans Z0 (Nat.le_of_eq g3.symm)
  have bo_b3 : h0.size ≤ b3 := Nat.le_trans Kp0.1 (Nat.le_of_eq g3.symm)
  have Zs3 : n0 ≤ h3.size := Nat.le_trans Z0 E3.1
  have Kp3 : Keep h0 h3 [] := Kp0.ext E3
  have Od3 : Old Z n0 h3 := Od0.ext E3
  have F_value_b3 : Fld Z h3 b3 "java/lang/String" "value" "[B" .null := D3 (Or.inr (hw _ (List.mem_of_getElem? (i := 235) rfl))) (ty := (.array .byte)) (by decide)
  have F_coder_b3 : Fld Z h3 b3 "java/lang/String" "coder" "B" (.int (0 : Int32)) := D3 (Or.inr (hw _ (List.mem_of_getElem? (i := 237) rfl))) (ty := .byte) (by decide)
  refine own_go st3 ?_
  show own_Goes _ _ _ _ _ _ _ T3 (mkF m 16 #[.val (.int p1)] [(.ref b3)])
  refine own_go (fun _ k => XS.dup X3.here hx rfl (hb hby d30_16) rfl rfl k) ?_
  show own_Goes _ _ _ _ _ _ _ T3 (mkF m 17 #[.val (.int p1)] [(.ref b3), (.ref b3)])
  refine own_go (fun _ k => XS.iloadN X3.here hx rfl (hb hby d30_17) rfl k) ?_
  show own_Goes _ _ _ _ _ _ _ T3 (mkF m 18 #[.val (.int p1)] [(.int p1), (.ref b3), (.ref b3)])
  obtain ⟨_, _, ⟨T4, L4, k4, n4⟩, -, X4, ⟨Lc4, hQ4, l4, y4, z4⟩, st4⟩ := Jvm.LawKit.callS X3 hx (y := (⟨"java/lang/StringLatin1", "toBytes", "(C)[B"⟩ : MethodName)) hown (mvT hZ (hw _ (List.mem_of_getElem? (i := 225) rfl))) (mvT hZ (hw _ (List.mem_of_getElem? (i := 226) rfl))) (mvT hZ (hw _ (List.mem_of_getElem? (i := 221) rfl))) (mvT hZ (hw _ (List.mem_of_getElem? (i := 227) rfl))) (by decide) (backOf (W := 2) (rm_tb l Z a0 hw [] p1 h3 n0 Zs3) hZ (hw _ (List.mem_of_getElem? (i := 227) rfl)) (hw _ (List.mem_of_getElem? (i := 221) rfl)) (by decide) (by decide)) (g := (mkF m 18 #[.val (.int p1)] [(.int p1), (.ref b3), (.ref b3)])) rfl (by rw [hml]; rfl) (argsL := [(.int p1)]) (rest := [(.ref b3), (.ref b3)]) (lenOf pd_16 rfl) rfl (by show 2 * 0 + _ ≤ _; exact Nat.le_of_eq rfl) (hb hby d30_18) (fun _ _ => ⟨rfl, e3, (by decide : 0 + 0 + 1 + 1 ≤ _), (by decide : 0 + 0 + 4 + 1 ≤ _)⟩)
  dsimp only [Pt.U, Pt.locs, Pt.cells, Pt.slots] at X4 l4 y4 z4 st4 hQ4
  subst l4 y4 z4
  obtain ⟨bb4, rfl, N4q, hb4, K4⟩ := hQ4
  have N4 := Fr.app N2 N4q
  refine own_go st4 ?_
  show own_Goes _ _ _ _ _ _ _ T4 (mkF m 21 #[.val (.int p1)] [(.ref bb4), (.ref b3), (.ref b3)])
  have E_b3_4 : Exa Z T4.heap b3 "java/lang/String" := A3.keep K4
  have F_value_b3_4 : Fld Z T4.heap b3 "java/lang/String" "value" "[B" .null := F_value_b3.keep K4 nin0
  have F_coder_b3_4 : Fld Z T4.heap b3 "java/lang/String" "coder" "B" (.int (0 : Int32)) := F_coder_b3.keep K4 nin0
  have Zs4 : n0 ≤ T4.heap.size := Nat.le_trans Zs3 K4.1
  have Kp4 : Keep h0 T4.heap [] := Kp3.trans K4 all0
  have Od4 : Old Z n0 T4.heap := Od3.keep K4 all0
  refine own_go (fun _ k => XS.iconst X4.here hx rfl (hb hby d30_21) k) ?_
  show own_Goes _ _ _ _ _ _ _ T4 (mkF m 22 #[.val (.int p1)] [(.int (0 : Int32)), (.ref bb4), (.ref b3), (.ref b3)])
  obtain ⟨_, _, ⟨T5, L5, k5, n5⟩, -, X5, ⟨Lc5, hQ5, l5, y5, z5⟩, st5⟩ := X4.specialBack hx (y := (⟨"java/lang/String", "<init>", "([BB)V"⟩ : MethodName)) rfl hown (mvT hZ (hw _ (List.mem_of_getElem? (i := 229) rfl))) (mvT hZ (hw _ (List.mem_of_getElem? (i := 230) rfl))) (mvT hZ (hw _ (List.mem_of_getElem? (i := 232) rfl))) (by decide) (backOf (W := 1) (rm_sb l Z a0 hw [] b3 bb4 T4.heap n0 Zs4 E_b3_4 F_value_b3_4 F_coder_b3_4 lo_b3) hZ (hw _ (List.mem_of_getElem? (i := 232) rfl)) (hw _ (List.mem_of_getElem? (i := 216) rfl)) (by decide) (by decide)) (g := (mkF m 22 #[.val (.int p1)] [(.int (0 : Int32)), (.ref bb4), (.ref b3), (.ref b3)])) rfl (by rw [hml]; rfl) (Steps.refl _) (a := b3) (argsL := [(.ref bb4), (.int (0 : Int32))]) (rest := [(.ref b3)]) (lenOf pd_17 rfl) rfl (by show 2 * 0 + _ ≤ _; exact Nat.le_of_eq rfl) (hb hby d30_22) (fun _ _ => ⟨rfl, rfl, (by decide : 0 + 0 + 1 + 1 + 0 ≤ _), (by decide : 0 + 0 + 4 + 1 + 0 ≤ _)⟩)
  dsimp only [Pt.U, Pt.locs, Pt.cells, Pt.slots] at X5 l5 y5 z5 st5 hQ5
  subst l5 y5 z5
  obtain ⟨rfl, N5q, K5⟩ := hQ5
  have N5 := Fr.app N4 N5q
  refine own_goS st5 ?_
  show own_Goes _ _ _ _ _ _ _ T5 (mkF m 25 #[.val (.int p1)] [(.ref b3)])
  have E_b3_5 : Exa Z T5.heap b3 "java/lang/String" := E_b3_4.keep K5
  have Zs5 : n0 ≤ T5.heap.size := Nat.le_trans Zs4 K5.1
  have Kp5 : Keep h0 T5.heap [] := Kp4.trans K5 (allS (Or.inr bo_b3) all0)
  have Od5 : Old Z n0 T5.heap := Od4.keep K5 (allS lo_b3 all0)
  exact own_retA X5 hx hlk hret rfl rfl (hb hby d30_25) (by decide) (by decide) ⟨b3, rfl, N5, bo_b3, Kp5⟩
set_option maxRecDepth 65536 in
set_option maxHeartbeats 40000000 in
theorem seg98_0 {p : Program} {l : Launch} {e : Env} {s : State} {m : MethodId} {args : Array Value} {below : List Frame} {meth : Method} {c : Code} {s₁ : State} {locs : List Loc} {Z : State} {a0 : Array Value} {h0 : Heap} (p0 p1 p2 p3 p4 p5 : Int32) (aK a8 : Addr) (s7 : Slot) (aD aE aL aM aX : Addr) (cD cX : Cell)
    (hw : ∀ d ∈ tables_1, d.before a0 Z = true) (C : own_Ctx Z x "com/example/treellis/treellis/cfa/StructTypeIsCompletePinLaw" code maxLocals ret p s m meth c) (X0 : Stand p l e room_1 s m args below meth c s₁ locs 3 10) (e0 : s₁.heap = h0) (n0 : Nat) (Z0 : n0 ≤ h0.size) (N0 : Fr n0 locs) (SD : Sta Z Z.heap "java/util/ArrayList" "DEFAULTCAPACITY_EMPTY_ELEMENTDATA" "[Ljava/lang/Object;" (.ref aD)) (AD : Arr Z Z.heap aD cD (.object "java/lang/Object")) (zD : cD.slots.size = 0) (SE : Sta Z Z.heap "java/util/ImmutableCollections" "EMPTY" "Ljava/lang/Object;" (.ref aE)) (SL : Sta Z Z.heap "java/util/ImmutableCollections" "EMPTY_LIST" "Ljava/util/ImmutableCollections$ListN;" (.ref aL)) (MM : Mir Z "[Ljava/lang/Object;" aM) (hEx : Exa Z Z.heap aE "java/lang/Object") (EL : Exa Z Z.heap aL "java/util/ImmutableCollections$ListN") (FL : Fld Z Z.heap aL "java/util/ImmutableCollections$ListN" "elements" "[Ljava/lang/Object;" (.ref aX)) (AX : Arr Z Z.heap aX cX (.object "java/lang/Object")) (zX : cX.slots.size.toInt32 = (0 : Int32)) (Od0 : Old Z n0 h0) (E_a8 : Exa Z h0 a8 "com/example/treellis/treellis/cfa/StructType") (F_mb : Fld Z h0 a8 "com/example/treellis/treellis/cfa/StructType" "members" "Ljava/util/List;" .null) (F_pk : Fld Z h0 a8 "com/example/treellis/treellis/cfa/StructType" "packing" "I" (.int (0 : Int32))) (F_ag : Fld Z h0 a8 "com/example/treellis/treellis/cfa/StructType" "alignment" "I" (.int (0 : Int32))) (lo_a8 : n0 ≤ a8) :
    own_Goes p e below s (fun v h L => v = some (.int 1) ∧ Fr n0 L) room_1.cells room_1.slots s₁ (mkF m 98 #[.val (.int p0), .val (.int p1), .val (.int p2), .val (.int p3), .val (.int p4), .val (.int p5), .val (.ref aK), s7, .val (.ref a8), .val (.int (0 : Int32)), .unset, .unset, .unset, .unset] []) := by
  obtain ⟨hx, hby, hml, hown, hnm, hret, hlk, hZ⟩ := C
  obtain ⟨T1, h1, X1, e1, E1, A1, D1, -, st1⟩ := newO X0 hx hZ hown (hw _ (List.mem_of_getElem? (i := 28) rfl)) (hw _ (List.mem_of_getElem? (i := 29) rfl)) (hw _ (List.mem_of_getElem? (i := 30) rfl)) e0 (g := (mkF m 98 #[.val (.int p0), .val (.int p1), .val (.int p2), .val (.int p3), .val (.int p4), .val (.int p5), .val (.ref aK), s7, .val (.ref a8), .val (.int (0 : Int32)), .unset, .unset, .unset, .unset] [])) rfl (hb hby at_98) (by decide) (by decide)
  obtain ⟨b1, g1⟩ : ∃ z, z = h0.size := ⟨_, rfl⟩
  rw [← g1] at A1 D1 st1
  have lo_b1 : n0 ≤ b1 := Nat.le_trans Z0 (Nat.le_of_eq g1.symm)
  have ne_a8_b1 : a8 ≠ b1 := Nat.ne_of_lt (Nat.lt_of_lt_of_le E_a8.lt (Nat.le_of_eq g1.symm))
  have E_a8_1 : Exa Z h1 a8 "com/example/treellis/treellis/cfa/StructType" := E_a8.ext E1
  have F_mb_1 : Fld Z h1 a8 "com/example/treellis/treellis/cfa/StructType" "members" "Ljava/util/List;" .null := F_mb.ext E1
  have F_pk_1 : Fld Z h1 a8 "com/example/treellis/treellis/cfa/StructType" "packing" "I" (.int (0 : Int32)) := F_pk.ext E1
  have F_ag_1 : Fld Z h1 a8 "com/example/treellis/treellis/cfa/StructType" "alignment" "I" (.int (0 : Int32)) := F_ag.ext E1
  have Zs1 : n0 ≤ h1.size := Nat.le_trans Z0 E1.1
  have Od1 : Old Z n0 h1 := Od0.ext E1
  have F_name_b1 : Fld Z h1 b1 "com/example/treellis/treellis/cfa/StructType$Member" "name" "Ljava/lang/String;" .null := D1 (Or.inr (hw _ (List.mem_of_getElem? (i := 36) rfl))) (ty := (.object "java/lang/String")) (by decide)
  have F_type_b1 : Fld Z h1 b1 "com/example/treellis/treellis/cfa/StructType$Member" "type" "Lcom/example/treellis/treellis/cfa/Type;" .null := D1 (Or.inr (hw _ (List.mem_of_getElem? (i := 38) rfl))) (ty := (.object "com/example/treellis/treellis/cfa/Type")) (by decide)
  have F_bitWidth_b1 : Fld Z h1 b1 "com/example/treellis/treellis/cfa/StructType$Member" "bitWidth" "Ljava/lang/Integer;" .null := D1 (Or.inr (hw _ (List.mem_of_getElem? (i := 40) rfl))) (ty := (.object "java/lang/Integer")) (by decide)
  have F_alignment_b1 : Fld Z h1 b1 "com/example/treellis/treellis/cfa/StructType$Member" "alignment" "I" (.int (0 : Int32)) := D1 (Or.inr (hw _ (List.mem_of_getElem? (i := 42) rfl))) (ty := .int) (by decide)
  refine own_go st1 ?_
  show own_Goes _ _ _ _ _ _ _ T1 (mkF m 101 #[.val (.int p0), .val (.int p1), .val (.int p2), .val (.int p3), .val (.int p4), .val (.int p5), .val (.ref aK), s7, .val (.ref a8), .val (.int (0 : Int32)), .unset, .unset, .unset, .unset] [(.ref b1)])
  refine own_go (fun _ k => XS.dup X1.here hx rfl (hb hby at_101) rfl rfl k) ?_
  show own_Goes _ _ _ _ _ _ _ T1 (mkF m 102 #[.val (.int p0), .val (.int p1), .val (.int p2), .val (.int p3), .val (.int p4), .val (.int p5), .val (.ref aK), s7, .val (.ref a8), .val (.int (0 : Int32)), .unset, .unset, .unset, .unset] [(.ref b1), (.ref b1)])
  refine own_go (fun _ k => XS.aconstNull X1.here hx rfl (hb hby at_102) k) ?_
  show own_Goes _ _ _ _ _ _ _ T1 (mkF m 103 #[.val (.int p0), .val (.int p1), .val (.int p2), .val (.int p3), .val (.int p4), .val (.int p5), .val (.ref aK), s7, .val (.ref a8), .val (.int (0 : Int32)), .unset, .unset, .unset, .unset] [.null, (.ref b1), (.ref b1)])
  refine own_go (fun _ k => XS.aload X1.here hx rfl (hb hby at_103) rfl rfl k) ?_
  show own_Goes _ _ _ _ _ _ _ T1 (mkF m 105 #[.val (.int p0), .val (.int p1), .val (.int p2), .val (.int p3), .val (.int p4), .val (.int p5), .val (.ref aK), s7, .val (.ref a8), .val (.int (0 : Int32)), .unset, .unset, .unset, .unset] [(.ref a8), .null, (.ref b1), (.ref b1)])
  refine own_go (fun _ k => XS.aconstNull X1.here hx rfl (hb hby at_105) k) ?_
  show own_Goes _ _ _ _ _ _ _ T1 (mkF m 106 #[.val (.int p0), .val (.int p1), .val (.int p2), .val (.int p3), .val (.int p4), .val (.int p5), .val (.ref aK), s7, .val (.ref a8), .val (.int (0 : Int32)), .unset, .unset, .unset, .unset] [.null, (.ref a8), .null, (.ref b1), (.ref b1)])
  refine own_go (fun _ k => XS.iconst X1.here hx rfl (hb hby at_106) k) ?_
  show own_Goes _ _ _ _ _ _ _ T1 (mkF m 107 #[.val (.int p0), .val (.int p1), .val (.int p2), .val (.int p3), .val (.int p4), .val (.int p5), .val (.ref aK), s7, .val (.ref a8), .val (.int (0 : Int32)), .unset, .unset, .unset, .unset] [(.int (0 : Int32)), .null, (.ref a8), .null, (.ref b1), (.ref b1)])
  obtain ⟨_, _, ⟨T2, L2, k2, n2⟩, -, X2, ⟨Lc2, hQ2, l2, y2, z2⟩, st2⟩ := X1.specialBack hx (y := (⟨"com/example/treellis/treellis/cfa/StructType$Member", "<init>", "(Ljava/lang/String;Lcom/example/treellis/treellis/cfa/Type;Ljava/lang/Integer;I)V"⟩ : MethodName)) rfl hown (mvT hZ (hw _ (List.mem_of_getElem? (i := 31) rfl))) (mvT hZ (hw _ (List.mem_of_getElem? (i := 32) rfl))) (mvT hZ (hw _ (List.mem_of_getElem? (i := 33) rfl))) (by decide) (backOf (W := 1) (rm_mi l Z a0 hw [] b1 a8 h1 n0 Zs1 A1 F_name_b1 F_type_b1 F_bitWidth_b1 F_alignment_b1 lo_b1) hZ (hw _ (List.mem_of_getElem? (i := 33) rfl)) (hw _ (List.mem_of_getElem? (i := 30) rfl)) (by decide) (by decide)) (g := (mkF m 107 #[.val (.int p0), .val (.int p1), .val (.int p2), .val (.int p3), .val (.int p4), .val (.int p5), .val (.ref aK), s7, .val (.ref a8), .val (.int (0 : Int32)), .unset, .unset, .unset, .unset] [(.int (0 : Int32)), .null, (.ref a8), .null, (.ref b1), (.ref b1)])) rfl (by rw [hml]; rfl) (Steps.refl _) (a := b1) (argsL := [.null, (.ref a8), .null, (.int (0 : Int32))]) (rest := [(.ref b1)]) (lenOf pd_18 rfl) rfl (by show 2 * 0 + _ ≤ _; exact Nat.le_of_eq rfl) (hb hby at_107) (fun _ _ => ⟨rfl, e1, (by decide : 3 + 1 + 0 ≤ _), (by decide : 10 + 4 + 0 ≤ _)⟩)
  dsimp only [Pt.U, Pt.locs, Pt.cells, Pt.slots] at X2 l2 y2 z2 st2 hQ2
  subst l2 y2 z2
  obtain ⟨rfl, N2q, K2⟩ := hQ2
  have N2 := Fr.app N0 N2q
  refine own_goS st2 ?_
  show own_Goes _ _ _ _ _ _ _ T2 (mkF m 110 #[.val (.int p0), .val (.int p1), .val (.int p2), .val (.int p3), .val (.int p4), .val (.int p5), .val (.ref aK), s7, .val (.ref a8), .val (.int (0 : Int32)), .unset, .unset, .unset, .unset] [(.ref b1)])
  have E_a8_2 : Exa Z T2.heap a8 "com/example/treellis/treellis/cfa/StructType" := E_a8_1.keep K2
  have F_mb_2 : Fld Z T2.heap a8 "com/example/treellis/treellis/cfa/StructType" "members" "Ljava/util/List;" .null := F_mb_1.keep K2 (ninS ne_a8_b1 nin0)
  have F_pk_2 : Fld Z T2.heap a8 "com/example/treellis/treellis/cfa/StructType" "packing" "I" (.int (0 : Int32)) := F_pk_1.keep K2 (ninS ne_a8_b1 nin0)
  have F_ag_2 : Fld Z T2.heap a8 "com/example/treellis/treellis/cfa/StructType" "alignment" "I" (.int (0 : Int32)) := F_ag_1.keep K2 (ninS ne_a8_b1 nin0)
  have E_b1_2 : Exa Z T2.heap b1 "com/example/treellis/treellis/cfa/StructType$Member" := A1.keep K2
  have Zs2 : n0 ≤ T2.heap.size := Nat.le_trans Zs1 K2.1
  have Od2 : Old Z n0 T2.heap := Od1.keep K2 (allS lo_b1 all0)
  refine own_go (fun _ k => XS.astore X2.here hx rfl (hb hby at_110) rfl rfl (l' := #[.val (.int p0), .val (.int p1), .val (.int p2), .val (.int p3), .val (.int p4), .val (.int p5), .val (.ref aK), s7, .val (.ref a8), .val (.int (0 : Int32)), .val (.ref b1), .unset, .unset, .unset]) rfl k) ?_
  show own_Goes _ _ _ _ _ _ _ T2 (mkF m 112 #[.val (.int p0), .val (.int p1), .val (.int p2), .val (.int p3), .val (.int p4), .val (.int p5), .val (.ref aK), s7, .val (.ref a8), .val (.int (0 : Int32)), .val (.ref b1), .unset, .unset, .unset] [])
  obtain ⟨T3, h3, X3, e3, E3, A3, D3, -, st3⟩ := newO X2 hx hZ hown (hw _ (List.mem_of_getElem? (i := 43) rfl)) (hw _ (List.mem_of_getElem? (i := 44) rfl)) (hw _ (List.mem_of_getElem? (i := 45) rfl)) rfl (g := (mkF m 112 #[.val (.int p0), .val (.int p1), .val (.int p2), .val (.int p3), .val (.int p4), .val (.int p5), .val (.ref aK), s7, .val (.ref a8), .val (.int (0 : Int32)), .val (.ref b1), .unset, .unset, .unset] [])) rfl (hb hby at_112) (by decide) (by decide)
  obtain ⟨b3, g3⟩ : ∃ z, z = T2.heap.size := ⟨_, rfl⟩
  rw [← g3] at A3 D3 st3
  have lo_b3 : n0 ≤ b3 := Nat.le_trans Zs2 (Nat.le_of_eq g3.symm)
  have ne_a8_b3 : a8 ≠ b3 := Nat.ne_of_lt (Nat.lt_of_lt_of_le E_a8_2.lt (Nat.le_of_eq g3.symm))
  have ne_b1_b3 : b1 ≠ b3 := Nat.ne_of_lt (Nat.lt_of_lt_of_le E_b1_2.lt (Nat.le_of_eq g3.symm))
  have E_a8_3 : Exa Z h3 a8 "com/example/treellis/treellis/cfa/StructType" := E_a8_2.ext E3
  have F_mb_3 : Fld Z h3 a8 "com/example/treellis/treellis/cfa/StructType" "members" "Ljava/util/List;" .null := F_mb_2.ext E3
  have F_pk_3 : Fld Z h3 a8 "com/example/treellis/treellis/cfa/StructType" "packing" "I" (.int (0 : Int32)) := F_pk_2.ext E3
  have F_ag_3 : Fld Z h3 a8 "com/example/treellis/treellis/cfa/StructType" "alignment" "I" (.int (0 : Int32)) := F_ag_2.ext E3
  have E_b1_3 : Exa Z h3 b1 "com/example/treellis/treellis/cfa/StructType$Member" := E_b1_2.ext E3
  have Zs3 : n0 ≤ h3.size := Nat.le_trans Zs2 E3.1
  have Od3 : Old Z n0 h3 := Od2.ext E3
  have F_modCount_b3 : Fld Z h3 b3 "java/util/AbstractList" "modCount" "I" (.int (0 : Int32)) := D3 (Or.inl (hw _ (List.mem_of_getElem? (i := 63) rfl))) (ty := .int) (by decide)
  have F_elementData_b3 : Fld Z h3 b3 "java/util/ArrayList" "elementData" "[Ljava/lang/Object;" .null := D3 (Or.inl (hw _ (List.mem_of_getElem? (i := 66) rfl))) (ty := (.array (.object "java/lang/Object"))) (by decide)
  have F_size_b3 : Fld Z h3 b3 "java/util/ArrayList" "size" "I" (.int (0 : Int32)) := D3 (Or.inl (hw _ (List.mem_of_getElem? (i := 75) rfl))) (ty := .int) (by decide)
  refine own_go st3 ?_
  show own_Goes _ _ _ _ _ _ _ T3 (mkF m 115 #[.val (.int p0), .val (.int p1), .val (.int p2), .val (.int p3), .val (.int p4), .val (.int p5), .val (.ref aK), s7, .val (.ref a8), .val (.int (0 : Int32)), .val (.ref b1), .unset, .unset, .unset] [(.ref b3)])
  refine own_go (fun _ k => XS.dup X3.here hx rfl (hb hby at_115) rfl rfl k) ?_
  show own_Goes _ _ _ _ _ _ _ T3 (mkF m 116 #[.val (.int p0), .val (.int p1), .val (.int p2), .val (.int p3), .val (.int p4), .val (.int p5), .val (.ref aK), s7, .val (.ref a8), .val (.int (0 : Int32)), .val (.ref b1), .unset, .unset, .unset] [(.ref b3), (.ref b3)])
  obtain ⟨_, _, ⟨T4, L4, k4, n4⟩, -, X4, ⟨Lc4, hQ4, l4, y4, z4⟩, st4⟩ := X3.specialBack hx (y := (⟨"java/util/ArrayList", "<init>", "()V"⟩ : MethodName)) rfl hown (mvT hZ (hw _ (List.mem_of_getElem? (i := 46) rfl))) (mvT hZ (hw _ (List.mem_of_getElem? (i := 47) rfl))) (mvT hZ (hw _ (List.mem_of_getElem? (i := 48) rfl))) (by decide) (backOf (W := 1) (rm_al l Z a0 hw [] b3 aD h3 n0 Zs3 A3 F_modCount_b3 F_size_b3 F_elementData_b3 lo_b3 SD Od3) hZ (hw _ (List.mem_of_getElem? (i := 48) rfl)) (hw _ (List.mem_of_getElem? (i := 45) rfl)) (by decide) (by decide)) (g := (mkF m 116 #[.val (.int p0), .val (.int p1), .val (.int p2), .val (.int p3), .val (.int p4), .val (.int p5), .val (.ref aK), s7, .val (.ref a8), .val (.int (0 : Int32)), .val (.ref b1), .unset, .unset, .unset] [(.ref b3), (.ref b3)])) rfl (by rw [hml]; rfl) (Steps.refl _) (a := b3) (argsL := []) (rest := [(.ref b3)]) (lenOf pd_0 rfl) rfl (by show 2 * 0 + _ ≤ _; exact Nat.le_of_eq rfl) (hb hby at_116) (fun _ _ => ⟨rfl, e3, (by decide : 3 + 1 + 0 + 1 + 0 ≤ _), (by decide : 10 + 4 + 0 + 3 + 0 ≤ _)⟩)
  dsimp only [Pt.U, Pt.locs, Pt.cells, Pt.slots] at X4 l4 y4 z4 st4 hQ4
  subst l4 y4 z4
  obtain ⟨rfl, N4q, K4, Fa4, Fb4, Fc4⟩ := hQ4
  have N4 := Fr.app N2 N4q
  refine own_goS st4 ?_
  show own_Goes _ _ _ _ _ _ _ T4 (mkF m 119 #[.val (.int p0), .val (.int p1), .val (.int p2), .val (.int p3), .val (.int p4), .val (.int p5), .val (.ref aK), s7, .val (.ref a8), .val (.int (0 : Int32)), .val (.ref b1), .unset, .unset, .unset] [(.ref b3)])
  have E_a8_4 : Exa Z T4.heap a8 "com/example/treellis/treellis/cfa/StructType" := E_a8_3.keep K4
  have F_mb_4 : Fld Z T4.heap a8 "com/example/treellis/treellis/cfa/StructType" "members" "Ljava/util/List;" .null := F_mb_3.keep K4 (ninS ne_a8_b3 nin0)
  have F_pk_4 : Fld Z T4.heap a8 "com/example/treellis/treellis/cfa/StructType" "packing" "I" (.int (0 : Int32)) := F_pk_3.keep K4 (ninS ne_a8_b3 nin0)
  have F_ag_4 : Fld Z T4.heap a8 "com/example/treellis/treellis/cfa/StructType" "alignment" "I" (.int (0 : Int32)) := F_ag_3.keep K4 (ninS ne_a8_b3 nin0)
  have E_b1_4 : Exa Z T4.heap b1 "com/example/treellis/treellis/cfa/StructType$Member" := E_b1_3.keep K4
  have E_b3_4 : Exa Z T4.heap b3 "java/util/ArrayList" := A3.keep K4
  have Zs4 : n0 ≤ T4.heap.size := Nat.le_trans Zs3 K4.1
  have Od4 : Old Z n0 T4.heap := Od3.keep K4 (allS lo_b3 all0)
  refine own_go (fun _ k => XS.astore X4.here hx rfl (hb hby at_119) rfl rfl (l' := #[.val (.int p0), .val (.int p1), .val (.int p2), .val (.int p3), .val (.int p4), .val (.int p5), .val (.ref aK), s7, .val (.ref a8), .val (.int (0 : Int32)), .val (.ref b1), .val (.ref b3), .unset, .unset]) rfl k) ?_
  show own_Goes _ _ _ _ _ _ _ T4 (mkF m 121 #[.val (.int p0), .val (.int p1), .val (.int p2), .val (.int p3), .val (.int p4), .val (.int p5), .val (.ref aK), s7, .val (.ref a8), .val (.int (0 : Int32)), .val (.ref b1), .val (.ref b3), .unset, .unset] [])
  refine own_go (fun _ k => XS.iload X4.here hx rfl (hb hby at_121) rfl k) ?_
  show own_Goes _ _ _ _ _ _ _ T4 (mkF m 123 #[.val (.int p0), .val (.int p1), .val (.int p2), .val (.int p3), .val (.int p4), .val (.int p5), .val (.ref aK), s7, .val (.ref a8), .val (.int (0 : Int32)), .val (.ref b1), .val (.ref b3), .unset, .unset] [(.int (0 : Int32))])
  refine own_go (fun _ k => XS.iconst X4.here hx rfl (hb hby at_123) k) ?_
  show own_Goes _ _ _ _ _ _ _ T4 (mkF m 124 #[.val (.int p0), .val (.int p1), .val (.int p2), .val (.int p3), .val (.int p4), .val (.int p5), .val (.ref aK), s7, .val (.ref a8), .val (.int (0 : Int32)), .val (.ref b1), .val (.ref b3), .unset, .unset] [(.int (1 : Int32)), (.int (0 : Int32))])
  refine own_go (fun _ k => XS.icmpYes X4.here hx rfl (pc0 := 124) (pc' := 135) rfl (hb hby at_124) rfl (tlt (by decide : (0 : Int32) < (1 : Int32))).1 (by decide) (by decide) k) ?_
  show own_Goes _ _ _ _ _ _ _ T4 (mkF m 135 #[.val (.int p0), .val (.int p1), .val (.int p2), .val (.int p3), .val (.int p4), .val (.int p5), .val (.ref aK), s7, .val (.ref a8), .val (.int (0 : Int32)), .val (.ref b1), .val (.ref b3), .unset, .unset] [])
  refine own_go (fun _ k => XS.iload X4.here hx rfl (hb hby at_135) rfl k) ?_
  show own_Goes _ _ _ _ _ _ _ T4 (mkF m 137 #[.val (.int p0), .val (.int p1), .val (.int p2), .val (.int p3), .val (.int p4), .val (.int p5), .val (.ref aK), s7, .val (.ref a8), .val (.int (0 : Int32)), .val (.ref b1), .val (.ref b3), .unset, .unset] [(.int (0 : Int32))])
  refine own_go (fun _ k => XS.iconst X4.here hx rfl (hb hby at_137) k) ?_
  show own_Goes _ _ _ _ _ _ _ T4 (mkF m 138 #[.val (.int p0), .val (.int p1), .val (.int p2), .val (.int p3), .val (.int p4), .val (.int p5), .val (.ref aK), s7, .val (.ref a8), .val (.int (0 : Int32)), .val (.ref b1), .val (.ref b3), .unset, .unset] [(.int (2 : Int32)), (.int (0 : Int32))])
  refine own_go (fun _ k => XS.icmpYes X4.here hx rfl (pc0 := 138) (pc' := 149) rfl (hb hby at_138) rfl (tlt (by decide : (0 : Int32) < (2 : Int32))).1 (by decide) (by decide) k) ?_
  show own_Goes _ _ _ _ _ _ _ T4 (mkF m 149 #[.val (.int p0), .val (.int p1), .val (.int p2), .val (.int p3), .val (.int p4), .val (.int p5), .val (.ref aK), s7, .val (.ref a8), .val (.int (0 : Int32)), .val (.ref b1), .val (.ref b3), .unset, .unset] [])
  refine own_go (fun _ k => XS.iload X4.here hx rfl (hb hby at_149) rfl k) ?_
  show own_Goes _ _ _ _ _ _ _ T4 (mkF m 151 #[.val (.int p0), .val (.int p1), .val (.int p2), .val (.int p3), .val (.int p4), .val (.int p5), .val (.ref aK), s7, .val (.ref a8), .val (.int (0 : Int32)), .val (.ref b1), .val (.ref b3), .unset, .unset] [(.int (0 : Int32))])
  refine own_go (fun _ k => XS.iconst X4.here hx rfl (hb hby at_151) k) ?_
  show own_Goes _ _ _ _ _ _ _ T4 (mkF m 152 #[.val (.int p0), .val (.int p1), .val (.int p2), .val (.int p3), .val (.int p4), .val (.int p5), .val (.ref aK), s7, .val (.ref a8), .val (.int (0 : Int32)), .val (.ref b1), .val (.ref b3), .unset, .unset] [(.int (3 : Int32)), (.int (0 : Int32))])
  refine own_go (fun _ k => XS.icmpYes X4.here hx rfl (pc0 := 152) (pc' := 163) rfl (hb hby at_152) rfl (tlt (by decide : (0 : Int32) < (3 : Int32))).1 (by decide) (by decide) k) ?_
  show own_Goes _ _ _ _ _ _ _ T4 (mkF m 163 #[.val (.int p0), .val (.int p1), .val (.int p2), .val (.int p3), .val (.int p4), .val (.int p5), .val (.ref aK), s7, .val (.ref a8), .val (.int (0 : Int32)), .val (.ref b1), .val (.ref b3), .unset, .unset] [])
  refine own_go (fun _ k => XS.aload X4.here hx rfl (hb hby at_163) rfl rfl k) ?_
  show own_Goes _ _ _ _ _ _ _ T4 (mkF m 165 #[.val (.int p0), .val (.int p1), .val (.int p2), .val (.int p3), .val (.int p4), .val (.int p5), .val (.ref aK), s7, .val (.ref a8), .val (.int (0 : Int32)), .val (.ref b1), .val (.ref b3), .unset, .unset] [(.ref a8)])
  refine own_go (fun _ k => XS.aload X4.here hx rfl (hb hby at_165) rfl rfl k) ?_
  show own_Goes _ _ _ _ _ _ _ T4 (mkF m 167 #[.val (.int p0), .val (.int p1), .val (.int p2), .val (.int p3), .val (.int p4), .val (.int p5), .val (.ref aK), s7, .val (.ref a8), .val (.int (0 : Int32)), .val (.ref b1), .val (.ref b3), .unset, .unset] [(.ref b3), (.ref a8)])
  refine own_go (fun _ k => XS.iloadN X4.here hx rfl (hb hby at_167) rfl k) ?_
  show own_Goes _ _ _ _ _ _ _ T4 (mkF m 168 #[.val (.int p0), .val (.int p1), .val (.int p2), .val (.int p3), .val (.int p4), .val (.int p5), .val (.ref aK), s7, .val (.ref a8), .val (.int (0 : Int32)), .val (.ref b1), .val (.ref b3), .unset, .unset] [(.int p3), (.ref b3), (.ref a8)])
  refine own_go (fun _ k => XS.iload X4.here hx rfl (hb hby at_168) rfl k) ?_
  show own_Goes _ _ _ _ _ _ _ T4 (mkF m 170 #[.val (.int p0), .val (.int p1), .val (.int p2), .val (.int p3), .val (.int p4), .val (.int p5), .val (.ref aK), s7, .val (.ref a8), .val (.int (0 : Int32)), .val (.ref b1), .val (.ref b3), .unset, .unset] [(.int p4), (.int p3), (.ref b3), (.ref a8)])
  obtain ⟨cq5, kq5, zq5a, zq5b, zq5c⟩ := isOf hZ rfl E_a8_4
  obtain ⟨_, _, ⟨T5, L5, k5, n5⟩, -, X5, ⟨Lc5, hQ5, l5, y5, z5⟩, st5⟩ := X4.virtualBack hx (y := (⟨"com/example/treellis/treellis/cfa/StructType", "complete", "(Ljava/util/List;II)V"⟩ : MethodName)) (z := (⟨"com/example/treellis/treellis/cfa/StructType", "complete", "(Ljava/util/List;II)V"⟩ : MethodName)) hown (mvT hZ (hw _ (List.mem_of_getElem? (i := 98) rfl))) (mvT hZ (hw _ (List.mem_of_getElem? (i := 99) rfl))) (notFace_of_selects (args := #[]) (mvT hZ (hw _ (List.mem_of_getElem? (i := 101) rfl)))) (mvT hZ (hw _ (List.mem_of_getElem? (i := 101) rfl))) (mvT hZ (hw _ (List.mem_of_getElem? (i := 100) rfl))) (by decide) (backOf (W := 0) (rm_cm0 l Z a0 hw [] a8 b3 b1 a8 aM aE aL 0 p3 p4 T4.heap n0 Zs4 E_b3_4 Fb4 E_a8_4 F_mb_4 F_pk_4 F_ag_4 lo_a8 ne_a8_b3 MM SE SL Od4) hZ (hw _ (List.mem_of_getElem? (i := 102) rfl)) (hw _ (List.mem_of_getElem? (i := 5) rfl)) (by decide) (by decide)) zq5a zq5c (g := (mkF m 170 #[.val (.int p0), .val (.int p1), .val (.int p2), .val (.int p3), .val (.int p4), .val (.int p5), .val (.ref aK), s7, .val (.ref a8), .val (.int (0 : Int32)), .val (.ref b1), .val (.ref b3), .unset, .unset] [(.int p4), (.int p3), (.ref b3), (.ref a8)])) rfl (by rw [hml]; rfl) (Steps.refl _) (argsL := [(.ref b3), (.int p3), (.int p4)]) (rest := []) (lenOf pd_19 rfl) rfl (by show 2 * 0 + _ ≤ _; exact Nat.le_of_eq rfl) (hb hby at_170) (fun _ _ => ⟨rfl, rfl, (by decide : 3 + 1 + 0 + 1 + 0 + 0 ≤ _), (by decide : 10 + 4 + 0 + 3 + 0 + 0 ≤ _)⟩)
  dsimp only [Pt.U, Pt.locs, Pt.cells, Pt.slots] at X5 l5 y5 z5 st5 hQ5
  subst l5 y5 z5
  obtain ⟨rfl, N5q, K5, Fa5, Fb5, Fc5⟩ := hQ5
  have N5 := Fr.app N4 N5q
  refine own_goS st5 ?_
  show own_Goes _ _ _ _ _ _ _ T5 (mkF m 173 #[.val (.int p0), .val (.int p1), .val (.int p2), .val (.int p3), .val (.int p4), .val (.int p5), .val (.ref aK), s7, .val (.ref a8), .val (.int (0 : Int32)), .val (.ref b1), .val (.ref b3), .unset, .unset] [])
  have E_a8_5 : Exa Z T5.heap a8 "com/example/treellis/treellis/cfa/StructType" := E_a8_4.keep K5
  have E_b1_5 : Exa Z T5.heap b1 "com/example/treellis/treellis/cfa/StructType$Member" := E_b1_4.keep K5
  have E_b3_5 : Exa Z T5.heap b3 "java/util/ArrayList" := E_b3_4.keep K5
  have L_modCount_5 : Fld Z T5.heap b3 "java/util/AbstractList" "modCount" "I" (.int (0 : Int32)) := Fa4.keep K5 (ninS (Ne.symm ne_a8_b3) nin0)
  have L_size_5 : Fld Z T5.heap b3 "java/util/ArrayList" "size" "I" (.int (0 : Int32)) := Fb4.keep K5 (ninS (Ne.symm ne_a8_b3) nin0)
  have L_elementData_5 : Fld Z T5.heap b3 "java/util/ArrayList" "elementData" "[Ljava/lang/Object;" (.ref aD) := Fc4.keep K5 (ninS (Ne.symm ne_a8_b3) nin0)
  have Zs5 : n0 ≤ T5.heap.size := Nat.le_trans Zs4 K5.1
  have Od5 : Old Z n0 T5.heap := Od4.keep K5 (allS lo_a8 all0)
  refine own_go (fun _ k => XS.aload X5.here hx rfl (hb hby at_173) rfl rfl k) ?_
  show own_Goes _ _ _ _ _ _ _ T5 (mkF m 175 #[.val (.int p0), .val (.int p1), .val (.int p2), .val (.int p3), .val (.int p4), .val (.int p5), .val (.ref aK), s7, .val (.ref a8), .val (.int (0 : Int32)), .val (.ref b1), .val (.ref b3), .unset, .unset] [(.ref a8)])
  obtain ⟨cq6, kq6, zq6a, zq6b, zq6c⟩ := isOf hZ rfl E_a8_5
  obtain ⟨_, _, ⟨T6, L6, k6, n6⟩, -, X6, ⟨Lc6, hQ6, l6, y6, z6⟩, st6⟩ := X5.virtualBack hx (y := (⟨"com/example/treellis/treellis/cfa/StructType", "isComplete", "()Z"⟩ : MethodName)) (z := (⟨"com/example/treellis/treellis/cfa/StructType", "isComplete", "()Z"⟩ : MethodName)) hown (mvT hZ (hw _ (List.mem_of_getElem? (i := 16) rfl))) (mvT hZ (hw _ (List.mem_of_getElem? (i := 17) rfl))) (notFace_of_selects (args := #[]) (mvT hZ (hw _ (List.mem_of_getElem? (i := 19) rfl)))) (mvT hZ (hw _ (List.mem_of_getElem? (i := 19) rfl))) (mvT hZ (hw _ (List.mem_of_getElem? (i := 18) rfl))) (by decide) (backOf (W := 0) (rm_icR l Z a0 hw [] a8 aL T5.heap n0 Zs5 Fa5) hZ (hw _ (List.mem_of_getElem? (i := 20) rfl)) (hw _ (List.mem_of_getElem? (i := 5) rfl)) (by decide) (by decide)) zq6a zq6c (g := (mkF m 175 #[.val (.int p0), .val (.int p1), .val (.int p2), .val (.int p3), .val (.int p4), .val (.int p5), .val (.ref aK), s7, .val (.ref a8), .val (.int (0 : Int32)), .val (.ref b1), .val (.ref b3), .unset, .unset] [(.ref a8)])) rfl (by rw [hml]; rfl) (Steps.refl _) (argsL := []) (rest := []) (lenOf pd_12 rfl) rfl (by show 2 * 0 + _ ≤ _; exact Nat.le_of_eq rfl) (hb hby at_175) (fun _ _ => ⟨rfl, rfl, (by decide : 3 + 1 + 0 + 1 + 0 + 0 + 0 ≤ _), (by decide : 10 + 4 + 0 + 3 + 0 + 0 + 0 ≤ _)⟩)
  dsimp only [Pt.U, Pt.locs, Pt.cells, Pt.slots] at X6 l6 y6 z6 st6 hQ6
  subst l6 y6 z6
  obtain ⟨rfl, N6q, e6⟩ := hQ6
  have N6 := Fr.app N5 N6q
  refine own_goS st6 ?_
  show own_Goes _ _ _ _ _ _ _ T6 (mkF m 178 #[.val (.int p0), .val (.int p1), .val (.int p2), .val (.int p3), .val (.int p4), .val (.int p5), .val (.ref aK), s7, .val (.ref a8), .val (.int (0 : Int32)), .val (.ref b1), .val (.ref b3), .unset, .unset] [(.int (1 : Int32))])
  refine own_go (fun _ k => XS.istore X6.here hx rfl (hb hby at_178) rfl (l' := #[.val (.int p0), .val (.int p1), .val (.int p2), .val (.int p3), .val (.int p4), .val (.int p5), .val (.ref aK), s7, .val (.ref a8), .val (.int (0 : Int32)), .val (.ref b1), .val (.ref b3), .val (.int (1 : Int32)), .unset]) rfl k) ?_
  show own_Goes _ _ _ _ _ _ _ T6 (mkF m 180 #[.val (.int p0), .val (.int p1), .val (.int p2), .val (.int p3), .val (.int p4), .val (.int p5), .val (.ref aK), s7, .val (.ref a8), .val (.int (0 : Int32)), .val (.ref b1), .val (.ref b3), .val (.int (1 : Int32)), .unset] [])
  refine own_go (fun _ k => XS.aload X6.here hx rfl (hb hby at_180) rfl rfl k) ?_
  show own_Goes _ _ _ _ _ _ _ T6 (mkF m 182 #[.val (.int p0), .val (.int p1), .val (.int p2), .val (.int p3), .val (.int p4), .val (.int p5), .val (.ref aK), s7, .val (.ref a8), .val (.int (0 : Int32)), .val (.ref b1), .val (.ref b3), .val (.int (1 : Int32)), .unset] [(.ref a8)])
  obtain ⟨cq7, kq7, zq7a, zq7b, zq7c⟩ := isOf hZ e6 E_a8_5
  obtain ⟨_, _, ⟨T7, L7, k7, n7⟩, -, X7, ⟨Lc7, hQ7, l7, y7, z7⟩, st7⟩ := X6.virtualBack hx (y := (⟨"com/example/treellis/treellis/cfa/StructType", "isComplete", "()Z"⟩ : MethodName)) (z := (⟨"com/example/treellis/treellis/cfa/StructType", "isComplete", "()Z"⟩ : MethodName)) hown (mvT hZ (hw _ (List.mem_of_getElem? (i := 16) rfl))) (mvT hZ (hw _ (List.mem_of_getElem? (i := 17) rfl))) (notFace_of_selects (args := #[]) (mvT hZ (hw _ (List.mem_of_getElem? (i := 19) rfl)))) (mvT hZ (hw _ (List.mem_of_getElem? (i := 19) rfl))) (mvT hZ (hw _ (List.mem_of_getElem? (i := 18) rfl))) (by decide) (backOf (W := 0) (rm_icR l Z a0 hw [] a8 aL T5.heap n0 Zs5 Fa5) hZ (hw _ (List.mem_of_getElem? (i := 20) rfl)) (hw _ (List.mem_of_getElem? (i := 5) rfl)) (by decide) (by decide)) zq7a zq7c (g := (mkF m 182 #[.val (.int p0), .val (.int p1), .val (.int p2), .val (.int p3), .val (.int p4), .val (.int p5), .val (.ref aK), s7, .val (.ref a8), .val (.int (0 : Int32)), .val (.ref b1), .val (.ref b3), .val (.int (1 : Int32)), .unset] [(.ref a8)])) rfl (by rw [hml]; rfl) (Steps.refl _) (argsL := []) (rest := []) (lenOf pd_12 rfl) rfl (by show 2 * 0 + _ ≤ _; exact Nat.le_of_eq rfl) (hb hby at_182) (fun _ _ => ⟨rfl, e6, (by decide : 3 + 1 + 0 + 1 + 0 + 0 + 0 + 0 ≤ _), (by decide : 10 + 4 + 0 + 3 + 0 + 0 + 0 + 0 ≤ _)⟩)
  dsimp only [Pt.U, Pt.locs, Pt.cells, Pt.slots] at X7 l7 y7 z7 st7 hQ7
  subst l7 y7 z7
  obtain ⟨rfl, N7q, e7⟩ := hQ7
  have N7 := Fr.app N6 N7q
  refine own_goS st7 ?_
  show own_Goes _ _ _ _ _ _ _ T7 (mkF m 185 #[.val (.int p0), .val (.int p1), .val (.int p2), .val (.int p3), .val (.int p4), .val (.int p5), .val (.ref aK), s7, .val (.ref a8), .val (.int (0 : Int32)), .val (.ref b1), .val (.ref b3), .val (.int (1 : Int32)), .unset] [(.int (1 : Int32))])
  refine own_go (fun _ k => XS.istore X7.here hx rfl (hb hby at_185) rfl (l' := #[.val (.int p0), .val (.int p1), .val (.int p2), .val (.int p3), .val (.int p4), .val (.int p5), .val (.ref aK), s7, .val (.ref a8), .val (.int (0 : Int32)), .val (.ref b1), .val (.ref b3), .val (.int (1 : Int32)), .val (.int (1 : Int32))]) rfl k) ?_
  show own_Goes _ _ _ _ _ _ _ T7 (mkF m 187 #[.val (.int p0), .val (.int p1), .val (.int p2), .val (.int p3), .val (.int p4), .val (.int p5), .val (.ref aK), s7, .val (.ref a8), .val (.int (0 : Int32)), .val (.ref b1), .val (.ref b3), .val (.int (1 : Int32)), .val (.int (1 : Int32))] [])
  refine own_go (fun _ k => XS.iload X7.here hx rfl (hb hby at_187) rfl k) ?_
  show own_Goes _ _ _ _ _ _ _ T7 (mkF m 189 #[.val (.int p0), .val (.int p1), .val (.int p2), .val (.int p3), .val (.int p4), .val (.int p5), .val (.ref aK), s7, .val (.ref a8), .val (.int (0 : Int32)), .val (.ref b1), .val (.ref b3), .val (.int (1 : Int32)), .val (.int (1 : Int32))] [(.int (1 : Int32))])
  refine own_go (fun _ k => XS.ifNo X7.here hx rfl (hb hby at_189) rfl ((if0 _ _).trans (feq (by decide : ¬ ((1 : Int32) = (0 : Int32)))).1) k) ?_
  show own_Goes _ _ _ _ _ _ _ T7 (mkF m 192 #[.val (.int p0), .val (.int p1), .val (.int p2), .val (.int p3), .val (.int p4), .val (.int p5), .val (.ref aK), s7, .val (.ref a8), .val (.int (0 : Int32)), .val (.ref b1), .val (.ref b3), .val (.int (1 : Int32)), .val (.int (1 : Int32))] [])
  refine own_go (fun _ k => XS.iload X7.here hx rfl (hb hby at_192) rfl k) ?_
  show own_Goes _ _ _ _ _ _ _ T7 (mkF m 194 #[.val (.int p0), .val (.int p1), .val (.int p2), .val (.int p3), .val (.int p4), .val (.int p5), .val (.ref aK), s7, .val (.ref a8), .val (.int (0 : Int32)), .val (.ref b1), .val (.ref b3), .val (.int (1 : Int32)), .val (.int (1 : Int32))] [(.int (1 : Int32))])
  refine own_go (fun _ k => XS.ifNo X7.here hx rfl (hb hby at_194) rfl ((if0 _ _).trans (feq (by decide : ¬ ((1 : Int32) = (0 : Int32)))).1) k) ?_
  show own_Goes _ _ _ _ _ _ _ T7 (mkF m 197 #[.val (.int p0), .val (.int p1), .val (.int p2), .val (.int p3), .val (.int p4), .val (.int p5), .val (.ref aK), s7, .val (.ref a8), .val (.int (0 : Int32)), .val (.ref b1), .val (.ref b3), .val (.int (1 : Int32)), .val (.int (1 : Int32))] [])
  refine own_go (fun _ k => XS.aload X7.here hx rfl (hb hby at_197) rfl rfl k) ?_
  show own_Goes _ _ _ _ _ _ _ T7 (mkF m 199 #[.val (.int p0), .val (.int p1), .val (.int p2), .val (.int p3), .val (.int p4), .val (.int p5), .val (.ref aK), s7, .val (.ref a8), .val (.int (0 : Int32)), .val (.ref b1), .val (.ref b3), .val (.int (1 : Int32)), .val (.int (1 : Int32))] [(.ref a8)])
  obtain ⟨cq8, kq8, zq8a, zq8b, zq8c⟩ := isOf hZ e7 E_a8_5
  obtain ⟨_, _, ⟨T8, L8, k8, n8⟩, -, X8, ⟨Lc8, hQ8, l8, y8, z8⟩, st8⟩ := X7.virtualBack hx (y := (⟨"com/example/treellis/treellis/cfa/StructType", "members", "()Ljava/util/List;"⟩ : MethodName)) (z := (⟨"com/example/treellis/treellis/cfa/StructType", "members", "()Ljava/util/List;"⟩ : MethodName)) hown (mvT hZ (hw _ (List.mem_of_getElem? (i := 23) rfl))) (mvT hZ (hw _ (List.mem_of_getElem? (i := 24) rfl))) (notFace_of_selects (args := #[]) (mvT hZ (hw _ (List.mem_of_getElem? (i := 26) rfl)))) (mvT hZ (hw _ (List.mem_of_getElem? (i := 26) rfl))) (mvT hZ (hw _ (List.mem_of_getElem? (i := 25) rfl))) (by decide) (backOf (W := 0) (rm_mbR l Z a0 hw [] a8 aL T5.heap n0 Zs5 Fa5) hZ (hw _ (List.mem_of_getElem? (i := 27) rfl)) (hw _ (List.mem_of_getElem? (i := 5) rfl)) (by decide) (by decide)) zq8a zq8c (g := (mkF m 199 #[.val (.int p0), .val (.int p1), .val (.int p2), .val (.int p3), .val (.int p4), .val (.int p5), .val (.ref aK), s7, .val (.ref a8), .val (.int (0 : Int32)), .val (.ref b1), .val (.ref b3), .val (.int (1 : Int32)), .val (.int (1 : Int32))] [(.ref a8)])) rfl (by rw [hml]; rfl) (Steps.refl _) (argsL := []) (rest := []) (lenOf pd_13 rfl) rfl (by show 2 * 0 + _ ≤ _; exact Nat.le_of_eq rfl) (hb hby at_199) (fun _ _ => ⟨rfl, e7, (by decide : 3 + 1 + 0 + 1 + 0 + 0 + 0 + 0 + 0 ≤ _), (by decide : 10 + 4 + 0 + 3 + 0 + 0 + 0 + 0 + 0 ≤ _)⟩)
  dsimp only [Pt.U, Pt.locs, Pt.cells, Pt.slots] at X8 l8 y8 z8 st8 hQ8
  subst l8 y8 z8
  obtain ⟨rfl, N8q, e8⟩ := hQ8
  have N8 := Fr.app N7 N8q
  refine own_goS st8 ?_
  show own_Goes _ _ _ _ _ _ _ T8 (mkF m 202 #[.val (.int p0), .val (.int p1), .val (.int p2), .val (.int p3), .val (.int p4), .val (.int p5), .val (.ref aK), s7, .val (.ref a8), .val (.int (0 : Int32)), .val (.ref b1), .val (.ref b3), .val (.int (1 : Int32)), .val (.int (1 : Int32))] [(.ref aL)])
  refine own_go (fun _ k => XS.ifnullNo X8.here hx rfl (hb hby at_202) rfl k) ?_
  show own_Goes _ _ _ _ _ _ _ T8 (mkF m 205 #[.val (.int p0), .val (.int p1), .val (.int p2), .val (.int p3), .val (.int p4), .val (.int p5), .val (.ref aK), s7, .val (.ref a8), .val (.int (0 : Int32)), .val (.ref b1), .val (.ref b3), .val (.int (1 : Int32)), .val (.int (1 : Int32))] [])
  refine own_go (fun _ k => XS.aload X8.here hx rfl (hb hby at_205) rfl rfl k) ?_
  show own_Goes _ _ _ _ _ _ _ T8 (mkF m 207 #[.val (.int p0), .val (.int p1), .val (.int p2), .val (.int p3), .val (.int p4), .val (.int p5), .val (.ref aK), s7, .val (.ref a8), .val (.int (0 : Int32)), .val (.ref b1), .val (.ref b3), .val (.int (1 : Int32)), .val (.int (1 : Int32))] [(.ref a8)])
  obtain ⟨cq9, kq9, zq9a, zq9b, zq9c⟩ := isOf hZ e8 E_a8_5
  obtain ⟨_, _, ⟨T9, L9, k9, n9⟩, -, X9, ⟨Lc9, hQ9, l9, y9, z9⟩, st9⟩ := X8.virtualBack hx (y := (⟨"com/example/treellis/treellis/cfa/StructType", "members", "()Ljava/util/List;"⟩ : MethodName)) (z := (⟨"com/example/treellis/treellis/cfa/StructType", "members", "()Ljava/util/List;"⟩ : MethodName)) hown (mvT hZ (hw _ (List.mem_of_getElem? (i := 23) rfl))) (mvT hZ (hw _ (List.mem_of_getElem? (i := 24) rfl))) (notFace_of_selects (args := #[]) (mvT hZ (hw _ (List.mem_of_getElem? (i := 26) rfl)))) (mvT hZ (hw _ (List.mem_of_getElem? (i := 26) rfl))) (mvT hZ (hw _ (List.mem_of_getElem? (i := 25) rfl))) (by decide) (backOf (W := 0) (rm_mbR l Z a0 hw [] a8 aL T5.heap n0 Zs5 Fa5) hZ (hw _ (List.mem_of_getElem? (i := 27) rfl)) (hw _ (List.mem_of_getElem? (i := 5) rfl)) (by decide) (by decide)) zq9a zq9c (g := (mkF m 207 #[.val (.int p0), .val (.int p1), .val (.int p2), .val (.int p3), .val (.int p4), .val (.int p5), .val (.ref aK), s7, .val (.ref a8), .val (.int (0 : Int32)), .val (.ref b1), .val (.ref b3), .val (.int (1 : Int32)), .val (.int (1 : Int32))] [(.ref a8)])) rfl (by rw [hml]; rfl) (Steps.refl _) (argsL := []) (rest := []) (lenOf pd_13 rfl) rfl (by show 2 * 0 + _ ≤ _; exact Nat.le_of_eq rfl) (hb hby at_207) (fun _ _ => ⟨rfl, e8, (by decide : 3 + 1 + 0 + 1 + 0 + 0 + 0 + 0 + 0 + 0 ≤ _), (by decide : 10 + 4 + 0 + 3 + 0 + 0 + 0 + 0 + 0 + 0 ≤ _)⟩)
  dsimp only [Pt.U, Pt.locs, Pt.cells, Pt.slots] at X9 l9 y9 z9 st9 hQ9
  subst l9 y9 z9
  obtain ⟨rfl, N9q, e9⟩ := hQ9
  have N9 := Fr.app N8 N9q
  refine own_goS st9 ?_
  show own_Goes _ _ _ _ _ _ _ T9 (mkF m 210 #[.val (.int p0), .val (.int p1), .val (.int p2), .val (.int p3), .val (.int p4), .val (.int p5), .val (.ref aK), s7, .val (.ref a8), .val (.int (0 : Int32)), .val (.ref b1), .val (.ref b3), .val (.int (1 : Int32)), .val (.int (1 : Int32))] [(.ref aL)])
  obtain ⟨cq10, kq10, zq10a, zq10b, zq10c⟩ := isOf hZ e9 (EL.ext Od5.2)
  obtain ⟨_, _, ⟨T10, L10, k10, n10⟩, -, X10, ⟨Lc10, hQ10, l10, y10, z10⟩, st10⟩ := X9.interfaceBack hx (xi := (⟨"java/util/List", "size", "()I"⟩ : MethodName)) (y := (⟨"java/util/ImmutableCollections$ListN", "size", "()I"⟩ : MethodName)) hown (mvT hZ (hw _ (List.mem_of_getElem? (i := 192) rfl))) (mvT hZ (hw _ (List.mem_of_getElem? (i := 193) rfl))) (mvT hZ (hw _ (List.mem_of_getElem? (i := 194) rfl))) (mvT hZ (hw _ (List.mem_of_getElem? (i := 260) rfl))) (mvT hZ (hw _ (List.mem_of_getElem? (i := 261) rfl))) (mvT hZ (hw _ (List.mem_of_getElem? (i := 262) rfl))) (mvT hZ (hw _ (List.mem_of_getElem? (i := 263) rfl))) (mvT hZ (hw _ (List.mem_of_getElem? (i := 264) rfl))) (by decide) (backOf (W := 0) (rm_sN l Z a0 hw [] aL aX cX (0 : Int32) T5.heap n0 Zs5 (FL.ext Od5.2) (AX.ext Od5.2) zX) hZ (hw _ (List.mem_of_getElem? (i := 265) rfl)) (hw _ (List.mem_of_getElem? (i := 247) rfl)) (by decide) (by decide)) zq10a zq10b zq10c (g := (mkF m 210 #[.val (.int p0), .val (.int p1), .val (.int p2), .val (.int p3), .val (.int p4), .val (.int p5), .val (.ref aK), s7, .val (.ref a8), .val (.int (0 : Int32)), .val (.ref b1), .val (.ref b3), .val (.int (1 : Int32)), .val (.int (1 : Int32))] [(.ref aL)])) rfl (by rw [hml]; rfl) (Steps.refl _) (argsL := []) (rest := []) (lenOf pd_20 rfl) rfl (by show 2 * 0 + _ ≤ _; exact Nat.le_of_eq rfl) (hb hby at_210) (fun _ _ => ⟨rfl, e9, (by decide : 3 + 1 + 0 + 1 + 0 + 0 + 0 + 0 + 0 + 0 + 0 ≤ _), (by decide : 10 + 4 + 0 + 3 + 0 + 0 + 0 + 0 + 0 + 0 + 0 ≤ _)⟩)
  dsimp only [Pt.U, Pt.locs, Pt.cells, Pt.slots] at X10 l10 y10 z10 st10 hQ10
  subst l10 y10 z10
  obtain ⟨rfl, N10q, e10⟩ := hQ10
  have N10 := Fr.app N9 N10q
  refine own_goS st10 ?_
  show own_Goes _ _ _ _ _ _ _ T10 (mkF m 215 #[.val (.int p0), .val (.int p1), .val (.int p2), .val (.int p3), .val (.int p4), .val (.int p5), .val (.ref aK), s7, .val (.ref a8), .val (.int (0 : Int32)), .val (.ref b1), .val (.ref b3), .val (.int (1 : Int32)), .val (.int (1 : Int32))] [(.int (0 : Int32))])
  refine own_go (fun _ k => XS.iload X10.here hx rfl (hb hby at_215) rfl k) ?_
  show own_Goes _ _ _ _ _ _ _ T10 (mkF m 217 #[.val (.int p0), .val (.int p1), .val (.int p2), .val (.int p3), .val (.int p4), .val (.int p5), .val (.ref aK), s7, .val (.ref a8), .val (.int (0 : Int32)), .val (.ref b1), .val (.ref b3), .val (.int (1 : Int32)), .val (.int (1 : Int32))] [(.int (0 : Int32)), (.int (0 : Int32))])
  refine own_go (fun _ k => XS.icmpNo X10.here hx rfl (hb hby at_217) rfl (teq (by decide : (0 : Int32) = (0 : Int32))).2 k) ?_
  show own_Goes _ _ _ _ _ _ _ T10 (mkF m 220 #[.val (.int p0), .val (.int p1), .val (.int p2), .val (.int p3), .val (.int p4), .val (.int p5), .val (.ref aK), s7, .val (.ref a8), .val (.int (0 : Int32)), .val (.ref b1), .val (.ref b3), .val (.int (1 : Int32)), .val (.int (1 : Int32))] [])
  refine own_go (fun _ k => XS.aload X10.here hx rfl (hb hby at_220) rfl rfl k) ?_
  show own_Goes _ _ _ _ _ _ _ T10 (mkF m 222 #[.val (.int p0), .val (.int p1), .val (.int p2), .val (.int p3), .val (.int p4), .val (.int p5), .val (.ref aK), s7, .val (.ref a8), .val (.int (0 : Int32)), .val (.ref b1), .val (.ref b3), .val (.int (1 : Int32)), .val (.int (1 : Int32))] [(.ref a8)])
  obtain ⟨cq11, kq11, zq11a, zq11b, zq11c⟩ := isOf hZ e10 E_a8_5
  obtain ⟨_, _, ⟨T11, L11, k11, n11⟩, -, X11, ⟨Lc11, hQ11, l11, y11, z11⟩, st11⟩ := X10.virtualBack hx (y := (⟨"com/example/treellis/treellis/cfa/StructType", "packing", "()I"⟩ : MethodName)) (z := (⟨"com/example/treellis/treellis/cfa/StructType", "packing", "()I"⟩ : MethodName)) hown (mvT hZ (hw _ (List.mem_of_getElem? (i := 202) rfl))) (mvT hZ (hw _ (List.mem_of_getElem? (i := 203) rfl))) (notFace_of_selects (args := #[]) (mvT hZ (hw _ (List.mem_of_getElem? (i := 205) rfl)))) (mvT hZ (hw _ (List.mem_of_getElem? (i := 205) rfl))) (mvT hZ (hw _ (List.mem_of_getElem? (i := 204) rfl))) (by decide) (backOf (W := 0) (rm_packing l Z a0 hw [] a8 p3 T5.heap n0 Zs5 Fb5) hZ (hw _ (List.mem_of_getElem? (i := 206) rfl)) (hw _ (List.mem_of_getElem? (i := 5) rfl)) (by decide) (by decide)) zq11a zq11c (g := (mkF m 222 #[.val (.int p0), .val (.int p1), .val (.int p2), .val (.int p3), .val (.int p4), .val (.int p5), .val (.ref aK), s7, .val (.ref a8), .val (.int (0 : Int32)), .val (.ref b1), .val (.ref b3), .val (.int (1 : Int32)), .val (.int (1 : Int32))] [(.ref a8)])) rfl (by rw [hml]; rfl) (Steps.refl _) (argsL := []) (rest := []) (lenOf pd_20 rfl) rfl (by show 2 * 0 + _ ≤ _; exact Nat.le_of_eq rfl) (hb hby at_222) (fun _ _ => ⟨rfl, e10, (by decide : 3 + 1 + 0 + 1 + 0 + 0 + 0 + 0 + 0 + 0 + 0 + 0 ≤ _), (by decide : 10 + 4 + 0 + 3 + 0 + 0 + 0 + 0 + 0 + 0 + 0 + 0 ≤ _)⟩)
  dsimp only [Pt.U, Pt.locs, Pt.cells, Pt.slots] at X11 l11 y11 z11 st11 hQ11
  subst l11 y11 z11
  obtain ⟨rfl, N11q, e11⟩ := hQ11
  have N11 := Fr.app N10 N11q
  refine own_goS st11 ?_
  show own_Goes _ _ _ _ _ _ _ T11 (mkF m 225 #[.val (.int p0), .val (.int p1), .val (.int p2), .val (.int p3), .val (.int p4), .val (.int p5), .val (.ref aK), s7, .val (.ref a8), .val (.int (0 : Int32)), .val (.ref b1), .val (.ref b3), .val (.int (1 : Int32)), .val (.int (1 : Int32))] [(.int p3)])
  refine own_go (fun _ k => XS.iloadN X11.here hx rfl (hb hby at_225) rfl k) ?_
  show own_Goes _ _ _ _ _ _ _ T11 (mkF m 226 #[.val (.int p0), .val (.int p1), .val (.int p2), .val (.int p3), .val (.int p4), .val (.int p5), .val (.ref aK), s7, .val (.ref a8), .val (.int (0 : Int32)), .val (.ref b1), .val (.ref b3), .val (.int (1 : Int32)), .val (.int (1 : Int32))] [(.int p3), (.int p3)])
  refine own_go (fun _ k => XS.icmpNo X11.here hx rfl (hb hby at_226) rfl (teq rfl).2 k) ?_
  show own_Goes _ _ _ _ _ _ _ T11 (mkF m 229 #[.val (.int p0), .val (.int p1), .val (.int p2), .val (.int p3), .val (.int p4), .val (.int p5), .val (.ref aK), s7, .val (.ref a8), .val (.int (0 : Int32)), .val (.ref b1), .val (.ref b3), .val (.int (1 : Int32)), .val (.int (1 : Int32))] [])
  refine own_go (fun _ k => XS.aload X11.here hx rfl (hb hby at_229) rfl rfl k) ?_
  show own_Goes _ _ _ _ _ _ _ T11 (mkF m 231 #[.val (.int p0), .val (.int p1), .val (.int p2), .val (.int p3), .val (.int p4), .val (.int p5), .val (.ref aK), s7, .val (.ref a8), .val (.int (0 : Int32)), .val (.ref b1), .val (.ref b3), .val (.int (1 : Int32)), .val (.int (1 : Int32))] [(.ref a8)])
  obtain ⟨cq12, kq12, zq12a, zq12b, zq12c⟩ := isOf hZ e11 E_a8_5
  obtain ⟨_, _, ⟨T12, L12, k12, n12⟩, -, X12, ⟨Lc12, hQ12, l12, y12, z12⟩, st12⟩ := X11.virtualBack hx (y := (⟨"com/example/treellis/treellis/cfa/StructType", "alignment", "()I"⟩ : MethodName)) (z := (⟨"com/example/treellis/treellis/cfa/StructType", "alignment", "()I"⟩ : MethodName)) hown (mvT hZ (hw _ (List.mem_of_getElem? (i := 207) rfl))) (mvT hZ (hw _ (List.mem_of_getElem? (i := 208) rfl))) (notFace_of_selects (args := #[]) (mvT hZ (hw _ (List.mem_of_getElem? (i := 210) rfl)))) (mvT hZ (hw _ (List.mem_of_getElem? (i := 210) rfl))) (mvT hZ (hw _ (List.mem_of_getElem? (i := 209) rfl))) (by decide) (backOf (W := 0) (rm_alignment l Z a0 hw [] a8 p4 T5.heap n0 Zs5 Fc5) hZ (hw _ (List.mem_of_getElem? (i := 211) rfl)) (hw _ (List.mem_of_getElem? (i := 5) rfl)) (by decide) (by decide)) zq12a zq12c (g := (mkF m 231 #[.val (.int p0), .val (.int p1), .val (.int p2), .val (.int p3), .val (.int p4), .val (.int p5), .val (.ref aK), s7, .val (.ref a8), .val (.int (0 : Int32)), .val (.ref b1), .val (.ref b3), .val (.int (1 : Int32)), .val (.int (1 : Int32))] [(.ref a8)])) rfl (by rw [hml]; rfl) (Steps.refl _) (argsL := []) (rest := []) (lenOf pd_20 rfl) rfl (by show 2 * 0 + _ ≤ _; exact Nat.le_of_eq rfl) (hb hby at_231) (fun _ _ => ⟨rfl, e11, (by decide : 3 + 1 + 0 + 1 + 0 + 0 + 0 + 0 + 0 + 0 + 0 + 0 + 0 ≤ _), (by decide : 10 + 4 + 0 + 3 + 0 + 0 + 0 + 0 + 0 + 0 + 0 + 0 + 0 ≤ _)⟩)
  dsimp only [Pt.U, Pt.locs, Pt.cells, Pt.slots] at X12 l12 y12 z12 st12 hQ12
  subst l12 y12 z12
  obtain ⟨rfl, N12q, e12⟩ := hQ12
  have N12 := Fr.app N11 N12q
  refine own_goS st12 ?_
  show own_Goes _ _ _ _ _ _ _ T12 (mkF m 234 #[.val (.int p0), .val (.int p1), .val (.int p2), .val (.int p3), .val (.int p4), .val (.int p5), .val (.ref aK), s7, .val (.ref a8), .val (.int (0 : Int32)), .val (.ref b1), .val (.ref b3), .val (.int (1 : Int32)), .val (.int (1 : Int32))] [(.int p4)])
  refine own_go (fun _ k => XS.iload X12.here hx rfl (hb hby at_234) rfl k) ?_
  show own_Goes _ _ _ _ _ _ _ T12 (mkF m 236 #[.val (.int p0), .val (.int p1), .val (.int p2), .val (.int p3), .val (.int p4), .val (.int p5), .val (.ref aK), s7, .val (.ref a8), .val (.int (0 : Int32)), .val (.ref b1), .val (.ref b3), .val (.int (1 : Int32)), .val (.int (1 : Int32))] [(.int p4), (.int p4)])
  refine own_go (fun _ k => XS.icmpNo X12.here hx rfl (hb hby at_236) rfl (teq rfl).2 k) ?_
  show own_Goes _ _ _ _ _ _ _ T12 (mkF m 239 #[.val (.int p0), .val (.int p1), .val (.int p2), .val (.int p3), .val (.int p4), .val (.int p5), .val (.ref aK), s7, .val (.ref a8), .val (.int (0 : Int32)), .val (.ref b1), .val (.ref b3), .val (.int (1 : Int32)), .val (.int (1 : Int32))] [])
  refine own_go (fun _ k => XS.iconst X12.here hx rfl (hb hby at_239) k) ?_
  show own_Goes _ _ _ _ _ _ _ T12 (mkF m 240 #[.val (.int p0), .val (.int p1), .val (.int p2), .val (.int p3), .val (.int p4), .val (.int p5), .val (.ref aK), s7, .val (.ref a8), .val (.int (0 : Int32)), .val (.ref b1), .val (.ref b3), .val (.int (1 : Int32)), .val (.int (1 : Int32))] [(.int (1 : Int32))])
  refine own_go (fun _ k => XS.goto X12.here hx rfl (pc0 := 240) (pc' := 244) rfl (hb hby at_240) (by decide) (by decide) k) ?_
  show own_Goes _ _ _ _ _ _ _ T12 (mkF m 244 #[.val (.int p0), .val (.int p1), .val (.int p2), .val (.int p3), .val (.int p4), .val (.int p5), .val (.ref aK), s7, .val (.ref a8), .val (.int (0 : Int32)), .val (.ref b1), .val (.ref b3), .val (.int (1 : Int32)), .val (.int (1 : Int32))] [(.int (1 : Int32))])
  exact own_retN X12 hx (t := .boolean) hlk hret (by simp) (hb hby at_244) (by decide) (by decide) ⟨rfl, N12⟩
set_option maxRecDepth 65536 in
set_option maxHeartbeats 40000000 in
theorem seg98_1 {p : Program} {l : Launch} {e : Env} {s : State} {m : MethodId} {args : Array Value} {below : List Frame} {meth : Method} {c : Code} {s₁ : State} {locs : List Loc} {Z : State} {a0 : Array Value} {h0 : Heap} (p0 p1 p2 p3 p4 p5 : Int32) (aK a8 : Addr) (s7 : Slot) (aD aE aL aM aX : Addr) (cD cX : Cell)
    (hw : ∀ d ∈ tables_1, d.before a0 Z = true) (C : own_Ctx Z x "com/example/treellis/treellis/cfa/StructTypeIsCompletePinLaw" code maxLocals ret p s m meth c) (X0 : Stand p l e room_1 s m args below meth c s₁ locs 3 10) (e0 : s₁.heap = h0) (n0 : Nat) (Z0 : n0 ≤ h0.size) (N0 : Fr n0 locs) (SD : Sta Z Z.heap "java/util/ArrayList" "DEFAULTCAPACITY_EMPTY_ELEMENTDATA" "[Ljava/lang/Object;" (.ref aD)) (AD : Arr Z Z.heap aD cD (.object "java/lang/Object")) (zD : cD.slots.size = 0) (SE : Sta Z Z.heap "java/util/ImmutableCollections" "EMPTY" "Ljava/lang/Object;" (.ref aE)) (SL : Sta Z Z.heap "java/util/ImmutableCollections" "EMPTY_LIST" "Ljava/util/ImmutableCollections$ListN;" (.ref aL)) (MM : Mir Z "[Ljava/lang/Object;" aM) (hEx : Exa Z Z.heap aE "java/lang/Object") (EL : Exa Z Z.heap aL "java/util/ImmutableCollections$ListN") (FL : Fld Z Z.heap aL "java/util/ImmutableCollections$ListN" "elements" "[Ljava/lang/Object;" (.ref aX)) (AX : Arr Z Z.heap aX cX (.object "java/lang/Object")) (zX : cX.slots.size.toInt32 = (0 : Int32)) (Od0 : Old Z n0 h0) (E_a8 : Exa Z h0 a8 "com/example/treellis/treellis/cfa/StructType") (F_mb : Fld Z h0 a8 "com/example/treellis/treellis/cfa/StructType" "members" "Ljava/util/List;" .null) (F_pk : Fld Z h0 a8 "com/example/treellis/treellis/cfa/StructType" "packing" "I" (.int (0 : Int32))) (F_ag : Fld Z h0 a8 "com/example/treellis/treellis/cfa/StructType" "alignment" "I" (.int (0 : Int32))) (lo_a8 : n0 ≤ a8) :
    own_Goes p e below s (fun v h L => v = some (.int 1) ∧ Fr n0 L) room_1.cells room_1.slots s₁ (mkF m 98 #[.val (.int p0), .val (.int p1), .val (.int p2), .val (.int p3), .val (.int p4), .val (.int p5), .val (.ref aK), s7, .val (.ref a8), .val (.int (1 : Int32)), .unset, .unset, .unset, .unset] []) := by
  obtain ⟨hx, hby, hml, hown, hnm, hret, hlk, hZ⟩ := C
  obtain ⟨T1, h1, X1, e1, E1, A1, D1, -, st1⟩ := newO X0 hx hZ hown (hw _ (List.mem_of_getElem? (i := 28) rfl)) (hw _ (List.mem_of_getElem? (i := 29) rfl)) (hw _ (List.mem_of_getElem? (i := 30) rfl)) e0 (g := (mkF m 98 #[.val (.int p0), .val (.int p1), .val (.int p2), .val (.int p3), .val (.int p4), .val (.int p5), .val (.ref aK), s7, .val (.ref a8), .val (.int (1 : Int32)), .unset, .unset, .unset, .unset] [])) rfl (hb hby at_98) (by decide) (by decide)
  obtain ⟨b1, g1⟩ : ∃ z, z = h0.size := ⟨_, rfl⟩
  rw [← g1] at A1 D1 st1
  have lo_b1 : n0 ≤ b1 := Nat.le_trans Z0 (Nat.le_of_eq g1.symm)
  have ne_a8_b1 : a8 ≠ b1 := Nat.ne_of_lt (Nat.lt_of_lt_of_le E_a8.lt (Nat.le_of_eq g1.symm))
  have E_a8_1 : Exa Z h1 a8 "com/example/treellis/treellis/cfa/StructType" := E_a8.ext E1
  have F_mb_1 : Fld Z h1 a8 "com/example/treellis/treellis/cfa/StructType" "members" "Ljava/util/List;" .null := F_mb.ext E1
  have F_pk_1 : Fld Z h1 a8 "com/example/treellis/treellis/cfa/StructType" "packing" "I" (.int (0 : Int32)) := F_pk.ext E1
  have F_ag_1 : Fld Z h1 a8 "com/example/treellis/treellis/cfa/StructType" "alignment" "I" (.int (0 : Int32)) := F_ag.ext E1
  have Zs1 : n0 ≤ h1.size := Nat.le_trans Z0 E1.1
  have Od1 : Old Z n0 h1 := Od0.ext E1
  have F_name_b1 : Fld Z h1 b1 "com/example/treellis/treellis/cfa/StructType$Member" "name" "Ljava/lang/String;" .null := D1 (Or.inr (hw _ (List.mem_of_getElem? (i := 36) rfl))) (ty := (.object "java/lang/String")) (by decide)
  have F_type_b1 : Fld Z h1 b1 "com/example/treellis/treellis/cfa/StructType$Member" "type" "Lcom/example/treellis/treellis/cfa/Type;" .null := D1 (Or.inr (hw _ (List.mem_of_getElem? (i := 38) rfl))) (ty := (.object "com/example/treellis/treellis/cfa/Type")) (by decide)
  have F_bitWidth_b1 : Fld Z h1 b1 "com/example/treellis/treellis/cfa/StructType$Member" "bitWidth" "Ljava/lang/Integer;" .null := D1 (Or.inr (hw _ (List.mem_of_getElem? (i := 40) rfl))) (ty := (.object "java/lang/Integer")) (by decide)
  have F_alignment_b1 : Fld Z h1 b1 "com/example/treellis/treellis/cfa/StructType$Member" "alignment" "I" (.int (0 : Int32)) := D1 (Or.inr (hw _ (List.mem_of_getElem? (i := 42) rfl))) (ty := .int) (by decide)
  refine own_go st1 ?_
  show own_Goes _ _ _ _ _ _ _ T1 (mkF m 101 #[.val (.int p0), .val (.int p1), .val (.int p2), .val (.int p3), .val (.int p4), .val (.int p5), .val (.ref aK), s7, .val (.ref a8), .val (.int (1 : Int32)), .unset, .unset, .unset, .unset] [(.ref b1)])
  refine own_go (fun _ k => XS.dup X1.here hx rfl (hb hby at_101) rfl rfl k) ?_
  show own_Goes _ _ _ _ _ _ _ T1 (mkF m 102 #[.val (.int p0), .val (.int p1), .val (.int p2), .val (.int p3), .val (.int p4), .val (.int p5), .val (.ref aK), s7, .val (.ref a8), .val (.int (1 : Int32)), .unset, .unset, .unset, .unset] [(.ref b1), (.ref b1)])
  refine own_go (fun _ k => XS.aconstNull X1.here hx rfl (hb hby at_102) k) ?_
  show own_Goes _ _ _ _ _ _ _ T1 (mkF m 103 #[.val (.int p0), .val (.int p1), .val (.int p2), .val (.int p3), .val (.int p4), .val (.int p5), .val (.ref aK), s7, .val (.ref a8), .val (.int (1 : Int32)), .unset, .unset, .unset, .unset] [.null, (.ref b1), (.ref b1)])
  refine own_go (fun _ k => XS.aload X1.here hx rfl (hb hby at_103) rfl rfl k) ?_
  show own_Goes _ _ _ _ _ _ _ T1 (mkF m 105 #[.val (.int p0), .val (.int p1), .val (.int p2), .val (.int p3), .val (.int p4), .val (.int p5), .val (.ref aK), s7, .val (.ref a8), .val (.int (1 : Int32)), .unset, .unset, .unset, .unset] [(.ref a8), .null, (.ref b1), (.ref b1)])
  refine own_go (fun _ k => XS.aconstNull X1.here hx rfl (hb hby at_105) k) ?_
  show own_Goes _ _ _ _ _ _ _ T1 (mkF m 106 #[.val (.int p0), .val (.int p1), .val (.int p2), .val (.int p3), .val (.int p4), .val (.int p5), .val (.ref aK), s7, .val (.ref a8), .val (.int (1 : Int32)), .unset, .unset, .unset, .unset] [.null, (.ref a8), .null, (.ref b1), (.ref b1)])
  refine own_go (fun _ k => XS.iconst X1.here hx rfl (hb hby at_106) k) ?_
  show own_Goes _ _ _ _ _ _ _ T1 (mkF m 107 #[.val (.int p0), .val (.int p1), .val (.int p2), .val (.int p3), .val (.int p4), .val (.int p5), .val (.ref aK), s7, .val (.ref a8), .val (.int (1 : Int32)), .unset, .unset, .unset, .unset] [(.int (0 : Int32)), .null, (.ref a8), .null, (.ref b1), (.ref b1)])
  obtain ⟨_, _, ⟨T2, L2, k2, n2⟩, -, X2, ⟨Lc2, hQ2, l2, y2, z2⟩, st2⟩ := X1.specialBack hx (y := (⟨"com/example/treellis/treellis/cfa/StructType$Member", "<init>", "(Ljava/lang/String;Lcom/example/treellis/treellis/cfa/Type;Ljava/lang/Integer;I)V"⟩ : MethodName)) rfl hown (mvT hZ (hw _ (List.mem_of_getElem? (i := 31) rfl))) (mvT hZ (hw _ (List.mem_of_getElem? (i := 32) rfl))) (mvT hZ (hw _ (List.mem_of_getElem? (i := 33) rfl))) (by decide) (backOf (W := 1) (rm_mi l Z a0 hw [] b1 a8 h1 n0 Zs1 A1 F_name_b1 F_type_b1 F_bitWidth_b1 F_alignment_b1 lo_b1) hZ (hw _ (List.mem_of_getElem? (i := 33) rfl)) (hw _ (List.mem_of_getElem? (i := 30) rfl)) (by decide) (by decide)) (g := (mkF m 107 #[.val (.int p0), .val (.int p1), .val (.int p2), .val (.int p3), .val (.int p4), .val (.int p5), .val (.ref aK), s7, .val (.ref a8), .val (.int (1 : Int32)), .unset, .unset, .unset, .unset] [(.int (0 : Int32)), .null, (.ref a8), .null, (.ref b1), (.ref b1)])) rfl (by rw [hml]; rfl) (Steps.refl _) (a := b1) (argsL := [.null, (.ref a8), .null, (.int (0 : Int32))]) (rest := [(.ref b1)]) (lenOf pd_18 rfl) rfl (by show 2 * 0 + _ ≤ _; exact Nat.le_of_eq rfl) (hb hby at_107) (fun _ _ => ⟨rfl, e1, (by decide : 3 + 1 + 0 ≤ _), (by decide : 10 + 4 + 0 ≤ _)⟩)
  dsimp only [Pt.U, Pt.locs, Pt.cells, Pt.slots] at X2 l2 y2 z2 st2 hQ2
  subst l2 y2 z2
  obtain ⟨rfl, N2q, K2⟩ := hQ2
  have N2 := Fr.app N0 N2q
  refine own_goS st2 ?_
  show own_Goes _ _ _ _ _ _ _ T2 (mkF m 110 #[.val (.int p0), .val (.int p1), .val (.int p2), .val (.int p3), .val (.int p4), .val (.int p5), .val (.ref aK), s7, .val (.ref a8), .val (.int (1 : Int32)), .unset, .unset, .unset, .unset] [(.ref b1)])
  have E_a8_2 : Exa Z T2.heap a8 "com/example/treellis/treellis/cfa/StructType" := E_a8_1.keep K2
  have F_mb_2 : Fld Z T2.heap a8 "com/example/treellis/treellis/cfa/StructType" "members" "Ljava/util/List;" .null := F_mb_1.keep K2 (ninS ne_a8_b1 nin0)
  have F_pk_2 : Fld Z T2.heap a8 "com/example/treellis/treellis/cfa/StructType" "packing" "I" (.int (0 : Int32)) := F_pk_1.keep K2 (ninS ne_a8_b1 nin0)
  have F_ag_2 : Fld Z T2.heap a8 "com/example/treellis/treellis/cfa/StructType" "alignment" "I" (.int (0 : Int32)) := F_ag_1.keep K2 (ninS ne_a8_b1 nin0)
  have E_b1_2 : Exa Z T2.heap b1 "com/example/treellis/treellis/cfa/StructType$Member" := A1.keep K2
  have Zs2 : n0 ≤ T2.heap.size := Nat.le_trans Zs1 K2.1
  have Od2 : Old Z n0 T2.heap := Od1.keep K2 (allS lo_b1 all0)
  refine own_go (fun _ k => XS.astore X2.here hx rfl (hb hby at_110) rfl rfl (l' := #[.val (.int p0), .val (.int p1), .val (.int p2), .val (.int p3), .val (.int p4), .val (.int p5), .val (.ref aK), s7, .val (.ref a8), .val (.int (1 : Int32)), .val (.ref b1), .unset, .unset, .unset]) rfl k) ?_
  show own_Goes _ _ _ _ _ _ _ T2 (mkF m 112 #[.val (.int p0), .val (.int p1), .val (.int p2), .val (.int p3), .val (.int p4), .val (.int p5), .val (.ref aK), s7, .val (.ref a8), .val (.int (1 : Int32)), .val (.ref b1), .unset, .unset, .unset] [])
  obtain ⟨T3, h3, X3, e3, E3, A3, D3, -, st3⟩ := newO X2 hx hZ hown (hw _ (List.mem_of_getElem? (i := 43) rfl)) (hw _ (List.mem_of_getElem? (i := 44) rfl)) (hw _ (List.mem_of_getElem? (i := 45) rfl)) rfl (g := (mkF m 112 #[.val (.int p0), .val (.int p1), .val (.int p2), .val (.int p3), .val (.int p4), .val (.int p5), .val (.ref aK), s7, .val (.ref a8), .val (.int (1 : Int32)), .val (.ref b1), .unset, .unset, .unset] [])) rfl (hb hby at_112) (by decide) (by decide)
  obtain ⟨b3, g3⟩ : ∃ z, z = T2.heap.size := ⟨_, rfl⟩
  rw [← g3] at A3 D3 st3
  have lo_b3 : n0 ≤ b3 := Nat.le_trans Zs2 (Nat.le_of_eq g3.symm)
  have ne_a8_b3 : a8 ≠ b3 := Nat.ne_of_lt (Nat.lt_of_lt_of_le E_a8_2.lt (Nat.le_of_eq g3.symm))
  have ne_b1_b3 : b1 ≠ b3 := Nat.ne_of_lt (Nat.lt_of_lt_of_le E_b1_2.lt (Nat.le_of_eq g3.symm))
  have E_a8_3 : Exa Z h3 a8 "com/example/treellis/treellis/cfa/StructType" := E_a8_2.ext E3
  have F_mb_3 : Fld Z h3 a8 "com/example/treellis/treellis/cfa/StructType" "members" "Ljava/util/List;" .null := F_mb_2.ext E3
  have F_pk_3 : Fld Z h3 a8 "com/example/treellis/treellis/cfa/StructType" "packing" "I" (.int (0 : Int32)) := F_pk_2.ext E3
  have F_ag_3 : Fld Z h3 a8 "com/example/treellis/treellis/cfa/StructType" "alignment" "I" (.int (0 : Int32)) := F_ag_2.ext E3
  have E_b1_3 : Exa Z h3 b1 "com/example/treellis/treellis/cfa/StructType$Member" := E_b1_2.ext E3
  have Zs3 : n0 ≤ h3.size := Nat.le_trans Zs2 E3.1
  have Od3 : Old Z n0 h3 := Od2.ext E3
  have F_modCount_b3 : Fld Z h3 b3 "java/util/AbstractList" "modCount" "I" (.int (0 : Int32)) := D3 (Or.inl (hw _ (List.mem_of_getElem? (i := 63) rfl))) (ty := .int) (by decide)
  have F_elementData_b3 : Fld Z h3 b3 "java/util/ArrayList" "elementData" "[Ljava/lang/Object;" .null := D3 (Or.inl (hw _ (List.mem_of_getElem? (i := 66) rfl))) (ty := (.array (.object "java/lang/Object"))) (by decide)
  have F_size_b3 : Fld Z h3 b3 "java/util/ArrayList" "size" "I" (.int (0 : Int32)) := D3 (Or.inl (hw _ (List.mem_of_getElem? (i := 75) rfl))) (ty := .int) (by decide)
  refine own_go st3 ?_
  show own_Goes _ _ _ _ _ _ _ T3 (mkF m 115 #[.val (.int p0), .val (.int p1), .val (.int p2), .val (.int p3), .val (.int p4), .val (.int p5), .val (.ref aK), s7, .val (.ref a8), .val (.int (1 : Int32)), .val (.ref b1), .unset, .unset, .unset] [(.ref b3)])
  refine own_go (fun _ k => XS.dup X3.here hx rfl (hb hby at_115) rfl rfl k) ?_
  show own_Goes _ _ _ _ _ _ _ T3 (mkF m 116 #[.val (.int p0), .val (.int p1), .val (.int p2), .val (.int p3), .val (.int p4), .val (.int p5), .val (.ref aK), s7, .val (.ref a8), .val (.int (1 : Int32)), .val (.ref b1), .unset, .unset, .unset] [(.ref b3), (.ref b3)])
  obtain ⟨_, _, ⟨T4, L4, k4, n4⟩, -, X4, ⟨Lc4, hQ4, l4, y4, z4⟩, st4⟩ := X3.specialBack hx (y := (⟨"java/util/ArrayList", "<init>", "()V"⟩ : MethodName)) rfl hown (mvT hZ (hw _ (List.mem_of_getElem? (i := 46) rfl))) (mvT hZ (hw _ (List.mem_of_getElem? (i := 47) rfl))) (mvT hZ (hw _ (List.mem_of_getElem? (i := 48) rfl))) (by decide) (backOf (W := 1) (rm_al l Z a0 hw [] b3 aD h3 n0 Zs3 A3 F_modCount_b3 F_size_b3 F_elementData_b3 lo_b3 SD Od3) hZ (hw _ (List.mem_of_getElem? (i := 48) rfl)) (hw _ (List.mem_of_getElem? (i := 45) rfl)) (by decide) (by decide)) (g := (mkF m 116 #[.val (.int p0), .val (.int p1), .val (.int p2), .val (.int p3), .val (.int p4), .val (.int p5), .val (.ref aK), s7, .val (.ref a8), .val (.int (1 : Int32)), .val (.ref b1), .unset, .unset, .unset] [(.ref b3), (.ref b3)])) rfl (by rw [hml]; rfl) (Steps.refl _) (a := b3) (argsL := []) (rest := [(.ref b3)]) (lenOf pd_0 rfl) rfl (by show 2 * 0 + _ ≤ _; exact Nat.le_of_eq rfl) (hb hby at_116) (fun _ _ => ⟨rfl, e3, (by decide : 3 + 1 + 0 + 1 + 0 ≤ _), (by decide : 10 + 4 + 0 + 3 + 0 ≤ _)⟩)
  dsimp only [Pt.U, Pt.locs, Pt.cells, Pt.slots] at X4 l4 y4 z4 st4 hQ4
  subst l4 y4 z4
  obtain ⟨rfl, N4q, K4, Fa4, Fb4, Fc4⟩ := hQ4
  have N4 := Fr.app N2 N4q
  refine own_goS st4 ?_
  show own_Goes _ _ _ _ _ _ _ T4 (mkF m 119 #[.val (.int p0), .val (.int p1), .val (.int p2), .val (.int p3), .val (.int p4), .val (.int p5), .val (.ref aK), s7, .val (.ref a8), .val (.int (1 : Int32)), .val (.ref b1), .unset, .unset, .unset] [(.ref b3)])
  have E_a8_4 : Exa Z T4.heap a8 "com/example/treellis/treellis/cfa/StructType" := E_a8_3.keep K4
  have F_mb_4 : Fld Z T4.heap a8 "com/example/treellis/treellis/cfa/StructType" "members" "Ljava/util/List;" .null := F_mb_3.keep K4 (ninS ne_a8_b3 nin0)
  have F_pk_4 : Fld Z T4.heap a8 "com/example/treellis/treellis/cfa/StructType" "packing" "I" (.int (0 : Int32)) := F_pk_3.keep K4 (ninS ne_a8_b3 nin0)
  have F_ag_4 : Fld Z T4.heap a8 "com/example/treellis/treellis/cfa/StructType" "alignment" "I" (.int (0 : Int32)) := F_ag_3.keep K4 (ninS ne_a8_b3 nin0)
  have E_b1_4 : Exa Z T4.heap b1 "com/example/treellis/treellis/cfa/StructType$Member" := E_b1_3.keep K4
  have E_b3_4 : Exa Z T4.heap b3 "java/util/ArrayList" := A3.keep K4
  have Zs4 : n0 ≤ T4.heap.size := Nat.le_trans Zs3 K4.1
  have Od4 : Old Z n0 T4.heap := Od3.keep K4 (allS lo_b3 all0)
  refine own_go (fun _ k => XS.astore X4.here hx rfl (hb hby at_119) rfl rfl (l' := #[.val (.int p0), .val (.int p1), .val (.int p2), .val (.int p3), .val (.int p4), .val (.int p5), .val (.ref aK), s7, .val (.ref a8), .val (.int (1 : Int32)), .val (.ref b1), .val (.ref b3), .unset, .unset]) rfl k) ?_
  show own_Goes _ _ _ _ _ _ _ T4 (mkF m 121 #[.val (.int p0), .val (.int p1), .val (.int p2), .val (.int p3), .val (.int p4), .val (.int p5), .val (.ref aK), s7, .val (.ref a8), .val (.int (1 : Int32)), .val (.ref b1), .val (.ref b3), .unset, .unset] [])
  refine own_go (fun _ k => XS.iload X4.here hx rfl (hb hby at_121) rfl k) ?_
  show own_Goes _ _ _ _ _ _ _ T4 (mkF m 123 #[.val (.int p0), .val (.int p1), .val (.int p2), .val (.int p3), .val (.int p4), .val (.int p5), .val (.ref aK), s7, .val (.ref a8), .val (.int (1 : Int32)), .val (.ref b1), .val (.ref b3), .unset, .unset] [(.int (1 : Int32))])
  refine own_go (fun _ k => XS.iconst X4.here hx rfl (hb hby at_123) k) ?_
  show own_Goes _ _ _ _ _ _ _ T4 (mkF m 124 #[.val (.int p0), .val (.int p1), .val (.int p2), .val (.int p3), .val (.int p4), .val (.int p5), .val (.ref aK), s7, .val (.ref a8), .val (.int (1 : Int32)), .val (.ref b1), .val (.ref b3), .unset, .unset] [(.int (1 : Int32)), (.int (1 : Int32))])
  refine own_go (fun _ k => XS.icmpNo X4.here hx rfl (hb hby at_124) rfl (flt (by decide : ¬ ((1 : Int32) < (1 : Int32)))).1 k) ?_
  show own_Goes _ _ _ _ _ _ _ T4 (mkF m 127 #[.val (.int p0), .val (.int p1), .val (.int p2), .val (.int p3), .val (.int p4), .val (.int p5), .val (.ref aK), s7, .val (.ref a8), .val (.int (1 : Int32)), .val (.ref b1), .val (.ref b3), .unset, .unset] [])
  refine own_go (fun _ k => XS.aload X4.here hx rfl (hb hby at_127) rfl rfl k) ?_
  show own_Goes _ _ _ _ _ _ _ T4 (mkF m 129 #[.val (.int p0), .val (.int p1), .val (.int p2), .val (.int p3), .val (.int p4), .val (.int p5), .val (.ref aK), s7, .val (.ref a8), .val (.int (1 : Int32)), .val (.ref b1), .val (.ref b3), .unset, .unset] [(.ref b3)])
  refine own_go (fun _ k => XS.aload X4.here hx rfl (hb hby at_129) rfl rfl k) ?_
  show own_Goes _ _ _ _ _ _ _ T4 (mkF m 131 #[.val (.int p0), .val (.int p1), .val (.int p2), .val (.int p3), .val (.int p4), .val (.int p5), .val (.ref aK), s7, .val (.ref a8), .val (.int (1 : Int32)), .val (.ref b1), .val (.ref b3), .unset, .unset] [(.ref b1), (.ref b3)])
  obtain ⟨cq5, kq5, zq5a, zq5b, zq5c⟩ := isOf hZ rfl E_b3_4
  obtain ⟨_, _, ⟨T5, L5, k5, n5⟩, -, X5, ⟨Lc5, hQ5, l5, y5, z5⟩, st5⟩ := X4.virtualBack hx (y := (⟨"java/util/ArrayList", "add", "(Ljava/lang/Object;)Z"⟩ : MethodName)) (z := (⟨"java/util/ArrayList", "add", "(Ljava/lang/Object;)Z"⟩ : MethodName)) hown (mvT hZ (hw _ (List.mem_of_getElem? (i := 67) rfl))) (mvT hZ (hw _ (List.mem_of_getElem? (i := 68) rfl))) (notFace_of_selects (args := #[]) (mvT hZ (hw _ (List.mem_of_getElem? (i := 70) rfl)))) (mvT hZ (hw _ (List.mem_of_getElem? (i := 70) rfl))) (mvT hZ (hw _ (List.mem_of_getElem? (i := 69) rfl))) (by decide) (backOf (W := 0) (rm_add0 l Z a0 hw [] b3 b1 aD cD T4.heap n0 Zs4 E_b3_4 Fa4 Fb4 Fc4 E_b1_4 lo_b3 (Ne.symm ne_b1_b3) SD AD zD Od4) hZ (hw _ (List.mem_of_getElem? (i := 71) rfl)) (hw _ (List.mem_of_getElem? (i := 45) rfl)) (by decide) (by decide)) zq5a zq5c (g := (mkF m 131 #[.val (.int p0), .val (.int p1), .val (.int p2), .val (.int p3), .val (.int p4), .val (.int p5), .val (.ref aK), s7, .val (.ref a8), .val (.int (1 : Int32)), .val (.ref b1), .val (.ref b3), .unset, .unset] [(.ref b1), (.ref b3)])) rfl (by rw [hml]; rfl) (Steps.refl _) (argsL := [(.ref b1)]) (rest := []) (lenOf pd_21 rfl) rfl (by show 2 * 0 + _ ≤ _; exact Nat.le_of_eq rfl) (hb hby at_131) (fun _ _ => ⟨rfl, rfl, (by decide : 3 + 1 + 0 + 1 + 0 + 1 ≤ _), (by decide : 10 + 4 + 0 + 3 + 0 + 10 ≤ _)⟩)
  dsimp only [Pt.U, Pt.locs, Pt.cells, Pt.slots] at X5 l5 y5 z5 st5 hQ5
  subst l5 y5 z5
  obtain ⟨bb5, kk5, rfl, N5q, hb5, K5, Fa5, Fb5, Fc5, Va5, Ov5, Ea5⟩ := hQ5
  have N5 := Fr.app N4 N5q
  refine own_goS st5 ?_
  show own_Goes _ _ _ _ _ _ _ T5 (mkF m 134 #[.val (.int p0), .val (.int p1), .val (.int p2), .val (.int p3), .val (.int p4), .val (.int p5), .val (.ref aK), s7, .val (.ref a8), .val (.int (1 : Int32)), .val (.ref b1), .val (.ref b3), .unset, .unset] [(.int (1 : Int32))])
  have E_a8_5 : Exa Z T5.heap a8 "com/example/treellis/treellis/cfa/StructType" := E_a8_4.keep K5
  have F_mb_5 : Fld Z T5.heap a8 "com/example/treellis/treellis/cfa/StructType" "members" "Ljava/util/List;" .null := F_mb_4.keep K5 (ninS ne_a8_b3 nin0)
  have F_pk_5 : Fld Z T5.heap a8 "com/example/treellis/treellis/cfa/StructType" "packing" "I" (.int (0 : Int32)) := F_pk_4.keep K5 (ninS ne_a8_b3 nin0)
  have F_ag_5 : Fld Z T5.heap a8 "com/example/treellis/treellis/cfa/StructType" "alignment" "I" (.int (0 : Int32)) := F_ag_4.keep K5 (ninS ne_a8_b3 nin0)
  have E_b1_5 : Exa Z T5.heap b1 "com/example/treellis/treellis/cfa/StructType$Member" := E_b1_4.keep K5
  have E_b3_5 : Exa Z T5.heap b3 "java/util/ArrayList" := E_b3_4.keep K5
  have Zs5 : n0 ≤ T5.heap.size := Nat.le_trans Zs4 K5.1
  have Od5 : Old Z n0 T5.heap := Od4.keep K5 (allS lo_b3 all0)
  have lo_bb5 : n0 ≤ bb5 := Nat.le_trans Zs4 hb5
  have ne_a8_bb5 : a8 ≠ bb5 := Nat.ne_of_lt (Nat.lt_of_lt_of_le E_a8_4.lt hb5)
  have ne_b1_bb5 : b1 ≠ bb5 := Nat.ne_of_lt (Nat.lt_of_lt_of_le E_b1_4.lt hb5)
  have ne_b3_bb5 : b3 ≠ bb5 := Nat.ne_of_lt (Nat.lt_of_lt_of_le E_b3_4.lt hb5)
  refine own_go (fun _ k => XS.pop X5.here hx rfl (hb hby at_134) rfl rfl k) ?_
  show own_Goes _ _ _ _ _ _ _ T5 (mkF m 135 #[.val (.int p0), .val (.int p1), .val (.int p2), .val (.int p3), .val (.int p4), .val (.int p5), .val (.ref aK), s7, .val (.ref a8), .val (.int (1 : Int32)), .val (.ref b1), .val (.ref b3), .unset, .unset] [])
  refine own_go (fun _ k => XS.iload X5.here hx rfl (hb hby at_135) rfl k) ?_
  show own_Goes _ _ _ _ _ _ _ T5 (mkF m 137 #[.val (.int p0), .val (.int p1), .val (.int p2), .val (.int p3), .val (.int p4), .val (.int p5), .val (.ref aK), s7, .val (.ref a8), .val (.int (1 : Int32)), .val (.ref b1), .val (.ref b3), .unset, .unset] [(.int (1 : Int32))])
  refine own_go (fun _ k => XS.iconst X5.here hx rfl (hb hby at_137) k) ?_
  show own_Goes _ _ _ _ _ _ _ T5 (mkF m 138 #[.val (.int p0), .val (.int p1), .val (.int p2), .val (.int p3), .val (.int p4), .val (.int p5), .val (.ref aK), s7, .val (.ref a8), .val (.int (1 : Int32)), .val (.ref b1), .val (.ref b3), .unset, .unset] [(.int (2 : Int32)), (.int (1 : Int32))])
  refine own_go (fun _ k => XS.icmpYes X5.here hx rfl (pc0 := 138) (pc' := 149) rfl (hb hby at_138) rfl (tlt (by decide : (1 : Int32) < (2 : Int32))).1 (by decide) (by decide) k) ?_
  show own_Goes _ _ _ _ _ _ _ T5 (mkF m 149 #[.val (.int p0), .val (.int p1), .val (.int p2), .val (.int p3), .val (.int p4), .val (.int p5), .val (.ref aK), s7, .val (.ref a8), .val (.int (1 : Int32)), .val (.ref b1), .val (.ref b3), .unset, .unset] [])
  refine own_go (fun _ k => XS.iload X5.here hx rfl (hb hby at_149) rfl k) ?_
  show own_Goes _ _ _ _ _ _ _ T5 (mkF m 151 #[.val (.int p0), .val (.int p1), .val (.int p2), .val (.int p3), .val (.int p4), .val (.int p5), .val (.ref aK), s7, .val (.ref a8), .val (.int (1 : Int32)), .val (.ref b1), .val (.ref b3), .unset, .unset] [(.int (1 : Int32))])
  refine own_go (fun _ k => XS.iconst X5.here hx rfl (hb hby at_151) k) ?_
  show own_Goes _ _ _ _ _ _ _ T5 (mkF m 152 #[.val (.int p0), .val (.int p1), .val (.int p2), .val (.int p3), .val (.int p4), .val (.int p5), .val (.ref aK), s7, .val (.ref a8), .val (.int (1 : Int32)), .val (.ref b1), .val (.ref b3), .unset, .unset] [(.int (3 : Int32)), (.int (1 : Int32))])
  refine own_go (fun _ k => XS.icmpYes X5.here hx rfl (pc0 := 152) (pc' := 163) rfl (hb hby at_152) rfl (tlt (by decide : (1 : Int32) < (3 : Int32))).1 (by decide) (by decide) k) ?_
  show own_Goes _ _ _ _ _ _ _ T5 (mkF m 163 #[.val (.int p0), .val (.int p1), .val (.int p2), .val (.int p3), .val (.int p4), .val (.int p5), .val (.ref aK), s7, .val (.ref a8), .val (.int (1 : Int32)), .val (.ref b1), .val (.ref b3), .unset, .unset] [])
  refine own_go (fun _ k => XS.aload X5.here hx rfl (hb hby at_163) rfl rfl k) ?_
  show own_Goes _ _ _ _ _ _ _ T5 (mkF m 165 #[.val (.int p0), .val (.int p1), .val (.int p2), .val (.int p3), .val (.int p4), .val (.int p5), .val (.ref aK), s7, .val (.ref a8), .val (.int (1 : Int32)), .val (.ref b1), .val (.ref b3), .unset, .unset] [(.ref a8)])
  refine own_go (fun _ k => XS.aload X5.here hx rfl (hb hby at_165) rfl rfl k) ?_
  show own_Goes _ _ _ _ _ _ _ T5 (mkF m 167 #[.val (.int p0), .val (.int p1), .val (.int p2), .val (.int p3), .val (.int p4), .val (.int p5), .val (.ref aK), s7, .val (.ref a8), .val (.int (1 : Int32)), .val (.ref b1), .val (.ref b3), .unset, .unset] [(.ref b3), (.ref a8)])
  refine own_go (fun _ k => XS.iloadN X5.here hx rfl (hb hby at_167) rfl k) ?_
  show own_Goes _ _ _ _ _ _ _ T5 (mkF m 168 #[.val (.int p0), .val (.int p1), .val (.int p2), .val (.int p3), .val (.int p4), .val (.int p5), .val (.ref aK), s7, .val (.ref a8), .val (.int (1 : Int32)), .val (.ref b1), .val (.ref b3), .unset, .unset] [(.int p3), (.ref b3), (.ref a8)])
  refine own_go (fun _ k => XS.iload X5.here hx rfl (hb hby at_168) rfl k) ?_
  show own_Goes _ _ _ _ _ _ _ T5 (mkF m 170 #[.val (.int p0), .val (.int p1), .val (.int p2), .val (.int p3), .val (.int p4), .val (.int p5), .val (.ref aK), s7, .val (.ref a8), .val (.int (1 : Int32)), .val (.ref b1), .val (.ref b3), .unset, .unset] [(.int p4), (.int p3), (.ref b3), (.ref a8)])
  obtain ⟨cq6, kq6, zq6a, zq6b, zq6c⟩ := isOf hZ rfl E_a8_5
  obtain ⟨_, _, ⟨T6, L6, k6, n6⟩, -, X6, ⟨Lc6, hQ6, l6, y6, z6⟩, st6⟩ := X5.virtualBack hx (y := (⟨"com/example/treellis/treellis/cfa/StructType", "complete", "(Ljava/util/List;II)V"⟩ : MethodName)) (z := (⟨"com/example/treellis/treellis/cfa/StructType", "complete", "(Ljava/util/List;II)V"⟩ : MethodName)) hown (mvT hZ (hw _ (List.mem_of_getElem? (i := 98) rfl))) (mvT hZ (hw _ (List.mem_of_getElem? (i := 99) rfl))) (notFace_of_selects (args := #[]) (mvT hZ (hw _ (List.mem_of_getElem? (i := 101) rfl)))) (mvT hZ (hw _ (List.mem_of_getElem? (i := 101) rfl))) (mvT hZ (hw _ (List.mem_of_getElem? (i := 100) rfl))) (by decide) (backOf (W := 0) (rm_cm1 l Z a0 hw [] a8 b3 b1 bb5 aM aE aL kk5 p3 p4 T5.heap n0 Zs5 E_b3_5 Fb5 Fc5 Va5 E_b1_5 Ea5 E_a8_5 F_mb_5 F_pk_5 F_ag_5 lo_a8 ne_a8_b3 ne_a8_b1 ne_a8_bb5 (Ne.symm ne_b1_bb5) (Ne.symm ne_b1_b3) ne_b3_bb5 MM SE SL Od5) hZ (hw _ (List.mem_of_getElem? (i := 102) rfl)) (hw _ (List.mem_of_getElem? (i := 5) rfl)) (by decide) (by decide)) zq6a zq6c (g := (mkF m 170 #[.val (.int p0), .val (.int p1), .val (.int p2), .val (.int p3), .val (.int p4), .val (.int p5), .val (.ref aK), s7, .val (.ref a8), .val (.int (1 : Int32)), .val (.ref b1), .val (.ref b3), .unset, .unset] [(.int p4), (.int p3), (.ref b3), (.ref a8)])) rfl (by rw [hml]; rfl) (Steps.refl _) (argsL := [(.ref b3), (.int p3), (.int p4)]) (rest := []) (lenOf pd_19 rfl) rfl (by show 2 * 0 + _ ≤ _; exact Nat.le_of_eq rfl) (hb hby at_170) (fun _ _ => ⟨rfl, rfl, (by decide : 3 + 1 + 0 + 1 + 0 + 1 + 2 ≤ _), (by decide : 10 + 4 + 0 + 3 + 0 + 10 + 3 ≤ _)⟩)
  dsimp only [Pt.U, Pt.locs, Pt.cells, Pt.slots] at X6 l6 y6 z6 st6 hQ6
  subst l6 y6 z6
  obtain ⟨rr6, rfl, N6q, K6, Fa6, Fb6, Fc6, Ex6, Fd6⟩ := hQ6
  have N6 := Fr.app N5 N6q
  refine own_goS st6 ?_
  show own_Goes _ _ _ _ _ _ _ T6 (mkF m 173 #[.val (.int p0), .val (.int p1), .val (.int p2), .val (.int p3), .val (.int p4), .val (.int p5), .val (.ref aK), s7, .val (.ref a8), .val (.int (1 : Int32)), .val (.ref b1), .val (.ref b3), .unset, .unset] [])
  have E_a8_6 : Exa Z T6.heap a8 "com/example/treellis/treellis/cfa/StructType" := E_a8_5.keep K6
  have E_b1_6 : Exa Z T6.heap b1 "com/example/treellis/treellis/cfa/StructType$Member" := E_b1_5.keep K6
  have E_b3_6 : Exa Z T6.heap b3 "java/util/ArrayList" := E_b3_5.keep K6
  have L_E_6 : Exa Z T6.heap bb5 "[Ljava/lang/Object;" := Ea5.keep K6
  have L_modCount_6 : Fld Z T6.heap b3 "java/util/AbstractList" "modCount" "I" (.int (1 : Int32)) := Fa5.keep K6 (ninS (Ne.symm ne_a8_b3) nin0)
  have L_size_6 : Fld Z T6.heap b3 "java/util/ArrayList" "size" "I" (.int (1 : Int32)) := Fb5.keep K6 (ninS (Ne.symm ne_a8_b3) nin0)
  have L_elementData_6 : Fld Z T6.heap b3 "java/util/ArrayList" "elementData" "[Ljava/lang/Object;" (.ref bb5) := Fc5.keep K6 (ninS (Ne.symm ne_a8_b3) nin0)
  have L_V_6 : Arv Z T6.heap bb5 kk5 (.object "java/lang/Object") (10 : Int32) [(.ref b1)] .null := Va5.keep K6 (ninS (Ne.symm ne_a8_bb5) nin0)
  have Zs6 : n0 ≤ T6.heap.size := Nat.le_trans Zs5 K6.1
  have Od6 : Old Z n0 T6.heap := Od5.keep K6 (allS lo_a8 all0)
  refine own_go (fun _ k => XS.aload X6.here hx rfl (hb hby at_173) rfl rfl k) ?_
  show own_Goes _ _ _ _ _ _ _ T6 (mkF m 175 #[.val (.int p0), .val (.int p1), .val (.int p2), .val (.int p3), .val (.int p4), .val (.int p5), .val (.ref aK), s7, .val (.ref a8), .val (.int (1 : Int32)), .val (.ref b1), .val (.ref b3), .unset, .unset] [(.ref a8)])
  obtain ⟨cq7, kq7, zq7a, zq7b, zq7c⟩ := isOf hZ rfl E_a8_6
  obtain ⟨_, _, ⟨T7, L7, k7, n7⟩, -, X7, ⟨Lc7, hQ7, l7, y7, z7⟩, st7⟩ := X6.virtualBack hx (y := (⟨"com/example/treellis/treellis/cfa/StructType", "isComplete", "()Z"⟩ : MethodName)) (z := (⟨"com/example/treellis/treellis/cfa/StructType", "isComplete", "()Z"⟩ : MethodName)) hown (mvT hZ (hw _ (List.mem_of_getElem? (i := 16) rfl))) (mvT hZ (hw _ (List.mem_of_getElem? (i := 17) rfl))) (notFace_of_selects (args := #[]) (mvT hZ (hw _ (List.mem_of_getElem? (i := 19) rfl)))) (mvT hZ (hw _ (List.mem_of_getElem? (i := 19) rfl))) (mvT hZ (hw _ (List.mem_of_getElem? (i := 18) rfl))) (by decide) (backOf (W := 0) (rm_icR l Z a0 hw [] a8 rr6 T6.heap n0 Zs6 Fa6) hZ (hw _ (List.mem_of_getElem? (i := 20) rfl)) (hw _ (List.mem_of_getElem? (i := 5) rfl)) (by decide) (by decide)) zq7a zq7c (g := (mkF m 175 #[.val (.int p0), .val (.int p1), .val (.int p2), .val (.int p3), .val (.int p4), .val (.int p5), .val (.ref aK), s7, .val (.ref a8), .val (.int (1 : Int32)), .val (.ref b1), .val (.ref b3), .unset, .unset] [(.ref a8)])) rfl (by rw [hml]; rfl) (Steps.refl _) (argsL := []) (rest := []) (lenOf pd_12 rfl) rfl (by show 2 * 0 + _ ≤ _; exact Nat.le_of_eq rfl) (hb hby at_175) (fun _ _ => ⟨rfl, rfl, (by decide : 3 + 1 + 0 + 1 + 0 + 1 + 2 + 0 ≤ _), (by decide : 10 + 4 + 0 + 3 + 0 + 10 + 3 + 0 ≤ _)⟩)
  dsimp only [Pt.U, Pt.locs, Pt.cells, Pt.slots] at X7 l7 y7 z7 st7 hQ7
  subst l7 y7 z7
  obtain ⟨rfl, N7q, e7⟩ := hQ7
  have N7 := Fr.app N6 N7q
  refine own_goS st7 ?_
  show own_Goes _ _ _ _ _ _ _ T7 (mkF m 178 #[.val (.int p0), .val (.int p1), .val (.int p2), .val (.int p3), .val (.int p4), .val (.int p5), .val (.ref aK), s7, .val (.ref a8), .val (.int (1 : Int32)), .val (.ref b1), .val (.ref b3), .unset, .unset] [(.int (1 : Int32))])
  refine own_go (fun _ k => XS.istore X7.here hx rfl (hb hby at_178) rfl (l' := #[.val (.int p0), .val (.int p1), .val (.int p2), .val (.int p3), .val (.int p4), .val (.int p5), .val (.ref aK), s7, .val (.ref a8), .val (.int (1 : Int32)), .val (.ref b1), .val (.ref b3), .val (.int (1 : Int32)), .unset]) rfl k) ?_
  show own_Goes _ _ _ _ _ _ _ T7 (mkF m 180 #[.val (.int p0), .val (.int p1), .val (.int p2), .val (.int p3), .val (.int p4), .val (.int p5), .val (.ref aK), s7, .val (.ref a8), .val (.int (1 : Int32)), .val (.ref b1), .val (.ref b3), .val (.int (1 : Int32)), .unset] [])
  refine own_go (fun _ k => XS.aload X7.here hx rfl (hb hby at_180) rfl rfl k) ?_
  show own_Goes _ _ _ _ _ _ _ T7 (mkF m 182 #[.val (.int p0), .val (.int p1), .val (.int p2), .val (.int p3), .val (.int p4), .val (.int p5), .val (.ref aK), s7, .val (.ref a8), .val (.int (1 : Int32)), .val (.ref b1), .val (.ref b3), .val (.int (1 : Int32)), .unset] [(.ref a8)])
  obtain ⟨cq8, kq8, zq8a, zq8b, zq8c⟩ := isOf hZ e7 E_a8_6
  obtain ⟨_, _, ⟨T8, L8, k8, n8⟩, -, X8, ⟨Lc8, hQ8, l8, y8, z8⟩, st8⟩ := X7.virtualBack hx (y := (⟨"com/example/treellis/treellis/cfa/StructType", "isComplete", "()Z"⟩ : MethodName)) (z := (⟨"com/example/treellis/treellis/cfa/StructType", "isComplete", "()Z"⟩ : MethodName)) hown (mvT hZ (hw _ (List.mem_of_getElem? (i := 16) rfl))) (mvT hZ (hw _ (List.mem_of_getElem? (i := 17) rfl))) (notFace_of_selects (args := #[]) (mvT hZ (hw _ (List.mem_of_getElem? (i := 19) rfl)))) (mvT hZ (hw _ (List.mem_of_getElem? (i := 19) rfl))) (mvT hZ (hw _ (List.mem_of_getElem? (i := 18) rfl))) (by decide) (backOf (W := 0) (rm_icR l Z a0 hw [] a8 rr6 T6.heap n0 Zs6 Fa6) hZ (hw _ (List.mem_of_getElem? (i := 20) rfl)) (hw _ (List.mem_of_getElem? (i := 5) rfl)) (by decide) (by decide)) zq8a zq8c (g := (mkF m 182 #[.val (.int p0), .val (.int p1), .val (.int p2), .val (.int p3), .val (.int p4), .val (.int p5), .val (.ref aK), s7, .val (.ref a8), .val (.int (1 : Int32)), .val (.ref b1), .val (.ref b3), .val (.int (1 : Int32)), .unset] [(.ref a8)])) rfl (by rw [hml]; rfl) (Steps.refl _) (argsL := []) (rest := []) (lenOf pd_12 rfl) rfl (by show 2 * 0 + _ ≤ _; exact Nat.le_of_eq rfl) (hb hby at_182) (fun _ _ => ⟨rfl, e7, (by decide : 3 + 1 + 0 + 1 + 0 + 1 + 2 + 0 + 0 ≤ _), (by decide : 10 + 4 + 0 + 3 + 0 + 10 + 3 + 0 + 0 ≤ _)⟩)
  dsimp only [Pt.U, Pt.locs, Pt.cells, Pt.slots] at X8 l8 y8 z8 st8 hQ8
  subst l8 y8 z8
  obtain ⟨rfl, N8q, e8⟩ := hQ8
  have N8 := Fr.app N7 N8q
  refine own_goS st8 ?_
  show own_Goes _ _ _ _ _ _ _ T8 (mkF m 185 #[.val (.int p0), .val (.int p1), .val (.int p2), .val (.int p3), .val (.int p4), .val (.int p5), .val (.ref aK), s7, .val (.ref a8), .val (.int (1 : Int32)), .val (.ref b1), .val (.ref b3), .val (.int (1 : Int32)), .unset] [(.int (1 : Int32))])
  refine own_go (fun _ k => XS.istore X8.here hx rfl (hb hby at_185) rfl (l' := #[.val (.int p0), .val (.int p1), .val (.int p2), .val (.int p3), .val (.int p4), .val (.int p5), .val (.ref aK), s7, .val (.ref a8), .val (.int (1 : Int32)), .val (.ref b1), .val (.ref b3), .val (.int (1 : Int32)), .val (.int (1 : Int32))]) rfl k) ?_
  show own_Goes _ _ _ _ _ _ _ T8 (mkF m 187 #[.val (.int p0), .val (.int p1), .val (.int p2), .val (.int p3), .val (.int p4), .val (.int p5), .val (.ref aK), s7, .val (.ref a8), .val (.int (1 : Int32)), .val (.ref b1), .val (.ref b3), .val (.int (1 : Int32)), .val (.int (1 : Int32))] [])
  refine own_go (fun _ k => XS.iload X8.here hx rfl (hb hby at_187) rfl k) ?_
  show own_Goes _ _ _ _ _ _ _ T8 (mkF m 189 #[.val (.int p0), .val (.int p1), .val (.int p2), .val (.int p3), .val (.int p4), .val (.int p5), .val (.ref aK), s7, .val (.ref a8), .val (.int (1 : Int32)), .val (.ref b1), .val (.ref b3), .val (.int (1 : Int32)), .val (.int (1 : Int32))] [(.int (1 : Int32))])
  refine own_go (fun _ k => XS.ifNo X8.here hx rfl (hb hby at_189) rfl ((if0 _ _).trans (feq (by decide : ¬ ((1 : Int32) = (0 : Int32)))).1) k) ?_
  show own_Goes _ _ _ _ _ _ _ T8 (mkF m 192 #[.val (.int p0), .val (.int p1), .val (.int p2), .val (.int p3), .val (.int p4), .val (.int p5), .val (.ref aK), s7, .val (.ref a8), .val (.int (1 : Int32)), .val (.ref b1), .val (.ref b3), .val (.int (1 : Int32)), .val (.int (1 : Int32))] [])
  refine own_go (fun _ k => XS.iload X8.here hx rfl (hb hby at_192) rfl k) ?_
  show own_Goes _ _ _ _ _ _ _ T8 (mkF m 194 #[.val (.int p0), .val (.int p1), .val (.int p2), .val (.int p3), .val (.int p4), .val (.int p5), .val (.ref aK), s7, .val (.ref a8), .val (.int (1 : Int32)), .val (.ref b1), .val (.ref b3), .val (.int (1 : Int32)), .val (.int (1 : Int32))] [(.int (1 : Int32))])
  refine own_go (fun _ k => XS.ifNo X8.here hx rfl (hb hby at_194) rfl ((if0 _ _).trans (feq (by decide : ¬ ((1 : Int32) = (0 : Int32)))).1) k) ?_
  show own_Goes _ _ _ _ _ _ _ T8 (mkF m 197 #[.val (.int p0), .val (.int p1), .val (.int p2), .val (.int p3), .val (.int p4), .val (.int p5), .val (.ref aK), s7, .val (.ref a8), .val (.int (1 : Int32)), .val (.ref b1), .val (.ref b3), .val (.int (1 : Int32)), .val (.int (1 : Int32))] [])
  refine own_go (fun _ k => XS.aload X8.here hx rfl (hb hby at_197) rfl rfl k) ?_
  show own_Goes _ _ _ _ _ _ _ T8 (mkF m 199 #[.val (.int p0), .val (.int p1), .val (.int p2), .val (.int p3), .val (.int p4), .val (.int p5), .val (.ref aK), s7, .val (.ref a8), .val (.int (1 : Int32)), .val (.ref b1), .val (.ref b3), .val (.int (1 : Int32)), .val (.int (1 : Int32))] [(.ref a8)])
  obtain ⟨cq9, kq9, zq9a, zq9b, zq9c⟩ := isOf hZ e8 E_a8_6
  obtain ⟨_, _, ⟨T9, L9, k9, n9⟩, -, X9, ⟨Lc9, hQ9, l9, y9, z9⟩, st9⟩ := X8.virtualBack hx (y := (⟨"com/example/treellis/treellis/cfa/StructType", "members", "()Ljava/util/List;"⟩ : MethodName)) (z := (⟨"com/example/treellis/treellis/cfa/StructType", "members", "()Ljava/util/List;"⟩ : MethodName)) hown (mvT hZ (hw _ (List.mem_of_getElem? (i := 23) rfl))) (mvT hZ (hw _ (List.mem_of_getElem? (i := 24) rfl))) (notFace_of_selects (args := #[]) (mvT hZ (hw _ (List.mem_of_getElem? (i := 26) rfl)))) (mvT hZ (hw _ (List.mem_of_getElem? (i := 26) rfl))) (mvT hZ (hw _ (List.mem_of_getElem? (i := 25) rfl))) (by decide) (backOf (W := 0) (rm_mbR l Z a0 hw [] a8 rr6 T6.heap n0 Zs6 Fa6) hZ (hw _ (List.mem_of_getElem? (i := 27) rfl)) (hw _ (List.mem_of_getElem? (i := 5) rfl)) (by decide) (by decide)) zq9a zq9c (g := (mkF m 199 #[.val (.int p0), .val (.int p1), .val (.int p2), .val (.int p3), .val (.int p4), .val (.int p5), .val (.ref aK), s7, .val (.ref a8), .val (.int (1 : Int32)), .val (.ref b1), .val (.ref b3), .val (.int (1 : Int32)), .val (.int (1 : Int32))] [(.ref a8)])) rfl (by rw [hml]; rfl) (Steps.refl _) (argsL := []) (rest := []) (lenOf pd_13 rfl) rfl (by show 2 * 0 + _ ≤ _; exact Nat.le_of_eq rfl) (hb hby at_199) (fun _ _ => ⟨rfl, e8, (by decide : 3 + 1 + 0 + 1 + 0 + 1 + 2 + 0 + 0 + 0 ≤ _), (by decide : 10 + 4 + 0 + 3 + 0 + 10 + 3 + 0 + 0 + 0 ≤ _)⟩)
  dsimp only [Pt.U, Pt.locs, Pt.cells, Pt.slots] at X9 l9 y9 z9 st9 hQ9
  subst l9 y9 z9
  obtain ⟨rfl, N9q, e9⟩ := hQ9
  have N9 := Fr.app N8 N9q
  refine own_goS st9 ?_
  show own_Goes _ _ _ _ _ _ _ T9 (mkF m 202 #[.val (.int p0), .val (.int p1), .val (.int p2), .val (.int p3), .val (.int p4), .val (.int p5), .val (.ref aK), s7, .val (.ref a8), .val (.int (1 : Int32)), .val (.ref b1), .val (.ref b3), .val (.int (1 : Int32)), .val (.int (1 : Int32))] [(.ref rr6)])
  refine own_go (fun _ k => XS.ifnullNo X9.here hx rfl (hb hby at_202) rfl k) ?_
  show own_Goes _ _ _ _ _ _ _ T9 (mkF m 205 #[.val (.int p0), .val (.int p1), .val (.int p2), .val (.int p3), .val (.int p4), .val (.int p5), .val (.ref aK), s7, .val (.ref a8), .val (.int (1 : Int32)), .val (.ref b1), .val (.ref b3), .val (.int (1 : Int32)), .val (.int (1 : Int32))] [])
  refine own_go (fun _ k => XS.aload X9.here hx rfl (hb hby at_205) rfl rfl k) ?_
  show own_Goes _ _ _ _ _ _ _ T9 (mkF m 207 #[.val (.int p0), .val (.int p1), .val (.int p2), .val (.int p3), .val (.int p4), .val (.int p5), .val (.ref aK), s7, .val (.ref a8), .val (.int (1 : Int32)), .val (.ref b1), .val (.ref b3), .val (.int (1 : Int32)), .val (.int (1 : Int32))] [(.ref a8)])
  obtain ⟨cq10, kq10, zq10a, zq10b, zq10c⟩ := isOf hZ e9 E_a8_6
  obtain ⟨_, _, ⟨T10, L10, k10, n10⟩, -, X10, ⟨Lc10, hQ10, l10, y10, z10⟩, st10⟩ := X9.virtualBack hx (y := (⟨"com/example/treellis/treellis/cfa/StructType", "members", "()Ljava/util/List;"⟩ : MethodName)) (z := (⟨"com/example/treellis/treellis/cfa/StructType", "members", "()Ljava/util/List;"⟩ : MethodName)) hown (mvT hZ (hw _ (List.mem_of_getElem? (i := 23) rfl))) (mvT hZ (hw _ (List.mem_of_getElem? (i := 24) rfl))) (notFace_of_selects (args := #[]) (mvT hZ (hw _ (List.mem_of_getElem? (i := 26) rfl)))) (mvT hZ (hw _ (List.mem_of_getElem? (i := 26) rfl))) (mvT hZ (hw _ (List.mem_of_getElem? (i := 25) rfl))) (by decide) (backOf (W := 0) (rm_mbR l Z a0 hw [] a8 rr6 T6.heap n0 Zs6 Fa6) hZ (hw _ (List.mem_of_getElem? (i := 27) rfl)) (hw _ (List.mem_of_getElem? (i := 5) rfl)) (by decide) (by decide)) zq10a zq10c (g := (mkF m 207 #[.val (.int p0), .val (.int p1), .val (.int p2), .val (.int p3), .val (.int p4), .val (.int p5), .val (.ref aK), s7, .val (.ref a8), .val (.int (1 : Int32)), .val (.ref b1), .val (.ref b3), .val (.int (1 : Int32)), .val (.int (1 : Int32))] [(.ref a8)])) rfl (by rw [hml]; rfl) (Steps.refl _) (argsL := []) (rest := []) (lenOf pd_13 rfl) rfl (by show 2 * 0 + _ ≤ _; exact Nat.le_of_eq rfl) (hb hby at_207) (fun _ _ => ⟨rfl, e9, (by decide : 3 + 1 + 0 + 1 + 0 + 1 + 2 + 0 + 0 + 0 + 0 ≤ _), (by decide : 10 + 4 + 0 + 3 + 0 + 10 + 3 + 0 + 0 + 0 + 0 ≤ _)⟩)
  dsimp only [Pt.U, Pt.locs, Pt.cells, Pt.slots] at X10 l10 y10 z10 st10 hQ10
  subst l10 y10 z10
  obtain ⟨rfl, N10q, e10⟩ := hQ10
  have N10 := Fr.app N9 N10q
  refine own_goS st10 ?_
  show own_Goes _ _ _ _ _ _ _ T10 (mkF m 210 #[.val (.int p0), .val (.int p1), .val (.int p2), .val (.int p3), .val (.int p4), .val (.int p5), .val (.ref aK), s7, .val (.ref a8), .val (.int (1 : Int32)), .val (.ref b1), .val (.ref b3), .val (.int (1 : Int32)), .val (.int (1 : Int32))] [(.ref rr6)])
  obtain ⟨cq11, kq11, zq11a, zq11b, zq11c⟩ := isOf hZ e10 Ex6
  obtain ⟨_, _, ⟨T11, L11, k11, n11⟩, -, X11, ⟨Lc11, hQ11, l11, y11, z11⟩, st11⟩ := X10.interfaceBack hx (xi := (⟨"java/util/List", "size", "()I"⟩ : MethodName)) (y := (⟨"java/util/ImmutableCollections$List12", "size", "()I"⟩ : MethodName)) hown (mvT hZ (hw _ (List.mem_of_getElem? (i := 192) rfl))) (mvT hZ (hw _ (List.mem_of_getElem? (i := 193) rfl))) (mvT hZ (hw _ (List.mem_of_getElem? (i := 194) rfl))) (mvT hZ (hw _ (List.mem_of_getElem? (i := 195) rfl))) (mvT hZ (hw _ (List.mem_of_getElem? (i := 196) rfl))) (mvT hZ (hw _ (List.mem_of_getElem? (i := 197) rfl))) (mvT hZ (hw _ (List.mem_of_getElem? (i := 198) rfl))) (mvT hZ (hw _ (List.mem_of_getElem? (i := 199) rfl))) (by decide) (backOf (W := 0) (rm_s1 l Z a0 hw [] rr6 b1 aE T6.heap n0 Zs6 Fd6 SE Od6) hZ (hw _ (List.mem_of_getElem? (i := 200) rfl)) (hw _ (List.mem_of_getElem? (i := 161) rfl)) (by decide) (by decide)) zq11a zq11b zq11c (g := (mkF m 210 #[.val (.int p0), .val (.int p1), .val (.int p2), .val (.int p3), .val (.int p4), .val (.int p5), .val (.ref aK), s7, .val (.ref a8), .val (.int (1 : Int32)), .val (.ref b1), .val (.ref b3), .val (.int (1 : Int32)), .val (.int (1 : Int32))] [(.ref rr6)])) rfl (by rw [hml]; rfl) (Steps.refl _) (argsL := []) (rest := []) (lenOf pd_20 rfl) rfl (by show 2 * 0 + _ ≤ _; exact Nat.le_of_eq rfl) (hb hby at_210) (fun _ _ => ⟨rfl, e10, (by decide : 3 + 1 + 0 + 1 + 0 + 1 + 2 + 0 + 0 + 0 + 0 + 0 ≤ _), (by decide : 10 + 4 + 0 + 3 + 0 + 10 + 3 + 0 + 0 + 0 + 0 + 0 ≤ _)⟩)
  dsimp only [Pt.U, Pt.locs, Pt.cells, Pt.slots] at X11 l11 y11 z11 st11 hQ11
  subst l11 y11 z11
  obtain ⟨rfl, N11q, e11⟩ := hQ11
  have N11 := Fr.app N10 N11q
  refine own_goS st11 ?_
  show own_Goes _ _ _ _ _ _ _ T11 (mkF m 215 #[.val (.int p0), .val (.int p1), .val (.int p2), .val (.int p3), .val (.int p4), .val (.int p5), .val (.ref aK), s7, .val (.ref a8), .val (.int (1 : Int32)), .val (.ref b1), .val (.ref b3), .val (.int (1 : Int32)), .val (.int (1 : Int32))] [(.int (1 : Int32))])
  refine own_go (fun _ k => XS.iload X11.here hx rfl (hb hby at_215) rfl k) ?_
  show own_Goes _ _ _ _ _ _ _ T11 (mkF m 217 #[.val (.int p0), .val (.int p1), .val (.int p2), .val (.int p3), .val (.int p4), .val (.int p5), .val (.ref aK), s7, .val (.ref a8), .val (.int (1 : Int32)), .val (.ref b1), .val (.ref b3), .val (.int (1 : Int32)), .val (.int (1 : Int32))] [(.int (1 : Int32)), (.int (1 : Int32))])
  refine own_go (fun _ k => XS.icmpNo X11.here hx rfl (hb hby at_217) rfl (teq (by decide : (1 : Int32) = (1 : Int32))).2 k) ?_
  show own_Goes _ _ _ _ _ _ _ T11 (mkF m 220 #[.val (.int p0), .val (.int p1), .val (.int p2), .val (.int p3), .val (.int p4), .val (.int p5), .val (.ref aK), s7, .val (.ref a8), .val (.int (1 : Int32)), .val (.ref b1), .val (.ref b3), .val (.int (1 : Int32)), .val (.int (1 : Int32))] [])
  refine own_go (fun _ k => XS.aload X11.here hx rfl (hb hby at_220) rfl rfl k) ?_
  show own_Goes _ _ _ _ _ _ _ T11 (mkF m 222 #[.val (.int p0), .val (.int p1), .val (.int p2), .val (.int p3), .val (.int p4), .val (.int p5), .val (.ref aK), s7, .val (.ref a8), .val (.int (1 : Int32)), .val (.ref b1), .val (.ref b3), .val (.int (1 : Int32)), .val (.int (1 : Int32))] [(.ref a8)])
  obtain ⟨cq12, kq12, zq12a, zq12b, zq12c⟩ := isOf hZ e11 E_a8_6
  obtain ⟨_, _, ⟨T12, L12, k12, n12⟩, -, X12, ⟨Lc12, hQ12, l12, y12, z12⟩, st12⟩ := X11.virtualBack hx (y := (⟨"com/example/treellis/treellis/cfa/StructType", "packing", "()I"⟩ : MethodName)) (z := (⟨"com/example/treellis/treellis/cfa/StructType", "packing", "()I"⟩ : MethodName)) hown (mvT hZ (hw _ (List.mem_of_getElem? (i := 202) rfl))) (mvT hZ (hw _ (List.mem_of_getElem? (i := 203) rfl))) (notFace_of_selects (args := #[]) (mvT hZ (hw _ (List.mem_of_getElem? (i := 205) rfl)))) (mvT hZ (hw _ (List.mem_of_getElem? (i := 205) rfl))) (mvT hZ (hw _ (List.mem_of_getElem? (i := 204) rfl))) (by decide) (backOf (W := 0) (rm_packing l Z a0 hw [] a8 p3 T6.heap n0 Zs6 Fb6) hZ (hw _ (List.mem_of_getElem? (i := 206) rfl)) (hw _ (List.mem_of_getElem? (i := 5) rfl)) (by decide) (by decide)) zq12a zq12c (g := (mkF m 222 #[.val (.int p0), .val (.int p1), .val (.int p2), .val (.int p3), .val (.int p4), .val (.int p5), .val (.ref aK), s7, .val (.ref a8), .val (.int (1 : Int32)), .val (.ref b1), .val (.ref b3), .val (.int (1 : Int32)), .val (.int (1 : Int32))] [(.ref a8)])) rfl (by rw [hml]; rfl) (Steps.refl _) (argsL := []) (rest := []) (lenOf pd_20 rfl) rfl (by show 2 * 0 + _ ≤ _; exact Nat.le_of_eq rfl) (hb hby at_222) (fun _ _ => ⟨rfl, e11, (by decide : 3 + 1 + 0 + 1 + 0 + 1 + 2 + 0 + 0 + 0 + 0 + 0 + 0 ≤ _), (by decide : 10 + 4 + 0 + 3 + 0 + 10 + 3 + 0 + 0 + 0 + 0 + 0 + 0 ≤ _)⟩)
  dsimp only [Pt.U, Pt.locs, Pt.cells, Pt.slots] at X12 l12 y12 z12 st12 hQ12
  subst l12 y12 z12
  obtain ⟨rfl, N12q, e12⟩ := hQ12
  have N12 := Fr.app N11 N12q
  refine own_goS st12 ?_
  show own_Goes _ _ _ _ _ _ _ T12 (mkF m 225 #[.val (.int p0), .val (.int p1), .val (.int p2), .val (.int p3), .val (.int p4), .val (.int p5), .val (.ref aK), s7, .val (.ref a8), .val (.int (1 : Int32)), .val (.ref b1), .val (.ref b3), .val (.int (1 : Int32)), .val (.int (1 : Int32))] [(.int p3)])
  refine own_go (fun _ k => XS.iloadN X12.here hx rfl (hb hby at_225) rfl k) ?_
  show own_Goes _ _ _ _ _ _ _ T12 (mkF m 226 #[.val (.int p0), .val (.int p1), .val (.int p2), .val (.int p3), .val (.int p4), .val (.int p5), .val (.ref aK), s7, .val (.ref a8), .val (.int (1 : Int32)), .val (.ref b1), .val (.ref b3), .val (.int (1 : Int32)), .val (.int (1 : Int32))] [(.int p3), (.int p3)])
  refine own_go (fun _ k => XS.icmpNo X12.here hx rfl (hb hby at_226) rfl (teq rfl).2 k) ?_
  show own_Goes _ _ _ _ _ _ _ T12 (mkF m 229 #[.val (.int p0), .val (.int p1), .val (.int p2), .val (.int p3), .val (.int p4), .val (.int p5), .val (.ref aK), s7, .val (.ref a8), .val (.int (1 : Int32)), .val (.ref b1), .val (.ref b3), .val (.int (1 : Int32)), .val (.int (1 : Int32))] [])
  refine own_go (fun _ k => XS.aload X12.here hx rfl (hb hby at_229) rfl rfl k) ?_
  show own_Goes _ _ _ _ _ _ _ T12 (mkF m 231 #[.val (.int p0), .val (.int p1), .val (.int p2), .val (.int p3), .val (.int p4), .val (.int p5), .val (.ref aK), s7, .val (.ref a8), .val (.int (1 : Int32)), .val (.ref b1), .val (.ref b3), .val (.int (1 : Int32)), .val (.int (1 : Int32))] [(.ref a8)])
  obtain ⟨cq13, kq13, zq13a, zq13b, zq13c⟩ := isOf hZ e12 E_a8_6
  obtain ⟨_, _, ⟨T13, L13, k13, n13⟩, -, X13, ⟨Lc13, hQ13, l13, y13, z13⟩, st13⟩ := X12.virtualBack hx (y := (⟨"com/example/treellis/treellis/cfa/StructType", "alignment", "()I"⟩ : MethodName)) (z := (⟨"com/example/treellis/treellis/cfa/StructType", "alignment", "()I"⟩ : MethodName)) hown (mvT hZ (hw _ (List.mem_of_getElem? (i := 207) rfl))) (mvT hZ (hw _ (List.mem_of_getElem? (i := 208) rfl))) (notFace_of_selects (args := #[]) (mvT hZ (hw _ (List.mem_of_getElem? (i := 210) rfl)))) (mvT hZ (hw _ (List.mem_of_getElem? (i := 210) rfl))) (mvT hZ (hw _ (List.mem_of_getElem? (i := 209) rfl))) (by decide) (backOf (W := 0) (rm_alignment l Z a0 hw [] a8 p4 T6.heap n0 Zs6 Fc6) hZ (hw _ (List.mem_of_getElem? (i := 211) rfl)) (hw _ (List.mem_of_getElem? (i := 5) rfl)) (by decide) (by decide)) zq13a zq13c (g := (mkF m 231 #[.val (.int p0), .val (.int p1), .val (.int p2), .val (.int p3), .val (.int p4), .val (.int p5), .val (.ref aK), s7, .val (.ref a8), .val (.int (1 : Int32)), .val (.ref b1), .val (.ref b3), .val (.int (1 : Int32)), .val (.int (1 : Int32))] [(.ref a8)])) rfl (by rw [hml]; rfl) (Steps.refl _) (argsL := []) (rest := []) (lenOf pd_20 rfl) rfl (by show 2 * 0 + _ ≤ _; exact Nat.le_of_eq rfl) (hb hby at_231) (fun _ _ => ⟨rfl, e12, (by decide : 3 + 1 + 0 + 1 + 0 + 1 + 2 + 0 + 0 + 0 + 0 + 0 + 0 + 0 ≤ _), (by decide : 10 + 4 + 0 + 3 + 0 + 10 + 3 + 0 + 0 + 0 + 0 + 0 + 0 + 0 ≤ _)⟩)
  dsimp only [Pt.U, Pt.locs, Pt.cells, Pt.slots] at X13 l13 y13 z13 st13 hQ13
  subst l13 y13 z13
  obtain ⟨rfl, N13q, e13⟩ := hQ13
  have N13 := Fr.app N12 N13q
  refine own_goS st13 ?_
  show own_Goes _ _ _ _ _ _ _ T13 (mkF m 234 #[.val (.int p0), .val (.int p1), .val (.int p2), .val (.int p3), .val (.int p4), .val (.int p5), .val (.ref aK), s7, .val (.ref a8), .val (.int (1 : Int32)), .val (.ref b1), .val (.ref b3), .val (.int (1 : Int32)), .val (.int (1 : Int32))] [(.int p4)])
  refine own_go (fun _ k => XS.iload X13.here hx rfl (hb hby at_234) rfl k) ?_
  show own_Goes _ _ _ _ _ _ _ T13 (mkF m 236 #[.val (.int p0), .val (.int p1), .val (.int p2), .val (.int p3), .val (.int p4), .val (.int p5), .val (.ref aK), s7, .val (.ref a8), .val (.int (1 : Int32)), .val (.ref b1), .val (.ref b3), .val (.int (1 : Int32)), .val (.int (1 : Int32))] [(.int p4), (.int p4)])
  refine own_go (fun _ k => XS.icmpNo X13.here hx rfl (hb hby at_236) rfl (teq rfl).2 k) ?_
  show own_Goes _ _ _ _ _ _ _ T13 (mkF m 239 #[.val (.int p0), .val (.int p1), .val (.int p2), .val (.int p3), .val (.int p4), .val (.int p5), .val (.ref aK), s7, .val (.ref a8), .val (.int (1 : Int32)), .val (.ref b1), .val (.ref b3), .val (.int (1 : Int32)), .val (.int (1 : Int32))] [])
  refine own_go (fun _ k => XS.iconst X13.here hx rfl (hb hby at_239) k) ?_
  show own_Goes _ _ _ _ _ _ _ T13 (mkF m 240 #[.val (.int p0), .val (.int p1), .val (.int p2), .val (.int p3), .val (.int p4), .val (.int p5), .val (.ref aK), s7, .val (.ref a8), .val (.int (1 : Int32)), .val (.ref b1), .val (.ref b3), .val (.int (1 : Int32)), .val (.int (1 : Int32))] [(.int (1 : Int32))])
  refine own_go (fun _ k => XS.goto X13.here hx rfl (pc0 := 240) (pc' := 244) rfl (hb hby at_240) (by decide) (by decide) k) ?_
  show own_Goes _ _ _ _ _ _ _ T13 (mkF m 244 #[.val (.int p0), .val (.int p1), .val (.int p2), .val (.int p3), .val (.int p4), .val (.int p5), .val (.ref aK), s7, .val (.ref a8), .val (.int (1 : Int32)), .val (.ref b1), .val (.ref b3), .val (.int (1 : Int32)), .val (.int (1 : Int32))] [(.int (1 : Int32))])
  exact own_retN X13 hx (t := .boolean) hlk hret (by simp) (hb hby at_244) (by decide) (by decide) ⟨rfl, N13⟩
set_option maxRecDepth 65536 in
set_option maxHeartbeats 40000000 in
theorem seg98_2 {p : Program} {l : Launch} {e : Env} {s : State} {m : MethodId} {args : Array Value} {below : List Frame} {meth : Method} {c : Code} {s₁ : State} {locs : List Loc} {Z : State} {a0 : Array Value} {h0 : Heap} (p0 p1 p2 p3 p4 p5 : Int32) (aK a8 : Addr) (s7 : Slot) (aD aE aL aM aX : Addr) (cD cX : Cell)
    (hw : ∀ d ∈ tables_1, d.before a0 Z = true) (C : own_Ctx Z x "com/example/treellis/treellis/cfa/StructTypeIsCompletePinLaw" code maxLocals ret p s m meth c) (X0 : Stand p l e room_1 s m args below meth c s₁ locs 3 10) (e0 : s₁.heap = h0) (n0 : Nat) (Z0 : n0 ≤ h0.size) (N0 : Fr n0 locs) (SD : Sta Z Z.heap "java/util/ArrayList" "DEFAULTCAPACITY_EMPTY_ELEMENTDATA" "[Ljava/lang/Object;" (.ref aD)) (AD : Arr Z Z.heap aD cD (.object "java/lang/Object")) (zD : cD.slots.size = 0) (SE : Sta Z Z.heap "java/util/ImmutableCollections" "EMPTY" "Ljava/lang/Object;" (.ref aE)) (SL : Sta Z Z.heap "java/util/ImmutableCollections" "EMPTY_LIST" "Ljava/util/ImmutableCollections$ListN;" (.ref aL)) (MM : Mir Z "[Ljava/lang/Object;" aM) (hEx : Exa Z Z.heap aE "java/lang/Object") (EL : Exa Z Z.heap aL "java/util/ImmutableCollections$ListN") (FL : Fld Z Z.heap aL "java/util/ImmutableCollections$ListN" "elements" "[Ljava/lang/Object;" (.ref aX)) (AX : Arr Z Z.heap aX cX (.object "java/lang/Object")) (zX : cX.slots.size.toInt32 = (0 : Int32)) (Od0 : Old Z n0 h0) (E_a8 : Exa Z h0 a8 "com/example/treellis/treellis/cfa/StructType") (F_mb : Fld Z h0 a8 "com/example/treellis/treellis/cfa/StructType" "members" "Ljava/util/List;" .null) (F_pk : Fld Z h0 a8 "com/example/treellis/treellis/cfa/StructType" "packing" "I" (.int (0 : Int32))) (F_ag : Fld Z h0 a8 "com/example/treellis/treellis/cfa/StructType" "alignment" "I" (.int (0 : Int32))) (lo_a8 : n0 ≤ a8) :
    own_Goes p e below s (fun v h L => v = some (.int 1) ∧ Fr n0 L) room_1.cells room_1.slots s₁ (mkF m 98 #[.val (.int p0), .val (.int p1), .val (.int p2), .val (.int p3), .val (.int p4), .val (.int p5), .val (.ref aK), s7, .val (.ref a8), .val (.int (2 : Int32)), .unset, .unset, .unset, .unset] []) := by
  obtain ⟨hx, hby, hml, hown, hnm, hret, hlk, hZ⟩ := C
  obtain ⟨T1, h1, X1, e1, E1, A1, D1, -, st1⟩ := newO X0 hx hZ hown (hw _ (List.mem_of_getElem? (i := 28) rfl)) (hw _ (List.mem_of_getElem? (i := 29) rfl)) (hw _ (List.mem_of_getElem? (i := 30) rfl)) e0 (g := (mkF m 98 #[.val (.int p0), .val (.int p1), .val (.int p2), .val (.int p3), .val (.int p4), .val (.int p5), .val (.ref aK), s7, .val (.ref a8), .val (.int (2 : Int32)), .unset, .unset, .unset, .unset] [])) rfl (hb hby at_98) (by decide) (by decide)
  obtain ⟨b1, g1⟩ : ∃ z, z = h0.size := ⟨_, rfl⟩
  rw [← g1] at A1 D1 st1
  have lo_b1 : n0 ≤ b1 := Nat.le_trans Z0 (Nat.le_of_eq g1.symm)
  have ne_a8_b1 : a8 ≠ b1 := Nat.ne_of_lt (Nat.lt_of_lt_of_le E_a8.lt (Nat.le_of_eq g1.symm))
  have E_a8_1 : Exa Z h1 a8 "com/example/treellis/treellis/cfa/StructType" := E_a8.ext E1
  have F_mb_1 : Fld Z h1 a8 "com/example/treellis/treellis/cfa/StructType" "members" "Ljava/util/List;" .null := F_mb.ext E1
  have F_pk_1 : Fld Z h1 a8 "com/example/treellis/treellis/cfa/StructType" "packing" "I" (.int (0 : Int32)) := F_pk.ext E1
  have F_ag_1 : Fld Z h1 a8 "com/example/treellis/treellis/cfa/StructType" "alignment" "I" (.int (0 : Int32)) := F_ag.ext E1
  have Zs1 : n0 ≤ h1.size := Nat.le_trans Z0 E1.1
  have Od1 : Old Z n0 h1 := Od0.ext E1
  have F_name_b1 : Fld Z h1 b1 "com/example/treellis/treellis/cfa/StructType$Member" "name" "Ljava/lang/String;" .null := D1 (Or.inr (hw _ (List.mem_of_getElem? (i := 36) rfl))) (ty := (.object "java/lang/String")) (by decide)
  have F_type_b1 : Fld Z h1 b1 "com/example/treellis/treellis/cfa/StructType$Member" "type" "Lcom/example/treellis/treellis/cfa/Type;" .null := D1 (Or.inr (hw _ (List.mem_of_getElem? (i := 38) rfl))) (ty := (.object "com/example/treellis/treellis/cfa/Type")) (by decide)
  have F_bitWidth_b1 : Fld Z h1 b1 "com/example/treellis/treellis/cfa/StructType$Member" "bitWidth" "Ljava/lang/Integer;" .null := D1 (Or.inr (hw _ (List.mem_of_getElem? (i := 40) rfl))) (ty := (.object "java/lang/Integer")) (by decide)
  have F_alignment_b1 : Fld Z h1 b1 "com/example/treellis/treellis/cfa/StructType$Member" "alignment" "I" (.int (0 : Int32)) := D1 (Or.inr (hw _ (List.mem_of_getElem? (i := 42) rfl))) (ty := .int) (by decide)
  refine own_go st1 ?_
  show own_Goes _ _ _ _ _ _ _ T1 (mkF m 101 #[.val (.int p0), .val (.int p1), .val (.int p2), .val (.int p3), .val (.int p4), .val (.int p5), .val (.ref aK), s7, .val (.ref a8), .val (.int (2 : Int32)), .unset, .unset, .unset, .unset] [(.ref b1)])
  refine own_go (fun _ k => XS.dup X1.here hx rfl (hb hby at_101) rfl rfl k) ?_
  show own_Goes _ _ _ _ _ _ _ T1 (mkF m 102 #[.val (.int p0), .val (.int p1), .val (.int p2), .val (.int p3), .val (.int p4), .val (.int p5), .val (.ref aK), s7, .val (.ref a8), .val (.int (2 : Int32)), .unset, .unset, .unset, .unset] [(.ref b1), (.ref b1)])
  refine own_go (fun _ k => XS.aconstNull X1.here hx rfl (hb hby at_102) k) ?_
  show own_Goes _ _ _ _ _ _ _ T1 (mkF m 103 #[.val (.int p0), .val (.int p1), .val (.int p2), .val (.int p3), .val (.int p4), .val (.int p5), .val (.ref aK), s7, .val (.ref a8), .val (.int (2 : Int32)), .unset, .unset, .unset, .unset] [.null, (.ref b1), (.ref b1)])
  refine own_go (fun _ k => XS.aload X1.here hx rfl (hb hby at_103) rfl rfl k) ?_
  show own_Goes _ _ _ _ _ _ _ T1 (mkF m 105 #[.val (.int p0), .val (.int p1), .val (.int p2), .val (.int p3), .val (.int p4), .val (.int p5), .val (.ref aK), s7, .val (.ref a8), .val (.int (2 : Int32)), .unset, .unset, .unset, .unset] [(.ref a8), .null, (.ref b1), (.ref b1)])
  refine own_go (fun _ k => XS.aconstNull X1.here hx rfl (hb hby at_105) k) ?_
  show own_Goes _ _ _ _ _ _ _ T1 (mkF m 106 #[.val (.int p0), .val (.int p1), .val (.int p2), .val (.int p3), .val (.int p4), .val (.int p5), .val (.ref aK), s7, .val (.ref a8), .val (.int (2 : Int32)), .unset, .unset, .unset, .unset] [.null, (.ref a8), .null, (.ref b1), (.ref b1)])
  refine own_go (fun _ k => XS.iconst X1.here hx rfl (hb hby at_106) k) ?_
  show own_Goes _ _ _ _ _ _ _ T1 (mkF m 107 #[.val (.int p0), .val (.int p1), .val (.int p2), .val (.int p3), .val (.int p4), .val (.int p5), .val (.ref aK), s7, .val (.ref a8), .val (.int (2 : Int32)), .unset, .unset, .unset, .unset] [(.int (0 : Int32)), .null, (.ref a8), .null, (.ref b1), (.ref b1)])
  obtain ⟨_, _, ⟨T2, L2, k2, n2⟩, -, X2, ⟨Lc2, hQ2, l2, y2, z2⟩, st2⟩ := X1.specialBack hx (y := (⟨"com/example/treellis/treellis/cfa/StructType$Member", "<init>", "(Ljava/lang/String;Lcom/example/treellis/treellis/cfa/Type;Ljava/lang/Integer;I)V"⟩ : MethodName)) rfl hown (mvT hZ (hw _ (List.mem_of_getElem? (i := 31) rfl))) (mvT hZ (hw _ (List.mem_of_getElem? (i := 32) rfl))) (mvT hZ (hw _ (List.mem_of_getElem? (i := 33) rfl))) (by decide) (backOf (W := 1) (rm_mi l Z a0 hw [] b1 a8 h1 n0 Zs1 A1 F_name_b1 F_type_b1 F_bitWidth_b1 F_alignment_b1 lo_b1) hZ (hw _ (List.mem_of_getElem? (i := 33) rfl)) (hw _ (List.mem_of_getElem? (i := 30) rfl)) (by decide) (by decide)) (g := (mkF m 107 #[.val (.int p0), .val (.int p1), .val (.int p2), .val (.int p3), .val (.int p4), .val (.int p5), .val (.ref aK), s7, .val (.ref a8), .val (.int (2 : Int32)), .unset, .unset, .unset, .unset] [(.int (0 : Int32)), .null, (.ref a8), .null, (.ref b1), (.ref b1)])) rfl (by rw [hml]; rfl) (Steps.refl _) (a := b1) (argsL := [.null, (.ref a8), .null, (.int (0 : Int32))]) (rest := [(.ref b1)]) (lenOf pd_18 rfl) rfl (by show 2 * 0 + _ ≤ _; exact Nat.le_of_eq rfl) (hb hby at_107) (fun _ _ => ⟨rfl, e1, (by decide : 3 + 1 + 0 ≤ _), (by decide : 10 + 4 + 0 ≤ _)⟩)
  dsimp only [Pt.U, Pt.locs, Pt.cells, Pt.slots] at X2 l2 y2 z2 st2 hQ2
  subst l2 y2 z2
  obtain ⟨rfl, N2q, K2⟩ := hQ2
  have N2 := Fr.app N0 N2q
  refine own_goS st2 ?_
  show own_Goes _ _ _ _ _ _ _ T2 (mkF m 110 #[.val (.int p0), .val (.int p1), .val (.int p2), .val (.int p3), .val (.int p4), .val (.int p5), .val (.ref aK), s7, .val (.ref a8), .val (.int (2 : Int32)), .unset, .unset, .unset, .unset] [(.ref b1)])
  have E_a8_2 : Exa Z T2.heap a8 "com/example/treellis/treellis/cfa/StructType" := E_a8_1.keep K2
  have F_mb_2 : Fld Z T2.heap a8 "com/example/treellis/treellis/cfa/StructType" "members" "Ljava/util/List;" .null := F_mb_1.keep K2 (ninS ne_a8_b1 nin0)
  have F_pk_2 : Fld Z T2.heap a8 "com/example/treellis/treellis/cfa/StructType" "packing" "I" (.int (0 : Int32)) := F_pk_1.keep K2 (ninS ne_a8_b1 nin0)
  have F_ag_2 : Fld Z T2.heap a8 "com/example/treellis/treellis/cfa/StructType" "alignment" "I" (.int (0 : Int32)) := F_ag_1.keep K2 (ninS ne_a8_b1 nin0)
  have E_b1_2 : Exa Z T2.heap b1 "com/example/treellis/treellis/cfa/StructType$Member" := A1.keep K2
  have Zs2 : n0 ≤ T2.heap.size := Nat.le_trans Zs1 K2.1
  have Od2 : Old Z n0 T2.heap := Od1.keep K2 (allS lo_b1 all0)
  refine own_go (fun _ k => XS.astore X2.here hx rfl (hb hby at_110) rfl rfl (l' := #[.val (.int p0), .val (.int p1), .val (.int p2), .val (.int p3), .val (.int p4), .val (.int p5), .val (.ref aK), s7, .val (.ref a8), .val (.int (2 : Int32)), .val (.ref b1), .unset, .unset, .unset]) rfl k) ?_
  show own_Goes _ _ _ _ _ _ _ T2 (mkF m 112 #[.val (.int p0), .val (.int p1), .val (.int p2), .val (.int p3), .val (.int p4), .val (.int p5), .val (.ref aK), s7, .val (.ref a8), .val (.int (2 : Int32)), .val (.ref b1), .unset, .unset, .unset] [])
  obtain ⟨T3, h3, X3, e3, E3, A3, D3, -, st3⟩ := newO X2 hx hZ hown (hw _ (List.mem_of_getElem? (i := 43) rfl)) (hw _ (List.mem_of_getElem? (i := 44) rfl)) (hw _ (List.mem_of_getElem? (i := 45) rfl)) rfl (g := (mkF m 112 #[.val (.int p0), .val (.int p1), .val (.int p2), .val (.int p3), .val (.int p4), .val (.int p5), .val (.ref aK), s7, .val (.ref a8), .val (.int (2 : Int32)), .val (.ref b1), .unset, .unset, .unset] [])) rfl (hb hby at_112) (by decide) (by decide)
  obtain ⟨b3, g3⟩ : ∃ z, z = T2.heap.size := ⟨_, rfl⟩
  rw [← g3] at A3 D3 st3
  have lo_b3 : n0 ≤ b3 := Nat.le_trans Zs2 (Nat.le_of_eq g3.symm)
  have ne_a8_b3 : a8 ≠ b3 := Nat.ne_of_lt (Nat.lt_of_lt_of_le E_a8_2.lt (Nat.le_of_eq g3.symm))
  have ne_b1_b3 : b1 ≠ b3 := Nat.ne_of_lt (Nat.lt_of_lt_of_le E_b1_2.lt (Nat.le_of_eq g3.symm))
  have E_a8_3 : Exa Z h3 a8 "com/example/treellis/treellis/cfa/StructType" := E_a8_2.ext E3
  have F_mb_3 : Fld Z h3 a8 "com/example/treellis/treellis/cfa/StructType" "members" "Ljava/util/List;" .null := F_mb_2.ext E3
  have F_pk_3 : Fld Z h3 a8 "com/example/treellis/treellis/cfa/StructType" "packing" "I" (.int (0 : Int32)) := F_pk_2.ext E3
  have F_ag_3 : Fld Z h3 a8 "com/example/treellis/treellis/cfa/StructType" "alignment" "I" (.int (0 : Int32)) := F_ag_2.ext E3
  have E_b1_3 : Exa Z h3 b1 "com/example/treellis/treellis/cfa/StructType$Member" := E_b1_2.ext E3
  have Zs3 : n0 ≤ h3.size := Nat.le_trans Zs2 E3.1
  have Od3 : Old Z n0 h3 := Od2.ext E3
  have F_modCount_b3 : Fld Z h3 b3 "java/util/AbstractList" "modCount" "I" (.int (0 : Int32)) := D3 (Or.inl (hw _ (List.mem_of_getElem? (i := 63) rfl))) (ty := .int) (by decide)
  have F_elementData_b3 : Fld Z h3 b3 "java/util/ArrayList" "elementData" "[Ljava/lang/Object;" .null := D3 (Or.inl (hw _ (List.mem_of_getElem? (i := 66) rfl))) (ty := (.array (.object "java/lang/Object"))) (by decide)
  have F_size_b3 : Fld Z h3 b3 "java/util/ArrayList" "size" "I" (.int (0 : Int32)) := D3 (Or.inl (hw _ (List.mem_of_getElem? (i := 75) rfl))) (ty := .int) (by decide)
  refine own_go st3 ?_
  show own_Goes _ _ _ _ _ _ _ T3 (mkF m 115 #[.val (.int p0), .val (.int p1), .val (.int p2), .val (.int p3), .val (.int p4), .val (.int p5), .val (.ref aK), s7, .val (.ref a8), .val (.int (2 : Int32)), .val (.ref b1), .unset, .unset, .unset] [(.ref b3)])
  refine own_go (fun _ k => XS.dup X3.here hx rfl (hb hby at_115) rfl rfl k) ?_
  show own_Goes _ _ _ _ _ _ _ T3 (mkF m 116 #[.val (.int p0), .val (.int p1), .val (.int p2), .val (.int p3), .val (.int p4), .val (.int p5), .val (.ref aK), s7, .val (.ref a8), .val (.int (2 : Int32)), .val (.ref b1), .unset, .unset, .unset] [(.ref b3), (.ref b3)])
  obtain ⟨_, _, ⟨T4, L4, k4, n4⟩, -, X4, ⟨Lc4, hQ4, l4, y4, z4⟩, st4⟩ := X3.specialBack hx (y := (⟨"java/util/ArrayList", "<init>", "()V"⟩ : MethodName)) rfl hown (mvT hZ (hw _ (List.mem_of_getElem? (i := 46) rfl))) (mvT hZ (hw _ (List.mem_of_getElem? (i := 47) rfl))) (mvT hZ (hw _ (List.mem_of_getElem? (i := 48) rfl))) (by decide) (backOf (W := 1) (rm_al l Z a0 hw [] b3 aD h3 n0 Zs3 A3 F_modCount_b3 F_size_b3 F_elementData_b3 lo_b3 SD Od3) hZ (hw _ (List.mem_of_getElem? (i := 48) rfl)) (hw _ (List.mem_of_getElem? (i := 45) rfl)) (by decide) (by decide)) (g := (mkF m 116 #[.val (.int p0), .val (.int p1), .val (.int p2), .val (.int p3), .val (.int p4), .val (.int p5), .val (.ref aK), s7, .val (.ref a8), .val (.int (2 : Int32)), .val (.ref b1), .unset, .unset, .unset] [(.ref b3), (.ref b3)])) rfl (by rw [hml]; rfl) (Steps.refl _) (a := b3) (argsL := []) (rest := [(.ref b3)]) (lenOf pd_0 rfl) rfl (by show 2 * 0 + _ ≤ _; exact Nat.le_of_eq rfl) (hb hby at_116) (fun _ _ => ⟨rfl, e3, (by decide : 3 + 1 + 0 + 1 + 0 ≤ _), (by decide : 10 + 4 + 0 + 3 + 0 ≤ _)⟩)
  dsimp only [Pt.U, Pt.locs, Pt.cells, Pt.slots] at X4 l4 y4 z4 st4 hQ4
  subst l4 y4 z4
  obtain ⟨rfl, N4q, K4, Fa4, Fb4, Fc4⟩ := hQ4
  have N4 := Fr.app N2 N4q
  refine own_goS st4 ?_
  show own_Goes _ _ _ _ _ _ _ T4 (mkF m 119 #[.val (.int p0), .val (.int p1), .val (.int p2), .val (.int p3), .val (.int p4), .val (.int p5), .val (.ref aK), s7, .val (.ref a8), .val (.int (2 : Int32)), .val (.ref b1), .unset, .unset, .unset] [(.ref b3)])
  have E_a8_4 : Exa Z T4.heap a8 "com/example/treellis/treellis/cfa/StructType" := E_a8_3.keep K4
  have F_mb_4 : Fld Z T4.heap a8 "com/example/treellis/treellis/cfa/StructType" "members" "Ljava/util/List;" .null := F_mb_3.keep K4 (ninS ne_a8_b3 nin0)
  have F_pk_4 : Fld Z T4.heap a8 "com/example/treellis/treellis/cfa/StructType" "packing" "I" (.int (0 : Int32)) := F_pk_3.keep K4 (ninS ne_a8_b3 nin0)
  have F_ag_4 : Fld Z T4.heap a8 "com/example/treellis/treellis/cfa/StructType" "alignment" "I" (.int (0 : Int32)) := F_ag_3.keep K4 (ninS ne_a8_b3 nin0)
  have E_b1_4 : Exa Z T4.heap b1 "com/example/treellis/treellis/cfa/StructType$Member" := E_b1_3.keep K4
  have E_b3_4 : Exa Z T4.heap b3 "java/util/ArrayList" := A3.keep K4
  have Zs4 : n0 ≤ T4.heap.size := Nat.le_trans Zs3 K4.1
  have Od4 : Old Z n0 T4.heap := Od3.keep K4 (allS lo_b3 all0)
  refine own_go (fun _ k => XS.astore X4.here hx rfl (hb hby at_119) rfl rfl (l' := #[.val (.int p0), .val (.int p1), .val (.int p2), .val (.int p3), .val (.int p4), .val (.int p5), .val (.ref aK), s7, .val (.ref a8), .val (.int (2 : Int32)), .val (.ref b1), .val (.ref b3), .unset, .unset]) rfl k) ?_
  show own_Goes _ _ _ _ _ _ _ T4 (mkF m 121 #[.val (.int p0), .val (.int p1), .val (.int p2), .val (.int p3), .val (.int p4), .val (.int p5), .val (.ref aK), s7, .val (.ref a8), .val (.int (2 : Int32)), .val (.ref b1), .val (.ref b3), .unset, .unset] [])
  refine own_go (fun _ k => XS.iload X4.here hx rfl (hb hby at_121) rfl k) ?_
  show own_Goes _ _ _ _ _ _ _ T4 (mkF m 123 #[.val (.int p0), .val (.int p1), .val (.int p2), .val (.int p3), .val (.int p4), .val (.int p5), .val (.ref aK), s7, .val (.ref a8), .val (.int (2 : Int32)), .val (.ref b1), .val (.ref b3), .unset, .unset] [(.int (2 : Int32))])
  refine own_go (fun _ k => XS.iconst X4.here hx rfl (hb hby at_123) k) ?_
  show own_Goes _ _ _ _ _ _ _ T4 (mkF m 124 #[.val (.int p0), .val (.int p1), .val (.int p2), .val (.int p3), .val (.int p4), .val (.int p5), .val (.ref aK), s7, .val (.ref a8), .val (.int (2 : Int32)), .val (.ref b1), .val (.ref b3), .unset, .unset] [(.int (1 : Int32)), (.int (2 : Int32))])
  refine own_go (fun _ k => XS.icmpNo X4.here hx rfl (hb hby at_124) rfl (flt (by decide : ¬ ((2 : Int32) < (1 : Int32)))).1 k) ?_
  show own_Goes _ _ _ _ _ _ _ T4 (mkF m 127 #[.val (.int p0), .val (.int p1), .val (.int p2), .val (.int p3), .val (.int p4), .val (.int p5), .val (.ref aK), s7, .val (.ref a8), .val (.int (2 : Int32)), .val (.ref b1), .val (.ref b3), .unset, .unset] [])
  refine own_go (fun _ k => XS.aload X4.here hx rfl (hb hby at_127) rfl rfl k) ?_
  show own_Goes _ _ _ _ _ _ _ T4 (mkF m 129 #[.val (.int p0), .val (.int p1), .val (.int p2), .val (.int p3), .val (.int p4), .val (.int p5), .val (.ref aK), s7, .val (.ref a8), .val (.int (2 : Int32)), .val (.ref b1), .val (.ref b3), .unset, .unset] [(.ref b3)])
  refine own_go (fun _ k => XS.aload X4.here hx rfl (hb hby at_129) rfl rfl k) ?_
  show own_Goes _ _ _ _ _ _ _ T4 (mkF m 131 #[.val (.int p0), .val (.int p1), .val (.int p2), .val (.int p3), .val (.int p4), .val (.int p5), .val (.ref aK), s7, .val (.ref a8), .val (.int (2 : Int32)), .val (.ref b1), .val (.ref b3), .unset, .unset] [(.ref b1), (.ref b3)])
  obtain ⟨cq5, kq5, zq5a, zq5b, zq5c⟩ := isOf hZ rfl E_b3_4
  obtain ⟨_, _, ⟨T5, L5, k5, n5⟩, -, X5, ⟨Lc5, hQ5, l5, y5, z5⟩, st5⟩ := X4.virtualBack hx (y := (⟨"java/util/ArrayList", "add", "(Ljava/lang/Object;)Z"⟩ : MethodName)) (z := (⟨"java/util/ArrayList", "add", "(Ljava/lang/Object;)Z"⟩ : MethodName)) hown (mvT hZ (hw _ (List.mem_of_getElem? (i := 67) rfl))) (mvT hZ (hw _ (List.mem_of_getElem? (i := 68) rfl))) (notFace_of_selects (args := #[]) (mvT hZ (hw _ (List.mem_of_getElem? (i := 70) rfl)))) (mvT hZ (hw _ (List.mem_of_getElem? (i := 70) rfl))) (mvT hZ (hw _ (List.mem_of_getElem? (i := 69) rfl))) (by decide) (backOf (W := 0) (rm_add0 l Z a0 hw [] b3 b1 aD cD T4.heap n0 Zs4 E_b3_4 Fa4 Fb4 Fc4 E_b1_4 lo_b3 (Ne.symm ne_b1_b3) SD AD zD Od4) hZ (hw _ (List.mem_of_getElem? (i := 71) rfl)) (hw _ (List.mem_of_getElem? (i := 45) rfl)) (by decide) (by decide)) zq5a zq5c (g := (mkF m 131 #[.val (.int p0), .val (.int p1), .val (.int p2), .val (.int p3), .val (.int p4), .val (.int p5), .val (.ref aK), s7, .val (.ref a8), .val (.int (2 : Int32)), .val (.ref b1), .val (.ref b3), .unset, .unset] [(.ref b1), (.ref b3)])) rfl (by rw [hml]; rfl) (Steps.refl _) (argsL := [(.ref b1)]) (rest := []) (lenOf pd_21 rfl) rfl (by show 2 * 0 + _ ≤ _; exact Nat.le_of_eq rfl) (hb hby at_131) (fun _ _ => ⟨rfl, rfl, (by decide : 3 + 1 + 0 + 1 + 0 + 1 ≤ _), (by decide : 10 + 4 + 0 + 3 + 0 + 10 ≤ _)⟩)
  dsimp only [Pt.U, Pt.locs, Pt.cells, Pt.slots] at X5 l5 y5 z5 st5 hQ5
  subst l5 y5 z5
  obtain ⟨bb5, kk5, rfl, N5q, hb5, K5, Fa5, Fb5, Fc5, Va5, Ov5, Ea5⟩ := hQ5
  have N5 := Fr.app N4 N5q
  refine own_goS st5 ?_
  show own_Goes _ _ _ _ _ _ _ T5 (mkF m 134 #[.val (.int p0), .val (.int p1), .val (.int p2), .val (.int p3), .val (.int p4), .val (.int p5), .val (.ref aK), s7, .val (.ref a8), .val (.int (2 : Int32)), .val (.ref b1), .val (.ref b3), .unset, .unset] [(.int (1 : Int32))])
  have E_a8_5 : Exa Z T5.heap a8 "com/example/treellis/treellis/cfa/StructType" := E_a8_4.keep K5
  have F_mb_5 : Fld Z T5.heap a8 "com/example/treellis/treellis/cfa/StructType" "members" "Ljava/util/List;" .null := F_mb_4.keep K5 (ninS ne_a8_b3 nin0)
  have F_pk_5 : Fld Z T5.heap a8 "com/example/treellis/treellis/cfa/StructType" "packing" "I" (.int (0 : Int32)) := F_pk_4.keep K5 (ninS ne_a8_b3 nin0)
  have F_ag_5 : Fld Z T5.heap a8 "com/example/treellis/treellis/cfa/StructType" "alignment" "I" (.int (0 : Int32)) := F_ag_4.keep K5 (ninS ne_a8_b3 nin0)
  have E_b1_5 : Exa Z T5.heap b1 "com/example/treellis/treellis/cfa/StructType$Member" := E_b1_4.keep K5
  have E_b3_5 : Exa Z T5.heap b3 "java/util/ArrayList" := E_b3_4.keep K5
  have Zs5 : n0 ≤ T5.heap.size := Nat.le_trans Zs4 K5.1
  have Od5 : Old Z n0 T5.heap := Od4.keep K5 (allS lo_b3 all0)
  have lo_bb5 : n0 ≤ bb5 := Nat.le_trans Zs4 hb5
  have ne_a8_bb5 : a8 ≠ bb5 := Nat.ne_of_lt (Nat.lt_of_lt_of_le E_a8_4.lt hb5)
  have ne_b1_bb5 : b1 ≠ bb5 := Nat.ne_of_lt (Nat.lt_of_lt_of_le E_b1_4.lt hb5)
  have ne_b3_bb5 : b3 ≠ bb5 := Nat.ne_of_lt (Nat.lt_of_lt_of_le E_b3_4.lt hb5)
  refine own_go (fun _ k => XS.pop X5.here hx rfl (hb hby at_134) rfl rfl k) ?_
  show own_Goes _ _ _ _ _ _ _ T5 (mkF m 135 #[.val (.int p0), .val (.int p1), .val (.int p2), .val (.int p3), .val (.int p4), .val (.int p5), .val (.ref aK), s7, .val (.ref a8), .val (.int (2 : Int32)), .val (.ref b1), .val (.ref b3), .unset, .unset] [])
  refine own_go (fun _ k => XS.iload X5.here hx rfl (hb hby at_135) rfl k) ?_
  show own_Goes _ _ _ _ _ _ _ T5 (mkF m 137 #[.val (.int p0), .val (.int p1), .val (.int p2), .val (.int p3), .val (.int p4), .val (.int p5), .val (.ref aK), s7, .val (.ref a8), .val (.int (2 : Int32)), .val (.ref b1), .val (.ref b3), .unset, .unset] [(.int (2 : Int32))])
  refine own_go (fun _ k => XS.iconst X5.here hx rfl (hb hby at_137) k) ?_
  show own_Goes _ _ _ _ _ _ _ T5 (mkF m 138 #[.val (.int p0), .val (.int p1), .val (.int p2), .val (.int p3), .val (.int p4), .val (.int p5), .val (.ref aK), s7, .val (.ref a8), .val (.int (2 : Int32)), .val (.ref b1), .val (.ref b3), .unset, .unset] [(.int (2 : Int32)), (.int (2 : Int32))])
  refine own_go (fun _ k => XS.icmpNo X5.here hx rfl (hb hby at_138) rfl (flt (by decide : ¬ ((2 : Int32) < (2 : Int32)))).1 k) ?_
  show own_Goes _ _ _ _ _ _ _ T5 (mkF m 141 #[.val (.int p0), .val (.int p1), .val (.int p2), .val (.int p3), .val (.int p4), .val (.int p5), .val (.ref aK), s7, .val (.ref a8), .val (.int (2 : Int32)), .val (.ref b1), .val (.ref b3), .unset, .unset] [])
  refine own_go (fun _ k => XS.aload X5.here hx rfl (hb hby at_141) rfl rfl k) ?_
  show own_Goes _ _ _ _ _ _ _ T5 (mkF m 143 #[.val (.int p0), .val (.int p1), .val (.int p2), .val (.int p3), .val (.int p4), .val (.int p5), .val (.ref aK), s7, .val (.ref a8), .val (.int (2 : Int32)), .val (.ref b1), .val (.ref b3), .unset, .unset] [(.ref b3)])
  refine own_go (fun _ k => XS.aload X5.here hx rfl (hb hby at_143) rfl rfl k) ?_
  show own_Goes _ _ _ _ _ _ _ T5 (mkF m 145 #[.val (.int p0), .val (.int p1), .val (.int p2), .val (.int p3), .val (.int p4), .val (.int p5), .val (.ref aK), s7, .val (.ref a8), .val (.int (2 : Int32)), .val (.ref b1), .val (.ref b3), .unset, .unset] [(.ref b1), (.ref b3)])
  obtain ⟨cq6, kq6, zq6a, zq6b, zq6c⟩ := isOf hZ rfl E_b3_5
  obtain ⟨_, _, ⟨T6, L6, k6, n6⟩, -, X6, ⟨Lc6, hQ6, l6, y6, z6⟩, st6⟩ := X5.virtualBack hx (y := (⟨"java/util/ArrayList", "add", "(Ljava/lang/Object;)Z"⟩ : MethodName)) (z := (⟨"java/util/ArrayList", "add", "(Ljava/lang/Object;)Z"⟩ : MethodName)) hown (mvT hZ (hw _ (List.mem_of_getElem? (i := 67) rfl))) (mvT hZ (hw _ (List.mem_of_getElem? (i := 68) rfl))) (notFace_of_selects (args := #[]) (mvT hZ (hw _ (List.mem_of_getElem? (i := 70) rfl)))) (mvT hZ (hw _ (List.mem_of_getElem? (i := 70) rfl))) (mvT hZ (hw _ (List.mem_of_getElem? (i := 69) rfl))) (by decide) (backOf (W := 0) (rm_add1 l Z a0 hw [] b3 b1 bb5 kk5 T5.heap n0 Zs5 E_b3_5 Fa5 Fb5 Fc5 Va5 E_b1_5 lo_b3 lo_bb5 (Ne.symm ne_b1_b3) ne_b3_bb5 ne_b1_bb5 Ov5) hZ (hw _ (List.mem_of_getElem? (i := 71) rfl)) (hw _ (List.mem_of_getElem? (i := 45) rfl)) (by decide) (by decide)) zq6a zq6c (g := (mkF m 145 #[.val (.int p0), .val (.int p1), .val (.int p2), .val (.int p3), .val (.int p4), .val (.int p5), .val (.ref aK), s7, .val (.ref a8), .val (.int (2 : Int32)), .val (.ref b1), .val (.ref b3), .unset, .unset] [(.ref b1), (.ref b3)])) rfl (by rw [hml]; rfl) (Steps.refl _) (argsL := [(.ref b1)]) (rest := []) (lenOf pd_21 rfl) rfl (by show 2 * 0 + _ ≤ _; exact Nat.le_of_eq rfl) (hb hby at_145) (fun _ _ => ⟨rfl, rfl, (by decide : 3 + 1 + 0 + 1 + 0 + 1 + 0 ≤ _), (by decide : 10 + 4 + 0 + 3 + 0 + 10 + 0 ≤ _)⟩)
  dsimp only [Pt.U, Pt.locs, Pt.cells, Pt.slots] at X6 l6 y6 z6 st6 hQ6
  subst l6 y6 z6
  obtain ⟨rfl, N6q, K6, Fa6, Fb6, Fc6, Va6⟩ := hQ6
  have N6 := Fr.app N5 N6q
  refine own_goS st6 ?_
  show own_Goes _ _ _ _ _ _ _ T6 (mkF m 148 #[.val (.int p0), .val (.int p1), .val (.int p2), .val (.int p3), .val (.int p4), .val (.int p5), .val (.ref aK), s7, .val (.ref a8), .val (.int (2 : Int32)), .val (.ref b1), .val (.ref b3), .unset, .unset] [(.int (1 : Int32))])
  have E_a8_6 : Exa Z T6.heap a8 "com/example/treellis/treellis/cfa/StructType" := E_a8_5.keep K6
  have F_mb_6 : Fld Z T6.heap a8 "com/example/treellis/treellis/cfa/StructType" "members" "Ljava/util/List;" .null := F_mb_5.keep K6 (ninS ne_a8_b3 (ninS ne_a8_bb5 nin0))
  have F_pk_6 : Fld Z T6.heap a8 "com/example/treellis/treellis/cfa/StructType" "packing" "I" (.int (0 : Int32)) := F_pk_5.keep K6 (ninS ne_a8_b3 (ninS ne_a8_bb5 nin0))
  have F_ag_6 : Fld Z T6.heap a8 "com/example/treellis/treellis/cfa/StructType" "alignment" "I" (.int (0 : Int32)) := F_ag_5.keep K6 (ninS ne_a8_b3 (ninS ne_a8_bb5 nin0))
  have E_b1_6 : Exa Z T6.heap b1 "com/example/treellis/treellis/cfa/StructType$Member" := E_b1_5.keep K6
  have E_b3_6 : Exa Z T6.heap b3 "java/util/ArrayList" := E_b3_5.keep K6
  have L_E_6 : Exa Z T6.heap bb5 "[Ljava/lang/Object;" := Ea5.keep K6
  have Zs6 : n0 ≤ T6.heap.size := Nat.le_trans Zs5 K6.1
  have Od6 : Old Z n0 T6.heap := Od5.keep K6 (allS lo_b3 (allS lo_bb5 all0))
  refine own_go (fun _ k => XS.pop X6.here hx rfl (hb hby at_148) rfl rfl k) ?_
  show own_Goes _ _ _ _ _ _ _ T6 (mkF m 149 #[.val (.int p0), .val (.int p1), .val (.int p2), .val (.int p3), .val (.int p4), .val (.int p5), .val (.ref aK), s7, .val (.ref a8), .val (.int (2 : Int32)), .val (.ref b1), .val (.ref b3), .unset, .unset] [])
  refine own_go (fun _ k => XS.iload X6.here hx rfl (hb hby at_149) rfl k) ?_
  show own_Goes _ _ _ _ _ _ _ T6 (mkF m 151 #[.val (.int p0), .val (.int p1), .val (.int p2), .val (.int p3), .val (.int p4), .val (.int p5), .val (.ref aK), s7, .val (.ref a8), .val (.int (2 : Int32)), .val (.ref b1), .val (.ref b3), .unset, .unset] [(.int (2 : Int32))])
  refine own_go (fun _ k => XS.iconst X6.here hx rfl (hb hby at_151) k) ?_
  show own_Goes _ _ _ _ _ _ _ T6 (mkF m 152 #[.val (.int p0), .val (.int p1), .val (.int p2), .val (.int p3), .val (.int p4), .val (.int p5), .val (.ref aK), s7, .val (.ref a8), .val (.int (2 : Int32)), .val (.ref b1), .val (.ref b3), .unset, .unset] [(.int (3 : Int32)), (.int (2 : Int32))])
  refine own_go (fun _ k => XS.icmpYes X6.here hx rfl (pc0 := 152) (pc' := 163) rfl (hb hby at_152) rfl (tlt (by decide : (2 : Int32) < (3 : Int32))).1 (by decide) (by decide) k) ?_
  show own_Goes _ _ _ _ _ _ _ T6 (mkF m 163 #[.val (.int p0), .val (.int p1), .val (.int p2), .val (.int p3), .val (.int p4), .val (.int p5), .val (.ref aK), s7, .val (.ref a8), .val (.int (2 : Int32)), .val (.ref b1), .val (.ref b3), .unset, .unset] [])
  refine own_go (fun _ k => XS.aload X6.here hx rfl (hb hby at_163) rfl rfl k) ?_
  show own_Goes _ _ _ _ _ _ _ T6 (mkF m 165 #[.val (.int p0), .val (.int p1), .val (.int p2), .val (.int p3), .val (.int p4), .val (.int p5), .val (.ref aK), s7, .val (.ref a8), .val (.int (2 : Int32)), .val (.ref b1), .val (.ref b3), .unset, .unset] [(.ref a8)])
  refine own_go (fun _ k => XS.aload X6.here hx rfl (hb hby at_165) rfl rfl k) ?_
  show own_Goes _ _ _ _ _ _ _ T6 (mkF m 167 #[.val (.int p0), .val (.int p1), .val (.int p2), .val (.int p3), .val (.int p4), .val (.int p5), .val (.ref aK), s7, .val (.ref a8), .val (.int (2 : Int32)), .val (.ref b1), .val (.ref b3), .unset, .unset] [(.ref b3), (.ref a8)])
  refine own_go (fun _ k => XS.iloadN X6.here hx rfl (hb hby at_167) rfl k) ?_
  show own_Goes _ _ _ _ _ _ _ T6 (mkF m 168 #[.val (.int p0), .val (.int p1), .val (.int p2), .val (.int p3), .val (.int p4), .val (.int p5), .val (.ref aK), s7, .val (.ref a8), .val (.int (2 : Int32)), .val (.ref b1), .val (.ref b3), .unset, .unset] [(.int p3), (.ref b3), (.ref a8)])
  refine own_go (fun _ k => XS.iload X6.here hx rfl (hb hby at_168) rfl k) ?_
  show own_Goes _ _ _ _ _ _ _ T6 (mkF m 170 #[.val (.int p0), .val (.int p1), .val (.int p2), .val (.int p3), .val (.int p4), .val (.int p5), .val (.ref aK), s7, .val (.ref a8), .val (.int (2 : Int32)), .val (.ref b1), .val (.ref b3), .unset, .unset] [(.int p4), (.int p3), (.ref b3), (.ref a8)])
  obtain ⟨cq7, kq7, zq7a, zq7b, zq7c⟩ := isOf hZ rfl E_a8_6
  obtain ⟨_, _, ⟨T7, L7, k7, n7⟩, -, X7, ⟨Lc7, hQ7, l7, y7, z7⟩, st7⟩ := X6.virtualBack hx (y := (⟨"com/example/treellis/treellis/cfa/StructType", "complete", "(Ljava/util/List;II)V"⟩ : MethodName)) (z := (⟨"com/example/treellis/treellis/cfa/StructType", "complete", "(Ljava/util/List;II)V"⟩ : MethodName)) hown (mvT hZ (hw _ (List.mem_of_getElem? (i := 98) rfl))) (mvT hZ (hw _ (List.mem_of_getElem? (i := 99) rfl))) (notFace_of_selects (args := #[]) (mvT hZ (hw _ (List.mem_of_getElem? (i := 101) rfl)))) (mvT hZ (hw _ (List.mem_of_getElem? (i := 101) rfl))) (mvT hZ (hw _ (List.mem_of_getElem? (i := 100) rfl))) (by decide) (backOf (W := 0) (rm_cm2 l Z a0 hw [] a8 b3 b1 bb5 aM aE aL kk5 p3 p4 T6.heap n0 Zs6 E_b3_6 Fb6 Fc6 Va6 E_b1_6 L_E_6 E_a8_6 F_mb_6 F_pk_6 F_ag_6 lo_a8 ne_a8_b3 ne_a8_b1 ne_a8_bb5 (Ne.symm ne_b1_bb5) (Ne.symm ne_b1_b3) ne_b3_bb5 MM SE SL Od6) hZ (hw _ (List.mem_of_getElem? (i := 102) rfl)) (hw _ (List.mem_of_getElem? (i := 5) rfl)) (by decide) (by decide)) zq7a zq7c (g := (mkF m 170 #[.val (.int p0), .val (.int p1), .val (.int p2), .val (.int p3), .val (.int p4), .val (.int p5), .val (.ref aK), s7, .val (.ref a8), .val (.int (2 : Int32)), .val (.ref b1), .val (.ref b3), .unset, .unset] [(.int p4), (.int p3), (.ref b3), (.ref a8)])) rfl (by rw [hml]; rfl) (Steps.refl _) (argsL := [(.ref b3), (.int p3), (.int p4)]) (rest := []) (lenOf pd_19 rfl) rfl (by show 2 * 0 + _ ≤ _; exact Nat.le_of_eq rfl) (hb hby at_170) (fun _ _ => ⟨rfl, rfl, (by decide : 3 + 1 + 0 + 1 + 0 + 1 + 0 + 2 ≤ _), (by decide : 10 + 4 + 0 + 3 + 0 + 10 + 0 + 4 ≤ _)⟩)
  dsimp only [Pt.U, Pt.locs, Pt.cells, Pt.slots] at X7 l7 y7 z7 st7 hQ7
  subst l7 y7 z7
  obtain ⟨rr7, rfl, N7q, K7, Fa7, Fb7, Fc7, Ex7, Fd7⟩ := hQ7
  have N7 := Fr.app N6 N7q
  refine own_goS st7 ?_
  show own_Goes _ _ _ _ _ _ _ T7 (mkF m 173 #[.val (.int p0), .val (.int p1), .val (.int p2), .val (.int p3), .val (.int p4), .val (.int p5), .val (.ref aK), s7, .val (.ref a8), .val (.int (2 : Int32)), .val (.ref b1), .val (.ref b3), .unset, .unset] [])
  have E_a8_7 : Exa Z T7.heap a8 "com/example/treellis/treellis/cfa/StructType" := E_a8_6.keep K7
  have E_b1_7 : Exa Z T7.heap b1 "com/example/treellis/treellis/cfa/StructType$Member" := E_b1_6.keep K7
  have E_b3_7 : Exa Z T7.heap b3 "java/util/ArrayList" := E_b3_6.keep K7
  have L_E_7 : Exa Z T7.heap bb5 "[Ljava/lang/Object;" := L_E_6.keep K7
  have L_modCount_7 : Fld Z T7.heap b3 "java/util/AbstractList" "modCount" "I" (.int (2 : Int32)) := Fa6.keep K7 (ninS (Ne.symm ne_a8_b3) nin0)
  have L_size_7 : Fld Z T7.heap b3 "java/util/ArrayList" "size" "I" (.int (2 : Int32)) := Fb6.keep K7 (ninS (Ne.symm ne_a8_b3) nin0)
  have L_elementData_7 : Fld Z T7.heap b3 "java/util/ArrayList" "elementData" "[Ljava/lang/Object;" (.ref bb5) := Fc6.keep K7 (ninS (Ne.symm ne_a8_b3) nin0)
  have L_V_7 : Arv Z T7.heap bb5 kk5 (.object "java/lang/Object") (10 : Int32) [(.ref b1), (.ref b1)] .null := Va6.keep K7 (ninS (Ne.symm ne_a8_bb5) nin0)
  have Zs7 : n0 ≤ T7.heap.size := Nat.le_trans Zs6 K7.1
  have Od7 : Old Z n0 T7.heap := Od6.keep K7 (allS lo_a8 all0)
  refine own_go (fun _ k => XS.aload X7.here hx rfl (hb hby at_173) rfl rfl k) ?_
  show own_Goes _ _ _ _ _ _ _ T7 (mkF m 175 #[.val (.int p0), .val (.int p1), .val (.int p2), .val (.int p3), .val (.int p4), .val (.int p5), .val (.ref aK), s7, .val (.ref a8), .val (.int (2 : Int32)), .val (.ref b1), .val (.ref b3), .unset, .unset] [(.ref a8)])
  obtain ⟨cq8, kq8, zq8a, zq8b, zq8c⟩ := isOf hZ rfl E_a8_7
  obtain ⟨_, _, ⟨T8, L8, k8, n8⟩, -, X8, ⟨Lc8, hQ8, l8, y8, z8⟩, st8⟩ := X7.virtualBack hx (y := (⟨"com/example/treellis/treellis/cfa/StructType", "isComplete", "()Z"⟩ : MethodName)) (z := (⟨"com/example/treellis/treellis/cfa/StructType", "isComplete", "()Z"⟩ : MethodName)) hown (mvT hZ (hw _ (List.mem_of_getElem? (i := 16) rfl))) (mvT hZ (hw _ (List.mem_of_getElem? (i := 17) rfl))) (notFace_of_selects (args := #[]) (mvT hZ (hw _ (List.mem_of_getElem? (i := 19) rfl)))) (mvT hZ (hw _ (List.mem_of_getElem? (i := 19) rfl))) (mvT hZ (hw _ (List.mem_of_getElem? (i := 18) rfl))) (by decide) (backOf (W := 0) (rm_icR l Z a0 hw [] a8 rr7 T7.heap n0 Zs7 Fa7) hZ (hw _ (List.mem_of_getElem? (i := 20) rfl)) (hw _ (List.mem_of_getElem? (i := 5) rfl)) (by decide) (by decide)) zq8a zq8c (g := (mkF m 175 #[.val (.int p0), .val (.int p1), .val (.int p2), .val (.int p3), .val (.int p4), .val (.int p5), .val (.ref aK), s7, .val (.ref a8), .val (.int (2 : Int32)), .val (.ref b1), .val (.ref b3), .unset, .unset] [(.ref a8)])) rfl (by rw [hml]; rfl) (Steps.refl _) (argsL := []) (rest := []) (lenOf pd_12 rfl) rfl (by show 2 * 0 + _ ≤ _; exact Nat.le_of_eq rfl) (hb hby at_175) (fun _ _ => ⟨rfl, rfl, (by decide : 3 + 1 + 0 + 1 + 0 + 1 + 0 + 2 + 0 ≤ _), (by decide : 10 + 4 + 0 + 3 + 0 + 10 + 0 + 4 + 0 ≤ _)⟩)
  dsimp only [Pt.U, Pt.locs, Pt.cells, Pt.slots] at X8 l8 y8 z8 st8 hQ8
  subst l8 y8 z8
  obtain ⟨rfl, N8q, e8⟩ := hQ8
  have N8 := Fr.app N7 N8q
  refine own_goS st8 ?_
  show own_Goes _ _ _ _ _ _ _ T8 (mkF m 178 #[.val (.int p0), .val (.int p1), .val (.int p2), .val (.int p3), .val (.int p4), .val (.int p5), .val (.ref aK), s7, .val (.ref a8), .val (.int (2 : Int32)), .val (.ref b1), .val (.ref b3), .unset, .unset] [(.int (1 : Int32))])
  refine own_go (fun _ k => XS.istore X8.here hx rfl (hb hby at_178) rfl (l' := #[.val (.int p0), .val (.int p1), .val (.int p2), .val (.int p3), .val (.int p4), .val (.int p5), .val (.ref aK), s7, .val (.ref a8), .val (.int (2 : Int32)), .val (.ref b1), .val (.ref b3), .val (.int (1 : Int32)), .unset]) rfl k) ?_
  show own_Goes _ _ _ _ _ _ _ T8 (mkF m 180 #[.val (.int p0), .val (.int p1), .val (.int p2), .val (.int p3), .val (.int p4), .val (.int p5), .val (.ref aK), s7, .val (.ref a8), .val (.int (2 : Int32)), .val (.ref b1), .val (.ref b3), .val (.int (1 : Int32)), .unset] [])
  refine own_go (fun _ k => XS.aload X8.here hx rfl (hb hby at_180) rfl rfl k) ?_
  show own_Goes _ _ _ _ _ _ _ T8 (mkF m 182 #[.val (.int p0), .val (.int p1), .val (.int p2), .val (.int p3), .val (.int p4), .val (.int p5), .val (.ref aK), s7, .val (.ref a8), .val (.int (2 : Int32)), .val (.ref b1), .val (.ref b3), .val (.int (1 : Int32)), .unset] [(.ref a8)])
  obtain ⟨cq9, kq9, zq9a, zq9b, zq9c⟩ := isOf hZ e8 E_a8_7
  obtain ⟨_, _, ⟨T9, L9, k9, n9⟩, -, X9, ⟨Lc9, hQ9, l9, y9, z9⟩, st9⟩ := X8.virtualBack hx (y := (⟨"com/example/treellis/treellis/cfa/StructType", "isComplete", "()Z"⟩ : MethodName)) (z := (⟨"com/example/treellis/treellis/cfa/StructType", "isComplete", "()Z"⟩ : MethodName)) hown (mvT hZ (hw _ (List.mem_of_getElem? (i := 16) rfl))) (mvT hZ (hw _ (List.mem_of_getElem? (i := 17) rfl))) (notFace_of_selects (args := #[]) (mvT hZ (hw _ (List.mem_of_getElem? (i := 19) rfl)))) (mvT hZ (hw _ (List.mem_of_getElem? (i := 19) rfl))) (mvT hZ (hw _ (List.mem_of_getElem? (i := 18) rfl))) (by decide) (backOf (W := 0) (rm_icR l Z a0 hw [] a8 rr7 T7.heap n0 Zs7 Fa7) hZ (hw _ (List.mem_of_getElem? (i := 20) rfl)) (hw _ (List.mem_of_getElem? (i := 5) rfl)) (by decide) (by decide)) zq9a zq9c (g := (mkF m 182 #[.val (.int p0), .val (.int p1), .val (.int p2), .val (.int p3), .val (.int p4), .val (.int p5), .val (.ref aK), s7, .val (.ref a8), .val (.int (2 : Int32)), .val (.ref b1), .val (.ref b3), .val (.int (1 : Int32)), .unset] [(.ref a8)])) rfl (by rw [hml]; rfl) (Steps.refl _) (argsL := []) (rest := []) (lenOf pd_12 rfl) rfl (by show 2 * 0 + _ ≤ _; exact Nat.le_of_eq rfl) (hb hby at_182) (fun _ _ => ⟨rfl, e8, (by decide : 3 + 1 + 0 + 1 + 0 + 1 + 0 + 2 + 0 + 0 ≤ _), (by decide : 10 + 4 + 0 + 3 + 0 + 10 + 0 + 4 + 0 + 0 ≤ _)⟩)
  dsimp only [Pt.U, Pt.locs, Pt.cells, Pt.slots] at X9 l9 y9 z9 st9 hQ9
  subst l9 y9 z9
  obtain ⟨rfl, N9q, e9⟩ := hQ9
  have N9 := Fr.app N8 N9q
  refine own_goS st9 ?_
  show own_Goes _ _ _ _ _ _ _ T9 (mkF m 185 #[.val (.int p0), .val (.int p1), .val (.int p2), .val (.int p3), .val (.int p4), .val (.int p5), .val (.ref aK), s7, .val (.ref a8), .val (.int (2 : Int32)), .val (.ref b1), .val (.ref b3), .val (.int (1 : Int32)), .unset] [(.int (1 : Int32))])
  refine own_go (fun _ k => XS.istore X9.here hx rfl (hb hby at_185) rfl (l' := #[.val (.int p0), .val (.int p1), .val (.int p2), .val (.int p3), .val (.int p4), .val (.int p5), .val (.ref aK), s7, .val (.ref a8), .val (.int (2 : Int32)), .val (.ref b1), .val (.ref b3), .val (.int (1 : Int32)), .val (.int (1 : Int32))]) rfl k) ?_
  show own_Goes _ _ _ _ _ _ _ T9 (mkF m 187 #[.val (.int p0), .val (.int p1), .val (.int p2), .val (.int p3), .val (.int p4), .val (.int p5), .val (.ref aK), s7, .val (.ref a8), .val (.int (2 : Int32)), .val (.ref b1), .val (.ref b3), .val (.int (1 : Int32)), .val (.int (1 : Int32))] [])
  refine own_go (fun _ k => XS.iload X9.here hx rfl (hb hby at_187) rfl k) ?_
  show own_Goes _ _ _ _ _ _ _ T9 (mkF m 189 #[.val (.int p0), .val (.int p1), .val (.int p2), .val (.int p3), .val (.int p4), .val (.int p5), .val (.ref aK), s7, .val (.ref a8), .val (.int (2 : Int32)), .val (.ref b1), .val (.ref b3), .val (.int (1 : Int32)), .val (.int (1 : Int32))] [(.int (1 : Int32))])
  refine own_go (fun _ k => XS.ifNo X9.here hx rfl (hb hby at_189) rfl ((if0 _ _).trans (feq (by decide : ¬ ((1 : Int32) = (0 : Int32)))).1) k) ?_
  show own_Goes _ _ _ _ _ _ _ T9 (mkF m 192 #[.val (.int p0), .val (.int p1), .val (.int p2), .val (.int p3), .val (.int p4), .val (.int p5), .val (.ref aK), s7, .val (.ref a8), .val (.int (2 : Int32)), .val (.ref b1), .val (.ref b3), .val (.int (1 : Int32)), .val (.int (1 : Int32))] [])
  refine own_go (fun _ k => XS.iload X9.here hx rfl (hb hby at_192) rfl k) ?_
  show own_Goes _ _ _ _ _ _ _ T9 (mkF m 194 #[.val (.int p0), .val (.int p1), .val (.int p2), .val (.int p3), .val (.int p4), .val (.int p5), .val (.ref aK), s7, .val (.ref a8), .val (.int (2 : Int32)), .val (.ref b1), .val (.ref b3), .val (.int (1 : Int32)), .val (.int (1 : Int32))] [(.int (1 : Int32))])
  refine own_go (fun _ k => XS.ifNo X9.here hx rfl (hb hby at_194) rfl ((if0 _ _).trans (feq (by decide : ¬ ((1 : Int32) = (0 : Int32)))).1) k) ?_
  show own_Goes _ _ _ _ _ _ _ T9 (mkF m 197 #[.val (.int p0), .val (.int p1), .val (.int p2), .val (.int p3), .val (.int p4), .val (.int p5), .val (.ref aK), s7, .val (.ref a8), .val (.int (2 : Int32)), .val (.ref b1), .val (.ref b3), .val (.int (1 : Int32)), .val (.int (1 : Int32))] [])
  refine own_go (fun _ k => XS.aload X9.here hx rfl (hb hby at_197) rfl rfl k) ?_
  show own_Goes _ _ _ _ _ _ _ T9 (mkF m 199 #[.val (.int p0), .val (.int p1), .val (.int p2), .val (.int p3), .val (.int p4), .val (.int p5), .val (.ref aK), s7, .val (.ref a8), .val (.int (2 : Int32)), .val (.ref b1), .val (.ref b3), .val (.int (1 : Int32)), .val (.int (1 : Int32))] [(.ref a8)])
  obtain ⟨cq10, kq10, zq10a, zq10b, zq10c⟩ := isOf hZ e9 E_a8_7
  obtain ⟨_, _, ⟨T10, L10, k10, n10⟩, -, X10, ⟨Lc10, hQ10, l10, y10, z10⟩, st10⟩ := X9.virtualBack hx (y := (⟨"com/example/treellis/treellis/cfa/StructType", "members", "()Ljava/util/List;"⟩ : MethodName)) (z := (⟨"com/example/treellis/treellis/cfa/StructType", "members", "()Ljava/util/List;"⟩ : MethodName)) hown (mvT hZ (hw _ (List.mem_of_getElem? (i := 23) rfl))) (mvT hZ (hw _ (List.mem_of_getElem? (i := 24) rfl))) (notFace_of_selects (args := #[]) (mvT hZ (hw _ (List.mem_of_getElem? (i := 26) rfl)))) (mvT hZ (hw _ (List.mem_of_getElem? (i := 26) rfl))) (mvT hZ (hw _ (List.mem_of_getElem? (i := 25) rfl))) (by decide) (backOf (W := 0) (rm_mbR l Z a0 hw [] a8 rr7 T7.heap n0 Zs7 Fa7) hZ (hw _ (List.mem_of_getElem? (i := 27) rfl)) (hw _ (List.mem_of_getElem? (i := 5) rfl)) (by decide) (by decide)) zq10a zq10c (g := (mkF m 199 #[.val (.int p0), .val (.int p1), .val (.int p2), .val (.int p3), .val (.int p4), .val (.int p5), .val (.ref aK), s7, .val (.ref a8), .val (.int (2 : Int32)), .val (.ref b1), .val (.ref b3), .val (.int (1 : Int32)), .val (.int (1 : Int32))] [(.ref a8)])) rfl (by rw [hml]; rfl) (Steps.refl _) (argsL := []) (rest := []) (lenOf pd_13 rfl) rfl (by show 2 * 0 + _ ≤ _; exact Nat.le_of_eq rfl) (hb hby at_199) (fun _ _ => ⟨rfl, e9, (by decide : 3 + 1 + 0 + 1 + 0 + 1 + 0 + 2 + 0 + 0 + 0 ≤ _), (by decide : 10 + 4 + 0 + 3 + 0 + 10 + 0 + 4 + 0 + 0 + 0 ≤ _)⟩)
  dsimp only [Pt.U, Pt.locs, Pt.cells, Pt.slots] at X10 l10 y10 z10 st10 hQ10
  subst l10 y10 z10
  obtain ⟨rfl, N10q, e10⟩ := hQ10
  have N10 := Fr.app N9 N10q
  refine own_goS st10 ?_
  show own_Goes _ _ _ _ _ _ _ T10 (mkF m 202 #[.val (.int p0), .val (.int p1), .val (.int p2), .val (.int p3), .val (.int p4), .val (.int p5), .val (.ref aK), s7, .val (.ref a8), .val (.int (2 : Int32)), .val (.ref b1), .val (.ref b3), .val (.int (1 : Int32)), .val (.int (1 : Int32))] [(.ref rr7)])
  refine own_go (fun _ k => XS.ifnullNo X10.here hx rfl (hb hby at_202) rfl k) ?_
  show own_Goes _ _ _ _ _ _ _ T10 (mkF m 205 #[.val (.int p0), .val (.int p1), .val (.int p2), .val (.int p3), .val (.int p4), .val (.int p5), .val (.ref aK), s7, .val (.ref a8), .val (.int (2 : Int32)), .val (.ref b1), .val (.ref b3), .val (.int (1 : Int32)), .val (.int (1 : Int32))] [])
  refine own_go (fun _ k => XS.aload X10.here hx rfl (hb hby at_205) rfl rfl k) ?_
  show own_Goes _ _ _ _ _ _ _ T10 (mkF m 207 #[.val (.int p0), .val (.int p1), .val (.int p2), .val (.int p3), .val (.int p4), .val (.int p5), .val (.ref aK), s7, .val (.ref a8), .val (.int (2 : Int32)), .val (.ref b1), .val (.ref b3), .val (.int (1 : Int32)), .val (.int (1 : Int32))] [(.ref a8)])
  obtain ⟨cq11, kq11, zq11a, zq11b, zq11c⟩ := isOf hZ e10 E_a8_7
  obtain ⟨_, _, ⟨T11, L11, k11, n11⟩, -, X11, ⟨Lc11, hQ11, l11, y11, z11⟩, st11⟩ := X10.virtualBack hx (y := (⟨"com/example/treellis/treellis/cfa/StructType", "members", "()Ljava/util/List;"⟩ : MethodName)) (z := (⟨"com/example/treellis/treellis/cfa/StructType", "members", "()Ljava/util/List;"⟩ : MethodName)) hown (mvT hZ (hw _ (List.mem_of_getElem? (i := 23) rfl))) (mvT hZ (hw _ (List.mem_of_getElem? (i := 24) rfl))) (notFace_of_selects (args := #[]) (mvT hZ (hw _ (List.mem_of_getElem? (i := 26) rfl)))) (mvT hZ (hw _ (List.mem_of_getElem? (i := 26) rfl))) (mvT hZ (hw _ (List.mem_of_getElem? (i := 25) rfl))) (by decide) (backOf (W := 0) (rm_mbR l Z a0 hw [] a8 rr7 T7.heap n0 Zs7 Fa7) hZ (hw _ (List.mem_of_getElem? (i := 27) rfl)) (hw _ (List.mem_of_getElem? (i := 5) rfl)) (by decide) (by decide)) zq11a zq11c (g := (mkF m 207 #[.val (.int p0), .val (.int p1), .val (.int p2), .val (.int p3), .val (.int p4), .val (.int p5), .val (.ref aK), s7, .val (.ref a8), .val (.int (2 : Int32)), .val (.ref b1), .val (.ref b3), .val (.int (1 : Int32)), .val (.int (1 : Int32))] [(.ref a8)])) rfl (by rw [hml]; rfl) (Steps.refl _) (argsL := []) (rest := []) (lenOf pd_13 rfl) rfl (by show 2 * 0 + _ ≤ _; exact Nat.le_of_eq rfl) (hb hby at_207) (fun _ _ => ⟨rfl, e10, (by decide : 3 + 1 + 0 + 1 + 0 + 1 + 0 + 2 + 0 + 0 + 0 + 0 ≤ _), (by decide : 10 + 4 + 0 + 3 + 0 + 10 + 0 + 4 + 0 + 0 + 0 + 0 ≤ _)⟩)
  dsimp only [Pt.U, Pt.locs, Pt.cells, Pt.slots] at X11 l11 y11 z11 st11 hQ11
  subst l11 y11 z11
  obtain ⟨rfl, N11q, e11⟩ := hQ11
  have N11 := Fr.app N10 N11q
  refine own_goS st11 ?_
  show own_Goes _ _ _ _ _ _ _ T11 (mkF m 210 #[.val (.int p0), .val (.int p1), .val (.int p2), .val (.int p3), .val (.int p4), .val (.int p5), .val (.ref aK), s7, .val (.ref a8), .val (.int (2 : Int32)), .val (.ref b1), .val (.ref b3), .val (.int (1 : Int32)), .val (.int (1 : Int32))] [(.ref rr7)])
  obtain ⟨cq12, kq12, zq12a, zq12b, zq12c⟩ := isOf hZ e11 Ex7
  obtain ⟨_, _, ⟨T12, L12, k12, n12⟩, -, X12, ⟨Lc12, hQ12, l12, y12, z12⟩, st12⟩ := X11.interfaceBack hx (xi := (⟨"java/util/List", "size", "()I"⟩ : MethodName)) (y := (⟨"java/util/ImmutableCollections$List12", "size", "()I"⟩ : MethodName)) hown (mvT hZ (hw _ (List.mem_of_getElem? (i := 192) rfl))) (mvT hZ (hw _ (List.mem_of_getElem? (i := 193) rfl))) (mvT hZ (hw _ (List.mem_of_getElem? (i := 194) rfl))) (mvT hZ (hw _ (List.mem_of_getElem? (i := 195) rfl))) (mvT hZ (hw _ (List.mem_of_getElem? (i := 196) rfl))) (mvT hZ (hw _ (List.mem_of_getElem? (i := 197) rfl))) (mvT hZ (hw _ (List.mem_of_getElem? (i := 198) rfl))) (mvT hZ (hw _ (List.mem_of_getElem? (i := 199) rfl))) (by decide) (backOf (W := 0) (rm_s2 l Z a0 hw [] rr7 b1 aE T7.heap n0 Zs7 Fd7 SE Od7 (Nat.ne_of_gt (Nat.lt_of_lt_of_le hEx.lt (Od0.1 ▸ lo_b1)))) hZ (hw _ (List.mem_of_getElem? (i := 200) rfl)) (hw _ (List.mem_of_getElem? (i := 161) rfl)) (by decide) (by decide)) zq12a zq12b zq12c (g := (mkF m 210 #[.val (.int p0), .val (.int p1), .val (.int p2), .val (.int p3), .val (.int p4), .val (.int p5), .val (.ref aK), s7, .val (.ref a8), .val (.int (2 : Int32)), .val (.ref b1), .val (.ref b3), .val (.int (1 : Int32)), .val (.int (1 : Int32))] [(.ref rr7)])) rfl (by rw [hml]; rfl) (Steps.refl _) (argsL := []) (rest := []) (lenOf pd_20 rfl) rfl (by show 2 * 0 + _ ≤ _; exact Nat.le_of_eq rfl) (hb hby at_210) (fun _ _ => ⟨rfl, e11, (by decide : 3 + 1 + 0 + 1 + 0 + 1 + 0 + 2 + 0 + 0 + 0 + 0 + 0 ≤ _), (by decide : 10 + 4 + 0 + 3 + 0 + 10 + 0 + 4 + 0 + 0 + 0 + 0 + 0 ≤ _)⟩)
  dsimp only [Pt.U, Pt.locs, Pt.cells, Pt.slots] at X12 l12 y12 z12 st12 hQ12
  subst l12 y12 z12
  obtain ⟨rfl, N12q, e12⟩ := hQ12
  have N12 := Fr.app N11 N12q
  refine own_goS st12 ?_
  show own_Goes _ _ _ _ _ _ _ T12 (mkF m 215 #[.val (.int p0), .val (.int p1), .val (.int p2), .val (.int p3), .val (.int p4), .val (.int p5), .val (.ref aK), s7, .val (.ref a8), .val (.int (2 : Int32)), .val (.ref b1), .val (.ref b3), .val (.int (1 : Int32)), .val (.int (1 : Int32))] [(.int (2 : Int32))])
  refine own_go (fun _ k => XS.iload X12.here hx rfl (hb hby at_215) rfl k) ?_
  show own_Goes _ _ _ _ _ _ _ T12 (mkF m 217 #[.val (.int p0), .val (.int p1), .val (.int p2), .val (.int p3), .val (.int p4), .val (.int p5), .val (.ref aK), s7, .val (.ref a8), .val (.int (2 : Int32)), .val (.ref b1), .val (.ref b3), .val (.int (1 : Int32)), .val (.int (1 : Int32))] [(.int (2 : Int32)), (.int (2 : Int32))])
  refine own_go (fun _ k => XS.icmpNo X12.here hx rfl (hb hby at_217) rfl (teq (by decide : (2 : Int32) = (2 : Int32))).2 k) ?_
  show own_Goes _ _ _ _ _ _ _ T12 (mkF m 220 #[.val (.int p0), .val (.int p1), .val (.int p2), .val (.int p3), .val (.int p4), .val (.int p5), .val (.ref aK), s7, .val (.ref a8), .val (.int (2 : Int32)), .val (.ref b1), .val (.ref b3), .val (.int (1 : Int32)), .val (.int (1 : Int32))] [])
  refine own_go (fun _ k => XS.aload X12.here hx rfl (hb hby at_220) rfl rfl k) ?_
  show own_Goes _ _ _ _ _ _ _ T12 (mkF m 222 #[.val (.int p0), .val (.int p1), .val (.int p2), .val (.int p3), .val (.int p4), .val (.int p5), .val (.ref aK), s7, .val (.ref a8), .val (.int (2 : Int32)), .val (.ref b1), .val (.ref b3), .val (.int (1 : Int32)), .val (.int (1 : Int32))] [(.ref a8)])
  obtain ⟨cq13, kq13, zq13a, zq13b, zq13c⟩ := isOf hZ e12 E_a8_7
  obtain ⟨_, _, ⟨T13, L13, k13, n13⟩, -, X13, ⟨Lc13, hQ13, l13, y13, z13⟩, st13⟩ := X12.virtualBack hx (y := (⟨"com/example/treellis/treellis/cfa/StructType", "packing", "()I"⟩ : MethodName)) (z := (⟨"com/example/treellis/treellis/cfa/StructType", "packing", "()I"⟩ : MethodName)) hown (mvT hZ (hw _ (List.mem_of_getElem? (i := 202) rfl))) (mvT hZ (hw _ (List.mem_of_getElem? (i := 203) rfl))) (notFace_of_selects (args := #[]) (mvT hZ (hw _ (List.mem_of_getElem? (i := 205) rfl)))) (mvT hZ (hw _ (List.mem_of_getElem? (i := 205) rfl))) (mvT hZ (hw _ (List.mem_of_getElem? (i := 204) rfl))) (by decide) (backOf (W := 0) (rm_packing l Z a0 hw [] a8 p3 T7.heap n0 Zs7 Fb7) hZ (hw _ (List.mem_of_getElem? (i := 206) rfl)) (hw _ (List.mem_of_getElem? (i := 5) rfl)) (by decide) (by decide)) zq13a zq13c (g := (mkF m 222 #[.val (.int p0), .val (.int p1), .val (.int p2), .val (.int p3), .val (.int p4), .val (.int p5), .val (.ref aK), s7, .val (.ref a8), .val (.int (2 : Int32)), .val (.ref b1), .val (.ref b3), .val (.int (1 : Int32)), .val (.int (1 : Int32))] [(.ref a8)])) rfl (by rw [hml]; rfl) (Steps.refl _) (argsL := []) (rest := []) (lenOf pd_20 rfl) rfl (by show 2 * 0 + _ ≤ _; exact Nat.le_of_eq rfl) (hb hby at_222) (fun _ _ => ⟨rfl, e12, (by decide : 3 + 1 + 0 + 1 + 0 + 1 + 0 + 2 + 0 + 0 + 0 + 0 + 0 + 0 ≤ _), (by decide : 10 + 4 + 0 + 3 + 0 + 10 + 0 + 4 + 0 + 0 + 0 + 0 + 0 + 0 ≤ _)⟩)
  dsimp only [Pt.U, Pt.locs, Pt.cells, Pt.slots] at X13 l13 y13 z13 st13 hQ13
  subst l13 y13 z13
  obtain ⟨rfl, N13q, e13⟩ := hQ13
  have N13 := Fr.app N12 N13q
  refine own_goS st13 ?_
  show own_Goes _ _ _ _ _ _ _ T13 (mkF m 225 #[.val (.int p0), .val (.int p1), .val (.int p2), .val (.int p3), .val (.int p4), .val (.int p5), .val (.ref aK), s7, .val (.ref a8), .val (.int (2 : Int32)), .val (.ref b1), .val (.ref b3), .val (.int (1 : Int32)), .val (.int (1 : Int32))] [(.int p3)])
  refine own_go (fun _ k => XS.iloadN X13.here hx rfl (hb hby at_225) rfl k) ?_
  show own_Goes _ _ _ _ _ _ _ T13 (mkF m 226 #[.val (.int p0), .val (.int p1), .val (.int p2), .val (.int p3), .val (.int p4), .val (.int p5), .val (.ref aK), s7, .val (.ref a8), .val (.int (2 : Int32)), .val (.ref b1), .val (.ref b3), .val (.int (1 : Int32)), .val (.int (1 : Int32))] [(.int p3), (.int p3)])
  refine own_go (fun _ k => XS.icmpNo X13.here hx rfl (hb hby at_226) rfl (teq rfl).2 k) ?_
  show own_Goes _ _ _ _ _ _ _ T13 (mkF m 229 #[.val (.int p0), .val (.int p1), .val (.int p2), .val (.int p3), .val (.int p4), .val (.int p5), .val (.ref aK), s7, .val (.ref a8), .val (.int (2 : Int32)), .val (.ref b1), .val (.ref b3), .val (.int (1 : Int32)), .val (.int (1 : Int32))] [])
  refine own_go (fun _ k => XS.aload X13.here hx rfl (hb hby at_229) rfl rfl k) ?_
  show own_Goes _ _ _ _ _ _ _ T13 (mkF m 231 #[.val (.int p0), .val (.int p1), .val (.int p2), .val (.int p3), .val (.int p4), .val (.int p5), .val (.ref aK), s7, .val (.ref a8), .val (.int (2 : Int32)), .val (.ref b1), .val (.ref b3), .val (.int (1 : Int32)), .val (.int (1 : Int32))] [(.ref a8)])
  obtain ⟨cq14, kq14, zq14a, zq14b, zq14c⟩ := isOf hZ e13 E_a8_7
  obtain ⟨_, _, ⟨T14, L14, k14, n14⟩, -, X14, ⟨Lc14, hQ14, l14, y14, z14⟩, st14⟩ := X13.virtualBack hx (y := (⟨"com/example/treellis/treellis/cfa/StructType", "alignment", "()I"⟩ : MethodName)) (z := (⟨"com/example/treellis/treellis/cfa/StructType", "alignment", "()I"⟩ : MethodName)) hown (mvT hZ (hw _ (List.mem_of_getElem? (i := 207) rfl))) (mvT hZ (hw _ (List.mem_of_getElem? (i := 208) rfl))) (notFace_of_selects (args := #[]) (mvT hZ (hw _ (List.mem_of_getElem? (i := 210) rfl)))) (mvT hZ (hw _ (List.mem_of_getElem? (i := 210) rfl))) (mvT hZ (hw _ (List.mem_of_getElem? (i := 209) rfl))) (by decide) (backOf (W := 0) (rm_alignment l Z a0 hw [] a8 p4 T7.heap n0 Zs7 Fc7) hZ (hw _ (List.mem_of_getElem? (i := 211) rfl)) (hw _ (List.mem_of_getElem? (i := 5) rfl)) (by decide) (by decide)) zq14a zq14c (g := (mkF m 231 #[.val (.int p0), .val (.int p1), .val (.int p2), .val (.int p3), .val (.int p4), .val (.int p5), .val (.ref aK), s7, .val (.ref a8), .val (.int (2 : Int32)), .val (.ref b1), .val (.ref b3), .val (.int (1 : Int32)), .val (.int (1 : Int32))] [(.ref a8)])) rfl (by rw [hml]; rfl) (Steps.refl _) (argsL := []) (rest := []) (lenOf pd_20 rfl) rfl (by show 2 * 0 + _ ≤ _; exact Nat.le_of_eq rfl) (hb hby at_231) (fun _ _ => ⟨rfl, e13, (by decide : 3 + 1 + 0 + 1 + 0 + 1 + 0 + 2 + 0 + 0 + 0 + 0 + 0 + 0 + 0 ≤ _), (by decide : 10 + 4 + 0 + 3 + 0 + 10 + 0 + 4 + 0 + 0 + 0 + 0 + 0 + 0 + 0 ≤ _)⟩)
  dsimp only [Pt.U, Pt.locs, Pt.cells, Pt.slots] at X14 l14 y14 z14 st14 hQ14
  subst l14 y14 z14
  obtain ⟨rfl, N14q, e14⟩ := hQ14
  have N14 := Fr.app N13 N14q
  refine own_goS st14 ?_
  show own_Goes _ _ _ _ _ _ _ T14 (mkF m 234 #[.val (.int p0), .val (.int p1), .val (.int p2), .val (.int p3), .val (.int p4), .val (.int p5), .val (.ref aK), s7, .val (.ref a8), .val (.int (2 : Int32)), .val (.ref b1), .val (.ref b3), .val (.int (1 : Int32)), .val (.int (1 : Int32))] [(.int p4)])
  refine own_go (fun _ k => XS.iload X14.here hx rfl (hb hby at_234) rfl k) ?_
  show own_Goes _ _ _ _ _ _ _ T14 (mkF m 236 #[.val (.int p0), .val (.int p1), .val (.int p2), .val (.int p3), .val (.int p4), .val (.int p5), .val (.ref aK), s7, .val (.ref a8), .val (.int (2 : Int32)), .val (.ref b1), .val (.ref b3), .val (.int (1 : Int32)), .val (.int (1 : Int32))] [(.int p4), (.int p4)])
  refine own_go (fun _ k => XS.icmpNo X14.here hx rfl (hb hby at_236) rfl (teq rfl).2 k) ?_
  show own_Goes _ _ _ _ _ _ _ T14 (mkF m 239 #[.val (.int p0), .val (.int p1), .val (.int p2), .val (.int p3), .val (.int p4), .val (.int p5), .val (.ref aK), s7, .val (.ref a8), .val (.int (2 : Int32)), .val (.ref b1), .val (.ref b3), .val (.int (1 : Int32)), .val (.int (1 : Int32))] [])
  refine own_go (fun _ k => XS.iconst X14.here hx rfl (hb hby at_239) k) ?_
  show own_Goes _ _ _ _ _ _ _ T14 (mkF m 240 #[.val (.int p0), .val (.int p1), .val (.int p2), .val (.int p3), .val (.int p4), .val (.int p5), .val (.ref aK), s7, .val (.ref a8), .val (.int (2 : Int32)), .val (.ref b1), .val (.ref b3), .val (.int (1 : Int32)), .val (.int (1 : Int32))] [(.int (1 : Int32))])
  refine own_go (fun _ k => XS.goto X14.here hx rfl (pc0 := 240) (pc' := 244) rfl (hb hby at_240) (by decide) (by decide) k) ?_
  show own_Goes _ _ _ _ _ _ _ T14 (mkF m 244 #[.val (.int p0), .val (.int p1), .val (.int p2), .val (.int p3), .val (.int p4), .val (.int p5), .val (.ref aK), s7, .val (.ref a8), .val (.int (2 : Int32)), .val (.ref b1), .val (.ref b3), .val (.int (1 : Int32)), .val (.int (1 : Int32))] [(.int (1 : Int32))])
  exact own_retN X14 hx (t := .boolean) hlk hret (by simp) (hb hby at_244) (by decide) (by decide) ⟨rfl, N14⟩
set_option maxRecDepth 65536 in
set_option maxHeartbeats 40000000 in
theorem seg98_3 {p : Program} {l : Launch} {e : Env} {s : State} {m : MethodId} {args : Array Value} {below : List Frame} {meth : Method} {c : Code} {s₁ : State} {locs : List Loc} {Z : State} {a0 : Array Value} {h0 : Heap} (p0 p1 p2 p3 p4 p5 : Int32) (aK a8 : Addr) (s7 : Slot) (aD aE aL aM aX : Addr) (cD cX : Cell)
    (hw : ∀ d ∈ tables_1, d.before a0 Z = true) (C : own_Ctx Z x "com/example/treellis/treellis/cfa/StructTypeIsCompletePinLaw" code maxLocals ret p s m meth c) (X0 : Stand p l e room_1 s m args below meth c s₁ locs 3 10) (e0 : s₁.heap = h0) (n0 : Nat) (Z0 : n0 ≤ h0.size) (N0 : Fr n0 locs) (SD : Sta Z Z.heap "java/util/ArrayList" "DEFAULTCAPACITY_EMPTY_ELEMENTDATA" "[Ljava/lang/Object;" (.ref aD)) (AD : Arr Z Z.heap aD cD (.object "java/lang/Object")) (zD : cD.slots.size = 0) (SE : Sta Z Z.heap "java/util/ImmutableCollections" "EMPTY" "Ljava/lang/Object;" (.ref aE)) (SL : Sta Z Z.heap "java/util/ImmutableCollections" "EMPTY_LIST" "Ljava/util/ImmutableCollections$ListN;" (.ref aL)) (MM : Mir Z "[Ljava/lang/Object;" aM) (hEx : Exa Z Z.heap aE "java/lang/Object") (EL : Exa Z Z.heap aL "java/util/ImmutableCollections$ListN") (FL : Fld Z Z.heap aL "java/util/ImmutableCollections$ListN" "elements" "[Ljava/lang/Object;" (.ref aX)) (AX : Arr Z Z.heap aX cX (.object "java/lang/Object")) (zX : cX.slots.size.toInt32 = (0 : Int32)) (Od0 : Old Z n0 h0) (E_a8 : Exa Z h0 a8 "com/example/treellis/treellis/cfa/StructType") (F_mb : Fld Z h0 a8 "com/example/treellis/treellis/cfa/StructType" "members" "Ljava/util/List;" .null) (F_pk : Fld Z h0 a8 "com/example/treellis/treellis/cfa/StructType" "packing" "I" (.int (0 : Int32))) (F_ag : Fld Z h0 a8 "com/example/treellis/treellis/cfa/StructType" "alignment" "I" (.int (0 : Int32))) (lo_a8 : n0 ≤ a8) :
    own_Goes p e below s (fun v h L => v = some (.int 1) ∧ Fr n0 L) room_1.cells room_1.slots s₁ (mkF m 98 #[.val (.int p0), .val (.int p1), .val (.int p2), .val (.int p3), .val (.int p4), .val (.int p5), .val (.ref aK), s7, .val (.ref a8), .val (.int (3 : Int32)), .unset, .unset, .unset, .unset] []) := by
  obtain ⟨hx, hby, hml, hown, hnm, hret, hlk, hZ⟩ := C
  obtain ⟨T1, h1, X1, e1, E1, A1, D1, -, st1⟩ := newO X0 hx hZ hown (hw _ (List.mem_of_getElem? (i := 28) rfl)) (hw _ (List.mem_of_getElem? (i := 29) rfl)) (hw _ (List.mem_of_getElem? (i := 30) rfl)) e0 (g := (mkF m 98 #[.val (.int p0), .val (.int p1), .val (.int p2), .val (.int p3), .val (.int p4), .val (.int p5), .val (.ref aK), s7, .val (.ref a8), .val (.int (3 : Int32)), .unset, .unset, .unset, .unset] [])) rfl (hb hby at_98) (by decide) (by decide)
  obtain ⟨b1, g1⟩ : ∃ z, z = h0.size := ⟨_, rfl⟩
  rw [← g1] at A1 D1 st1
  have lo_b1 : n0 ≤ b1 := Nat.le_trans Z0 (Nat.le_of_eq g1.symm)
  have ne_a8_b1 : a8 ≠ b1 := Nat.ne_of_lt (Nat.lt_of_lt_of_le E_a8.lt (Nat.le_of_eq g1.symm))
  have E_a8_1 : Exa Z h1 a8 "com/example/treellis/treellis/cfa/StructType" := E_a8.ext E1
  have F_mb_1 : Fld Z h1 a8 "com/example/treellis/treellis/cfa/StructType" "members" "Ljava/util/List;" .null := F_mb.ext E1
  have F_pk_1 : Fld Z h1 a8 "com/example/treellis/treellis/cfa/StructType" "packing" "I" (.int (0 : Int32)) := F_pk.ext E1
  have F_ag_1 : Fld Z h1 a8 "com/example/treellis/treellis/cfa/StructType" "alignment" "I" (.int (0 : Int32)) := F_ag.ext E1
  have Zs1 : n0 ≤ h1.size := Nat.le_trans Z0 E1.1
  have Od1 : Old Z n0 h1 := Od0.ext E1
  have F_name_b1 : Fld Z h1 b1 "com/example/treellis/treellis/cfa/StructType$Member" "name" "Ljava/lang/String;" .null := D1 (Or.inr (hw _ (List.mem_of_getElem? (i := 36) rfl))) (ty := (.object "java/lang/String")) (by decide)
  have F_type_b1 : Fld Z h1 b1 "com/example/treellis/treellis/cfa/StructType$Member" "type" "Lcom/example/treellis/treellis/cfa/Type;" .null := D1 (Or.inr (hw _ (List.mem_of_getElem? (i := 38) rfl))) (ty := (.object "com/example/treellis/treellis/cfa/Type")) (by decide)
  have F_bitWidth_b1 : Fld Z h1 b1 "com/example/treellis/treellis/cfa/StructType$Member" "bitWidth" "Ljava/lang/Integer;" .null := D1 (Or.inr (hw _ (List.mem_of_getElem? (i := 40) rfl))) (ty := (.object "java/lang/Integer")) (by decide)
  have F_alignment_b1 : Fld Z h1 b1 "com/example/treellis/treellis/cfa/StructType$Member" "alignment" "I" (.int (0 : Int32)) := D1 (Or.inr (hw _ (List.mem_of_getElem? (i := 42) rfl))) (ty := .int) (by decide)
  refine own_go st1 ?_
  show own_Goes _ _ _ _ _ _ _ T1 (mkF m 101 #[.val (.int p0), .val (.int p1), .val (.int p2), .val (.int p3), .val (.int p4), .val (.int p5), .val (.ref aK), s7, .val (.ref a8), .val (.int (3 : Int32)), .unset, .unset, .unset, .unset] [(.ref b1)])
  refine own_go (fun _ k => XS.dup X1.here hx rfl (hb hby at_101) rfl rfl k) ?_
  show own_Goes _ _ _ _ _ _ _ T1 (mkF m 102 #[.val (.int p0), .val (.int p1), .val (.int p2), .val (.int p3), .val (.int p4), .val (.int p5), .val (.ref aK), s7, .val (.ref a8), .val (.int (3 : Int32)), .unset, .unset, .unset, .unset] [(.ref b1), (.ref b1)])
  refine own_go (fun _ k => XS.aconstNull X1.here hx rfl (hb hby at_102) k) ?_
  show own_Goes _ _ _ _ _ _ _ T1 (mkF m 103 #[.val (.int p0), .val (.int p1), .val (.int p2), .val (.int p3), .val (.int p4), .val (.int p5), .val (.ref aK), s7, .val (.ref a8), .val (.int (3 : Int32)), .unset, .unset, .unset, .unset] [.null, (.ref b1), (.ref b1)])
  refine own_go (fun _ k => XS.aload X1.here hx rfl (hb hby at_103) rfl rfl k) ?_
  show own_Goes _ _ _ _ _ _ _ T1 (mkF m 105 #[.val (.int p0), .val (.int p1), .val (.int p2), .val (.int p3), .val (.int p4), .val (.int p5), .val (.ref aK), s7, .val (.ref a8), .val (.int (3 : Int32)), .unset, .unset, .unset, .unset] [(.ref a8), .null, (.ref b1), (.ref b1)])
  refine own_go (fun _ k => XS.aconstNull X1.here hx rfl (hb hby at_105) k) ?_
  show own_Goes _ _ _ _ _ _ _ T1 (mkF m 106 #[.val (.int p0), .val (.int p1), .val (.int p2), .val (.int p3), .val (.int p4), .val (.int p5), .val (.ref aK), s7, .val (.ref a8), .val (.int (3 : Int32)), .unset, .unset, .unset, .unset] [.null, (.ref a8), .null, (.ref b1), (.ref b1)])
  refine own_go (fun _ k => XS.iconst X1.here hx rfl (hb hby at_106) k) ?_
  show own_Goes _ _ _ _ _ _ _ T1 (mkF m 107 #[.val (.int p0), .val (.int p1), .val (.int p2), .val (.int p3), .val (.int p4), .val (.int p5), .val (.ref aK), s7, .val (.ref a8), .val (.int (3 : Int32)), .unset, .unset, .unset, .unset] [(.int (0 : Int32)), .null, (.ref a8), .null, (.ref b1), (.ref b1)])
  obtain ⟨_, _, ⟨T2, L2, k2, n2⟩, -, X2, ⟨Lc2, hQ2, l2, y2, z2⟩, st2⟩ := X1.specialBack hx (y := (⟨"com/example/treellis/treellis/cfa/StructType$Member", "<init>", "(Ljava/lang/String;Lcom/example/treellis/treellis/cfa/Type;Ljava/lang/Integer;I)V"⟩ : MethodName)) rfl hown (mvT hZ (hw _ (List.mem_of_getElem? (i := 31) rfl))) (mvT hZ (hw _ (List.mem_of_getElem? (i := 32) rfl))) (mvT hZ (hw _ (List.mem_of_getElem? (i := 33) rfl))) (by decide) (backOf (W := 1) (rm_mi l Z a0 hw [] b1 a8 h1 n0 Zs1 A1 F_name_b1 F_type_b1 F_bitWidth_b1 F_alignment_b1 lo_b1) hZ (hw _ (List.mem_of_getElem? (i := 33) rfl)) (hw _ (List.mem_of_getElem? (i := 30) rfl)) (by decide) (by decide)) (g := (mkF m 107 #[.val (.int p0), .val (.int p1), .val (.int p2), .val (.int p3), .val (.int p4), .val (.int p5), .val (.ref aK), s7, .val (.ref a8), .val (.int (3 : Int32)), .unset, .unset, .unset, .unset] [(.int (0 : Int32)), .null, (.ref a8), .null, (.ref b1), (.ref b1)])) rfl (by rw [hml]; rfl) (Steps.refl _) (a := b1) (argsL := [.null, (.ref a8), .null, (.int (0 : Int32))]) (rest := [(.ref b1)]) (lenOf pd_18 rfl) rfl (by show 2 * 0 + _ ≤ _; exact Nat.le_of_eq rfl) (hb hby at_107) (fun _ _ => ⟨rfl, e1, (by decide : 3 + 1 + 0 ≤ _), (by decide : 10 + 4 + 0 ≤ _)⟩)
  dsimp only [Pt.U, Pt.locs, Pt.cells, Pt.slots] at X2 l2 y2 z2 st2 hQ2
  subst l2 y2 z2
  obtain ⟨rfl, N2q, K2⟩ := hQ2
  have N2 := Fr.app N0 N2q
  refine own_goS st2 ?_
  show own_Goes _ _ _ _ _ _ _ T2 (mkF m 110 #[.val (.int p0), .val (.int p1), .val (.int p2), .val (.int p3), .val (.int p4), .val (.int p5), .val (.ref aK), s7, .val (.ref a8), .val (.int (3 : Int32)), .unset, .unset, .unset, .unset] [(.ref b1)])
  have E_a8_2 : Exa Z T2.heap a8 "com/example/treellis/treellis/cfa/StructType" := E_a8_1.keep K2
  have F_mb_2 : Fld Z T2.heap a8 "com/example/treellis/treellis/cfa/StructType" "members" "Ljava/util/List;" .null := F_mb_1.keep K2 (ninS ne_a8_b1 nin0)
  have F_pk_2 : Fld Z T2.heap a8 "com/example/treellis/treellis/cfa/StructType" "packing" "I" (.int (0 : Int32)) := F_pk_1.keep K2 (ninS ne_a8_b1 nin0)
  have F_ag_2 : Fld Z T2.heap a8 "com/example/treellis/treellis/cfa/StructType" "alignment" "I" (.int (0 : Int32)) := F_ag_1.keep K2 (ninS ne_a8_b1 nin0)
  have E_b1_2 : Exa Z T2.heap b1 "com/example/treellis/treellis/cfa/StructType$Member" := A1.keep K2
  have Zs2 : n0 ≤ T2.heap.size := Nat.le_trans Zs1 K2.1
  have Od2 : Old Z n0 T2.heap := Od1.keep K2 (allS lo_b1 all0)
  refine own_go (fun _ k => XS.astore X2.here hx rfl (hb hby at_110) rfl rfl (l' := #[.val (.int p0), .val (.int p1), .val (.int p2), .val (.int p3), .val (.int p4), .val (.int p5), .val (.ref aK), s7, .val (.ref a8), .val (.int (3 : Int32)), .val (.ref b1), .unset, .unset, .unset]) rfl k) ?_
  show own_Goes _ _ _ _ _ _ _ T2 (mkF m 112 #[.val (.int p0), .val (.int p1), .val (.int p2), .val (.int p3), .val (.int p4), .val (.int p5), .val (.ref aK), s7, .val (.ref a8), .val (.int (3 : Int32)), .val (.ref b1), .unset, .unset, .unset] [])
  obtain ⟨T3, h3, X3, e3, E3, A3, D3, -, st3⟩ := newO X2 hx hZ hown (hw _ (List.mem_of_getElem? (i := 43) rfl)) (hw _ (List.mem_of_getElem? (i := 44) rfl)) (hw _ (List.mem_of_getElem? (i := 45) rfl)) rfl (g := (mkF m 112 #[.val (.int p0), .val (.int p1), .val (.int p2), .val (.int p3), .val (.int p4), .val (.int p5), .val (.ref aK), s7, .val (.ref a8), .val (.int (3 : Int32)), .val (.ref b1), .unset, .unset, .unset] [])) rfl (hb hby at_112) (by decide) (by decide)
  obtain ⟨b3, g3⟩ : ∃ z, z = T2.heap.size := ⟨_, rfl⟩
  rw [← g3] at A3 D3 st3
  have lo_b3 : n0 ≤ b3 := Nat.le_trans Zs2 (Nat.le_of_eq g3.symm)
  have ne_a8_b3 : a8 ≠ b3 := Nat.ne_of_lt (Nat.lt_of_lt_of_le E_a8_2.lt (Nat.le_of_eq g3.symm))
  have ne_b1_b3 : b1 ≠ b3 := Nat.ne_of_lt (Nat.lt_of_lt_of_le E_b1_2.lt (Nat.le_of_eq g3.symm))
  have E_a8_3 : Exa Z h3 a8 "com/example/treellis/treellis/cfa/StructType" := E_a8_2.ext E3
  have F_mb_3 : Fld Z h3 a8 "com/example/treellis/treellis/cfa/StructType" "members" "Ljava/util/List;" .null := F_mb_2.ext E3
  have F_pk_3 : Fld Z h3 a8 "com/example/treellis/treellis/cfa/StructType" "packing" "I" (.int (0 : Int32)) := F_pk_2.ext E3
  have F_ag_3 : Fld Z h3 a8 "com/example/treellis/treellis/cfa/StructType" "alignment" "I" (.int (0 : Int32)) := F_ag_2.ext E3
  have E_b1_3 : Exa Z h3 b1 "com/example/treellis/treellis/cfa/StructType$Member" := E_b1_2.ext E3
  have Zs3 : n0 ≤ h3.size := Nat.le_trans Zs2 E3.1
  have Od3 : Old Z n0 h3 := Od2.ext E3
  have F_modCount_b3 : Fld Z h3 b3 "java/util/AbstractList" "modCount" "I" (.int (0 : Int32)) := D3 (Or.inl (hw _ (List.mem_of_getElem? (i := 63) rfl))) (ty := .int) (by decide)
  have F_elementData_b3 : Fld Z h3 b3 "java/util/ArrayList" "elementData" "[Ljava/lang/Object;" .null := D3 (Or.inl (hw _ (List.mem_of_getElem? (i := 66) rfl))) (ty := (.array (.object "java/lang/Object"))) (by decide)
  have F_size_b3 : Fld Z h3 b3 "java/util/ArrayList" "size" "I" (.int (0 : Int32)) := D3 (Or.inl (hw _ (List.mem_of_getElem? (i := 75) rfl))) (ty := .int) (by decide)
  refine own_go st3 ?_
  show own_Goes _ _ _ _ _ _ _ T3 (mkF m 115 #[.val (.int p0), .val (.int p1), .val (.int p2), .val (.int p3), .val (.int p4), .val (.int p5), .val (.ref aK), s7, .val (.ref a8), .val (.int (3 : Int32)), .val (.ref b1), .unset, .unset, .unset] [(.ref b3)])
  refine own_go (fun _ k => XS.dup X3.here hx rfl (hb hby at_115) rfl rfl k) ?_
  show own_Goes _ _ _ _ _ _ _ T3 (mkF m 116 #[.val (.int p0), .val (.int p1), .val (.int p2), .val (.int p3), .val (.int p4), .val (.int p5), .val (.ref aK), s7, .val (.ref a8), .val (.int (3 : Int32)), .val (.ref b1), .unset, .unset, .unset] [(.ref b3), (.ref b3)])
  obtain ⟨_, _, ⟨T4, L4, k4, n4⟩, -, X4, ⟨Lc4, hQ4, l4, y4, z4⟩, st4⟩ := X3.specialBack hx (y := (⟨"java/util/ArrayList", "<init>", "()V"⟩ : MethodName)) rfl hown (mvT hZ (hw _ (List.mem_of_getElem? (i := 46) rfl))) (mvT hZ (hw _ (List.mem_of_getElem? (i := 47) rfl))) (mvT hZ (hw _ (List.mem_of_getElem? (i := 48) rfl))) (by decide) (backOf (W := 1) (rm_al l Z a0 hw [] b3 aD h3 n0 Zs3 A3 F_modCount_b3 F_size_b3 F_elementData_b3 lo_b3 SD Od3) hZ (hw _ (List.mem_of_getElem? (i := 48) rfl)) (hw _ (List.mem_of_getElem? (i := 45) rfl)) (by decide) (by decide)) (g := (mkF m 116 #[.val (.int p0), .val (.int p1), .val (.int p2), .val (.int p3), .val (.int p4), .val (.int p5), .val (.ref aK), s7, .val (.ref a8), .val (.int (3 : Int32)), .val (.ref b1), .unset, .unset, .unset] [(.ref b3), (.ref b3)])) rfl (by rw [hml]; rfl) (Steps.refl _) (a := b3) (argsL := []) (rest := [(.ref b3)]) (lenOf pd_0 rfl) rfl (by show 2 * 0 + _ ≤ _; exact Nat.le_of_eq rfl) (hb hby at_116) (fun _ _ => ⟨rfl, e3, (by decide : 3 + 1 + 0 + 1 + 0 ≤ _), (by decide : 10 + 4 + 0 + 3 + 0 ≤ _)⟩)
  dsimp only [Pt.U, Pt.locs, Pt.cells, Pt.slots] at X4 l4 y4 z4 st4 hQ4
  subst l4 y4 z4
  obtain ⟨rfl, N4q, K4, Fa4, Fb4, Fc4⟩ := hQ4
  have N4 := Fr.app N2 N4q
  refine own_goS st4 ?_
  show own_Goes _ _ _ _ _ _ _ T4 (mkF m 119 #[.val (.int p0), .val (.int p1), .val (.int p2), .val (.int p3), .val (.int p4), .val (.int p5), .val (.ref aK), s7, .val (.ref a8), .val (.int (3 : Int32)), .val (.ref b1), .unset, .unset, .unset] [(.ref b3)])
  have E_a8_4 : Exa Z T4.heap a8 "com/example/treellis/treellis/cfa/StructType" := E_a8_3.keep K4
  have F_mb_4 : Fld Z T4.heap a8 "com/example/treellis/treellis/cfa/StructType" "members" "Ljava/util/List;" .null := F_mb_3.keep K4 (ninS ne_a8_b3 nin0)
  have F_pk_4 : Fld Z T4.heap a8 "com/example/treellis/treellis/cfa/StructType" "packing" "I" (.int (0 : Int32)) := F_pk_3.keep K4 (ninS ne_a8_b3 nin0)
  have F_ag_4 : Fld Z T4.heap a8 "com/example/treellis/treellis/cfa/StructType" "alignment" "I" (.int (0 : Int32)) := F_ag_3.keep K4 (ninS ne_a8_b3 nin0)
  have E_b1_4 : Exa Z T4.heap b1 "com/example/treellis/treellis/cfa/StructType$Member" := E_b1_3.keep K4
  have E_b3_4 : Exa Z T4.heap b3 "java/util/ArrayList" := A3.keep K4
  have Zs4 : n0 ≤ T4.heap.size := Nat.le_trans Zs3 K4.1
  have Od4 : Old Z n0 T4.heap := Od3.keep K4 (allS lo_b3 all0)
  refine own_go (fun _ k => XS.astore X4.here hx rfl (hb hby at_119) rfl rfl (l' := #[.val (.int p0), .val (.int p1), .val (.int p2), .val (.int p3), .val (.int p4), .val (.int p5), .val (.ref aK), s7, .val (.ref a8), .val (.int (3 : Int32)), .val (.ref b1), .val (.ref b3), .unset, .unset]) rfl k) ?_
  show own_Goes _ _ _ _ _ _ _ T4 (mkF m 121 #[.val (.int p0), .val (.int p1), .val (.int p2), .val (.int p3), .val (.int p4), .val (.int p5), .val (.ref aK), s7, .val (.ref a8), .val (.int (3 : Int32)), .val (.ref b1), .val (.ref b3), .unset, .unset] [])
  refine own_go (fun _ k => XS.iload X4.here hx rfl (hb hby at_121) rfl k) ?_
  show own_Goes _ _ _ _ _ _ _ T4 (mkF m 123 #[.val (.int p0), .val (.int p1), .val (.int p2), .val (.int p3), .val (.int p4), .val (.int p5), .val (.ref aK), s7, .val (.ref a8), .val (.int (3 : Int32)), .val (.ref b1), .val (.ref b3), .unset, .unset] [(.int (3 : Int32))])
  refine own_go (fun _ k => XS.iconst X4.here hx rfl (hb hby at_123) k) ?_
  show own_Goes _ _ _ _ _ _ _ T4 (mkF m 124 #[.val (.int p0), .val (.int p1), .val (.int p2), .val (.int p3), .val (.int p4), .val (.int p5), .val (.ref aK), s7, .val (.ref a8), .val (.int (3 : Int32)), .val (.ref b1), .val (.ref b3), .unset, .unset] [(.int (1 : Int32)), (.int (3 : Int32))])
  refine own_go (fun _ k => XS.icmpNo X4.here hx rfl (hb hby at_124) rfl (flt (by decide : ¬ ((3 : Int32) < (1 : Int32)))).1 k) ?_
  show own_Goes _ _ _ _ _ _ _ T4 (mkF m 127 #[.val (.int p0), .val (.int p1), .val (.int p2), .val (.int p3), .val (.int p4), .val (.int p5), .val (.ref aK), s7, .val (.ref a8), .val (.int (3 : Int32)), .val (.ref b1), .val (.ref b3), .unset, .unset] [])
  refine own_go (fun _ k => XS.aload X4.here hx rfl (hb hby at_127) rfl rfl k) ?_
  show own_Goes _ _ _ _ _ _ _ T4 (mkF m 129 #[.val (.int p0), .val (.int p1), .val (.int p2), .val (.int p3), .val (.int p4), .val (.int p5), .val (.ref aK), s7, .val (.ref a8), .val (.int (3 : Int32)), .val (.ref b1), .val (.ref b3), .unset, .unset] [(.ref b3)])
  refine own_go (fun _ k => XS.aload X4.here hx rfl (hb hby at_129) rfl rfl k) ?_
  show own_Goes _ _ _ _ _ _ _ T4 (mkF m 131 #[.val (.int p0), .val (.int p1), .val (.int p2), .val (.int p3), .val (.int p4), .val (.int p5), .val (.ref aK), s7, .val (.ref a8), .val (.int (3 : Int32)), .val (.ref b1), .val (.ref b3), .unset, .unset] [(.ref b1), (.ref b3)])
  obtain ⟨cq5, kq5, zq5a, zq5b, zq5c⟩ := isOf hZ rfl E_b3_4
  obtain ⟨_, _, ⟨T5, L5, k5, n5⟩, -, X5, ⟨Lc5, hQ5, l5, y5, z5⟩, st5⟩ := X4.virtualBack hx (y := (⟨"java/util/ArrayList", "add", "(Ljava/lang/Object;)Z"⟩ : MethodName)) (z := (⟨"java/util/ArrayList", "add", "(Ljava/lang/Object;)Z"⟩ : MethodName)) hown (mvT hZ (hw _ (List.mem_of_getElem? (i := 67) rfl))) (mvT hZ (hw _ (List.mem_of_getElem? (i := 68) rfl))) (notFace_of_selects (args := #[]) (mvT hZ (hw _ (List.mem_of_getElem? (i := 70) rfl)))) (mvT hZ (hw _ (List.mem_of_getElem? (i := 70) rfl))) (mvT hZ (hw _ (List.mem_of_getElem? (i := 69) rfl))) (by decide) (backOf (W := 0) (rm_add0 l Z a0 hw [] b3 b1 aD cD T4.heap n0 Zs4 E_b3_4 Fa4 Fb4 Fc4 E_b1_4 lo_b3 (Ne.symm ne_b1_b3) SD AD zD Od4) hZ (hw _ (List.mem_of_getElem? (i := 71) rfl)) (hw _ (List.mem_of_getElem? (i := 45) rfl)) (by decide) (by decide)) zq5a zq5c (g := (mkF m 131 #[.val (.int p0), .val (.int p1), .val (.int p2), .val (.int p3), .val (.int p4), .val (.int p5), .val (.ref aK), s7, .val (.ref a8), .val (.int (3 : Int32)), .val (.ref b1), .val (.ref b3), .unset, .unset] [(.ref b1), (.ref b3)])) rfl (by rw [hml]; rfl) (Steps.refl _) (argsL := [(.ref b1)]) (rest := []) (lenOf pd_21 rfl) rfl (by show 2 * 0 + _ ≤ _; exact Nat.le_of_eq rfl) (hb hby at_131) (fun _ _ => ⟨rfl, rfl, (by decide : 3 + 1 + 0 + 1 + 0 + 1 ≤ _), (by decide : 10 + 4 + 0 + 3 + 0 + 10 ≤ _)⟩)
  dsimp only [Pt.U, Pt.locs, Pt.cells, Pt.slots] at X5 l5 y5 z5 st5 hQ5
  subst l5 y5 z5
  obtain ⟨bb5, kk5, rfl, N5q, hb5, K5, Fa5, Fb5, Fc5, Va5, Ov5, Ea5⟩ := hQ5
  have N5 := Fr.app N4 N5q
  refine own_goS st5 ?_
  show own_Goes _ _ _ _ _ _ _ T5 (mkF m 134 #[.val (.int p0), .val (.int p1), .val (.int p2), .val (.int p3), .val (.int p4), .val (.int p5), .val (.ref aK), s7, .val (.ref a8), .val (.int (3 : Int32)), .val (.ref b1), .val (.ref b3), .unset, .unset] [(.int (1 : Int32))])
  have E_a8_5 : Exa Z T5.heap a8 "com/example/treellis/treellis/cfa/StructType" := E_a8_4.keep K5
  have F_mb_5 : Fld Z T5.heap a8 "com/example/treellis/treellis/cfa/StructType" "members" "Ljava/util/List;" .null := F_mb_4.keep K5 (ninS ne_a8_b3 nin0)
  have F_pk_5 : Fld Z T5.heap a8 "com/example/treellis/treellis/cfa/StructType" "packing" "I" (.int (0 : Int32)) := F_pk_4.keep K5 (ninS ne_a8_b3 nin0)
  have F_ag_5 : Fld Z T5.heap a8 "com/example/treellis/treellis/cfa/StructType" "alignment" "I" (.int (0 : Int32)) := F_ag_4.keep K5 (ninS ne_a8_b3 nin0)
  have E_b1_5 : Exa Z T5.heap b1 "com/example/treellis/treellis/cfa/StructType$Member" := E_b1_4.keep K5
  have E_b3_5 : Exa Z T5.heap b3 "java/util/ArrayList" := E_b3_4.keep K5
  have Zs5 : n0 ≤ T5.heap.size := Nat.le_trans Zs4 K5.1
  have Od5 : Old Z n0 T5.heap := Od4.keep K5 (allS lo_b3 all0)
  have lo_bb5 : n0 ≤ bb5 := Nat.le_trans Zs4 hb5
  have ne_a8_bb5 : a8 ≠ bb5 := Nat.ne_of_lt (Nat.lt_of_lt_of_le E_a8_4.lt hb5)
  have ne_b1_bb5 : b1 ≠ bb5 := Nat.ne_of_lt (Nat.lt_of_lt_of_le E_b1_4.lt hb5)
  have ne_b3_bb5 : b3 ≠ bb5 := Nat.ne_of_lt (Nat.lt_of_lt_of_le E_b3_4.lt hb5)
  refine own_go (fun _ k => XS.pop X5.here hx rfl (hb hby at_134) rfl rfl k) ?_
  show own_Goes _ _ _ _ _ _ _ T5 (mkF m 135 #[.val (.int p0), .val (.int p1), .val (.int p2), .val (.int p3), .val (.int p4), .val (.int p5), .val (.ref aK), s7, .val (.ref a8), .val (.int (3 : Int32)), .val (.ref b1), .val (.ref b3), .unset, .unset] [])
  refine own_go (fun _ k => XS.iload X5.here hx rfl (hb hby at_135) rfl k) ?_
  show own_Goes _ _ _ _ _ _ _ T5 (mkF m 137 #[.val (.int p0), .val (.int p1), .val (.int p2), .val (.int p3), .val (.int p4), .val (.int p5), .val (.ref aK), s7, .val (.ref a8), .val (.int (3 : Int32)), .val (.ref b1), .val (.ref b3), .unset, .unset] [(.int (3 : Int32))])
  refine own_go (fun _ k => XS.iconst X5.here hx rfl (hb hby at_137) k) ?_
  show own_Goes _ _ _ _ _ _ _ T5 (mkF m 138 #[.val (.int p0), .val (.int p1), .val (.int p2), .val (.int p3), .val (.int p4), .val (.int p5), .val (.ref aK), s7, .val (.ref a8), .val (.int (3 : Int32)), .val (.ref b1), .val (.ref b3), .unset, .unset] [(.int (2 : Int32)), (.int (3 : Int32))])
  refine own_go (fun _ k => XS.icmpNo X5.here hx rfl (hb hby at_138) rfl (flt (by decide : ¬ ((3 : Int32) < (2 : Int32)))).1 k) ?_
  show own_Goes _ _ _ _ _ _ _ T5 (mkF m 141 #[.val (.int p0), .val (.int p1), .val (.int p2), .val (.int p3), .val (.int p4), .val (.int p5), .val (.ref aK), s7, .val (.ref a8), .val (.int (3 : Int32)), .val (.ref b1), .val (.ref b3), .unset, .unset] [])
  refine own_go (fun _ k => XS.aload X5.here hx rfl (hb hby at_141) rfl rfl k) ?_
  show own_Goes _ _ _ _ _ _ _ T5 (mkF m 143 #[.val (.int p0), .val (.int p1), .val (.int p2), .val (.int p3), .val (.int p4), .val (.int p5), .val (.ref aK), s7, .val (.ref a8), .val (.int (3 : Int32)), .val (.ref b1), .val (.ref b3), .unset, .unset] [(.ref b3)])
  refine own_go (fun _ k => XS.aload X5.here hx rfl (hb hby at_143) rfl rfl k) ?_
  show own_Goes _ _ _ _ _ _ _ T5 (mkF m 145 #[.val (.int p0), .val (.int p1), .val (.int p2), .val (.int p3), .val (.int p4), .val (.int p5), .val (.ref aK), s7, .val (.ref a8), .val (.int (3 : Int32)), .val (.ref b1), .val (.ref b3), .unset, .unset] [(.ref b1), (.ref b3)])
  obtain ⟨cq6, kq6, zq6a, zq6b, zq6c⟩ := isOf hZ rfl E_b3_5
  obtain ⟨_, _, ⟨T6, L6, k6, n6⟩, -, X6, ⟨Lc6, hQ6, l6, y6, z6⟩, st6⟩ := X5.virtualBack hx (y := (⟨"java/util/ArrayList", "add", "(Ljava/lang/Object;)Z"⟩ : MethodName)) (z := (⟨"java/util/ArrayList", "add", "(Ljava/lang/Object;)Z"⟩ : MethodName)) hown (mvT hZ (hw _ (List.mem_of_getElem? (i := 67) rfl))) (mvT hZ (hw _ (List.mem_of_getElem? (i := 68) rfl))) (notFace_of_selects (args := #[]) (mvT hZ (hw _ (List.mem_of_getElem? (i := 70) rfl)))) (mvT hZ (hw _ (List.mem_of_getElem? (i := 70) rfl))) (mvT hZ (hw _ (List.mem_of_getElem? (i := 69) rfl))) (by decide) (backOf (W := 0) (rm_add1 l Z a0 hw [] b3 b1 bb5 kk5 T5.heap n0 Zs5 E_b3_5 Fa5 Fb5 Fc5 Va5 E_b1_5 lo_b3 lo_bb5 (Ne.symm ne_b1_b3) ne_b3_bb5 ne_b1_bb5 Ov5) hZ (hw _ (List.mem_of_getElem? (i := 71) rfl)) (hw _ (List.mem_of_getElem? (i := 45) rfl)) (by decide) (by decide)) zq6a zq6c (g := (mkF m 145 #[.val (.int p0), .val (.int p1), .val (.int p2), .val (.int p3), .val (.int p4), .val (.int p5), .val (.ref aK), s7, .val (.ref a8), .val (.int (3 : Int32)), .val (.ref b1), .val (.ref b3), .unset, .unset] [(.ref b1), (.ref b3)])) rfl (by rw [hml]; rfl) (Steps.refl _) (argsL := [(.ref b1)]) (rest := []) (lenOf pd_21 rfl) rfl (by show 2 * 0 + _ ≤ _; exact Nat.le_of_eq rfl) (hb hby at_145) (fun _ _ => ⟨rfl, rfl, (by decide : 3 + 1 + 0 + 1 + 0 + 1 + 0 ≤ _), (by decide : 10 + 4 + 0 + 3 + 0 + 10 + 0 ≤ _)⟩)
  dsimp only [Pt.U, Pt.locs, Pt.cells, Pt.slots] at X6 l6 y6 z6 st6 hQ6
  subst l6 y6 z6
  obtain ⟨rfl, N6q, K6, Fa6, Fb6, Fc6, Va6⟩ := hQ6
  have N6 := Fr.app N5 N6q
  refine own_goS st6 ?_
  show own_Goes _ _ _ _ _ _ _ T6 (mkF m 148 #[.val (.int p0), .val (.int p1), .val (.int p2), .val (.int p3), .val (.int p4), .val (.int p5), .val (.ref aK), s7, .val (.ref a8), .val (.int (3 : Int32)), .val (.ref b1), .val (.ref b3), .unset, .unset] [(.int (1 : Int32))])
  have E_a8_6 : Exa Z T6.heap a8 "com/example/treellis/treellis/cfa/StructType" := E_a8_5.keep K6
  have F_mb_6 : Fld Z T6.heap a8 "com/example/treellis/treellis/cfa/StructType" "members" "Ljava/util/List;" .null := F_mb_5.keep K6 (ninS ne_a8_b3 (ninS ne_a8_bb5 nin0))
  have F_pk_6 : Fld Z T6.heap a8 "com/example/treellis/treellis/cfa/StructType" "packing" "I" (.int (0 : Int32)) := F_pk_5.keep K6 (ninS ne_a8_b3 (ninS ne_a8_bb5 nin0))
  have F_ag_6 : Fld Z T6.heap a8 "com/example/treellis/treellis/cfa/StructType" "alignment" "I" (.int (0 : Int32)) := F_ag_5.keep K6 (ninS ne_a8_b3 (ninS ne_a8_bb5 nin0))
  have E_b1_6 : Exa Z T6.heap b1 "com/example/treellis/treellis/cfa/StructType$Member" := E_b1_5.keep K6
  have E_b3_6 : Exa Z T6.heap b3 "java/util/ArrayList" := E_b3_5.keep K6
  have L_E_6 : Exa Z T6.heap bb5 "[Ljava/lang/Object;" := Ea5.keep K6
  have Zs6 : n0 ≤ T6.heap.size := Nat.le_trans Zs5 K6.1
  have Od6 : Old Z n0 T6.heap := Od5.keep K6 (allS lo_b3 (allS lo_bb5 all0))
  refine own_go (fun _ k => XS.pop X6.here hx rfl (hb hby at_148) rfl rfl k) ?_
  show own_Goes _ _ _ _ _ _ _ T6 (mkF m 149 #[.val (.int p0), .val (.int p1), .val (.int p2), .val (.int p3), .val (.int p4), .val (.int p5), .val (.ref aK), s7, .val (.ref a8), .val (.int (3 : Int32)), .val (.ref b1), .val (.ref b3), .unset, .unset] [])
  refine own_go (fun _ k => XS.iload X6.here hx rfl (hb hby at_149) rfl k) ?_
  show own_Goes _ _ _ _ _ _ _ T6 (mkF m 151 #[.val (.int p0), .val (.int p1), .val (.int p2), .val (.int p3), .val (.int p4), .val (.int p5), .val (.ref aK), s7, .val (.ref a8), .val (.int (3 : Int32)), .val (.ref b1), .val (.ref b3), .unset, .unset] [(.int (3 : Int32))])
  refine own_go (fun _ k => XS.iconst X6.here hx rfl (hb hby at_151) k) ?_
  show own_Goes _ _ _ _ _ _ _ T6 (mkF m 152 #[.val (.int p0), .val (.int p1), .val (.int p2), .val (.int p3), .val (.int p4), .val (.int p5), .val (.ref aK), s7, .val (.ref a8), .val (.int (3 : Int32)), .val (.ref b1), .val (.ref b3), .unset, .unset] [(.int (3 : Int32)), (.int (3 : Int32))])
  refine own_go (fun _ k => XS.icmpNo X6.here hx rfl (hb hby at_152) rfl (flt (by decide : ¬ ((3 : Int32) < (3 : Int32)))).1 k) ?_
  show own_Goes _ _ _ _ _ _ _ T6 (mkF m 155 #[.val (.int p0), .val (.int p1), .val (.int p2), .val (.int p3), .val (.int p4), .val (.int p5), .val (.ref aK), s7, .val (.ref a8), .val (.int (3 : Int32)), .val (.ref b1), .val (.ref b3), .unset, .unset] [])
  refine own_go (fun _ k => XS.aload X6.here hx rfl (hb hby at_155) rfl rfl k) ?_
  show own_Goes _ _ _ _ _ _ _ T6 (mkF m 157 #[.val (.int p0), .val (.int p1), .val (.int p2), .val (.int p3), .val (.int p4), .val (.int p5), .val (.ref aK), s7, .val (.ref a8), .val (.int (3 : Int32)), .val (.ref b1), .val (.ref b3), .unset, .unset] [(.ref b3)])
  refine own_go (fun _ k => XS.aload X6.here hx rfl (hb hby at_157) rfl rfl k) ?_
  show own_Goes _ _ _ _ _ _ _ T6 (mkF m 159 #[.val (.int p0), .val (.int p1), .val (.int p2), .val (.int p3), .val (.int p4), .val (.int p5), .val (.ref aK), s7, .val (.ref a8), .val (.int (3 : Int32)), .val (.ref b1), .val (.ref b3), .unset, .unset] [(.ref b1), (.ref b3)])
  obtain ⟨cq7, kq7, zq7a, zq7b, zq7c⟩ := isOf hZ rfl E_b3_6
  obtain ⟨_, _, ⟨T7, L7, k7, n7⟩, -, X7, ⟨Lc7, hQ7, l7, y7, z7⟩, st7⟩ := X6.virtualBack hx (y := (⟨"java/util/ArrayList", "add", "(Ljava/lang/Object;)Z"⟩ : MethodName)) (z := (⟨"java/util/ArrayList", "add", "(Ljava/lang/Object;)Z"⟩ : MethodName)) hown (mvT hZ (hw _ (List.mem_of_getElem? (i := 67) rfl))) (mvT hZ (hw _ (List.mem_of_getElem? (i := 68) rfl))) (notFace_of_selects (args := #[]) (mvT hZ (hw _ (List.mem_of_getElem? (i := 70) rfl)))) (mvT hZ (hw _ (List.mem_of_getElem? (i := 70) rfl))) (mvT hZ (hw _ (List.mem_of_getElem? (i := 69) rfl))) (by decide) (backOf (W := 0) (rm_add2 l Z a0 hw [] b3 b1 bb5 kk5 T6.heap n0 Zs6 E_b3_6 Fa6 Fb6 Fc6 Va6 E_b1_6 lo_b3 lo_bb5 (Ne.symm ne_b1_b3) ne_b3_bb5 ne_b1_bb5 Ov5) hZ (hw _ (List.mem_of_getElem? (i := 71) rfl)) (hw _ (List.mem_of_getElem? (i := 45) rfl)) (by decide) (by decide)) zq7a zq7c (g := (mkF m 159 #[.val (.int p0), .val (.int p1), .val (.int p2), .val (.int p3), .val (.int p4), .val (.int p5), .val (.ref aK), s7, .val (.ref a8), .val (.int (3 : Int32)), .val (.ref b1), .val (.ref b3), .unset, .unset] [(.ref b1), (.ref b3)])) rfl (by rw [hml]; rfl) (Steps.refl _) (argsL := [(.ref b1)]) (rest := []) (lenOf pd_21 rfl) rfl (by show 2 * 0 + _ ≤ _; exact Nat.le_of_eq rfl) (hb hby at_159) (fun _ _ => ⟨rfl, rfl, (by decide : 3 + 1 + 0 + 1 + 0 + 1 + 0 + 0 ≤ _), (by decide : 10 + 4 + 0 + 3 + 0 + 10 + 0 + 0 ≤ _)⟩)
  dsimp only [Pt.U, Pt.locs, Pt.cells, Pt.slots] at X7 l7 y7 z7 st7 hQ7
  subst l7 y7 z7
  obtain ⟨rfl, N7q, K7, Fa7, Fb7, Fc7, Va7⟩ := hQ7
  have N7 := Fr.app N6 N7q
  refine own_goS st7 ?_
  show own_Goes _ _ _ _ _ _ _ T7 (mkF m 162 #[.val (.int p0), .val (.int p1), .val (.int p2), .val (.int p3), .val (.int p4), .val (.int p5), .val (.ref aK), s7, .val (.ref a8), .val (.int (3 : Int32)), .val (.ref b1), .val (.ref b3), .unset, .unset] [(.int (1 : Int32))])
  have E_a8_7 : Exa Z T7.heap a8 "com/example/treellis/treellis/cfa/StructType" := E_a8_6.keep K7
  have F_mb_7 : Fld Z T7.heap a8 "com/example/treellis/treellis/cfa/StructType" "members" "Ljava/util/List;" .null := F_mb_6.keep K7 (ninS ne_a8_b3 (ninS ne_a8_bb5 nin0))
  have F_pk_7 : Fld Z T7.heap a8 "com/example/treellis/treellis/cfa/StructType" "packing" "I" (.int (0 : Int32)) := F_pk_6.keep K7 (ninS ne_a8_b3 (ninS ne_a8_bb5 nin0))
  have F_ag_7 : Fld Z T7.heap a8 "com/example/treellis/treellis/cfa/StructType" "alignment" "I" (.int (0 : Int32)) := F_ag_6.keep K7 (ninS ne_a8_b3 (ninS ne_a8_bb5 nin0))
  have E_b1_7 : Exa Z T7.heap b1 "com/example/treellis/treellis/cfa/StructType$Member" := E_b1_6.keep K7
  have E_b3_7 : Exa Z T7.heap b3 "java/util/ArrayList" := E_b3_6.keep K7
  have L_E_7 : Exa Z T7.heap bb5 "[Ljava/lang/Object;" := L_E_6.keep K7
  have Zs7 : n0 ≤ T7.heap.size := Nat.le_trans Zs6 K7.1
  have Od7 : Old Z n0 T7.heap := Od6.keep K7 (allS lo_b3 (allS lo_bb5 all0))
  refine own_go (fun _ k => XS.pop X7.here hx rfl (hb hby at_162) rfl rfl k) ?_
  show own_Goes _ _ _ _ _ _ _ T7 (mkF m 163 #[.val (.int p0), .val (.int p1), .val (.int p2), .val (.int p3), .val (.int p4), .val (.int p5), .val (.ref aK), s7, .val (.ref a8), .val (.int (3 : Int32)), .val (.ref b1), .val (.ref b3), .unset, .unset] [])
  refine own_go (fun _ k => XS.aload X7.here hx rfl (hb hby at_163) rfl rfl k) ?_
  show own_Goes _ _ _ _ _ _ _ T7 (mkF m 165 #[.val (.int p0), .val (.int p1), .val (.int p2), .val (.int p3), .val (.int p4), .val (.int p5), .val (.ref aK), s7, .val (.ref a8), .val (.int (3 : Int32)), .val (.ref b1), .val (.ref b3), .unset, .unset] [(.ref a8)])
  refine own_go (fun _ k => XS.aload X7.here hx rfl (hb hby at_165) rfl rfl k) ?_
  show own_Goes _ _ _ _ _ _ _ T7 (mkF m 167 #[.val (.int p0), .val (.int p1), .val (.int p2), .val (.int p3), .val (.int p4), .val (.int p5), .val (.ref aK), s7, .val (.ref a8), .val (.int (3 : Int32)), .val (.ref b1), .val (.ref b3), .unset, .unset] [(.ref b3), (.ref a8)])
  refine own_go (fun _ k => XS.iloadN X7.here hx rfl (hb hby at_167) rfl k) ?_
  show own_Goes _ _ _ _ _ _ _ T7 (mkF m 168 #[.val (.int p0), .val (.int p1), .val (.int p2), .val (.int p3), .val (.int p4), .val (.int p5), .val (.ref aK), s7, .val (.ref a8), .val (.int (3 : Int32)), .val (.ref b1), .val (.ref b3), .unset, .unset] [(.int p3), (.ref b3), (.ref a8)])
  refine own_go (fun _ k => XS.iload X7.here hx rfl (hb hby at_168) rfl k) ?_
  show own_Goes _ _ _ _ _ _ _ T7 (mkF m 170 #[.val (.int p0), .val (.int p1), .val (.int p2), .val (.int p3), .val (.int p4), .val (.int p5), .val (.ref aK), s7, .val (.ref a8), .val (.int (3 : Int32)), .val (.ref b1), .val (.ref b3), .unset, .unset] [(.int p4), (.int p3), (.ref b3), (.ref a8)])
  obtain ⟨cq8, kq8, zq8a, zq8b, zq8c⟩ := isOf hZ rfl E_a8_7
  obtain ⟨_, _, ⟨T8, L8, k8, n8⟩, -, X8, ⟨Lc8, hQ8, l8, y8, z8⟩, st8⟩ := X7.virtualBack hx (y := (⟨"com/example/treellis/treellis/cfa/StructType", "complete", "(Ljava/util/List;II)V"⟩ : MethodName)) (z := (⟨"com/example/treellis/treellis/cfa/StructType", "complete", "(Ljava/util/List;II)V"⟩ : MethodName)) hown (mvT hZ (hw _ (List.mem_of_getElem? (i := 98) rfl))) (mvT hZ (hw _ (List.mem_of_getElem? (i := 99) rfl))) (notFace_of_selects (args := #[]) (mvT hZ (hw _ (List.mem_of_getElem? (i := 101) rfl)))) (mvT hZ (hw _ (List.mem_of_getElem? (i := 101) rfl))) (mvT hZ (hw _ (List.mem_of_getElem? (i := 100) rfl))) (by decide) (backOf (W := 0) (rm_cm3 l Z a0 hw [] a8 b3 b1 bb5 aM aE aL kk5 p3 p4 T7.heap n0 Zs7 E_b3_7 Fb7 Fc7 Va7 E_b1_7 L_E_7 E_a8_7 F_mb_7 F_pk_7 F_ag_7 lo_a8 ne_a8_b3 ne_a8_b1 ne_a8_bb5 (Ne.symm ne_b1_bb5) (Ne.symm ne_b1_b3) ne_b3_bb5 MM SE SL Od7) hZ (hw _ (List.mem_of_getElem? (i := 102) rfl)) (hw _ (List.mem_of_getElem? (i := 5) rfl)) (by decide) (by decide)) zq8a zq8c (g := (mkF m 170 #[.val (.int p0), .val (.int p1), .val (.int p2), .val (.int p3), .val (.int p4), .val (.int p5), .val (.ref aK), s7, .val (.ref a8), .val (.int (3 : Int32)), .val (.ref b1), .val (.ref b3), .unset, .unset] [(.int p4), (.int p3), (.ref b3), (.ref a8)])) rfl (by rw [hml]; rfl) (Steps.refl _) (argsL := [(.ref b3), (.int p3), (.int p4)]) (rest := []) (lenOf pd_19 rfl) rfl (by show 2 * 0 + _ ≤ _; exact Nat.le_of_eq rfl) (hb hby at_170) (fun _ _ => ⟨rfl, rfl, (by decide : 3 + 1 + 0 + 1 + 0 + 1 + 0 + 0 + 3 ≤ _), (by decide : 10 + 4 + 0 + 3 + 0 + 10 + 0 + 0 + 8 ≤ _)⟩)
  dsimp only [Pt.U, Pt.locs, Pt.cells, Pt.slots] at X8 l8 y8 z8 st8 hQ8
  subst l8 y8 z8
  obtain ⟨rr8, ee8, ke8, rfl, N8q, K8, Fa8, Fb8, Fc8, Ex8, Fd8, Ve8⟩ := hQ8
  have N8 := Fr.app N7 N8q
  refine own_goS st8 ?_
  show own_Goes _ _ _ _ _ _ _ T8 (mkF m 173 #[.val (.int p0), .val (.int p1), .val (.int p2), .val (.int p3), .val (.int p4), .val (.int p5), .val (.ref aK), s7, .val (.ref a8), .val (.int (3 : Int32)), .val (.ref b1), .val (.ref b3), .unset, .unset] [])
  have E_a8_8 : Exa Z T8.heap a8 "com/example/treellis/treellis/cfa/StructType" := E_a8_7.keep K8
  have E_b1_8 : Exa Z T8.heap b1 "com/example/treellis/treellis/cfa/StructType$Member" := E_b1_7.keep K8
  have E_b3_8 : Exa Z T8.heap b3 "java/util/ArrayList" := E_b3_7.keep K8
  have L_E_8 : Exa Z T8.heap bb5 "[Ljava/lang/Object;" := L_E_7.keep K8
  have L_modCount_8 : Fld Z T8.heap b3 "java/util/AbstractList" "modCount" "I" (.int (3 : Int32)) := Fa7.keep K8 (ninS (Ne.symm ne_a8_b3) nin0)
  have L_size_8 : Fld Z T8.heap b3 "java/util/ArrayList" "size" "I" (.int (3 : Int32)) := Fb7.keep K8 (ninS (Ne.symm ne_a8_b3) nin0)
  have L_elementData_8 : Fld Z T8.heap b3 "java/util/ArrayList" "elementData" "[Ljava/lang/Object;" (.ref bb5) := Fc7.keep K8 (ninS (Ne.symm ne_a8_b3) nin0)
  have L_V_8 : Arv Z T8.heap bb5 kk5 (.object "java/lang/Object") (10 : Int32) [(.ref b1), (.ref b1), (.ref b1)] .null := Va7.keep K8 (ninS (Ne.symm ne_a8_bb5) nin0)
  have Zs8 : n0 ≤ T8.heap.size := Nat.le_trans Zs7 K8.1
  have Od8 : Old Z n0 T8.heap := Od7.keep K8 (allS lo_a8 all0)
  refine own_go (fun _ k => XS.aload X8.here hx rfl (hb hby at_173) rfl rfl k) ?_
  show own_Goes _ _ _ _ _ _ _ T8 (mkF m 175 #[.val (.int p0), .val (.int p1), .val (.int p2), .val (.int p3), .val (.int p4), .val (.int p5), .val (.ref aK), s7, .val (.ref a8), .val (.int (3 : Int32)), .val (.ref b1), .val (.ref b3), .unset, .unset] [(.ref a8)])
  obtain ⟨cq9, kq9, zq9a, zq9b, zq9c⟩ := isOf hZ rfl E_a8_8
  obtain ⟨_, _, ⟨T9, L9, k9, n9⟩, -, X9, ⟨Lc9, hQ9, l9, y9, z9⟩, st9⟩ := X8.virtualBack hx (y := (⟨"com/example/treellis/treellis/cfa/StructType", "isComplete", "()Z"⟩ : MethodName)) (z := (⟨"com/example/treellis/treellis/cfa/StructType", "isComplete", "()Z"⟩ : MethodName)) hown (mvT hZ (hw _ (List.mem_of_getElem? (i := 16) rfl))) (mvT hZ (hw _ (List.mem_of_getElem? (i := 17) rfl))) (notFace_of_selects (args := #[]) (mvT hZ (hw _ (List.mem_of_getElem? (i := 19) rfl)))) (mvT hZ (hw _ (List.mem_of_getElem? (i := 19) rfl))) (mvT hZ (hw _ (List.mem_of_getElem? (i := 18) rfl))) (by decide) (backOf (W := 0) (rm_icR l Z a0 hw [] a8 rr8 T8.heap n0 Zs8 Fa8) hZ (hw _ (List.mem_of_getElem? (i := 20) rfl)) (hw _ (List.mem_of_getElem? (i := 5) rfl)) (by decide) (by decide)) zq9a zq9c (g := (mkF m 175 #[.val (.int p0), .val (.int p1), .val (.int p2), .val (.int p3), .val (.int p4), .val (.int p5), .val (.ref aK), s7, .val (.ref a8), .val (.int (3 : Int32)), .val (.ref b1), .val (.ref b3), .unset, .unset] [(.ref a8)])) rfl (by rw [hml]; rfl) (Steps.refl _) (argsL := []) (rest := []) (lenOf pd_12 rfl) rfl (by show 2 * 0 + _ ≤ _; exact Nat.le_of_eq rfl) (hb hby at_175) (fun _ _ => ⟨rfl, rfl, (by decide : 3 + 1 + 0 + 1 + 0 + 1 + 0 + 0 + 3 + 0 ≤ _), (by decide : 10 + 4 + 0 + 3 + 0 + 10 + 0 + 0 + 8 + 0 ≤ _)⟩)
  dsimp only [Pt.U, Pt.locs, Pt.cells, Pt.slots] at X9 l9 y9 z9 st9 hQ9
  subst l9 y9 z9
  obtain ⟨rfl, N9q, e9⟩ := hQ9
  have N9 := Fr.app N8 N9q
  refine own_goS st9 ?_
  show own_Goes _ _ _ _ _ _ _ T9 (mkF m 178 #[.val (.int p0), .val (.int p1), .val (.int p2), .val (.int p3), .val (.int p4), .val (.int p5), .val (.ref aK), s7, .val (.ref a8), .val (.int (3 : Int32)), .val (.ref b1), .val (.ref b3), .unset, .unset] [(.int (1 : Int32))])
  refine own_go (fun _ k => XS.istore X9.here hx rfl (hb hby at_178) rfl (l' := #[.val (.int p0), .val (.int p1), .val (.int p2), .val (.int p3), .val (.int p4), .val (.int p5), .val (.ref aK), s7, .val (.ref a8), .val (.int (3 : Int32)), .val (.ref b1), .val (.ref b3), .val (.int (1 : Int32)), .unset]) rfl k) ?_
  show own_Goes _ _ _ _ _ _ _ T9 (mkF m 180 #[.val (.int p0), .val (.int p1), .val (.int p2), .val (.int p3), .val (.int p4), .val (.int p5), .val (.ref aK), s7, .val (.ref a8), .val (.int (3 : Int32)), .val (.ref b1), .val (.ref b3), .val (.int (1 : Int32)), .unset] [])
  refine own_go (fun _ k => XS.aload X9.here hx rfl (hb hby at_180) rfl rfl k) ?_
  show own_Goes _ _ _ _ _ _ _ T9 (mkF m 182 #[.val (.int p0), .val (.int p1), .val (.int p2), .val (.int p3), .val (.int p4), .val (.int p5), .val (.ref aK), s7, .val (.ref a8), .val (.int (3 : Int32)), .val (.ref b1), .val (.ref b3), .val (.int (1 : Int32)), .unset] [(.ref a8)])
  obtain ⟨cq10, kq10, zq10a, zq10b, zq10c⟩ := isOf hZ e9 E_a8_8
  obtain ⟨_, _, ⟨T10, L10, k10, n10⟩, -, X10, ⟨Lc10, hQ10, l10, y10, z10⟩, st10⟩ := X9.virtualBack hx (y := (⟨"com/example/treellis/treellis/cfa/StructType", "isComplete", "()Z"⟩ : MethodName)) (z := (⟨"com/example/treellis/treellis/cfa/StructType", "isComplete", "()Z"⟩ : MethodName)) hown (mvT hZ (hw _ (List.mem_of_getElem? (i := 16) rfl))) (mvT hZ (hw _ (List.mem_of_getElem? (i := 17) rfl))) (notFace_of_selects (args := #[]) (mvT hZ (hw _ (List.mem_of_getElem? (i := 19) rfl)))) (mvT hZ (hw _ (List.mem_of_getElem? (i := 19) rfl))) (mvT hZ (hw _ (List.mem_of_getElem? (i := 18) rfl))) (by decide) (backOf (W := 0) (rm_icR l Z a0 hw [] a8 rr8 T8.heap n0 Zs8 Fa8) hZ (hw _ (List.mem_of_getElem? (i := 20) rfl)) (hw _ (List.mem_of_getElem? (i := 5) rfl)) (by decide) (by decide)) zq10a zq10c (g := (mkF m 182 #[.val (.int p0), .val (.int p1), .val (.int p2), .val (.int p3), .val (.int p4), .val (.int p5), .val (.ref aK), s7, .val (.ref a8), .val (.int (3 : Int32)), .val (.ref b1), .val (.ref b3), .val (.int (1 : Int32)), .unset] [(.ref a8)])) rfl (by rw [hml]; rfl) (Steps.refl _) (argsL := []) (rest := []) (lenOf pd_12 rfl) rfl (by show 2 * 0 + _ ≤ _; exact Nat.le_of_eq rfl) (hb hby at_182) (fun _ _ => ⟨rfl, e9, (by decide : 3 + 1 + 0 + 1 + 0 + 1 + 0 + 0 + 3 + 0 + 0 ≤ _), (by decide : 10 + 4 + 0 + 3 + 0 + 10 + 0 + 0 + 8 + 0 + 0 ≤ _)⟩)
  dsimp only [Pt.U, Pt.locs, Pt.cells, Pt.slots] at X10 l10 y10 z10 st10 hQ10
  subst l10 y10 z10
  obtain ⟨rfl, N10q, e10⟩ := hQ10
  have N10 := Fr.app N9 N10q
  refine own_goS st10 ?_
  show own_Goes _ _ _ _ _ _ _ T10 (mkF m 185 #[.val (.int p0), .val (.int p1), .val (.int p2), .val (.int p3), .val (.int p4), .val (.int p5), .val (.ref aK), s7, .val (.ref a8), .val (.int (3 : Int32)), .val (.ref b1), .val (.ref b3), .val (.int (1 : Int32)), .unset] [(.int (1 : Int32))])
  refine own_go (fun _ k => XS.istore X10.here hx rfl (hb hby at_185) rfl (l' := #[.val (.int p0), .val (.int p1), .val (.int p2), .val (.int p3), .val (.int p4), .val (.int p5), .val (.ref aK), s7, .val (.ref a8), .val (.int (3 : Int32)), .val (.ref b1), .val (.ref b3), .val (.int (1 : Int32)), .val (.int (1 : Int32))]) rfl k) ?_
  show own_Goes _ _ _ _ _ _ _ T10 (mkF m 187 #[.val (.int p0), .val (.int p1), .val (.int p2), .val (.int p3), .val (.int p4), .val (.int p5), .val (.ref aK), s7, .val (.ref a8), .val (.int (3 : Int32)), .val (.ref b1), .val (.ref b3), .val (.int (1 : Int32)), .val (.int (1 : Int32))] [])
  refine own_go (fun _ k => XS.iload X10.here hx rfl (hb hby at_187) rfl k) ?_
  show own_Goes _ _ _ _ _ _ _ T10 (mkF m 189 #[.val (.int p0), .val (.int p1), .val (.int p2), .val (.int p3), .val (.int p4), .val (.int p5), .val (.ref aK), s7, .val (.ref a8), .val (.int (3 : Int32)), .val (.ref b1), .val (.ref b3), .val (.int (1 : Int32)), .val (.int (1 : Int32))] [(.int (1 : Int32))])
  refine own_go (fun _ k => XS.ifNo X10.here hx rfl (hb hby at_189) rfl ((if0 _ _).trans (feq (by decide : ¬ ((1 : Int32) = (0 : Int32)))).1) k) ?_
  show own_Goes _ _ _ _ _ _ _ T10 (mkF m 192 #[.val (.int p0), .val (.int p1), .val (.int p2), .val (.int p3), .val (.int p4), .val (.int p5), .val (.ref aK), s7, .val (.ref a8), .val (.int (3 : Int32)), .val (.ref b1), .val (.ref b3), .val (.int (1 : Int32)), .val (.int (1 : Int32))] [])
  refine own_go (fun _ k => XS.iload X10.here hx rfl (hb hby at_192) rfl k) ?_
  show own_Goes _ _ _ _ _ _ _ T10 (mkF m 194 #[.val (.int p0), .val (.int p1), .val (.int p2), .val (.int p3), .val (.int p4), .val (.int p5), .val (.ref aK), s7, .val (.ref a8), .val (.int (3 : Int32)), .val (.ref b1), .val (.ref b3), .val (.int (1 : Int32)), .val (.int (1 : Int32))] [(.int (1 : Int32))])
  refine own_go (fun _ k => XS.ifNo X10.here hx rfl (hb hby at_194) rfl ((if0 _ _).trans (feq (by decide : ¬ ((1 : Int32) = (0 : Int32)))).1) k) ?_
  show own_Goes _ _ _ _ _ _ _ T10 (mkF m 197 #[.val (.int p0), .val (.int p1), .val (.int p2), .val (.int p3), .val (.int p4), .val (.int p5), .val (.ref aK), s7, .val (.ref a8), .val (.int (3 : Int32)), .val (.ref b1), .val (.ref b3), .val (.int (1 : Int32)), .val (.int (1 : Int32))] [])
  refine own_go (fun _ k => XS.aload X10.here hx rfl (hb hby at_197) rfl rfl k) ?_
  show own_Goes _ _ _ _ _ _ _ T10 (mkF m 199 #[.val (.int p0), .val (.int p1), .val (.int p2), .val (.int p3), .val (.int p4), .val (.int p5), .val (.ref aK), s7, .val (.ref a8), .val (.int (3 : Int32)), .val (.ref b1), .val (.ref b3), .val (.int (1 : Int32)), .val (.int (1 : Int32))] [(.ref a8)])
  obtain ⟨cq11, kq11, zq11a, zq11b, zq11c⟩ := isOf hZ e10 E_a8_8
  obtain ⟨_, _, ⟨T11, L11, k11, n11⟩, -, X11, ⟨Lc11, hQ11, l11, y11, z11⟩, st11⟩ := X10.virtualBack hx (y := (⟨"com/example/treellis/treellis/cfa/StructType", "members", "()Ljava/util/List;"⟩ : MethodName)) (z := (⟨"com/example/treellis/treellis/cfa/StructType", "members", "()Ljava/util/List;"⟩ : MethodName)) hown (mvT hZ (hw _ (List.mem_of_getElem? (i := 23) rfl))) (mvT hZ (hw _ (List.mem_of_getElem? (i := 24) rfl))) (notFace_of_selects (args := #[]) (mvT hZ (hw _ (List.mem_of_getElem? (i := 26) rfl)))) (mvT hZ (hw _ (List.mem_of_getElem? (i := 26) rfl))) (mvT hZ (hw _ (List.mem_of_getElem? (i := 25) rfl))) (by decide) (backOf (W := 0) (rm_mbR l Z a0 hw [] a8 rr8 T8.heap n0 Zs8 Fa8) hZ (hw _ (List.mem_of_getElem? (i := 27) rfl)) (hw _ (List.mem_of_getElem? (i := 5) rfl)) (by decide) (by decide)) zq11a zq11c (g := (mkF m 199 #[.val (.int p0), .val (.int p1), .val (.int p2), .val (.int p3), .val (.int p4), .val (.int p5), .val (.ref aK), s7, .val (.ref a8), .val (.int (3 : Int32)), .val (.ref b1), .val (.ref b3), .val (.int (1 : Int32)), .val (.int (1 : Int32))] [(.ref a8)])) rfl (by rw [hml]; rfl) (Steps.refl _) (argsL := []) (rest := []) (lenOf pd_13 rfl) rfl (by show 2 * 0 + _ ≤ _; exact Nat.le_of_eq rfl) (hb hby at_199) (fun _ _ => ⟨rfl, e10, (by decide : 3 + 1 + 0 + 1 + 0 + 1 + 0 + 0 + 3 + 0 + 0 + 0 ≤ _), (by decide : 10 + 4 + 0 + 3 + 0 + 10 + 0 + 0 + 8 + 0 + 0 + 0 ≤ _)⟩)
  dsimp only [Pt.U, Pt.locs, Pt.cells, Pt.slots] at X11 l11 y11 z11 st11 hQ11
  subst l11 y11 z11
  obtain ⟨rfl, N11q, e11⟩ := hQ11
  have N11 := Fr.app N10 N11q
  refine own_goS st11 ?_
  show own_Goes _ _ _ _ _ _ _ T11 (mkF m 202 #[.val (.int p0), .val (.int p1), .val (.int p2), .val (.int p3), .val (.int p4), .val (.int p5), .val (.ref aK), s7, .val (.ref a8), .val (.int (3 : Int32)), .val (.ref b1), .val (.ref b3), .val (.int (1 : Int32)), .val (.int (1 : Int32))] [(.ref rr8)])
  refine own_go (fun _ k => XS.ifnullNo X11.here hx rfl (hb hby at_202) rfl k) ?_
  show own_Goes _ _ _ _ _ _ _ T11 (mkF m 205 #[.val (.int p0), .val (.int p1), .val (.int p2), .val (.int p3), .val (.int p4), .val (.int p5), .val (.ref aK), s7, .val (.ref a8), .val (.int (3 : Int32)), .val (.ref b1), .val (.ref b3), .val (.int (1 : Int32)), .val (.int (1 : Int32))] [])
  refine own_go (fun _ k => XS.aload X11.here hx rfl (hb hby at_205) rfl rfl k) ?_
  show own_Goes _ _ _ _ _ _ _ T11 (mkF m 207 #[.val (.int p0), .val (.int p1), .val (.int p2), .val (.int p3), .val (.int p4), .val (.int p5), .val (.ref aK), s7, .val (.ref a8), .val (.int (3 : Int32)), .val (.ref b1), .val (.ref b3), .val (.int (1 : Int32)), .val (.int (1 : Int32))] [(.ref a8)])
  obtain ⟨cq12, kq12, zq12a, zq12b, zq12c⟩ := isOf hZ e11 E_a8_8
  obtain ⟨_, _, ⟨T12, L12, k12, n12⟩, -, X12, ⟨Lc12, hQ12, l12, y12, z12⟩, st12⟩ := X11.virtualBack hx (y := (⟨"com/example/treellis/treellis/cfa/StructType", "members", "()Ljava/util/List;"⟩ : MethodName)) (z := (⟨"com/example/treellis/treellis/cfa/StructType", "members", "()Ljava/util/List;"⟩ : MethodName)) hown (mvT hZ (hw _ (List.mem_of_getElem? (i := 23) rfl))) (mvT hZ (hw _ (List.mem_of_getElem? (i := 24) rfl))) (notFace_of_selects (args := #[]) (mvT hZ (hw _ (List.mem_of_getElem? (i := 26) rfl)))) (mvT hZ (hw _ (List.mem_of_getElem? (i := 26) rfl))) (mvT hZ (hw _ (List.mem_of_getElem? (i := 25) rfl))) (by decide) (backOf (W := 0) (rm_mbR l Z a0 hw [] a8 rr8 T8.heap n0 Zs8 Fa8) hZ (hw _ (List.mem_of_getElem? (i := 27) rfl)) (hw _ (List.mem_of_getElem? (i := 5) rfl)) (by decide) (by decide)) zq12a zq12c (g := (mkF m 207 #[.val (.int p0), .val (.int p1), .val (.int p2), .val (.int p3), .val (.int p4), .val (.int p5), .val (.ref aK), s7, .val (.ref a8), .val (.int (3 : Int32)), .val (.ref b1), .val (.ref b3), .val (.int (1 : Int32)), .val (.int (1 : Int32))] [(.ref a8)])) rfl (by rw [hml]; rfl) (Steps.refl _) (argsL := []) (rest := []) (lenOf pd_13 rfl) rfl (by show 2 * 0 + _ ≤ _; exact Nat.le_of_eq rfl) (hb hby at_207) (fun _ _ => ⟨rfl, e11, (by decide : 3 + 1 + 0 + 1 + 0 + 1 + 0 + 0 + 3 + 0 + 0 + 0 + 0 ≤ _), (by decide : 10 + 4 + 0 + 3 + 0 + 10 + 0 + 0 + 8 + 0 + 0 + 0 + 0 ≤ _)⟩)
  dsimp only [Pt.U, Pt.locs, Pt.cells, Pt.slots] at X12 l12 y12 z12 st12 hQ12
  subst l12 y12 z12
  obtain ⟨rfl, N12q, e12⟩ := hQ12
  have N12 := Fr.app N11 N12q
  refine own_goS st12 ?_
  show own_Goes _ _ _ _ _ _ _ T12 (mkF m 210 #[.val (.int p0), .val (.int p1), .val (.int p2), .val (.int p3), .val (.int p4), .val (.int p5), .val (.ref aK), s7, .val (.ref a8), .val (.int (3 : Int32)), .val (.ref b1), .val (.ref b3), .val (.int (1 : Int32)), .val (.int (1 : Int32))] [(.ref rr8)])
  obtain ⟨cc, Ac, -, Sc, Mc, -⟩ := id Ve8
  obtain ⟨cq13, kq13, zq13a, zq13b, zq13c⟩ := isOf hZ e12 Ex8
  obtain ⟨_, _, ⟨T13, L13, k13, n13⟩, -, X13, ⟨Lc13, hQ13, l13, y13, z13⟩, st13⟩ := X12.interfaceBack hx (xi := (⟨"java/util/List", "size", "()I"⟩ : MethodName)) (y := (⟨"java/util/ImmutableCollections$ListN", "size", "()I"⟩ : MethodName)) hown (mvT hZ (hw _ (List.mem_of_getElem? (i := 192) rfl))) (mvT hZ (hw _ (List.mem_of_getElem? (i := 193) rfl))) (mvT hZ (hw _ (List.mem_of_getElem? (i := 194) rfl))) (mvT hZ (hw _ (List.mem_of_getElem? (i := 260) rfl))) (mvT hZ (hw _ (List.mem_of_getElem? (i := 261) rfl))) (mvT hZ (hw _ (List.mem_of_getElem? (i := 262) rfl))) (mvT hZ (hw _ (List.mem_of_getElem? (i := 263) rfl))) (mvT hZ (hw _ (List.mem_of_getElem? (i := 264) rfl))) (by decide) (backOf (W := 0) (rm_sN l Z a0 hw [] rr8 ee8 cc (3 : Int32) T8.heap n0 Zs8 Fd8 Ac (len_of Sc Mc)) hZ (hw _ (List.mem_of_getElem? (i := 265) rfl)) (hw _ (List.mem_of_getElem? (i := 247) rfl)) (by decide) (by decide)) zq13a zq13b zq13c (g := (mkF m 210 #[.val (.int p0), .val (.int p1), .val (.int p2), .val (.int p3), .val (.int p4), .val (.int p5), .val (.ref aK), s7, .val (.ref a8), .val (.int (3 : Int32)), .val (.ref b1), .val (.ref b3), .val (.int (1 : Int32)), .val (.int (1 : Int32))] [(.ref rr8)])) rfl (by rw [hml]; rfl) (Steps.refl _) (argsL := []) (rest := []) (lenOf pd_20 rfl) rfl (by show 2 * 0 + _ ≤ _; exact Nat.le_of_eq rfl) (hb hby at_210) (fun _ _ => ⟨rfl, e12, (by decide : 3 + 1 + 0 + 1 + 0 + 1 + 0 + 0 + 3 + 0 + 0 + 0 + 0 + 0 ≤ _), (by decide : 10 + 4 + 0 + 3 + 0 + 10 + 0 + 0 + 8 + 0 + 0 + 0 + 0 + 0 ≤ _)⟩)
  dsimp only [Pt.U, Pt.locs, Pt.cells, Pt.slots] at X13 l13 y13 z13 st13 hQ13
  subst l13 y13 z13
  obtain ⟨rfl, N13q, e13⟩ := hQ13
  have N13 := Fr.app N12 N13q
  refine own_goS st13 ?_
  show own_Goes _ _ _ _ _ _ _ T13 (mkF m 215 #[.val (.int p0), .val (.int p1), .val (.int p2), .val (.int p3), .val (.int p4), .val (.int p5), .val (.ref aK), s7, .val (.ref a8), .val (.int (3 : Int32)), .val (.ref b1), .val (.ref b3), .val (.int (1 : Int32)), .val (.int (1 : Int32))] [(.int (3 : Int32))])
  refine own_go (fun _ k => XS.iload X13.here hx rfl (hb hby at_215) rfl k) ?_
  show own_Goes _ _ _ _ _ _ _ T13 (mkF m 217 #[.val (.int p0), .val (.int p1), .val (.int p2), .val (.int p3), .val (.int p4), .val (.int p5), .val (.ref aK), s7, .val (.ref a8), .val (.int (3 : Int32)), .val (.ref b1), .val (.ref b3), .val (.int (1 : Int32)), .val (.int (1 : Int32))] [(.int (3 : Int32)), (.int (3 : Int32))])
  refine own_go (fun _ k => XS.icmpNo X13.here hx rfl (hb hby at_217) rfl (teq (by decide : (3 : Int32) = (3 : Int32))).2 k) ?_
  show own_Goes _ _ _ _ _ _ _ T13 (mkF m 220 #[.val (.int p0), .val (.int p1), .val (.int p2), .val (.int p3), .val (.int p4), .val (.int p5), .val (.ref aK), s7, .val (.ref a8), .val (.int (3 : Int32)), .val (.ref b1), .val (.ref b3), .val (.int (1 : Int32)), .val (.int (1 : Int32))] [])
  refine own_go (fun _ k => XS.aload X13.here hx rfl (hb hby at_220) rfl rfl k) ?_
  show own_Goes _ _ _ _ _ _ _ T13 (mkF m 222 #[.val (.int p0), .val (.int p1), .val (.int p2), .val (.int p3), .val (.int p4), .val (.int p5), .val (.ref aK), s7, .val (.ref a8), .val (.int (3 : Int32)), .val (.ref b1), .val (.ref b3), .val (.int (1 : Int32)), .val (.int (1 : Int32))] [(.ref a8)])
  obtain ⟨cq14, kq14, zq14a, zq14b, zq14c⟩ := isOf hZ e13 E_a8_8
  obtain ⟨_, _, ⟨T14, L14, k14, n14⟩, -, X14, ⟨Lc14, hQ14, l14, y14, z14⟩, st14⟩ := X13.virtualBack hx (y := (⟨"com/example/treellis/treellis/cfa/StructType", "packing", "()I"⟩ : MethodName)) (z := (⟨"com/example/treellis/treellis/cfa/StructType", "packing", "()I"⟩ : MethodName)) hown (mvT hZ (hw _ (List.mem_of_getElem? (i := 202) rfl))) (mvT hZ (hw _ (List.mem_of_getElem? (i := 203) rfl))) (notFace_of_selects (args := #[]) (mvT hZ (hw _ (List.mem_of_getElem? (i := 205) rfl)))) (mvT hZ (hw _ (List.mem_of_getElem? (i := 205) rfl))) (mvT hZ (hw _ (List.mem_of_getElem? (i := 204) rfl))) (by decide) (backOf (W := 0) (rm_packing l Z a0 hw [] a8 p3 T8.heap n0 Zs8 Fb8) hZ (hw _ (List.mem_of_getElem? (i := 206) rfl)) (hw _ (List.mem_of_getElem? (i := 5) rfl)) (by decide) (by decide)) zq14a zq14c (g := (mkF m 222 #[.val (.int p0), .val (.int p1), .val (.int p2), .val (.int p3), .val (.int p4), .val (.int p5), .val (.ref aK), s7, .val (.ref a8), .val (.int (3 : Int32)), .val (.ref b1), .val (.ref b3), .val (.int (1 : Int32)), .val (.int (1 : Int32))] [(.ref a8)])) rfl (by rw [hml]; rfl) (Steps.refl _) (argsL := []) (rest := []) (lenOf pd_20 rfl) rfl (by show 2 * 0 + _ ≤ _; exact Nat.le_of_eq rfl) (hb hby at_222) (fun _ _ => ⟨rfl, e13, (by decide : 3 + 1 + 0 + 1 + 0 + 1 + 0 + 0 + 3 + 0 + 0 + 0 + 0 + 0 + 0 ≤ _), (by decide : 10 + 4 + 0 + 3 + 0 + 10 + 0 + 0 + 8 + 0 + 0 + 0 + 0 + 0 + 0 ≤ _)⟩)
  dsimp only [Pt.U, Pt.locs, Pt.cells, Pt.slots] at X14 l14 y14 z14 st14 hQ14
  subst l14 y14 z14
  obtain ⟨rfl, N14q, e14⟩ := hQ14
  have N14 := Fr.app N13 N14q
  refine own_goS st14 ?_
  show own_Goes _ _ _ _ _ _ _ T14 (mkF m 225 #[.val (.int p0), .val (.int p1), .val (.int p2), .val (.int p3), .val (.int p4), .val (.int p5), .val (.ref aK), s7, .val (.ref a8), .val (.int (3 : Int32)), .val (.ref b1), .val (.ref b3), .val (.int (1 : Int32)), .val (.int (1 : Int32))] [(.int p3)])
  refine own_go (fun _ k => XS.iloadN X14.here hx rfl (hb hby at_225) rfl k) ?_
  show own_Goes _ _ _ _ _ _ _ T14 (mkF m 226 #[.val (.int p0), .val (.int p1), .val (.int p2), .val (.int p3), .val (.int p4), .val (.int p5), .val (.ref aK), s7, .val (.ref a8), .val (.int (3 : Int32)), .val (.ref b1), .val (.ref b3), .val (.int (1 : Int32)), .val (.int (1 : Int32))] [(.int p3), (.int p3)])
  refine own_go (fun _ k => XS.icmpNo X14.here hx rfl (hb hby at_226) rfl (teq rfl).2 k) ?_
  show own_Goes _ _ _ _ _ _ _ T14 (mkF m 229 #[.val (.int p0), .val (.int p1), .val (.int p2), .val (.int p3), .val (.int p4), .val (.int p5), .val (.ref aK), s7, .val (.ref a8), .val (.int (3 : Int32)), .val (.ref b1), .val (.ref b3), .val (.int (1 : Int32)), .val (.int (1 : Int32))] [])
  refine own_go (fun _ k => XS.aload X14.here hx rfl (hb hby at_229) rfl rfl k) ?_
  show own_Goes _ _ _ _ _ _ _ T14 (mkF m 231 #[.val (.int p0), .val (.int p1), .val (.int p2), .val (.int p3), .val (.int p4), .val (.int p5), .val (.ref aK), s7, .val (.ref a8), .val (.int (3 : Int32)), .val (.ref b1), .val (.ref b3), .val (.int (1 : Int32)), .val (.int (1 : Int32))] [(.ref a8)])
  obtain ⟨cq15, kq15, zq15a, zq15b, zq15c⟩ := isOf hZ e14 E_a8_8
  obtain ⟨_, _, ⟨T15, L15, k15, n15⟩, -, X15, ⟨Lc15, hQ15, l15, y15, z15⟩, st15⟩ := X14.virtualBack hx (y := (⟨"com/example/treellis/treellis/cfa/StructType", "alignment", "()I"⟩ : MethodName)) (z := (⟨"com/example/treellis/treellis/cfa/StructType", "alignment", "()I"⟩ : MethodName)) hown (mvT hZ (hw _ (List.mem_of_getElem? (i := 207) rfl))) (mvT hZ (hw _ (List.mem_of_getElem? (i := 208) rfl))) (notFace_of_selects (args := #[]) (mvT hZ (hw _ (List.mem_of_getElem? (i := 210) rfl)))) (mvT hZ (hw _ (List.mem_of_getElem? (i := 210) rfl))) (mvT hZ (hw _ (List.mem_of_getElem? (i := 209) rfl))) (by decide) (backOf (W := 0) (rm_alignment l Z a0 hw [] a8 p4 T8.heap n0 Zs8 Fc8) hZ (hw _ (List.mem_of_getElem? (i := 211) rfl)) (hw _ (List.mem_of_getElem? (i := 5) rfl)) (by decide) (by decide)) zq15a zq15c (g := (mkF m 231 #[.val (.int p0), .val (.int p1), .val (.int p2), .val (.int p3), .val (.int p4), .val (.int p5), .val (.ref aK), s7, .val (.ref a8), .val (.int (3 : Int32)), .val (.ref b1), .val (.ref b3), .val (.int (1 : Int32)), .val (.int (1 : Int32))] [(.ref a8)])) rfl (by rw [hml]; rfl) (Steps.refl _) (argsL := []) (rest := []) (lenOf pd_20 rfl) rfl (by show 2 * 0 + _ ≤ _; exact Nat.le_of_eq rfl) (hb hby at_231) (fun _ _ => ⟨rfl, e14, (by decide : 3 + 1 + 0 + 1 + 0 + 1 + 0 + 0 + 3 + 0 + 0 + 0 + 0 + 0 + 0 + 0 ≤ _), (by decide : 10 + 4 + 0 + 3 + 0 + 10 + 0 + 0 + 8 + 0 + 0 + 0 + 0 + 0 + 0 + 0 ≤ _)⟩)
  dsimp only [Pt.U, Pt.locs, Pt.cells, Pt.slots] at X15 l15 y15 z15 st15 hQ15
  subst l15 y15 z15
  obtain ⟨rfl, N15q, e15⟩ := hQ15
  have N15 := Fr.app N14 N15q
  refine own_goS st15 ?_
  show own_Goes _ _ _ _ _ _ _ T15 (mkF m 234 #[.val (.int p0), .val (.int p1), .val (.int p2), .val (.int p3), .val (.int p4), .val (.int p5), .val (.ref aK), s7, .val (.ref a8), .val (.int (3 : Int32)), .val (.ref b1), .val (.ref b3), .val (.int (1 : Int32)), .val (.int (1 : Int32))] [(.int p4)])
  refine own_go (fun _ k => XS.iload X15.here hx rfl (hb hby at_234) rfl k) ?_
  show own_Goes _ _ _ _ _ _ _ T15 (mkF m 236 #[.val (.int p0), .val (.int p1), .val (.int p2), .val (.int p3), .val (.int p4), .val (.int p5), .val (.ref aK), s7, .val (.ref a8), .val (.int (3 : Int32)), .val (.ref b1), .val (.ref b3), .val (.int (1 : Int32)), .val (.int (1 : Int32))] [(.int p4), (.int p4)])
  refine own_go (fun _ k => XS.icmpNo X15.here hx rfl (hb hby at_236) rfl (teq rfl).2 k) ?_
  show own_Goes _ _ _ _ _ _ _ T15 (mkF m 239 #[.val (.int p0), .val (.int p1), .val (.int p2), .val (.int p3), .val (.int p4), .val (.int p5), .val (.ref aK), s7, .val (.ref a8), .val (.int (3 : Int32)), .val (.ref b1), .val (.ref b3), .val (.int (1 : Int32)), .val (.int (1 : Int32))] [])
  refine own_go (fun _ k => XS.iconst X15.here hx rfl (hb hby at_239) k) ?_
  show own_Goes _ _ _ _ _ _ _ T15 (mkF m 240 #[.val (.int p0), .val (.int p1), .val (.int p2), .val (.int p3), .val (.int p4), .val (.int p5), .val (.ref aK), s7, .val (.ref a8), .val (.int (3 : Int32)), .val (.ref b1), .val (.ref b3), .val (.int (1 : Int32)), .val (.int (1 : Int32))] [(.int (1 : Int32))])
  refine own_go (fun _ k => XS.goto X15.here hx rfl (pc0 := 240) (pc' := 244) rfl (hb hby at_240) (by decide) (by decide) k) ?_
  show own_Goes _ _ _ _ _ _ _ T15 (mkF m 244 #[.val (.int p0), .val (.int p1), .val (.int p2), .val (.int p3), .val (.int p4), .val (.int p5), .val (.ref aK), s7, .val (.ref a8), .val (.int (3 : Int32)), .val (.ref b1), .val (.ref b3), .val (.int (1 : Int32)), .val (.int (1 : Int32))] [(.int (1 : Int32))])
  exact own_retN X15 hx (t := .boolean) hlk hret (by simp) (hb hby at_244) (by decide) (by decide) ⟨rfl, N15⟩
set_option maxRecDepth 65536 in
set_option maxHeartbeats 40000000 in
theorem seg52 {p : Program} {l : Launch} {e : Env} {s : State} {m : MethodId} {args : Array Value} {below : List Frame} {meth : Method} {c : Code} {s₁ : State} {locs : List Loc} {Z : State} {a0 : Array Value} {h0 : Heap} (p0 p1 p2 p3 p4 p5 : Int32) (aK a8 : Addr) (s7 : Slot) (aD aE aL aM aX : Addr) (cD cX : Cell)
    (hw : ∀ d ∈ tables_1, d.before a0 Z = true) (C : own_Ctx Z x "com/example/treellis/treellis/cfa/StructTypeIsCompletePinLaw" code maxLocals ret p s m meth c) (X0 : Stand p l e room_1 s m args below meth c s₁ locs 3 10) (e0 : s₁.heap = h0) (n0 : Nat) (Z0 : n0 ≤ h0.size) (N0 : Fr n0 locs) (SD : Sta Z Z.heap "java/util/ArrayList" "DEFAULTCAPACITY_EMPTY_ELEMENTDATA" "[Ljava/lang/Object;" (.ref aD)) (AD : Arr Z Z.heap aD cD (.object "java/lang/Object")) (zD : cD.slots.size = 0) (SE : Sta Z Z.heap "java/util/ImmutableCollections" "EMPTY" "Ljava/lang/Object;" (.ref aE)) (SL : Sta Z Z.heap "java/util/ImmutableCollections" "EMPTY_LIST" "Ljava/util/ImmutableCollections$ListN;" (.ref aL)) (MM : Mir Z "[Ljava/lang/Object;" aM) (hEx : Exa Z Z.heap aE "java/lang/Object") (EL : Exa Z Z.heap aL "java/util/ImmutableCollections$ListN") (FL : Fld Z Z.heap aL "java/util/ImmutableCollections$ListN" "elements" "[Ljava/lang/Object;" (.ref aX)) (AX : Arr Z Z.heap aX cX (.object "java/lang/Object")) (zX : cX.slots.size.toInt32 = (0 : Int32)) (Od0 : Old Z n0 h0) (E_a8 : Exa Z h0 a8 "com/example/treellis/treellis/cfa/StructType") (F_mb : Fld Z h0 a8 "com/example/treellis/treellis/cfa/StructType" "members" "Ljava/util/List;" .null) (F_pk : Fld Z h0 a8 "com/example/treellis/treellis/cfa/StructType" "packing" "I" (.int (0 : Int32))) (F_ag : Fld Z h0 a8 "com/example/treellis/treellis/cfa/StructType" "alignment" "I" (.int (0 : Int32))) (lo_a8 : n0 ≤ a8) :
    own_Goes p e below s (fun v h L => v = some (.int 1) ∧ Fr n0 L) room_1.cells room_1.slots s₁ (mkF m 52 #[.val (.int p0), .val (.int p1), .val (.int p2), .val (.int p3), .val (.int p4), .val (.int p5), .val (.ref aK), s7, .val (.ref a8), .unset, .unset, .unset, .unset, .unset] []) := by
  obtain ⟨hx, hby, hml, hown, hnm, hret, hlk, hZ⟩ := C
  refine own_go (fun _ k => XS.aload X0.here hx rfl (hb hby at_52) rfl rfl k) ?_
  show own_Goes _ _ _ _ _ _ _ s₁ (mkF m 54 #[.val (.int p0), .val (.int p1), .val (.int p2), .val (.int p3), .val (.int p4), .val (.int p5), .val (.ref aK), s7, .val (.ref a8), .unset, .unset, .unset, .unset, .unset] [(.ref a8)])
  obtain ⟨cq1, kq1, zq1a, zq1b, zq1c⟩ := isOf hZ e0 E_a8
  obtain ⟨_, _, ⟨T1, L1, k1, n1⟩, -, X1, ⟨Lc1, hQ1, l1, y1, z1⟩, st1⟩ := X0.virtualBack hx (y := (⟨"com/example/treellis/treellis/cfa/StructType", "isComplete", "()Z"⟩ : MethodName)) (z := (⟨"com/example/treellis/treellis/cfa/StructType", "isComplete", "()Z"⟩ : MethodName)) hown (mvT hZ (hw _ (List.mem_of_getElem? (i := 16) rfl))) (mvT hZ (hw _ (List.mem_of_getElem? (i := 17) rfl))) (notFace_of_selects (args := #[]) (mvT hZ (hw _ (List.mem_of_getElem? (i := 19) rfl)))) (mvT hZ (hw _ (List.mem_of_getElem? (i := 19) rfl))) (mvT hZ (hw _ (List.mem_of_getElem? (i := 18) rfl))) (by decide) (backOf (W := 0) (rm_icN l Z a0 hw [] a8 a8 h0 n0 Z0 F_mb) hZ (hw _ (List.mem_of_getElem? (i := 20) rfl)) (hw _ (List.mem_of_getElem? (i := 5) rfl)) (by decide) (by decide)) zq1a zq1c (g := (mkF m 54 #[.val (.int p0), .val (.int p1), .val (.int p2), .val (.int p3), .val (.int p4), .val (.int p5), .val (.ref aK), s7, .val (.ref a8), .unset, .unset, .unset, .unset, .unset] [(.ref a8)])) rfl (by rw [hml]; rfl) (Steps.refl _) (argsL := []) (rest := []) (lenOf pd_12 rfl) rfl (by show 2 * 0 + _ ≤ _; exact Nat.le_of_eq rfl) (hb hby at_54) (fun _ _ => ⟨rfl, e0, (by decide : 3 + 0 ≤ _), (by decide : 10 + 0 ≤ _)⟩)
  dsimp only [Pt.U, Pt.locs, Pt.cells, Pt.slots] at X1 l1 y1 z1 st1 hQ1
  subst l1 y1 z1
  obtain ⟨rfl, N1q, e1⟩ := hQ1
  have N1 := Fr.app N0 N1q
  refine own_goS st1 ?_
  show own_Goes _ _ _ _ _ _ _ T1 (mkF m 57 #[.val (.int p0), .val (.int p1), .val (.int p2), .val (.int p3), .val (.int p4), .val (.int p5), .val (.ref aK), s7, .val (.ref a8), .unset, .unset, .unset, .unset, .unset] [(.int (0 : Int32))])
  refine own_go (fun _ k => XS.ifYes X1.here hx rfl (pc0 := 57) (pc' := 62) rfl (hb hby at_57) rfl ((if0 _ _).trans (teq (by decide : (0 : Int32) = (0 : Int32))).1) (by decide) (by decide) k) ?_
  show own_Goes _ _ _ _ _ _ _ T1 (mkF m 62 #[.val (.int p0), .val (.int p1), .val (.int p2), .val (.int p3), .val (.int p4), .val (.int p5), .val (.ref aK), s7, .val (.ref a8), .unset, .unset, .unset, .unset, .unset] [])
  refine own_go (fun _ k => XS.aload X1.here hx rfl (hb hby at_62) rfl rfl k) ?_
  show own_Goes _ _ _ _ _ _ _ T1 (mkF m 64 #[.val (.int p0), .val (.int p1), .val (.int p2), .val (.int p3), .val (.int p4), .val (.int p5), .val (.ref aK), s7, .val (.ref a8), .unset, .unset, .unset, .unset, .unset] [(.ref a8)])
  obtain ⟨cq2, kq2, zq2a, zq2b, zq2c⟩ := isOf hZ e1 E_a8
  obtain ⟨_, _, ⟨T2, L2, k2, n2⟩, -, X2, ⟨Lc2, hQ2, l2, y2, z2⟩, st2⟩ := X1.virtualBack hx (y := (⟨"com/example/treellis/treellis/cfa/StructType", "members", "()Ljava/util/List;"⟩ : MethodName)) (z := (⟨"com/example/treellis/treellis/cfa/StructType", "members", "()Ljava/util/List;"⟩ : MethodName)) hown (mvT hZ (hw _ (List.mem_of_getElem? (i := 23) rfl))) (mvT hZ (hw _ (List.mem_of_getElem? (i := 24) rfl))) (notFace_of_selects (args := #[]) (mvT hZ (hw _ (List.mem_of_getElem? (i := 26) rfl)))) (mvT hZ (hw _ (List.mem_of_getElem? (i := 26) rfl))) (mvT hZ (hw _ (List.mem_of_getElem? (i := 25) rfl))) (by decide) (backOf (W := 0) (rm_mbN l Z a0 hw [] a8 a8 h0 n0 Z0 F_mb) hZ (hw _ (List.mem_of_getElem? (i := 27) rfl)) (hw _ (List.mem_of_getElem? (i := 5) rfl)) (by decide) (by decide)) zq2a zq2c (g := (mkF m 64 #[.val (.int p0), .val (.int p1), .val (.int p2), .val (.int p3), .val (.int p4), .val (.int p5), .val (.ref aK), s7, .val (.ref a8), .unset, .unset, .unset, .unset, .unset] [(.ref a8)])) rfl (by rw [hml]; rfl) (Steps.refl _) (argsL := []) (rest := []) (lenOf pd_13 rfl) rfl (by show 2 * 0 + _ ≤ _; exact Nat.le_of_eq rfl) (hb hby at_64) (fun _ _ => ⟨rfl, e1, (by decide : 3 + 0 + 0 ≤ _), (by decide : 10 + 0 + 0 ≤ _)⟩)
  dsimp only [Pt.U, Pt.locs, Pt.cells, Pt.slots] at X2 l2 y2 z2 st2 hQ2
  subst l2 y2 z2
  obtain ⟨rfl, N2q, e2⟩ := hQ2
  have N2 := Fr.app N1 N2q
  refine own_goS st2 ?_
  show own_Goes _ _ _ _ _ _ _ T2 (mkF m 67 #[.val (.int p0), .val (.int p1), .val (.int p2), .val (.int p3), .val (.int p4), .val (.int p5), .val (.ref aK), s7, .val (.ref a8), .unset, .unset, .unset, .unset, .unset] [.null])
  refine own_go (fun _ k => XS.ifnullYes X2.here hx rfl (pc0 := 67) (pc' := 72) rfl (hb hby at_67) rfl (by decide) (by decide) k) ?_
  show own_Goes _ _ _ _ _ _ _ T2 (mkF m 72 #[.val (.int p0), .val (.int p1), .val (.int p2), .val (.int p3), .val (.int p4), .val (.int p5), .val (.ref aK), s7, .val (.ref a8), .unset, .unset, .unset, .unset, .unset] [])
  refine own_go (fun _ k => XS.iload X2.here hx rfl (hb hby at_72) rfl k) ?_
  show own_Goes _ _ _ _ _ _ _ T2 (mkF m 74 #[.val (.int p0), .val (.int p1), .val (.int p2), .val (.int p3), .val (.int p4), .val (.int p5), .val (.ref aK), s7, .val (.ref a8), .unset, .unset, .unset, .unset, .unset] [(.int p5)])
  refine own_go (fun _ k => XS.iconst X2.here hx rfl (hb hby at_74) k) ?_
  show own_Goes _ _ _ _ _ _ _ T2 (mkF m 75 #[.val (.int p0), .val (.int p1), .val (.int p2), .val (.int p3), .val (.int p4), .val (.int p5), .val (.ref aK), s7, .val (.ref a8), .unset, .unset, .unset, .unset, .unset] [(.int (1 : Int32)), (.int p5)])
  refine own_go (fun _ k => XS.iand X2.here hx rfl (hb hby at_75) rfl k) ?_
  show own_Goes _ _ _ _ _ _ _ T2 (mkF m 76 #[.val (.int p0), .val (.int p1), .val (.int p2), .val (.int p3), .val (.int p4), .val (.int p5), .val (.ref aK), s7, .val (.ref a8), .unset, .unset, .unset, .unset, .unset] [(.int (p5 &&& (1 : Int32)))])
  by_cases hc76 : (p5 &&& (1 : Int32)) = (0 : Int32)
  · refine own_go (fun _ k => XS.ifNo X2.here hx rfl (hb hby at_76) rfl ((if0 _ _).trans (teq hc76).2) k) ?_
    show own_Goes _ _ _ _ _ _ _ T2 (mkF m 79 #[.val (.int p0), .val (.int p1), .val (.int p2), .val (.int p3), .val (.int p4), .val (.int p5), .val (.ref aK), s7, .val (.ref a8), .unset, .unset, .unset, .unset, .unset] [])
    refine own_go (fun _ k => XS.aload X2.here hx rfl (hb hby at_79) rfl rfl k) ?_
    show own_Goes _ _ _ _ _ _ _ T2 (mkF m 81 #[.val (.int p0), .val (.int p1), .val (.int p2), .val (.int p3), .val (.int p4), .val (.int p5), .val (.ref aK), s7, .val (.ref a8), .unset, .unset, .unset, .unset, .unset] [(.ref a8)])
    obtain ⟨cq3, kq3, zq3a, zq3b, zq3c⟩ := isOf hZ e2 E_a8
    obtain ⟨_, _, ⟨T3, L3, k3, n3⟩, -, X3, ⟨Lc3, hQ3, l3, y3, z3⟩, st3⟩ := X2.virtualBack hx (y := (⟨"com/example/treellis/treellis/cfa/StructType", "isComplete", "()Z"⟩ : MethodName)) (z := (⟨"com/example/treellis/treellis/cfa/StructType", "isComplete", "()Z"⟩ : MethodName)) hown (mvT hZ (hw _ (List.mem_of_getElem? (i := 16) rfl))) (mvT hZ (hw _ (List.mem_of_getElem? (i := 17) rfl))) (notFace_of_selects (args := #[]) (mvT hZ (hw _ (List.mem_of_getElem? (i := 19) rfl)))) (mvT hZ (hw _ (List.mem_of_getElem? (i := 19) rfl))) (mvT hZ (hw _ (List.mem_of_getElem? (i := 18) rfl))) (by decide) (backOf (W := 0) (rm_icN l Z a0 hw [] a8 a8 h0 n0 Z0 F_mb) hZ (hw _ (List.mem_of_getElem? (i := 20) rfl)) (hw _ (List.mem_of_getElem? (i := 5) rfl)) (by decide) (by decide)) zq3a zq3c (g := (mkF m 81 #[.val (.int p0), .val (.int p1), .val (.int p2), .val (.int p3), .val (.int p4), .val (.int p5), .val (.ref aK), s7, .val (.ref a8), .unset, .unset, .unset, .unset, .unset] [(.ref a8)])) rfl (by rw [hml]; rfl) (Steps.refl _) (argsL := []) (rest := []) (lenOf pd_12 rfl) rfl (by show 2 * 0 + _ ≤ _; exact Nat.le_of_eq rfl) (hb hby at_81) (fun _ _ => ⟨rfl, e2, (by decide : 3 + 0 + 0 + 0 ≤ _), (by decide : 10 + 0 + 0 + 0 ≤ _)⟩)
    dsimp only [Pt.U, Pt.locs, Pt.cells, Pt.slots] at X3 l3 y3 z3 st3 hQ3
    subst l3 y3 z3
    obtain ⟨rfl, N3q, e3⟩ := hQ3
    have N3 := Fr.app N2 N3q
    refine own_goS st3 ?_
    show own_Goes _ _ _ _ _ _ _ T3 (mkF m 84 #[.val (.int p0), .val (.int p1), .val (.int p2), .val (.int p3), .val (.int p4), .val (.int p5), .val (.ref aK), s7, .val (.ref a8), .unset, .unset, .unset, .unset, .unset] [(.int (0 : Int32))])
    refine own_go (fun _ k => XS.ifNo X3.here hx rfl (hb hby at_84) rfl ((if0 _ _).trans (teq (by decide : (0 : Int32) = (0 : Int32))).2) k) ?_
    show own_Goes _ _ _ _ _ _ _ T3 (mkF m 87 #[.val (.int p0), .val (.int p1), .val (.int p2), .val (.int p3), .val (.int p4), .val (.int p5), .val (.ref aK), s7, .val (.ref a8), .unset, .unset, .unset, .unset, .unset] [])
    refine own_go (fun _ k => XS.iconst X3.here hx rfl (hb hby at_87) k) ?_
    show own_Goes _ _ _ _ _ _ _ T3 (mkF m 88 #[.val (.int p0), .val (.int p1), .val (.int p2), .val (.int p3), .val (.int p4), .val (.int p5), .val (.ref aK), s7, .val (.ref a8), .unset, .unset, .unset, .unset, .unset] [(.int (1 : Int32))])
    refine own_go (fun _ k => XS.goto X3.here hx rfl (pc0 := 88) (pc' := 92) rfl (hb hby at_88) (by decide) (by decide) k) ?_
    show own_Goes _ _ _ _ _ _ _ T3 (mkF m 92 #[.val (.int p0), .val (.int p1), .val (.int p2), .val (.int p3), .val (.int p4), .val (.int p5), .val (.ref aK), s7, .val (.ref a8), .unset, .unset, .unset, .unset, .unset] [(.int (1 : Int32))])
    exact own_retN X3 hx (t := .boolean) hlk hret (by simp) (hb hby at_92) (by decide) (by decide) ⟨rfl, N3⟩
  · refine own_go (fun _ k => XS.ifYes X2.here hx rfl (pc0 := 76) (pc' := 93) rfl (hb hby at_76) rfl ((if0 _ _).trans (feq hc76).2) (by decide) (by decide) k) ?_
    show own_Goes _ _ _ _ _ _ _ T2 (mkF m 93 #[.val (.int p0), .val (.int p1), .val (.int p2), .val (.int p3), .val (.int p4), .val (.int p5), .val (.ref aK), s7, .val (.ref a8), .unset, .unset, .unset, .unset, .unset] [])
    refine own_go (fun _ k => XS.iloadN X2.here hx rfl (hb hby at_93) rfl k) ?_
    show own_Goes _ _ _ _ _ _ _ T2 (mkF m 94 #[.val (.int p0), .val (.int p1), .val (.int p2), .val (.int p3), .val (.int p4), .val (.int p5), .val (.ref aK), s7, .val (.ref a8), .unset, .unset, .unset, .unset, .unset] [(.int p2)])
    refine own_go (fun _ k => XS.iconst X2.here hx rfl (hb hby at_94) k) ?_
    show own_Goes _ _ _ _ _ _ _ T2 (mkF m 95 #[.val (.int p0), .val (.int p1), .val (.int p2), .val (.int p3), .val (.int p4), .val (.int p5), .val (.ref aK), s7, .val (.ref a8), .unset, .unset, .unset, .unset, .unset] [(.int (3 : Int32)), (.int p2)])
    refine own_go (fun _ k => XS.iand X2.here hx rfl (hb hby at_95) rfl k) ?_
    show own_Goes _ _ _ _ _ _ _ T2 (mkF m 96 #[.val (.int p0), .val (.int p1), .val (.int p2), .val (.int p3), .val (.int p4), .val (.int p5), .val (.ref aK), s7, .val (.ref a8), .unset, .unset, .unset, .unset, .unset] [(.int (p2 &&& (3 : Int32)))])
    refine own_go (fun _ k => XS.istore X2.here hx rfl (hb hby at_96) rfl (l' := #[.val (.int p0), .val (.int p1), .val (.int p2), .val (.int p3), .val (.int p4), .val (.int p5), .val (.ref aK), s7, .val (.ref a8), .val (.int (p2 &&& (3 : Int32))), .unset, .unset, .unset, .unset]) rfl k) ?_
    show own_Goes _ _ _ _ _ _ _ T2 (mkF m 98 #[.val (.int p0), .val (.int p1), .val (.int p2), .val (.int p3), .val (.int p4), .val (.int p5), .val (.ref aK), s7, .val (.ref a8), .val (.int (p2 &&& (3 : Int32))), .unset, .unset, .unset, .unset] [])
    have hr := own_and3 p2
    generalize (p2 &&& (3 : Int32)) = r at hr ⊢
    rcases hr with rfl | rfl | rfl | rfl
    · exact seg98_0 p0 p1 p2 p3 p4 p5 aK a8 s7 aD aE aL aM aX cD cX hw ⟨hx, hby, hml, hown, hnm, hret, hlk, hZ⟩ X2 e2 n0 Z0 N2 SD AD zD SE SL MM hEx EL FL AX zX Od0 E_a8 F_mb F_pk F_ag lo_a8
    · exact seg98_1 p0 p1 p2 p3 p4 p5 aK a8 s7 aD aE aL aM aX cD cX hw ⟨hx, hby, hml, hown, hnm, hret, hlk, hZ⟩ X2 e2 n0 Z0 N2 SD AD zD SE SL MM hEx EL FL AX zX Od0 E_a8 F_mb F_pk F_ag lo_a8
    · exact seg98_2 p0 p1 p2 p3 p4 p5 aK a8 s7 aD aE aL aM aX cD cX hw ⟨hx, hby, hml, hown, hnm, hret, hlk, hZ⟩ X2 e2 n0 Z0 N2 SD AD zD SE SL MM hEx EL FL AX zX Od0 E_a8 F_mb F_pk F_ag lo_a8
    · exact seg98_3 p0 p1 p2 p3 p4 p5 aK a8 s7 aD aE aL aM aX cD cX hw ⟨hx, hby, hml, hown, hnm, hret, hlk, hZ⟩ X2 e2 n0 Z0 N2 SD AD zD SE SL MM hEx EL FL AX zX Od0 E_a8 F_mb F_pk F_ag lo_a8
set_option maxRecDepth 65536 in
set_option maxHeartbeats 40000000 in
theorem seg39N {p : Program} {l : Launch} {e : Env} {s : State} {m : MethodId} {args : Array Value} {below : List Frame} {meth : Method} {c : Code} {s₁ : State} {locs : List Loc} {Z : State} {a0 : Array Value} {h0 : Heap} (p0 p1 p2 p3 p4 p5 : Int32) (aK a7 : Addr) (aD aE aL aM aX : Addr) (cD cX : Cell)
    (hw : ∀ d ∈ tables_1, d.before a0 Z = true) (C : own_Ctx Z x "com/example/treellis/treellis/cfa/StructTypeIsCompletePinLaw" code maxLocals ret p s m meth c) (X0 : Stand p l e room_1 s m args below meth c s₁ locs 0 0) (e0 : s₁.heap = h0) (n0 : Nat) (Z0 : n0 ≤ h0.size) (N0 : Fr n0 locs) (SD : Sta Z Z.heap "java/util/ArrayList" "DEFAULTCAPACITY_EMPTY_ELEMENTDATA" "[Ljava/lang/Object;" (.ref aD)) (AD : Arr Z Z.heap aD cD (.object "java/lang/Object")) (zD : cD.slots.size = 0) (SE : Sta Z Z.heap "java/util/ImmutableCollections" "EMPTY" "Ljava/lang/Object;" (.ref aE)) (SL : Sta Z Z.heap "java/util/ImmutableCollections" "EMPTY_LIST" "Ljava/util/ImmutableCollections$ListN;" (.ref aL)) (MM : Mir Z "[Ljava/lang/Object;" aM) (hEx : Exa Z Z.heap aE "java/lang/Object") (EL : Exa Z Z.heap aL "java/util/ImmutableCollections$ListN") (FL : Fld Z Z.heap aL "java/util/ImmutableCollections$ListN" "elements" "[Ljava/lang/Object;" (.ref aX)) (AX : Arr Z Z.heap aX cX (.object "java/lang/Object")) (zX : cX.slots.size.toInt32 = (0 : Int32)) (Od0 : Old Z n0 h0) :
    own_Goes p e below s (fun v h L => v = some (.int 1) ∧ Fr n0 L) room_1.cells room_1.slots s₁ (mkF m 39 #[.val (.int p0), .val (.int p1), .val (.int p2), .val (.int p3), .val (.int p4), .val (.int p5), .val (.ref aK), .val .null, .unset, .unset, .unset, .unset, .unset, .unset] []) := by
  obtain ⟨hx, hby, hml, hown, hnm, hret, hlk, hZ⟩ := C
  obtain ⟨T1, h1, X1, e1, E1, A1, D1, -, st1⟩ := newO X0 hx hZ hown (hw _ (List.mem_of_getElem? (i := 3) rfl)) (hw _ (List.mem_of_getElem? (i := 4) rfl)) (hw _ (List.mem_of_getElem? (i := 5) rfl)) e0 (g := (mkF m 39 #[.val (.int p0), .val (.int p1), .val (.int p2), .val (.int p3), .val (.int p4), .val (.int p5), .val (.ref aK), .val .null, .unset, .unset, .unset, .unset, .unset, .unset] [])) rfl (hb hby at_39) (by decide) (by decide)
  obtain ⟨b1, g1⟩ : ∃ z, z = h0.size := ⟨_, rfl⟩
  rw [← g1] at A1 D1 st1
  have lo_b1 : n0 ≤ b1 := Nat.le_trans Z0 (Nat.le_of_eq g1.symm)
  have Zs1 : n0 ≤ h1.size := Nat.le_trans Z0 E1.1
  have Od1 : Old Z n0 h1 := Od0.ext E1
  have F_kind_b1 : Fld Z h1 b1 "com/example/treellis/treellis/cfa/StructType" "kind" "Lcom/example/treellis/treellis/cfa/StructType$Kind;" .null := D1 (Or.inr (hw _ (List.mem_of_getElem? (i := 13) rfl))) (ty := (.object "com/example/treellis/treellis/cfa/StructType$Kind")) (by decide)
  have F_tag_b1 : Fld Z h1 b1 "com/example/treellis/treellis/cfa/StructType" "tag" "Ljava/lang/String;" .null := D1 (Or.inr (hw _ (List.mem_of_getElem? (i := 15) rfl))) (ty := (.object "java/lang/String")) (by decide)
  have F_members_b1 : Fld Z h1 b1 "com/example/treellis/treellis/cfa/StructType" "members" "Ljava/util/List;" .null := D1 (Or.inl (hw _ (List.mem_of_getElem? (i := 22) rfl))) (ty := (.object "java/util/List")) (by decide)
  have F_packing_b1 : Fld Z h1 b1 "com/example/treellis/treellis/cfa/StructType" "packing" "I" (.int (0 : Int32)) := D1 (Or.inl (hw _ (List.mem_of_getElem? (i := 189) rfl))) (ty := .int) (by decide)
  have F_alignment_b1 : Fld Z h1 b1 "com/example/treellis/treellis/cfa/StructType" "alignment" "I" (.int (0 : Int32)) := D1 (Or.inl (hw _ (List.mem_of_getElem? (i := 191) rfl))) (ty := .int) (by decide)
  refine own_go st1 ?_
  show own_Goes _ _ _ _ _ _ _ T1 (mkF m 42 #[.val (.int p0), .val (.int p1), .val (.int p2), .val (.int p3), .val (.int p4), .val (.int p5), .val (.ref aK), .val .null, .unset, .unset, .unset, .unset, .unset, .unset] [(.ref b1)])
  refine own_go (fun _ k => XS.dup X1.here hx rfl (hb hby at_42) rfl rfl k) ?_
  show own_Goes _ _ _ _ _ _ _ T1 (mkF m 43 #[.val (.int p0), .val (.int p1), .val (.int p2), .val (.int p3), .val (.int p4), .val (.int p5), .val (.ref aK), .val .null, .unset, .unset, .unset, .unset, .unset, .unset] [(.ref b1), (.ref b1)])
  refine own_go (fun _ k => XS.aload X1.here hx rfl (hb hby at_43) rfl rfl k) ?_
  show own_Goes _ _ _ _ _ _ _ T1 (mkF m 45 #[.val (.int p0), .val (.int p1), .val (.int p2), .val (.int p3), .val (.int p4), .val (.int p5), .val (.ref aK), .val .null, .unset, .unset, .unset, .unset, .unset, .unset] [(.ref aK), (.ref b1), (.ref b1)])
  refine own_go (fun _ k => XS.aload X1.here hx rfl (hb hby at_45) rfl rfl k) ?_
  show own_Goes _ _ _ _ _ _ _ T1 (mkF m 47 #[.val (.int p0), .val (.int p1), .val (.int p2), .val (.int p3), .val (.int p4), .val (.int p5), .val (.ref aK), .val .null, .unset, .unset, .unset, .unset, .unset, .unset] [.null, (.ref aK), (.ref b1), (.ref b1)])
  obtain ⟨_, _, ⟨T2, L2, k2, n2⟩, -, X2, ⟨Lc2, hQ2, l2, y2, z2⟩, st2⟩ := X1.specialBack hx (y := (⟨"com/example/treellis/treellis/cfa/StructType", "<init>", "(Lcom/example/treellis/treellis/cfa/StructType$Kind;Ljava/lang/String;)V"⟩ : MethodName)) rfl hown (mvT hZ (hw _ (List.mem_of_getElem? (i := 6) rfl))) (mvT hZ (hw _ (List.mem_of_getElem? (i := 7) rfl))) (mvT hZ (hw _ (List.mem_of_getElem? (i := 8) rfl))) (by decide) (backOf (W := 1) (rm_siN l Z a0 hw [] b1 aK b1 h1 n0 Zs1 A1 F_kind_b1 F_tag_b1 F_members_b1 F_packing_b1 F_alignment_b1 lo_b1) hZ (hw _ (List.mem_of_getElem? (i := 8) rfl)) (hw _ (List.mem_of_getElem? (i := 5) rfl)) (by decide) (by decide)) (g := (mkF m 47 #[.val (.int p0), .val (.int p1), .val (.int p2), .val (.int p3), .val (.int p4), .val (.int p5), .val (.ref aK), .val .null, .unset, .unset, .unset, .unset, .unset, .unset] [.null, (.ref aK), (.ref b1), (.ref b1)])) rfl (by rw [hml]; rfl) (Steps.refl _) (a := b1) (argsL := [(.ref aK), .null]) (rest := [(.ref b1)]) (lenOf pd_22 rfl) rfl (by show 2 * 0 + _ ≤ _; exact Nat.le_of_eq rfl) (hb hby at_47) (fun _ _ => ⟨rfl, e1, (by decide : 0 + 1 + 0 ≤ _), (by decide : 0 + 5 + 0 ≤ _)⟩)
  dsimp only [Pt.U, Pt.locs, Pt.cells, Pt.slots] at X2 l2 y2 z2 st2 hQ2
  subst l2 y2 z2
  obtain ⟨rfl, N2q, K2, Fa2, Fb2, Fc2⟩ := hQ2
  have N2 := Fr.app N0 N2q
  refine own_goS st2 ?_
  show own_Goes _ _ _ _ _ _ _ T2 (mkF m 50 #[.val (.int p0), .val (.int p1), .val (.int p2), .val (.int p3), .val (.int p4), .val (.int p5), .val (.ref aK), .val .null, .unset, .unset, .unset, .unset, .unset, .unset] [(.ref b1)])
  have E_b1_2 : Exa Z T2.heap b1 "com/example/treellis/treellis/cfa/StructType" := A1.keep K2
  have Zs2 : n0 ≤ T2.heap.size := Nat.le_trans Zs1 K2.1
  have Od2 : Old Z n0 T2.heap := Od1.keep K2 (allS lo_b1 all0)
  refine own_go (fun _ k => XS.astore X2.here hx rfl (hb hby at_50) rfl rfl (l' := #[.val (.int p0), .val (.int p1), .val (.int p2), .val (.int p3), .val (.int p4), .val (.int p5), .val (.ref aK), .val .null, .val (.ref b1), .unset, .unset, .unset, .unset, .unset]) rfl k) ?_
  show own_Goes _ _ _ _ _ _ _ T2 (mkF m 52 #[.val (.int p0), .val (.int p1), .val (.int p2), .val (.int p3), .val (.int p4), .val (.int p5), .val (.ref aK), .val .null, .val (.ref b1), .unset, .unset, .unset, .unset, .unset] [])
  exact seg52 p0 p1 p2 p3 p4 p5 aK b1 _ aD aE aL aM aX cD cX hw ⟨hx, hby, hml, hown, hnm, hret, hlk, hZ⟩ (own_more X2 (by decide) (by decide)) rfl n0 Zs2 N2 SD AD zD SE SL MM hEx EL FL AX zX Od2 E_b1_2 Fa2 Fb2 Fc2 lo_b1
set_option maxRecDepth 65536 in
set_option maxHeartbeats 40000000 in
theorem seg39R {p : Program} {l : Launch} {e : Env} {s : State} {m : MethodId} {args : Array Value} {below : List Frame} {meth : Method} {c : Code} {s₁ : State} {locs : List Loc} {Z : State} {a0 : Array Value} {h0 : Heap} (p0 p1 p2 p3 p4 p5 : Int32) (aK a7 : Addr) (aD aE aL aM aX : Addr) (cD cX : Cell)
    (hw : ∀ d ∈ tables_1, d.before a0 Z = true) (C : own_Ctx Z x "com/example/treellis/treellis/cfa/StructTypeIsCompletePinLaw" code maxLocals ret p s m meth c) (X0 : Stand p l e room_1 s m args below meth c s₁ locs 2 5) (e0 : s₁.heap = h0) (n0 : Nat) (Z0 : n0 ≤ h0.size) (N0 : Fr n0 locs) (SD : Sta Z Z.heap "java/util/ArrayList" "DEFAULTCAPACITY_EMPTY_ELEMENTDATA" "[Ljava/lang/Object;" (.ref aD)) (AD : Arr Z Z.heap aD cD (.object "java/lang/Object")) (zD : cD.slots.size = 0) (SE : Sta Z Z.heap "java/util/ImmutableCollections" "EMPTY" "Ljava/lang/Object;" (.ref aE)) (SL : Sta Z Z.heap "java/util/ImmutableCollections" "EMPTY_LIST" "Ljava/util/ImmutableCollections$ListN;" (.ref aL)) (MM : Mir Z "[Ljava/lang/Object;" aM) (hEx : Exa Z Z.heap aE "java/lang/Object") (EL : Exa Z Z.heap aL "java/util/ImmutableCollections$ListN") (FL : Fld Z Z.heap aL "java/util/ImmutableCollections$ListN" "elements" "[Ljava/lang/Object;" (.ref aX)) (AX : Arr Z Z.heap aX cX (.object "java/lang/Object")) (zX : cX.slots.size.toInt32 = (0 : Int32)) (Od0 : Old Z n0 h0) :
    own_Goes p e below s (fun v h L => v = some (.int 1) ∧ Fr n0 L) room_1.cells room_1.slots s₁ (mkF m 39 #[.val (.int p0), .val (.int p1), .val (.int p2), .val (.int p3), .val (.int p4), .val (.int p5), .val (.ref aK), .val (.ref a7), .unset, .unset, .unset, .unset, .unset, .unset] []) := by
  obtain ⟨hx, hby, hml, hown, hnm, hret, hlk, hZ⟩ := C
  obtain ⟨T1, h1, X1, e1, E1, A1, D1, -, st1⟩ := newO X0 hx hZ hown (hw _ (List.mem_of_getElem? (i := 3) rfl)) (hw _ (List.mem_of_getElem? (i := 4) rfl)) (hw _ (List.mem_of_getElem? (i := 5) rfl)) e0 (g := (mkF m 39 #[.val (.int p0), .val (.int p1), .val (.int p2), .val (.int p3), .val (.int p4), .val (.int p5), .val (.ref aK), .val (.ref a7), .unset, .unset, .unset, .unset, .unset, .unset] [])) rfl (hb hby at_39) (by decide) (by decide)
  obtain ⟨b1, g1⟩ : ∃ z, z = h0.size := ⟨_, rfl⟩
  rw [← g1] at A1 D1 st1
  have lo_b1 : n0 ≤ b1 := Nat.le_trans Z0 (Nat.le_of_eq g1.symm)
  have Zs1 : n0 ≤ h1.size := Nat.le_trans Z0 E1.1
  have Od1 : Old Z n0 h1 := Od0.ext E1
  have F_kind_b1 : Fld Z h1 b1 "com/example/treellis/treellis/cfa/StructType" "kind" "Lcom/example/treellis/treellis/cfa/StructType$Kind;" .null := D1 (Or.inr (hw _ (List.mem_of_getElem? (i := 13) rfl))) (ty := (.object "com/example/treellis/treellis/cfa/StructType$Kind")) (by decide)
  have F_tag_b1 : Fld Z h1 b1 "com/example/treellis/treellis/cfa/StructType" "tag" "Ljava/lang/String;" .null := D1 (Or.inr (hw _ (List.mem_of_getElem? (i := 15) rfl))) (ty := (.object "java/lang/String")) (by decide)
  have F_members_b1 : Fld Z h1 b1 "com/example/treellis/treellis/cfa/StructType" "members" "Ljava/util/List;" .null := D1 (Or.inl (hw _ (List.mem_of_getElem? (i := 22) rfl))) (ty := (.object "java/util/List")) (by decide)
  have F_packing_b1 : Fld Z h1 b1 "com/example/treellis/treellis/cfa/StructType" "packing" "I" (.int (0 : Int32)) := D1 (Or.inl (hw _ (List.mem_of_getElem? (i := 189) rfl))) (ty := .int) (by decide)
  have F_alignment_b1 : Fld Z h1 b1 "com/example/treellis/treellis/cfa/StructType" "alignment" "I" (.int (0 : Int32)) := D1 (Or.inl (hw _ (List.mem_of_getElem? (i := 191) rfl))) (ty := .int) (by decide)
  refine own_go st1 ?_
  show own_Goes _ _ _ _ _ _ _ T1 (mkF m 42 #[.val (.int p0), .val (.int p1), .val (.int p2), .val (.int p3), .val (.int p4), .val (.int p5), .val (.ref aK), .val (.ref a7), .unset, .unset, .unset, .unset, .unset, .unset] [(.ref b1)])
  refine own_go (fun _ k => XS.dup X1.here hx rfl (hb hby at_42) rfl rfl k) ?_
  show own_Goes _ _ _ _ _ _ _ T1 (mkF m 43 #[.val (.int p0), .val (.int p1), .val (.int p2), .val (.int p3), .val (.int p4), .val (.int p5), .val (.ref aK), .val (.ref a7), .unset, .unset, .unset, .unset, .unset, .unset] [(.ref b1), (.ref b1)])
  refine own_go (fun _ k => XS.aload X1.here hx rfl (hb hby at_43) rfl rfl k) ?_
  show own_Goes _ _ _ _ _ _ _ T1 (mkF m 45 #[.val (.int p0), .val (.int p1), .val (.int p2), .val (.int p3), .val (.int p4), .val (.int p5), .val (.ref aK), .val (.ref a7), .unset, .unset, .unset, .unset, .unset, .unset] [(.ref aK), (.ref b1), (.ref b1)])
  refine own_go (fun _ k => XS.aload X1.here hx rfl (hb hby at_45) rfl rfl k) ?_
  show own_Goes _ _ _ _ _ _ _ T1 (mkF m 47 #[.val (.int p0), .val (.int p1), .val (.int p2), .val (.int p3), .val (.int p4), .val (.int p5), .val (.ref aK), .val (.ref a7), .unset, .unset, .unset, .unset, .unset, .unset] [(.ref a7), (.ref aK), (.ref b1), (.ref b1)])
  obtain ⟨_, _, ⟨T2, L2, k2, n2⟩, -, X2, ⟨Lc2, hQ2, l2, y2, z2⟩, st2⟩ := X1.specialBack hx (y := (⟨"com/example/treellis/treellis/cfa/StructType", "<init>", "(Lcom/example/treellis/treellis/cfa/StructType$Kind;Ljava/lang/String;)V"⟩ : MethodName)) rfl hown (mvT hZ (hw _ (List.mem_of_getElem? (i := 6) rfl))) (mvT hZ (hw _ (List.mem_of_getElem? (i := 7) rfl))) (mvT hZ (hw _ (List.mem_of_getElem? (i := 8) rfl))) (by decide) (backOf (W := 1) (rm_siR l Z a0 hw [] b1 aK a7 h1 n0 Zs1 A1 F_kind_b1 F_tag_b1 F_members_b1 F_packing_b1 F_alignment_b1 lo_b1) hZ (hw _ (List.mem_of_getElem? (i := 8) rfl)) (hw _ (List.mem_of_getElem? (i := 5) rfl)) (by decide) (by decide)) (g := (mkF m 47 #[.val (.int p0), .val (.int p1), .val (.int p2), .val (.int p3), .val (.int p4), .val (.int p5), .val (.ref aK), .val (.ref a7), .unset, .unset, .unset, .unset, .unset, .unset] [(.ref a7), (.ref aK), (.ref b1), (.ref b1)])) rfl (by rw [hml]; rfl) (Steps.refl _) (a := b1) (argsL := [(.ref aK), (.ref a7)]) (rest := [(.ref b1)]) (lenOf pd_22 rfl) rfl (by show 2 * 0 + _ ≤ _; exact Nat.le_of_eq rfl) (hb hby at_47) (fun _ _ => ⟨rfl, e1, (by decide : 2 + 1 + 0 ≤ _), (by decide : 5 + 5 + 0 ≤ _)⟩)
  dsimp only [Pt.U, Pt.locs, Pt.cells, Pt.slots] at X2 l2 y2 z2 st2 hQ2
  subst l2 y2 z2
  obtain ⟨rfl, N2q, K2, Fa2, Fb2, Fc2⟩ := hQ2
  have N2 := Fr.app N0 N2q
  refine own_goS st2 ?_
  show own_Goes _ _ _ _ _ _ _ T2 (mkF m 50 #[.val (.int p0), .val (.int p1), .val (.int p2), .val (.int p3), .val (.int p4), .val (.int p5), .val (.ref aK), .val (.ref a7), .unset, .unset, .unset, .unset, .unset, .unset] [(.ref b1)])
  have E_b1_2 : Exa Z T2.heap b1 "com/example/treellis/treellis/cfa/StructType" := A1.keep K2
  have Zs2 : n0 ≤ T2.heap.size := Nat.le_trans Zs1 K2.1
  have Od2 : Old Z n0 T2.heap := Od1.keep K2 (allS lo_b1 all0)
  refine own_go (fun _ k => XS.astore X2.here hx rfl (hb hby at_50) rfl rfl (l' := #[.val (.int p0), .val (.int p1), .val (.int p2), .val (.int p3), .val (.int p4), .val (.int p5), .val (.ref aK), .val (.ref a7), .val (.ref b1), .unset, .unset, .unset, .unset, .unset]) rfl k) ?_
  show own_Goes _ _ _ _ _ _ _ T2 (mkF m 52 #[.val (.int p0), .val (.int p1), .val (.int p2), .val (.int p3), .val (.int p4), .val (.int p5), .val (.ref aK), .val (.ref a7), .val (.ref b1), .unset, .unset, .unset, .unset, .unset] [])
  exact seg52 p0 p1 p2 p3 p4 p5 aK b1 _ aD aE aL aM aX cD cX hw ⟨hx, hby, hml, hown, hnm, hret, hlk, hZ⟩ (own_more X2 (by decide) (by decide)) rfl n0 Zs2 N2 SD AD zD SE SL MM hEx EL FL AX zX Od2 E_b1_2 Fa2 Fb2 Fc2 lo_b1
set_option maxRecDepth 65536 in
set_option maxHeartbeats 40000000 in
theorem seg17 {p : Program} {l : Launch} {e : Env} {s : State} {m : MethodId} {args : Array Value} {below : List Frame} {meth : Method} {c : Code} {s₁ : State} {locs : List Loc} {Z : State} {a0 : Array Value} {h0 : Heap} (p0 p1 p2 p3 p4 p5 : Int32) (aK : Addr) (aD aE aL aM aX : Addr) (cD cX : Cell)
    (hw : ∀ d ∈ tables_1, d.before a0 Z = true) (C : own_Ctx Z x "com/example/treellis/treellis/cfa/StructTypeIsCompletePinLaw" code maxLocals ret p s m meth c) (X0 : Stand p l e room_1 s m args below meth c s₁ locs 0 0) (e0 : s₁.heap = h0) (n0 : Nat) (Z0 : n0 ≤ h0.size) (N0 : Fr n0 locs) (SD : Sta Z Z.heap "java/util/ArrayList" "DEFAULTCAPACITY_EMPTY_ELEMENTDATA" "[Ljava/lang/Object;" (.ref aD)) (AD : Arr Z Z.heap aD cD (.object "java/lang/Object")) (zD : cD.slots.size = 0) (SE : Sta Z Z.heap "java/util/ImmutableCollections" "EMPTY" "Ljava/lang/Object;" (.ref aE)) (SL : Sta Z Z.heap "java/util/ImmutableCollections" "EMPTY_LIST" "Ljava/util/ImmutableCollections$ListN;" (.ref aL)) (MM : Mir Z "[Ljava/lang/Object;" aM) (hEx : Exa Z Z.heap aE "java/lang/Object") (EL : Exa Z Z.heap aL "java/util/ImmutableCollections$ListN") (FL : Fld Z Z.heap aL "java/util/ImmutableCollections$ListN" "elements" "[Ljava/lang/Object;" (.ref aX)) (AX : Arr Z Z.heap aX cX (.object "java/lang/Object")) (zX : cX.slots.size.toInt32 = (0 : Int32)) (Od0 : Old Z n0 h0) (G1 : Int32) (O2 : Sta Z Z.heap "java/lang/String" "COMPACT_STRINGS" "Z" (.int G1)) (P5 : ¬ (G1 = (0 : Int32))) :
    own_Goes p e below s (fun v h L => v = some (.int 1) ∧ Fr n0 L) room_1.cells room_1.slots s₁ (mkF m 17 #[.val (.int p0), .val (.int p1), .val (.int p2), .val (.int p3), .val (.int p4), .val (.int p5), .val (.ref aK), .unset, .unset, .unset, .unset, .unset, .unset, .unset] []) := by
  obtain ⟨hx, hby, hml, hown, hnm, hret, hlk, hZ⟩ := C
  refine own_go (fun _ k => XS.iload X0.here hx rfl (hb hby at_17) rfl k) ?_
  show own_Goes _ _ _ _ _ _ _ s₁ (mkF m 19 #[.val (.int p0), .val (.int p1), .val (.int p2), .val (.int p3), .val (.int p4), .val (.int p5), .val (.ref aK), .unset, .unset, .unset, .unset, .unset, .unset, .unset] [(.int p5)])
  refine own_go (fun _ k => XS.iconst X0.here hx rfl (hb hby at_19) k) ?_
  show own_Goes _ _ _ _ _ _ _ s₁ (mkF m 20 #[.val (.int p0), .val (.int p1), .val (.int p2), .val (.int p3), .val (.int p4), .val (.int p5), .val (.ref aK), .unset, .unset, .unset, .unset, .unset, .unset, .unset] [(.int (2 : Int32)), (.int p5)])
  refine own_go (fun _ k => XS.iand X0.here hx rfl (hb hby at_20) rfl k) ?_
  show own_Goes _ _ _ _ _ _ _ s₁ (mkF m 21 #[.val (.int p0), .val (.int p1), .val (.int p2), .val (.int p3), .val (.int p4), .val (.int p5), .val (.ref aK), .unset, .unset, .unset, .unset, .unset, .unset, .unset] [(.int (p5 &&& (2 : Int32)))])
  by_cases hc21 : (p5 &&& (2 : Int32)) = (0 : Int32)
  · refine own_go (fun _ k => XS.ifYes X0.here hx rfl (pc0 := 21) (pc' := 28) rfl (hb hby at_21) rfl ((if0 _ _).trans (teq hc21).1) (by decide) (by decide) k) ?_
    show own_Goes _ _ _ _ _ _ _ s₁ (mkF m 28 #[.val (.int p0), .val (.int p1), .val (.int p2), .val (.int p3), .val (.int p4), .val (.int p5), .val (.ref aK), .unset, .unset, .unset, .unset, .unset, .unset, .unset] [])
    refine own_go (fun _ k => XS.iloadN X0.here hx rfl (hb hby at_28) rfl k) ?_
    show own_Goes _ _ _ _ _ _ _ s₁ (mkF m 29 #[.val (.int p0), .val (.int p1), .val (.int p2), .val (.int p3), .val (.int p4), .val (.int p5), .val (.ref aK), .unset, .unset, .unset, .unset, .unset, .unset, .unset] [(.int p1)])
    refine own_go (fun _ k => XS.sipush X0.here hx rfl (hb hby at_29) k) ?_
    show own_Goes _ _ _ _ _ _ _ s₁ (mkF m 32 #[.val (.int p0), .val (.int p1), .val (.int p2), .val (.int p3), .val (.int p4), .val (.int p5), .val (.ref aK), .unset, .unset, .unset, .unset, .unset, .unset, .unset] [(.int (255 : Int32)), (.int p1)])
    refine own_go (fun _ k => XS.iand X0.here hx rfl (hb hby at_32) rfl k) ?_
    show own_Goes _ _ _ _ _ _ _ s₁ (mkF m 33 #[.val (.int p0), .val (.int p1), .val (.int p2), .val (.int p3), .val (.int p4), .val (.int p5), .val (.ref aK), .unset, .unset, .unset, .unset, .unset, .unset, .unset] [(.int (p1 &&& (255 : Int32)))])
    refine own_go (fun _ k => XS.i2c X0.here hx rfl (hb hby at_33) rfl k) ?_
    show own_Goes _ _ _ _ _ _ _ s₁ (mkF m 34 #[.val (.int p0), .val (.int p1), .val (.int p2), .val (.int p3), .val (.int p4), .val (.int p5), .val (.ref aK), .unset, .unset, .unset, .unset, .unset, .unset, .unset] [(.int ((p1 &&& (255 : Int32)).toUInt32.toUInt16.toUInt32.toInt32))])
    obtain ⟨_, _, ⟨T1, L1, k1, n1⟩, -, X1, ⟨Lc1, hQ1, l1, y1, z1⟩, st1⟩ := Jvm.LawKit.callS X0 hx (y := (⟨"java/lang/String", "valueOf", "(C)Ljava/lang/String;"⟩ : MethodName)) hown (mvT hZ (hw _ (List.mem_of_getElem? (i := 214) rfl))) (mvT hZ (hw _ (List.mem_of_getElem? (i := 215) rfl))) (mvT hZ (hw _ (List.mem_of_getElem? (i := 216) rfl))) (mvT hZ (hw _ (List.mem_of_getElem? (i := 217) rfl))) (by decide) (backOf (W := 0) (rm_vo l Z a0 hw [] ((p1 &&& (255 : Int32)).toUInt32.toUInt16.toUInt32.toInt32) h0 n0 Z0 (own_c255 p1) G1 O2 P5 Od0) hZ (hw _ (List.mem_of_getElem? (i := 217) rfl)) (hw _ (List.mem_of_getElem? (i := 216) rfl)) (by decide) (by decide)) (g := (mkF m 34 #[.val (.int p0), .val (.int p1), .val (.int p2), .val (.int p3), .val (.int p4), .val (.int p5), .val (.ref aK), .unset, .unset, .unset, .unset, .unset, .unset, .unset] [(.int ((p1 &&& (255 : Int32)).toUInt32.toUInt16.toUInt32.toInt32))])) rfl (by rw [hml]; rfl) (argsL := [(.int ((p1 &&& (255 : Int32)).toUInt32.toUInt16.toUInt32.toInt32))]) (rest := []) (lenOf pd_23 rfl) rfl (by show 2 * 0 + _ ≤ _; exact Nat.le_of_eq rfl) (hb hby at_34) (fun _ _ => ⟨rfl, e0, (by decide : 0 + 2 ≤ _), (by decide : 0 + 5 ≤ _)⟩)
    dsimp only [Pt.U, Pt.locs, Pt.cells, Pt.slots] at X1 l1 y1 z1 st1 hQ1
    subst l1 y1 z1
    obtain ⟨bb1, rfl, N1q, hb1, K1⟩ := hQ1
    have N1 := Fr.app N0 N1q
    refine own_go st1 ?_
    show own_Goes _ _ _ _ _ _ _ T1 (mkF m 37 #[.val (.int p0), .val (.int p1), .val (.int p2), .val (.int p3), .val (.int p4), .val (.int p5), .val (.ref aK), .unset, .unset, .unset, .unset, .unset, .unset, .unset] [(.ref bb1)])
    have Zs1 : n0 ≤ T1.heap.size := Nat.le_trans Z0 K1.1
    have Od1 : Old Z n0 T1.heap := Od0.keep K1 all0
    refine own_go (fun _ k => XS.astore X1.here hx rfl (hb hby at_37) rfl rfl (l' := #[.val (.int p0), .val (.int p1), .val (.int p2), .val (.int p3), .val (.int p4), .val (.int p5), .val (.ref aK), .val (.ref bb1), .unset, .unset, .unset, .unset, .unset, .unset]) rfl k) ?_
    show own_Goes _ _ _ _ _ _ _ T1 (mkF m 39 #[.val (.int p0), .val (.int p1), .val (.int p2), .val (.int p3), .val (.int p4), .val (.int p5), .val (.ref aK), .val (.ref bb1), .unset, .unset, .unset, .unset, .unset, .unset] [])
    exact seg39R p0 p1 p2 p3 p4 p5 aK bb1 aD aE aL aM aX cD cX hw ⟨hx, hby, hml, hown, hnm, hret, hlk, hZ⟩ X1 rfl n0 Zs1 N1 SD AD zD SE SL MM hEx EL FL AX zX Od1
  · refine own_go (fun _ k => XS.ifNo X0.here hx rfl (hb hby at_21) rfl ((if0 _ _).trans (feq hc21).1) k) ?_
    show own_Goes _ _ _ _ _ _ _ s₁ (mkF m 24 #[.val (.int p0), .val (.int p1), .val (.int p2), .val (.int p3), .val (.int p4), .val (.int p5), .val (.ref aK), .unset, .unset, .unset, .unset, .unset, .unset, .unset] [])
    refine own_go (fun _ k => XS.aconstNull X0.here hx rfl (hb hby at_24) k) ?_
    show own_Goes _ _ _ _ _ _ _ s₁ (mkF m 25 #[.val (.int p0), .val (.int p1), .val (.int p2), .val (.int p3), .val (.int p4), .val (.int p5), .val (.ref aK), .unset, .unset, .unset, .unset, .unset, .unset, .unset] [.null])
    refine own_go (fun _ k => XS.goto X0.here hx rfl (pc0 := 25) (pc' := 37) rfl (hb hby at_25) (by decide) (by decide) k) ?_
    show own_Goes _ _ _ _ _ _ _ s₁ (mkF m 37 #[.val (.int p0), .val (.int p1), .val (.int p2), .val (.int p3), .val (.int p4), .val (.int p5), .val (.ref aK), .unset, .unset, .unset, .unset, .unset, .unset, .unset] [.null])
    refine own_go (fun _ k => XS.astore X0.here hx rfl (hb hby at_37) rfl rfl (l' := #[.val (.int p0), .val (.int p1), .val (.int p2), .val (.int p3), .val (.int p4), .val (.int p5), .val (.ref aK), .val .null, .unset, .unset, .unset, .unset, .unset, .unset]) rfl k) ?_
    show own_Goes _ _ _ _ _ _ _ s₁ (mkF m 39 #[.val (.int p0), .val (.int p1), .val (.int p2), .val (.int p3), .val (.int p4), .val (.int p5), .val (.ref aK), .val .null, .unset, .unset, .unset, .unset, .unset, .unset] [])
    exact seg39N p0 p1 p2 p3 p4 p5 aK aK aD aE aL aM aX cD cX hw ⟨hx, hby, hml, hown, hnm, hret, hlk, hZ⟩ X0 e0 n0 Z0 N0 SD AD zD SE SL MM hEx EL FL AX zX Od0
def Q_rm0 (Z : State) (h0 : Heap) (n0 : Nat)  (v : Option Value) (h : Heap) (L : List Loc) : Prop := v = some (.int 1) ∧ Fr n0 L
set_option maxRecDepth 65536 in
set_option maxHeartbeats 40000000 in
theorem rm0 (l : Launch) (Z : State) (a0 : Array Value) (hw : ∀ d ∈ tables_1, d.before a0 Z = true) (ws : List Jvm.Cond) (p0 p1 p2 p3 p4 p5 : Int32) (aKSTRUCT aKUNION : Addr) (aD aE aL aM aX : Addr) (cD cX : Cell) (h0 : Heap) (n0 : Nat) (Z0 : n0 ≤ h0.size) (SK_STRUCT : Sta Z Z.heap "com/example/treellis/treellis/cfa/StructType$Kind" "STRUCT" "Lcom/example/treellis/treellis/cfa/StructType$Kind;" (.ref aKSTRUCT)) (SK_UNION : Sta Z Z.heap "com/example/treellis/treellis/cfa/StructType$Kind" "UNION" "Lcom/example/treellis/treellis/cfa/StructType$Kind;" (.ref aKUNION)) (SD : Sta Z Z.heap "java/util/ArrayList" "DEFAULTCAPACITY_EMPTY_ELEMENTDATA" "[Ljava/lang/Object;" (.ref aD)) (AD : Arr Z Z.heap aD cD (.object "java/lang/Object")) (zD : cD.slots.size = 0) (SE : Sta Z Z.heap "java/util/ImmutableCollections" "EMPTY" "Ljava/lang/Object;" (.ref aE)) (SL : Sta Z Z.heap "java/util/ImmutableCollections" "EMPTY_LIST" "Ljava/util/ImmutableCollections$ListN;" (.ref aL)) (MM : Mir Z "[Ljava/lang/Object;" aM) (hEx : Exa Z Z.heap aE "java/lang/Object") (EL : Exa Z Z.heap aL "java/util/ImmutableCollections$ListN") (FL : Fld Z Z.heap aL "java/util/ImmutableCollections$ListN" "elements" "[Ljava/lang/Object;" (.ref aX)) (AX : Arr Z Z.heap aX cX (.object "java/lang/Object")) (zX : cX.slots.size.toInt32 = (0 : Int32)) (Od0 : Old Z n0 h0) (G1 : Int32) (O2 : Sta Z Z.heap "java/lang/String" "COMPACT_STRINGS" "Z" (.int G1)) (P5 : ¬ (G1 = (0 : Int32))) :
    MetFree l x (head1 (Jvm.Cond.code x code maxLocals ret :: ws) room_1) (fun a U => a = #[(.int p0), (.int p1), (.int p2), (.int p3), (.int p4), (.int p5)] ∧ Z.Warmed39 U.vm ∧ U.heap = h0) (fun _ _ _ _ _ => True) (fun _ U o U' => ∃ rv rL, o = .returned rv ∧ Q_rm0 Z h0 n0  rv U'.heap rL ∧ FrameEnd U o U' rL room_1.cells room_1.slots) := by
  refine own_met (y := x) (Q := Q_rm0 Z h0 n0 ) (own := "com/example/treellis/treellis/cfa/StructTypeIsCompletePinLaw") rfl (plainFor_of_name pn_0) ?_
  intro p e s m below meth c s₁ C e0 X0
  obtain ⟨hx, hby, hml, hown, hnm, hret, hlk, hZ⟩ := C
  have N0 := Fr.nil n0
  rw [ef_0]
  show own_Goes _ _ _ _ _ _ _ s₁ (mkF m 0 #[.val (.int p0), .val (.int p1), .val (.int p2), .val (.int p3), .val (.int p4), .val (.int p5), .unset, .unset, .unset, .unset, .unset, .unset, .unset, .unset] [])
  refine own_go (fun _ k => XS.iloadN X0.here hx rfl (hb hby at_0) rfl k) ?_
  show own_Goes _ _ _ _ _ _ _ s₁ (mkF m 1 #[.val (.int p0), .val (.int p1), .val (.int p2), .val (.int p3), .val (.int p4), .val (.int p5), .unset, .unset, .unset, .unset, .unset, .unset, .unset, .unset] [(.int p0)])
  refine own_go (fun _ k => XS.iconst X0.here hx rfl (hb hby at_1) k) ?_
  show own_Goes _ _ _ _ _ _ _ s₁ (mkF m 2 #[.val (.int p0), .val (.int p1), .val (.int p2), .val (.int p3), .val (.int p4), .val (.int p5), .unset, .unset, .unset, .unset, .unset, .unset, .unset, .unset] [(.int (1 : Int32)), (.int p0)])
  refine own_go (fun _ k => XS.iand X0.here hx rfl (hb hby at_2) rfl k) ?_
  show own_Goes _ _ _ _ _ _ _ s₁ (mkF m 3 #[.val (.int p0), .val (.int p1), .val (.int p2), .val (.int p3), .val (.int p4), .val (.int p5), .unset, .unset, .unset, .unset, .unset, .unset, .unset, .unset] [(.int (p0 &&& (1 : Int32)))])
  by_cases hc3 : (p0 &&& (1 : Int32)) = (0 : Int32)
  · refine own_go (fun _ k => XS.ifNo X0.here hx rfl (hb hby at_3) rfl ((if0 _ _).trans (teq hc3).2) k) ?_
    show own_Goes _ _ _ _ _ _ _ s₁ (mkF m 6 #[.val (.int p0), .val (.int p1), .val (.int p2), .val (.int p3), .val (.int p4), .val (.int p5), .unset, .unset, .unset, .unset, .unset, .unset, .unset, .unset] [])
    obtain ⟨T1, X1, e1, st1⟩ := getS2 X0 hx hZ hown (host := "") (Or.inl (hw _ (List.mem_of_getElem? (i := 0) rfl))) Via.refl e0 (SK_STRUCT.ext Od0.2) (g := (mkF m 6 #[.val (.int p0), .val (.int p1), .val (.int p2), .val (.int p3), .val (.int p4), .val (.int p5), .unset, .unset, .unset, .unset, .unset, .unset, .unset, .unset] [])) rfl (hb hby at_6)
    refine own_go st1 ?_
    show own_Goes _ _ _ _ _ _ _ T1 (mkF m 9 #[.val (.int p0), .val (.int p1), .val (.int p2), .val (.int p3), .val (.int p4), .val (.int p5), .unset, .unset, .unset, .unset, .unset, .unset, .unset, .unset] [(.ref aKSTRUCT)])
    refine own_go (fun _ k => XS.goto X1.here hx rfl (pc0 := 9) (pc' := 15) rfl (hb hby at_9) (by decide) (by decide) k) ?_
    show own_Goes _ _ _ _ _ _ _ T1 (mkF m 15 #[.val (.int p0), .val (.int p1), .val (.int p2), .val (.int p3), .val (.int p4), .val (.int p5), .unset, .unset, .unset, .unset, .unset, .unset, .unset, .unset] [(.ref aKSTRUCT)])
    refine own_go (fun _ k => XS.astore X1.here hx rfl (hb hby at_15) rfl rfl (l' := #[.val (.int p0), .val (.int p1), .val (.int p2), .val (.int p3), .val (.int p4), .val (.int p5), .val (.ref aKSTRUCT), .unset, .unset, .unset, .unset, .unset, .unset, .unset]) rfl k) ?_
    show own_Goes _ _ _ _ _ _ _ T1 (mkF m 17 #[.val (.int p0), .val (.int p1), .val (.int p2), .val (.int p3), .val (.int p4), .val (.int p5), .val (.ref aKSTRUCT), .unset, .unset, .unset, .unset, .unset, .unset, .unset] [])
    exact seg17 p0 p1 p2 p3 p4 p5 aKSTRUCT aD aE aL aM aX cD cX hw ⟨hx, hby, hml, hown, hnm, hret, hlk, hZ⟩ X1 e1 n0 Z0 N0 SD AD zD SE SL MM hEx EL FL AX zX Od0 G1 O2 P5
  · refine own_go (fun _ k => XS.ifYes X0.here hx rfl (pc0 := 3) (pc' := 12) rfl (hb hby at_3) rfl ((if0 _ _).trans (feq hc3).2) (by decide) (by decide) k) ?_
    show own_Goes _ _ _ _ _ _ _ s₁ (mkF m 12 #[.val (.int p0), .val (.int p1), .val (.int p2), .val (.int p3), .val (.int p4), .val (.int p5), .unset, .unset, .unset, .unset, .unset, .unset, .unset, .unset] [])
    obtain ⟨T2, X2, e2, st2⟩ := getS2 X0 hx hZ hown (host := "") (Or.inl (hw _ (List.mem_of_getElem? (i := 212) rfl))) Via.refl e0 (SK_UNION.ext Od0.2) (g := (mkF m 12 #[.val (.int p0), .val (.int p1), .val (.int p2), .val (.int p3), .val (.int p4), .val (.int p5), .unset, .unset, .unset, .unset, .unset, .unset, .unset, .unset] [])) rfl (hb hby at_12)
    refine own_go st2 ?_
    show own_Goes _ _ _ _ _ _ _ T2 (mkF m 15 #[.val (.int p0), .val (.int p1), .val (.int p2), .val (.int p3), .val (.int p4), .val (.int p5), .unset, .unset, .unset, .unset, .unset, .unset, .unset, .unset] [(.ref aKUNION)])
    refine own_go (fun _ k => XS.astore X2.here hx rfl (hb hby at_15) rfl rfl (l' := #[.val (.int p0), .val (.int p1), .val (.int p2), .val (.int p3), .val (.int p4), .val (.int p5), .val (.ref aKUNION), .unset, .unset, .unset, .unset, .unset, .unset, .unset]) rfl k) ?_
    show own_Goes _ _ _ _ _ _ _ T2 (mkF m 17 #[.val (.int p0), .val (.int p1), .val (.int p2), .val (.int p3), .val (.int p4), .val (.int p5), .val (.ref aKUNION), .unset, .unset, .unset, .unset, .unset, .unset, .unset] [])
    exact seg17 p0 p1 p2 p3 p4 p5 aKUNION aD aE aL aM aX cD cX hw ⟨hx, hby, hml, hown, hnm, hret, hlk, hZ⟩ X2 e2 n0 Z0 N0 SD AD zD SE SL MM hEx EL FL AX zX Od0 G1 O2 P5
set_option maxRecDepth 65536 in
set_option maxHeartbeats 40000000 in
theorem comes_1 {Post : Tables → Env → Array Value → State → Outcome → State → Prop} (hpost : ∀ tb e args s v u, (limb_1_1.after args s (.returned v) u = true ∧ limb_1_2.after args s (.returned v) u = true ∧ True) → FrameEnd s (.returned v) u (Jvm.fieldLocs frame_1_writes args s ++ Jvm.arrayLocs frame_1_arrays args s ++ Jvm.staticLocs frame_1_statics s) 32 192 → Post tb e args s (.returned v) u) :
    ArmFor flags0 classFile x code maxLocals ret World_1 tables_1 room_1 Calls_1 rest_1 Pre_1 Post := by
  intro l hfl _ _ p e ha hc hk s m args below hf hA hF happ hP
  obtain ⟨hcalls, hrest, hpre⟩ := hP
  obtain ⟨-, -, -, hnamed, -, -, -, hat⟩ := (Spec.applies_iff hf).mp happ
  obtain ⟨hg, hn⟩ := and_e (Cond.before_iff.mp (show (Jvm.Cond.and given_1 narrow_1).before args s = true from hpre))
  obtain ⟨g0, gr0⟩ := and_e hg
  obtain ⟨ga0, gr1⟩ := and_e gr0
  obtain ⟨ga1, gr2⟩ := and_e gr1
  obtain ⟨ga2, gr3⟩ := and_e gr2
  obtain ⟨ga3, gr4⟩ := and_e gr3
  obtain ⟨ga4, gr5⟩ := and_e gr4
  have ga5 := gr5
  obtain ⟨w0, w1, w2, w3, w4, w5, rfl⟩ : ∃ w0 w1 w2 w3 w4 w5 : Value, args = #[w0, w1, w2, w3, w4, w5] := by
    have hs : args.size = 6 := by simpa [Cond.value, given_1] using g0
    obtain ⟨L⟩ := args
    match L, hs with
    | [w0, w1, w2, w3, w4, w5], _ => exact ⟨w0, w1, w2, w3, w4, w5, rfl⟩
  have hw := fun d (hd : d ∈ tables_1) => atoms_spec (ws := Jvm.Cond.code x code maxLocals ret :: tables_1) hat d (List.mem_cons_of_mem _ hd)
  have hfit : Fit s := fun {y c} hc i hi => by
    obtain ⟨ha, rfl⟩ := Array.getElem?_eq_some_iff.mp hc
    have q := List.all_eq_true.mp ((Array.all_eq_true_iff_forall_mem.mp hF) _ (Array.getElem_mem ha)) i (List.mem_range.mpr hi)
    simpa [Array.getElem?_eq_getElem hi] using q
  obtain ⟨i0, ei0⟩ := is_v ga0
  obtain rfl : w0 = (.int i0) := Option.some.inj ei0
  obtain ⟨i1, ei1⟩ := is_v ga1
  obtain rfl : w1 = (.int i1) := Option.some.inj ei1
  obtain ⟨i2, ei2⟩ := is_v ga2
  obtain rfl : w2 = (.int i2) := Option.some.inj ei2
  obtain ⟨i3, ei3⟩ := is_v ga3
  obtain rfl : w3 = (.int i3) := Option.some.inj ei3
  obtain ⟨i4, ei4⟩ := is_v ga4
  obtain rfl : w4 = (.int i4) := Option.some.inj ei4
  obtain ⟨i5, ei5⟩ := is_v ga5
  obtain rfl : w5 = (.int i5) := Option.some.inj ei5
  obtain ⟨hsets, -⟩ := atoms_of _ (rest_1_c_eq ▸ (show rest_1_c.before _ s = true from hrest))
  obtain ⟨cA, cB⟩ := and_e hn
  obtain ⟨aK0, vK0⟩ := exa_v cA
  have SK0 := Sta.start vK0 (Or.inr ⟨(hw _ (List.mem_of_getElem? (i := 1) rfl)), (hw _ (List.mem_of_getElem? (i := 2) rfl))⟩)
  obtain ⟨aK1, vK1⟩ := exa_v cB
  have SK1 := Sta.start vK1 (Or.inr ⟨(hw _ (List.mem_of_getElem? (i := 1) rfl)), (hw _ (List.mem_of_getElem? (i := 213) rfl))⟩)
  obtain ⟨aD, vD⟩ := exa_v (Cond.before_iff.mp (hsets _ (List.mem_of_getElem? (i := 7) rfl)))
  have SD := Sta.start vD (Or.inr ⟨(hw _ (List.mem_of_getElem? (i := 45) rfl)), (hsets _ (List.mem_of_getElem? (i := 2) rfl))⟩)
  obtain ⟨cD, AD⟩ := Arr.start vD (Cond.before_iff.mp (hsets _ (List.mem_of_getElem? (i := 6) rfl)))
  have zD := own_len (n := 0) vD AD (Cond.before_iff.mp (hsets _ (List.mem_of_getElem? (i := 8) rfl))) (by decide)
  obtain ⟨aE, vE⟩ := exa_v (Cond.before_iff.mp (hsets _ (List.mem_of_getElem? (i := 11) rfl)))
  have SE := Sta.start vE (Or.inl (hsets _ (List.mem_of_getElem? (i := 10) rfl)))
  have hEx := Exa.start vE (Cond.before_iff.mp (hsets _ (List.mem_of_getElem? (i := 11) rfl)))
  obtain ⟨aL, vL⟩ := exa_v (Cond.before_iff.mp (hsets _ (List.mem_of_getElem? (i := 17) rfl)))
  have SL := Sta.start vL (Or.inl (hsets _ (List.mem_of_getElem? (i := 16) rfl)))
  have EL := Exa.start vL (Cond.before_iff.mp (hsets _ (List.mem_of_getElem? (i := 17) rfl)))
  obtain ⟨aX, vX⟩ := exa_v (Cond.before_iff.mp (hsets _ (List.mem_of_getElem? (i := 31) rfl)))
  have FL := Fld.start ((fld_at vL).symm.trans vX)
  obtain ⟨cX, AX⟩ := Arr.start vX (Cond.before_iff.mp (hsets _ (List.mem_of_getElem? (i := 30) rfl)))
  have zX0 := own_len (n := 0) vX AX (Cond.before_iff.mp (hsets _ (List.mem_of_getElem? (i := 32) rfl))) (by decide)
  have zX : cX.slots.size.toInt32 = (0 : Int32) := by rw [zX0]; rfl
  have n3 := not_v (Cond.before_iff.mp (hsets _ (List.mem_of_getElem? (i := 20) rfl)))
  obtain ⟨G1, e6⟩ := is_v (Cond.before_iff.mp (hsets _ (List.mem_of_getElem? (i := 19) rfl)))
  have O2 : Sta s s.heap "java/lang/String" "COMPACT_STRINGS" "Z" (.int G1) := Sta.start e6 (Or.inl (hsets _ (List.mem_of_getElem? (i := 18) rfl)))
  have P5 : ¬ (G1 = (0 : Int32)) := gotF (Cond.eq_ints e6 (Term.int_eval (0))) n3
  obtain ⟨⟨cM, kM, aM, m1, m2, m3, clM, m4, m5⟩, -⟩ := hcalls
  have MM : Mir s "[Ljava/lang/Object;" aM := ⟨cM, kM, m1, m2, m3, clM, m4, m5⟩
  obtain ⟨n, o, h1, h2, h3, _, L, rfl, ⟨rfl, N⟩, hq⟩ := rm0 l s _ hw tables_1 i0 i1 i2 i3 i4 i5 aK0 aK1 aD aE aL aM aX cD cX s.heap s.heap.size (Nat.le_refl _) SK0 SK1 SD AD zD SE SL MM hEx EL FL AX zX (Old.start s) G1 O2 P5 p e ha hc hk s m _ below hf ((Spec.applies_iff_loose hf).mp happ).1 ⟨rfl, State.Warmed39.refl s, rfl⟩ trivial
  refine ⟨n, _, h1, h2, h3, hpost _ _ _ _ _ _ ⟨Cond.after_iff.mpr rfl, Cond.after_iff.mpr (eq_i res_at (Term.int_eval (1)) rfl), trivial⟩ ⟨hq.1, hq.2.1, (hq.2.2.sift fun y hy => Or.inr (N y hy)).mono (by decide) (by decide)⟩⟩
theorem main_1_1 : Claimed_1_1 := comes_1 fun _ _ _ _ _ _ h hF => ⟨h.1, hF⟩
theorem main_1_2 : Claimed_1_2 := comes_1 fun _ _ _ _ _ _ h hF => ⟨h.2.1, hF⟩
end Jvm.Pilot.@@N@@
namespace Jvm.Pilot.@@N@@
open Jvm Jvm.ClassFile Sem Op Lib Jvm.Free Jvm.Stand Jvm.Pilot.@@N@@.Jvm.D
/-! MADE BY PROGRAM (witnessworld.py) out of the Statement's table words and the real class files: 40 classes; the members and pool entries that the words name. The judged class is class 1, her method 1. -/
namespace start1
open Jvm.ClassFile
def u (s : String) : CpInfo := .utf8 (stringToUtf16 s)
/-- a pool by its gaps: so many unusable entries, then the entry; so many at the end -/
def gap : Nat → List CpInfo → List CpInfo
  | 0, r => r
  | n + 1, r => .unusable :: gap n r
def poolList (es : List (Nat × CpInfo)) (last : Nat) : List CpInfo := es.foldr (fun e r => gap e.1 (e.2 :: r)) (gap last [])
def pool (es : List (Nat × CpInfo)) (last : Nat) : Array CpInfo := ⟨poolList es last⟩
def fileOf (pool : Array CpInfo) (this : Nat) (attrs : Array Attribute := #[]) (ms : Array MethodInfo := #[]) (fl : Nat := 33) (sup : Nat := 0) (ifs : Array Nat := #[]) (fds : Array FieldInfo := #[]) : ClassFile where
  minorVersion := 0
  majorVersion := 65
  constantPool := pool
  accessFlags := fl
  thisClass := this
  superClass := sup
  interfaces := ifs
  fields := fds
  methods := ms
  attributes := attrs
def plain (name : String) (sup : Option ClassId) : Class where
  name := name
  kind := .ordinary
  loader := none
  accessFlags := 33
  super := sup
  interfaces := #[]
  cf := none
  fields := #[]
  methods := #[]
  instanceTypes := #[]
  staticTypes := #[]
  resolved := #[]
  callSites := []
  init := .initialized
  statics := none
  mirror := none

def pool0 : Array CpInfo := pool [(5, u "<init>"), (0, u "()V"), (1, .class_ 10), (1, u "java/lang/Object"), (0, u "getClass"), (0, u "()Ljava/lang/Class;")] 111

def k0c0 : Code := { maxStack := 0, maxLocals := 1, code := object_method_1_code, exceptionTable := #[], attributes := #[] }
def k0m0 : Method := { name := "<init>", desc := "()V", sig := { parameters := [], returnType := none }, accessFlags := 1, code := some k0c0 }
def k0m1 : Method := { name := "getClass", desc := "()Ljava/lang/Class;", sig := { parameters := [], returnType := some (.object "java/lang/Class") }, accessFlags := 273, code := none }
/-- java/lang/Object -/
def k0 : Class := { plain "java/lang/Object" none with
  accessFlags := 33
  interfaces := #[]
  cf := some (fileOf pool0 8 #[] #[{ accessFlags := 1, nameIndex := 5, descriptorIndex := 6, attributes := #[] }, { accessFlags := 273, nameIndex := 11, descriptorIndex := 12, attributes := #[] }] 33 0 #[] #[])
  fields := #[]
  methods := #[k0m0, k0m1]
  instanceTypes := #[]
  staticTypes := #[]
  resolved := Array.replicate 124 none
  statics := none }

def pool1 : Array CpInfo := pool [(2, .class_ 4), (0, .nameAndType 5 6), (0, u "java/lang/Object"), (0, u "<init>"), (0, u "()V"), (0, .fieldref 8 9), (0, .class_ 10), (0, .nameAndType 11 12), (0, u "com/example/treellis/treellis/cfa/StructType$Kind"), (0, u "STRUCT"), (0, u "Lcom/example/treellis/treellis/cfa/StructType$Kind;"), (0, .fieldref 8 14), (0, .nameAndType 15 12), (0, u "UNION"), (0, .methodref 17 18), (0, .class_ 19), (0, .nameAndType 20 21), (0, u "java/lang/String"), (0, u "valueOf"), (0, u "(C)Ljava/lang/String;"), (0, .class_ 23), (0, u "com/example/treellis/treellis/cfa/StructType"), (0, .methodref 22 25), (0, .nameAndType 5 26), (0, u "(Lcom/example/treellis/treellis/cfa/StructType$Kind;Ljava/lang/String;)V"), (0, .methodref 22 28), (0, .nameAndType 29 30), (0, u "isComplete"), (0, u "()Z"), (0, .methodref 22 32), (0, .nameAndType 33 34), (0, u "members"), (0, u "()Ljava/util/List;"), (0, .class_ 36), (0, u "com/example/treellis/treellis/cfa/StructType$Member"), (0, .methodref 35 38), (0, .nameAndType 5 39), (0, u "(Ljava/lang/String;Lcom/example/treellis/treellis/cfa/Type;Ljava/lang/Integer;I)V"), (0, .class_ 41), (0, u "java/util/ArrayList"), (0, .methodref 40 3), (0, .methodref 40 44), (0, .nameAndType 45 46), (0, u "add"), (0, u "(Ljava/lang/Object;)Z"), (0, .methodref 22 48), (0, .nameAndType 49 50), (0, u "complete"), (0, u "(Ljava/util/List;II)V"), (0, .interfaceMethodref 52 53), (0, .class_ 54), (0, .nameAndType 55 56), (0, u "java/util/List"), (0, u "size"), (0, u "()I"), (0, .methodref 22 58), (0, .nameAndType 59 56), (0, u "packing"), (0, .methodref 22 61), (0, .nameAndType 62 56), (0, u "alignment"), (0, .class_ 64), (0, u "com/example/treellis/treellis/cfa/StructTypeIsCompletePinLaw"), (2, u "law"), (0, u "(IIIIII)Z")] 6

def k1m0 : Method := { name := "<init>", desc := "()V", sig := { parameters := [], returnType := none }, accessFlags := 1, code := none }
def k1c1 : Code := { maxStack := 6, maxLocals := 14, code := code, exceptionTable := #[], attributes := #[] }
def k1m1 : Method := { name := "law", desc := "(IIIIII)Z", sig := { parameters := [.int, .int, .int, .int, .int, .int], returnType := some .boolean }, accessFlags := 9, code := some k1c1 }
/-- com/example/treellis/treellis/cfa/StructTypeIsCompletePinLaw -/
def k1 : Class := { plain "com/example/treellis/treellis/cfa/StructTypeIsCompletePinLaw" (some 0) with
  accessFlags := 49
  interfaces := #[]
  cf := some (fileOf pool1 63 #[] #[{ accessFlags := 1, nameIndex := 5, descriptorIndex := 6, attributes := #[] }, { accessFlags := 9, nameIndex := 67, descriptorIndex := 68, attributes := #[] }] 49 2 #[] #[])
  fields := #[]
  methods := #[k1m0, k1m1]
  instanceTypes := #[]
  staticTypes := #[]
  resolved := Array.replicate 75 none
  statics := none }

def pool2 : Array CpInfo := pool [(1, .class_ 2), (0, u "java/lang/constant/Constable"), (0, .class_ 4), (0, u "java/lang/Object")] 6

/-- java/lang/constant/Constable -/
def k2 : Class := { plain "java/lang/constant/Constable" (some 0) with
  accessFlags := 1537
  interfaces := #[]
  cf := some (fileOf pool2 1 #[] #[] 1537 3 #[] #[])
  fields := #[]
  methods := #[]
  instanceTypes := #[]
  staticTypes := #[]
  resolved := Array.replicate 11 none
  statics := none }

def pool3 : Array CpInfo := pool [(1, .class_ 2), (0, u "java/lang/Comparable"), (0, .class_ 4), (0, u "java/lang/Object")] 7

/-- java/lang/Comparable -/
def k3 : Class := { plain "java/lang/Comparable" (some 0) with
  accessFlags := 1537
  interfaces := #[]
  cf := some (fileOf pool3 1 #[] #[] 1537 3 #[] #[])
  fields := #[]
  methods := #[]
  instanceTypes := #[]
  staticTypes := #[]
  resolved := Array.replicate 12 none
  statics := none }

def pool4 : Array CpInfo := pool [(1, .class_ 2), (0, u "java/io/Serializable"), (0, .class_ 4), (0, u "java/lang/Object")] 2

/-- java/io/Serializable -/
def k4 : Class := { plain "java/io/Serializable" (some 0) with
  accessFlags := 1537
  interfaces := #[]
  cf := some (fileOf pool4 1 #[] #[] 1537 3 #[] #[])
  fields := #[]
  methods := #[]
  instanceTypes := #[]
  staticTypes := #[]
  resolved := Array.replicate 7 none
  statics := none }

def pool5 : Array CpInfo := pool [(2, .class_ 4), (1, u "java/lang/Enum"), (0, u "name"), (0, u "Ljava/lang/String;"), (2, u "ordinal"), (0, u "I"), (1, .class_ 14), (1, u "java/lang/Object"), (4, u "hash"), (86, .class_ 108), (1, u "java/lang/Enum$EnumDesc"), (2, .class_ 112), (0, u "java/lang/constant/Constable"), (0, .class_ 114), (0, u "java/lang/Comparable"), (0, .class_ 116), (0, u "java/io/Serializable")] 87

/-- java/lang/Enum -/
def k5 : Class := { plain "java/lang/Enum" (some 0) with
  accessFlags := 1057
  interfaces := #[2, 3, 4]
  cf := some (fileOf pool5 2 #[.nestMembers #[106]] #[] 1057 12 #[111, 113, 115] #[{ accessFlags := 18, nameIndex := 5, descriptorIndex := 6, attributes := #[] }, { accessFlags := 18, nameIndex := 9, descriptorIndex := 10, attributes := #[] }, { accessFlags := 2, nameIndex := 19, descriptorIndex := 10, attributes := #[] }])
  fields := #[{ name := "name", type := (.object "java/lang/String"), accessFlags := 18, slot := 0, constantValue := 0 }, { name := "ordinal", type := .int, accessFlags := 18, slot := 1, constantValue := 0 }, { name := "hash", type := .int, accessFlags := 2, slot := 2, constantValue := 0 }]
  methods := #[]
  instanceTypes := #[(.object "java/lang/String"), .int, .int]
  staticTypes := #[]
  resolved := Array.replicate 204 none
  statics := none }

def pool6 : Array CpInfo := pool [(1, .class_ 2), (0, u "com/example/treellis/treellis/cfa/StructType$Kind"), (2, u "STRUCT"), (0, u "Lcom/example/treellis/treellis/cfa/StructType$Kind;"), (2, u "UNION"), (2, u "$VALUES"), (0, u "[Lcom/example/treellis/treellis/cfa/StructType$Kind;"), (6, .class_ 22), (1, u "java/lang/Enum"), (25, .class_ 49), (0, u "com/example/treellis/treellis/cfa/StructType")] 2

/-- com/example/treellis/treellis/cfa/StructType$Kind -/
def k6 : Class := { plain "com/example/treellis/treellis/cfa/StructType$Kind" (some 5) with
  accessFlags := 16433
  interfaces := #[]
  cf := some (fileOf pool6 1 #[.nestHost 48] #[] 16433 20 #[] #[{ accessFlags := 16409, nameIndex := 5, descriptorIndex := 6, attributes := #[] }, { accessFlags := 16409, nameIndex := 9, descriptorIndex := 6, attributes := #[] }, { accessFlags := 4122, nameIndex := 12, descriptorIndex := 13, attributes := #[] }])
  fields := #[{ name := "STRUCT", type := (.object "com/example/treellis/treellis/cfa/StructType$Kind"), accessFlags := 16409, slot := 0, constantValue := 0 }, { name := "UNION", type := (.object "com/example/treellis/treellis/cfa/StructType$Kind"), accessFlags := 16409, slot := 1, constantValue := 0 }, { name := "$VALUES", type := (.array (.object "com/example/treellis/treellis/cfa/StructType$Kind")), accessFlags := 4122, slot := 2, constantValue := 0 }]
  methods := #[]
  instanceTypes := #[(.object "java/lang/String"), .int, .int]
  staticTypes := #[(.object "com/example/treellis/treellis/cfa/StructType$Kind"), (.object "com/example/treellis/treellis/cfa/StructType$Kind"), (.array (.object "com/example/treellis/treellis/cfa/StructType$Kind"))]
  resolved := Array.replicate 52 none
  statics := some 0 }

def pool7 : Array CpInfo := pool [(7, .class_ 8), (0, u "com/example/treellis/treellis/cfa/Type"), (0, .class_ 10), (0, u "java/lang/Object")] 17

/-- com/example/treellis/treellis/cfa/Type -/
def k7 : Class := { plain "com/example/treellis/treellis/cfa/Type" (some 0) with
  accessFlags := 1537
  interfaces := #[]
  cf := some (fileOf pool7 7 #[] #[] 1537 9 #[] #[])
  fields := #[]
  methods := #[]
  instanceTypes := #[]
  staticTypes := #[]
  resolved := Array.replicate 28 none
  statics := none }

def pool8 : Array CpInfo := pool [(1, .methodref 2 3), (0, .class_ 4), (0, .nameAndType 5 6), (0, u "java/lang/Object"), (0, u "<init>"), (0, u "()V"), (0, .fieldref 8 9), (0, .class_ 10), (0, .nameAndType 11 12), (0, u "com/example/treellis/treellis/cfa/StructType"), (0, u "kind"), (0, u "Lcom/example/treellis/treellis/cfa/StructType$Kind;"), (0, .fieldref 8 14), (0, .nameAndType 15 16), (0, u "tag"), (0, u "Ljava/lang/String;"), (0, .fieldref 8 18), (0, .nameAndType 19 20), (0, u "members"), (0, u "Ljava/util/List;"), (15, .interfaceMethodref 37 38), (0, .class_ 39), (0, .nameAndType 40 41), (0, u "java/util/List"), (0, u "copyOf"), (0, u "(Ljava/util/Collection;)Ljava/util/List;"), (0, .fieldref 8 43), (0, .nameAndType 44 45), (0, u "packing"), (0, u "I"), (0, .fieldref 8 47), (0, .nameAndType 48 45), (0, u "alignment"), (1, .class_ 52), (1, u "com/example/treellis/treellis/cfa/StructType$Kind"), (17, .class_ 71), (0, u "com/example/treellis/treellis/cfa/Type"), (2, u "(Lcom/example/treellis/treellis/cfa/StructType$Kind;Ljava/lang/String;)V"), (2, u "complete"), (0, u "(Ljava/util/List;II)V"), (3, u "isComplete"), (0, u "()Z"), (0, u "()Ljava/util/List;"), (1, u "()I"), (4, .class_ 92), (0, u "com/example/treellis/treellis/cfa/StructType$Member")] 19

def k8c0 : Code := { maxStack := 2, maxLocals := 3, code := prog_52_method_1_code, exceptionTable := #[], attributes := #[] }
def k8m0 : Method := { name := "<init>", desc := "(Lcom/example/treellis/treellis/cfa/StructType$Kind;Ljava/lang/String;)V", sig := { parameters := [(.object "com/example/treellis/treellis/cfa/StructType$Kind"), (.object "java/lang/String")], returnType := none }, accessFlags := 1, code := some k8c0 }
def k8c1 : Code := { maxStack := 3, maxLocals := 4, code := prog_52_method_2_code, exceptionTable := #[], attributes := #[] }
def k8m1 : Method := { name := "complete", desc := "(Ljava/util/List;II)V", sig := { parameters := [(.object "java/util/List"), .int, .int], returnType := none }, accessFlags := 1, code := some k8c1 }
def k8c2 : Code := { maxStack := 1, maxLocals := 1, code := prog_52_method_4_code, exceptionTable := #[], attributes := #[] }
def k8m2 : Method := { name := "isComplete", desc := "()Z", sig := { parameters := [], returnType := some .boolean }, accessFlags := 1, code := some k8c2 }
def k8c3 : Code := { maxStack := 1, maxLocals := 1, code := prog_52_method_5_code, exceptionTable := #[], attributes := #[] }
def k8m3 : Method := { name := "members", desc := "()Ljava/util/List;", sig := { parameters := [], returnType := some (.object "java/util/List") }, accessFlags := 1, code := some k8c3 }
def k8c4 : Code := { maxStack := 1, maxLocals := 1, code := prog_52_method_6_code, exceptionTable := #[], attributes := #[] }
def k8m4 : Method := { name := "packing", desc := "()I", sig := { parameters := [], returnType := some .int }, accessFlags := 1, code := some k8c4 }
def k8c5 : Code := { maxStack := 1, maxLocals := 1, code := prog_52_method_7_code, exceptionTable := #[], attributes := #[] }
def k8m5 : Method := { name := "alignment", desc := "()I", sig := { parameters := [], returnType := some .int }, accessFlags := 1, code := some k8c5 }
/-- com/example/treellis/treellis/cfa/StructType -/
def k8 : Class := { plain "com/example/treellis/treellis/cfa/StructType" (some 0) with
  accessFlags := 49
  interfaces := #[7]
  cf := some (fileOf pool8 8 #[.nestMembers #[91, 50]] #[{ accessFlags := 1, nameIndex := 5, descriptorIndex := 74, attributes := #[] }, { accessFlags := 1, nameIndex := 77, descriptorIndex := 78, attributes := #[] }, { accessFlags := 1, nameIndex := 82, descriptorIndex := 83, attributes := #[] }, { accessFlags := 1, nameIndex := 19, descriptorIndex := 84, attributes := #[] }, { accessFlags := 1, nameIndex := 44, descriptorIndex := 86, attributes := #[] }, { accessFlags := 1, nameIndex := 48, descriptorIndex := 86, attributes := #[] }] 49 2 #[70] #[{ accessFlags := 18, nameIndex := 11, descriptorIndex := 12, attributes := #[] }, { accessFlags := 18, nameIndex := 15, descriptorIndex := 16, attributes := #[] }, { accessFlags := 2, nameIndex := 19, descriptorIndex := 20, attributes := #[] }, { accessFlags := 2, nameIndex := 44, descriptorIndex := 45, attributes := #[] }, { accessFlags := 2, nameIndex := 48, descriptorIndex := 45, attributes := #[] }])
  fields := #[{ name := "kind", type := (.object "com/example/treellis/treellis/cfa/StructType$Kind"), accessFlags := 18, slot := 0, constantValue := 0 }, { name := "tag", type := (.object "java/lang/String"), accessFlags := 18, slot := 1, constantValue := 0 }, { name := "members", type := (.object "java/util/List"), accessFlags := 2, slot := 2, constantValue := 0 }, { name := "packing", type := .int, accessFlags := 2, slot := 3, constantValue := 0 }, { name := "alignment", type := .int, accessFlags := 2, slot := 4, constantValue := 0 }]
  methods := #[k8m0, k8m1, k8m2, k8m3, k8m4, k8m5]
  instanceTypes := #[(.object "com/example/treellis/treellis/cfa/StructType$Kind"), (.object "java/lang/String"), (.object "java/util/List"), .int, .int]
  staticTypes := #[]
  resolved := Array.replicate 112 none
  statics := none }

def pool9 : Array CpInfo := pool [(1, .methodref 2 3), (0, .class_ 4), (0, .nameAndType 5 6), (0, u "java/lang/Object"), (0, u "<init>"), (0, u "()V"), (0, .fieldref 8 9), (0, .class_ 10), (0, .nameAndType 11 12), (0, u "com/example/treellis/treellis/cfa/StructType$Member"), (0, u "name"), (0, u "Ljava/lang/String;"), (0, .fieldref 8 14), (0, .nameAndType 15 16), (0, u "type"), (0, u "Lcom/example/treellis/treellis/cfa/Type;"), (0, .fieldref 8 18), (0, .nameAndType 19 20), (0, u "bitWidth"), (0, u "Ljava/lang/Integer;"), (0, .fieldref 8 22), (0, .nameAndType 23 24), (0, u "alignment"), (0, u "I"), (0, u "(Ljava/lang/String;Lcom/example/treellis/treellis/cfa/Type;Ljava/lang/Integer;I)V"), (9, .class_ 36), (0, u "com/example/treellis/treellis/cfa/StructType")] 2

def k9c0 : Code := { maxStack := 2, maxLocals := 5, code := prog_54_method_1_code, exceptionTable := #[], attributes := #[] }
def k9m0 : Method := { name := "<init>", desc := "(Ljava/lang/String;Lcom/example/treellis/treellis/cfa/Type;Ljava/lang/Integer;I)V", sig := { parameters := [(.object "java/lang/String"), (.object "com/example/treellis/treellis/cfa/Type"), (.object "java/lang/Integer"), .int], returnType := none }, accessFlags := 1, code := some k9c0 }
/-- com/example/treellis/treellis/cfa/StructType$Member -/
def k9 : Class := { plain "com/example/treellis/treellis/cfa/StructType$Member" (some 0) with
  accessFlags := 49
  interfaces := #[]
  cf := some (fileOf pool9 8 #[.nestHost 35] #[{ accessFlags := 1, nameIndex := 5, descriptorIndex := 25, attributes := #[] }] 49 2 #[] #[{ accessFlags := 18, nameIndex := 11, descriptorIndex := 12, attributes := #[] }, { accessFlags := 18, nameIndex := 15, descriptorIndex := 16, attributes := #[] }, { accessFlags := 18, nameIndex := 19, descriptorIndex := 20, attributes := #[] }, { accessFlags := 18, nameIndex := 23, descriptorIndex := 24, attributes := #[] }])
  fields := #[{ name := "name", type := (.object "java/lang/String"), accessFlags := 18, slot := 0, constantValue := 0 }, { name := "type", type := (.object "com/example/treellis/treellis/cfa/Type"), accessFlags := 18, slot := 1, constantValue := 0 }, { name := "bitWidth", type := (.object "java/lang/Integer"), accessFlags := 18, slot := 2, constantValue := 0 }, { name := "alignment", type := .int, accessFlags := 18, slot := 3, constantValue := 0 }]
  methods := #[k9m0]
  instanceTypes := #[(.object "java/lang/String"), (.object "com/example/treellis/treellis/cfa/Type"), (.object "java/lang/Integer"), .int]
  staticTypes := #[]
  resolved := Array.replicate 39 none
  statics := none }

def pool10 : Array CpInfo := pool [(8, .class_ 10), (1, u "java/lang/Iterable"), (24, .class_ 36), (0, u "java/lang/Object")] 25

/-- java/lang/Iterable -/
def k10 : Class := { plain "java/lang/Iterable" (some 0) with
  accessFlags := 1537
  interfaces := #[]
  cf := some (fileOf pool10 8 #[] #[] 1537 35 #[] #[])
  fields := #[]
  methods := #[]
  instanceTypes := #[]
  staticTypes := #[]
  resolved := Array.replicate 62 none
  statics := none }

def pool11 : Array CpInfo := pool [(10, .class_ 12), (1, u "java/util/Collection"), (0, u "toArray"), (16, u "()Z"), (29, .class_ 61), (0, u "java/lang/Object"), (0, .class_ 63), (0, u "java/lang/Iterable"), (2, u "isEmpty"), (3, u "()[Ljava/lang/Object;")] 44

def k11m0 : Method := { name := "isEmpty", desc := "()Z", sig := { parameters := [], returnType := some .boolean }, accessFlags := 1025, code := none }
def k11m1 : Method := { name := "toArray", desc := "()[Ljava/lang/Object;", sig := { parameters := [], returnType := some (.array (.object "java/lang/Object")) }, accessFlags := 1025, code := none }
/-- java/util/Collection -/
def k11 : Class := { plain "java/util/Collection" (some 0) with
  accessFlags := 1537
  interfaces := #[10]
  cf := some (fileOf pool11 10 #[] #[{ accessFlags := 1025, nameIndex := 66, descriptorIndex := 30, attributes := #[] }, { accessFlags := 1025, nameIndex := 13, descriptorIndex := 70, attributes := #[] }] 1537 60 #[62] #[])
  fields := #[]
  methods := #[k11m0, k11m1]
  instanceTypes := #[]
  staticTypes := #[]
  resolved := Array.replicate 115 none
  statics := none }

def pool12 : Array CpInfo := pool [(1, .methodref 2 3), (0, .class_ 4), (0, .nameAndType 5 6), (0, u "java/lang/Object"), (0, u "<init>"), (0, u "()V"), (1, .class_ 10), (1, u "java/util/AbstractCollection"), (66, .class_ 78), (0, u "java/util/Collection")] 81

def k12c0 : Code := { maxStack := 1, maxLocals := 1, code := jdk_22_method_1_code, exceptionTable := #[], attributes := #[] }
def k12m0 : Method := { name := "<init>", desc := "()V", sig := { parameters := [], returnType := none }, accessFlags := 4, code := some k12c0 }
/-- java/util/AbstractCollection -/
def k12 : Class := { plain "java/util/AbstractCollection" (some 0) with
  accessFlags := 1057
  interfaces := #[11]
  cf := some (fileOf pool12 8 #[] #[{ accessFlags := 4, nameIndex := 5, descriptorIndex := 6, attributes := #[] }] 1057 2 #[77] #[])
  fields := #[]
  methods := #[k12m0]
  instanceTypes := #[]
  staticTypes := #[]
  resolved := Array.replicate 160 none
  statics := none }

def pool13 : Array CpInfo := pool [(8, .class_ 10), (1, u "java/util/SequencedCollection"), (15, .class_ 27), (0, u "java/lang/Object"), (0, .class_ 29), (0, u "java/util/Collection")] 27

/-- java/util/SequencedCollection -/
def k13 : Class := { plain "java/util/SequencedCollection" (some 0) with
  accessFlags := 1537
  interfaces := #[11]
  cf := some (fileOf pool13 8 #[] #[] 1537 26 #[28] #[])
  fields := #[]
  methods := #[]
  instanceTypes := #[]
  staticTypes := #[]
  resolved := Array.replicate 57 none
  statics := none }

def pool14 : Array CpInfo := pool [(8, .class_ 10), (1, u "java/util/List"), (20, u "(Ljava/lang/Object;)V"), (16, u "<init>"), (30, u "size"), (0, u "()I"), (7, u "of"), (1, .fieldref 91 92), (0, .class_ 93), (0, .nameAndType 94 95), (0, u "java/util/ImmutableCollections"), (0, u "EMPTY_LIST"), (0, u "Ljava/util/ImmutableCollections$ListN;"), (0, .class_ 97), (0, u "java/util/ImmutableCollections$List12"), (0, .methodref 96 99), (0, .nameAndType 48 31), (0, .methodref 96 101), (0, .nameAndType 48 102), (0, u "(Ljava/lang/Object;Ljava/lang/Object;)V"), (0, .class_ 104), (0, u "java/lang/Object"), (3, u "([Ljava/lang/Object;)Ljava/util/List;"), (0, .methodref 91 110), (0, .nameAndType 111 108), (0, u "listFromArray"), (0, .methodref 91 113), (0, .nameAndType 114 115), (0, u "listCopy"), (0, u "(Ljava/util/Collection;)Ljava/util/List;"), (3, u "()Ljava/util/List;"), (0, .class_ 121), (0, u "java/util/SequencedCollection"), (112, u "copyOf")] 16

def k14m0 : Method := { name := "size", desc := "()I", sig := { parameters := [], returnType := some .int }, accessFlags := 1025, code := none }
def k14c1 : Code := { maxStack := 1, maxLocals := 0, code := jdk_40_method_36_code, exceptionTable := #[], attributes := #[] }
def k14m1 : Method := { name := "of", desc := "()Ljava/util/List;", sig := { parameters := [], returnType := some (.object "java/util/List") }, accessFlags := 9, code := some k14c1 }
def k14c2 : Code := { maxStack := 5, maxLocals := 2, code := jdk_40_method_47_code, exceptionTable := #[], attributes := #[] }
def k14m2 : Method := { name := "of", desc := "([Ljava/lang/Object;)Ljava/util/List;", sig := { parameters := [(.array (.object "java/lang/Object"))], returnType := some (.object "java/util/List") }, accessFlags := 137, code := some k14c2 }
def k14c3 : Code := { maxStack := 1, maxLocals := 1, code := jdk_40_method_48_code, exceptionTable := #[], attributes := #[] }
def k14m3 : Method := { name := "copyOf", desc := "(Ljava/util/Collection;)Ljava/util/List;", sig := { parameters := [(.object "java/util/Collection")], returnType := some (.object "java/util/List") }, accessFlags := 9, code := some k14c3 }
/-- java/util/List -/
def k14 : Class := { plain "java/util/List" (some 0) with
  accessFlags := 1537
  interfaces := #[13]
  cf := some (fileOf pool14 8 #[] #[{ accessFlags := 1025, nameIndex := 79, descriptorIndex := 80, attributes := #[] }, { accessFlags := 9, nameIndex := 88, descriptorIndex := 119, attributes := #[] }, { accessFlags := 137, nameIndex := 88, descriptorIndex := 108, attributes := #[] }, { accessFlags := 9, nameIndex := 234, descriptorIndex := 115, attributes := #[] }] 1537 103 #[120] #[])
  fields := #[]
  methods := #[k14m0, k14m1, k14m2, k14m3]
  instanceTypes := #[]
  staticTypes := #[]
  resolved := Array.replicate 251 none
  statics := none }

def pool15 : Array CpInfo := pool [(1, .methodref 2 3), (0, .class_ 4), (0, .nameAndType 5 6), (0, u "java/util/AbstractCollection"), (0, u "<init>"), (0, u "()V"), (0, .fieldref 8 9), (0, .class_ 10), (0, .nameAndType 11 12), (0, u "java/util/AbstractList"), (0, u "modCount"), (0, u "I"), (64, .class_ 78), (0, u "java/util/AbstractList$Itr"), (3, .class_ 83), (0, u "java/util/AbstractList$ListItr"), (9, .class_ 94), (0, u "java/util/AbstractList$RandomAccessSubList"), (3, .class_ 99), (0, u "java/util/AbstractList$SubList"), (33, .class_ 134), (0, u "java/util/List"), (73, .class_ 209), (0, u "java/util/AbstractList$SubList$1"), (0, .class_ 211), (0, u "java/util/AbstractList$RandomAccessSpliterator")] 6

def k15c0 : Code := { maxStack := 2, maxLocals := 1, code := jdk_39_method_1_code, exceptionTable := #[], attributes := #[] }
def k15m0 : Method := { name := "<init>", desc := "()V", sig := { parameters := [], returnType := none }, accessFlags := 4, code := some k15c0 }
/-- java/util/AbstractList -/
def k15 : Class := { plain "java/util/AbstractList" (some 12) with
  accessFlags := 1057
  interfaces := #[14]
  cf := some (fileOf pool15 8 #[.nestMembers #[93, 98, 208, 210, 82, 77]] #[{ accessFlags := 4, nameIndex := 5, descriptorIndex := 6, attributes := #[] }] 1057 2 #[133] #[{ accessFlags := 132, nameIndex := 11, descriptorIndex := 12, attributes := #[] }])
  fields := #[{ name := "modCount", type := .int, accessFlags := 132, slot := 0, constantValue := 0 }]
  methods := #[k15m0]
  instanceTypes := #[.int]
  staticTypes := #[]
  resolved := Array.replicate 218 none
  statics := none }

def pool16 : Array CpInfo := pool [(1, .class_ 2), (0, u "java/util/RandomAccess"), (0, .class_ 4), (0, u "java/lang/Object")] 2

/-- java/util/RandomAccess -/
def k16 : Class := { plain "java/util/RandomAccess" (some 0) with
  accessFlags := 1537
  interfaces := #[]
  cf := some (fileOf pool16 1 #[] #[] 1537 3 #[] #[])
  fields := #[]
  methods := #[]
  instanceTypes := #[]
  staticTypes := #[]
  resolved := Array.replicate 7 none
  statics := none }

def pool17 : Array CpInfo := pool [(1, .class_ 2), (0, u "java/lang/Cloneable"), (0, .class_ 4), (0, u "java/lang/Object")] 2

/-- java/lang/Cloneable -/
def k17 : Class := { plain "java/lang/Cloneable" (some 0) with
  accessFlags := 1537
  interfaces := #[]
  cf := some (fileOf pool17 1 #[] #[] 1537 3 #[] #[])
  fields := #[]
  methods := #[]
  instanceTypes := #[]
  staticTypes := #[]
  resolved := Array.replicate 7 none
  statics := none }

def pool18 : Array CpInfo := pool [(1, .methodref 2 3), (0, .class_ 4), (0, .nameAndType 5 6), (0, u "java/util/AbstractList"), (0, u "<init>"), (0, u "()V"), (0, .class_ 8), (0, u "java/lang/Object"), (0, .fieldref 10 11), (0, .class_ 12), (0, .nameAndType 13 14), (0, u "java/util/ArrayList"), (0, u "elementData"), (0, u "[Ljava/lang/Object;"), (2, u "EMPTY_ELEMENTDATA"), (21, .fieldref 10 40), (0, .nameAndType 41 14), (0, u "DEFAULTCAPACITY_EMPTY_ELEMENTDATA"), (4, u "toArray"), (0, u "()[Ljava/lang/Object;"), (0, .fieldref 10 49), (0, .nameAndType 50 51), (0, u "size"), (0, u "I"), (6, .class_ 60), (1, u "java/util/Arrays"), (0, u "copyOf"), (1, .fieldref 10 64), (0, .nameAndType 65 51), (0, u "modCount"), (0, .methodref 58 67), (0, .nameAndType 61 68), (0, u "([Ljava/lang/Object;I)[Ljava/lang/Object;"), (0, .methodref 10 70), (0, .nameAndType 71 72), (0, u "grow"), (0, u "(I)[Ljava/lang/Object;"), (6, .methodref 80 81), (0, .class_ 82), (0, .nameAndType 83 84), (0, u "java/lang/Math"), (0, u "max"), (0, u "(II)I"), (11, u "(Ljava/lang/Object;)Z"), (32, .methodref 10 130), (0, .nameAndType 71 47), (0, .methodref 10 132), (0, .nameAndType 133 134), (0, u "add"), (0, u "(Ljava/lang/Object;[Ljava/lang/Object;I)V"), (13, .class_ 149), (0, u "java/util/List"), (23, u "()Z"), (88, .class_ 263), (0, u "java/util/ArrayList$ListItr"), (3, .class_ 268), (0, u "java/util/ArrayList$Itr"), (7, .class_ 277), (0, u "java/util/ArrayList$SubList"), (12, .class_ 291), (0, u "java/util/ArrayList$ArrayListSpliterator"), (37, .class_ 330), (0, u "java/util/RandomAccess"), (0, .class_ 332), (0, u "java/lang/Cloneable"), (0, .class_ 334), (0, u "java/io/Serializable"), (0, u "serialVersionUID"), (0, u "J"), (3, u "DEFAULT_CAPACITY"), (22, u "isEmpty"), (136, .class_ 501), (0, u "java/util/ArrayList$SubList$2"), (0, .class_ 503), (0, u "java/util/ArrayList$SubList$1")] 5

def k18c0 : Code := { maxStack := 2, maxLocals := 1, code := jdk_38_method_2_code, exceptionTable := #[], attributes := #[] }
def k18m0 : Method := { name := "<init>", desc := "()V", sig := { parameters := [], returnType := none }, accessFlags := 1, code := some k18c0 }
def k18c1 : Code := { maxStack := 4, maxLocals := 4, code := jdk_38_method_6_code, exceptionTable := #[], attributes := #[] }
def k18m1 : Method := { name := "grow", desc := "(I)[Ljava/lang/Object;", sig := { parameters := [.int], returnType := some (.array (.object "java/lang/Object")) }, accessFlags := 2, code := some k18c1 }
def k18c2 : Code := { maxStack := 3, maxLocals := 1, code := jdk_38_method_7_code, exceptionTable := #[], attributes := #[] }
def k18m2 : Method := { name := "grow", desc := "()[Ljava/lang/Object;", sig := { parameters := [], returnType := some (.array (.object "java/lang/Object")) }, accessFlags := 2, code := some k18c2 }
def k18c3 : Code := { maxStack := 1, maxLocals := 1, code := jdk_38_method_9_code, exceptionTable := #[], attributes := #[] }
def k18m3 : Method := { name := "isEmpty", desc := "()Z", sig := { parameters := [], returnType := some .boolean }, accessFlags := 1, code := some k18c3 }
def k18c4 : Code := { maxStack := 2, maxLocals := 1, code := jdk_38_method_16_code, exceptionTable := #[], attributes := #[] }
def k18m4 : Method := { name := "toArray", desc := "()[Ljava/lang/Object;", sig := { parameters := [], returnType := some (.array (.object "java/lang/Object")) }, accessFlags := 1, code := some k18c4 }
def k18c5 : Code := { maxStack := 3, maxLocals := 4, code := jdk_38_method_24_code, exceptionTable := #[], attributes := #[] }
def k18m5 : Method := { name := "add", desc := "(Ljava/lang/Object;[Ljava/lang/Object;I)V", sig := { parameters := [(.object "java/lang/Object"), (.array (.object "java/lang/Object")), .int], returnType := none }, accessFlags := 2, code := some k18c5 }
def k18c6 : Code := { maxStack := 4, maxLocals := 2, code := jdk_38_method_25_code, exceptionTable := #[], attributes := #[] }
def k18m6 : Method := { name := "add", desc := "(Ljava/lang/Object;)Z", sig := { parameters := [(.object "java/lang/Object")], returnType := some .boolean }, accessFlags := 1, code := some k18c6 }
/-- java/util/ArrayList -/
def k18 : Class := { plain "java/util/ArrayList" (some 15) with
  accessFlags := 33
  interfaces := #[14, 16, 17, 4]
  cf := some (fileOf pool18 10 #[.nestMembers #[290, 276, 500, 502, 262, 267]] #[{ accessFlags := 1, nameIndex := 5, descriptorIndex := 6, attributes := #[] }, { accessFlags := 2, nameIndex := 71, descriptorIndex := 72, attributes := #[] }, { accessFlags := 2, nameIndex := 71, descriptorIndex := 47, attributes := #[] }, { accessFlags := 1, nameIndex := 363, descriptorIndex := 173, attributes := #[] }, { accessFlags := 1, nameIndex := 46, descriptorIndex := 47, attributes := #[] }, { accessFlags := 2, nameIndex := 133, descriptorIndex := 134, attributes := #[] }, { accessFlags := 1, nameIndex := 133, descriptorIndex := 96, attributes := #[] }] 33 2 #[148, 329, 331, 333] #[{ accessFlags := 26, nameIndex := 335, descriptorIndex := 336, attributes := #[] }, { accessFlags := 26, nameIndex := 340, descriptorIndex := 51, attributes := #[] }, { accessFlags := 26, nameIndex := 17, descriptorIndex := 14, attributes := #[] }, { accessFlags := 26, nameIndex := 41, descriptorIndex := 14, attributes := #[] }, { accessFlags := 128, nameIndex := 13, descriptorIndex := 14, attributes := #[] }, { accessFlags := 2, nameIndex := 50, descriptorIndex := 51, attributes := #[] }])
  fields := #[{ name := "serialVersionUID", type := .long, accessFlags := 26, slot := 0, constantValue := 0 }, { name := "DEFAULT_CAPACITY", type := .int, accessFlags := 26, slot := 1, constantValue := 0 }, { name := "EMPTY_ELEMENTDATA", type := (.array (.object "java/lang/Object")), accessFlags := 26, slot := 2, constantValue := 0 }, { name := "DEFAULTCAPACITY_EMPTY_ELEMENTDATA", type := (.array (.object "java/lang/Object")), accessFlags := 26, slot := 3, constantValue := 0 }, { name := "elementData", type := (.array (.object "java/lang/Object")), accessFlags := 128, slot := 1, constantValue := 0 }, { name := "size", type := .int, accessFlags := 2, slot := 2, constantValue := 0 }]
  methods := #[k18m0, k18m1, k18m2, k18m3, k18m4, k18m5, k18m6]
  instanceTypes := #[.int, (.array (.object "java/lang/Object")), .int]
  staticTypes := #[.long, .int, (.array (.object "java/lang/Object")), (.array (.object "java/lang/Object"))]
  resolved := Array.replicate 509 none
  statics := some 1 }

def pool19 : Array CpInfo := pool [(1, .class_ 2), (0, u "java/lang/Math"), (1, .class_ 6), (1, u "java/lang/Object"), (0, u "<init>"), (0, u "()V"), (89, .class_ 100), (1, u "java/lang/Math$RandomNumberGeneratorHolder"), (71, u "negativeZeroFloatBits"), (0, u "J"), (2, u "negativeZeroDoubleBits"), (21, u "max"), (2, u "min"), (43, u "$assertionsDisabled"), (0, u "Z"), (88, u "(II)I"), (2, u "twoToTheDoubleScaleDown"), (0, u "D"), (4, u "twoToTheDoubleScaleUp"), (9, u "E"), (3, u "PI"), (2, u "TAU"), (2, u "DEGREES_TO_RADIANS"), (0, u "RADIANS_TO_DEGREES")] 94

def k19m0 : Method := { name := "<init>", desc := "()V", sig := { parameters := [], returnType := none }, accessFlags := 2, code := none }
def k19c1 : Code := { maxStack := 2, maxLocals := 2, code := jdk_29_method_65_code, exceptionTable := #[], attributes := #[] }
def k19m1 : Method := { name := "max", desc := "(II)I", sig := { parameters := [.int, .int], returnType := some .int }, accessFlags := 9, code := some k19c1 }
def k19c2 : Code := { maxStack := 2, maxLocals := 2, code := jdk_29_method_69_code, exceptionTable := #[], attributes := #[] }
def k19m2 : Method := { name := "min", desc := "(II)I", sig := { parameters := [.int, .int], returnType := some .int }, accessFlags := 9, code := some k19c2 }
/-- java/lang/Math -/
def k19 : Class := { plain "java/lang/Math" (some 0) with
  accessFlags := 49
  interfaces := #[]
  cf := some (fileOf pool19 1 #[.nestMembers #[98]] #[{ accessFlags := 2, nameIndex := 7, descriptorIndex := 8, attributes := #[] }, { accessFlags := 9, nameIndex := 198, descriptorIndex := 335, attributes := #[] }, { accessFlags := 9, nameIndex := 201, descriptorIndex := 335, attributes := #[] }] 49 4 #[] #[{ accessFlags := 25, nameIndex := 354, descriptorIndex := 339, attributes := #[] }, { accessFlags := 25, nameIndex := 358, descriptorIndex := 339, attributes := #[] }, { accessFlags := 25, nameIndex := 361, descriptorIndex := 339, attributes := #[] }, { accessFlags := 26, nameIndex := 364, descriptorIndex := 339, attributes := #[] }, { accessFlags := 26, nameIndex := 365, descriptorIndex := 339, attributes := #[] }, { accessFlags := 26, nameIndex := 172, descriptorIndex := 173, attributes := #[] }, { accessFlags := 26, nameIndex := 176, descriptorIndex := 173, attributes := #[] }, { accessFlags := 8, nameIndex := 344, descriptorIndex := 339, attributes := #[] }, { accessFlags := 8, nameIndex := 338, descriptorIndex := 339, attributes := #[] }, { accessFlags := 4120, nameIndex := 245, descriptorIndex := 246, attributes := #[] }])
  fields := #[{ name := "E", type := .double, accessFlags := 25, slot := 0, constantValue := 0 }, { name := "PI", type := .double, accessFlags := 25, slot := 1, constantValue := 0 }, { name := "TAU", type := .double, accessFlags := 25, slot := 2, constantValue := 0 }, { name := "DEGREES_TO_RADIANS", type := .double, accessFlags := 26, slot := 3, constantValue := 0 }, { name := "RADIANS_TO_DEGREES", type := .double, accessFlags := 26, slot := 4, constantValue := 0 }, { name := "negativeZeroFloatBits", type := .long, accessFlags := 26, slot := 5, constantValue := 0 }, { name := "negativeZeroDoubleBits", type := .long, accessFlags := 26, slot := 6, constantValue := 0 }, { name := "twoToTheDoubleScaleUp", type := .double, accessFlags := 8, slot := 7, constantValue := 0 }, { name := "twoToTheDoubleScaleDown", type := .double, accessFlags := 8, slot := 8, constantValue := 0 }, { name := "$assertionsDisabled", type := .boolean, accessFlags := 4120, slot := 9, constantValue := 0 }]
  methods := #[k19m0, k19m1, k19m2]
  instanceTypes := #[]
  staticTypes := #[.double, .double, .double, .double, .double, .long, .long, .double, .double, .boolean]
  resolved := Array.replicate 460 none
  statics := none }

def pool20 : Array CpInfo := pool [(2, .class_ 4), (1, u "java/lang/Object"), (0, u "<init>"), (0, u "()V"), (3, .class_ 11), (0, u "java/util/ImmutableCollections$List12"), (0, .class_ 13), (0, u "java/util/ImmutableCollections$ListN"), (3, u "Z"), (0, .class_ 19), (0, u "java/util/List"), (0, .interfaceMethodref 21 22), (0, .class_ 23), (0, .nameAndType 24 25), (0, u "java/util/Collection"), (0, u "isEmpty"), (0, u "()Z"), (0, .interfaceMethodref 18 27), (0, .nameAndType 28 29), (0, u "of"), (0, u "()Ljava/util/List;"), (0, .interfaceMethodref 21 31), (0, .nameAndType 32 33), (0, u "toArray"), (0, u "()[Ljava/lang/Object;"), (0, .interfaceMethodref 18 35), (0, .nameAndType 28 36), (0, u "([Ljava/lang/Object;)Ljava/util/List;"), (0, .methodref 38 39), (0, .class_ 40), (0, .nameAndType 41 42), (0, u "java/util/Objects"), (0, u "requireNonNull"), (0, u "(Ljava/lang/Object;)Ljava/lang/Object;"), (0, .methodref 12 44), (0, .nameAndType 5 45), (0, u "([Ljava/lang/Object;Z)V"), (1, .class_ 49), (1, u "java/util/ImmutableCollections"), (0, u "$assertionsDisabled"), (5, u "[Ljava/lang/Object;"), (5, u "EMPTY_LIST"), (0, u "Ljava/util/ImmutableCollections$ListN;"), (8, u "EMPTY_LIST_NULLS"), (22, u "SALT32L"), (0, u "J"), (2, u "REVERSE"), (6, u "archivedObjects"), (2, u "EMPTY"), (0, u "Ljava/lang/Object;"), (0, .class_ 112), (0, u "java/util/ImmutableCollections$SetN"), (5, u "EMPTY_SET"), (0, u "Ljava/util/ImmutableCollections$SetN;"), (0, .class_ 121), (0, u "java/util/ImmutableCollections$MapN"), (3, u "EMPTY_MAP"), (0, u "Ljava/util/ImmutableCollections$MapN;"), (4, u "EXPAND_FACTOR"), (0, u "I"), (9, u "listCopy"), (0, u "(Ljava/util/Collection;)Ljava/util/List;"), (7, u "listFromArray"), (17, .class_ 170), (0, u "java/util/ImmutableCollections$MapN$MapNIterator"), (0, .class_ 172), (0, u "java/util/ImmutableCollections$MapN$1"), (0, .class_ 174), (0, u "java/util/ImmutableCollections$Map1"), (0, .class_ 176), (0, u "java/util/ImmutableCollections$AbstractImmutableMap"), (0, .class_ 178), (0, u "java/util/ImmutableCollections$SetN$SetNIterator"), (0, .class_ 180), (0, u "java/util/ImmutableCollections$Set12"), (0, .class_ 182), (0, u "java/util/ImmutableCollections$Set12$1"), (0, .class_ 184), (0, u "java/util/ImmutableCollections$AbstractImmutableSet"), (0, .class_ 186), (0, u "java/util/ImmutableCollections$SubList"), (0, .class_ 188), (0, u "java/util/ImmutableCollections$ListItr"), (0, .class_ 190), (0, u "java/util/ImmutableCollections$AbstractImmutableList"), (0, .class_ 192), (0, u "java/util/ImmutableCollections$AbstractImmutableCollection"), (0, .class_ 194), (0, u "java/util/ImmutableCollections$Access"), (0, .class_ 196), (0, u "java/util/ImmutableCollections$Access$1")] 16

def k20m0 : Method := { name := "<init>", desc := "()V", sig := { parameters := [], returnType := none }, accessFlags := 2, code := none }
def k20c1 : Code := { maxStack := 1, maxLocals := 2, code := jdk_56_method_3_code, exceptionTable := #[], attributes := #[] }
def k20m1 : Method := { name := "listCopy", desc := "(Ljava/util/Collection;)Ljava/util/List;", sig := { parameters := [(.object "java/util/Collection")], returnType := some (.object "java/util/List") }, accessFlags := 8, code := some k20c1 }
def k20c2 : Code := { maxStack := 4, maxLocals := 3, code := jdk_56_method_4_code, exceptionTable := #[], attributes := #[] }
def k20m2 : Method := { name := "listFromArray", desc := "([Ljava/lang/Object;)Ljava/util/List;", sig := { parameters := [(.array (.object "java/lang/Object"))], returnType := some (.object "java/util/List") }, accessFlags := 136, code := some k20c2 }
/-- java/util/ImmutableCollections -/
def k20 : Class := { plain "java/util/ImmutableCollections" (some 0) with
  accessFlags := 32
  interfaces := #[]
  cf := some (fileOf pool20 47 #[.nestMembers #[120, 169, 171, 173, 175, 111, 177, 179, 181, 183, 12, 10, 185, 187, 189, 191, 193, 195]] #[{ accessFlags := 2, nameIndex := 5, descriptorIndex := 6, attributes := #[] }, { accessFlags := 8, nameIndex := 142, descriptorIndex := 143, attributes := #[] }, { accessFlags := 136, nameIndex := 151, descriptorIndex := 36, attributes := #[] }] 32 2 #[] #[{ accessFlags := 26, nameIndex := 95, descriptorIndex := 96, attributes := #[] }, { accessFlags := 26, nameIndex := 99, descriptorIndex := 17, attributes := #[] }, { accessFlags := 10, nameIndex := 106, descriptorIndex := 56, attributes := #[] }, { accessFlags := 26, nameIndex := 109, descriptorIndex := 110, attributes := #[] }, { accessFlags := 24, nameIndex := 62, descriptorIndex := 63, attributes := #[] }, { accessFlags := 24, nameIndex := 72, descriptorIndex := 63, attributes := #[] }, { accessFlags := 24, nameIndex := 118, descriptorIndex := 119, attributes := #[] }, { accessFlags := 24, nameIndex := 125, descriptorIndex := 126, attributes := #[] }, { accessFlags := 24, nameIndex := 131, descriptorIndex := 132, attributes := #[] }, { accessFlags := 4120, nameIndex := 50, descriptorIndex := 17, attributes := #[] }])
  fields := #[{ name := "SALT32L", type := .long, accessFlags := 26, slot := 0, constantValue := 0 }, { name := "REVERSE", type := .boolean, accessFlags := 26, slot := 1, constantValue := 0 }, { name := "archivedObjects", type := (.array (.object "java/lang/Object")), accessFlags := 10, slot := 2, constantValue := 0 }, { name := "EMPTY", type := (.object "java/lang/Object"), accessFlags := 26, slot := 3, constantValue := 0 }, { name := "EMPTY_LIST", type := (.object "java/util/ImmutableCollections$ListN"), accessFlags := 24, slot := 4, constantValue := 0 }, { name := "EMPTY_LIST_NULLS", type := (.object "java/util/ImmutableCollections$ListN"), accessFlags := 24, slot := 5, constantValue := 0 }, { name := "EMPTY_SET", type := (.object "java/util/ImmutableCollections$SetN"), accessFlags := 24, slot := 6, constantValue := 0 }, { name := "EMPTY_MAP", type := (.object "java/util/ImmutableCollections$MapN"), accessFlags := 24, slot := 7, constantValue := 0 }, { name := "EXPAND_FACTOR", type := .int, accessFlags := 24, slot := 8, constantValue := 0 }, { name := "$assertionsDisabled", type := .boolean, accessFlags := 4120, slot := 9, constantValue := 0 }]
  methods := #[k20m0, k20m1, k20m2]
  instanceTypes := #[]
  staticTypes := #[.long, .boolean, (.array (.object "java/lang/Object")), (.object "java/lang/Object"), (.object "java/util/ImmutableCollections$ListN"), (.object "java/util/ImmutableCollections$ListN"), (.object "java/util/ImmutableCollections$SetN"), (.object "java/util/ImmutableCollections$MapN"), .int, .boolean]
  resolved := Array.replicate 213 none
  statics := some 2 }

def pool21 : Array CpInfo := pool [(1, .methodref 2 3), (0, .class_ 4), (0, .nameAndType 5 6), (0, u "java/util/AbstractCollection"), (0, u "<init>"), (0, u "()V"), (1, .class_ 10), (1, u "java/util/ImmutableCollections"), (2, .class_ 14), (0, u "java/util/ImmutableCollections$AbstractImmutableCollection")] 41

def k21c0 : Code := { maxStack := 1, maxLocals := 1, code := jdk_47_method_1_code, exceptionTable := #[], attributes := #[] }
def k21m0 : Method := { name := "<init>", desc := "()V", sig := { parameters := [], returnType := none }, accessFlags := 0, code := some k21c0 }
/-- java/util/ImmutableCollections$AbstractImmutableCollection -/
def k21 : Class := { plain "java/util/ImmutableCollections$AbstractImmutableCollection" (some 12) with
  accessFlags := 1056
  interfaces := #[]
  cf := some (fileOf pool21 13 #[.nestHost 8] #[{ accessFlags := 0, nameIndex := 5, descriptorIndex := 6, attributes := #[] }] 1056 2 #[] #[])
  fields := #[]
  methods := #[k21m0]
  instanceTypes := #[]
  staticTypes := #[]
  resolved := Array.replicate 56 none
  statics := none }

def pool22 : Array CpInfo := pool [(1, .methodref 2 3), (0, .class_ 4), (0, .nameAndType 5 6), (0, u "java/util/ImmutableCollections$AbstractImmutableCollection"), (0, u "<init>"), (0, u "()V"), (1, .class_ 10), (1, u "java/util/ImmutableCollections"), (3, .class_ 16), (1, u "java/util/ImmutableCollections$AbstractImmutableList"), (60, .class_ 78), (0, u "java/util/List"), (45, .class_ 125), (0, u "java/util/RandomAccess")] 70

def k22c0 : Code := { maxStack := 1, maxLocals := 1, code := jdk_46_method_1_code, exceptionTable := #[], attributes := #[] }
def k22m0 : Method := { name := "<init>", desc := "()V", sig := { parameters := [], returnType := none }, accessFlags := 0, code := some k22c0 }
/-- java/util/ImmutableCollections$AbstractImmutableList -/
def k22 : Class := { plain "java/util/ImmutableCollections$AbstractImmutableList" (some 21) with
  accessFlags := 1056
  interfaces := #[14, 16]
  cf := some (fileOf pool22 14 #[.nestHost 8] #[{ accessFlags := 0, nameIndex := 5, descriptorIndex := 6, attributes := #[] }] 1056 2 #[77, 124] #[])
  fields := #[]
  methods := #[k22m0]
  instanceTypes := #[]
  staticTypes := #[]
  resolved := Array.replicate 196 none
  statics := none }

def pool23 : Array CpInfo := pool [(1, .methodref 2 3), (0, .class_ 4), (0, .nameAndType 5 6), (0, u "java/util/ImmutableCollections$AbstractImmutableList"), (0, u "<init>"), (0, u "()V"), (0, .methodref 8 9), (0, .class_ 10), (0, .nameAndType 11 12), (0, u "java/util/Objects"), (0, u "requireNonNull"), (0, u "(Ljava/lang/Object;)Ljava/lang/Object;"), (0, .fieldref 14 15), (0, .class_ 16), (0, .nameAndType 17 18), (0, u "java/util/ImmutableCollections$List12"), (0, u "e0"), (0, u "Ljava/lang/Object;"), (0, .fieldref 20 21), (0, .class_ 22), (0, .nameAndType 23 18), (0, u "java/util/ImmutableCollections"), (0, u "EMPTY"), (0, .fieldref 14 25), (0, .nameAndType 26 18), (0, u "e1"), (24, u "size"), (0, u "()I"), (17, .class_ 71), (0, u "java/io/Serializable"), (4, u "(Ljava/lang/Object;)V"), (8, u "(Ljava/lang/Object;Ljava/lang/Object;)V")] 39

def k23c0 : Code := { maxStack := 2, maxLocals := 2, code := jdk_44_method_1_code, exceptionTable := #[], attributes := #[] }
def k23m0 : Method := { name := "<init>", desc := "(Ljava/lang/Object;)V", sig := { parameters := [(.object "java/lang/Object")], returnType := none }, accessFlags := 0, code := some k23c0 }
def k23c1 : Code := { maxStack := 2, maxLocals := 3, code := jdk_44_method_2_code, exceptionTable := #[], attributes := #[] }
def k23m1 : Method := { name := "<init>", desc := "(Ljava/lang/Object;Ljava/lang/Object;)V", sig := { parameters := [(.object "java/lang/Object"), (.object "java/lang/Object")], returnType := none }, accessFlags := 0, code := some k23c1 }
def k23c2 : Code := { maxStack := 2, maxLocals := 1, code := jdk_44_method_3_code, exceptionTable := #[], attributes := #[] }
def k23m2 : Method := { name := "size", desc := "()I", sig := { parameters := [], returnType := some .int }, accessFlags := 1, code := some k23c2 }
/-- java/util/ImmutableCollections$List12 -/
def k23 : Class := { plain "java/util/ImmutableCollections$List12" (some 22) with
  accessFlags := 48
  interfaces := #[4]
  cf := some (fileOf pool23 14 #[.nestHost 20] #[{ accessFlags := 0, nameIndex := 5, descriptorIndex := 76, attributes := #[] }, { accessFlags := 0, nameIndex := 5, descriptorIndex := 85, attributes := #[] }, { accessFlags := 1, nameIndex := 51, descriptorIndex := 52, attributes := #[] }] 48 2 #[70] #[{ accessFlags := 18, nameIndex := 17, descriptorIndex := 18, attributes := #[] }, { accessFlags := 18, nameIndex := 26, descriptorIndex := 18, attributes := #[] }])
  fields := #[{ name := "e0", type := (.object "java/lang/Object"), accessFlags := 18, slot := 0, constantValue := 0 }, { name := "e1", type := (.object "java/lang/Object"), accessFlags := 18, slot := 1, constantValue := 0 }]
  methods := #[k23m0, k23m1, k23m2]
  instanceTypes := #[(.object "java/lang/Object"), (.object "java/lang/Object")]
  staticTypes := #[]
  resolved := Array.replicate 125 none
  statics := none }

def pool24 : Array CpInfo := pool [(1, .methodref 2 3), (0, .class_ 4), (0, .nameAndType 5 6), (0, u "java/util/ImmutableCollections$AbstractImmutableList"), (0, u "<init>"), (0, u "()V"), (0, .fieldref 8 9), (0, .class_ 10), (0, .nameAndType 11 12), (0, u "java/util/ImmutableCollections$ListN"), (0, u "elements"), (0, u "[Ljava/lang/Object;"), (0, .fieldref 8 14), (0, .nameAndType 15 16), (0, u "allowNulls"), (0, u "Z"), (42, .class_ 60), (0, u "java/io/Serializable"), (4, u "([Ljava/lang/Object;Z)V"), (11, u "size"), (0, u "()I"), (35, .class_ 115), (0, u "java/util/ImmutableCollections")] 3

def k24c0 : Code := { maxStack := 2, maxLocals := 3, code := jdk_45_method_1_code, exceptionTable := #[], attributes := #[] }
def k24m0 : Method := { name := "<init>", desc := "([Ljava/lang/Object;Z)V", sig := { parameters := [(.array (.object "java/lang/Object")), .boolean], returnType := none }, accessFlags := 2, code := some k24c0 }
def k24c1 : Code := { maxStack := 1, maxLocals := 1, code := jdk_45_method_3_code, exceptionTable := #[], attributes := #[] }
def k24m1 : Method := { name := "size", desc := "()I", sig := { parameters := [], returnType := some .int }, accessFlags := 1, code := some k24c1 }
/-- java/util/ImmutableCollections$ListN -/
def k24 : Class := { plain "java/util/ImmutableCollections$ListN" (some 22) with
  accessFlags := 48
  interfaces := #[4]
  cf := some (fileOf pool24 8 #[.nestHost 114] #[{ accessFlags := 2, nameIndex := 5, descriptorIndex := 65, attributes := #[] }, { accessFlags := 1, nameIndex := 77, descriptorIndex := 78, attributes := #[] }] 48 2 #[59] #[{ accessFlags := 18, nameIndex := 11, descriptorIndex := 12, attributes := #[] }, { accessFlags := 18, nameIndex := 15, descriptorIndex := 16, attributes := #[] }])
  fields := #[{ name := "elements", type := (.array (.object "java/lang/Object")), accessFlags := 18, slot := 0, constantValue := 0 }, { name := "allowNulls", type := .boolean, accessFlags := 18, slot := 1, constantValue := 0 }]
  methods := #[k24m0, k24m1]
  instanceTypes := #[(.array (.object "java/lang/Object")), .boolean]
  staticTypes := #[]
  resolved := Array.replicate 119 none
  statics := none }

def pool25 : Array CpInfo := pool [(2, .class_ 4), (1, u "java/lang/Object"), (0, u "<init>"), (0, u "()V"), (7, .class_ 16), (1, u "java/util/Arrays"), (57, .class_ 76), (1, u "java/util/Arrays$NaturalOrder"), (9, .methodref 2 87), (0, .nameAndType 88 89), (0, u "getClass"), (0, u "()Ljava/lang/Class;"), (20, .class_ 111), (0, u "[Ljava/lang/Object;"), (1, .class_ 115), (1, u "java/util/Arrays$LegacyMergeSort"), (1, u "Z"), (32, .methodref 151 152), (0, .class_ 153), (0, .nameAndType 154 155), (0, u "java/lang/System"), (0, u "arraycopy"), (0, u "(Ljava/lang/Object;ILjava/lang/Object;II)V"), (144, .methodref 14 301), (0, .nameAndType 302 303), (0, u "copyOf"), (0, u "([Ljava/lang/Object;ILjava/lang/Class;)[Ljava/lang/Object;"), (0, .methodref 305 306), (0, .class_ 307), (0, .nameAndType 308 309), (0, u "java/lang/Math"), (0, u "min"), (0, u "(II)I"), (65, .class_ 376), (0, u "java/util/Arrays$ArrayList"), (68, u "$assertionsDisabled"), (269, u "MIN_ARRAY_SORT_GRAN"), (0, u "I"), (2, u "INSERTIONSORT_THRESHOLD"), (140, u "([Ljava/lang/Object;I)[Ljava/lang/Object;"), (114, .class_ 976), (0, u "java/util/Arrays$ArrayItr")] 52

def k25m0 : Method := { name := "<init>", desc := "()V", sig := { parameters := [], returnType := none }, accessFlags := 2, code := none }
def k25c1 : Code := { maxStack := 3, maxLocals := 2, code := jdk_65_method_119_code, exceptionTable := #[], attributes := #[] }
def k25m1 : Method := { name := "copyOf", desc := "([Ljava/lang/Object;I)[Ljava/lang/Object;", sig := { parameters := [(.array (.object "java/lang/Object")), .int], returnType := some (.array (.object "java/lang/Object")) }, accessFlags := 9, code := some k25c1 }
def k25c2 : Code := { maxStack := 6, maxLocals := 4, code := jdk_65_method_120_code, exceptionTable := #[], attributes := #[] }
def k25m2 : Method := { name := "copyOf", desc := "([Ljava/lang/Object;ILjava/lang/Class;)[Ljava/lang/Object;", sig := { parameters := [(.array (.object "java/lang/Object")), .int, (.object "java/lang/Class")], returnType := some (.array (.object "java/lang/Object")) }, accessFlags := 9, code := some k25c2 }
/-- java/util/Arrays -/
def k25 : Class := { plain "java/util/Arrays" (some 0) with
  accessFlags := 49
  interfaces := #[]
  cf := some (fileOf pool25 14 #[.nestMembers #[975, 375, 113, 74]] #[{ accessFlags := 2, nameIndex := 5, descriptorIndex := 6, attributes := #[] }, { accessFlags := 9, nameIndex := 302, descriptorIndex := 860, attributes := #[] }, { accessFlags := 9, nameIndex := 302, descriptorIndex := 303, attributes := #[] }] 49 2 #[] #[{ accessFlags := 26, nameIndex := 715, descriptorIndex := 716, attributes := #[] }, { accessFlags := 26, nameIndex := 719, descriptorIndex := 716, attributes := #[] }, { accessFlags := 4120, nameIndex := 445, descriptorIndex := 117, attributes := #[] }])
  fields := #[{ name := "MIN_ARRAY_SORT_GRAN", type := .int, accessFlags := 26, slot := 0, constantValue := 0 }, { name := "INSERTIONSORT_THRESHOLD", type := .int, accessFlags := 26, slot := 1, constantValue := 0 }, { name := "$assertionsDisabled", type := .boolean, accessFlags := 4120, slot := 2, constantValue := 0 }]
  methods := #[k25m0, k25m1, k25m2]
  instanceTypes := #[]
  staticTypes := #[.int, .int, .boolean]
  resolved := Array.replicate 1029 none
  statics := none }

def pool26 : Array CpInfo := pool [(2, .class_ 4), (1, u "java/lang/Object"), (0, u "<init>"), (0, u "()V"), (1, .class_ 10), (1, u "java/lang/System"), (0, u "allowSecurityManager"), (0, u "I"), (16, u "cons"), (0, u "Ljava/io/Console;"), (77, .class_ 110), (1, u "java/lang/System$CallersHolder"), (43, u "initialErrStream"), (0, u "Ljava/io/PrintStream;"), (19, u "security"), (0, u "Ljava/lang/SecurityManager;"), (31, .class_ 209), (0, u "java/lang/System$1"), (7, u "props"), (0, u "Ljava/util/Properties;"), (2, u "lineSeparator"), (0, u "Ljava/lang/String;"), (96, .class_ 321), (1, u "java/lang/System$LoggerFinder"), (5, .class_ 328), (0, u "java/lang/System$Logger"), (67, u "err"), (2, u "out"), (91, u "notSupportedJnuEncoding"), (15, u "in"), (17, u "initialIn"), (0, u "Ljava/io/InputStream;"), (35, u "bootLayer"), (0, u "Ljava/lang/ModuleLayer;"), (99, .class_ 664), (0, u "java/lang/System$2"), (9, u "NEVER"), (2, u "MAYBE"), (49, u "arraycopy"), (0, u "(Ljava/lang/Object;ILjava/lang/Object;II)V"), (72, .class_ 802), (0, u "java/lang/System$Logger$Level")] 31

def k26m0 : Method := { name := "<init>", desc := "()V", sig := { parameters := [], returnType := none }, accessFlags := 2, code := none }
def k26m1 : Method := { name := "arraycopy", desc := "(Ljava/lang/Object;ILjava/lang/Object;II)V", sig := { parameters := [(.object "java/lang/Object"), .int, (.object "java/lang/Object"), .int, .int], returnType := none }, accessFlags := 265, code := none }
/-- java/lang/System -/
def k26 : Class := { plain "java/lang/System" (some 0) with
  accessFlags := 49
  interfaces := #[]
  cf := some (fileOf pool26 8 #[.nestMembers #[319, 327, 801, 108, 663, 208]] #[{ accessFlags := 2, nameIndex := 5, descriptorIndex := 6, attributes := #[] }, { accessFlags := 265, nameIndex := 727, descriptorIndex := 728, attributes := #[] }] 49 2 #[] #[{ accessFlags := 25, nameIndex := 507, descriptorIndex := 526, attributes := #[] }, { accessFlags := 25, nameIndex := 399, descriptorIndex := 155, attributes := #[] }, { accessFlags := 25, nameIndex := 396, descriptorIndex := 155, attributes := #[] }, { accessFlags := 10, nameIndex := 525, descriptorIndex := 526, attributes := #[] }, { accessFlags := 26, nameIndex := 674, descriptorIndex := 12, attributes := #[] }, { accessFlags := 26, nameIndex := 677, descriptorIndex := 12, attributes := #[] }, { accessFlags := 10, nameIndex := 11, descriptorIndex := 12, attributes := #[] }, { accessFlags := 74, nameIndex := 175, descriptorIndex := 176, attributes := #[] }, { accessFlags := 10, nameIndex := 491, descriptorIndex := 222, attributes := #[] }, { accessFlags := 74, nameIndex := 29, descriptorIndex := 30, attributes := #[] }, { accessFlags := 74, nameIndex := 154, descriptorIndex := 155, attributes := #[] }, { accessFlags := 10, nameIndex := 217, descriptorIndex := 218, attributes := #[] }, { accessFlags := 10, nameIndex := 221, descriptorIndex := 222, attributes := #[] }, { accessFlags := 8, nameIndex := 562, descriptorIndex := 563, attributes := #[] }])
  fields := #[{ name := "in", type := (.object "java/io/InputStream"), accessFlags := 25, slot := 0, constantValue := 0 }, { name := "out", type := (.object "java/io/PrintStream"), accessFlags := 25, slot := 1, constantValue := 0 }, { name := "err", type := (.object "java/io/PrintStream"), accessFlags := 25, slot := 2, constantValue := 0 }, { name := "initialIn", type := (.object "java/io/InputStream"), accessFlags := 10, slot := 3, constantValue := 0 }, { name := "NEVER", type := .int, accessFlags := 26, slot := 4, constantValue := 0 }, { name := "MAYBE", type := .int, accessFlags := 26, slot := 5, constantValue := 0 }, { name := "allowSecurityManager", type := .int, accessFlags := 10, slot := 6, constantValue := 0 }, { name := "security", type := (.object "java/lang/SecurityManager"), accessFlags := 74, slot := 7, constantValue := 0 }, { name := "notSupportedJnuEncoding", type := (.object "java/lang/String"), accessFlags := 10, slot := 8, constantValue := 0 }, { name := "cons", type := (.object "java/io/Console"), accessFlags := 74, slot := 9, constantValue := 0 }, { name := "initialErrStream", type := (.object "java/io/PrintStream"), accessFlags := 74, slot := 10, constantValue := 0 }, { name := "props", type := (.object "java/util/Properties"), accessFlags := 10, slot := 11, constantValue := 0 }, { name := "lineSeparator", type := (.object "java/lang/String"), accessFlags := 10, slot := 12, constantValue := 0 }, { name := "bootLayer", type := (.object "java/lang/ModuleLayer"), accessFlags := 8, slot := 13, constantValue := 0 }]
  methods := #[k26m0, k26m1]
  instanceTypes := #[]
  staticTypes := #[(.object "java/io/InputStream"), (.object "java/io/PrintStream"), (.object "java/io/PrintStream"), (.object "java/io/InputStream"), .int, .int, .int, (.object "java/lang/SecurityManager"), (.object "java/lang/String"), (.object "java/io/Console"), (.object "java/io/PrintStream"), (.object "java/util/Properties"), (.object "java/lang/String"), (.object "java/lang/ModuleLayer")]
  resolved := Array.replicate 834 none
  statics := none }

def pool27 : Array CpInfo := pool [(2, .class_ 4), (1, u "java/lang/Object"), (0, u "<init>"), (0, u "()V"), (35, .class_ 44), (1, u "java/util/Objects"), (0, u "requireNonNull"), (0, u "(Ljava/lang/Object;)Ljava/lang/Object;")] 137

def k27m0 : Method := { name := "<init>", desc := "()V", sig := { parameters := [], returnType := none }, accessFlags := 2, code := none }
def k27c1 : Code := { maxStack := 2, maxLocals := 1, code := jdk_31_method_10_code, exceptionTable := #[], attributes := #[] }
def k27m1 : Method := { name := "requireNonNull", desc := "(Ljava/lang/Object;)Ljava/lang/Object;", sig := { parameters := [(.object "java/lang/Object")], returnType := some (.object "java/lang/Object") }, accessFlags := 9, code := some k27c1 }
/-- java/util/Objects -/
def k27 : Class := { plain "java/util/Objects" (some 0) with
  accessFlags := 49
  interfaces := #[]
  cf := some (fileOf pool27 42 #[] #[{ accessFlags := 2, nameIndex := 5, descriptorIndex := 6, attributes := #[] }, { accessFlags := 9, nameIndex := 45, descriptorIndex := 46, attributes := #[] }] 49 2 #[] #[])
  fields := #[]
  methods := #[k27m0, k27m1]
  instanceTypes := #[]
  staticTypes := #[]
  resolved := Array.replicate 184 none
  statics := none }

def pool28 : Array CpInfo := pool [(2, .class_ 4), (1, u "java/lang/CharSequence"), (42, .class_ 48), (0, u "java/lang/CharSequence$1CodePointIterator"), (10, .class_ 60), (0, u "java/lang/CharSequence$1CharIterator"), (5, .class_ 67), (0, u "java/lang/Object")] 63

/-- java/lang/CharSequence -/
def k28 : Class := { plain "java/lang/CharSequence" (some 0) with
  accessFlags := 1537
  interfaces := #[]
  cf := some (fileOf pool28 2 #[.nestMembers #[47, 59]] #[] 1537 66 #[] #[])
  fields := #[]
  methods := #[]
  instanceTypes := #[]
  staticTypes := #[]
  resolved := Array.replicate 131 none
  statics := none }

def pool29 : Array CpInfo := pool [(1, .class_ 2), (0, u "java/lang/constant/ConstantDesc"), (0, .class_ 4), (0, u "java/lang/Object")] 32

/-- java/lang/constant/ConstantDesc -/
def k29 : Class := { plain "java/lang/constant/ConstantDesc" (some 0) with
  accessFlags := 1537
  interfaces := #[]
  cf := some (fileOf pool29 1 #[] #[] 1537 3 #[] #[])
  fields := #[]
  methods := #[]
  instanceTypes := #[]
  staticTypes := #[]
  resolved := Array.replicate 37 none
  statics := none }

def pool30 : Array CpInfo := pool [(1, .methodref 2 3), (0, .class_ 4), (0, .nameAndType 5 6), (0, u "java/lang/Object"), (0, u "<init>"), (0, u "()V"), (2, .fieldref 10 11), (0, .class_ 12), (0, .nameAndType 13 14), (0, u "java/lang/String"), (0, u "value"), (0, u "[B"), (0, .fieldref 10 16), (0, .nameAndType 17 18), (0, u "coder"), (0, u "B"), (2, u "hash"), (0, u "I"), (2, u "hashIsZero"), (0, u "Z"), (11, .fieldref 10 39), (0, .nameAndType 40 26), (0, u "COMPACT_STRINGS"), (12, u "toBytes"), (53, .class_ 109), (1, u "java/lang/StringLatin1"), (99, .methodref 10 210), (0, .nameAndType 5 211), (0, u "([BB)V"), (157, u "(C)Z"), (205, .class_ 576), (0, u "java/lang/CharSequence"), (22, u "CASE_INSENSITIVE_ORDER"), (0, u "Ljava/util/Comparator;"), (181, u "valueOf"), (0, u "(C)Ljava/lang/String;"), (231, .methodref 107 1016), (0, .nameAndType 1017 369), (0, u "canEncode"), (0, .methodref 107 1019), (0, .nameAndType 53 1020), (0, u "(C)[B"), (80, u "serialPersistentFields"), (0, u "[Ljava/io/ObjectStreamField;"), (0, .class_ 1104), (0, u "java/lang/String$CaseInsensitiveComparator"), (1, .class_ 1107), (0, u "java/io/Serializable"), (0, .class_ 1109), (0, u "java/lang/Comparable"), (0, .class_ 1111), (0, u "java/lang/constant/Constable"), (0, .class_ 1113), (0, u "java/lang/constant/ConstantDesc"), (2, u "serialVersionUID"), (0, u "J"), (3, u "REPL"), (0, u "C"), (2, u "LATIN1"), (1, u "UTF16")] 323

def k30m0 : Method := { name := "<init>", desc := "()V", sig := { parameters := [], returnType := none }, accessFlags := 1, code := none }
def k30c1 : Code := { maxStack := 4, maxLocals := 1, code := jdk_42_method_139_code, exceptionTable := #[], attributes := #[] }
def k30m1 : Method := { name := "valueOf", desc := "(C)Ljava/lang/String;", sig := { parameters := [.char], returnType := some (.object "java/lang/String") }, accessFlags := 9, code := some k30c1 }
def k30c2 : Code := { maxStack := 2, maxLocals := 3, code := jdk_42_method_151_code, exceptionTable := #[], attributes := #[] }
def k30m2 : Method := { name := "<init>", desc := "([BB)V", sig := { parameters := [(.array .byte), .byte], returnType := none }, accessFlags := 0, code := some k30c2 }
/-- java/lang/String -/
def k30 : Class := { plain "java/lang/String" (some 0) with
  accessFlags := 49
  interfaces := #[4, 3, 28, 2, 29]
  cf := some (fileOf pool30 10 #[.nestMembers #[1103]] #[{ accessFlags := 1, nameIndex := 5, descriptorIndex := 6, attributes := #[] }, { accessFlags := 9, nameIndex := 782, descriptorIndex := 783, attributes := #[] }, { accessFlags := 0, nameIndex := 5, descriptorIndex := 211, attributes := #[] }] 49 2 #[1106, 1108, 575, 1110, 1112] #[{ accessFlags := 18, nameIndex := 13, descriptorIndex := 14, attributes := #[] }, { accessFlags := 18, nameIndex := 17, descriptorIndex := 18, attributes := #[] }, { accessFlags := 2, nameIndex := 21, descriptorIndex := 22, attributes := #[] }, { accessFlags := 2, nameIndex := 25, descriptorIndex := 26, attributes := #[] }, { accessFlags := 26, nameIndex := 1116, descriptorIndex := 1117, attributes := #[] }, { accessFlags := 24, nameIndex := 40, descriptorIndex := 26, attributes := #[] }, { accessFlags := 26, nameIndex := 1101, descriptorIndex := 1102, attributes := #[] }, { accessFlags := 26, nameIndex := 1121, descriptorIndex := 1122, attributes := #[] }, { accessFlags := 25, nameIndex := 599, descriptorIndex := 600, attributes := #[] }, { accessFlags := 24, nameIndex := 1125, descriptorIndex := 18, attributes := #[] }, { accessFlags := 24, nameIndex := 1127, descriptorIndex := 18, attributes := #[] }])
  fields := #[{ name := "value", type := (.array .byte), accessFlags := 18, slot := 0, constantValue := 0 }, { name := "coder", type := .byte, accessFlags := 18, slot := 1, constantValue := 0 }, { name := "hash", type := .int, accessFlags := 2, slot := 2, constantValue := 0 }, { name := "hashIsZero", type := .boolean, accessFlags := 2, slot := 3, constantValue := 0 }, { name := "serialVersionUID", type := .long, accessFlags := 26, slot := 0, constantValue := 0 }, { name := "COMPACT_STRINGS", type := .boolean, accessFlags := 24, slot := 1, constantValue := 0 }, { name := "serialPersistentFields", type := (.array (.object "java/io/ObjectStreamField")), accessFlags := 26, slot := 2, constantValue := 0 }, { name := "REPL", type := .char, accessFlags := 26, slot := 3, constantValue := 0 }, { name := "CASE_INSENSITIVE_ORDER", type := (.object "java/util/Comparator"), accessFlags := 25, slot := 4, constantValue := 0 }, { name := "LATIN1", type := .byte, accessFlags := 24, slot := 5, constantValue := 0 }, { name := "UTF16", type := .byte, accessFlags := 24, slot := 6, constantValue := 0 }]
  methods := #[k30m0, k30m1, k30m2]
  instanceTypes := #[(.array .byte), .byte, .int, .boolean]
  staticTypes := #[.long, .boolean, (.array (.object "java/io/ObjectStreamField")), .char, (.object "java/util/Comparator"), .byte, .byte]
  resolved := Array.replicate 1451 none
  statics := some 3 }

def pool31 : Array CpInfo := pool [(4, .class_ 6), (1, u "java/lang/Object"), (0, u "<init>"), (0, u "()V"), (5, .class_ 16), (1, u "java/lang/StringLatin1"), (73, u "canEncode"), (14, u "(C)Z"), (15, u "$assertionsDisabled"), (0, u "Z"), (98, .class_ 223), (1, u "java/lang/StringLatin1$LinesSpliterator"), (156, u "toBytes"), (1, u "(C)[B"), (7, .class_ 391), (0, u "java/lang/StringLatin1$CharsSpliterator")] 3

def k31m0 : Method := { name := "<init>", desc := "()V", sig := { parameters := [], returnType := none }, accessFlags := 0, code := none }
def k31c1 : Code := { maxStack := 2, maxLocals := 1, code := jdk_43_method_3_code, exceptionTable := #[], attributes := #[] }
def k31m1 : Method := { name := "canEncode", desc := "(C)Z", sig := { parameters := [.char], returnType := some .boolean }, accessFlags := 9, code := some k31c1 }
def k31c2 : Code := { maxStack := 4, maxLocals := 1, code := jdk_43_method_46_code, exceptionTable := #[], attributes := #[] }
def k31m2 : Method := { name := "toBytes", desc := "(C)[B", sig := { parameters := [.char], returnType := some (.array .byte) }, accessFlags := 9, code := some k31c2 }
/-- java/lang/StringLatin1 -/
def k31 : Class := { plain "java/lang/StringLatin1" (some 0) with
  accessFlags := 48
  interfaces := #[]
  cf := some (fileOf pool31 14 #[.nestMembers #[390, 221]] #[{ accessFlags := 0, nameIndex := 7, descriptorIndex := 8, attributes := #[] }, { accessFlags := 9, nameIndex := 90, descriptorIndex := 105, attributes := #[] }, { accessFlags := 9, nameIndex := 380, descriptorIndex := 382, attributes := #[] }] 48 4 #[] #[{ accessFlags := 4120, nameIndex := 121, descriptorIndex := 122, attributes := #[] }])
  fields := #[{ name := "$assertionsDisabled", type := .boolean, accessFlags := 4120, slot := 0, constantValue := 0 }]
  methods := #[k31m0, k31m1, k31m2]
  instanceTypes := #[]
  staticTypes := #[.boolean]
  resolved := Array.replicate 395 none
  statics := none }

def pool32 : Array CpInfo := pool [(2, .class_ 4), (1, u "java/lang/Object"), (0, u "<init>"), (0, u "()V"), (17, .class_ 26), (1, u "jdk/internal/util/Preconditions"), (28, .class_ 56), (0, u "jdk/internal/util/Preconditions$4"), (57, .class_ 115), (0, u "jdk/internal/util/Preconditions$1"), (7, u "SIOOBE_FORMATTER"), (0, u "Ljava/util/function/BiFunction;"), (0, .class_ 126), (0, u "jdk/internal/util/Preconditions$2"), (3, u "AIOOBE_FORMATTER"), (0, .class_ 132), (0, u "jdk/internal/util/Preconditions$3"), (3, u "IOOBE_FORMATTER")] 57

def k32m0 : Method := { name := "<init>", desc := "()V", sig := { parameters := [], returnType := none }, accessFlags := 1, code := none }
/-- jdk/internal/util/Preconditions -/
def k32 : Class := { plain "jdk/internal/util/Preconditions" (some 0) with
  accessFlags := 33
  interfaces := #[]
  cf := some (fileOf pool32 24 #[.nestMembers #[55, 131, 125, 114]] #[{ accessFlags := 1, nameIndex := 5, descriptorIndex := 6, attributes := #[] }] 33 2 #[] #[{ accessFlags := 25, nameIndex := 123, descriptorIndex := 124, attributes := #[] }, { accessFlags := 25, nameIndex := 130, descriptorIndex := 124, attributes := #[] }, { accessFlags := 25, nameIndex := 136, descriptorIndex := 124, attributes := #[] }])
  fields := #[{ name := "SIOOBE_FORMATTER", type := (.object "java/util/function/BiFunction"), accessFlags := 25, slot := 0, constantValue := 0 }, { name := "AIOOBE_FORMATTER", type := (.object "java/util/function/BiFunction"), accessFlags := 25, slot := 1, constantValue := 0 }, { name := "IOOBE_FORMATTER", type := (.object "java/util/function/BiFunction"), accessFlags := 25, slot := 2, constantValue := 0 }]
  methods := #[k32m0]
  instanceTypes := #[]
  staticTypes := #[(.object "java/util/function/BiFunction"), (.object "java/util/function/BiFunction"), (.object "java/util/function/BiFunction")]
  resolved := Array.replicate 194 none
  statics := some 4 }

def pool33 : Array CpInfo := pool [(9, u "<init>"), (6, .class_ 18), (1, u "java/lang/Object"), (0, u "()V"), (1, .class_ 23), (1, u "jdk/internal/util/ArraysSupport"), (0, u "LOG2_ARRAY_LONG_INDEX_SCALE"), (0, u "I"), (2, u "U"), (0, u "Ljdk/internal/misc/Unsafe;"), (8, u "BIG_ENDIAN"), (0, u "Z"), (8, u "LOG2_BYTE_BIT_SIZE"), (4, u "LOG2_ARRAY_INT_INDEX_SCALE"), (54, u "JLA"), (0, u "Ljdk/internal/access/JavaLangAccess;"), (11, u "LOG2_ARRAY_BOOLEAN_INDEX_SCALE"), (9, u "LOG2_ARRAY_BYTE_INDEX_SCALE"), (5, u "LOG2_ARRAY_CHAR_INDEX_SCALE"), (5, u "LOG2_ARRAY_SHORT_INDEX_SCALE"), (18, u "LOG2_ARRAY_FLOAT_INDEX_SCALE"), (24, u "LOG2_ARRAY_DOUBLE_INDEX_SCALE"), (89, u "T_BOOLEAN"), (2, u "T_CHAR"), (1, u "T_FLOAT"), (1, u "T_DOUBLE"), (1, u "T_BYTE"), (1, u "T_SHORT"), (1, u "T_INT"), (1, u "T_LONG"), (1, u "SOFT_MAX_ARRAY_LENGTH")] 83

def k33m0 : Method := { name := "<init>", desc := "()V", sig := { parameters := [], returnType := none }, accessFlags := 2, code := none }
/-- jdk/internal/util/ArraysSupport -/
def k33 : Class := { plain "jdk/internal/util/ArraysSupport" (some 0) with
  accessFlags := 33
  interfaces := #[]
  cf := some (fileOf pool33 21 #[] #[{ accessFlags := 2, nameIndex := 9, descriptorIndex := 19, attributes := #[] }] 33 16 #[] #[{ accessFlags := 24, nameIndex := 28, descriptorIndex := 29, attributes := #[] }, { accessFlags := 26, nameIndex := 38, descriptorIndex := 39, attributes := #[] }, { accessFlags := 25, nameIndex := 121, descriptorIndex := 25, attributes := #[] }, { accessFlags := 25, nameIndex := 131, descriptorIndex := 25, attributes := #[] }, { accessFlags := 25, nameIndex := 137, descriptorIndex := 25, attributes := #[] }, { accessFlags := 25, nameIndex := 143, descriptorIndex := 25, attributes := #[] }, { accessFlags := 25, nameIndex := 53, descriptorIndex := 25, attributes := #[] }, { accessFlags := 25, nameIndex := 24, descriptorIndex := 25, attributes := #[] }, { accessFlags := 25, nameIndex := 162, descriptorIndex := 25, attributes := #[] }, { accessFlags := 25, nameIndex := 187, descriptorIndex := 25, attributes := #[] }, { accessFlags := 26, nameIndex := 48, descriptorIndex := 25, attributes := #[] }, { accessFlags := 25, nameIndex := 277, descriptorIndex := 25, attributes := #[] }, { accessFlags := 25, nameIndex := 280, descriptorIndex := 25, attributes := #[] }, { accessFlags := 25, nameIndex := 282, descriptorIndex := 25, attributes := #[] }, { accessFlags := 25, nameIndex := 284, descriptorIndex := 25, attributes := #[] }, { accessFlags := 25, nameIndex := 286, descriptorIndex := 25, attributes := #[] }, { accessFlags := 25, nameIndex := 288, descriptorIndex := 25, attributes := #[] }, { accessFlags := 25, nameIndex := 290, descriptorIndex := 25, attributes := #[] }, { accessFlags := 25, nameIndex := 292, descriptorIndex := 25, attributes := #[] }, { accessFlags := 26, nameIndex := 108, descriptorIndex := 109, attributes := #[] }, { accessFlags := 25, nameIndex := 294, descriptorIndex := 25, attributes := #[] }])
  fields := #[{ name := "U", type := (.object "jdk/internal/misc/Unsafe"), accessFlags := 24, slot := 0, constantValue := 0 }, { name := "BIG_ENDIAN", type := .boolean, accessFlags := 26, slot := 1, constantValue := 0 }, { name := "LOG2_ARRAY_BOOLEAN_INDEX_SCALE", type := .int, accessFlags := 25, slot := 2, constantValue := 0 }, { name := "LOG2_ARRAY_BYTE_INDEX_SCALE", type := .int, accessFlags := 25, slot := 3, constantValue := 0 }, { name := "LOG2_ARRAY_CHAR_INDEX_SCALE", type := .int, accessFlags := 25, slot := 4, constantValue := 0 }, { name := "LOG2_ARRAY_SHORT_INDEX_SCALE", type := .int, accessFlags := 25, slot := 5, constantValue := 0 }, { name := "LOG2_ARRAY_INT_INDEX_SCALE", type := .int, accessFlags := 25, slot := 6, constantValue := 0 }, { name := "LOG2_ARRAY_LONG_INDEX_SCALE", type := .int, accessFlags := 25, slot := 7, constantValue := 0 }, { name := "LOG2_ARRAY_FLOAT_INDEX_SCALE", type := .int, accessFlags := 25, slot := 8, constantValue := 0 }, { name := "LOG2_ARRAY_DOUBLE_INDEX_SCALE", type := .int, accessFlags := 25, slot := 9, constantValue := 0 }, { name := "LOG2_BYTE_BIT_SIZE", type := .int, accessFlags := 26, slot := 10, constantValue := 0 }, { name := "T_BOOLEAN", type := .int, accessFlags := 25, slot := 11, constantValue := 0 }, { name := "T_CHAR", type := .int, accessFlags := 25, slot := 12, constantValue := 0 }, { name := "T_FLOAT", type := .int, accessFlags := 25, slot := 13, constantValue := 0 }, { name := "T_DOUBLE", type := .int, accessFlags := 25, slot := 14, constantValue := 0 }, { name := "T_BYTE", type := .int, accessFlags := 25, slot := 15, constantValue := 0 }, { name := "T_SHORT", type := .int, accessFlags := 25, slot := 16, constantValue := 0 }, { name := "T_INT", type := .int, accessFlags := 25, slot := 17, constantValue := 0 }, { name := "T_LONG", type := .int, accessFlags := 25, slot := 18, constantValue := 0 }, { name := "JLA", type := (.object "jdk/internal/access/JavaLangAccess"), accessFlags := 26, slot := 19, constantValue := 0 }, { name := "SOFT_MAX_ARRAY_LENGTH", type := .int, accessFlags := 25, slot := 20, constantValue := 0 }]
  methods := #[k33m0]
  instanceTypes := #[]
  staticTypes := #[(.object "jdk/internal/misc/Unsafe"), .boolean, .int, .int, .int, .int, .int, .int, .int, .int, .int, .int, .int, .int, .int, .int, .int, .int, .int, (.object "jdk/internal/access/JavaLangAccess"), .int]
  resolved := Array.replicate 378 none
  statics := none }

def pool34 : Array CpInfo := pool [(1, u "java/lang/Class"), (0, .class_ 1), (0, u "java/lang/Object"), (0, .class_ 3)] 0

/-- java/lang/Class -/
def k34 : Class := { plain "java/lang/Class" (some 0) with
  accessFlags := 49
  interfaces := #[]
  cf := some (fileOf pool34 2 #[] #[] 49 4 #[] #[])
  fields := #[]
  methods := #[]
  instanceTypes := #[]
  staticTypes := #[]
  resolved := Array.replicate 5 none
  statics := none }

/-- the primitive byte -/
def k35 : Class := { plain "byte" none with kind := .primitive 'B', accessFlags := 0x411 }
/-- [B -/
def k36 : Class := { plain "[B" (some 0) with kind := .array 35 .byte, interfaces := #[17, 4], accessFlags := 1041 }

/-- the primitive int -/
def k37 : Class := { plain "int" none with kind := .primitive 'I', accessFlags := 0x411 }
/-- [I -/
def k38 : Class := { plain "[I" (some 0) with kind := .array 37 .int, interfaces := #[17, 4], accessFlags := 1041 }

/-- [Ljava/lang/Object; -/
def k39 : Class := { plain "[Ljava/lang/Object;" (some 0) with kind := .array 0 (.object "java/lang/Object"), interfaces := #[17, 4], accessFlags := 1041, mirror := some 5 }

def heap : Heap := #[{ cls := 6, slots := #[.ref 8, .ref 9, .null], vm := .statics 6 },
  { cls := 18, slots := #[.long 0, .int 0, .ref 10, .ref 11], vm := .statics 18 },
  { cls := 20, slots := #[.long 0, .int 0, .null, .ref 12, .ref 7, .null, .null, .null, .int 0, .int 1], vm := .statics 20 },
  { cls := 30, slots := #[.long 0, .int 1, .null, .int 0, .null, .int 0, .int 0], vm := .statics 30 },
  { cls := 32, slots := #[.null, .null, .null], vm := .statics 32 },
  { cls := 34, slots := #[], vm := .mirror 39 },
  { cls := 39, slots := #[], vm := .none },
  { cls := 24, slots := #[.ref 6, .int 0], vm := .none },
  { cls := 6, slots := #[.null, .int 0, .int 0], vm := .none },
  { cls := 6, slots := #[.null, .int 1, .int 0], vm := .none },
  { cls := 39, slots := #[], vm := .none },
  { cls := 39, slots := #[], vm := .none },
  { cls := 0, slots := #[], vm := .none }]
def classes : Array Class := #[k0, k1, k2, k3, k4, k5, k6, k7, k8, k9, k10, k11, k12, k13, k14, k15, k16, k17, k18, k19, k20, k21, k22, k23, k24, k25, k26, k27, k28, k29, k30, k31, k32, k33, k34, k35, k36, k37, k38, k39]
def interned : List (Array UInt16 × Addr) := []
def slotsUsed : Nat := 35
def theMethod : MethodId := ⟨1, 1⟩
def args0 : Array Value := #[.int 5, .int 5, .int 5, .int 5, .int 5, .int 5]
def aboutOver (below : List Frame) : State where
  vm := { classes := classes, interned := interned.toArray }
  heap := heap
  slotsUsed := slotsUsed
  threads := #[{ frames := .invoking theMethod args0 :: below }]
def below0 : List Frame := [.native { method := ⟨0, 0⟩, args := #[] }]
def about1 : State := aboutOver below0
def p0 : Program := .bare "" "" ""
def e0 : Env := launch0.env 0 0 0
theorem w_frames : about1.frames = Frame.invoking theMethod args0 :: below0 := rfl
set_option maxRecDepth 65536 in
theorem w_args : argsFit about1.vm theMethod args0 = true := by decide +kernel
set_option maxRecDepth 65536 in
theorem w_heap : heapFits about1 = true := by decide +kernel
set_option maxRecDepth 65536 in
theorem w_runnable : about1.curStatus? = some .runnable := by decide +kernel
set_option maxRecDepth 65536 in
theorem w_alone : about1.alone = true := by decide +kernel
set_option maxRecDepth 65536 in
theorem w_named : about1.methodNamed? x = some theMethod := by decide +kernel
set_option maxRecDepth 65536 in
theorem w_hears : about1.hears theMethod below0 = true := by decide +kernel
set_option maxRecDepth 65536 in
theorem w_ripe : about1.ripe theMethod args0 below0 = true := by decide +kernel
theorem w_running : about1.status = .running := rfl
set_option maxRecDepth 65536 in
theorem w_room : about1.hasRoom e0.platform room_1 = true :=
  launch0.hasRoom_least _ room_1 (by decide +kernel) (by decide +kernel) (by decide +kernel) (by decide +kernel) (by decide +kernel) (by decide +kernel)
theorem allAtoms_all (ts : List Jvm.Cond) (a : Array Jvm.Value) (st : Jvm.State) : (allAtoms ts).before a st = ts.all (fun c => c.before a st) := by
  induction ts with
  | nil => rfl
  | cons c t ih =>
    show (Jvm.Cond.and c (allAtoms t)).before a st = _
    rw [Jvm.Cond.before_and, ih, List.all_cons]
def words1 : List Jvm.Cond := Jvm.Cond.code x code maxLocals ret :: tables_1
/-- a 'code' word, met by the world's own term for the bytes: nothing is compared byte by byte -/
theorem code_word {y : MethodName} {bytes : ByteArray} {mx : Nat} {rt : Option FieldType} {a : Array Value} {s : State} {m : MethodId} {meth : Method} {c : Code} (h1 : s.methodNamed? y = some m) (h2 : s.vm.method? m = some meth) (h3 : meth.code = some c) (h4 : c.code = bytes)
    (h5 : (c.maxLocals == mx && c.exceptionTable.isEmpty && decide (c.maxStack ≤ mostOperands) && decide (meth.sig.returnType = rt) && !meth.locks && decide (parseMethodDescriptor y.desc = some meth.sig)) = true) : (Jvm.Cond.code y bytes mx rt).before a s = true := by
  simp only [Bool.and_eq_true, beq_iff_eq, Bool.not_eq_true', decide_eq_true_eq] at h5
  obtain ⟨⟨⟨⟨⟨g1, g2⟩, g3⟩, g4⟩, g5⟩, g6⟩ := h5
  simp [Cond.before, Cond.holds, Cond.value, h1, h2, h3, h4, g1, g2, g3, g4, g5, g6]
def isCode : Jvm.Cond → Bool
  | .code _ _ _ _ => true
  | _ => false
theorem all_split {L : List Jvm.Cond} {P : Jvm.Cond → Bool} (h1 : L.all (fun c => isCode c || P c) = true) (h2 : ∀ c ∈ L.filter isCode, P c = true) : L.all P = true := by
  refine List.all_eq_true.mpr fun c hc => ?_
  have h := List.all_eq_true.mp h1 c hc
  rcases Bool.eq_false_or_eq_true (isCode c) with hi | hi
  · exact h2 c (List.mem_filter.mpr ⟨hc, hi⟩)
  · simpa [hi] using h
set_option maxRecDepth 65536 in
theorem w_c0 : (Jvm.Cond.code x code maxLocals ret).before args0 about1 = true := code_word (m := ⟨1, 1⟩) (meth := k1m1) (c := k1c1) (by decide +kernel) rfl rfl rfl (by decide +kernel)
set_option maxRecDepth 65536 in
theorem w_c1 : (Jvm.Cond.code ({ cls := "com/example/treellis/treellis/cfa/StructType", name := "<init>", desc := "(Lcom/example/treellis/treellis/cfa/StructType$Kind;Ljava/lang/String;)V" } : Jvm.MethodName) prog_52_method_1_code (3 : Nat) (Option.none : Option Jvm.ClassFile.FieldType)).before args0 about1 = true := code_word (m := ⟨8, 0⟩) (meth := k8m0) (c := k8c0) (by decide +kernel) rfl rfl rfl (by decide +kernel)
set_option maxRecDepth 65536 in
theorem w_c2 : (Jvm.Cond.code ({ cls := "java/lang/Object", name := "<init>", desc := "()V" } : Jvm.MethodName) object_method_1_code (1 : Nat) (Option.none : Option Jvm.ClassFile.FieldType)).before args0 about1 = true := code_word (m := ⟨0, 0⟩) (meth := k0m0) (c := k0c0) (by decide +kernel) rfl rfl rfl (by decide +kernel)
set_option maxRecDepth 65536 in
theorem w_c3 : (Jvm.Cond.code ({ cls := "com/example/treellis/treellis/cfa/StructType", name := "isComplete", desc := "()Z" } : Jvm.MethodName) prog_52_method_4_code (1 : Nat) (Option.some Jvm.ClassFile.FieldType.boolean)).before args0 about1 = true := code_word (m := ⟨8, 2⟩) (meth := k8m2) (c := k8c2) (by decide +kernel) rfl rfl rfl (by decide +kernel)
set_option maxRecDepth 65536 in
theorem w_c4 : (Jvm.Cond.code ({ cls := "com/example/treellis/treellis/cfa/StructType", name := "members", desc := "()Ljava/util/List;" } : Jvm.MethodName) prog_52_method_5_code (1 : Nat) (Option.some (Jvm.ClassFile.FieldType.object "java/util/List"))).before args0 about1 = true := code_word (m := ⟨8, 3⟩) (meth := k8m3) (c := k8c3) (by decide +kernel) rfl rfl rfl (by decide +kernel)
set_option maxRecDepth 65536 in
theorem w_c5 : (Jvm.Cond.code ({ cls := "com/example/treellis/treellis/cfa/StructType$Member", name := "<init>", desc := "(Ljava/lang/String;Lcom/example/treellis/treellis/cfa/Type;Ljava/lang/Integer;I)V" } : Jvm.MethodName) prog_54_method_1_code (5 : Nat) (Option.none : Option Jvm.ClassFile.FieldType)).before args0 about1 = true := code_word (m := ⟨9, 0⟩) (meth := k9m0) (c := k9c0) (by decide +kernel) rfl rfl rfl (by decide +kernel)
set_option maxRecDepth 65536 in
theorem w_c6 : (Jvm.Cond.code ({ cls := "java/util/ArrayList", name := "<init>", desc := "()V" } : Jvm.MethodName) jdk_38_method_2_code (1 : Nat) (Option.none : Option Jvm.ClassFile.FieldType)).before args0 about1 = true := code_word (m := ⟨18, 0⟩) (meth := k18m0) (c := k18c0) (by decide +kernel) rfl rfl rfl (by decide +kernel)
set_option maxRecDepth 65536 in
theorem w_c7 : (Jvm.Cond.code ({ cls := "java/util/AbstractList", name := "<init>", desc := "()V" } : Jvm.MethodName) jdk_39_method_1_code (1 : Nat) (Option.none : Option Jvm.ClassFile.FieldType)).before args0 about1 = true := code_word (m := ⟨15, 0⟩) (meth := k15m0) (c := k15c0) (by decide +kernel) rfl rfl rfl (by decide +kernel)
set_option maxRecDepth 65536 in
theorem w_c8 : (Jvm.Cond.code ({ cls := "java/util/AbstractCollection", name := "<init>", desc := "()V" } : Jvm.MethodName) jdk_22_method_1_code (1 : Nat) (Option.none : Option Jvm.ClassFile.FieldType)).before args0 about1 = true := code_word (m := ⟨12, 0⟩) (meth := k12m0) (c := k12c0) (by decide +kernel) rfl rfl rfl (by decide +kernel)
set_option maxRecDepth 65536 in
theorem w_c9 : (Jvm.Cond.code ({ cls := "java/util/ArrayList", name := "add", desc := "(Ljava/lang/Object;)Z" } : Jvm.MethodName) jdk_38_method_25_code (2 : Nat) (Option.some Jvm.ClassFile.FieldType.boolean)).before args0 about1 = true := code_word (m := ⟨18, 6⟩) (meth := k18m6) (c := k18c6) (by decide +kernel) rfl rfl rfl (by decide +kernel)
set_option maxRecDepth 65536 in
theorem w_c10 : (Jvm.Cond.code ({ cls := "java/util/ArrayList", name := "add", desc := "(Ljava/lang/Object;[Ljava/lang/Object;I)V" } : Jvm.MethodName) jdk_38_method_24_code (4 : Nat) (Option.none : Option Jvm.ClassFile.FieldType)).before args0 about1 = true := code_word (m := ⟨18, 5⟩) (meth := k18m5) (c := k18c5) (by decide +kernel) rfl rfl rfl (by decide +kernel)
set_option maxRecDepth 65536 in
theorem w_c11 : (Jvm.Cond.code ({ cls := "java/util/ArrayList", name := "grow", desc := "()[Ljava/lang/Object;" } : Jvm.MethodName) jdk_38_method_7_code (1 : Nat) (Option.some (Jvm.ClassFile.FieldType.array (Jvm.ClassFile.FieldType.object "java/lang/Object")))).before args0 about1 = true := code_word (m := ⟨18, 2⟩) (meth := k18m2) (c := k18c2) (by decide +kernel) rfl rfl rfl (by decide +kernel)
set_option maxRecDepth 65536 in
theorem w_c12 : (Jvm.Cond.code ({ cls := "java/util/ArrayList", name := "grow", desc := "(I)[Ljava/lang/Object;" } : Jvm.MethodName) jdk_38_method_6_code (4 : Nat) (Option.some (Jvm.ClassFile.FieldType.array (Jvm.ClassFile.FieldType.object "java/lang/Object")))).before args0 about1 = true := code_word (m := ⟨18, 1⟩) (meth := k18m1) (c := k18c1) (by decide +kernel) rfl rfl rfl (by decide +kernel)
set_option maxRecDepth 65536 in
theorem w_c13 : (Jvm.Cond.code ({ cls := "java/lang/Math", name := "max", desc := "(II)I" } : Jvm.MethodName) jdk_29_method_65_code (2 : Nat) (Option.some Jvm.ClassFile.FieldType.int)).before args0 about1 = true := code_word (m := ⟨19, 1⟩) (meth := k19m1) (c := k19c1) (by decide +kernel) rfl rfl rfl (by decide +kernel)
set_option maxRecDepth 65536 in
theorem w_c14 : (Jvm.Cond.code ({ cls := "com/example/treellis/treellis/cfa/StructType", name := "complete", desc := "(Ljava/util/List;II)V" } : Jvm.MethodName) prog_52_method_2_code (4 : Nat) (Option.none : Option Jvm.ClassFile.FieldType)).before args0 about1 = true := code_word (m := ⟨8, 1⟩) (meth := k8m1) (c := k8c1) (by decide +kernel) rfl rfl rfl (by decide +kernel)
set_option maxRecDepth 65536 in
theorem w_c15 : (Jvm.Cond.code ({ cls := "java/util/List", name := "copyOf", desc := "(Ljava/util/Collection;)Ljava/util/List;" } : Jvm.MethodName) jdk_40_method_48_code (1 : Nat) (Option.some (Jvm.ClassFile.FieldType.object "java/util/List"))).before args0 about1 = true := code_word (m := ⟨14, 3⟩) (meth := k14m3) (c := k14c3) (by decide +kernel) rfl rfl rfl (by decide +kernel)
set_option maxRecDepth 65536 in
theorem w_c16 : (Jvm.Cond.code ({ cls := "java/util/ImmutableCollections", name := "listCopy", desc := "(Ljava/util/Collection;)Ljava/util/List;" } : Jvm.MethodName) jdk_56_method_3_code (2 : Nat) (Option.some (Jvm.ClassFile.FieldType.object "java/util/List"))).before args0 about1 = true := code_word (m := ⟨20, 1⟩) (meth := k20m1) (c := k20c1) (by decide +kernel) rfl rfl rfl (by decide +kernel)
set_option maxRecDepth 65536 in
theorem w_c17 : (Jvm.Cond.code ({ cls := "java/util/ArrayList", name := "isEmpty", desc := "()Z" } : Jvm.MethodName) jdk_38_method_9_code (1 : Nat) (Option.some Jvm.ClassFile.FieldType.boolean)).before args0 about1 = true := code_word (m := ⟨18, 3⟩) (meth := k18m3) (c := k18c3) (by decide +kernel) rfl rfl rfl (by decide +kernel)
set_option maxRecDepth 65536 in
theorem w_c18 : (Jvm.Cond.code ({ cls := "java/util/ArrayList", name := "toArray", desc := "()[Ljava/lang/Object;" } : Jvm.MethodName) jdk_38_method_16_code (1 : Nat) (Option.some (Jvm.ClassFile.FieldType.array (Jvm.ClassFile.FieldType.object "java/lang/Object")))).before args0 about1 = true := code_word (m := ⟨18, 4⟩) (meth := k18m4) (c := k18c4) (by decide +kernel) rfl rfl rfl (by decide +kernel)
set_option maxRecDepth 65536 in
theorem w_c19 : (Jvm.Cond.code ({ cls := "java/util/Arrays", name := "copyOf", desc := "([Ljava/lang/Object;I)[Ljava/lang/Object;" } : Jvm.MethodName) jdk_65_method_119_code (2 : Nat) (Option.some (Jvm.ClassFile.FieldType.array (Jvm.ClassFile.FieldType.object "java/lang/Object")))).before args0 about1 = true := code_word (m := ⟨25, 1⟩) (meth := k25m1) (c := k25c1) (by decide +kernel) rfl rfl rfl (by decide +kernel)
set_option maxRecDepth 65536 in
theorem w_c20 : (Jvm.Cond.code ({ cls := "java/util/Arrays", name := "copyOf", desc := "([Ljava/lang/Object;ILjava/lang/Class;)[Ljava/lang/Object;" } : Jvm.MethodName) jdk_65_method_120_code (4 : Nat) (Option.some (Jvm.ClassFile.FieldType.array (Jvm.ClassFile.FieldType.object "java/lang/Object")))).before args0 about1 = true := code_word (m := ⟨25, 2⟩) (meth := k25m2) (c := k25c2) (by decide +kernel) rfl rfl rfl (by decide +kernel)
set_option maxRecDepth 65536 in
theorem w_c21 : (Jvm.Cond.code ({ cls := "java/lang/Math", name := "min", desc := "(II)I" } : Jvm.MethodName) jdk_29_method_69_code (2 : Nat) (Option.some Jvm.ClassFile.FieldType.int)).before args0 about1 = true := code_word (m := ⟨19, 2⟩) (meth := k19m2) (c := k19c2) (by decide +kernel) rfl rfl rfl (by decide +kernel)
set_option maxRecDepth 65536 in
theorem w_c22 : (Jvm.Cond.code ({ cls := "java/util/List", name := "of", desc := "([Ljava/lang/Object;)Ljava/util/List;" } : Jvm.MethodName) jdk_40_method_47_code (2 : Nat) (Option.some (Jvm.ClassFile.FieldType.object "java/util/List"))).before args0 about1 = true := code_word (m := ⟨14, 2⟩) (meth := k14m2) (c := k14c2) (by decide +kernel) rfl rfl rfl (by decide +kernel)
set_option maxRecDepth 65536 in
theorem w_c23 : (Jvm.Cond.code ({ cls := "java/util/ImmutableCollections$List12", name := "<init>", desc := "(Ljava/lang/Object;Ljava/lang/Object;)V" } : Jvm.MethodName) jdk_44_method_2_code (3 : Nat) (Option.none : Option Jvm.ClassFile.FieldType)).before args0 about1 = true := code_word (m := ⟨23, 1⟩) (meth := k23m1) (c := k23c1) (by decide +kernel) rfl rfl rfl (by decide +kernel)
set_option maxRecDepth 65536 in
theorem w_c24 : (Jvm.Cond.code ({ cls := "java/util/ImmutableCollections$AbstractImmutableList", name := "<init>", desc := "()V" } : Jvm.MethodName) jdk_46_method_1_code (1 : Nat) (Option.none : Option Jvm.ClassFile.FieldType)).before args0 about1 = true := code_word (m := ⟨22, 0⟩) (meth := k22m0) (c := k22c0) (by decide +kernel) rfl rfl rfl (by decide +kernel)
set_option maxRecDepth 65536 in
theorem w_c25 : (Jvm.Cond.code ({ cls := "java/util/ImmutableCollections$AbstractImmutableCollection", name := "<init>", desc := "()V" } : Jvm.MethodName) jdk_47_method_1_code (1 : Nat) (Option.none : Option Jvm.ClassFile.FieldType)).before args0 about1 = true := code_word (m := ⟨21, 0⟩) (meth := k21m0) (c := k21c0) (by decide +kernel) rfl rfl rfl (by decide +kernel)
set_option maxRecDepth 65536 in
theorem w_c26 : (Jvm.Cond.code ({ cls := "java/util/Objects", name := "requireNonNull", desc := "(Ljava/lang/Object;)Ljava/lang/Object;" } : Jvm.MethodName) jdk_31_method_10_code (1 : Nat) (Option.some (Jvm.ClassFile.FieldType.object "java/lang/Object"))).before args0 about1 = true := code_word (m := ⟨27, 1⟩) (meth := k27m1) (c := k27c1) (by decide +kernel) rfl rfl rfl (by decide +kernel)
set_option maxRecDepth 65536 in
theorem w_c27 : (Jvm.Cond.code ({ cls := "java/util/ImmutableCollections$List12", name := "size", desc := "()I" } : Jvm.MethodName) jdk_44_method_3_code (1 : Nat) (Option.some Jvm.ClassFile.FieldType.int)).before args0 about1 = true := code_word (m := ⟨23, 2⟩) (meth := k23m2) (c := k23c2) (by decide +kernel) rfl rfl rfl (by decide +kernel)
set_option maxRecDepth 65536 in
theorem w_c28 : (Jvm.Cond.code ({ cls := "com/example/treellis/treellis/cfa/StructType", name := "packing", desc := "()I" } : Jvm.MethodName) prog_52_method_6_code (1 : Nat) (Option.some Jvm.ClassFile.FieldType.int)).before args0 about1 = true := code_word (m := ⟨8, 4⟩) (meth := k8m4) (c := k8c4) (by decide +kernel) rfl rfl rfl (by decide +kernel)
set_option maxRecDepth 65536 in
theorem w_c29 : (Jvm.Cond.code ({ cls := "com/example/treellis/treellis/cfa/StructType", name := "alignment", desc := "()I" } : Jvm.MethodName) prog_52_method_7_code (1 : Nat) (Option.some Jvm.ClassFile.FieldType.int)).before args0 about1 = true := code_word (m := ⟨8, 5⟩) (meth := k8m5) (c := k8c5) (by decide +kernel) rfl rfl rfl (by decide +kernel)
set_option maxRecDepth 65536 in
theorem w_c30 : (Jvm.Cond.code ({ cls := "java/lang/String", name := "valueOf", desc := "(C)Ljava/lang/String;" } : Jvm.MethodName) jdk_42_method_139_code (1 : Nat) (Option.some (Jvm.ClassFile.FieldType.object "java/lang/String"))).before args0 about1 = true := code_word (m := ⟨30, 1⟩) (meth := k30m1) (c := k30c1) (by decide +kernel) rfl rfl rfl (by decide +kernel)
set_option maxRecDepth 65536 in
theorem w_c31 : (Jvm.Cond.code ({ cls := "java/lang/StringLatin1", name := "canEncode", desc := "(C)Z" } : Jvm.MethodName) jdk_43_method_3_code (1 : Nat) (Option.some Jvm.ClassFile.FieldType.boolean)).before args0 about1 = true := code_word (m := ⟨31, 1⟩) (meth := k31m1) (c := k31c1) (by decide +kernel) rfl rfl rfl (by decide +kernel)
set_option maxRecDepth 65536 in
theorem w_c32 : (Jvm.Cond.code ({ cls := "java/lang/StringLatin1", name := "toBytes", desc := "(C)[B" } : Jvm.MethodName) jdk_43_method_46_code (1 : Nat) (Option.some (Jvm.ClassFile.FieldType.array Jvm.ClassFile.FieldType.byte))).before args0 about1 = true := code_word (m := ⟨31, 2⟩) (meth := k31m2) (c := k31c2) (by decide +kernel) rfl rfl rfl (by decide +kernel)
set_option maxRecDepth 65536 in
theorem w_c33 : (Jvm.Cond.code ({ cls := "java/lang/String", name := "<init>", desc := "([BB)V" } : Jvm.MethodName) jdk_42_method_151_code (3 : Nat) (Option.none : Option Jvm.ClassFile.FieldType)).before args0 about1 = true := code_word (m := ⟨30, 2⟩) (meth := k30m2) (c := k30c2) (by decide +kernel) rfl rfl rfl (by decide +kernel)
set_option maxRecDepth 65536 in
theorem w_c34 : (Jvm.Cond.code ({ cls := "java/util/ImmutableCollections$List12", name := "<init>", desc := "(Ljava/lang/Object;)V" } : Jvm.MethodName) jdk_44_method_1_code (2 : Nat) (Option.none : Option Jvm.ClassFile.FieldType)).before args0 about1 = true := code_word (m := ⟨23, 0⟩) (meth := k23m0) (c := k23c0) (by decide +kernel) rfl rfl rfl (by decide +kernel)
set_option maxRecDepth 65536 in
theorem w_c35 : (Jvm.Cond.code ({ cls := "java/util/ImmutableCollections", name := "listFromArray", desc := "([Ljava/lang/Object;)Ljava/util/List;" } : Jvm.MethodName) jdk_56_method_4_code (3 : Nat) (Option.some (Jvm.ClassFile.FieldType.object "java/util/List"))).before args0 about1 = true := code_word (m := ⟨20, 2⟩) (meth := k20m2) (c := k20c2) (by decide +kernel) rfl rfl rfl (by decide +kernel)
set_option maxRecDepth 65536 in
theorem w_c36 : (Jvm.Cond.code ({ cls := "java/util/ImmutableCollections$ListN", name := "<init>", desc := "([Ljava/lang/Object;Z)V" } : Jvm.MethodName) jdk_45_method_1_code (3 : Nat) (Option.none : Option Jvm.ClassFile.FieldType)).before args0 about1 = true := code_word (m := ⟨24, 0⟩) (meth := k24m0) (c := k24c0) (by decide +kernel) rfl rfl rfl (by decide +kernel)
set_option maxRecDepth 65536 in
theorem w_c37 : (Jvm.Cond.code ({ cls := "java/util/ImmutableCollections$ListN", name := "size", desc := "()I" } : Jvm.MethodName) jdk_45_method_3_code (1 : Nat) (Option.some Jvm.ClassFile.FieldType.int)).before args0 about1 = true := code_word (m := ⟨24, 1⟩) (meth := k24m1) (c := k24c1) (by decide +kernel) rfl rfl rfl (by decide +kernel)
set_option maxRecDepth 65536 in
theorem w_c38 : (Jvm.Cond.code ({ cls := "java/util/List", name := "of", desc := "()Ljava/util/List;" } : Jvm.MethodName) jdk_40_method_36_code (0 : Nat) (Option.some (Jvm.ClassFile.FieldType.object "java/util/List"))).before args0 about1 = true := code_word (m := ⟨14, 1⟩) (meth := k14m1) (c := k14c1) (by decide +kernel) rfl rfl rfl (by decide +kernel)
def codes1 : List Jvm.Cond := [Jvm.Cond.code x code maxLocals ret, Jvm.Cond.code ({ cls := "com/example/treellis/treellis/cfa/StructType", name := "<init>", desc := "(Lcom/example/treellis/treellis/cfa/StructType$Kind;Ljava/lang/String;)V" } : Jvm.MethodName) prog_52_method_1_code (3 : Nat) (Option.none : Option Jvm.ClassFile.FieldType), Jvm.Cond.code ({ cls := "java/lang/Object", name := "<init>", desc := "()V" } : Jvm.MethodName) object_method_1_code (1 : Nat) (Option.none : Option Jvm.ClassFile.FieldType), Jvm.Cond.code ({ cls := "com/example/treellis/treellis/cfa/StructType", name := "isComplete", desc := "()Z" } : Jvm.MethodName) prog_52_method_4_code (1 : Nat) (Option.some Jvm.ClassFile.FieldType.boolean), Jvm.Cond.code ({ cls := "com/example/treellis/treellis/cfa/StructType", name := "members", desc := "()Ljava/util/List;" } : Jvm.MethodName) prog_52_method_5_code (1 : Nat) (Option.some (Jvm.ClassFile.FieldType.object "java/util/List")), Jvm.Cond.code ({ cls := "com/example/treellis/treellis/cfa/StructType$Member", name := "<init>", desc := "(Ljava/lang/String;Lcom/example/treellis/treellis/cfa/Type;Ljava/lang/Integer;I)V" } : Jvm.MethodName) prog_54_method_1_code (5 : Nat) (Option.none : Option Jvm.ClassFile.FieldType), Jvm.Cond.code ({ cls := "java/util/ArrayList", name := "<init>", desc := "()V" } : Jvm.MethodName) jdk_38_method_2_code (1 : Nat) (Option.none : Option Jvm.ClassFile.FieldType), Jvm.Cond.code ({ cls := "java/util/AbstractList", name := "<init>", desc := "()V" } : Jvm.MethodName) jdk_39_method_1_code (1 : Nat) (Option.none : Option Jvm.ClassFile.FieldType), Jvm.Cond.code ({ cls := "java/util/AbstractCollection", name := "<init>", desc := "()V" } : Jvm.MethodName) jdk_22_method_1_code (1 : Nat) (Option.none : Option Jvm.ClassFile.FieldType), Jvm.Cond.code ({ cls := "java/util/ArrayList", name := "add", desc := "(Ljava/lang/Object;)Z" } : Jvm.MethodName) jdk_38_method_25_code (2 : Nat) (Option.some Jvm.ClassFile.FieldType.boolean), Jvm.Cond.code ({ cls := "java/util/ArrayList", name := "add", desc := "(Ljava/lang/Object;[Ljava/lang/Object;I)V" } : Jvm.MethodName) jdk_38_method_24_code (4 : Nat) (Option.none : Option Jvm.ClassFile.FieldType), Jvm.Cond.code ({ cls := "java/util/ArrayList", name := "grow", desc := "()[Ljava/lang/Object;" } : Jvm.MethodName) jdk_38_method_7_code (1 : Nat) (Option.some (Jvm.ClassFile.FieldType.array (Jvm.ClassFile.FieldType.object "java/lang/Object"))), Jvm.Cond.code ({ cls := "java/util/ArrayList", name := "grow", desc := "(I)[Ljava/lang/Object;" } : Jvm.MethodName) jdk_38_method_6_code (4 : Nat) (Option.some (Jvm.ClassFile.FieldType.array (Jvm.ClassFile.FieldType.object "java/lang/Object"))), Jvm.Cond.code ({ cls := "java/lang/Math", name := "max", desc := "(II)I" } : Jvm.MethodName) jdk_29_method_65_code (2 : Nat) (Option.some Jvm.ClassFile.FieldType.int), Jvm.Cond.code ({ cls := "com/example/treellis/treellis/cfa/StructType", name := "complete", desc := "(Ljava/util/List;II)V" } : Jvm.MethodName) prog_52_method_2_code (4 : Nat) (Option.none : Option Jvm.ClassFile.FieldType), Jvm.Cond.code ({ cls := "java/util/List", name := "copyOf", desc := "(Ljava/util/Collection;)Ljava/util/List;" } : Jvm.MethodName) jdk_40_method_48_code (1 : Nat) (Option.some (Jvm.ClassFile.FieldType.object "java/util/List")), Jvm.Cond.code ({ cls := "java/util/ImmutableCollections", name := "listCopy", desc := "(Ljava/util/Collection;)Ljava/util/List;" } : Jvm.MethodName) jdk_56_method_3_code (2 : Nat) (Option.some (Jvm.ClassFile.FieldType.object "java/util/List")), Jvm.Cond.code ({ cls := "java/util/ArrayList", name := "isEmpty", desc := "()Z" } : Jvm.MethodName) jdk_38_method_9_code (1 : Nat) (Option.some Jvm.ClassFile.FieldType.boolean), Jvm.Cond.code ({ cls := "java/util/ArrayList", name := "toArray", desc := "()[Ljava/lang/Object;" } : Jvm.MethodName) jdk_38_method_16_code (1 : Nat) (Option.some (Jvm.ClassFile.FieldType.array (Jvm.ClassFile.FieldType.object "java/lang/Object"))), Jvm.Cond.code ({ cls := "java/util/Arrays", name := "copyOf", desc := "([Ljava/lang/Object;I)[Ljava/lang/Object;" } : Jvm.MethodName) jdk_65_method_119_code (2 : Nat) (Option.some (Jvm.ClassFile.FieldType.array (Jvm.ClassFile.FieldType.object "java/lang/Object"))), Jvm.Cond.code ({ cls := "java/util/Arrays", name := "copyOf", desc := "([Ljava/lang/Object;ILjava/lang/Class;)[Ljava/lang/Object;" } : Jvm.MethodName) jdk_65_method_120_code (4 : Nat) (Option.some (Jvm.ClassFile.FieldType.array (Jvm.ClassFile.FieldType.object "java/lang/Object"))), Jvm.Cond.code ({ cls := "java/lang/Math", name := "min", desc := "(II)I" } : Jvm.MethodName) jdk_29_method_69_code (2 : Nat) (Option.some Jvm.ClassFile.FieldType.int), Jvm.Cond.code ({ cls := "java/util/List", name := "of", desc := "([Ljava/lang/Object;)Ljava/util/List;" } : Jvm.MethodName) jdk_40_method_47_code (2 : Nat) (Option.some (Jvm.ClassFile.FieldType.object "java/util/List")), Jvm.Cond.code ({ cls := "java/util/ImmutableCollections$List12", name := "<init>", desc := "(Ljava/lang/Object;Ljava/lang/Object;)V" } : Jvm.MethodName) jdk_44_method_2_code (3 : Nat) (Option.none : Option Jvm.ClassFile.FieldType), Jvm.Cond.code ({ cls := "java/util/ImmutableCollections$AbstractImmutableList", name := "<init>", desc := "()V" } : Jvm.MethodName) jdk_46_method_1_code (1 : Nat) (Option.none : Option Jvm.ClassFile.FieldType), Jvm.Cond.code ({ cls := "java/util/ImmutableCollections$AbstractImmutableCollection", name := "<init>", desc := "()V" } : Jvm.MethodName) jdk_47_method_1_code (1 : Nat) (Option.none : Option Jvm.ClassFile.FieldType), Jvm.Cond.code ({ cls := "java/util/Objects", name := "requireNonNull", desc := "(Ljava/lang/Object;)Ljava/lang/Object;" } : Jvm.MethodName) jdk_31_method_10_code (1 : Nat) (Option.some (Jvm.ClassFile.FieldType.object "java/lang/Object")), Jvm.Cond.code ({ cls := "java/util/ImmutableCollections$List12", name := "size", desc := "()I" } : Jvm.MethodName) jdk_44_method_3_code (1 : Nat) (Option.some Jvm.ClassFile.FieldType.int), Jvm.Cond.code ({ cls := "com/example/treellis/treellis/cfa/StructType", name := "packing", desc := "()I" } : Jvm.MethodName) prog_52_method_6_code (1 : Nat) (Option.some Jvm.ClassFile.FieldType.int), Jvm.Cond.code ({ cls := "com/example/treellis/treellis/cfa/StructType", name := "alignment", desc := "()I" } : Jvm.MethodName) prog_52_method_7_code (1 : Nat) (Option.some Jvm.ClassFile.FieldType.int), Jvm.Cond.code ({ cls := "java/lang/String", name := "valueOf", desc := "(C)Ljava/lang/String;" } : Jvm.MethodName) jdk_42_method_139_code (1 : Nat) (Option.some (Jvm.ClassFile.FieldType.object "java/lang/String")), Jvm.Cond.code ({ cls := "java/lang/StringLatin1", name := "canEncode", desc := "(C)Z" } : Jvm.MethodName) jdk_43_method_3_code (1 : Nat) (Option.some Jvm.ClassFile.FieldType.boolean), Jvm.Cond.code ({ cls := "java/lang/StringLatin1", name := "toBytes", desc := "(C)[B" } : Jvm.MethodName) jdk_43_method_46_code (1 : Nat) (Option.some (Jvm.ClassFile.FieldType.array Jvm.ClassFile.FieldType.byte)), Jvm.Cond.code ({ cls := "java/lang/String", name := "<init>", desc := "([BB)V" } : Jvm.MethodName) jdk_42_method_151_code (3 : Nat) (Option.none : Option Jvm.ClassFile.FieldType), Jvm.Cond.code ({ cls := "java/util/ImmutableCollections$List12", name := "<init>", desc := "(Ljava/lang/Object;)V" } : Jvm.MethodName) jdk_44_method_1_code (2 : Nat) (Option.none : Option Jvm.ClassFile.FieldType), Jvm.Cond.code ({ cls := "java/util/ImmutableCollections", name := "listFromArray", desc := "([Ljava/lang/Object;)Ljava/util/List;" } : Jvm.MethodName) jdk_56_method_4_code (3 : Nat) (Option.some (Jvm.ClassFile.FieldType.object "java/util/List")), Jvm.Cond.code ({ cls := "java/util/ImmutableCollections$ListN", name := "<init>", desc := "([Ljava/lang/Object;Z)V" } : Jvm.MethodName) jdk_45_method_1_code (3 : Nat) (Option.none : Option Jvm.ClassFile.FieldType), Jvm.Cond.code ({ cls := "java/util/ImmutableCollections$ListN", name := "size", desc := "()I" } : Jvm.MethodName) jdk_45_method_3_code (1 : Nat) (Option.some Jvm.ClassFile.FieldType.int), Jvm.Cond.code ({ cls := "java/util/List", name := "of", desc := "()Ljava/util/List;" } : Jvm.MethodName) jdk_40_method_36_code (0 : Nat) (Option.some (Jvm.ClassFile.FieldType.object "java/util/List"))]
set_option maxRecDepth 65536 in
theorem codes_eq : words1.filter isCode = codes1 := rfl
theorem w_codes : ∀ c ∈ words1.filter isCode, c.before args0 about1 = true := by
  rw [codes_eq]
  intro c hc
  simp only [codes1, List.mem_cons, List.not_mem_nil, or_false] at hc
  rcases hc with rfl | rfl | rfl | rfl | rfl | rfl | rfl | rfl | rfl | rfl | rfl | rfl | rfl | rfl | rfl | rfl | rfl | rfl | rfl | rfl | rfl | rfl | rfl | rfl | rfl | rfl | rfl | rfl | rfl | rfl | rfl | rfl | rfl | rfl | rfl | rfl | rfl | rfl | rfl
  · exact w_c0
  · exact w_c1
  · exact w_c2
  · exact w_c3
  · exact w_c4
  · exact w_c5
  · exact w_c6
  · exact w_c7
  · exact w_c8
  · exact w_c9
  · exact w_c10
  · exact w_c11
  · exact w_c12
  · exact w_c13
  · exact w_c14
  · exact w_c15
  · exact w_c16
  · exact w_c17
  · exact w_c18
  · exact w_c19
  · exact w_c20
  · exact w_c21
  · exact w_c22
  · exact w_c23
  · exact w_c24
  · exact w_c25
  · exact w_c26
  · exact w_c27
  · exact w_c28
  · exact w_c29
  · exact w_c30
  · exact w_c31
  · exact w_c32
  · exact w_c33
  · exact w_c34
  · exact w_c35
  · exact w_c36
  · exact w_c37
  · exact w_c38
set_option maxRecDepth 65536 in
theorem w_t1 : (words1.take 24).all (fun c => isCode c || c.before args0 about1) = true := by decide +kernel
set_option maxRecDepth 65536 in
theorem w_t2 : ((words1.drop 24).take 24).all (fun c => isCode c || c.before args0 about1) = true := by decide +kernel
set_option maxRecDepth 65536 in
theorem w_t3 : (((words1.drop 24).drop 24).take 24).all (fun c => isCode c || c.before args0 about1) = true := by decide +kernel
set_option maxRecDepth 65536 in
theorem w_t4 : ((((words1.drop 24).drop 24).drop 24).take 24).all (fun c => isCode c || c.before args0 about1) = true := by decide +kernel
set_option maxRecDepth 65536 in
theorem w_t5 : (((((words1.drop 24).drop 24).drop 24).drop 24).take 24).all (fun c => isCode c || c.before args0 about1) = true := by decide +kernel
set_option maxRecDepth 65536 in
theorem w_t6 : ((((((words1.drop 24).drop 24).drop 24).drop 24).drop 24).take 24).all (fun c => isCode c || c.before args0 about1) = true := by decide +kernel
set_option maxRecDepth 65536 in
theorem w_t7 : (((((((words1.drop 24).drop 24).drop 24).drop 24).drop 24).drop 24).take 24).all (fun c => isCode c || c.before args0 about1) = true := by decide +kernel
set_option maxRecDepth 65536 in
theorem w_t8 : ((((((((words1.drop 24).drop 24).drop 24).drop 24).drop 24).drop 24).drop 24).take 24).all (fun c => isCode c || c.before args0 about1) = true := by decide +kernel
set_option maxRecDepth 65536 in
theorem w_t9 : (((((((((words1.drop 24).drop 24).drop 24).drop 24).drop 24).drop 24).drop 24).drop 24).take 24).all (fun c => isCode c || c.before args0 about1) = true := by decide +kernel
set_option maxRecDepth 65536 in
theorem w_t10 : ((((((((((words1.drop 24).drop 24).drop 24).drop 24).drop 24).drop 24).drop 24).drop 24).drop 24).take 24).all (fun c => isCode c || c.before args0 about1) = true := by decide +kernel
set_option maxRecDepth 65536 in
theorem w_t11 : (((((((((((words1.drop 24).drop 24).drop 24).drop 24).drop 24).drop 24).drop 24).drop 24).drop 24).drop 24).take 24).all (fun c => isCode c || c.before args0 about1) = true := by decide +kernel
set_option maxRecDepth 65536 in
theorem w_t12 : (((((((((((words1.drop 24).drop 24).drop 24).drop 24).drop 24).drop 24).drop 24).drop 24).drop 24).drop 24).drop 24).all (fun c => isCode c || c.before args0 about1) = true := by decide +kernel
theorem w_tables : (allAtoms (Jvm.Cond.code x code maxLocals ret :: tables_1)).before args0 about1 = true := by
  rw [allAtoms_all]
  show words1.all (fun c => c.before args0 about1) = true
  refine all_split ?_ w_codes
  rw [← List.take_append_drop 24 words1, List.all_append, w_t1, ← List.take_append_drop 24 (words1.drop 24), List.all_append, w_t2, ← List.take_append_drop 24 ((words1.drop 24).drop 24), List.all_append, w_t3, ← List.take_append_drop 24 (((words1.drop 24).drop 24).drop 24), List.all_append, w_t4, ← List.take_append_drop 24 ((((words1.drop 24).drop 24).drop 24).drop 24), List.all_append, w_t5, ← List.take_append_drop 24 (((((words1.drop 24).drop 24).drop 24).drop 24).drop 24), List.all_append, w_t6, ← List.take_append_drop 24 ((((((words1.drop 24).drop 24).drop 24).drop 24).drop 24).drop 24), List.all_append, w_t7, ← List.take_append_drop 24 (((((((words1.drop 24).drop 24).drop 24).drop 24).drop 24).drop 24).drop 24), List.all_append, w_t8, ← List.take_append_drop 24 ((((((((words1.drop 24).drop 24).drop 24).drop 24).drop 24).drop 24).drop 24).drop 24), List.all_append, w_t9, ← List.take_append_drop 24 (((((((((words1.drop 24).drop 24).drop 24).drop 24).drop 24).drop 24).drop 24).drop 24).drop 24), List.all_append, w_t10, ← List.take_append_drop 24 ((((((((((words1.drop 24).drop 24).drop 24).drop 24).drop 24).drop 24).drop 24).drop 24).drop 24).drop 24), List.all_append, w_t11, w_t12]
  rfl
set_option maxRecDepth 65536 in
theorem w_rest : rest_1_c.before args0 about1 = true := by decide +kernel
set_option maxRecDepth 65536 in
theorem w_case : (Jvm.Cond.and given_1 narrow_1).before args0 about1 = true := by decide +kernel
theorem w_applies : (headSpec (Jvm.Cond.code x code maxLocals ret :: tables_1) room_1).applies x e0.platform about1 = true :=
  (Spec.applies_iff w_frames).mpr ⟨w_running, w_runnable, w_alone, w_named, w_hears, w_ripe, w_room, w_tables⟩
theorem atStart : AtStart classFile x code maxLocals ret World_1 tables_1 room_1 Calls_1 rest_1 Pre_1 launch0 p0 e0 about1 theMethod args0 below0 :=
  ⟨lists_1, trivial, launch0.admits_env _ _ _, launch0.least_env, fairChoices_fair.cas, fairChoices_fair.clock, w_frames, w_args, w_heap, w_applies, ⟨⟨39, k39, 5, by decide +kernel, rfl, rfl, _, rfl, rfl⟩, trivial⟩, w_rest, w_case⟩
end start1
theorem witness_1 : WitnessClaimed_1 := ⟨start1.p0, start1.e0, start1.about1, start1.theMethod, start1.args0, start1.below0, start1.atStart⟩
end Jvm.Pilot.@@N@@
