import JvmDerived
import JvmDerived.Pilot.@@N@@Statement
import JvmDerived.Pilot.@@N@@Code
set_option linter.unusedVariables false
set_option linter.unusedSimpArgs false
namespace Jvm.RoadKit
open Sem ClassFile Op Lib Jvm.Stand Jvm.Free Jvm.LawKit
section Own
variable {p : Program} {l : Launch} {e : Env} {R : Room} {s : State} {m : MethodId} {args : Array Value} {below : List Frame} {meth : Method} {c : Code} {T T1 : State} {locs : List Loc} {cells slots cs ss : Nat} {Q : Option Value → Heap → List Loc → Prop} {g g1 : JFrame}
/-- from the frame g over T the body comes to its end, and what it leaves is as Q says -/
def own_Goes (p : Program) (e : Env) (below : List Frame) (s : State) (Q : Option Value → Heap → List Loc → Prop) (cs ss : Nat) (T : State) (g : JFrame) : Prop :=
  ∃ s₂ o, Steps p.tables e below (T.setTop g) s₂ ∧ s₂.status = .running ∧ Ended s₂ below o ∧ ∃ v L, o = .returned v ∧ Q v s₂.heap L ∧ FrameEnd s o s₂ L cs ss
theorem own_go (st : ∀ target, Steps p.tables e below (T1.setTop g1) target → Steps p.tables e below (T.setTop g) target) (k : own_Goes p e below s Q cs ss T1 g1) : own_Goes p e below s Q cs ss T g := by
  obtain ⟨s₂, o, h, r⟩ := k
  exact ⟨s₂, o, st _ h, r⟩
theorem own_goS (st : Steps p.tables e below (T.setTop g) (T1.setTop g1)) (k : own_Goes p e below s Q cs ss T1 g1) : own_Goes p e below s Q cs ss T g := own_go (fun _ h => st.trans h) k
/-- the ends -/
theorem own_retN (X : Stand p l e R s m args below meth c T locs cells slots) (hx : p.tables.exec = Jvm.exec) {pc : Nat} {Ls : Array Slot} {z : Int32} {t : FieldType} {rest : List Value} (hlk : meth.locks = false) (hret : meth.sig.returnType = some t) (ht : t = .boolean ∨ t = .byte ∨ t = .char ∨ t = .short)
    (hd : decode c.code pc = .ok (.ireturn, 1)) (hc : cells ≤ cs) (hs : slots ≤ ss) (hQ : Q (some (.int (nar t z))) T.heap locs) : own_Goes p e below s Q cs ss T (mkF m pc Ls (.int z :: rest)) := by
  obtain ⟨fs, hr, hrun, hended, hW, hsame⟩ := X.leave (v := some (.int (nar t z))) (fun h => by rw [hret] at h; cases h) hlk
  exact ⟨_, _, retN X hx hret ht hd hr, hrun, hended, _, _, rfl, hQ, ⟨_, rfl⟩, hW, hsame.mono hc hs⟩
theorem own_ret (X : Stand p l e R s m args below meth c T locs cells slots) (hx : p.tables.exec = Jvm.exec) {pc : Nat} {Ls : Array Slot} {w : Value} {t : FieldType} {i : Instr} {rest : List Value} (hlk : meth.locks = false) (hret : meth.sig.returnType = some t) (hn : narrow t w = w)
    (hi : (i = .ireturn ∧ (t = .int ∨ t = .boolean ∨ t = .byte ∨ t = .char ∨ t = .short) ∧ ∃ z, w = .int z) ∨ (i = .lreturn ∧ t = .long ∧ ∃ z, w = .long z) ∨ (i = .dreturn ∧ t = .double ∧ ∃ z, w = .double z) ∨ (i = .freturn ∧ t = .float ∧ ∃ z, w = .float z) ∨ (i = .areturn ∧ t.isReference = true ∧ w.isRef = true))
    (hd : decode c.code pc = .ok (i, 1)) (hc : cells ≤ cs) (hs : slots ≤ ss) (hQ : Q (some w) T.heap locs) : own_Goes p e below s Q cs ss T (mkF m pc Ls (w :: rest)) := by
  obtain ⟨fs, hr, hrun, hended, hW, hsame⟩ := X.leave (v := some w) (fun h => by rw [hret] at h; cases h) hlk
  exact ⟨_, _, retOut X hx hret hn hi hd hr, hrun, hended, _, _, rfl, hQ, ⟨_, rfl⟩, hW, hsame.mono hc hs⟩
theorem own_retI (X : Stand p l e R s m args below meth c T locs cells slots) (hx : p.tables.exec = Jvm.exec) {pc : Nat} {Ls : Array Slot} {z : Int32} {rest : List Value} (hlk : meth.locks = false) (hret : meth.sig.returnType = some .int)
    (hd : decode c.code pc = .ok (.ireturn, 1)) (hc : cells ≤ cs) (hs : slots ≤ ss) (hQ : Q (some (.int z)) T.heap locs) : own_Goes p e below s Q cs ss T (mkF m pc Ls (.int z :: rest)) :=
  own_ret X hx hlk hret rfl (Or.inl ⟨rfl, Or.inl rfl, _, rfl⟩) hd hc hs hQ
theorem own_retA (X : Stand p l e R s m args below meth c T locs cells slots) (hx : p.tables.exec = Jvm.exec) {pc : Nat} {Ls : Array Slot} {w : Value} {t : FieldType} {rest : List Value} (hlk : meth.locks = false) (hret : meth.sig.returnType = some t) (ht : t.isReference = true) (hw : w.isRef = true)
    (hd : decode c.code pc = .ok (.areturn, 1)) (hc : cells ≤ cs) (hs : slots ≤ ss) (hQ : Q (some w) T.heap locs) : own_Goes p e below s Q cs ss T (mkF m pc Ls (w :: rest)) :=
  own_ret X hx hlk hret (by rcases ref_cases hw with rfl | ⟨a, rfl⟩ <;> cases t <;> simp [FieldType.isReference] at ht <;> rfl) (Or.inr (Or.inr (Or.inr (Or.inr ⟨rfl, ht, hw⟩)))) hd hc hs hQ
theorem own_retV (X : Stand p l e R s m args below meth c T locs cells slots) (hx : p.tables.exec = Jvm.exec) {pc : Nat} {Ls : Array Slot} (hlk : meth.locks = false) (hret : meth.sig.returnType = none)
    (hd : decode c.code pc = .ok (.return_, 1)) (hc : cells ≤ cs) (hs : slots ≤ ss) (hQ : Q none T.heap locs) : own_Goes p e below s Q cs ss T (mkF m pc Ls []) := by
  obtain ⟨fs, hr, hrun, hended, hW, hsame⟩ := X.leave (v := none) (fun _ => rfl) hlk
  exact ⟨_, _, X.returnOut hx hret hd hr, hrun, hended, _, _, rfl, hQ, ⟨_, rfl⟩, hW, hsame.mono hc hs⟩
/-- what holds throughout a body's walk -/
def own_Ctx (Z : State) (y : MethodName) (own : String) (bytes : ByteArray) (maxL : Nat) (ret : Option FieldType) (p : Program) (s : State) (m : MethodId) (meth : Method) (c : Code) : Prop :=
  p.tables.exec = Jvm.exec ∧ c.code = bytes ∧ c.maxLocals = maxL ∧ s.vm.findClass own = some m.cls ∧ meth.name = y.name ∧ meth.sig.returnType = ret ∧ meth.locks = false ∧ Z.Warmed39 s.vm
theorem own_met {Z : State} {y : MethodName} {own : String} {bytes : ByteArray} {maxL : Nat} {ret : Option FieldType} {ws : List Cond} {rm : Room} {as' : Array Value} {h0 : Heap} (hy : y.cls = own) (hpn : plainName own = true)
    (body : ∀ (p : Program) (e : Env) (s : State) (m : MethodId) (below : List Frame) (meth : Method) (c : Code) (s₁ : State), own_Ctx Z y own bytes maxL ret p s m meth c → s₁.heap = h0 → Stand p l e rm s m as' below meth c s₁ [] 0 0 → own_Goes p e below s Q cs ss s₁ (entryFrame m as' maxL)) :
    MetFree l y (head1 (Cond.code y bytes maxL ret :: ws) rm) (fun a U => a = as' ∧ Z.Warmed39 U.vm ∧ U.heap = h0) (fun _ _ _ _ _ => True) (fun _ U o U' => ∃ v L, o = .returned v ∧ Q v U'.heap L ∧ FrameEnd U o U' L cs ss) := by
  subst hy
  refine MetFree.of_bodySF (plainFor_of_name hpn) hisR ?_
  intro p e s m args below meth c s₁ Bd hml0 hP hK
  obtain ⟨rfl, hZ, hh⟩ := hP
  exact body p e s m below meth c s₁ ⟨Bd.exec, Bd.bytes, hml0, findClass_of_methodNamed Bd.named, (name_of_methodNamed Bd.named Bd.method).1, Bd.returns, Bd.notSynchronized, hZ⟩ (by rw [← hh, Bd.state]; rfl) (Stand.of_body Bd)
end Own
end Jvm.RoadKit
namespace Jvm.Pilot.@@N@@
open Jvm Jvm.ClassFile Sem Op Lib Jvm.Free Jvm.Stand Jvm.LawKit Jvm.RoadKit Bundle Jvm.Pilot.@@N@@.Jvm.D
def own_same (a b : Addr) : Int32 := if a = b then 1 else 0
theorem own_same_eq {a : Addr} : own_same a a = 1 := if_pos rfl
theorem own_same_ne {a b : Addr} (h : a ≠ b) : own_same a b = 0 := if_neg h
/-- an object of a class right under the root is none of another plain class -/
theorem own_nas {Z : State} {a0 : Array Value} {C S K : String} {n : Nat} (w : (Jvm.Cond.superclass C S).before a0 Z = true) (wo : (Jvm.Cond.noSuperclass S).before a0 Z = true) (wk : (Jvm.Cond.instantiable K n).before a0 Z = true) (h1 : C ≠ K) (h2 : S ≠ K) :
    ∃ c t, Z.vm.findClass C = some c ∧ Z.vm.findClass K = some t ∧ Z.vm.assignable c t = false := by
  obtain ⟨t, kt, g0, g2, g5, g7, -, -⟩ := Cond.instantiable_spec wk
  obtain ⟨o, ko, o1, o2, o3, -, -⟩ := Cond.noSuperclass_spec wo
  obtain ⟨c, h0⟩ := found_sup w
  obtain ⟨p, k, kp, q1, q2, q3, q4, q5, -, q7⟩ := Cond.superclass_spec h0 w
  cases o1.symm.trans q1
  have ne1 := ids_ne h0 g0 h1
  have ne2 := ids_ne o1 g0 h2
  have hi : kt.isInterface = false := (Bool.or_eq_false_iff.mp g7).1
  have n2 : ∀ fuel, Z.vm.isSubclassAux fuel o t = false := fun fuel => by
    cases fuel with
    | zero => rfl
    | succ f => simp [Vm.isSubclassAux, ne2, o2, o3]
  have n3 : ∀ fuel, Z.vm.isSubclassAux fuel c t = false := fun fuel => by
    cases fuel with
    | zero => rfl
    | succ f => simp [Vm.isSubclassAux, ne1, q2, q4, n2]
  refine ⟨c, t, h0, g0, ?_⟩
  show Z.vm.assignableAux (255 + 1) c t = false
  simp [Vm.assignableAux, ne1, q2, g2, q5, g5, hi, Vm.isSubclass, n3]
theorem d1_0 : decode prog_27_method_1_code 0 = .ok (.aload_n 0, 1) := by decide +kernel
theorem d1_1 : decode prog_27_method_1_code 1 = .ok (.invokespecial 1, 3) := by decide +kernel
theorem d1_4 : decode prog_27_method_1_code 4 = .ok (.aload_n 0, 1) := by decide +kernel
theorem d1_5 : decode prog_27_method_1_code 5 = .ok (.new 7, 3) := by decide +kernel
theorem d1_8 : decode prog_27_method_1_code 8 = .ok (.dup, 1) := by decide +kernel
theorem d1_9 : decode prog_27_method_1_code 9 = .ok (.invokespecial 9, 3) := by decide +kernel
theorem d1_12 : decode prog_27_method_1_code 12 = .ok (.putfield 10, 3) := by decide +kernel
theorem d1_15 : decode prog_27_method_1_code 15 = .ok (.aload_n 0, 1) := by decide +kernel
theorem d1_16 : decode prog_27_method_1_code 16 = .ok (.iload_n 1, 1) := by decide +kernel
theorem d1_17 : decode prog_27_method_1_code 17 = .ok (.putfield 16, 3) := by decide +kernel
theorem d1_20 : decode prog_27_method_1_code 20 = .ok (.return_, 1) := by decide +kernel
theorem d3_0 : decode jdk_38_method_2_code 0 = .ok (.aload_n 0, 1) := by decide +kernel
theorem d3_1 : decode jdk_38_method_2_code 1 = .ok (.invokespecial 1, 3) := by decide +kernel
theorem d3_4 : decode jdk_38_method_2_code 4 = .ok (.aload_n 0, 1) := by decide +kernel
theorem d3_5 : decode jdk_38_method_2_code 5 = .ok (.getstatic 39, 3) := by decide +kernel
theorem d3_8 : decode jdk_38_method_2_code 8 = .ok (.putfield 9, 3) := by decide +kernel
theorem d3_11 : decode jdk_38_method_2_code 11 = .ok (.return_, 1) := by decide +kernel
theorem d4_0 : decode jdk_39_method_1_code 0 = .ok (.aload_n 0, 1) := by decide +kernel
theorem d4_1 : decode jdk_39_method_1_code 1 = .ok (.invokespecial 1, 3) := by decide +kernel
theorem d4_4 : decode jdk_39_method_1_code 4 = .ok (.aload_n 0, 1) := by decide +kernel
theorem d4_5 : decode jdk_39_method_1_code 5 = .ok (.iconst 0, 1) := by decide +kernel
theorem d4_6 : decode jdk_39_method_1_code 6 = .ok (.putfield 7, 3) := by decide +kernel
theorem d4_9 : decode jdk_39_method_1_code 9 = .ok (.return_, 1) := by decide +kernel
theorem d5_0 : decode jdk_22_method_1_code 0 = .ok (.aload_n 0, 1) := by decide +kernel
theorem d5_1 : decode jdk_22_method_1_code 1 = .ok (.invokespecial 1, 3) := by decide +kernel
theorem d5_4 : decode jdk_22_method_1_code 4 = .ok (.return_, 1) := by decide +kernel
theorem d6_0 : decode prog_78_method_1_code 0 = .ok (.aload_n 0, 1) := by decide +kernel
theorem d6_1 : decode prog_78_method_1_code 1 = .ok (.invokespecial 1, 3) := by decide +kernel
theorem d6_4 : decode prog_78_method_1_code 4 = .ok (.aload_n 0, 1) := by decide +kernel
theorem d6_5 : decode prog_78_method_1_code 5 = .ok (.aload_n 1, 1) := by decide +kernel
theorem d6_6 : decode prog_78_method_1_code 6 = .ok (.putfield 7, 3) := by decide +kernel
theorem d6_9 : decode prog_78_method_1_code 9 = .ok (.return_, 1) := by decide +kernel
theorem d7_0 : decode prog_78_method_3_code 0 = .ok (.aload_n 1, 1) := by decide +kernel
theorem d7_1 : decode prog_78_method_3_code 1 = .ok (.instanceof 8, 3) := by decide +kernel
theorem d7_4 : decode prog_78_method_3_code 4 = .ok (.ifCond .eq 21, 3) := by decide +kernel
theorem d7_7 : decode prog_78_method_3_code 7 = .ok (.aload_n 1, 1) := by decide +kernel
theorem d7_8 : decode prog_78_method_3_code 8 = .ok (.checkcast 8, 3) := by decide +kernel
theorem d7_11 : decode prog_78_method_3_code 11 = .ok (.getfield 7, 3) := by decide +kernel
theorem d7_14 : decode prog_78_method_3_code 14 = .ok (.aload_n 0, 1) := by decide +kernel
theorem d7_15 : decode prog_78_method_3_code 15 = .ok (.getfield 7, 3) := by decide +kernel
theorem d7_18 : decode prog_78_method_3_code 18 = .ok (.if_acmp .ne 7, 3) := by decide +kernel
theorem d7_21 : decode prog_78_method_3_code 21 = .ok (.iconst 1, 1) := by decide +kernel
theorem d7_22 : decode prog_78_method_3_code 22 = .ok (.goto 4, 3) := by decide +kernel
theorem d7_25 : decode prog_78_method_3_code 25 = .ok (.iconst 0, 1) := by decide +kernel
theorem d7_26 : decode prog_78_method_3_code 26 = .ok (.ireturn, 1) := by decide +kernel
theorem pn_0 : plainName "com/example/treellis/treellis/cpa/location/LocationStateEqualsPinLaw" = true := by first | (simp [plainName, overriddenIn]; done) | decide +kernel
theorem pn_1 : plainName "com/example/treellis/treellis/cfa/CfaNode" = true := by first | (simp [plainName, overriddenIn]; done) | decide +kernel
theorem pn_3 : plainName "java/util/ArrayList" = true := by first | (simp [plainName, overriddenIn]; done) | decide +kernel
theorem pn_4 : plainName "java/util/AbstractList" = true := by first | (simp [plainName, overriddenIn]; done) | decide +kernel
theorem pn_5 : plainName "java/util/AbstractCollection" = true := by first | (simp [plainName, overriddenIn]; done) | decide +kernel
theorem pn_6 : plainName "com/example/treellis/treellis/cpa/location/LocationState" = true := by first | (simp [plainName, overriddenIn]; done) | decide +kernel
theorem pn_7 : plainName "com/example/treellis/treellis/cpa/location/LocationState" = true := by first | (simp [plainName, overriddenIn]; done) | decide +kernel
theorem pd_0 : parseMethodDescriptor "()V" = some ⟨[], none⟩ := by decide +kernel
theorem pd_1 : parseMethodDescriptor "(I)V" = some ⟨[.int], none⟩ := by decide +kernel
theorem pd_2 : parseMethodDescriptor "(Lcom/example/treellis/treellis/cfa/CfaNode;)V" = some ⟨[(.object "com/example/treellis/treellis/cfa/CfaNode")], none⟩ := by decide +kernel
theorem pd_3 : parseMethodDescriptor "(Ljava/lang/Object;)Z" = some ⟨[(.object "java/lang/Object")], some .boolean⟩ := by decide +kernel
theorem ef_5 (m : MethodId) (a1 : Addr) : entryFrame m #[(.ref a1)] 1 = mkF m 0 #[.val (.ref a1)] [] := by first | (simp [entryFrame, mkF, argsToLocals, Value.category]; done) | rfl
theorem ef_4 (m : MethodId) (a1 : Addr) : entryFrame m #[(.ref a1)] 1 = mkF m 0 #[.val (.ref a1)] [] := by first | (simp [entryFrame, mkF, argsToLocals, Value.category]; done) | rfl
theorem ef_3 (m : MethodId) (a1 : Addr) : entryFrame m #[(.ref a1)] 1 = mkF m 0 #[.val (.ref a1)] [] := by first | (simp [entryFrame, mkF, argsToLocals, Value.category]; done) | rfl
theorem ef_1 (m : MethodId) (a1 : Addr) (p2 : Int32) : entryFrame m #[(.ref a1), (.int p2)] 2 = mkF m 0 #[.val (.ref a1), .val (.int p2)] [] := by first | (simp [entryFrame, mkF, argsToLocals, Value.category]; done) | rfl
theorem ef_6 (m : MethodId) (a1 : Addr) (a2 : Addr) : entryFrame m #[(.ref a1), (.ref a2)] 2 = mkF m 0 #[.val (.ref a1), .val (.ref a2)] [] := by first | (simp [entryFrame, mkF, argsToLocals, Value.category]; done) | rfl
theorem ef_7 (m : MethodId) (a1 : Addr) (a2 : Addr) : entryFrame m #[(.ref a1), (.ref a2)] 2 = mkF m 0 #[.val (.ref a1), .val (.ref a2)] [] := by first | (simp [entryFrame, mkF, argsToLocals, Value.category]; done) | rfl
theorem ef_7N (m : MethodId) (a1 : Addr) : entryFrame m #[(.ref a1), .null] 2 = mkF m 0 #[.val (.ref a1), .val .null] [] := by first | (simp [entryFrame, mkF, argsToLocals, Value.category]; done) | rfl
theorem ef_0 (m : MethodId) (p0 : Int32) (p1 : Int32) (p2 : Int32) : entryFrame m #[(.int p0), (.int p1), (.int p2)] maxLocals = mkF m 0 #[.val (.int p0), .val (.int p1), .val (.int p2), .unset, .unset, .unset, .unset, .unset, .unset, .unset, .unset, .unset, .unset] [] := by first | (simp [entryFrame, mkF, argsToLocals, Value.category, maxLocals]; done) | rfl
def Q_rm5 (Z : State) (h0 : Heap) (n0 : Nat)  (v : Option Value) (h : Heap) (L : List Loc) : Prop := v = none ∧ Fr n0 L ∧ h = h0
set_option maxRecDepth 65536 in
set_option maxHeartbeats 40000000 in
theorem rm5 (l : Launch) (Z : State) (a0 : Array Value) (hw : ∀ d ∈ tables_1, d.before a0 Z = true) (ws : List Jvm.Cond) (a1 : Addr) (h0 : Heap) (n0 : Nat) (Z0 : n0 ≤ h0.size) :
    MetFree l (⟨"java/util/AbstractCollection", "<init>", "()V"⟩ : MethodName) (head1 (Jvm.Cond.code (⟨"java/util/AbstractCollection", "<init>", "()V"⟩ : MethodName) jdk_22_method_1_code 1 none :: ws) ({ frames := 1, cells := 0, slots := 0, locals := 12 } : Room)) (fun a U => a = #[(.ref a1)] ∧ Z.Warmed39 U.vm ∧ U.heap = h0) (fun _ _ _ _ _ => True) (fun _ U o U' => ∃ rv rL, o = .returned rv ∧ Q_rm5 Z h0 n0  rv U'.heap rL ∧ FrameEnd U o U' rL ({ frames := 1, cells := 0, slots := 0, locals := 12 } : Room).cells ({ frames := 1, cells := 0, slots := 0, locals := 12 } : Room).slots) := by
  refine own_met (y := (⟨"java/util/AbstractCollection", "<init>", "()V"⟩ : MethodName)) (Q := Q_rm5 Z h0 n0 ) (own := "java/util/AbstractCollection") rfl pn_5 ?_
  intro p e s m below meth c s₁ C e0 X0
  obtain ⟨hx, hby, hml, hown, hnm, hret, hlk, hZ⟩ := C
  have N0 := Fr.nil n0
  rw [ef_5]
  show own_Goes _ _ _ _ _ _ _ s₁ (mkF m 0 #[.val (.ref a1)] [])
  refine own_go (fun _ k => XS.aloadN X0.here hx rfl (hb hby d5_0) rfl rfl k) ?_
  show own_Goes _ _ _ _ _ _ _ s₁ (mkF m 1 #[.val (.ref a1)] [(.ref a1)])
  obtain ⟨T1, X1, e1, st1⟩ := initO X0 hx hZ hown (hw _ (List.mem_of_getElem? (i := 27) rfl)) (hw _ (List.mem_of_getElem? (i := 7) rfl)) (hw _ (List.mem_of_getElem? (i := 8) rfl)) e0 (g := (mkF m 1 #[.val (.ref a1)] [(.ref a1)])) rfl (by rw [hml]; rfl) rfl (hb hby d5_1) (by decide) (W := 0) (by show 2 * 0 + _ ≤ _; exact Nat.le_of_eq rfl) (by decide)
  refine own_go st1 ?_
  show own_Goes _ _ _ _ _ _ _ T1 (mkF m 4 #[.val (.ref a1)] [])
  exact own_retV X1 hx hlk hret (hb hby d5_4) (by decide) (by decide) (by rw [e1]; exact ⟨rfl, N0, rfl⟩)
def Q_rm4 (Z : State) (h0 : Heap) (n0 : Nat) (a1 : Addr) (v : Option Value) (h : Heap) (L : List Loc) : Prop := v = none ∧ Fr n0 L ∧ Keep h0 h [a1] ∧ Fld Z h a1 "java/util/ArrayList" "elementData" "[Ljava/lang/Object;" .null
set_option maxRecDepth 65536 in
set_option maxHeartbeats 40000000 in
theorem rm4 (l : Launch) (Z : State) (a0 : Array Value) (hw : ∀ d ∈ tables_1, d.before a0 Z = true) (ws : List Jvm.Cond) (a1 : Addr) (h0 : Heap) (n0 : Nat) (Z0 : n0 ≤ h0.size) (E_a1 : Exa Z h0 a1 "java/util/ArrayList") (F_mc : Fld Z h0 a1 "java/util/AbstractList" "modCount" "I" (.int (0 : Int32))) (F_el : Fld Z h0 a1 "java/util/ArrayList" "elementData" "[Ljava/lang/Object;" .null) (lo_a1 : n0 ≤ a1) :
    MetFree l (⟨"java/util/AbstractList", "<init>", "()V"⟩ : MethodName) (head1 (Jvm.Cond.code (⟨"java/util/AbstractList", "<init>", "()V"⟩ : MethodName) jdk_39_method_1_code 1 none :: ws) ({ frames := 2, cells := 0, slots := 0, locals := 24 } : Room)) (fun a U => a = #[(.ref a1)] ∧ Z.Warmed39 U.vm ∧ U.heap = h0) (fun _ _ _ _ _ => True) (fun _ U o U' => ∃ rv rL, o = .returned rv ∧ Q_rm4 Z h0 n0 a1 rv U'.heap rL ∧ FrameEnd U o U' rL ({ frames := 2, cells := 0, slots := 0, locals := 24 } : Room).cells ({ frames := 2, cells := 0, slots := 0, locals := 24 } : Room).slots) := by
  refine own_met (y := (⟨"java/util/AbstractList", "<init>", "()V"⟩ : MethodName)) (Q := Q_rm4 Z h0 n0 a1) (own := "java/util/AbstractList") rfl pn_4 ?_
  intro p e s m below meth c s₁ C e0 X0
  obtain ⟨hx, hby, hml, hown, hnm, hret, hlk, hZ⟩ := C
  have N0 := Fr.nil n0
  rw [ef_4]
  have Kp0 : Keep h0 h0 [a1] := Keep.refl h0 _
  show own_Goes _ _ _ _ _ _ _ s₁ (mkF m 0 #[.val (.ref a1)] [])
  refine own_go (fun _ k => XS.aloadN X0.here hx rfl (hb hby d4_0) rfl rfl k) ?_
  show own_Goes _ _ _ _ _ _ _ s₁ (mkF m 1 #[.val (.ref a1)] [(.ref a1)])
  obtain ⟨_, _, ⟨T1, L1, k1, n1⟩, -, X1, ⟨Lc1, hQ1, l1, y1, z1⟩, st1⟩ := X0.specialBack hx (y := (⟨"java/util/AbstractCollection", "<init>", "()V"⟩ : MethodName)) rfl hown (mvT hZ (hw _ (List.mem_of_getElem? (i := 21) rfl))) (mvT hZ (hw _ (List.mem_of_getElem? (i := 22) rfl))) (mvT hZ (hw _ (List.mem_of_getElem? (i := 26) rfl))) (by decide) (backOf (W := 0) (rm5 l Z a0 hw [] a1 h0 n0 Z0) hZ (hw _ (List.mem_of_getElem? (i := 26) rfl)) (hw _ (List.mem_of_getElem? (i := 25) rfl)) (by decide) (by decide)) (g := (mkF m 1 #[.val (.ref a1)] [(.ref a1)])) rfl (by rw [hml]; rfl) (Steps.refl _) (a := a1) (argsL := []) (rest := []) (lenOf pd_0 rfl) rfl (by show 2 * 0 + _ ≤ _; exact Nat.le_of_eq rfl) (hb hby d4_1) (fun _ _ => ⟨rfl, e0, (by decide : 0 + 0 ≤ _), (by decide : 0 + 0 ≤ _)⟩)
  dsimp only [Pt.U, Pt.locs, Pt.cells, Pt.slots] at X1 l1 y1 z1 st1 hQ1
  subst l1 y1 z1
  obtain ⟨rfl, N1q, e1⟩ := hQ1
  have N1 := Fr.app N0 N1q
  refine own_goS st1 ?_
  show own_Goes _ _ _ _ _ _ _ T1 (mkF m 4 #[.val (.ref a1)] [])
  refine own_go (fun _ k => XS.aloadN X1.here hx rfl (hb hby d4_4) rfl rfl k) ?_
  show own_Goes _ _ _ _ _ _ _ T1 (mkF m 5 #[.val (.ref a1)] [(.ref a1)])
  refine own_go (fun _ k => XS.iconst X1.here hx rfl (hb hby d4_5) k) ?_
  show own_Goes _ _ _ _ _ _ _ T1 (mkF m 6 #[.val (.ref a1)] [(.int (0 : Int32)), (.ref a1)])
  obtain ⟨T2, h2, X2, e2, W2, st2⟩ := putF X1 hx hZ hown (host := "") (Or.inl (hw _ (List.mem_of_getElem? (i := 28) rfl))) Via.refl e1 F_mc E_a1 (Or.inl (hw _ (List.mem_of_getElem? (i := 29) rfl))) (hw _ (List.mem_of_getElem? (i := 10) rfl)) (ty := .int) (by decide) rfl rfl (g := (mkF m 6 #[.val (.ref a1)] [(.int (0 : Int32)), (.ref a1)])) rfl rfl (hb hby d4_6)
  have F_mc_2 : Fld Z h2 a1 "java/util/AbstractList" "modCount" "I" (.int (0 : Int32)) := F_mc.same W2
  have N2 := Fr.snoc X2 N1 lo_a1
  have E_a1_2 : Exa Z h2 a1 "java/util/ArrayList" := E_a1.wr W2
  have F_el_2 : Fld Z h2 a1 "java/util/ArrayList" "elementData" "[Ljava/lang/Object;" .null := F_el.other W2 (Or.inr (slot_ne (Or.inl (hw _ (List.mem_of_getElem? (i := 32) rfl))) (Or.inl (hw _ (List.mem_of_getElem? (i := 29) rfl))) (by decide) (t := (.array (.object "java/lang/Object"))) (t' := .int) (by decide) (by decide)))
  have Zs2 : n0 ≤ h2.size := Nat.le_trans Z0 (Keep.of_wr W2).1
  have Kp2 : Keep h0 h2 [a1] := Kp0.wr W2 (Or.inl (by simp))
  refine own_go st2 ?_
  show own_Goes _ _ _ _ _ _ _ T2 (mkF m 9 #[.val (.ref a1)] [])
  exact own_retV X2 hx hlk hret (hb hby d4_9) (by decide) (by decide) (by rw [e2]; exact ⟨rfl, N2, Kp2, F_el_2⟩)
def Q_rm3 (Z : State) (h0 : Heap) (n0 : Nat) (a1 : Addr) (v : Option Value) (h : Heap) (L : List Loc) : Prop := v = none ∧ Fr n0 L ∧ Keep h0 h [a1]
set_option maxRecDepth 65536 in
set_option maxHeartbeats 40000000 in
theorem rm3 (l : Launch) (Z : State) (a0 : Array Value) (hw : ∀ d ∈ tables_1, d.before a0 Z = true) (ws : List Jvm.Cond) (a1 aD : Addr) (h0 : Heap) (n0 : Nat) (Z0 : n0 ≤ h0.size) (E_a1 : Exa Z h0 a1 "java/util/ArrayList") (F_mc : Fld Z h0 a1 "java/util/AbstractList" "modCount" "I" (.int (0 : Int32))) (F_el : Fld Z h0 a1 "java/util/ArrayList" "elementData" "[Ljava/lang/Object;" .null) (lo_a1 : n0 ≤ a1) (SD : Sta Z Z.heap "java/util/ArrayList" "DEFAULTCAPACITY_EMPTY_ELEMENTDATA" "[Ljava/lang/Object;" (.ref aD)) (Od0 : Old Z n0 h0) :
    MetFree l (⟨"java/util/ArrayList", "<init>", "()V"⟩ : MethodName) (head1 (Jvm.Cond.code (⟨"java/util/ArrayList", "<init>", "()V"⟩ : MethodName) jdk_38_method_2_code 1 none :: ws) ({ frames := 3, cells := 0, slots := 0, locals := 36 } : Room)) (fun a U => a = #[(.ref a1)] ∧ Z.Warmed39 U.vm ∧ U.heap = h0) (fun _ _ _ _ _ => True) (fun _ U o U' => ∃ rv rL, o = .returned rv ∧ Q_rm3 Z h0 n0 a1 rv U'.heap rL ∧ FrameEnd U o U' rL ({ frames := 3, cells := 0, slots := 0, locals := 36 } : Room).cells ({ frames := 3, cells := 0, slots := 0, locals := 36 } : Room).slots) := by
  refine own_met (y := (⟨"java/util/ArrayList", "<init>", "()V"⟩ : MethodName)) (Q := Q_rm3 Z h0 n0 a1) (own := "java/util/ArrayList") rfl pn_3 ?_
  intro p e s m below meth c s₁ C e0 X0
  obtain ⟨hx, hby, hml, hown, hnm, hret, hlk, hZ⟩ := C
  have N0 := Fr.nil n0
  rw [ef_3]
  have Kp0 : Keep h0 h0 [a1] := Keep.refl h0 _
  show own_Goes _ _ _ _ _ _ _ s₁ (mkF m 0 #[.val (.ref a1)] [])
  refine own_go (fun _ k => XS.aloadN X0.here hx rfl (hb hby d3_0) rfl rfl k) ?_
  show own_Goes _ _ _ _ _ _ _ s₁ (mkF m 1 #[.val (.ref a1)] [(.ref a1)])
  obtain ⟨_, _, ⟨T1, L1, k1, n1⟩, -, X1, ⟨Lc1, hQ1, l1, y1, z1⟩, st1⟩ := X0.specialBack hx (y := (⟨"java/util/AbstractList", "<init>", "()V"⟩ : MethodName)) rfl hown (mvT hZ (hw _ (List.mem_of_getElem? (i := 15) rfl))) (mvT hZ (hw _ (List.mem_of_getElem? (i := 16) rfl))) (mvT hZ (hw _ (List.mem_of_getElem? (i := 20) rfl))) (by decide) (backOf (W := 0) (rm4 l Z a0 hw [] a1 h0 n0 Z0 E_a1 F_mc F_el lo_a1) hZ (hw _ (List.mem_of_getElem? (i := 20) rfl)) (hw _ (List.mem_of_getElem? (i := 19) rfl)) (by decide) (by decide)) (g := (mkF m 1 #[.val (.ref a1)] [(.ref a1)])) rfl (by rw [hml]; rfl) (Steps.refl _) (a := a1) (argsL := []) (rest := []) (lenOf pd_0 rfl) rfl (by show 2 * 0 + _ ≤ _; exact Nat.le_of_eq rfl) (hb hby d3_1) (fun _ _ => ⟨rfl, e0, (by decide : 0 + 0 ≤ _), (by decide : 0 + 0 ≤ _)⟩)
  dsimp only [Pt.U, Pt.locs, Pt.cells, Pt.slots] at X1 l1 y1 z1 st1 hQ1
  subst l1 y1 z1
  obtain ⟨rfl, N1q, K1, F1⟩ := hQ1
  have N1 := Fr.app N0 N1q
  refine own_goS st1 ?_
  show own_Goes _ _ _ _ _ _ _ T1 (mkF m 4 #[.val (.ref a1)] [])
  have E_a1_1 : Exa Z T1.heap a1 "java/util/ArrayList" := E_a1.keep K1
  have Zs1 : n0 ≤ T1.heap.size := Nat.le_trans Z0 K1.1
  have Kp1 : Keep h0 T1.heap [a1] := Kp0.trans K1 (allS (Or.inl (by simp)) all0)
  have Od1 : Old Z n0 T1.heap := Od0.keep K1 (allS lo_a1 all0)
  refine own_go (fun _ k => XS.aloadN X1.here hx rfl (hb hby d3_4) rfl rfl k) ?_
  show own_Goes _ _ _ _ _ _ _ T1 (mkF m 5 #[.val (.ref a1)] [(.ref a1)])
  obtain ⟨T2, X2, e2, st2⟩ := getS2 X1 hx hZ hown (host := "") (Or.inl (hw _ (List.mem_of_getElem? (i := 30) rfl))) Via.refl rfl (SD.ext Od1.2) (g := (mkF m 5 #[.val (.ref a1)] [(.ref a1)])) rfl (hb hby d3_5)
  refine own_go st2 ?_
  show own_Goes _ _ _ _ _ _ _ T2 (mkF m 8 #[.val (.ref a1)] [(.ref aD), (.ref a1)])
  obtain ⟨T3, h3, X3, e3, W3, st3⟩ := putF X2 hx hZ hown (host := "") (Or.inl (hw _ (List.mem_of_getElem? (i := 31) rfl))) Via.refl e2 F1 E_a1_1 (Or.inl (hw _ (List.mem_of_getElem? (i := 32) rfl))) (hw _ (List.mem_of_getElem? (i := 10) rfl)) (ty := (.array (.object "java/lang/Object"))) (by decide) rfl rfl (g := (mkF m 8 #[.val (.ref a1)] [(.ref aD), (.ref a1)])) rfl rfl (hb hby d3_8)
  have F_el_3 : Fld Z h3 a1 "java/util/ArrayList" "elementData" "[Ljava/lang/Object;" (.ref aD) := F1.same W3
  have N3 := Fr.snoc X3 N1 lo_a1
  have E_a1_3 : Exa Z h3 a1 "java/util/ArrayList" := E_a1_1.wr W3
  have Zs3 : n0 ≤ h3.size := Nat.le_trans Zs1 (Keep.of_wr W3).1
  have Kp3 : Keep h0 h3 [a1] := Kp1.wr W3 (Or.inl (by simp))
  have Od3 : Old Z n0 h3 := Od1.wr W3 lo_a1
  refine own_go st3 ?_
  show own_Goes _ _ _ _ _ _ _ T3 (mkF m 11 #[.val (.ref a1)] [])
  exact own_retV X3 hx hlk hret (hb hby d3_11) (by decide) (by decide) (by rw [e3]; exact ⟨rfl, N3, Kp3⟩)
def Q_rm1 (Z : State) (h0 : Heap) (n0 : Nat) (a1 : Addr) (v : Option Value) (h : Heap) (L : List Loc) : Prop := v = none ∧ Fr n0 L ∧ Keep h0 h [a1]
set_option maxRecDepth 65536 in
set_option maxHeartbeats 40000000 in
theorem rm1 (l : Launch) (Z : State) (a0 : Array Value) (hw : ∀ d ∈ tables_1, d.before a0 Z = true) (ws : List Jvm.Cond) (a1 aD : Addr) (p2 : Int32) (h0 : Heap) (n0 : Nat) (Z0 : n0 ≤ h0.size) (E_a1 : Exa Z h0 a1 "com/example/treellis/treellis/cfa/CfaNode") (F_le : Fld Z h0 a1 "com/example/treellis/treellis/cfa/CfaNode" "leavingEdges" "Ljava/util/List;" .null) (F_id : Fld Z h0 a1 "com/example/treellis/treellis/cfa/CfaNode" "id" "I" (.int (0 : Int32))) (lo_a1 : n0 ≤ a1) (SD : Sta Z Z.heap "java/util/ArrayList" "DEFAULTCAPACITY_EMPTY_ELEMENTDATA" "[Ljava/lang/Object;" (.ref aD)) (Od0 : Old Z n0 h0) :
    MetFree l (⟨"com/example/treellis/treellis/cfa/CfaNode", "<init>", "(I)V"⟩ : MethodName) (head1 (Jvm.Cond.code (⟨"com/example/treellis/treellis/cfa/CfaNode", "<init>", "(I)V"⟩ : MethodName) prog_27_method_1_code 2 none :: ws) ({ frames := 4, cells := 1, slots := 3, locals := 50 } : Room)) (fun a U => a = #[(.ref a1), (.int p2)] ∧ Z.Warmed39 U.vm ∧ U.heap = h0) (fun _ _ _ _ _ => True) (fun _ U o U' => ∃ rv rL, o = .returned rv ∧ Q_rm1 Z h0 n0 a1 rv U'.heap rL ∧ FrameEnd U o U' rL ({ frames := 4, cells := 1, slots := 3, locals := 50 } : Room).cells ({ frames := 4, cells := 1, slots := 3, locals := 50 } : Room).slots) := by
  refine own_met (y := (⟨"com/example/treellis/treellis/cfa/CfaNode", "<init>", "(I)V"⟩ : MethodName)) (Q := Q_rm1 Z h0 n0 a1) (own := "com/example/treellis/treellis/cfa/CfaNode") rfl pn_1 ?_
  intro p e s m below meth c s₁ C e0 X0
  obtain ⟨hx, hby, hml, hown, hnm, hret, hlk, hZ⟩ := C
  have N0 := Fr.nil n0
  rw [ef_1]
  have Kp0 : Keep h0 h0 [a1] := Keep.refl h0 _
  show own_Goes _ _ _ _ _ _ _ s₁ (mkF m 0 #[.val (.ref a1), .val (.int p2)] [])
  refine own_go (fun _ k => XS.aloadN X0.here hx rfl (hb hby d1_0) rfl rfl k) ?_
  show own_Goes _ _ _ _ _ _ _ s₁ (mkF m 1 #[.val (.ref a1), .val (.int p2)] [(.ref a1)])
  obtain ⟨T1, X1, e1, st1⟩ := initO X0 hx hZ hown (hw _ (List.mem_of_getElem? (i := 6) rfl)) (hw _ (List.mem_of_getElem? (i := 7) rfl)) (hw _ (List.mem_of_getElem? (i := 8) rfl)) e0 (g := (mkF m 1 #[.val (.ref a1), .val (.int p2)] [(.ref a1)])) rfl (by rw [hml]; rfl) rfl (hb hby d1_1) (by decide) (W := 0) (by show 2 * 0 + _ ≤ _; exact Nat.le_of_eq rfl) (by decide)
  refine own_go st1 ?_
  show own_Goes _ _ _ _ _ _ _ T1 (mkF m 4 #[.val (.ref a1), .val (.int p2)] [])
  refine own_go (fun _ k => XS.aloadN X1.here hx rfl (hb hby d1_4) rfl rfl k) ?_
  show own_Goes _ _ _ _ _ _ _ T1 (mkF m 5 #[.val (.ref a1), .val (.int p2)] [(.ref a1)])
  obtain ⟨T2, h2, X2, e2, E2, A2, D2, -, st2⟩ := newO X1 hx hZ hown (hw _ (List.mem_of_getElem? (i := 9) rfl)) (hw _ (List.mem_of_getElem? (i := 10) rfl)) (hw _ (List.mem_of_getElem? (i := 11) rfl)) e1 (g := (mkF m 5 #[.val (.ref a1), .val (.int p2)] [(.ref a1)])) rfl (hb hby d1_5) (by decide) (by decide)
  obtain ⟨b2, g2⟩ : ∃ z, z = h0.size := ⟨_, rfl⟩
  rw [← g2] at A2 D2 st2
  have lo_b2 : n0 ≤ b2 := Nat.le_trans Z0 (Nat.le_of_eq g2.symm)
  have bo_b2 : h0.size ≤ b2 := Nat.le_trans Kp0.1 (Nat.le_of_eq g2.symm)
  have ne_a1_b2 : a1 ≠ b2 := Nat.ne_of_lt (Nat.lt_of_lt_of_le E_a1.lt (Nat.le_of_eq g2.symm))
  have E_a1_2 : Exa Z h2 a1 "com/example/treellis/treellis/cfa/CfaNode" := E_a1.ext E2
  have F_le_2 : Fld Z h2 a1 "com/example/treellis/treellis/cfa/CfaNode" "leavingEdges" "Ljava/util/List;" .null := F_le.ext E2
  have F_id_2 : Fld Z h2 a1 "com/example/treellis/treellis/cfa/CfaNode" "id" "I" (.int (0 : Int32)) := F_id.ext E2
  have Zs2 : n0 ≤ h2.size := Nat.le_trans Z0 E2.1
  have Kp2 : Keep h0 h2 [a1] := Kp0.ext E2
  have Od2 : Old Z n0 h2 := Od0.ext E2
  have F_modCount_b2 : Fld Z h2 b2 "java/util/AbstractList" "modCount" "I" (.int (0 : Int32)) := D2 (Or.inl (hw _ (List.mem_of_getElem? (i := 29) rfl))) (ty := .int) (by decide)
  have F_elementData_b2 : Fld Z h2 b2 "java/util/ArrayList" "elementData" "[Ljava/lang/Object;" .null := D2 (Or.inl (hw _ (List.mem_of_getElem? (i := 32) rfl))) (ty := (.array (.object "java/lang/Object"))) (by decide)
  refine own_go st2 ?_
  show own_Goes _ _ _ _ _ _ _ T2 (mkF m 8 #[.val (.ref a1), .val (.int p2)] [(.ref b2), (.ref a1)])
  refine own_go (fun _ k => XS.dup X2.here hx rfl (hb hby d1_8) rfl rfl k) ?_
  show own_Goes _ _ _ _ _ _ _ T2 (mkF m 9 #[.val (.ref a1), .val (.int p2)] [(.ref b2), (.ref b2), (.ref a1)])
  obtain ⟨_, _, ⟨T3, L3, k3, n3⟩, -, X3, ⟨Lc3, hQ3, l3, y3, z3⟩, st3⟩ := X2.specialBack hx (y := (⟨"java/util/ArrayList", "<init>", "()V"⟩ : MethodName)) rfl hown (mvT hZ (hw _ (List.mem_of_getElem? (i := 12) rfl))) (mvT hZ (hw _ (List.mem_of_getElem? (i := 13) rfl))) (mvT hZ (hw _ (List.mem_of_getElem? (i := 14) rfl))) (by decide) (backOf (W := 2) (rm3 l Z a0 hw [] b2 aD h2 n0 Zs2 A2 F_modCount_b2 F_elementData_b2 lo_b2 SD Od2) hZ (hw _ (List.mem_of_getElem? (i := 14) rfl)) (hw _ (List.mem_of_getElem? (i := 11) rfl)) (by decide) (by decide)) (g := (mkF m 9 #[.val (.ref a1), .val (.int p2)] [(.ref b2), (.ref b2), (.ref a1)])) rfl (by rw [hml]; rfl) (Steps.refl _) (a := b2) (argsL := []) (rest := [(.ref b2), (.ref a1)]) (lenOf pd_0 rfl) rfl (by show 2 * 0 + _ ≤ _; exact Nat.le_of_eq rfl) (hb hby d1_9) (fun _ _ => ⟨rfl, e2, (by decide : 0 + 1 + 0 ≤ _), (by decide : 0 + 3 + 0 ≤ _)⟩)
  dsimp only [Pt.U, Pt.locs, Pt.cells, Pt.slots] at X3 l3 y3 z3 st3 hQ3
  subst l3 y3 z3
  obtain ⟨rfl, N3q, K3⟩ := hQ3
  have N3 := Fr.app N0 N3q
  refine own_goS st3 ?_
  show own_Goes _ _ _ _ _ _ _ T3 (mkF m 12 #[.val (.ref a1), .val (.int p2)] [(.ref b2), (.ref a1)])
  have E_a1_3 : Exa Z T3.heap a1 "com/example/treellis/treellis/cfa/CfaNode" := E_a1_2.keep K3
  have F_le_3 : Fld Z T3.heap a1 "com/example/treellis/treellis/cfa/CfaNode" "leavingEdges" "Ljava/util/List;" .null := F_le_2.keep K3 (ninS ne_a1_b2 nin0)
  have F_id_3 : Fld Z T3.heap a1 "com/example/treellis/treellis/cfa/CfaNode" "id" "I" (.int (0 : Int32)) := F_id_2.keep K3 (ninS ne_a1_b2 nin0)
  have E_b2_3 : Exa Z T3.heap b2 "java/util/ArrayList" := A2.keep K3
  have Zs3 : n0 ≤ T3.heap.size := Nat.le_trans Zs2 K3.1
  have Kp3 : Keep h0 T3.heap [a1] := Kp2.trans K3 (allS (Or.inr bo_b2) all0)
  have Od3 : Old Z n0 T3.heap := Od2.keep K3 (allS lo_b2 all0)
  obtain ⟨T4, h4, X4, e4, W4, st4⟩ := putF X3 hx hZ hown (host := "") (Or.inl (hw _ (List.mem_of_getElem? (i := 33) rfl))) Via.refl rfl F_le_3 E_a1_3 (Or.inr ⟨(hw _ (List.mem_of_getElem? (i := 34) rfl)), rfl, hnm⟩) (hw _ (List.mem_of_getElem? (i := 1) rfl)) (ty := (.object "java/util/List")) (by decide) rfl rfl (g := (mkF m 12 #[.val (.ref a1), .val (.int p2)] [(.ref b2), (.ref a1)])) rfl rfl (hb hby d1_12)
  have F_le_4 : Fld Z h4 a1 "com/example/treellis/treellis/cfa/CfaNode" "leavingEdges" "Ljava/util/List;" (.ref b2) := F_le_3.same W4
  have N4 := Fr.snoc X4 N3 lo_a1
  have E_a1_4 : Exa Z h4 a1 "com/example/treellis/treellis/cfa/CfaNode" := E_a1_3.wr W4
  have F_id_4 : Fld Z h4 a1 "com/example/treellis/treellis/cfa/CfaNode" "id" "I" (.int (0 : Int32)) := F_id_3.other W4 (Or.inr (slot_ne (Or.inr (hw _ (List.mem_of_getElem? (i := 36) rfl))) (Or.inr (hw _ (List.mem_of_getElem? (i := 34) rfl))) (by decide) (t := .int) (t' := (.object "java/util/List")) (by decide) (by decide)))
  have E_b2_4 : Exa Z h4 b2 "java/util/ArrayList" := E_b2_3.wr W4
  have Zs4 : n0 ≤ h4.size := Nat.le_trans Zs3 (Keep.of_wr W4).1
  have Kp4 : Keep h0 h4 [a1] := Kp3.wr W4 (Or.inl (by simp))
  have Od4 : Old Z n0 h4 := Od3.wr W4 lo_a1
  refine own_go st4 ?_
  show own_Goes _ _ _ _ _ _ _ T4 (mkF m 15 #[.val (.ref a1), .val (.int p2)] [])
  refine own_go (fun _ k => XS.aloadN X4.here hx rfl (hb hby d1_15) rfl rfl k) ?_
  show own_Goes _ _ _ _ _ _ _ T4 (mkF m 16 #[.val (.ref a1), .val (.int p2)] [(.ref a1)])
  refine own_go (fun _ k => XS.iloadN X4.here hx rfl (hb hby d1_16) rfl k) ?_
  show own_Goes _ _ _ _ _ _ _ T4 (mkF m 17 #[.val (.ref a1), .val (.int p2)] [(.int p2), (.ref a1)])
  obtain ⟨T5, h5, X5, e5, W5, st5⟩ := putF X4 hx hZ hown (host := "") (Or.inl (hw _ (List.mem_of_getElem? (i := 35) rfl))) Via.refl e4 F_id_4 E_a1_4 (Or.inr ⟨(hw _ (List.mem_of_getElem? (i := 36) rfl)), rfl, hnm⟩) (hw _ (List.mem_of_getElem? (i := 1) rfl)) (ty := .int) (by decide) rfl rfl (g := (mkF m 17 #[.val (.ref a1), .val (.int p2)] [(.int p2), (.ref a1)])) rfl rfl (hb hby d1_17)
  have F_id_5 : Fld Z h5 a1 "com/example/treellis/treellis/cfa/CfaNode" "id" "I" (.int p2) := F_id_4.same W5
  have N5 := Fr.snoc X5 N4 lo_a1
  have E_a1_5 : Exa Z h5 a1 "com/example/treellis/treellis/cfa/CfaNode" := E_a1_4.wr W5
  have E_b2_5 : Exa Z h5 b2 "java/util/ArrayList" := E_b2_4.wr W5
  have F_le_5 : Fld Z h5 a1 "com/example/treellis/treellis/cfa/CfaNode" "leavingEdges" "Ljava/util/List;" (.ref b2) := F_le_4.other W5 (Or.inr (slot_ne (Or.inr (hw _ (List.mem_of_getElem? (i := 34) rfl))) (Or.inr (hw _ (List.mem_of_getElem? (i := 36) rfl))) (by decide) (t := (.object "java/util/List")) (t' := .int) (by decide) (by decide)))
  have Zs5 : n0 ≤ h5.size := Nat.le_trans Zs4 (Keep.of_wr W5).1
  have Kp5 : Keep h0 h5 [a1] := Kp4.wr W5 (Or.inl (by simp))
  have Od5 : Old Z n0 h5 := Od4.wr W5 lo_a1
  refine own_go st5 ?_
  show own_Goes _ _ _ _ _ _ _ T5 (mkF m 20 #[.val (.ref a1), .val (.int p2)] [])
  exact own_retV X5 hx hlk hret (hb hby d1_20) (by decide) (by decide) (by rw [e5]; exact ⟨rfl, N5, Kp5⟩)
def Q_rm6 (Z : State) (h0 : Heap) (n0 : Nat) (a1 a2 : Addr) (v : Option Value) (h : Heap) (L : List Loc) : Prop := v = none ∧ Fr n0 L ∧ Keep h0 h [a1] ∧ Fld Z h a1 "com/example/treellis/treellis/cpa/location/LocationState" "node" "Lcom/example/treellis/treellis/cfa/CfaNode;" (.ref a2)
set_option maxRecDepth 65536 in
set_option maxHeartbeats 40000000 in
theorem rm6 (l : Launch) (Z : State) (a0 : Array Value) (hw : ∀ d ∈ tables_1, d.before a0 Z = true) (ws : List Jvm.Cond) (a1 a2 : Addr) (h0 : Heap) (n0 : Nat) (Z0 : n0 ≤ h0.size) (E_a1 : Exa Z h0 a1 "com/example/treellis/treellis/cpa/location/LocationState") (F_nd : Fld Z h0 a1 "com/example/treellis/treellis/cpa/location/LocationState" "node" "Lcom/example/treellis/treellis/cfa/CfaNode;" .null) (lo_a1 : n0 ≤ a1) :
    MetFree l (⟨"com/example/treellis/treellis/cpa/location/LocationState", "<init>", "(Lcom/example/treellis/treellis/cfa/CfaNode;)V"⟩ : MethodName) (head1 (Jvm.Cond.code (⟨"com/example/treellis/treellis/cpa/location/LocationState", "<init>", "(Lcom/example/treellis/treellis/cfa/CfaNode;)V"⟩ : MethodName) prog_78_method_1_code 2 none :: ws) ({ frames := 1, cells := 0, slots := 0, locals := 12 } : Room)) (fun a U => a = #[(.ref a1), (.ref a2)] ∧ Z.Warmed39 U.vm ∧ U.heap = h0) (fun _ _ _ _ _ => True) (fun _ U o U' => ∃ rv rL, o = .returned rv ∧ Q_rm6 Z h0 n0 a1 a2 rv U'.heap rL ∧ FrameEnd U o U' rL ({ frames := 1, cells := 0, slots := 0, locals := 12 } : Room).cells ({ frames := 1, cells := 0, slots := 0, locals := 12 } : Room).slots) := by
  refine own_met (y := (⟨"com/example/treellis/treellis/cpa/location/LocationState", "<init>", "(Lcom/example/treellis/treellis/cfa/CfaNode;)V"⟩ : MethodName)) (Q := Q_rm6 Z h0 n0 a1 a2) (own := "com/example/treellis/treellis/cpa/location/LocationState") rfl pn_6 ?_
  intro p e s m below meth c s₁ C e0 X0
  obtain ⟨hx, hby, hml, hown, hnm, hret, hlk, hZ⟩ := C
  have N0 := Fr.nil n0
  rw [ef_6]
  have Kp0 : Keep h0 h0 [a1] := Keep.refl h0 _
  show own_Goes _ _ _ _ _ _ _ s₁ (mkF m 0 #[.val (.ref a1), .val (.ref a2)] [])
  refine own_go (fun _ k => XS.aloadN X0.here hx rfl (hb hby d6_0) rfl rfl k) ?_
  show own_Goes _ _ _ _ _ _ _ s₁ (mkF m 1 #[.val (.ref a1), .val (.ref a2)] [(.ref a1)])
  obtain ⟨T1, X1, e1, st1⟩ := initO X0 hx hZ hown (hw _ (List.mem_of_getElem? (i := 43) rfl)) (hw _ (List.mem_of_getElem? (i := 7) rfl)) (hw _ (List.mem_of_getElem? (i := 8) rfl)) e0 (g := (mkF m 1 #[.val (.ref a1), .val (.ref a2)] [(.ref a1)])) rfl (by rw [hml]; rfl) rfl (hb hby d6_1) (by decide) (W := 0) (by show 2 * 0 + _ ≤ _; exact Nat.le_of_eq rfl) (by decide)
  refine own_go st1 ?_
  show own_Goes _ _ _ _ _ _ _ T1 (mkF m 4 #[.val (.ref a1), .val (.ref a2)] [])
  refine own_go (fun _ k => XS.aloadN X1.here hx rfl (hb hby d6_4) rfl rfl k) ?_
  show own_Goes _ _ _ _ _ _ _ T1 (mkF m 5 #[.val (.ref a1), .val (.ref a2)] [(.ref a1)])
  refine own_go (fun _ k => XS.aloadN X1.here hx rfl (hb hby d6_5) rfl rfl k) ?_
  show own_Goes _ _ _ _ _ _ _ T1 (mkF m 6 #[.val (.ref a1), .val (.ref a2)] [(.ref a2), (.ref a1)])
  obtain ⟨T2, h2, X2, e2, W2, st2⟩ := putF X1 hx hZ hown (host := "") (Or.inl (hw _ (List.mem_of_getElem? (i := 44) rfl))) Via.refl e1 F_nd E_a1 (Or.inr ⟨(hw _ (List.mem_of_getElem? (i := 45) rfl)), rfl, hnm⟩) (hw _ (List.mem_of_getElem? (i := 38) rfl)) (ty := (.object "com/example/treellis/treellis/cfa/CfaNode")) (by decide) rfl rfl (g := (mkF m 6 #[.val (.ref a1), .val (.ref a2)] [(.ref a2), (.ref a1)])) rfl rfl (hb hby d6_6)
  have F_nd_2 : Fld Z h2 a1 "com/example/treellis/treellis/cpa/location/LocationState" "node" "Lcom/example/treellis/treellis/cfa/CfaNode;" (.ref a2) := F_nd.same W2
  have N2 := Fr.snoc X2 N0 lo_a1
  have E_a1_2 : Exa Z h2 a1 "com/example/treellis/treellis/cpa/location/LocationState" := E_a1.wr W2
  have Zs2 : n0 ≤ h2.size := Nat.le_trans Z0 (Keep.of_wr W2).1
  have Kp2 : Keep h0 h2 [a1] := Kp0.wr W2 (Or.inl (by simp))
  refine own_go st2 ?_
  show own_Goes _ _ _ _ _ _ _ T2 (mkF m 9 #[.val (.ref a1), .val (.ref a2)] [])
  exact own_retV X2 hx hlk hret (hb hby d6_9) (by decide) (by decide) (by rw [e2]; exact ⟨rfl, N2, Kp2, F_nd_2⟩)
def Q_rmL (Z : State) (h0 : Heap) (n0 : Nat) (a3 a4 : Addr) (v : Option Value) (h : Heap) (L : List Loc) : Prop := v = some (.int (own_same a4 a3)) ∧ Fr n0 L ∧ h = h0
set_option maxRecDepth 65536 in
set_option maxHeartbeats 40000000 in
theorem rmL (l : Launch) (Z : State) (a0 : Array Value) (hw : ∀ d ∈ tables_1, d.before a0 Z = true) (ws : List Jvm.Cond) (a1 a2 a3 a4 : Addr) (h0 : Heap) (n0 : Nat) (Z0 : n0 ≤ h0.size) (E_a1 : Exa Z h0 a1 "com/example/treellis/treellis/cpa/location/LocationState") (E_a2 : Exa Z h0 a2 "com/example/treellis/treellis/cpa/location/LocationState") (F_n1 : Fld Z h0 a1 "com/example/treellis/treellis/cpa/location/LocationState" "node" "Lcom/example/treellis/treellis/cfa/CfaNode;" (.ref a3)) (F_n2 : Fld Z h0 a2 "com/example/treellis/treellis/cpa/location/LocationState" "node" "Lcom/example/treellis/treellis/cfa/CfaNode;" (.ref a4)) :
    MetFree l (⟨"com/example/treellis/treellis/cpa/location/LocationState", "equals", "(Ljava/lang/Object;)Z"⟩ : MethodName) (head1 (Jvm.Cond.code (⟨"com/example/treellis/treellis/cpa/location/LocationState", "equals", "(Ljava/lang/Object;)Z"⟩ : MethodName) prog_78_method_3_code 2 (some .boolean) :: ws) ({ frames := 0, cells := 0, slots := 0, locals := 0 } : Room)) (fun a U => a = #[(.ref a1), (.ref a2)] ∧ Z.Warmed39 U.vm ∧ U.heap = h0) (fun _ _ _ _ _ => True) (fun _ U o U' => ∃ rv rL, o = .returned rv ∧ Q_rmL Z h0 n0 a3 a4 rv U'.heap rL ∧ FrameEnd U o U' rL ({ frames := 0, cells := 0, slots := 0, locals := 0 } : Room).cells ({ frames := 0, cells := 0, slots := 0, locals := 0 } : Room).slots) := by
  refine own_met (y := (⟨"com/example/treellis/treellis/cpa/location/LocationState", "equals", "(Ljava/lang/Object;)Z"⟩ : MethodName)) (Q := Q_rmL Z h0 n0 a3 a4) (own := "com/example/treellis/treellis/cpa/location/LocationState") rfl pn_7 ?_
  intro p e s m below meth c s₁ C e0 X0
  obtain ⟨hx, hby, hml, hown, hnm, hret, hlk, hZ⟩ := C
  have N0 := Fr.nil n0
  rw [ef_7]
  show own_Goes _ _ _ _ _ _ _ s₁ (mkF m 0 #[.val (.ref a1), .val (.ref a2)] [])
  refine own_go (fun _ k => XS.aloadN X0.here hx rfl (hb hby d7_0) rfl rfl k) ?_
  show own_Goes _ _ _ _ _ _ _ s₁ (mkF m 1 #[.val (.ref a1), .val (.ref a2)] [(.ref a2)])
  obtain ⟨T1, X1, e1, st1⟩ := instY X0 hx hZ hown (hw _ (List.mem_of_getElem? (i := 51) rfl)) e0 (Ins.self E_a2) (g := (mkF m 1 #[.val (.ref a1), .val (.ref a2)] [(.ref a2)])) rfl rfl (hb hby d7_1)
  refine own_go st1 ?_
  show own_Goes _ _ _ _ _ _ _ T1 (mkF m 4 #[.val (.ref a1), .val (.ref a2)] [(.int (1 : Int32))])
  refine own_go (fun _ k => XS.ifNo X1.here hx rfl (hb hby d7_4) rfl ((if0 _ _).trans (feq (by decide : ¬ ((1 : Int32) = (0 : Int32)))).1) k) ?_
  show own_Goes _ _ _ _ _ _ _ T1 (mkF m 7 #[.val (.ref a1), .val (.ref a2)] [])
  refine own_go (fun _ k => XS.aloadN X1.here hx rfl (hb hby d7_7) rfl rfl k) ?_
  show own_Goes _ _ _ _ _ _ _ T1 (mkF m 8 #[.val (.ref a1), .val (.ref a2)] [(.ref a2)])
  obtain ⟨T2, X2, e2, st2⟩ := castY X1 hx hZ hown (hw _ (List.mem_of_getElem? (i := 51) rfl)) e1 (Ins.self E_a2) (g := (mkF m 8 #[.val (.ref a1), .val (.ref a2)] [(.ref a2)])) rfl rfl (hb hby d7_8)
  refine own_go st2 ?_
  show own_Goes _ _ _ _ _ _ _ T2 (mkF m 11 #[.val (.ref a1), .val (.ref a2)] [(.ref a2)])
  obtain ⟨T3, X3, e3, st3⟩ := getF X2 hx hZ hown (host := "") (Or.inl (hw _ (List.mem_of_getElem? (i := 44) rfl))) Via.refl e2 F_n2 (g := (mkF m 11 #[.val (.ref a1), .val (.ref a2)] [(.ref a2)])) rfl rfl (hb hby d7_11)
  refine own_go st3 ?_
  show own_Goes _ _ _ _ _ _ _ T3 (mkF m 14 #[.val (.ref a1), .val (.ref a2)] [(.ref a4)])
  refine own_go (fun _ k => XS.aloadN X3.here hx rfl (hb hby d7_14) rfl rfl k) ?_
  show own_Goes _ _ _ _ _ _ _ T3 (mkF m 15 #[.val (.ref a1), .val (.ref a2)] [(.ref a1), (.ref a4)])
  obtain ⟨T4, X4, e4, st4⟩ := getF X3 hx hZ hown (host := "") (Or.inl (hw _ (List.mem_of_getElem? (i := 44) rfl))) Via.refl e3 F_n1 (g := (mkF m 15 #[.val (.ref a1), .val (.ref a2)] [(.ref a1), (.ref a4)])) rfl rfl (hb hby d7_15)
  refine own_go st4 ?_
  show own_Goes _ _ _ _ _ _ _ T4 (mkF m 18 #[.val (.ref a1), .val (.ref a2)] [(.ref a3), (.ref a4)])
  by_cases ha18 : a4 = a3
  · refine own_go (fun _ k => Jvm.RoadKit.acmp (g := (mkF m 18 #[.val (.ref a1), .val (.ref a2)] [(.ref a3), (.ref a4)])) X4 hx rfl rfl rfl (pc0 := 18) (pc' := 21) (same := true) rfl (hb hby d7_18) rfl (decide_eq_true (congrArg Value.ref ha18)) (by decide) (by decide) k) ?_
    show own_Goes _ _ _ _ _ _ _ T4 (mkF m 21 #[.val (.ref a1), .val (.ref a2)] [])
    refine own_go (fun _ k => XS.iconst X4.here hx rfl (hb hby d7_21) k) ?_
    show own_Goes _ _ _ _ _ _ _ T4 (mkF m 22 #[.val (.ref a1), .val (.ref a2)] [(.int (1 : Int32))])
    refine own_go (fun _ k => XS.goto X4.here hx rfl (pc0 := 22) (pc' := 26) rfl (hb hby d7_22) (by decide) (by decide) k) ?_
    show own_Goes _ _ _ _ _ _ _ T4 (mkF m 26 #[.val (.ref a1), .val (.ref a2)] [(.int (1 : Int32))])
    exact own_retN X4 hx (t := .boolean) hlk hret (by simp) (hb hby d7_26) (by decide) (by decide) (by rw [e4]; exact ⟨by simp [own_same, nar, *], N0, rfl⟩)
  · refine own_go (fun _ k => Jvm.RoadKit.acmp (g := (mkF m 18 #[.val (.ref a1), .val (.ref a2)] [(.ref a3), (.ref a4)])) X4 hx rfl rfl rfl (pc0 := 18) (pc' := 25) (same := false) rfl (hb hby d7_18) rfl (decide_eq_false fun q => ha18 (Value.ref.inj q)) (by decide) (by decide) k) ?_
    show own_Goes _ _ _ _ _ _ _ T4 (mkF m 25 #[.val (.ref a1), .val (.ref a2)] [])
    refine own_go (fun _ k => XS.iconst X4.here hx rfl (hb hby d7_25) k) ?_
    show own_Goes _ _ _ _ _ _ _ T4 (mkF m 26 #[.val (.ref a1), .val (.ref a2)] [(.int (0 : Int32))])
    exact own_retN X4 hx (t := .boolean) hlk hret (by simp) (hb hby d7_26) (by decide) (by decide) (by rw [e4]; exact ⟨by simp [own_same, nar, *], N0, rfl⟩)
def Q_rmC (Z : State) (h0 : Heap) (n0 : Nat)  (v : Option Value) (h : Heap) (L : List Loc) : Prop := v = some (.int 0) ∧ Fr n0 L ∧ h = h0
set_option maxRecDepth 65536 in
set_option maxHeartbeats 40000000 in
theorem rmC (l : Launch) (Z : State) (a0 : Array Value) (hw : ∀ d ∈ tables_1, d.before a0 Z = true) (ws : List Jvm.Cond) (a1 a2 : Addr) (h0 : Heap) (n0 : Nat) (Z0 : n0 ≤ h0.size) (E_a2 : Exa Z h0 a2 "com/example/treellis/treellis/cfa/CfaNode") :
    MetFree l (⟨"com/example/treellis/treellis/cpa/location/LocationState", "equals", "(Ljava/lang/Object;)Z"⟩ : MethodName) (head1 (Jvm.Cond.code (⟨"com/example/treellis/treellis/cpa/location/LocationState", "equals", "(Ljava/lang/Object;)Z"⟩ : MethodName) prog_78_method_3_code 2 (some .boolean) :: ws) ({ frames := 0, cells := 0, slots := 0, locals := 0 } : Room)) (fun a U => a = #[(.ref a1), (.ref a2)] ∧ Z.Warmed39 U.vm ∧ U.heap = h0) (fun _ _ _ _ _ => True) (fun _ U o U' => ∃ rv rL, o = .returned rv ∧ Q_rmC Z h0 n0  rv U'.heap rL ∧ FrameEnd U o U' rL ({ frames := 0, cells := 0, slots := 0, locals := 0 } : Room).cells ({ frames := 0, cells := 0, slots := 0, locals := 0 } : Room).slots) := by
  refine own_met (y := (⟨"com/example/treellis/treellis/cpa/location/LocationState", "equals", "(Ljava/lang/Object;)Z"⟩ : MethodName)) (Q := Q_rmC Z h0 n0 ) (own := "com/example/treellis/treellis/cpa/location/LocationState") rfl pn_7 ?_
  intro p e s m below meth c s₁ C e0 X0
  obtain ⟨hx, hby, hml, hown, hnm, hret, hlk, hZ⟩ := C
  have N0 := Fr.nil n0
  rw [ef_7]
  show own_Goes _ _ _ _ _ _ _ s₁ (mkF m 0 #[.val (.ref a1), .val (.ref a2)] [])
  refine own_go (fun _ k => XS.aloadN X0.here hx rfl (hb hby d7_0) rfl rfl k) ?_
  show own_Goes _ _ _ _ _ _ _ s₁ (mkF m 1 #[.val (.ref a1), .val (.ref a2)] [(.ref a2)])
  obtain ⟨T1, X1, e1, st1⟩ := instNo X0 hx hZ hown (hw _ (List.mem_of_getElem? (i := 51) rfl)) e0 E_a2 (own_nas (hw _ (List.mem_of_getElem? (i := 53) rfl)) (hw _ (List.mem_of_getElem? (i := 54) rfl)) (hw _ (List.mem_of_getElem? (i := 38) rfl)) (by decide) (by decide)) (g := (mkF m 1 #[.val (.ref a1), .val (.ref a2)] [(.ref a2)])) rfl rfl (hb hby d7_1)
  refine own_go st1 ?_
  show own_Goes _ _ _ _ _ _ _ T1 (mkF m 4 #[.val (.ref a1), .val (.ref a2)] [(.int (0 : Int32))])
  refine own_go (fun _ k => XS.ifYes X1.here hx rfl (pc0 := 4) (pc' := 25) rfl (hb hby d7_4) rfl ((if0 _ _).trans (teq (by decide : (0 : Int32) = (0 : Int32))).1) (by decide) (by decide) k) ?_
  show own_Goes _ _ _ _ _ _ _ T1 (mkF m 25 #[.val (.ref a1), .val (.ref a2)] [])
  refine own_go (fun _ k => XS.iconst X1.here hx rfl (hb hby d7_25) k) ?_
  show own_Goes _ _ _ _ _ _ _ T1 (mkF m 26 #[.val (.ref a1), .val (.ref a2)] [(.int (0 : Int32))])
  exact own_retN X1 hx (t := .boolean) hlk hret (by simp) (hb hby d7_26) (by decide) (by decide) (by rw [e1]; exact ⟨rfl, N0, rfl⟩)
def Q_rmN (Z : State) (h0 : Heap) (n0 : Nat)  (v : Option Value) (h : Heap) (L : List Loc) : Prop := v = some (.int 0) ∧ Fr n0 L ∧ h = h0
set_option maxRecDepth 65536 in
set_option maxHeartbeats 40000000 in
theorem rmN (l : Launch) (Z : State) (a0 : Array Value) (hw : ∀ d ∈ tables_1, d.before a0 Z = true) (ws : List Jvm.Cond) (a1 : Addr) (h0 : Heap) (n0 : Nat) (Z0 : n0 ≤ h0.size) :
    MetFree l (⟨"com/example/treellis/treellis/cpa/location/LocationState", "equals", "(Ljava/lang/Object;)Z"⟩ : MethodName) (head1 (Jvm.Cond.code (⟨"com/example/treellis/treellis/cpa/location/LocationState", "equals", "(Ljava/lang/Object;)Z"⟩ : MethodName) prog_78_method_3_code 2 (some .boolean) :: ws) ({ frames := 0, cells := 0, slots := 0, locals := 0 } : Room)) (fun a U => a = #[(.ref a1), .null] ∧ Z.Warmed39 U.vm ∧ U.heap = h0) (fun _ _ _ _ _ => True) (fun _ U o U' => ∃ rv rL, o = .returned rv ∧ Q_rmN Z h0 n0  rv U'.heap rL ∧ FrameEnd U o U' rL ({ frames := 0, cells := 0, slots := 0, locals := 0 } : Room).cells ({ frames := 0, cells := 0, slots := 0, locals := 0 } : Room).slots) := by
  refine own_met (y := (⟨"com/example/treellis/treellis/cpa/location/LocationState", "equals", "(Ljava/lang/Object;)Z"⟩ : MethodName)) (Q := Q_rmN Z h0 n0 ) (own := "com/example/treellis/treellis/cpa/location/LocationState") rfl pn_7 ?_
  intro p e s m below meth c s₁ C e0 X0
  obtain ⟨hx, hby, hml, hown, hnm, hret, hlk, hZ⟩ := C
  have N0 := Fr.nil n0
  rw [ef_7N]
  show own_Goes _ _ _ _ _ _ _ s₁ (mkF m 0 #[.val (.ref a1), .val .null] [])
  refine own_go (fun _ k => XS.aloadN X0.here hx rfl (hb hby d7_0) rfl rfl k) ?_
  show own_Goes _ _ _ _ _ _ _ s₁ (mkF m 1 #[.val (.ref a1), .val .null] [.null])
  refine own_go (fun t k => X0.instanceofNull hx (g := (mkF m 1 #[.val (.ref a1), .val .null] [.null])) rfl rfl (hb hby d7_1) t k) ?_
  show own_Goes _ _ _ _ _ _ _ s₁ (mkF m 4 #[.val (.ref a1), .val .null] [(.int (0 : Int32))])
  refine own_go (fun _ k => XS.ifYes X0.here hx rfl (pc0 := 4) (pc' := 25) rfl (hb hby d7_4) rfl ((if0 _ _).trans (teq (by decide : (0 : Int32) = (0 : Int32))).1) (by decide) (by decide) k) ?_
  show own_Goes _ _ _ _ _ _ _ s₁ (mkF m 25 #[.val (.ref a1), .val .null] [])
  refine own_go (fun _ k => XS.iconst X0.here hx rfl (hb hby d7_25) k) ?_
  show own_Goes _ _ _ _ _ _ _ s₁ (mkF m 26 #[.val (.ref a1), .val .null] [(.int (0 : Int32))])
  exact own_retN X0 hx (t := .boolean) hlk hret (by simp) (hb hby d7_26) (by decide) (by decide) (by rw [e0]; exact ⟨rfl, N0, rfl⟩)
set_option maxRecDepth 65536 in
set_option maxHeartbeats 40000000 in
theorem seg12 {p : Program} {l : Launch} {e : Env} {s : State} {m : MethodId} {args : Array Value} {below : List Frame} {meth : Method} {c : Code} {s₁ : State} {locs : List Loc} {Z : State} {a0 : Array Value} {h0 : Heap} (p0 p1 p2 p3 : Int32) (aD : Addr)
    (hw : ∀ d ∈ tables_1, d.before a0 Z = true) (C : own_Ctx Z x "com/example/treellis/treellis/cpa/location/LocationStateEqualsPinLaw" code maxLocals ret p s m meth c) (X0 : Stand p l e room_1 s m args below meth c s₁ locs 0 0) (e0 : s₁.heap = h0) (n0 : Nat) (Z0 : n0 ≤ h0.size) (N0 : Fr n0 locs)  (SD : Sta Z Z.heap "java/util/ArrayList" "DEFAULTCAPACITY_EMPTY_ELEMENTDATA" "[Ljava/lang/Object;" (.ref aD)) (Od0 : Old Z n0 h0) :
    own_Goes p e below s (fun v h L => v = some (.int 1) ∧ Fr n0 L) room_1.cells room_1.slots s₁ (mkF m 12 #[.val (.int p0), .val (.int p1), .val (.int p2), .val (.int p3), .unset, .unset, .unset, .unset, .unset, .unset, .unset, .unset, .unset] []) := by
  obtain ⟨hx, hby, hml, hown, hnm, hret, hlk, hZ⟩ := C
  obtain ⟨T1, h1, X1, e1, E1, A1, D1, -, st1⟩ := newO X0 hx hZ hown (hw _ (List.mem_of_getElem? (i := 0) rfl)) (hw _ (List.mem_of_getElem? (i := 1) rfl)) (hw _ (List.mem_of_getElem? (i := 2) rfl)) e0 (g := (mkF m 12 #[.val (.int p0), .val (.int p1), .val (.int p2), .val (.int p3), .unset, .unset, .unset, .unset, .unset, .unset, .unset, .unset, .unset] [])) rfl (hb hby at_12) (by decide) (by decide)
  obtain ⟨b1, g1⟩ : ∃ z, z = h0.size := ⟨_, rfl⟩
  rw [← g1] at A1 D1 st1
  have lo_b1 : n0 ≤ b1 := Nat.le_trans Z0 (Nat.le_of_eq g1.symm)
  have Zs1 : n0 ≤ h1.size := Nat.le_trans Z0 E1.1
  have Od1 : Old Z n0 h1 := Od0.ext E1
  have F_leavingEdges_b1 : Fld Z h1 b1 "com/example/treellis/treellis/cfa/CfaNode" "leavingEdges" "Ljava/util/List;" .null := D1 (Or.inr (hw _ (List.mem_of_getElem? (i := 34) rfl))) (ty := (.object "java/util/List")) (by decide)
  have F_id_b1 : Fld Z h1 b1 "com/example/treellis/treellis/cfa/CfaNode" "id" "I" (.int (0 : Int32)) := D1 (Or.inr (hw _ (List.mem_of_getElem? (i := 36) rfl))) (ty := .int) (by decide)
  refine own_go st1 ?_
  show own_Goes _ _ _ _ _ _ _ T1 (mkF m 15 #[.val (.int p0), .val (.int p1), .val (.int p2), .val (.int p3), .unset, .unset, .unset, .unset, .unset, .unset, .unset, .unset, .unset] [(.ref b1)])
  refine own_go (fun _ k => XS.dup X1.here hx rfl (hb hby at_15) rfl rfl k) ?_
  show own_Goes _ _ _ _ _ _ _ T1 (mkF m 16 #[.val (.int p0), .val (.int p1), .val (.int p2), .val (.int p3), .unset, .unset, .unset, .unset, .unset, .unset, .unset, .unset, .unset] [(.ref b1), (.ref b1)])
  refine own_go (fun _ k => XS.iloadN X1.here hx rfl (hb hby at_16) rfl k) ?_
  show own_Goes _ _ _ _ _ _ _ T1 (mkF m 17 #[.val (.int p0), .val (.int p1), .val (.int p2), .val (.int p3), .unset, .unset, .unset, .unset, .unset, .unset, .unset, .unset, .unset] [(.int p0), (.ref b1), (.ref b1)])
  obtain ⟨_, _, ⟨T2, L2, k2, n2⟩, -, X2, ⟨Lc2, hQ2, l2, y2, z2⟩, st2⟩ := X1.specialBack hx (y := (⟨"com/example/treellis/treellis/cfa/CfaNode", "<init>", "(I)V"⟩ : MethodName)) rfl hown (mvT hZ (hw _ (List.mem_of_getElem? (i := 3) rfl))) (mvT hZ (hw _ (List.mem_of_getElem? (i := 4) rfl))) (mvT hZ (hw _ (List.mem_of_getElem? (i := 5) rfl))) (by decide) (backOf (W := 1) (rm1 l Z a0 hw [] b1 aD p0 h1 n0 Zs1 A1 F_leavingEdges_b1 F_id_b1 lo_b1 SD Od1) hZ (hw _ (List.mem_of_getElem? (i := 5) rfl)) (hw _ (List.mem_of_getElem? (i := 2) rfl)) (by decide) (by decide)) (g := (mkF m 17 #[.val (.int p0), .val (.int p1), .val (.int p2), .val (.int p3), .unset, .unset, .unset, .unset, .unset, .unset, .unset, .unset, .unset] [(.int p0), (.ref b1), (.ref b1)])) rfl (by rw [hml]; rfl) (Steps.refl _) (a := b1) (argsL := [(.int p0)]) (rest := [(.ref b1)]) (lenOf pd_1 rfl) rfl (by show 2 * 0 + _ ≤ _; exact Nat.le_of_eq rfl) (hb hby at_17) (fun _ _ => ⟨rfl, e1, (by decide : 0 + 1 + 1 ≤ _), (by decide : 0 + 2 + 3 ≤ _)⟩)
  dsimp only [Pt.U, Pt.locs, Pt.cells, Pt.slots] at X2 l2 y2 z2 st2 hQ2
  subst l2 y2 z2
  obtain ⟨rfl, N2q, K2⟩ := hQ2
  have N2 := Fr.app N0 N2q
  refine own_goS st2 ?_
  show own_Goes _ _ _ _ _ _ _ T2 (mkF m 20 #[.val (.int p0), .val (.int p1), .val (.int p2), .val (.int p3), .unset, .unset, .unset, .unset, .unset, .unset, .unset, .unset, .unset] [(.ref b1)])
  have E_b1_2 : Exa Z T2.heap b1 "com/example/treellis/treellis/cfa/CfaNode" := A1.keep K2
  have Zs2 : n0 ≤ T2.heap.size := Nat.le_trans Zs1 K2.1
  have Od2 : Old Z n0 T2.heap := Od1.keep K2 (allS lo_b1 all0)
  refine own_go (fun _ k => XS.astore X2.here hx rfl (hb hby at_20) rfl rfl (l' := #[.val (.int p0), .val (.int p1), .val (.int p2), .val (.int p3), .val (.ref b1), .unset, .unset, .unset, .unset, .unset, .unset, .unset, .unset]) rfl k) ?_
  show own_Goes _ _ _ _ _ _ _ T2 (mkF m 22 #[.val (.int p0), .val (.int p1), .val (.int p2), .val (.int p3), .val (.ref b1), .unset, .unset, .unset, .unset, .unset, .unset, .unset, .unset] [])
  obtain ⟨T3, h3, X3, e3, E3, A3, D3, -, st3⟩ := newO X2 hx hZ hown (hw _ (List.mem_of_getElem? (i := 0) rfl)) (hw _ (List.mem_of_getElem? (i := 1) rfl)) (hw _ (List.mem_of_getElem? (i := 2) rfl)) rfl (g := (mkF m 22 #[.val (.int p0), .val (.int p1), .val (.int p2), .val (.int p3), .val (.ref b1), .unset, .unset, .unset, .unset, .unset, .unset, .unset, .unset] [])) rfl (hb hby at_22) (by decide) (by decide)
  obtain ⟨b3, g3⟩ : ∃ z, z = T2.heap.size := ⟨_, rfl⟩
  rw [← g3] at A3 D3 st3
  have lo_b3 : n0 ≤ b3 := Nat.le_trans Zs2 (Nat.le_of_eq g3.symm)
  have ne_b1_b3 : b1 ≠ b3 := Nat.ne_of_lt (Nat.lt_of_lt_of_le E_b1_2.lt (Nat.le_of_eq g3.symm))
  have E_b1_3 : Exa Z h3 b1 "com/example/treellis/treellis/cfa/CfaNode" := E_b1_2.ext E3
  have Zs3 : n0 ≤ h3.size := Nat.le_trans Zs2 E3.1
  have Od3 : Old Z n0 h3 := Od2.ext E3
  have F_leavingEdges_b3 : Fld Z h3 b3 "com/example/treellis/treellis/cfa/CfaNode" "leavingEdges" "Ljava/util/List;" .null := D3 (Or.inr (hw _ (List.mem_of_getElem? (i := 34) rfl))) (ty := (.object "java/util/List")) (by decide)
  have F_id_b3 : Fld Z h3 b3 "com/example/treellis/treellis/cfa/CfaNode" "id" "I" (.int (0 : Int32)) := D3 (Or.inr (hw _ (List.mem_of_getElem? (i := 36) rfl))) (ty := .int) (by decide)
  refine own_go st3 ?_
  show own_Goes _ _ _ _ _ _ _ T3 (mkF m 25 #[.val (.int p0), .val (.int p1), .val (.int p2), .val (.int p3), .val (.ref b1), .unset, .unset, .unset, .unset, .unset, .unset, .unset, .unset] [(.ref b3)])
  refine own_go (fun _ k => XS.dup X3.here hx rfl (hb hby at_25) rfl rfl k) ?_
  show own_Goes _ _ _ _ _ _ _ T3 (mkF m 26 #[.val (.int p0), .val (.int p1), .val (.int p2), .val (.int p3), .val (.ref b1), .unset, .unset, .unset, .unset, .unset, .unset, .unset, .unset] [(.ref b3), (.ref b3)])
  refine own_go (fun _ k => XS.iloadN X3.here hx rfl (hb hby at_26) rfl k) ?_
  show own_Goes _ _ _ _ _ _ _ T3 (mkF m 27 #[.val (.int p0), .val (.int p1), .val (.int p2), .val (.int p3), .val (.ref b1), .unset, .unset, .unset, .unset, .unset, .unset, .unset, .unset] [(.int p3), (.ref b3), (.ref b3)])
  obtain ⟨_, _, ⟨T4, L4, k4, n4⟩, -, X4, ⟨Lc4, hQ4, l4, y4, z4⟩, st4⟩ := X3.specialBack hx (y := (⟨"com/example/treellis/treellis/cfa/CfaNode", "<init>", "(I)V"⟩ : MethodName)) rfl hown (mvT hZ (hw _ (List.mem_of_getElem? (i := 3) rfl))) (mvT hZ (hw _ (List.mem_of_getElem? (i := 4) rfl))) (mvT hZ (hw _ (List.mem_of_getElem? (i := 5) rfl))) (by decide) (backOf (W := 1) (rm1 l Z a0 hw [] b3 aD p3 h3 n0 Zs3 A3 F_leavingEdges_b3 F_id_b3 lo_b3 SD Od3) hZ (hw _ (List.mem_of_getElem? (i := 5) rfl)) (hw _ (List.mem_of_getElem? (i := 2) rfl)) (by decide) (by decide)) (g := (mkF m 27 #[.val (.int p0), .val (.int p1), .val (.int p2), .val (.int p3), .val (.ref b1), .unset, .unset, .unset, .unset, .unset, .unset, .unset, .unset] [(.int p3), (.ref b3), (.ref b3)])) rfl (by rw [hml]; rfl) (Steps.refl _) (a := b3) (argsL := [(.int p3)]) (rest := [(.ref b3)]) (lenOf pd_1 rfl) rfl (by show 2 * 0 + _ ≤ _; exact Nat.le_of_eq rfl) (hb hby at_27) (fun _ _ => ⟨rfl, e3, (by decide : 0 + 1 + 1 + 1 + 1 ≤ _), (by decide : 0 + 2 + 3 + 2 + 3 ≤ _)⟩)
  dsimp only [Pt.U, Pt.locs, Pt.cells, Pt.slots] at X4 l4 y4 z4 st4 hQ4
  subst l4 y4 z4
  obtain ⟨rfl, N4q, K4⟩ := hQ4
  have N4 := Fr.app N2 N4q
  refine own_goS st4 ?_
  show own_Goes _ _ _ _ _ _ _ T4 (mkF m 30 #[.val (.int p0), .val (.int p1), .val (.int p2), .val (.int p3), .val (.ref b1), .unset, .unset, .unset, .unset, .unset, .unset, .unset, .unset] [(.ref b3)])
  have E_b1_4 : Exa Z T4.heap b1 "com/example/treellis/treellis/cfa/CfaNode" := E_b1_3.keep K4
  have E_b3_4 : Exa Z T4.heap b3 "com/example/treellis/treellis/cfa/CfaNode" := A3.keep K4
  have Zs4 : n0 ≤ T4.heap.size := Nat.le_trans Zs3 K4.1
  have Od4 : Old Z n0 T4.heap := Od3.keep K4 (allS lo_b3 all0)
  refine own_go (fun _ k => XS.astore X4.here hx rfl (hb hby at_30) rfl rfl (l' := #[.val (.int p0), .val (.int p1), .val (.int p2), .val (.int p3), .val (.ref b1), .val (.ref b3), .unset, .unset, .unset, .unset, .unset, .unset, .unset]) rfl k) ?_
  show own_Goes _ _ _ _ _ _ _ T4 (mkF m 32 #[.val (.int p0), .val (.int p1), .val (.int p2), .val (.int p3), .val (.ref b1), .val (.ref b3), .unset, .unset, .unset, .unset, .unset, .unset, .unset] [])
  obtain ⟨T5, h5, X5, e5, E5, A5, D5, -, st5⟩ := newO X4 hx hZ hown (hw _ (List.mem_of_getElem? (i := 37) rfl)) (hw _ (List.mem_of_getElem? (i := 38) rfl)) (hw _ (List.mem_of_getElem? (i := 39) rfl)) rfl (g := (mkF m 32 #[.val (.int p0), .val (.int p1), .val (.int p2), .val (.int p3), .val (.ref b1), .val (.ref b3), .unset, .unset, .unset, .unset, .unset, .unset, .unset] [])) rfl (hb hby at_32) (by decide) (by decide)
  obtain ⟨b5, g5⟩ : ∃ z, z = T4.heap.size := ⟨_, rfl⟩
  rw [← g5] at A5 D5 st5
  have lo_b5 : n0 ≤ b5 := Nat.le_trans Zs4 (Nat.le_of_eq g5.symm)
  have ne_b1_b5 : b1 ≠ b5 := Nat.ne_of_lt (Nat.lt_of_lt_of_le E_b1_4.lt (Nat.le_of_eq g5.symm))
  have ne_b3_b5 : b3 ≠ b5 := Nat.ne_of_lt (Nat.lt_of_lt_of_le E_b3_4.lt (Nat.le_of_eq g5.symm))
  have E_b1_5 : Exa Z h5 b1 "com/example/treellis/treellis/cfa/CfaNode" := E_b1_4.ext E5
  have E_b3_5 : Exa Z h5 b3 "com/example/treellis/treellis/cfa/CfaNode" := E_b3_4.ext E5
  have Zs5 : n0 ≤ h5.size := Nat.le_trans Zs4 E5.1
  have Od5 : Old Z n0 h5 := Od4.ext E5
  have F_node_b5 : Fld Z h5 b5 "com/example/treellis/treellis/cpa/location/LocationState" "node" "Lcom/example/treellis/treellis/cfa/CfaNode;" .null := D5 (Or.inr (hw _ (List.mem_of_getElem? (i := 45) rfl))) (ty := (.object "com/example/treellis/treellis/cfa/CfaNode")) (by decide)
  refine own_go st5 ?_
  show own_Goes _ _ _ _ _ _ _ T5 (mkF m 35 #[.val (.int p0), .val (.int p1), .val (.int p2), .val (.int p3), .val (.ref b1), .val (.ref b3), .unset, .unset, .unset, .unset, .unset, .unset, .unset] [(.ref b5)])
  refine own_go (fun _ k => XS.dup X5.here hx rfl (hb hby at_35) rfl rfl k) ?_
  show own_Goes _ _ _ _ _ _ _ T5 (mkF m 36 #[.val (.int p0), .val (.int p1), .val (.int p2), .val (.int p3), .val (.ref b1), .val (.ref b3), .unset, .unset, .unset, .unset, .unset, .unset, .unset] [(.ref b5), (.ref b5)])
  refine own_go (fun _ k => XS.aload X5.here hx rfl (hb hby at_36) rfl rfl k) ?_
  show own_Goes _ _ _ _ _ _ _ T5 (mkF m 38 #[.val (.int p0), .val (.int p1), .val (.int p2), .val (.int p3), .val (.ref b1), .val (.ref b3), .unset, .unset, .unset, .unset, .unset, .unset, .unset] [(.ref b1), (.ref b5), (.ref b5)])
  obtain ⟨_, _, ⟨T6, L6, k6, n6⟩, -, X6, ⟨Lc6, hQ6, l6, y6, z6⟩, st6⟩ := X5.specialBack hx (y := (⟨"com/example/treellis/treellis/cpa/location/LocationState", "<init>", "(Lcom/example/treellis/treellis/cfa/CfaNode;)V"⟩ : MethodName)) rfl hown (mvT hZ (hw _ (List.mem_of_getElem? (i := 40) rfl))) (mvT hZ (hw _ (List.mem_of_getElem? (i := 41) rfl))) (mvT hZ (hw _ (List.mem_of_getElem? (i := 42) rfl))) (by decide) (backOf (W := 1) (rm6 l Z a0 hw [] b5 b1 h5 n0 Zs5 A5 F_node_b5 lo_b5) hZ (hw _ (List.mem_of_getElem? (i := 42) rfl)) (hw _ (List.mem_of_getElem? (i := 39) rfl)) (by decide) (by decide)) (g := (mkF m 38 #[.val (.int p0), .val (.int p1), .val (.int p2), .val (.int p3), .val (.ref b1), .val (.ref b3), .unset, .unset, .unset, .unset, .unset, .unset, .unset] [(.ref b1), (.ref b5), (.ref b5)])) rfl (by rw [hml]; rfl) (Steps.refl _) (a := b5) (argsL := [(.ref b1)]) (rest := [(.ref b5)]) (lenOf pd_2 rfl) rfl (by show 2 * 0 + _ ≤ _; exact Nat.le_of_eq rfl) (hb hby at_38) (fun _ _ => ⟨rfl, e5, (by decide : 0 + 1 + 1 + 1 + 1 + 1 + 0 ≤ _), (by decide : 0 + 2 + 3 + 2 + 3 + 1 + 0 ≤ _)⟩)
  dsimp only [Pt.U, Pt.locs, Pt.cells, Pt.slots] at X6 l6 y6 z6 st6 hQ6
  subst l6 y6 z6
  obtain ⟨rfl, N6q, K6, F6⟩ := hQ6
  have N6 := Fr.app N4 N6q
  refine own_goS st6 ?_
  show own_Goes _ _ _ _ _ _ _ T6 (mkF m 41 #[.val (.int p0), .val (.int p1), .val (.int p2), .val (.int p3), .val (.ref b1), .val (.ref b3), .unset, .unset, .unset, .unset, .unset, .unset, .unset] [(.ref b5)])
  have E_b1_6 : Exa Z T6.heap b1 "com/example/treellis/treellis/cfa/CfaNode" := E_b1_5.keep K6
  have E_b3_6 : Exa Z T6.heap b3 "com/example/treellis/treellis/cfa/CfaNode" := E_b3_5.keep K6
  have E_b5_6 : Exa Z T6.heap b5 "com/example/treellis/treellis/cpa/location/LocationState" := A5.keep K6
  have Zs6 : n0 ≤ T6.heap.size := Nat.le_trans Zs5 K6.1
  have Od6 : Old Z n0 T6.heap := Od5.keep K6 (allS lo_b5 all0)
  refine own_go (fun _ k => XS.astore X6.here hx rfl (hb hby at_41) rfl rfl (l' := #[.val (.int p0), .val (.int p1), .val (.int p2), .val (.int p3), .val (.ref b1), .val (.ref b3), .val (.ref b5), .unset, .unset, .unset, .unset, .unset, .unset]) rfl k) ?_
  show own_Goes _ _ _ _ _ _ _ T6 (mkF m 43 #[.val (.int p0), .val (.int p1), .val (.int p2), .val (.int p3), .val (.ref b1), .val (.ref b3), .val (.ref b5), .unset, .unset, .unset, .unset, .unset, .unset] [])
  refine own_go (fun _ k => XS.iloadN X6.here hx rfl (hb hby at_43) rfl k) ?_
  show own_Goes _ _ _ _ _ _ _ T6 (mkF m 44 #[.val (.int p0), .val (.int p1), .val (.int p2), .val (.int p3), .val (.ref b1), .val (.ref b3), .val (.ref b5), .unset, .unset, .unset, .unset, .unset, .unset] [(.int p2)])
  refine own_go (fun _ k => XS.iconst X6.here hx rfl (hb hby at_44) k) ?_
  show own_Goes _ _ _ _ _ _ _ T6 (mkF m 45 #[.val (.int p0), .val (.int p1), .val (.int p2), .val (.int p3), .val (.ref b1), .val (.ref b3), .val (.ref b5), .unset, .unset, .unset, .unset, .unset, .unset] [(.int (3 : Int32)), (.int p2)])
  refine own_go (fun _ k => XS.iand X6.here hx rfl (hb hby at_45) rfl k) ?_
  show own_Goes _ _ _ _ _ _ _ T6 (mkF m 46 #[.val (.int p0), .val (.int p1), .val (.int p2), .val (.int p3), .val (.ref b1), .val (.ref b3), .val (.ref b5), .unset, .unset, .unset, .unset, .unset, .unset] [(.int (p2 &&& (3 : Int32)))])
  refine own_go (fun _ k => XS.istore X6.here hx rfl (hb hby at_46) rfl (l' := #[.val (.int p0), .val (.int p1), .val (.int p2), .val (.int p3), .val (.ref b1), .val (.ref b3), .val (.ref b5), .val (.int (p2 &&& (3 : Int32))), .unset, .unset, .unset, .unset, .unset]) rfl k) ?_
  show own_Goes _ _ _ _ _ _ _ T6 (mkF m 48 #[.val (.int p0), .val (.int p1), .val (.int p2), .val (.int p3), .val (.ref b1), .val (.ref b3), .val (.ref b5), .val (.int (p2 &&& (3 : Int32))), .unset, .unset, .unset, .unset, .unset] [])
  refine own_go (fun _ k => XS.iload X6.here hx rfl (hb hby at_48) rfl k) ?_
  show own_Goes _ _ _ _ _ _ _ T6 (mkF m 50 #[.val (.int p0), .val (.int p1), .val (.int p2), .val (.int p3), .val (.ref b1), .val (.ref b3), .val (.ref b5), .val (.int (p2 &&& (3 : Int32))), .unset, .unset, .unset, .unset, .unset] [(.int (p2 &&& (3 : Int32)))])
  by_cases hc50 : (p2 &&& (3 : Int32)) = (0 : Int32)
  · refine own_go (fun _ k => XS.ifNo X6.here hx rfl (hb hby at_50) rfl ((if0 _ _).trans (teq hc50).2) k) ?_
    show own_Goes _ _ _ _ _ _ _ T6 (mkF m 53 #[.val (.int p0), .val (.int p1), .val (.int p2), .val (.int p3), .val (.ref b1), .val (.ref b3), .val (.ref b5), .val (.int (p2 &&& (3 : Int32))), .unset, .unset, .unset, .unset, .unset] [])
    obtain ⟨T7, h7, X7, e7, E7, A7, D7, -, st7⟩ := newO X6 hx hZ hown (hw _ (List.mem_of_getElem? (i := 37) rfl)) (hw _ (List.mem_of_getElem? (i := 38) rfl)) (hw _ (List.mem_of_getElem? (i := 39) rfl)) rfl (g := (mkF m 53 #[.val (.int p0), .val (.int p1), .val (.int p2), .val (.int p3), .val (.ref b1), .val (.ref b3), .val (.ref b5), .val (.int (p2 &&& (3 : Int32))), .unset, .unset, .unset, .unset, .unset] [])) rfl (hb hby at_53) (by decide) (by decide)
    obtain ⟨b7, g7⟩ : ∃ z, z = T6.heap.size := ⟨_, rfl⟩
    rw [← g7] at A7 D7 st7
    have lo_b7 : n0 ≤ b7 := Nat.le_trans Zs6 (Nat.le_of_eq g7.symm)
    have ne_b1_b7 : b1 ≠ b7 := Nat.ne_of_lt (Nat.lt_of_lt_of_le E_b1_6.lt (Nat.le_of_eq g7.symm))
    have ne_b3_b7 : b3 ≠ b7 := Nat.ne_of_lt (Nat.lt_of_lt_of_le E_b3_6.lt (Nat.le_of_eq g7.symm))
    have ne_b5_b7 : b5 ≠ b7 := Nat.ne_of_lt (Nat.lt_of_lt_of_le E_b5_6.lt (Nat.le_of_eq g7.symm))
    have E_b1_7 : Exa Z h7 b1 "com/example/treellis/treellis/cfa/CfaNode" := E_b1_6.ext E7
    have E_b3_7 : Exa Z h7 b3 "com/example/treellis/treellis/cfa/CfaNode" := E_b3_6.ext E7
    have E_b5_7 : Exa Z h7 b5 "com/example/treellis/treellis/cpa/location/LocationState" := E_b5_6.ext E7
    have F_node_b5_7 : Fld Z h7 b5 "com/example/treellis/treellis/cpa/location/LocationState" "node" "Lcom/example/treellis/treellis/cfa/CfaNode;" (.ref b1) := F6.ext E7
    have Zs7 : n0 ≤ h7.size := Nat.le_trans Zs6 E7.1
    have Od7 : Old Z n0 h7 := Od6.ext E7
    have F_node_b7 : Fld Z h7 b7 "com/example/treellis/treellis/cpa/location/LocationState" "node" "Lcom/example/treellis/treellis/cfa/CfaNode;" .null := D7 (Or.inr (hw _ (List.mem_of_getElem? (i := 45) rfl))) (ty := (.object "com/example/treellis/treellis/cfa/CfaNode")) (by decide)
    refine own_go st7 ?_
    show own_Goes _ _ _ _ _ _ _ T7 (mkF m 56 #[.val (.int p0), .val (.int p1), .val (.int p2), .val (.int p3), .val (.ref b1), .val (.ref b3), .val (.ref b5), .val (.int (p2 &&& (3 : Int32))), .unset, .unset, .unset, .unset, .unset] [(.ref b7)])
    refine own_go (fun _ k => XS.dup X7.here hx rfl (hb hby at_56) rfl rfl k) ?_
    show own_Goes _ _ _ _ _ _ _ T7 (mkF m 57 #[.val (.int p0), .val (.int p1), .val (.int p2), .val (.int p3), .val (.ref b1), .val (.ref b3), .val (.ref b5), .val (.int (p2 &&& (3 : Int32))), .unset, .unset, .unset, .unset, .unset] [(.ref b7), (.ref b7)])
    refine own_go (fun _ k => XS.aload X7.here hx rfl (hb hby at_57) rfl rfl k) ?_
    show own_Goes _ _ _ _ _ _ _ T7 (mkF m 59 #[.val (.int p0), .val (.int p1), .val (.int p2), .val (.int p3), .val (.ref b1), .val (.ref b3), .val (.ref b5), .val (.int (p2 &&& (3 : Int32))), .unset, .unset, .unset, .unset, .unset] [(.ref b1), (.ref b7), (.ref b7)])
    obtain ⟨_, _, ⟨T8, L8, k8, n8⟩, -, X8, ⟨Lc8, hQ8, l8, y8, z8⟩, st8⟩ := X7.specialBack hx (y := (⟨"com/example/treellis/treellis/cpa/location/LocationState", "<init>", "(Lcom/example/treellis/treellis/cfa/CfaNode;)V"⟩ : MethodName)) rfl hown (mvT hZ (hw _ (List.mem_of_getElem? (i := 40) rfl))) (mvT hZ (hw _ (List.mem_of_getElem? (i := 41) rfl))) (mvT hZ (hw _ (List.mem_of_getElem? (i := 42) rfl))) (by decide) (backOf (W := 1) (rm6 l Z a0 hw [] b7 b1 h7 n0 Zs7 A7 F_node_b7 lo_b7) hZ (hw _ (List.mem_of_getElem? (i := 42) rfl)) (hw _ (List.mem_of_getElem? (i := 39) rfl)) (by decide) (by decide)) (g := (mkF m 59 #[.val (.int p0), .val (.int p1), .val (.int p2), .val (.int p3), .val (.ref b1), .val (.ref b3), .val (.ref b5), .val (.int (p2 &&& (3 : Int32))), .unset, .unset, .unset, .unset, .unset] [(.ref b1), (.ref b7), (.ref b7)])) rfl (by rw [hml]; rfl) (Steps.refl _) (a := b7) (argsL := [(.ref b1)]) (rest := [(.ref b7)]) (lenOf pd_2 rfl) rfl (by show 2 * 0 + _ ≤ _; exact Nat.le_of_eq rfl) (hb hby at_59) (fun _ _ => ⟨rfl, e7, (by decide : 0 + 1 + 1 + 1 + 1 + 1 + 0 + 1 + 0 ≤ _), (by decide : 0 + 2 + 3 + 2 + 3 + 1 + 0 + 1 + 0 ≤ _)⟩)
    dsimp only [Pt.U, Pt.locs, Pt.cells, Pt.slots] at X8 l8 y8 z8 st8 hQ8
    subst l8 y8 z8
    obtain ⟨rfl, N8q, K8, F8⟩ := hQ8
    have N8 := Fr.app N6 N8q
    refine own_goS st8 ?_
    show own_Goes _ _ _ _ _ _ _ T8 (mkF m 62 #[.val (.int p0), .val (.int p1), .val (.int p2), .val (.int p3), .val (.ref b1), .val (.ref b3), .val (.ref b5), .val (.int (p2 &&& (3 : Int32))), .unset, .unset, .unset, .unset, .unset] [(.ref b7)])
    have E_b1_8 : Exa Z T8.heap b1 "com/example/treellis/treellis/cfa/CfaNode" := E_b1_7.keep K8
    have E_b3_8 : Exa Z T8.heap b3 "com/example/treellis/treellis/cfa/CfaNode" := E_b3_7.keep K8
    have E_b5_8 : Exa Z T8.heap b5 "com/example/treellis/treellis/cpa/location/LocationState" := E_b5_7.keep K8
    have F_node_b5_8 : Fld Z T8.heap b5 "com/example/treellis/treellis/cpa/location/LocationState" "node" "Lcom/example/treellis/treellis/cfa/CfaNode;" (.ref b1) := F_node_b5_7.keep K8 (ninS ne_b5_b7 nin0)
    have E_b7_8 : Exa Z T8.heap b7 "com/example/treellis/treellis/cpa/location/LocationState" := A7.keep K8
    have Zs8 : n0 ≤ T8.heap.size := Nat.le_trans Zs7 K8.1
    have Od8 : Old Z n0 T8.heap := Od7.keep K8 (allS lo_b7 all0)
    refine own_go (fun _ k => XS.astore X8.here hx rfl (hb hby at_62) rfl rfl (l' := #[.val (.int p0), .val (.int p1), .val (.int p2), .val (.int p3), .val (.ref b1), .val (.ref b3), .val (.ref b5), .val (.int (p2 &&& (3 : Int32))), .val (.ref b7), .unset, .unset, .unset, .unset]) rfl k) ?_
    show own_Goes _ _ _ _ _ _ _ T8 (mkF m 64 #[.val (.int p0), .val (.int p1), .val (.int p2), .val (.int p3), .val (.ref b1), .val (.ref b3), .val (.ref b5), .val (.int (p2 &&& (3 : Int32))), .val (.ref b7), .unset, .unset, .unset, .unset] [])
    refine own_go (fun _ k => XS.iconst X8.here hx rfl (hb hby at_64) k) ?_
    show own_Goes _ _ _ _ _ _ _ T8 (mkF m 65 #[.val (.int p0), .val (.int p1), .val (.int p2), .val (.int p3), .val (.ref b1), .val (.ref b3), .val (.ref b5), .val (.int (p2 &&& (3 : Int32))), .val (.ref b7), .unset, .unset, .unset, .unset] [(.int (1 : Int32))])
    refine own_go (fun _ k => XS.istore X8.here hx rfl (hb hby at_65) rfl (l' := #[.val (.int p0), .val (.int p1), .val (.int p2), .val (.int p3), .val (.ref b1), .val (.ref b3), .val (.ref b5), .val (.int (p2 &&& (3 : Int32))), .val (.ref b7), .val (.int (1 : Int32)), .unset, .unset, .unset]) rfl k) ?_
    show own_Goes _ _ _ _ _ _ _ T8 (mkF m 67 #[.val (.int p0), .val (.int p1), .val (.int p2), .val (.int p3), .val (.ref b1), .val (.ref b3), .val (.ref b5), .val (.int (p2 &&& (3 : Int32))), .val (.ref b7), .val (.int (1 : Int32)), .unset, .unset, .unset] [])
    refine own_go (fun _ k => XS.goto X8.here hx rfl (pc0 := 67) (pc' := 115) rfl (hb hby at_67) (by decide) (by decide) k) ?_
    show own_Goes _ _ _ _ _ _ _ T8 (mkF m 115 #[.val (.int p0), .val (.int p1), .val (.int p2), .val (.int p3), .val (.ref b1), .val (.ref b3), .val (.ref b5), .val (.int (p2 &&& (3 : Int32))), .val (.ref b7), .val (.int (1 : Int32)), .unset, .unset, .unset] [])
    refine own_go (fun _ k => XS.aload X8.here hx rfl (hb hby at_115) rfl rfl k) ?_
    show own_Goes _ _ _ _ _ _ _ T8 (mkF m 117 #[.val (.int p0), .val (.int p1), .val (.int p2), .val (.int p3), .val (.ref b1), .val (.ref b3), .val (.ref b5), .val (.int (p2 &&& (3 : Int32))), .val (.ref b7), .val (.int (1 : Int32)), .unset, .unset, .unset] [(.ref b5)])
    refine own_go (fun _ k => XS.aload X8.here hx rfl (hb hby at_117) rfl rfl k) ?_
    show own_Goes _ _ _ _ _ _ _ T8 (mkF m 119 #[.val (.int p0), .val (.int p1), .val (.int p2), .val (.int p3), .val (.ref b1), .val (.ref b3), .val (.ref b5), .val (.int (p2 &&& (3 : Int32))), .val (.ref b7), .val (.int (1 : Int32)), .unset, .unset, .unset] [(.ref b5), (.ref b5)])
    obtain ⟨cq9, kq9, zq9a, zq9b, zq9c⟩ := isOf hZ rfl E_b5_8
    obtain ⟨_, _, ⟨T9, L9, k9, n9⟩, -, X9, ⟨Lc9, hQ9, l9, y9, z9⟩, st9⟩ := X8.virtualBack hx (y := (⟨"com/example/treellis/treellis/cpa/location/LocationState", "equals", "(Ljava/lang/Object;)Z"⟩ : MethodName)) (z := (⟨"com/example/treellis/treellis/cpa/location/LocationState", "equals", "(Ljava/lang/Object;)Z"⟩ : MethodName)) hown (mvT hZ (hw _ (List.mem_of_getElem? (i := 46) rfl))) (mvT hZ (hw _ (List.mem_of_getElem? (i := 47) rfl))) (notFace_of_selects (args := #[]) (mvT hZ (hw _ (List.mem_of_getElem? (i := 49) rfl)))) (mvT hZ (hw _ (List.mem_of_getElem? (i := 49) rfl))) (mvT hZ (hw _ (List.mem_of_getElem? (i := 48) rfl))) (by decide) (backOf (W := 0) (rmL l Z a0 hw [] b5 b5 b1 b1 T8.heap n0 Zs8 E_b5_8 E_b5_8 F_node_b5_8 F_node_b5_8) hZ (hw _ (List.mem_of_getElem? (i := 50) rfl)) (hw _ (List.mem_of_getElem? (i := 39) rfl)) (by decide) (by decide)) zq9a zq9c (g := (mkF m 119 #[.val (.int p0), .val (.int p1), .val (.int p2), .val (.int p3), .val (.ref b1), .val (.ref b3), .val (.ref b5), .val (.int (p2 &&& (3 : Int32))), .val (.ref b7), .val (.int (1 : Int32)), .unset, .unset, .unset] [(.ref b5), (.ref b5)])) rfl (by rw [hml]; rfl) (Steps.refl _) (argsL := [(.ref b5)]) (rest := []) (lenOf pd_3 rfl) rfl (by show 2 * 0 + _ ≤ _; exact Nat.le_of_eq rfl) (hb hby at_119) (fun _ _ => ⟨rfl, rfl, (by decide : 0 + 1 + 1 + 1 + 1 + 1 + 0 + 1 + 0 + 0 ≤ _), (by decide : 0 + 2 + 3 + 2 + 3 + 1 + 0 + 1 + 0 + 0 ≤ _)⟩)
    dsimp only [Pt.U, Pt.locs, Pt.cells, Pt.slots] at X9 l9 y9 z9 st9 hQ9
    subst l9 y9 z9
    obtain ⟨rfl, N9q, e9⟩ := hQ9
    have N9 := Fr.app N8 N9q
    refine own_goS st9 ?_
    show own_Goes _ _ _ _ _ _ _ T9 (mkF m 122 #[.val (.int p0), .val (.int p1), .val (.int p2), .val (.int p3), .val (.ref b1), .val (.ref b3), .val (.ref b5), .val (.int (p2 &&& (3 : Int32))), .val (.ref b7), .val (.int (1 : Int32)), .unset, .unset, .unset] [(.int (own_same b1 b1))])
    refine own_go (fun _ k => XS.istore X9.here hx rfl (hb hby at_122) rfl (l' := #[.val (.int p0), .val (.int p1), .val (.int p2), .val (.int p3), .val (.ref b1), .val (.ref b3), .val (.ref b5), .val (.int (p2 &&& (3 : Int32))), .val (.ref b7), .val (.int (1 : Int32)), .val (.int (own_same b1 b1)), .unset, .unset]) rfl k) ?_
    show own_Goes _ _ _ _ _ _ _ T9 (mkF m 124 #[.val (.int p0), .val (.int p1), .val (.int p2), .val (.int p3), .val (.ref b1), .val (.ref b3), .val (.ref b5), .val (.int (p2 &&& (3 : Int32))), .val (.ref b7), .val (.int (1 : Int32)), .val (.int (own_same b1 b1)), .unset, .unset] [])
    refine own_go (fun _ k => XS.aload X9.here hx rfl (hb hby at_124) rfl rfl k) ?_
    show own_Goes _ _ _ _ _ _ _ T9 (mkF m 126 #[.val (.int p0), .val (.int p1), .val (.int p2), .val (.int p3), .val (.ref b1), .val (.ref b3), .val (.ref b5), .val (.int (p2 &&& (3 : Int32))), .val (.ref b7), .val (.int (1 : Int32)), .val (.int (own_same b1 b1)), .unset, .unset] [(.ref b5)])
    refine own_go (fun _ k => XS.aload X9.here hx rfl (hb hby at_126) rfl rfl k) ?_
    show own_Goes _ _ _ _ _ _ _ T9 (mkF m 128 #[.val (.int p0), .val (.int p1), .val (.int p2), .val (.int p3), .val (.ref b1), .val (.ref b3), .val (.ref b5), .val (.int (p2 &&& (3 : Int32))), .val (.ref b7), .val (.int (1 : Int32)), .val (.int (own_same b1 b1)), .unset, .unset] [(.ref b7), (.ref b5)])
    obtain ⟨cq10, kq10, zq10a, zq10b, zq10c⟩ := isOf hZ e9 E_b5_8
    obtain ⟨_, _, ⟨T10, L10, k10, n10⟩, -, X10, ⟨Lc10, hQ10, l10, y10, z10⟩, st10⟩ := X9.virtualBack hx (y := (⟨"com/example/treellis/treellis/cpa/location/LocationState", "equals", "(Ljava/lang/Object;)Z"⟩ : MethodName)) (z := (⟨"com/example/treellis/treellis/cpa/location/LocationState", "equals", "(Ljava/lang/Object;)Z"⟩ : MethodName)) hown (mvT hZ (hw _ (List.mem_of_getElem? (i := 46) rfl))) (mvT hZ (hw _ (List.mem_of_getElem? (i := 47) rfl))) (notFace_of_selects (args := #[]) (mvT hZ (hw _ (List.mem_of_getElem? (i := 49) rfl)))) (mvT hZ (hw _ (List.mem_of_getElem? (i := 49) rfl))) (mvT hZ (hw _ (List.mem_of_getElem? (i := 48) rfl))) (by decide) (backOf (W := 0) (rmL l Z a0 hw [] b5 b7 b1 b1 T8.heap n0 Zs8 E_b5_8 E_b7_8 F_node_b5_8 F8) hZ (hw _ (List.mem_of_getElem? (i := 50) rfl)) (hw _ (List.mem_of_getElem? (i := 39) rfl)) (by decide) (by decide)) zq10a zq10c (g := (mkF m 128 #[.val (.int p0), .val (.int p1), .val (.int p2), .val (.int p3), .val (.ref b1), .val (.ref b3), .val (.ref b5), .val (.int (p2 &&& (3 : Int32))), .val (.ref b7), .val (.int (1 : Int32)), .val (.int (own_same b1 b1)), .unset, .unset] [(.ref b7), (.ref b5)])) rfl (by rw [hml]; rfl) (Steps.refl _) (argsL := [(.ref b7)]) (rest := []) (lenOf pd_3 rfl) rfl (by show 2 * 0 + _ ≤ _; exact Nat.le_of_eq rfl) (hb hby at_128) (fun _ _ => ⟨rfl, e9, (by decide : 0 + 1 + 1 + 1 + 1 + 1 + 0 + 1 + 0 + 0 + 0 ≤ _), (by decide : 0 + 2 + 3 + 2 + 3 + 1 + 0 + 1 + 0 + 0 + 0 ≤ _)⟩)
    dsimp only [Pt.U, Pt.locs, Pt.cells, Pt.slots] at X10 l10 y10 z10 st10 hQ10
    subst l10 y10 z10
    obtain ⟨rfl, N10q, e10⟩ := hQ10
    have N10 := Fr.app N9 N10q
    refine own_goS st10 ?_
    show own_Goes _ _ _ _ _ _ _ T10 (mkF m 131 #[.val (.int p0), .val (.int p1), .val (.int p2), .val (.int p3), .val (.ref b1), .val (.ref b3), .val (.ref b5), .val (.int (p2 &&& (3 : Int32))), .val (.ref b7), .val (.int (1 : Int32)), .val (.int (own_same b1 b1)), .unset, .unset] [(.int (own_same b1 b1))])
    refine own_go (fun _ k => XS.istore X10.here hx rfl (hb hby at_131) rfl (l' := #[.val (.int p0), .val (.int p1), .val (.int p2), .val (.int p3), .val (.ref b1), .val (.ref b3), .val (.ref b5), .val (.int (p2 &&& (3 : Int32))), .val (.ref b7), .val (.int (1 : Int32)), .val (.int (own_same b1 b1)), .val (.int (own_same b1 b1)), .unset]) rfl k) ?_
    show own_Goes _ _ _ _ _ _ _ T10 (mkF m 133 #[.val (.int p0), .val (.int p1), .val (.int p2), .val (.int p3), .val (.ref b1), .val (.ref b3), .val (.ref b5), .val (.int (p2 &&& (3 : Int32))), .val (.ref b7), .val (.int (1 : Int32)), .val (.int (own_same b1 b1)), .val (.int (own_same b1 b1)), .unset] [])
    refine own_go (fun _ k => XS.iload X10.here hx rfl (hb hby at_133) rfl k) ?_
    show own_Goes _ _ _ _ _ _ _ T10 (mkF m 135 #[.val (.int p0), .val (.int p1), .val (.int p2), .val (.int p3), .val (.ref b1), .val (.ref b3), .val (.ref b5), .val (.int (p2 &&& (3 : Int32))), .val (.ref b7), .val (.int (1 : Int32)), .val (.int (own_same b1 b1)), .val (.int (own_same b1 b1)), .unset] [(.int (1 : Int32))])
    refine own_go (fun _ k => XS.istore X10.here hx rfl (hb hby at_135) rfl (l' := #[.val (.int p0), .val (.int p1), .val (.int p2), .val (.int p3), .val (.ref b1), .val (.ref b3), .val (.ref b5), .val (.int (p2 &&& (3 : Int32))), .val (.ref b7), .val (.int (1 : Int32)), .val (.int (own_same b1 b1)), .val (.int (own_same b1 b1)), .val (.int (1 : Int32))]) rfl k) ?_
    show own_Goes _ _ _ _ _ _ _ T10 (mkF m 137 #[.val (.int p0), .val (.int p1), .val (.int p2), .val (.int p3), .val (.ref b1), .val (.ref b3), .val (.ref b5), .val (.int (p2 &&& (3 : Int32))), .val (.ref b7), .val (.int (1 : Int32)), .val (.int (own_same b1 b1)), .val (.int (own_same b1 b1)), .val (.int (1 : Int32))] [])
    refine own_go (fun _ k => XS.aload X10.here hx rfl (hb hby at_137) rfl rfl k) ?_
    show own_Goes _ _ _ _ _ _ _ T10 (mkF m 139 #[.val (.int p0), .val (.int p1), .val (.int p2), .val (.int p3), .val (.ref b1), .val (.ref b3), .val (.ref b5), .val (.int (p2 &&& (3 : Int32))), .val (.ref b7), .val (.int (1 : Int32)), .val (.int (own_same b1 b1)), .val (.int (own_same b1 b1)), .val (.int (1 : Int32))] [(.ref b7)])
    obtain ⟨T11, X11, e11, st11⟩ := instY X10 hx hZ hown (hw _ (List.mem_of_getElem? (i := 37) rfl)) e10 (Ins.self E_b7_8) (g := (mkF m 139 #[.val (.int p0), .val (.int p1), .val (.int p2), .val (.int p3), .val (.ref b1), .val (.ref b3), .val (.ref b5), .val (.int (p2 &&& (3 : Int32))), .val (.ref b7), .val (.int (1 : Int32)), .val (.int (own_same b1 b1)), .val (.int (own_same b1 b1)), .val (.int (1 : Int32))] [(.ref b7)])) rfl rfl (hb hby at_139)
    refine own_go st11 ?_
    show own_Goes _ _ _ _ _ _ _ T11 (mkF m 142 #[.val (.int p0), .val (.int p1), .val (.int p2), .val (.int p3), .val (.ref b1), .val (.ref b3), .val (.ref b5), .val (.int (p2 &&& (3 : Int32))), .val (.ref b7), .val (.int (1 : Int32)), .val (.int (own_same b1 b1)), .val (.int (own_same b1 b1)), .val (.int (1 : Int32))] [(.int (1 : Int32))])
    refine own_go (fun _ k => XS.ifNo X11.here hx rfl (hb hby at_142) rfl ((if0 _ _).trans (feq (by decide : ¬ ((1 : Int32) = (0 : Int32)))).1) k) ?_
    show own_Goes _ _ _ _ _ _ _ T11 (mkF m 145 #[.val (.int p0), .val (.int p1), .val (.int p2), .val (.int p3), .val (.ref b1), .val (.ref b3), .val (.ref b5), .val (.int (p2 &&& (3 : Int32))), .val (.ref b7), .val (.int (1 : Int32)), .val (.int (own_same b1 b1)), .val (.int (own_same b1 b1)), .val (.int (1 : Int32))] [])
    refine own_go (fun _ k => XS.aload X11.here hx rfl (hb hby at_145) rfl rfl k) ?_
    show own_Goes _ _ _ _ _ _ _ T11 (mkF m 147 #[.val (.int p0), .val (.int p1), .val (.int p2), .val (.int p3), .val (.ref b1), .val (.ref b3), .val (.ref b5), .val (.int (p2 &&& (3 : Int32))), .val (.ref b7), .val (.int (1 : Int32)), .val (.int (own_same b1 b1)), .val (.int (own_same b1 b1)), .val (.int (1 : Int32))] [(.ref b7)])
    obtain ⟨T12, X12, e12, st12⟩ := castY X11 hx hZ hown (hw _ (List.mem_of_getElem? (i := 37) rfl)) e11 (Ins.self E_b7_8) (g := (mkF m 147 #[.val (.int p0), .val (.int p1), .val (.int p2), .val (.int p3), .val (.ref b1), .val (.ref b3), .val (.ref b5), .val (.int (p2 &&& (3 : Int32))), .val (.ref b7), .val (.int (1 : Int32)), .val (.int (own_same b1 b1)), .val (.int (own_same b1 b1)), .val (.int (1 : Int32))] [(.ref b7)])) rfl rfl (hb hby at_147)
    refine own_go st12 ?_
    show own_Goes _ _ _ _ _ _ _ T12 (mkF m 150 #[.val (.int p0), .val (.int p1), .val (.int p2), .val (.int p3), .val (.ref b1), .val (.ref b3), .val (.ref b5), .val (.int (p2 &&& (3 : Int32))), .val (.ref b7), .val (.int (1 : Int32)), .val (.int (own_same b1 b1)), .val (.int (own_same b1 b1)), .val (.int (1 : Int32))] [(.ref b7)])
    refine own_go (fun _ k => XS.aload X12.here hx rfl (hb hby at_150) rfl rfl k) ?_
    show own_Goes _ _ _ _ _ _ _ T12 (mkF m 152 #[.val (.int p0), .val (.int p1), .val (.int p2), .val (.int p3), .val (.ref b1), .val (.ref b3), .val (.ref b5), .val (.int (p2 &&& (3 : Int32))), .val (.ref b7), .val (.int (1 : Int32)), .val (.int (own_same b1 b1)), .val (.int (own_same b1 b1)), .val (.int (1 : Int32))] [(.ref b5), (.ref b7)])
    obtain ⟨cq13, kq13, zq13a, zq13b, zq13c⟩ := isOf hZ e12 E_b7_8
    obtain ⟨_, _, ⟨T13, L13, k13, n13⟩, -, X13, ⟨Lc13, hQ13, l13, y13, z13⟩, st13⟩ := X12.virtualBack hx (y := (⟨"com/example/treellis/treellis/cpa/location/LocationState", "equals", "(Ljava/lang/Object;)Z"⟩ : MethodName)) (z := (⟨"com/example/treellis/treellis/cpa/location/LocationState", "equals", "(Ljava/lang/Object;)Z"⟩ : MethodName)) hown (mvT hZ (hw _ (List.mem_of_getElem? (i := 46) rfl))) (mvT hZ (hw _ (List.mem_of_getElem? (i := 47) rfl))) (notFace_of_selects (args := #[]) (mvT hZ (hw _ (List.mem_of_getElem? (i := 49) rfl)))) (mvT hZ (hw _ (List.mem_of_getElem? (i := 49) rfl))) (mvT hZ (hw _ (List.mem_of_getElem? (i := 48) rfl))) (by decide) (backOf (W := 0) (rmL l Z a0 hw [] b7 b5 b1 b1 T8.heap n0 Zs8 E_b7_8 E_b5_8 F8 F_node_b5_8) hZ (hw _ (List.mem_of_getElem? (i := 50) rfl)) (hw _ (List.mem_of_getElem? (i := 39) rfl)) (by decide) (by decide)) zq13a zq13c (g := (mkF m 152 #[.val (.int p0), .val (.int p1), .val (.int p2), .val (.int p3), .val (.ref b1), .val (.ref b3), .val (.ref b5), .val (.int (p2 &&& (3 : Int32))), .val (.ref b7), .val (.int (1 : Int32)), .val (.int (own_same b1 b1)), .val (.int (own_same b1 b1)), .val (.int (1 : Int32))] [(.ref b5), (.ref b7)])) rfl (by rw [hml]; rfl) (Steps.refl _) (argsL := [(.ref b5)]) (rest := []) (lenOf pd_3 rfl) rfl (by show 2 * 0 + _ ≤ _; exact Nat.le_of_eq rfl) (hb hby at_152) (fun _ _ => ⟨rfl, e12, (by decide : 0 + 1 + 1 + 1 + 1 + 1 + 0 + 1 + 0 + 0 + 0 + 0 ≤ _), (by decide : 0 + 2 + 3 + 2 + 3 + 1 + 0 + 1 + 0 + 0 + 0 + 0 ≤ _)⟩)
    dsimp only [Pt.U, Pt.locs, Pt.cells, Pt.slots] at X13 l13 y13 z13 st13 hQ13
    subst l13 y13 z13
    obtain ⟨rfl, N13q, e13⟩ := hQ13
    have N13 := Fr.app N10 N13q
    refine own_goS st13 ?_
    show own_Goes _ _ _ _ _ _ _ T13 (mkF m 155 #[.val (.int p0), .val (.int p1), .val (.int p2), .val (.int p3), .val (.ref b1), .val (.ref b3), .val (.ref b5), .val (.int (p2 &&& (3 : Int32))), .val (.ref b7), .val (.int (1 : Int32)), .val (.int (own_same b1 b1)), .val (.int (own_same b1 b1)), .val (.int (1 : Int32))] [(.int (own_same b1 b1))])
    refine own_go (fun _ k => XS.istore X13.here hx rfl (hb hby at_155) rfl (l' := #[.val (.int p0), .val (.int p1), .val (.int p2), .val (.int p3), .val (.ref b1), .val (.ref b3), .val (.ref b5), .val (.int (p2 &&& (3 : Int32))), .val (.ref b7), .val (.int (1 : Int32)), .val (.int (own_same b1 b1)), .val (.int (own_same b1 b1)), .val (.int (own_same b1 b1))]) rfl k) ?_
    show own_Goes _ _ _ _ _ _ _ T13 (mkF m 157 #[.val (.int p0), .val (.int p1), .val (.int p2), .val (.int p3), .val (.ref b1), .val (.ref b3), .val (.ref b5), .val (.int (p2 &&& (3 : Int32))), .val (.ref b7), .val (.int (1 : Int32)), .val (.int (own_same b1 b1)), .val (.int (own_same b1 b1)), .val (.int (own_same b1 b1))] [])
    refine own_go (fun _ k => XS.iload X13.here hx rfl (hb hby at_157) rfl k) ?_
    show own_Goes _ _ _ _ _ _ _ T13 (mkF m 159 #[.val (.int p0), .val (.int p1), .val (.int p2), .val (.int p3), .val (.ref b1), .val (.ref b3), .val (.ref b5), .val (.int (p2 &&& (3 : Int32))), .val (.ref b7), .val (.int (1 : Int32)), .val (.int (own_same b1 b1)), .val (.int (own_same b1 b1)), .val (.int (own_same b1 b1))] [(.int (own_same b1 b1))])
    refine own_go (fun _ k => XS.ifNo X13.here hx rfl (hb hby at_159) rfl ((if0 _ _).trans (feq (by rw [own_same_eq] <;> decide : ¬ ((own_same b1 b1) = (0 : Int32)))).1) k) ?_
    show own_Goes _ _ _ _ _ _ _ T13 (mkF m 162 #[.val (.int p0), .val (.int p1), .val (.int p2), .val (.int p3), .val (.ref b1), .val (.ref b3), .val (.ref b5), .val (.int (p2 &&& (3 : Int32))), .val (.ref b7), .val (.int (1 : Int32)), .val (.int (own_same b1 b1)), .val (.int (own_same b1 b1)), .val (.int (own_same b1 b1))] [])
    refine own_go (fun _ k => XS.iload X13.here hx rfl (hb hby at_162) rfl k) ?_
    show own_Goes _ _ _ _ _ _ _ T13 (mkF m 164 #[.val (.int p0), .val (.int p1), .val (.int p2), .val (.int p3), .val (.ref b1), .val (.ref b3), .val (.ref b5), .val (.int (p2 &&& (3 : Int32))), .val (.ref b7), .val (.int (1 : Int32)), .val (.int (own_same b1 b1)), .val (.int (own_same b1 b1)), .val (.int (own_same b1 b1))] [(.int (own_same b1 b1))])
    refine own_go (fun _ k => XS.iload X13.here hx rfl (hb hby at_164) rfl k) ?_
    show own_Goes _ _ _ _ _ _ _ T13 (mkF m 166 #[.val (.int p0), .val (.int p1), .val (.int p2), .val (.int p3), .val (.ref b1), .val (.ref b3), .val (.ref b5), .val (.int (p2 &&& (3 : Int32))), .val (.ref b7), .val (.int (1 : Int32)), .val (.int (own_same b1 b1)), .val (.int (own_same b1 b1)), .val (.int (own_same b1 b1))] [(.int (1 : Int32)), (.int (own_same b1 b1))])
    refine own_go (fun _ k => XS.icmpNo X13.here hx rfl (hb hby at_166) rfl (teq (by rw [own_same_eq] <;> decide : (own_same b1 b1) = (1 : Int32))).2 k) ?_
    show own_Goes _ _ _ _ _ _ _ T13 (mkF m 169 #[.val (.int p0), .val (.int p1), .val (.int p2), .val (.int p3), .val (.ref b1), .val (.ref b3), .val (.ref b5), .val (.int (p2 &&& (3 : Int32))), .val (.ref b7), .val (.int (1 : Int32)), .val (.int (own_same b1 b1)), .val (.int (own_same b1 b1)), .val (.int (own_same b1 b1))] [])
    refine own_go (fun _ k => XS.iload X13.here hx rfl (hb hby at_169) rfl k) ?_
    show own_Goes _ _ _ _ _ _ _ T13 (mkF m 171 #[.val (.int p0), .val (.int p1), .val (.int p2), .val (.int p3), .val (.ref b1), .val (.ref b3), .val (.ref b5), .val (.int (p2 &&& (3 : Int32))), .val (.ref b7), .val (.int (1 : Int32)), .val (.int (own_same b1 b1)), .val (.int (own_same b1 b1)), .val (.int (own_same b1 b1))] [(.int (own_same b1 b1))])
    refine own_go (fun _ k => XS.iload X13.here hx rfl (hb hby at_171) rfl k) ?_
    show own_Goes _ _ _ _ _ _ _ T13 (mkF m 173 #[.val (.int p0), .val (.int p1), .val (.int p2), .val (.int p3), .val (.ref b1), .val (.ref b3), .val (.ref b5), .val (.int (p2 &&& (3 : Int32))), .val (.ref b7), .val (.int (1 : Int32)), .val (.int (own_same b1 b1)), .val (.int (own_same b1 b1)), .val (.int (own_same b1 b1))] [(.int (1 : Int32)), (.int (own_same b1 b1))])
    refine own_go (fun _ k => XS.icmpNo X13.here hx rfl (hb hby at_173) rfl (teq (by rw [own_same_eq] <;> decide : (own_same b1 b1) = (1 : Int32))).2 k) ?_
    show own_Goes _ _ _ _ _ _ _ T13 (mkF m 176 #[.val (.int p0), .val (.int p1), .val (.int p2), .val (.int p3), .val (.ref b1), .val (.ref b3), .val (.ref b5), .val (.int (p2 &&& (3 : Int32))), .val (.ref b7), .val (.int (1 : Int32)), .val (.int (own_same b1 b1)), .val (.int (own_same b1 b1)), .val (.int (own_same b1 b1))] [])
    refine own_go (fun _ k => XS.iconst X13.here hx rfl (hb hby at_176) k) ?_
    show own_Goes _ _ _ _ _ _ _ T13 (mkF m 177 #[.val (.int p0), .val (.int p1), .val (.int p2), .val (.int p3), .val (.ref b1), .val (.ref b3), .val (.ref b5), .val (.int (p2 &&& (3 : Int32))), .val (.ref b7), .val (.int (1 : Int32)), .val (.int (own_same b1 b1)), .val (.int (own_same b1 b1)), .val (.int (own_same b1 b1))] [(.int (1 : Int32))])
    refine own_go (fun _ k => XS.goto X13.here hx rfl (pc0 := 177) (pc' := 181) rfl (hb hby at_177) (by decide) (by decide) k) ?_
    show own_Goes _ _ _ _ _ _ _ T13 (mkF m 181 #[.val (.int p0), .val (.int p1), .val (.int p2), .val (.int p3), .val (.ref b1), .val (.ref b3), .val (.ref b5), .val (.int (p2 &&& (3 : Int32))), .val (.ref b7), .val (.int (1 : Int32)), .val (.int (own_same b1 b1)), .val (.int (own_same b1 b1)), .val (.int (own_same b1 b1))] [(.int (1 : Int32))])
    exact own_retN X13 hx (t := .boolean) hlk hret (by simp) (hb hby at_181) (by decide) (by decide) ⟨rfl, N13⟩
  · refine own_go (fun _ k => XS.ifYes X6.here hx rfl (pc0 := 50) (pc' := 70) rfl (hb hby at_50) rfl ((if0 _ _).trans (feq hc50).2) (by decide) (by decide) k) ?_
    show own_Goes _ _ _ _ _ _ _ T6 (mkF m 70 #[.val (.int p0), .val (.int p1), .val (.int p2), .val (.int p3), .val (.ref b1), .val (.ref b3), .val (.ref b5), .val (.int (p2 &&& (3 : Int32))), .unset, .unset, .unset, .unset, .unset] [])
    refine own_go (fun _ k => XS.iload X6.here hx rfl (hb hby at_70) rfl k) ?_
    show own_Goes _ _ _ _ _ _ _ T6 (mkF m 72 #[.val (.int p0), .val (.int p1), .val (.int p2), .val (.int p3), .val (.ref b1), .val (.ref b3), .val (.ref b5), .val (.int (p2 &&& (3 : Int32))), .unset, .unset, .unset, .unset, .unset] [(.int (p2 &&& (3 : Int32)))])
    refine own_go (fun _ k => XS.iconst X6.here hx rfl (hb hby at_72) k) ?_
    show own_Goes _ _ _ _ _ _ _ T6 (mkF m 73 #[.val (.int p0), .val (.int p1), .val (.int p2), .val (.int p3), .val (.ref b1), .val (.ref b3), .val (.ref b5), .val (.int (p2 &&& (3 : Int32))), .unset, .unset, .unset, .unset, .unset] [(.int (1 : Int32)), (.int (p2 &&& (3 : Int32)))])
    by_cases hc73 : (p2 &&& (3 : Int32)) = (1 : Int32)
    · refine own_go (fun _ k => XS.icmpNo X6.here hx rfl (hb hby at_73) rfl (teq hc73).2 k) ?_
      show own_Goes _ _ _ _ _ _ _ T6 (mkF m 76 #[.val (.int p0), .val (.int p1), .val (.int p2), .val (.int p3), .val (.ref b1), .val (.ref b3), .val (.ref b5), .val (.int (p2 &&& (3 : Int32))), .unset, .unset, .unset, .unset, .unset] [])
      obtain ⟨T14, h14, X14, e14, E14, A14, D14, -, st14⟩ := newO X6 hx hZ hown (hw _ (List.mem_of_getElem? (i := 37) rfl)) (hw _ (List.mem_of_getElem? (i := 38) rfl)) (hw _ (List.mem_of_getElem? (i := 39) rfl)) rfl (g := (mkF m 76 #[.val (.int p0), .val (.int p1), .val (.int p2), .val (.int p3), .val (.ref b1), .val (.ref b3), .val (.ref b5), .val (.int (p2 &&& (3 : Int32))), .unset, .unset, .unset, .unset, .unset] [])) rfl (hb hby at_76) (by decide) (by decide)
      obtain ⟨b14, g14⟩ : ∃ z, z = T6.heap.size := ⟨_, rfl⟩
      rw [← g14] at A14 D14 st14
      have lo_b14 : n0 ≤ b14 := Nat.le_trans Zs6 (Nat.le_of_eq g14.symm)
      have ne_b1_b14 : b1 ≠ b14 := Nat.ne_of_lt (Nat.lt_of_lt_of_le E_b1_6.lt (Nat.le_of_eq g14.symm))
      have ne_b3_b14 : b3 ≠ b14 := Nat.ne_of_lt (Nat.lt_of_lt_of_le E_b3_6.lt (Nat.le_of_eq g14.symm))
      have ne_b5_b14 : b5 ≠ b14 := Nat.ne_of_lt (Nat.lt_of_lt_of_le E_b5_6.lt (Nat.le_of_eq g14.symm))
      have E_b1_14 : Exa Z h14 b1 "com/example/treellis/treellis/cfa/CfaNode" := E_b1_6.ext E14
      have E_b3_14 : Exa Z h14 b3 "com/example/treellis/treellis/cfa/CfaNode" := E_b3_6.ext E14
      have E_b5_14 : Exa Z h14 b5 "com/example/treellis/treellis/cpa/location/LocationState" := E_b5_6.ext E14
      have F_node_b5_14 : Fld Z h14 b5 "com/example/treellis/treellis/cpa/location/LocationState" "node" "Lcom/example/treellis/treellis/cfa/CfaNode;" (.ref b1) := F6.ext E14
      have Zs14 : n0 ≤ h14.size := Nat.le_trans Zs6 E14.1
      have Od14 : Old Z n0 h14 := Od6.ext E14
      have F_node_b14 : Fld Z h14 b14 "com/example/treellis/treellis/cpa/location/LocationState" "node" "Lcom/example/treellis/treellis/cfa/CfaNode;" .null := D14 (Or.inr (hw _ (List.mem_of_getElem? (i := 45) rfl))) (ty := (.object "com/example/treellis/treellis/cfa/CfaNode")) (by decide)
      refine own_go st14 ?_
      show own_Goes _ _ _ _ _ _ _ T14 (mkF m 79 #[.val (.int p0), .val (.int p1), .val (.int p2), .val (.int p3), .val (.ref b1), .val (.ref b3), .val (.ref b5), .val (.int (p2 &&& (3 : Int32))), .unset, .unset, .unset, .unset, .unset] [(.ref b14)])
      refine own_go (fun _ k => XS.dup X14.here hx rfl (hb hby at_79) rfl rfl k) ?_
      show own_Goes _ _ _ _ _ _ _ T14 (mkF m 80 #[.val (.int p0), .val (.int p1), .val (.int p2), .val (.int p3), .val (.ref b1), .val (.ref b3), .val (.ref b5), .val (.int (p2 &&& (3 : Int32))), .unset, .unset, .unset, .unset, .unset] [(.ref b14), (.ref b14)])
      refine own_go (fun _ k => XS.aload X14.here hx rfl (hb hby at_80) rfl rfl k) ?_
      show own_Goes _ _ _ _ _ _ _ T14 (mkF m 82 #[.val (.int p0), .val (.int p1), .val (.int p2), .val (.int p3), .val (.ref b1), .val (.ref b3), .val (.ref b5), .val (.int (p2 &&& (3 : Int32))), .unset, .unset, .unset, .unset, .unset] [(.ref b3), (.ref b14), (.ref b14)])
      obtain ⟨_, _, ⟨T15, L15, k15, n15⟩, -, X15, ⟨Lc15, hQ15, l15, y15, z15⟩, st15⟩ := X14.specialBack hx (y := (⟨"com/example/treellis/treellis/cpa/location/LocationState", "<init>", "(Lcom/example/treellis/treellis/cfa/CfaNode;)V"⟩ : MethodName)) rfl hown (mvT hZ (hw _ (List.mem_of_getElem? (i := 40) rfl))) (mvT hZ (hw _ (List.mem_of_getElem? (i := 41) rfl))) (mvT hZ (hw _ (List.mem_of_getElem? (i := 42) rfl))) (by decide) (backOf (W := 1) (rm6 l Z a0 hw [] b14 b3 h14 n0 Zs14 A14 F_node_b14 lo_b14) hZ (hw _ (List.mem_of_getElem? (i := 42) rfl)) (hw _ (List.mem_of_getElem? (i := 39) rfl)) (by decide) (by decide)) (g := (mkF m 82 #[.val (.int p0), .val (.int p1), .val (.int p2), .val (.int p3), .val (.ref b1), .val (.ref b3), .val (.ref b5), .val (.int (p2 &&& (3 : Int32))), .unset, .unset, .unset, .unset, .unset] [(.ref b3), (.ref b14), (.ref b14)])) rfl (by rw [hml]; rfl) (Steps.refl _) (a := b14) (argsL := [(.ref b3)]) (rest := [(.ref b14)]) (lenOf pd_2 rfl) rfl (by show 2 * 0 + _ ≤ _; exact Nat.le_of_eq rfl) (hb hby at_82) (fun _ _ => ⟨rfl, e14, (by decide : 0 + 1 + 1 + 1 + 1 + 1 + 0 + 1 + 0 ≤ _), (by decide : 0 + 2 + 3 + 2 + 3 + 1 + 0 + 1 + 0 ≤ _)⟩)
      dsimp only [Pt.U, Pt.locs, Pt.cells, Pt.slots] at X15 l15 y15 z15 st15 hQ15
      subst l15 y15 z15
      obtain ⟨rfl, N15q, K15, F15⟩ := hQ15
      have N15 := Fr.app N6 N15q
      refine own_goS st15 ?_
      show own_Goes _ _ _ _ _ _ _ T15 (mkF m 85 #[.val (.int p0), .val (.int p1), .val (.int p2), .val (.int p3), .val (.ref b1), .val (.ref b3), .val (.ref b5), .val (.int (p2 &&& (3 : Int32))), .unset, .unset, .unset, .unset, .unset] [(.ref b14)])
      have E_b1_15 : Exa Z T15.heap b1 "com/example/treellis/treellis/cfa/CfaNode" := E_b1_14.keep K15
      have E_b3_15 : Exa Z T15.heap b3 "com/example/treellis/treellis/cfa/CfaNode" := E_b3_14.keep K15
      have E_b5_15 : Exa Z T15.heap b5 "com/example/treellis/treellis/cpa/location/LocationState" := E_b5_14.keep K15
      have F_node_b5_15 : Fld Z T15.heap b5 "com/example/treellis/treellis/cpa/location/LocationState" "node" "Lcom/example/treellis/treellis/cfa/CfaNode;" (.ref b1) := F_node_b5_14.keep K15 (ninS ne_b5_b14 nin0)
      have E_b14_15 : Exa Z T15.heap b14 "com/example/treellis/treellis/cpa/location/LocationState" := A14.keep K15
      have Zs15 : n0 ≤ T15.heap.size := Nat.le_trans Zs14 K15.1
      have Od15 : Old Z n0 T15.heap := Od14.keep K15 (allS lo_b14 all0)
      refine own_go (fun _ k => XS.astore X15.here hx rfl (hb hby at_85) rfl rfl (l' := #[.val (.int p0), .val (.int p1), .val (.int p2), .val (.int p3), .val (.ref b1), .val (.ref b3), .val (.ref b5), .val (.int (p2 &&& (3 : Int32))), .val (.ref b14), .unset, .unset, .unset, .unset]) rfl k) ?_
      show own_Goes _ _ _ _ _ _ _ T15 (mkF m 87 #[.val (.int p0), .val (.int p1), .val (.int p2), .val (.int p3), .val (.ref b1), .val (.ref b3), .val (.ref b5), .val (.int (p2 &&& (3 : Int32))), .val (.ref b14), .unset, .unset, .unset, .unset] [])
      refine own_go (fun _ k => XS.iconst X15.here hx rfl (hb hby at_87) k) ?_
      show own_Goes _ _ _ _ _ _ _ T15 (mkF m 88 #[.val (.int p0), .val (.int p1), .val (.int p2), .val (.int p3), .val (.ref b1), .val (.ref b3), .val (.ref b5), .val (.int (p2 &&& (3 : Int32))), .val (.ref b14), .unset, .unset, .unset, .unset] [(.int (0 : Int32))])
      refine own_go (fun _ k => XS.istore X15.here hx rfl (hb hby at_88) rfl (l' := #[.val (.int p0), .val (.int p1), .val (.int p2), .val (.int p3), .val (.ref b1), .val (.ref b3), .val (.ref b5), .val (.int (p2 &&& (3 : Int32))), .val (.ref b14), .val (.int (0 : Int32)), .unset, .unset, .unset]) rfl k) ?_
      show own_Goes _ _ _ _ _ _ _ T15 (mkF m 90 #[.val (.int p0), .val (.int p1), .val (.int p2), .val (.int p3), .val (.ref b1), .val (.ref b3), .val (.ref b5), .val (.int (p2 &&& (3 : Int32))), .val (.ref b14), .val (.int (0 : Int32)), .unset, .unset, .unset] [])
      refine own_go (fun _ k => XS.goto X15.here hx rfl (pc0 := 90) (pc' := 115) rfl (hb hby at_90) (by decide) (by decide) k) ?_
      show own_Goes _ _ _ _ _ _ _ T15 (mkF m 115 #[.val (.int p0), .val (.int p1), .val (.int p2), .val (.int p3), .val (.ref b1), .val (.ref b3), .val (.ref b5), .val (.int (p2 &&& (3 : Int32))), .val (.ref b14), .val (.int (0 : Int32)), .unset, .unset, .unset] [])
      refine own_go (fun _ k => XS.aload X15.here hx rfl (hb hby at_115) rfl rfl k) ?_
      show own_Goes _ _ _ _ _ _ _ T15 (mkF m 117 #[.val (.int p0), .val (.int p1), .val (.int p2), .val (.int p3), .val (.ref b1), .val (.ref b3), .val (.ref b5), .val (.int (p2 &&& (3 : Int32))), .val (.ref b14), .val (.int (0 : Int32)), .unset, .unset, .unset] [(.ref b5)])
      refine own_go (fun _ k => XS.aload X15.here hx rfl (hb hby at_117) rfl rfl k) ?_
      show own_Goes _ _ _ _ _ _ _ T15 (mkF m 119 #[.val (.int p0), .val (.int p1), .val (.int p2), .val (.int p3), .val (.ref b1), .val (.ref b3), .val (.ref b5), .val (.int (p2 &&& (3 : Int32))), .val (.ref b14), .val (.int (0 : Int32)), .unset, .unset, .unset] [(.ref b5), (.ref b5)])
      obtain ⟨cq16, kq16, zq16a, zq16b, zq16c⟩ := isOf hZ rfl E_b5_15
      obtain ⟨_, _, ⟨T16, L16, k16, n16⟩, -, X16, ⟨Lc16, hQ16, l16, y16, z16⟩, st16⟩ := X15.virtualBack hx (y := (⟨"com/example/treellis/treellis/cpa/location/LocationState", "equals", "(Ljava/lang/Object;)Z"⟩ : MethodName)) (z := (⟨"com/example/treellis/treellis/cpa/location/LocationState", "equals", "(Ljava/lang/Object;)Z"⟩ : MethodName)) hown (mvT hZ (hw _ (List.mem_of_getElem? (i := 46) rfl))) (mvT hZ (hw _ (List.mem_of_getElem? (i := 47) rfl))) (notFace_of_selects (args := #[]) (mvT hZ (hw _ (List.mem_of_getElem? (i := 49) rfl)))) (mvT hZ (hw _ (List.mem_of_getElem? (i := 49) rfl))) (mvT hZ (hw _ (List.mem_of_getElem? (i := 48) rfl))) (by decide) (backOf (W := 0) (rmL l Z a0 hw [] b5 b5 b1 b1 T15.heap n0 Zs15 E_b5_15 E_b5_15 F_node_b5_15 F_node_b5_15) hZ (hw _ (List.mem_of_getElem? (i := 50) rfl)) (hw _ (List.mem_of_getElem? (i := 39) rfl)) (by decide) (by decide)) zq16a zq16c (g := (mkF m 119 #[.val (.int p0), .val (.int p1), .val (.int p2), .val (.int p3), .val (.ref b1), .val (.ref b3), .val (.ref b5), .val (.int (p2 &&& (3 : Int32))), .val (.ref b14), .val (.int (0 : Int32)), .unset, .unset, .unset] [(.ref b5), (.ref b5)])) rfl (by rw [hml]; rfl) (Steps.refl _) (argsL := [(.ref b5)]) (rest := []) (lenOf pd_3 rfl) rfl (by show 2 * 0 + _ ≤ _; exact Nat.le_of_eq rfl) (hb hby at_119) (fun _ _ => ⟨rfl, rfl, (by decide : 0 + 1 + 1 + 1 + 1 + 1 + 0 + 1 + 0 + 0 ≤ _), (by decide : 0 + 2 + 3 + 2 + 3 + 1 + 0 + 1 + 0 + 0 ≤ _)⟩)
      dsimp only [Pt.U, Pt.locs, Pt.cells, Pt.slots] at X16 l16 y16 z16 st16 hQ16
      subst l16 y16 z16
      obtain ⟨rfl, N16q, e16⟩ := hQ16
      have N16 := Fr.app N15 N16q
      refine own_goS st16 ?_
      show own_Goes _ _ _ _ _ _ _ T16 (mkF m 122 #[.val (.int p0), .val (.int p1), .val (.int p2), .val (.int p3), .val (.ref b1), .val (.ref b3), .val (.ref b5), .val (.int (p2 &&& (3 : Int32))), .val (.ref b14), .val (.int (0 : Int32)), .unset, .unset, .unset] [(.int (own_same b1 b1))])
      refine own_go (fun _ k => XS.istore X16.here hx rfl (hb hby at_122) rfl (l' := #[.val (.int p0), .val (.int p1), .val (.int p2), .val (.int p3), .val (.ref b1), .val (.ref b3), .val (.ref b5), .val (.int (p2 &&& (3 : Int32))), .val (.ref b14), .val (.int (0 : Int32)), .val (.int (own_same b1 b1)), .unset, .unset]) rfl k) ?_
      show own_Goes _ _ _ _ _ _ _ T16 (mkF m 124 #[.val (.int p0), .val (.int p1), .val (.int p2), .val (.int p3), .val (.ref b1), .val (.ref b3), .val (.ref b5), .val (.int (p2 &&& (3 : Int32))), .val (.ref b14), .val (.int (0 : Int32)), .val (.int (own_same b1 b1)), .unset, .unset] [])
      refine own_go (fun _ k => XS.aload X16.here hx rfl (hb hby at_124) rfl rfl k) ?_
      show own_Goes _ _ _ _ _ _ _ T16 (mkF m 126 #[.val (.int p0), .val (.int p1), .val (.int p2), .val (.int p3), .val (.ref b1), .val (.ref b3), .val (.ref b5), .val (.int (p2 &&& (3 : Int32))), .val (.ref b14), .val (.int (0 : Int32)), .val (.int (own_same b1 b1)), .unset, .unset] [(.ref b5)])
      refine own_go (fun _ k => XS.aload X16.here hx rfl (hb hby at_126) rfl rfl k) ?_
      show own_Goes _ _ _ _ _ _ _ T16 (mkF m 128 #[.val (.int p0), .val (.int p1), .val (.int p2), .val (.int p3), .val (.ref b1), .val (.ref b3), .val (.ref b5), .val (.int (p2 &&& (3 : Int32))), .val (.ref b14), .val (.int (0 : Int32)), .val (.int (own_same b1 b1)), .unset, .unset] [(.ref b14), (.ref b5)])
      obtain ⟨cq17, kq17, zq17a, zq17b, zq17c⟩ := isOf hZ e16 E_b5_15
      obtain ⟨_, _, ⟨T17, L17, k17, n17⟩, -, X17, ⟨Lc17, hQ17, l17, y17, z17⟩, st17⟩ := X16.virtualBack hx (y := (⟨"com/example/treellis/treellis/cpa/location/LocationState", "equals", "(Ljava/lang/Object;)Z"⟩ : MethodName)) (z := (⟨"com/example/treellis/treellis/cpa/location/LocationState", "equals", "(Ljava/lang/Object;)Z"⟩ : MethodName)) hown (mvT hZ (hw _ (List.mem_of_getElem? (i := 46) rfl))) (mvT hZ (hw _ (List.mem_of_getElem? (i := 47) rfl))) (notFace_of_selects (args := #[]) (mvT hZ (hw _ (List.mem_of_getElem? (i := 49) rfl)))) (mvT hZ (hw _ (List.mem_of_getElem? (i := 49) rfl))) (mvT hZ (hw _ (List.mem_of_getElem? (i := 48) rfl))) (by decide) (backOf (W := 0) (rmL l Z a0 hw [] b5 b14 b1 b3 T15.heap n0 Zs15 E_b5_15 E_b14_15 F_node_b5_15 F15) hZ (hw _ (List.mem_of_getElem? (i := 50) rfl)) (hw _ (List.mem_of_getElem? (i := 39) rfl)) (by decide) (by decide)) zq17a zq17c (g := (mkF m 128 #[.val (.int p0), .val (.int p1), .val (.int p2), .val (.int p3), .val (.ref b1), .val (.ref b3), .val (.ref b5), .val (.int (p2 &&& (3 : Int32))), .val (.ref b14), .val (.int (0 : Int32)), .val (.int (own_same b1 b1)), .unset, .unset] [(.ref b14), (.ref b5)])) rfl (by rw [hml]; rfl) (Steps.refl _) (argsL := [(.ref b14)]) (rest := []) (lenOf pd_3 rfl) rfl (by show 2 * 0 + _ ≤ _; exact Nat.le_of_eq rfl) (hb hby at_128) (fun _ _ => ⟨rfl, e16, (by decide : 0 + 1 + 1 + 1 + 1 + 1 + 0 + 1 + 0 + 0 + 0 ≤ _), (by decide : 0 + 2 + 3 + 2 + 3 + 1 + 0 + 1 + 0 + 0 + 0 ≤ _)⟩)
      dsimp only [Pt.U, Pt.locs, Pt.cells, Pt.slots] at X17 l17 y17 z17 st17 hQ17
      subst l17 y17 z17
      obtain ⟨rfl, N17q, e17⟩ := hQ17
      have N17 := Fr.app N16 N17q
      refine own_goS st17 ?_
      show own_Goes _ _ _ _ _ _ _ T17 (mkF m 131 #[.val (.int p0), .val (.int p1), .val (.int p2), .val (.int p3), .val (.ref b1), .val (.ref b3), .val (.ref b5), .val (.int (p2 &&& (3 : Int32))), .val (.ref b14), .val (.int (0 : Int32)), .val (.int (own_same b1 b1)), .unset, .unset] [(.int (own_same b3 b1))])
      refine own_go (fun _ k => XS.istore X17.here hx rfl (hb hby at_131) rfl (l' := #[.val (.int p0), .val (.int p1), .val (.int p2), .val (.int p3), .val (.ref b1), .val (.ref b3), .val (.ref b5), .val (.int (p2 &&& (3 : Int32))), .val (.ref b14), .val (.int (0 : Int32)), .val (.int (own_same b1 b1)), .val (.int (own_same b3 b1)), .unset]) rfl k) ?_
      show own_Goes _ _ _ _ _ _ _ T17 (mkF m 133 #[.val (.int p0), .val (.int p1), .val (.int p2), .val (.int p3), .val (.ref b1), .val (.ref b3), .val (.ref b5), .val (.int (p2 &&& (3 : Int32))), .val (.ref b14), .val (.int (0 : Int32)), .val (.int (own_same b1 b1)), .val (.int (own_same b3 b1)), .unset] [])
      refine own_go (fun _ k => XS.iload X17.here hx rfl (hb hby at_133) rfl k) ?_
      show own_Goes _ _ _ _ _ _ _ T17 (mkF m 135 #[.val (.int p0), .val (.int p1), .val (.int p2), .val (.int p3), .val (.ref b1), .val (.ref b3), .val (.ref b5), .val (.int (p2 &&& (3 : Int32))), .val (.ref b14), .val (.int (0 : Int32)), .val (.int (own_same b1 b1)), .val (.int (own_same b3 b1)), .unset] [(.int (0 : Int32))])
      refine own_go (fun _ k => XS.istore X17.here hx rfl (hb hby at_135) rfl (l' := #[.val (.int p0), .val (.int p1), .val (.int p2), .val (.int p3), .val (.ref b1), .val (.ref b3), .val (.ref b5), .val (.int (p2 &&& (3 : Int32))), .val (.ref b14), .val (.int (0 : Int32)), .val (.int (own_same b1 b1)), .val (.int (own_same b3 b1)), .val (.int (0 : Int32))]) rfl k) ?_
      show own_Goes _ _ _ _ _ _ _ T17 (mkF m 137 #[.val (.int p0), .val (.int p1), .val (.int p2), .val (.int p3), .val (.ref b1), .val (.ref b3), .val (.ref b5), .val (.int (p2 &&& (3 : Int32))), .val (.ref b14), .val (.int (0 : Int32)), .val (.int (own_same b1 b1)), .val (.int (own_same b3 b1)), .val (.int (0 : Int32))] [])
      refine own_go (fun _ k => XS.aload X17.here hx rfl (hb hby at_137) rfl rfl k) ?_
      show own_Goes _ _ _ _ _ _ _ T17 (mkF m 139 #[.val (.int p0), .val (.int p1), .val (.int p2), .val (.int p3), .val (.ref b1), .val (.ref b3), .val (.ref b5), .val (.int (p2 &&& (3 : Int32))), .val (.ref b14), .val (.int (0 : Int32)), .val (.int (own_same b1 b1)), .val (.int (own_same b3 b1)), .val (.int (0 : Int32))] [(.ref b14)])
      obtain ⟨T18, X18, e18, st18⟩ := instY X17 hx hZ hown (hw _ (List.mem_of_getElem? (i := 37) rfl)) e17 (Ins.self E_b14_15) (g := (mkF m 139 #[.val (.int p0), .val (.int p1), .val (.int p2), .val (.int p3), .val (.ref b1), .val (.ref b3), .val (.ref b5), .val (.int (p2 &&& (3 : Int32))), .val (.ref b14), .val (.int (0 : Int32)), .val (.int (own_same b1 b1)), .val (.int (own_same b3 b1)), .val (.int (0 : Int32))] [(.ref b14)])) rfl rfl (hb hby at_139)
      refine own_go st18 ?_
      show own_Goes _ _ _ _ _ _ _ T18 (mkF m 142 #[.val (.int p0), .val (.int p1), .val (.int p2), .val (.int p3), .val (.ref b1), .val (.ref b3), .val (.ref b5), .val (.int (p2 &&& (3 : Int32))), .val (.ref b14), .val (.int (0 : Int32)), .val (.int (own_same b1 b1)), .val (.int (own_same b3 b1)), .val (.int (0 : Int32))] [(.int (1 : Int32))])
      refine own_go (fun _ k => XS.ifNo X18.here hx rfl (hb hby at_142) rfl ((if0 _ _).trans (feq (by decide : ¬ ((1 : Int32) = (0 : Int32)))).1) k) ?_
      show own_Goes _ _ _ _ _ _ _ T18 (mkF m 145 #[.val (.int p0), .val (.int p1), .val (.int p2), .val (.int p3), .val (.ref b1), .val (.ref b3), .val (.ref b5), .val (.int (p2 &&& (3 : Int32))), .val (.ref b14), .val (.int (0 : Int32)), .val (.int (own_same b1 b1)), .val (.int (own_same b3 b1)), .val (.int (0 : Int32))] [])
      refine own_go (fun _ k => XS.aload X18.here hx rfl (hb hby at_145) rfl rfl k) ?_
      show own_Goes _ _ _ _ _ _ _ T18 (mkF m 147 #[.val (.int p0), .val (.int p1), .val (.int p2), .val (.int p3), .val (.ref b1), .val (.ref b3), .val (.ref b5), .val (.int (p2 &&& (3 : Int32))), .val (.ref b14), .val (.int (0 : Int32)), .val (.int (own_same b1 b1)), .val (.int (own_same b3 b1)), .val (.int (0 : Int32))] [(.ref b14)])
      obtain ⟨T19, X19, e19, st19⟩ := castY X18 hx hZ hown (hw _ (List.mem_of_getElem? (i := 37) rfl)) e18 (Ins.self E_b14_15) (g := (mkF m 147 #[.val (.int p0), .val (.int p1), .val (.int p2), .val (.int p3), .val (.ref b1), .val (.ref b3), .val (.ref b5), .val (.int (p2 &&& (3 : Int32))), .val (.ref b14), .val (.int (0 : Int32)), .val (.int (own_same b1 b1)), .val (.int (own_same b3 b1)), .val (.int (0 : Int32))] [(.ref b14)])) rfl rfl (hb hby at_147)
      refine own_go st19 ?_
      show own_Goes _ _ _ _ _ _ _ T19 (mkF m 150 #[.val (.int p0), .val (.int p1), .val (.int p2), .val (.int p3), .val (.ref b1), .val (.ref b3), .val (.ref b5), .val (.int (p2 &&& (3 : Int32))), .val (.ref b14), .val (.int (0 : Int32)), .val (.int (own_same b1 b1)), .val (.int (own_same b3 b1)), .val (.int (0 : Int32))] [(.ref b14)])
      refine own_go (fun _ k => XS.aload X19.here hx rfl (hb hby at_150) rfl rfl k) ?_
      show own_Goes _ _ _ _ _ _ _ T19 (mkF m 152 #[.val (.int p0), .val (.int p1), .val (.int p2), .val (.int p3), .val (.ref b1), .val (.ref b3), .val (.ref b5), .val (.int (p2 &&& (3 : Int32))), .val (.ref b14), .val (.int (0 : Int32)), .val (.int (own_same b1 b1)), .val (.int (own_same b3 b1)), .val (.int (0 : Int32))] [(.ref b5), (.ref b14)])
      obtain ⟨cq20, kq20, zq20a, zq20b, zq20c⟩ := isOf hZ e19 E_b14_15
      obtain ⟨_, _, ⟨T20, L20, k20, n20⟩, -, X20, ⟨Lc20, hQ20, l20, y20, z20⟩, st20⟩ := X19.virtualBack hx (y := (⟨"com/example/treellis/treellis/cpa/location/LocationState", "equals", "(Ljava/lang/Object;)Z"⟩ : MethodName)) (z := (⟨"com/example/treellis/treellis/cpa/location/LocationState", "equals", "(Ljava/lang/Object;)Z"⟩ : MethodName)) hown (mvT hZ (hw _ (List.mem_of_getElem? (i := 46) rfl))) (mvT hZ (hw _ (List.mem_of_getElem? (i := 47) rfl))) (notFace_of_selects (args := #[]) (mvT hZ (hw _ (List.mem_of_getElem? (i := 49) rfl)))) (mvT hZ (hw _ (List.mem_of_getElem? (i := 49) rfl))) (mvT hZ (hw _ (List.mem_of_getElem? (i := 48) rfl))) (by decide) (backOf (W := 0) (rmL l Z a0 hw [] b14 b5 b3 b1 T15.heap n0 Zs15 E_b14_15 E_b5_15 F15 F_node_b5_15) hZ (hw _ (List.mem_of_getElem? (i := 50) rfl)) (hw _ (List.mem_of_getElem? (i := 39) rfl)) (by decide) (by decide)) zq20a zq20c (g := (mkF m 152 #[.val (.int p0), .val (.int p1), .val (.int p2), .val (.int p3), .val (.ref b1), .val (.ref b3), .val (.ref b5), .val (.int (p2 &&& (3 : Int32))), .val (.ref b14), .val (.int (0 : Int32)), .val (.int (own_same b1 b1)), .val (.int (own_same b3 b1)), .val (.int (0 : Int32))] [(.ref b5), (.ref b14)])) rfl (by rw [hml]; rfl) (Steps.refl _) (argsL := [(.ref b5)]) (rest := []) (lenOf pd_3 rfl) rfl (by show 2 * 0 + _ ≤ _; exact Nat.le_of_eq rfl) (hb hby at_152) (fun _ _ => ⟨rfl, e19, (by decide : 0 + 1 + 1 + 1 + 1 + 1 + 0 + 1 + 0 + 0 + 0 + 0 ≤ _), (by decide : 0 + 2 + 3 + 2 + 3 + 1 + 0 + 1 + 0 + 0 + 0 + 0 ≤ _)⟩)
      dsimp only [Pt.U, Pt.locs, Pt.cells, Pt.slots] at X20 l20 y20 z20 st20 hQ20
      subst l20 y20 z20
      obtain ⟨rfl, N20q, e20⟩ := hQ20
      have N20 := Fr.app N17 N20q
      refine own_goS st20 ?_
      show own_Goes _ _ _ _ _ _ _ T20 (mkF m 155 #[.val (.int p0), .val (.int p1), .val (.int p2), .val (.int p3), .val (.ref b1), .val (.ref b3), .val (.ref b5), .val (.int (p2 &&& (3 : Int32))), .val (.ref b14), .val (.int (0 : Int32)), .val (.int (own_same b1 b1)), .val (.int (own_same b3 b1)), .val (.int (0 : Int32))] [(.int (own_same b1 b3))])
      refine own_go (fun _ k => XS.istore X20.here hx rfl (hb hby at_155) rfl (l' := #[.val (.int p0), .val (.int p1), .val (.int p2), .val (.int p3), .val (.ref b1), .val (.ref b3), .val (.ref b5), .val (.int (p2 &&& (3 : Int32))), .val (.ref b14), .val (.int (0 : Int32)), .val (.int (own_same b1 b1)), .val (.int (own_same b3 b1)), .val (.int (own_same b1 b3))]) rfl k) ?_
      show own_Goes _ _ _ _ _ _ _ T20 (mkF m 157 #[.val (.int p0), .val (.int p1), .val (.int p2), .val (.int p3), .val (.ref b1), .val (.ref b3), .val (.ref b5), .val (.int (p2 &&& (3 : Int32))), .val (.ref b14), .val (.int (0 : Int32)), .val (.int (own_same b1 b1)), .val (.int (own_same b3 b1)), .val (.int (own_same b1 b3))] [])
      refine own_go (fun _ k => XS.iload X20.here hx rfl (hb hby at_157) rfl k) ?_
      show own_Goes _ _ _ _ _ _ _ T20 (mkF m 159 #[.val (.int p0), .val (.int p1), .val (.int p2), .val (.int p3), .val (.ref b1), .val (.ref b3), .val (.ref b5), .val (.int (p2 &&& (3 : Int32))), .val (.ref b14), .val (.int (0 : Int32)), .val (.int (own_same b1 b1)), .val (.int (own_same b3 b1)), .val (.int (own_same b1 b3))] [(.int (own_same b1 b1))])
      refine own_go (fun _ k => XS.ifNo X20.here hx rfl (hb hby at_159) rfl ((if0 _ _).trans (feq (by rw [own_same_eq] <;> decide : ¬ ((own_same b1 b1) = (0 : Int32)))).1) k) ?_
      show own_Goes _ _ _ _ _ _ _ T20 (mkF m 162 #[.val (.int p0), .val (.int p1), .val (.int p2), .val (.int p3), .val (.ref b1), .val (.ref b3), .val (.ref b5), .val (.int (p2 &&& (3 : Int32))), .val (.ref b14), .val (.int (0 : Int32)), .val (.int (own_same b1 b1)), .val (.int (own_same b3 b1)), .val (.int (own_same b1 b3))] [])
      refine own_go (fun _ k => XS.iload X20.here hx rfl (hb hby at_162) rfl k) ?_
      show own_Goes _ _ _ _ _ _ _ T20 (mkF m 164 #[.val (.int p0), .val (.int p1), .val (.int p2), .val (.int p3), .val (.ref b1), .val (.ref b3), .val (.ref b5), .val (.int (p2 &&& (3 : Int32))), .val (.ref b14), .val (.int (0 : Int32)), .val (.int (own_same b1 b1)), .val (.int (own_same b3 b1)), .val (.int (own_same b1 b3))] [(.int (own_same b3 b1))])
      refine own_go (fun _ k => XS.iload X20.here hx rfl (hb hby at_164) rfl k) ?_
      show own_Goes _ _ _ _ _ _ _ T20 (mkF m 166 #[.val (.int p0), .val (.int p1), .val (.int p2), .val (.int p3), .val (.ref b1), .val (.ref b3), .val (.ref b5), .val (.int (p2 &&& (3 : Int32))), .val (.ref b14), .val (.int (0 : Int32)), .val (.int (own_same b1 b1)), .val (.int (own_same b3 b1)), .val (.int (own_same b1 b3))] [(.int (0 : Int32)), (.int (own_same b3 b1))])
      refine own_go (fun _ k => XS.icmpNo X20.here hx rfl (hb hby at_166) rfl (teq (by rw [own_same_ne (Ne.symm ne_b1_b3)] <;> decide : (own_same b3 b1) = (0 : Int32))).2 k) ?_
      show own_Goes _ _ _ _ _ _ _ T20 (mkF m 169 #[.val (.int p0), .val (.int p1), .val (.int p2), .val (.int p3), .val (.ref b1), .val (.ref b3), .val (.ref b5), .val (.int (p2 &&& (3 : Int32))), .val (.ref b14), .val (.int (0 : Int32)), .val (.int (own_same b1 b1)), .val (.int (own_same b3 b1)), .val (.int (own_same b1 b3))] [])
      refine own_go (fun _ k => XS.iload X20.here hx rfl (hb hby at_169) rfl k) ?_
      show own_Goes _ _ _ _ _ _ _ T20 (mkF m 171 #[.val (.int p0), .val (.int p1), .val (.int p2), .val (.int p3), .val (.ref b1), .val (.ref b3), .val (.ref b5), .val (.int (p2 &&& (3 : Int32))), .val (.ref b14), .val (.int (0 : Int32)), .val (.int (own_same b1 b1)), .val (.int (own_same b3 b1)), .val (.int (own_same b1 b3))] [(.int (own_same b1 b3))])
      refine own_go (fun _ k => XS.iload X20.here hx rfl (hb hby at_171) rfl k) ?_
      show own_Goes _ _ _ _ _ _ _ T20 (mkF m 173 #[.val (.int p0), .val (.int p1), .val (.int p2), .val (.int p3), .val (.ref b1), .val (.ref b3), .val (.ref b5), .val (.int (p2 &&& (3 : Int32))), .val (.ref b14), .val (.int (0 : Int32)), .val (.int (own_same b1 b1)), .val (.int (own_same b3 b1)), .val (.int (own_same b1 b3))] [(.int (0 : Int32)), (.int (own_same b1 b3))])
      refine own_go (fun _ k => XS.icmpNo X20.here hx rfl (hb hby at_173) rfl (teq (by rw [own_same_ne ne_b1_b3] <;> decide : (own_same b1 b3) = (0 : Int32))).2 k) ?_
      show own_Goes _ _ _ _ _ _ _ T20 (mkF m 176 #[.val (.int p0), .val (.int p1), .val (.int p2), .val (.int p3), .val (.ref b1), .val (.ref b3), .val (.ref b5), .val (.int (p2 &&& (3 : Int32))), .val (.ref b14), .val (.int (0 : Int32)), .val (.int (own_same b1 b1)), .val (.int (own_same b3 b1)), .val (.int (own_same b1 b3))] [])
      refine own_go (fun _ k => XS.iconst X20.here hx rfl (hb hby at_176) k) ?_
      show own_Goes _ _ _ _ _ _ _ T20 (mkF m 177 #[.val (.int p0), .val (.int p1), .val (.int p2), .val (.int p3), .val (.ref b1), .val (.ref b3), .val (.ref b5), .val (.int (p2 &&& (3 : Int32))), .val (.ref b14), .val (.int (0 : Int32)), .val (.int (own_same b1 b1)), .val (.int (own_same b3 b1)), .val (.int (own_same b1 b3))] [(.int (1 : Int32))])
      refine own_go (fun _ k => XS.goto X20.here hx rfl (pc0 := 177) (pc' := 181) rfl (hb hby at_177) (by decide) (by decide) k) ?_
      show own_Goes _ _ _ _ _ _ _ T20 (mkF m 181 #[.val (.int p0), .val (.int p1), .val (.int p2), .val (.int p3), .val (.ref b1), .val (.ref b3), .val (.ref b5), .val (.int (p2 &&& (3 : Int32))), .val (.ref b14), .val (.int (0 : Int32)), .val (.int (own_same b1 b1)), .val (.int (own_same b3 b1)), .val (.int (own_same b1 b3))] [(.int (1 : Int32))])
      exact own_retN X20 hx (t := .boolean) hlk hret (by simp) (hb hby at_181) (by decide) (by decide) ⟨rfl, N20⟩
    · refine own_go (fun _ k => XS.icmpYes X6.here hx rfl (pc0 := 73) (pc' := 93) rfl (hb hby at_73) rfl (feq hc73).2 (by decide) (by decide) k) ?_
      show own_Goes _ _ _ _ _ _ _ T6 (mkF m 93 #[.val (.int p0), .val (.int p1), .val (.int p2), .val (.int p3), .val (.ref b1), .val (.ref b3), .val (.ref b5), .val (.int (p2 &&& (3 : Int32))), .unset, .unset, .unset, .unset, .unset] [])
      refine own_go (fun _ k => XS.iload X6.here hx rfl (hb hby at_93) rfl k) ?_
      show own_Goes _ _ _ _ _ _ _ T6 (mkF m 95 #[.val (.int p0), .val (.int p1), .val (.int p2), .val (.int p3), .val (.ref b1), .val (.ref b3), .val (.ref b5), .val (.int (p2 &&& (3 : Int32))), .unset, .unset, .unset, .unset, .unset] [(.int (p2 &&& (3 : Int32)))])
      refine own_go (fun _ k => XS.iconst X6.here hx rfl (hb hby at_95) k) ?_
      show own_Goes _ _ _ _ _ _ _ T6 (mkF m 96 #[.val (.int p0), .val (.int p1), .val (.int p2), .val (.int p3), .val (.ref b1), .val (.ref b3), .val (.ref b5), .val (.int (p2 &&& (3 : Int32))), .unset, .unset, .unset, .unset, .unset] [(.int (2 : Int32)), (.int (p2 &&& (3 : Int32)))])
      by_cases hc96 : (p2 &&& (3 : Int32)) = (2 : Int32)
      · refine own_go (fun _ k => XS.icmpNo X6.here hx rfl (hb hby at_96) rfl (teq hc96).2 k) ?_
        show own_Goes _ _ _ _ _ _ _ T6 (mkF m 99 #[.val (.int p0), .val (.int p1), .val (.int p2), .val (.int p3), .val (.ref b1), .val (.ref b3), .val (.ref b5), .val (.int (p2 &&& (3 : Int32))), .unset, .unset, .unset, .unset, .unset] [])
        refine own_go (fun _ k => XS.aload X6.here hx rfl (hb hby at_99) rfl rfl k) ?_
        show own_Goes _ _ _ _ _ _ _ T6 (mkF m 101 #[.val (.int p0), .val (.int p1), .val (.int p2), .val (.int p3), .val (.ref b1), .val (.ref b3), .val (.ref b5), .val (.int (p2 &&& (3 : Int32))), .unset, .unset, .unset, .unset, .unset] [(.ref b1)])
        refine own_go (fun _ k => XS.astore X6.here hx rfl (hb hby at_101) rfl rfl (l' := #[.val (.int p0), .val (.int p1), .val (.int p2), .val (.int p3), .val (.ref b1), .val (.ref b3), .val (.ref b5), .val (.int (p2 &&& (3 : Int32))), .val (.ref b1), .unset, .unset, .unset, .unset]) rfl k) ?_
        show own_Goes _ _ _ _ _ _ _ T6 (mkF m 103 #[.val (.int p0), .val (.int p1), .val (.int p2), .val (.int p3), .val (.ref b1), .val (.ref b3), .val (.ref b5), .val (.int (p2 &&& (3 : Int32))), .val (.ref b1), .unset, .unset, .unset, .unset] [])
        refine own_go (fun _ k => XS.iconst X6.here hx rfl (hb hby at_103) k) ?_
        show own_Goes _ _ _ _ _ _ _ T6 (mkF m 104 #[.val (.int p0), .val (.int p1), .val (.int p2), .val (.int p3), .val (.ref b1), .val (.ref b3), .val (.ref b5), .val (.int (p2 &&& (3 : Int32))), .val (.ref b1), .unset, .unset, .unset, .unset] [(.int (0 : Int32))])
        refine own_go (fun _ k => XS.istore X6.here hx rfl (hb hby at_104) rfl (l' := #[.val (.int p0), .val (.int p1), .val (.int p2), .val (.int p3), .val (.ref b1), .val (.ref b3), .val (.ref b5), .val (.int (p2 &&& (3 : Int32))), .val (.ref b1), .val (.int (0 : Int32)), .unset, .unset, .unset]) rfl k) ?_
        show own_Goes _ _ _ _ _ _ _ T6 (mkF m 106 #[.val (.int p0), .val (.int p1), .val (.int p2), .val (.int p3), .val (.ref b1), .val (.ref b3), .val (.ref b5), .val (.int (p2 &&& (3 : Int32))), .val (.ref b1), .val (.int (0 : Int32)), .unset, .unset, .unset] [])
        refine own_go (fun _ k => XS.goto X6.here hx rfl (pc0 := 106) (pc' := 115) rfl (hb hby at_106) (by decide) (by decide) k) ?_
        show own_Goes _ _ _ _ _ _ _ T6 (mkF m 115 #[.val (.int p0), .val (.int p1), .val (.int p2), .val (.int p3), .val (.ref b1), .val (.ref b3), .val (.ref b5), .val (.int (p2 &&& (3 : Int32))), .val (.ref b1), .val (.int (0 : Int32)), .unset, .unset, .unset] [])
        refine own_go (fun _ k => XS.aload X6.here hx rfl (hb hby at_115) rfl rfl k) ?_
        show own_Goes _ _ _ _ _ _ _ T6 (mkF m 117 #[.val (.int p0), .val (.int p1), .val (.int p2), .val (.int p3), .val (.ref b1), .val (.ref b3), .val (.ref b5), .val (.int (p2 &&& (3 : Int32))), .val (.ref b1), .val (.int (0 : Int32)), .unset, .unset, .unset] [(.ref b5)])
        refine own_go (fun _ k => XS.aload X6.here hx rfl (hb hby at_117) rfl rfl k) ?_
        show own_Goes _ _ _ _ _ _ _ T6 (mkF m 119 #[.val (.int p0), .val (.int p1), .val (.int p2), .val (.int p3), .val (.ref b1), .val (.ref b3), .val (.ref b5), .val (.int (p2 &&& (3 : Int32))), .val (.ref b1), .val (.int (0 : Int32)), .unset, .unset, .unset] [(.ref b5), (.ref b5)])
        obtain ⟨cq21, kq21, zq21a, zq21b, zq21c⟩ := isOf hZ rfl E_b5_6
        obtain ⟨_, _, ⟨T21, L21, k21, n21⟩, -, X21, ⟨Lc21, hQ21, l21, y21, z21⟩, st21⟩ := X6.virtualBack hx (y := (⟨"com/example/treellis/treellis/cpa/location/LocationState", "equals", "(Ljava/lang/Object;)Z"⟩ : MethodName)) (z := (⟨"com/example/treellis/treellis/cpa/location/LocationState", "equals", "(Ljava/lang/Object;)Z"⟩ : MethodName)) hown (mvT hZ (hw _ (List.mem_of_getElem? (i := 46) rfl))) (mvT hZ (hw _ (List.mem_of_getElem? (i := 47) rfl))) (notFace_of_selects (args := #[]) (mvT hZ (hw _ (List.mem_of_getElem? (i := 49) rfl)))) (mvT hZ (hw _ (List.mem_of_getElem? (i := 49) rfl))) (mvT hZ (hw _ (List.mem_of_getElem? (i := 48) rfl))) (by decide) (backOf (W := 0) (rmL l Z a0 hw [] b5 b5 b1 b1 T6.heap n0 Zs6 E_b5_6 E_b5_6 F6 F6) hZ (hw _ (List.mem_of_getElem? (i := 50) rfl)) (hw _ (List.mem_of_getElem? (i := 39) rfl)) (by decide) (by decide)) zq21a zq21c (g := (mkF m 119 #[.val (.int p0), .val (.int p1), .val (.int p2), .val (.int p3), .val (.ref b1), .val (.ref b3), .val (.ref b5), .val (.int (p2 &&& (3 : Int32))), .val (.ref b1), .val (.int (0 : Int32)), .unset, .unset, .unset] [(.ref b5), (.ref b5)])) rfl (by rw [hml]; rfl) (Steps.refl _) (argsL := [(.ref b5)]) (rest := []) (lenOf pd_3 rfl) rfl (by show 2 * 0 + _ ≤ _; exact Nat.le_of_eq rfl) (hb hby at_119) (fun _ _ => ⟨rfl, rfl, (by decide : 0 + 1 + 1 + 1 + 1 + 1 + 0 + 0 ≤ _), (by decide : 0 + 2 + 3 + 2 + 3 + 1 + 0 + 0 ≤ _)⟩)
        dsimp only [Pt.U, Pt.locs, Pt.cells, Pt.slots] at X21 l21 y21 z21 st21 hQ21
        subst l21 y21 z21
        obtain ⟨rfl, N21q, e21⟩ := hQ21
        have N21 := Fr.app N6 N21q
        refine own_goS st21 ?_
        show own_Goes _ _ _ _ _ _ _ T21 (mkF m 122 #[.val (.int p0), .val (.int p1), .val (.int p2), .val (.int p3), .val (.ref b1), .val (.ref b3), .val (.ref b5), .val (.int (p2 &&& (3 : Int32))), .val (.ref b1), .val (.int (0 : Int32)), .unset, .unset, .unset] [(.int (own_same b1 b1))])
        refine own_go (fun _ k => XS.istore X21.here hx rfl (hb hby at_122) rfl (l' := #[.val (.int p0), .val (.int p1), .val (.int p2), .val (.int p3), .val (.ref b1), .val (.ref b3), .val (.ref b5), .val (.int (p2 &&& (3 : Int32))), .val (.ref b1), .val (.int (0 : Int32)), .val (.int (own_same b1 b1)), .unset, .unset]) rfl k) ?_
        show own_Goes _ _ _ _ _ _ _ T21 (mkF m 124 #[.val (.int p0), .val (.int p1), .val (.int p2), .val (.int p3), .val (.ref b1), .val (.ref b3), .val (.ref b5), .val (.int (p2 &&& (3 : Int32))), .val (.ref b1), .val (.int (0 : Int32)), .val (.int (own_same b1 b1)), .unset, .unset] [])
        refine own_go (fun _ k => XS.aload X21.here hx rfl (hb hby at_124) rfl rfl k) ?_
        show own_Goes _ _ _ _ _ _ _ T21 (mkF m 126 #[.val (.int p0), .val (.int p1), .val (.int p2), .val (.int p3), .val (.ref b1), .val (.ref b3), .val (.ref b5), .val (.int (p2 &&& (3 : Int32))), .val (.ref b1), .val (.int (0 : Int32)), .val (.int (own_same b1 b1)), .unset, .unset] [(.ref b5)])
        refine own_go (fun _ k => XS.aload X21.here hx rfl (hb hby at_126) rfl rfl k) ?_
        show own_Goes _ _ _ _ _ _ _ T21 (mkF m 128 #[.val (.int p0), .val (.int p1), .val (.int p2), .val (.int p3), .val (.ref b1), .val (.ref b3), .val (.ref b5), .val (.int (p2 &&& (3 : Int32))), .val (.ref b1), .val (.int (0 : Int32)), .val (.int (own_same b1 b1)), .unset, .unset] [(.ref b1), (.ref b5)])
        obtain ⟨cq22, kq22, zq22a, zq22b, zq22c⟩ := isOf hZ e21 E_b5_6
        obtain ⟨_, _, ⟨T22, L22, k22, n22⟩, -, X22, ⟨Lc22, hQ22, l22, y22, z22⟩, st22⟩ := X21.virtualBack hx (y := (⟨"com/example/treellis/treellis/cpa/location/LocationState", "equals", "(Ljava/lang/Object;)Z"⟩ : MethodName)) (z := (⟨"com/example/treellis/treellis/cpa/location/LocationState", "equals", "(Ljava/lang/Object;)Z"⟩ : MethodName)) hown (mvT hZ (hw _ (List.mem_of_getElem? (i := 46) rfl))) (mvT hZ (hw _ (List.mem_of_getElem? (i := 47) rfl))) (notFace_of_selects (args := #[]) (mvT hZ (hw _ (List.mem_of_getElem? (i := 49) rfl)))) (mvT hZ (hw _ (List.mem_of_getElem? (i := 49) rfl))) (mvT hZ (hw _ (List.mem_of_getElem? (i := 48) rfl))) (by decide) (backOf (W := 0) (rmC l Z a0 hw [] b5 b1 T6.heap n0 Zs6 E_b1_6) hZ (hw _ (List.mem_of_getElem? (i := 50) rfl)) (hw _ (List.mem_of_getElem? (i := 39) rfl)) (by decide) (by decide)) zq22a zq22c (g := (mkF m 128 #[.val (.int p0), .val (.int p1), .val (.int p2), .val (.int p3), .val (.ref b1), .val (.ref b3), .val (.ref b5), .val (.int (p2 &&& (3 : Int32))), .val (.ref b1), .val (.int (0 : Int32)), .val (.int (own_same b1 b1)), .unset, .unset] [(.ref b1), (.ref b5)])) rfl (by rw [hml]; rfl) (Steps.refl _) (argsL := [(.ref b1)]) (rest := []) (lenOf pd_3 rfl) rfl (by show 2 * 0 + _ ≤ _; exact Nat.le_of_eq rfl) (hb hby at_128) (fun _ _ => ⟨rfl, e21, (by decide : 0 + 1 + 1 + 1 + 1 + 1 + 0 + 0 + 0 ≤ _), (by decide : 0 + 2 + 3 + 2 + 3 + 1 + 0 + 0 + 0 ≤ _)⟩)
        dsimp only [Pt.U, Pt.locs, Pt.cells, Pt.slots] at X22 l22 y22 z22 st22 hQ22
        subst l22 y22 z22
        obtain ⟨rfl, N22q, e22⟩ := hQ22
        have N22 := Fr.app N21 N22q
        refine own_goS st22 ?_
        show own_Goes _ _ _ _ _ _ _ T22 (mkF m 131 #[.val (.int p0), .val (.int p1), .val (.int p2), .val (.int p3), .val (.ref b1), .val (.ref b3), .val (.ref b5), .val (.int (p2 &&& (3 : Int32))), .val (.ref b1), .val (.int (0 : Int32)), .val (.int (own_same b1 b1)), .unset, .unset] [(.int (0 : Int32))])
        refine own_go (fun _ k => XS.istore X22.here hx rfl (hb hby at_131) rfl (l' := #[.val (.int p0), .val (.int p1), .val (.int p2), .val (.int p3), .val (.ref b1), .val (.ref b3), .val (.ref b5), .val (.int (p2 &&& (3 : Int32))), .val (.ref b1), .val (.int (0 : Int32)), .val (.int (own_same b1 b1)), .val (.int (0 : Int32)), .unset]) rfl k) ?_
        show own_Goes _ _ _ _ _ _ _ T22 (mkF m 133 #[.val (.int p0), .val (.int p1), .val (.int p2), .val (.int p3), .val (.ref b1), .val (.ref b3), .val (.ref b5), .val (.int (p2 &&& (3 : Int32))), .val (.ref b1), .val (.int (0 : Int32)), .val (.int (own_same b1 b1)), .val (.int (0 : Int32)), .unset] [])
        refine own_go (fun _ k => XS.iload X22.here hx rfl (hb hby at_133) rfl k) ?_
        show own_Goes _ _ _ _ _ _ _ T22 (mkF m 135 #[.val (.int p0), .val (.int p1), .val (.int p2), .val (.int p3), .val (.ref b1), .val (.ref b3), .val (.ref b5), .val (.int (p2 &&& (3 : Int32))), .val (.ref b1), .val (.int (0 : Int32)), .val (.int (own_same b1 b1)), .val (.int (0 : Int32)), .unset] [(.int (0 : Int32))])
        refine own_go (fun _ k => XS.istore X22.here hx rfl (hb hby at_135) rfl (l' := #[.val (.int p0), .val (.int p1), .val (.int p2), .val (.int p3), .val (.ref b1), .val (.ref b3), .val (.ref b5), .val (.int (p2 &&& (3 : Int32))), .val (.ref b1), .val (.int (0 : Int32)), .val (.int (own_same b1 b1)), .val (.int (0 : Int32)), .val (.int (0 : Int32))]) rfl k) ?_
        show own_Goes _ _ _ _ _ _ _ T22 (mkF m 137 #[.val (.int p0), .val (.int p1), .val (.int p2), .val (.int p3), .val (.ref b1), .val (.ref b3), .val (.ref b5), .val (.int (p2 &&& (3 : Int32))), .val (.ref b1), .val (.int (0 : Int32)), .val (.int (own_same b1 b1)), .val (.int (0 : Int32)), .val (.int (0 : Int32))] [])
        refine own_go (fun _ k => XS.aload X22.here hx rfl (hb hby at_137) rfl rfl k) ?_
        show own_Goes _ _ _ _ _ _ _ T22 (mkF m 139 #[.val (.int p0), .val (.int p1), .val (.int p2), .val (.int p3), .val (.ref b1), .val (.ref b3), .val (.ref b5), .val (.int (p2 &&& (3 : Int32))), .val (.ref b1), .val (.int (0 : Int32)), .val (.int (own_same b1 b1)), .val (.int (0 : Int32)), .val (.int (0 : Int32))] [(.ref b1)])
        obtain ⟨T23, X23, e23, st23⟩ := instNo X22 hx hZ hown (hw _ (List.mem_of_getElem? (i := 37) rfl)) e22 E_b1_6 (own_nas (hw _ (List.mem_of_getElem? (i := 53) rfl)) (hw _ (List.mem_of_getElem? (i := 54) rfl)) (hw _ (List.mem_of_getElem? (i := 38) rfl)) (by decide) (by decide)) (g := (mkF m 139 #[.val (.int p0), .val (.int p1), .val (.int p2), .val (.int p3), .val (.ref b1), .val (.ref b3), .val (.ref b5), .val (.int (p2 &&& (3 : Int32))), .val (.ref b1), .val (.int (0 : Int32)), .val (.int (own_same b1 b1)), .val (.int (0 : Int32)), .val (.int (0 : Int32))] [(.ref b1)])) rfl rfl (hb hby at_139)
        refine own_go st23 ?_
        show own_Goes _ _ _ _ _ _ _ T23 (mkF m 142 #[.val (.int p0), .val (.int p1), .val (.int p2), .val (.int p3), .val (.ref b1), .val (.ref b3), .val (.ref b5), .val (.int (p2 &&& (3 : Int32))), .val (.ref b1), .val (.int (0 : Int32)), .val (.int (own_same b1 b1)), .val (.int (0 : Int32)), .val (.int (0 : Int32))] [(.int (0 : Int32))])
        refine own_go (fun _ k => XS.ifYes X23.here hx rfl (pc0 := 142) (pc' := 157) rfl (hb hby at_142) rfl ((if0 _ _).trans (teq (by decide : (0 : Int32) = (0 : Int32))).1) (by decide) (by decide) k) ?_
        show own_Goes _ _ _ _ _ _ _ T23 (mkF m 157 #[.val (.int p0), .val (.int p1), .val (.int p2), .val (.int p3), .val (.ref b1), .val (.ref b3), .val (.ref b5), .val (.int (p2 &&& (3 : Int32))), .val (.ref b1), .val (.int (0 : Int32)), .val (.int (own_same b1 b1)), .val (.int (0 : Int32)), .val (.int (0 : Int32))] [])
        refine own_go (fun _ k => XS.iload X23.here hx rfl (hb hby at_157) rfl k) ?_
        show own_Goes _ _ _ _ _ _ _ T23 (mkF m 159 #[.val (.int p0), .val (.int p1), .val (.int p2), .val (.int p3), .val (.ref b1), .val (.ref b3), .val (.ref b5), .val (.int (p2 &&& (3 : Int32))), .val (.ref b1), .val (.int (0 : Int32)), .val (.int (own_same b1 b1)), .val (.int (0 : Int32)), .val (.int (0 : Int32))] [(.int (own_same b1 b1))])
        refine own_go (fun _ k => XS.ifNo X23.here hx rfl (hb hby at_159) rfl ((if0 _ _).trans (feq (by rw [own_same_eq] <;> decide : ¬ ((own_same b1 b1) = (0 : Int32)))).1) k) ?_
        show own_Goes _ _ _ _ _ _ _ T23 (mkF m 162 #[.val (.int p0), .val (.int p1), .val (.int p2), .val (.int p3), .val (.ref b1), .val (.ref b3), .val (.ref b5), .val (.int (p2 &&& (3 : Int32))), .val (.ref b1), .val (.int (0 : Int32)), .val (.int (own_same b1 b1)), .val (.int (0 : Int32)), .val (.int (0 : Int32))] [])
        refine own_go (fun _ k => XS.iload X23.here hx rfl (hb hby at_162) rfl k) ?_
        show own_Goes _ _ _ _ _ _ _ T23 (mkF m 164 #[.val (.int p0), .val (.int p1), .val (.int p2), .val (.int p3), .val (.ref b1), .val (.ref b3), .val (.ref b5), .val (.int (p2 &&& (3 : Int32))), .val (.ref b1), .val (.int (0 : Int32)), .val (.int (own_same b1 b1)), .val (.int (0 : Int32)), .val (.int (0 : Int32))] [(.int (0 : Int32))])
        refine own_go (fun _ k => XS.iload X23.here hx rfl (hb hby at_164) rfl k) ?_
        show own_Goes _ _ _ _ _ _ _ T23 (mkF m 166 #[.val (.int p0), .val (.int p1), .val (.int p2), .val (.int p3), .val (.ref b1), .val (.ref b3), .val (.ref b5), .val (.int (p2 &&& (3 : Int32))), .val (.ref b1), .val (.int (0 : Int32)), .val (.int (own_same b1 b1)), .val (.int (0 : Int32)), .val (.int (0 : Int32))] [(.int (0 : Int32)), (.int (0 : Int32))])
        refine own_go (fun _ k => XS.icmpNo X23.here hx rfl (hb hby at_166) rfl (teq (by decide : (0 : Int32) = (0 : Int32))).2 k) ?_
        show own_Goes _ _ _ _ _ _ _ T23 (mkF m 169 #[.val (.int p0), .val (.int p1), .val (.int p2), .val (.int p3), .val (.ref b1), .val (.ref b3), .val (.ref b5), .val (.int (p2 &&& (3 : Int32))), .val (.ref b1), .val (.int (0 : Int32)), .val (.int (own_same b1 b1)), .val (.int (0 : Int32)), .val (.int (0 : Int32))] [])
        refine own_go (fun _ k => XS.iload X23.here hx rfl (hb hby at_169) rfl k) ?_
        show own_Goes _ _ _ _ _ _ _ T23 (mkF m 171 #[.val (.int p0), .val (.int p1), .val (.int p2), .val (.int p3), .val (.ref b1), .val (.ref b3), .val (.ref b5), .val (.int (p2 &&& (3 : Int32))), .val (.ref b1), .val (.int (0 : Int32)), .val (.int (own_same b1 b1)), .val (.int (0 : Int32)), .val (.int (0 : Int32))] [(.int (0 : Int32))])
        refine own_go (fun _ k => XS.iload X23.here hx rfl (hb hby at_171) rfl k) ?_
        show own_Goes _ _ _ _ _ _ _ T23 (mkF m 173 #[.val (.int p0), .val (.int p1), .val (.int p2), .val (.int p3), .val (.ref b1), .val (.ref b3), .val (.ref b5), .val (.int (p2 &&& (3 : Int32))), .val (.ref b1), .val (.int (0 : Int32)), .val (.int (own_same b1 b1)), .val (.int (0 : Int32)), .val (.int (0 : Int32))] [(.int (0 : Int32)), (.int (0 : Int32))])
        refine own_go (fun _ k => XS.icmpNo X23.here hx rfl (hb hby at_173) rfl (teq (by decide : (0 : Int32) = (0 : Int32))).2 k) ?_
        show own_Goes _ _ _ _ _ _ _ T23 (mkF m 176 #[.val (.int p0), .val (.int p1), .val (.int p2), .val (.int p3), .val (.ref b1), .val (.ref b3), .val (.ref b5), .val (.int (p2 &&& (3 : Int32))), .val (.ref b1), .val (.int (0 : Int32)), .val (.int (own_same b1 b1)), .val (.int (0 : Int32)), .val (.int (0 : Int32))] [])
        refine own_go (fun _ k => XS.iconst X23.here hx rfl (hb hby at_176) k) ?_
        show own_Goes _ _ _ _ _ _ _ T23 (mkF m 177 #[.val (.int p0), .val (.int p1), .val (.int p2), .val (.int p3), .val (.ref b1), .val (.ref b3), .val (.ref b5), .val (.int (p2 &&& (3 : Int32))), .val (.ref b1), .val (.int (0 : Int32)), .val (.int (own_same b1 b1)), .val (.int (0 : Int32)), .val (.int (0 : Int32))] [(.int (1 : Int32))])
        refine own_go (fun _ k => XS.goto X23.here hx rfl (pc0 := 177) (pc' := 181) rfl (hb hby at_177) (by decide) (by decide) k) ?_
        show own_Goes _ _ _ _ _ _ _ T23 (mkF m 181 #[.val (.int p0), .val (.int p1), .val (.int p2), .val (.int p3), .val (.ref b1), .val (.ref b3), .val (.ref b5), .val (.int (p2 &&& (3 : Int32))), .val (.ref b1), .val (.int (0 : Int32)), .val (.int (own_same b1 b1)), .val (.int (0 : Int32)), .val (.int (0 : Int32))] [(.int (1 : Int32))])
        exact own_retN X23 hx (t := .boolean) hlk hret (by simp) (hb hby at_181) (by decide) (by decide) ⟨rfl, N22⟩
      · refine own_go (fun _ k => XS.icmpYes X6.here hx rfl (pc0 := 96) (pc' := 109) rfl (hb hby at_96) rfl (feq hc96).2 (by decide) (by decide) k) ?_
        show own_Goes _ _ _ _ _ _ _ T6 (mkF m 109 #[.val (.int p0), .val (.int p1), .val (.int p2), .val (.int p3), .val (.ref b1), .val (.ref b3), .val (.ref b5), .val (.int (p2 &&& (3 : Int32))), .unset, .unset, .unset, .unset, .unset] [])
        refine own_go (fun _ k => XS.aconstNull X6.here hx rfl (hb hby at_109) k) ?_
        show own_Goes _ _ _ _ _ _ _ T6 (mkF m 110 #[.val (.int p0), .val (.int p1), .val (.int p2), .val (.int p3), .val (.ref b1), .val (.ref b3), .val (.ref b5), .val (.int (p2 &&& (3 : Int32))), .unset, .unset, .unset, .unset, .unset] [.null])
        refine own_go (fun _ k => XS.astore X6.here hx rfl (hb hby at_110) rfl rfl (l' := #[.val (.int p0), .val (.int p1), .val (.int p2), .val (.int p3), .val (.ref b1), .val (.ref b3), .val (.ref b5), .val (.int (p2 &&& (3 : Int32))), .val .null, .unset, .unset, .unset, .unset]) rfl k) ?_
        show own_Goes _ _ _ _ _ _ _ T6 (mkF m 112 #[.val (.int p0), .val (.int p1), .val (.int p2), .val (.int p3), .val (.ref b1), .val (.ref b3), .val (.ref b5), .val (.int (p2 &&& (3 : Int32))), .val .null, .unset, .unset, .unset, .unset] [])
        refine own_go (fun _ k => XS.iconst X6.here hx rfl (hb hby at_112) k) ?_
        show own_Goes _ _ _ _ _ _ _ T6 (mkF m 113 #[.val (.int p0), .val (.int p1), .val (.int p2), .val (.int p3), .val (.ref b1), .val (.ref b3), .val (.ref b5), .val (.int (p2 &&& (3 : Int32))), .val .null, .unset, .unset, .unset, .unset] [(.int (0 : Int32))])
        refine own_go (fun _ k => XS.istore X6.here hx rfl (hb hby at_113) rfl (l' := #[.val (.int p0), .val (.int p1), .val (.int p2), .val (.int p3), .val (.ref b1), .val (.ref b3), .val (.ref b5), .val (.int (p2 &&& (3 : Int32))), .val .null, .val (.int (0 : Int32)), .unset, .unset, .unset]) rfl k) ?_
        show own_Goes _ _ _ _ _ _ _ T6 (mkF m 115 #[.val (.int p0), .val (.int p1), .val (.int p2), .val (.int p3), .val (.ref b1), .val (.ref b3), .val (.ref b5), .val (.int (p2 &&& (3 : Int32))), .val .null, .val (.int (0 : Int32)), .unset, .unset, .unset] [])
        refine own_go (fun _ k => XS.aload X6.here hx rfl (hb hby at_115) rfl rfl k) ?_
        show own_Goes _ _ _ _ _ _ _ T6 (mkF m 117 #[.val (.int p0), .val (.int p1), .val (.int p2), .val (.int p3), .val (.ref b1), .val (.ref b3), .val (.ref b5), .val (.int (p2 &&& (3 : Int32))), .val .null, .val (.int (0 : Int32)), .unset, .unset, .unset] [(.ref b5)])
        refine own_go (fun _ k => XS.aload X6.here hx rfl (hb hby at_117) rfl rfl k) ?_
        show own_Goes _ _ _ _ _ _ _ T6 (mkF m 119 #[.val (.int p0), .val (.int p1), .val (.int p2), .val (.int p3), .val (.ref b1), .val (.ref b3), .val (.ref b5), .val (.int (p2 &&& (3 : Int32))), .val .null, .val (.int (0 : Int32)), .unset, .unset, .unset] [(.ref b5), (.ref b5)])
        obtain ⟨cq24, kq24, zq24a, zq24b, zq24c⟩ := isOf hZ rfl E_b5_6
        obtain ⟨_, _, ⟨T24, L24, k24, n24⟩, -, X24, ⟨Lc24, hQ24, l24, y24, z24⟩, st24⟩ := X6.virtualBack hx (y := (⟨"com/example/treellis/treellis/cpa/location/LocationState", "equals", "(Ljava/lang/Object;)Z"⟩ : MethodName)) (z := (⟨"com/example/treellis/treellis/cpa/location/LocationState", "equals", "(Ljava/lang/Object;)Z"⟩ : MethodName)) hown (mvT hZ (hw _ (List.mem_of_getElem? (i := 46) rfl))) (mvT hZ (hw _ (List.mem_of_getElem? (i := 47) rfl))) (notFace_of_selects (args := #[]) (mvT hZ (hw _ (List.mem_of_getElem? (i := 49) rfl)))) (mvT hZ (hw _ (List.mem_of_getElem? (i := 49) rfl))) (mvT hZ (hw _ (List.mem_of_getElem? (i := 48) rfl))) (by decide) (backOf (W := 0) (rmL l Z a0 hw [] b5 b5 b1 b1 T6.heap n0 Zs6 E_b5_6 E_b5_6 F6 F6) hZ (hw _ (List.mem_of_getElem? (i := 50) rfl)) (hw _ (List.mem_of_getElem? (i := 39) rfl)) (by decide) (by decide)) zq24a zq24c (g := (mkF m 119 #[.val (.int p0), .val (.int p1), .val (.int p2), .val (.int p3), .val (.ref b1), .val (.ref b3), .val (.ref b5), .val (.int (p2 &&& (3 : Int32))), .val .null, .val (.int (0 : Int32)), .unset, .unset, .unset] [(.ref b5), (.ref b5)])) rfl (by rw [hml]; rfl) (Steps.refl _) (argsL := [(.ref b5)]) (rest := []) (lenOf pd_3 rfl) rfl (by show 2 * 0 + _ ≤ _; exact Nat.le_of_eq rfl) (hb hby at_119) (fun _ _ => ⟨rfl, rfl, (by decide : 0 + 1 + 1 + 1 + 1 + 1 + 0 + 0 ≤ _), (by decide : 0 + 2 + 3 + 2 + 3 + 1 + 0 + 0 ≤ _)⟩)
        dsimp only [Pt.U, Pt.locs, Pt.cells, Pt.slots] at X24 l24 y24 z24 st24 hQ24
        subst l24 y24 z24
        obtain ⟨rfl, N24q, e24⟩ := hQ24
        have N24 := Fr.app N6 N24q
        refine own_goS st24 ?_
        show own_Goes _ _ _ _ _ _ _ T24 (mkF m 122 #[.val (.int p0), .val (.int p1), .val (.int p2), .val (.int p3), .val (.ref b1), .val (.ref b3), .val (.ref b5), .val (.int (p2 &&& (3 : Int32))), .val .null, .val (.int (0 : Int32)), .unset, .unset, .unset] [(.int (own_same b1 b1))])
        refine own_go (fun _ k => XS.istore X24.here hx rfl (hb hby at_122) rfl (l' := #[.val (.int p0), .val (.int p1), .val (.int p2), .val (.int p3), .val (.ref b1), .val (.ref b3), .val (.ref b5), .val (.int (p2 &&& (3 : Int32))), .val .null, .val (.int (0 : Int32)), .val (.int (own_same b1 b1)), .unset, .unset]) rfl k) ?_
        show own_Goes _ _ _ _ _ _ _ T24 (mkF m 124 #[.val (.int p0), .val (.int p1), .val (.int p2), .val (.int p3), .val (.ref b1), .val (.ref b3), .val (.ref b5), .val (.int (p2 &&& (3 : Int32))), .val .null, .val (.int (0 : Int32)), .val (.int (own_same b1 b1)), .unset, .unset] [])
        refine own_go (fun _ k => XS.aload X24.here hx rfl (hb hby at_124) rfl rfl k) ?_
        show own_Goes _ _ _ _ _ _ _ T24 (mkF m 126 #[.val (.int p0), .val (.int p1), .val (.int p2), .val (.int p3), .val (.ref b1), .val (.ref b3), .val (.ref b5), .val (.int (p2 &&& (3 : Int32))), .val .null, .val (.int (0 : Int32)), .val (.int (own_same b1 b1)), .unset, .unset] [(.ref b5)])
        refine own_go (fun _ k => XS.aload X24.here hx rfl (hb hby at_126) rfl rfl k) ?_
        show own_Goes _ _ _ _ _ _ _ T24 (mkF m 128 #[.val (.int p0), .val (.int p1), .val (.int p2), .val (.int p3), .val (.ref b1), .val (.ref b3), .val (.ref b5), .val (.int (p2 &&& (3 : Int32))), .val .null, .val (.int (0 : Int32)), .val (.int (own_same b1 b1)), .unset, .unset] [.null, (.ref b5)])
        obtain ⟨cq25, kq25, zq25a, zq25b, zq25c⟩ := isOf hZ e24 E_b5_6
        obtain ⟨_, _, ⟨T25, L25, k25, n25⟩, -, X25, ⟨Lc25, hQ25, l25, y25, z25⟩, st25⟩ := X24.virtualBack hx (y := (⟨"com/example/treellis/treellis/cpa/location/LocationState", "equals", "(Ljava/lang/Object;)Z"⟩ : MethodName)) (z := (⟨"com/example/treellis/treellis/cpa/location/LocationState", "equals", "(Ljava/lang/Object;)Z"⟩ : MethodName)) hown (mvT hZ (hw _ (List.mem_of_getElem? (i := 46) rfl))) (mvT hZ (hw _ (List.mem_of_getElem? (i := 47) rfl))) (notFace_of_selects (args := #[]) (mvT hZ (hw _ (List.mem_of_getElem? (i := 49) rfl)))) (mvT hZ (hw _ (List.mem_of_getElem? (i := 49) rfl))) (mvT hZ (hw _ (List.mem_of_getElem? (i := 48) rfl))) (by decide) (backOf (W := 0) (rmN l Z a0 hw [] b5 T6.heap n0 Zs6) hZ (hw _ (List.mem_of_getElem? (i := 50) rfl)) (hw _ (List.mem_of_getElem? (i := 39) rfl)) (by decide) (by decide)) zq25a zq25c (g := (mkF m 128 #[.val (.int p0), .val (.int p1), .val (.int p2), .val (.int p3), .val (.ref b1), .val (.ref b3), .val (.ref b5), .val (.int (p2 &&& (3 : Int32))), .val .null, .val (.int (0 : Int32)), .val (.int (own_same b1 b1)), .unset, .unset] [.null, (.ref b5)])) rfl (by rw [hml]; rfl) (Steps.refl _) (argsL := [.null]) (rest := []) (lenOf pd_3 rfl) rfl (by show 2 * 0 + _ ≤ _; exact Nat.le_of_eq rfl) (hb hby at_128) (fun _ _ => ⟨rfl, e24, (by decide : 0 + 1 + 1 + 1 + 1 + 1 + 0 + 0 + 0 ≤ _), (by decide : 0 + 2 + 3 + 2 + 3 + 1 + 0 + 0 + 0 ≤ _)⟩)
        dsimp only [Pt.U, Pt.locs, Pt.cells, Pt.slots] at X25 l25 y25 z25 st25 hQ25
        subst l25 y25 z25
        obtain ⟨rfl, N25q, e25⟩ := hQ25
        have N25 := Fr.app N24 N25q
        refine own_goS st25 ?_
        show own_Goes _ _ _ _ _ _ _ T25 (mkF m 131 #[.val (.int p0), .val (.int p1), .val (.int p2), .val (.int p3), .val (.ref b1), .val (.ref b3), .val (.ref b5), .val (.int (p2 &&& (3 : Int32))), .val .null, .val (.int (0 : Int32)), .val (.int (own_same b1 b1)), .unset, .unset] [(.int (0 : Int32))])
        refine own_go (fun _ k => XS.istore X25.here hx rfl (hb hby at_131) rfl (l' := #[.val (.int p0), .val (.int p1), .val (.int p2), .val (.int p3), .val (.ref b1), .val (.ref b3), .val (.ref b5), .val (.int (p2 &&& (3 : Int32))), .val .null, .val (.int (0 : Int32)), .val (.int (own_same b1 b1)), .val (.int (0 : Int32)), .unset]) rfl k) ?_
        show own_Goes _ _ _ _ _ _ _ T25 (mkF m 133 #[.val (.int p0), .val (.int p1), .val (.int p2), .val (.int p3), .val (.ref b1), .val (.ref b3), .val (.ref b5), .val (.int (p2 &&& (3 : Int32))), .val .null, .val (.int (0 : Int32)), .val (.int (own_same b1 b1)), .val (.int (0 : Int32)), .unset] [])
        refine own_go (fun _ k => XS.iload X25.here hx rfl (hb hby at_133) rfl k) ?_
        show own_Goes _ _ _ _ _ _ _ T25 (mkF m 135 #[.val (.int p0), .val (.int p1), .val (.int p2), .val (.int p3), .val (.ref b1), .val (.ref b3), .val (.ref b5), .val (.int (p2 &&& (3 : Int32))), .val .null, .val (.int (0 : Int32)), .val (.int (own_same b1 b1)), .val (.int (0 : Int32)), .unset] [(.int (0 : Int32))])
        refine own_go (fun _ k => XS.istore X25.here hx rfl (hb hby at_135) rfl (l' := #[.val (.int p0), .val (.int p1), .val (.int p2), .val (.int p3), .val (.ref b1), .val (.ref b3), .val (.ref b5), .val (.int (p2 &&& (3 : Int32))), .val .null, .val (.int (0 : Int32)), .val (.int (own_same b1 b1)), .val (.int (0 : Int32)), .val (.int (0 : Int32))]) rfl k) ?_
        show own_Goes _ _ _ _ _ _ _ T25 (mkF m 137 #[.val (.int p0), .val (.int p1), .val (.int p2), .val (.int p3), .val (.ref b1), .val (.ref b3), .val (.ref b5), .val (.int (p2 &&& (3 : Int32))), .val .null, .val (.int (0 : Int32)), .val (.int (own_same b1 b1)), .val (.int (0 : Int32)), .val (.int (0 : Int32))] [])
        refine own_go (fun _ k => XS.aload X25.here hx rfl (hb hby at_137) rfl rfl k) ?_
        show own_Goes _ _ _ _ _ _ _ T25 (mkF m 139 #[.val (.int p0), .val (.int p1), .val (.int p2), .val (.int p3), .val (.ref b1), .val (.ref b3), .val (.ref b5), .val (.int (p2 &&& (3 : Int32))), .val .null, .val (.int (0 : Int32)), .val (.int (own_same b1 b1)), .val (.int (0 : Int32)), .val (.int (0 : Int32))] [.null])
        refine own_go (fun t k => X25.instanceofNull hx (g := (mkF m 139 #[.val (.int p0), .val (.int p1), .val (.int p2), .val (.int p3), .val (.ref b1), .val (.ref b3), .val (.ref b5), .val (.int (p2 &&& (3 : Int32))), .val .null, .val (.int (0 : Int32)), .val (.int (own_same b1 b1)), .val (.int (0 : Int32)), .val (.int (0 : Int32))] [.null])) rfl rfl (hb hby at_139) t k) ?_
        show own_Goes _ _ _ _ _ _ _ T25 (mkF m 142 #[.val (.int p0), .val (.int p1), .val (.int p2), .val (.int p3), .val (.ref b1), .val (.ref b3), .val (.ref b5), .val (.int (p2 &&& (3 : Int32))), .val .null, .val (.int (0 : Int32)), .val (.int (own_same b1 b1)), .val (.int (0 : Int32)), .val (.int (0 : Int32))] [(.int (0 : Int32))])
        refine own_go (fun _ k => XS.ifYes X25.here hx rfl (pc0 := 142) (pc' := 157) rfl (hb hby at_142) rfl ((if0 _ _).trans (teq (by decide : (0 : Int32) = (0 : Int32))).1) (by decide) (by decide) k) ?_
        show own_Goes _ _ _ _ _ _ _ T25 (mkF m 157 #[.val (.int p0), .val (.int p1), .val (.int p2), .val (.int p3), .val (.ref b1), .val (.ref b3), .val (.ref b5), .val (.int (p2 &&& (3 : Int32))), .val .null, .val (.int (0 : Int32)), .val (.int (own_same b1 b1)), .val (.int (0 : Int32)), .val (.int (0 : Int32))] [])
        refine own_go (fun _ k => XS.iload X25.here hx rfl (hb hby at_157) rfl k) ?_
        show own_Goes _ _ _ _ _ _ _ T25 (mkF m 159 #[.val (.int p0), .val (.int p1), .val (.int p2), .val (.int p3), .val (.ref b1), .val (.ref b3), .val (.ref b5), .val (.int (p2 &&& (3 : Int32))), .val .null, .val (.int (0 : Int32)), .val (.int (own_same b1 b1)), .val (.int (0 : Int32)), .val (.int (0 : Int32))] [(.int (own_same b1 b1))])
        refine own_go (fun _ k => XS.ifNo X25.here hx rfl (hb hby at_159) rfl ((if0 _ _).trans (feq (by rw [own_same_eq] <;> decide : ¬ ((own_same b1 b1) = (0 : Int32)))).1) k) ?_
        show own_Goes _ _ _ _ _ _ _ T25 (mkF m 162 #[.val (.int p0), .val (.int p1), .val (.int p2), .val (.int p3), .val (.ref b1), .val (.ref b3), .val (.ref b5), .val (.int (p2 &&& (3 : Int32))), .val .null, .val (.int (0 : Int32)), .val (.int (own_same b1 b1)), .val (.int (0 : Int32)), .val (.int (0 : Int32))] [])
        refine own_go (fun _ k => XS.iload X25.here hx rfl (hb hby at_162) rfl k) ?_
        show own_Goes _ _ _ _ _ _ _ T25 (mkF m 164 #[.val (.int p0), .val (.int p1), .val (.int p2), .val (.int p3), .val (.ref b1), .val (.ref b3), .val (.ref b5), .val (.int (p2 &&& (3 : Int32))), .val .null, .val (.int (0 : Int32)), .val (.int (own_same b1 b1)), .val (.int (0 : Int32)), .val (.int (0 : Int32))] [(.int (0 : Int32))])
        refine own_go (fun _ k => XS.iload X25.here hx rfl (hb hby at_164) rfl k) ?_
        show own_Goes _ _ _ _ _ _ _ T25 (mkF m 166 #[.val (.int p0), .val (.int p1), .val (.int p2), .val (.int p3), .val (.ref b1), .val (.ref b3), .val (.ref b5), .val (.int (p2 &&& (3 : Int32))), .val .null, .val (.int (0 : Int32)), .val (.int (own_same b1 b1)), .val (.int (0 : Int32)), .val (.int (0 : Int32))] [(.int (0 : Int32)), (.int (0 : Int32))])
        refine own_go (fun _ k => XS.icmpNo X25.here hx rfl (hb hby at_166) rfl (teq (by decide : (0 : Int32) = (0 : Int32))).2 k) ?_
        show own_Goes _ _ _ _ _ _ _ T25 (mkF m 169 #[.val (.int p0), .val (.int p1), .val (.int p2), .val (.int p3), .val (.ref b1), .val (.ref b3), .val (.ref b5), .val (.int (p2 &&& (3 : Int32))), .val .null, .val (.int (0 : Int32)), .val (.int (own_same b1 b1)), .val (.int (0 : Int32)), .val (.int (0 : Int32))] [])
        refine own_go (fun _ k => XS.iload X25.here hx rfl (hb hby at_169) rfl k) ?_
        show own_Goes _ _ _ _ _ _ _ T25 (mkF m 171 #[.val (.int p0), .val (.int p1), .val (.int p2), .val (.int p3), .val (.ref b1), .val (.ref b3), .val (.ref b5), .val (.int (p2 &&& (3 : Int32))), .val .null, .val (.int (0 : Int32)), .val (.int (own_same b1 b1)), .val (.int (0 : Int32)), .val (.int (0 : Int32))] [(.int (0 : Int32))])
        refine own_go (fun _ k => XS.iload X25.here hx rfl (hb hby at_171) rfl k) ?_
        show own_Goes _ _ _ _ _ _ _ T25 (mkF m 173 #[.val (.int p0), .val (.int p1), .val (.int p2), .val (.int p3), .val (.ref b1), .val (.ref b3), .val (.ref b5), .val (.int (p2 &&& (3 : Int32))), .val .null, .val (.int (0 : Int32)), .val (.int (own_same b1 b1)), .val (.int (0 : Int32)), .val (.int (0 : Int32))] [(.int (0 : Int32)), (.int (0 : Int32))])
        refine own_go (fun _ k => XS.icmpNo X25.here hx rfl (hb hby at_173) rfl (teq (by decide : (0 : Int32) = (0 : Int32))).2 k) ?_
        show own_Goes _ _ _ _ _ _ _ T25 (mkF m 176 #[.val (.int p0), .val (.int p1), .val (.int p2), .val (.int p3), .val (.ref b1), .val (.ref b3), .val (.ref b5), .val (.int (p2 &&& (3 : Int32))), .val .null, .val (.int (0 : Int32)), .val (.int (own_same b1 b1)), .val (.int (0 : Int32)), .val (.int (0 : Int32))] [])
        refine own_go (fun _ k => XS.iconst X25.here hx rfl (hb hby at_176) k) ?_
        show own_Goes _ _ _ _ _ _ _ T25 (mkF m 177 #[.val (.int p0), .val (.int p1), .val (.int p2), .val (.int p3), .val (.ref b1), .val (.ref b3), .val (.ref b5), .val (.int (p2 &&& (3 : Int32))), .val .null, .val (.int (0 : Int32)), .val (.int (own_same b1 b1)), .val (.int (0 : Int32)), .val (.int (0 : Int32))] [(.int (1 : Int32))])
        refine own_go (fun _ k => XS.goto X25.here hx rfl (pc0 := 177) (pc' := 181) rfl (hb hby at_177) (by decide) (by decide) k) ?_
        show own_Goes _ _ _ _ _ _ _ T25 (mkF m 181 #[.val (.int p0), .val (.int p1), .val (.int p2), .val (.int p3), .val (.ref b1), .val (.ref b3), .val (.ref b5), .val (.int (p2 &&& (3 : Int32))), .val .null, .val (.int (0 : Int32)), .val (.int (own_same b1 b1)), .val (.int (0 : Int32)), .val (.int (0 : Int32))] [(.int (1 : Int32))])
        exact own_retN X25 hx (t := .boolean) hlk hret (by simp) (hb hby at_181) (by decide) (by decide) ⟨rfl, N25⟩
def Q_rm0 (Z : State) (h0 : Heap) (n0 : Nat)  (v : Option Value) (h : Heap) (L : List Loc) : Prop := v = some (.int 1) ∧ Fr n0 L
set_option maxRecDepth 65536 in
set_option maxHeartbeats 40000000 in
theorem rm0 (l : Launch) (Z : State) (a0 : Array Value) (hw : ∀ d ∈ tables_1, d.before a0 Z = true) (ws : List Jvm.Cond) (p0 p1 p2 : Int32) (aD : Addr) (h0 : Heap) (n0 : Nat) (Z0 : n0 ≤ h0.size) (SD : Sta Z Z.heap "java/util/ArrayList" "DEFAULTCAPACITY_EMPTY_ELEMENTDATA" "[Ljava/lang/Object;" (.ref aD)) (Od0 : Old Z n0 h0) :
    MetFree l x (head1 (Jvm.Cond.code x code maxLocals ret :: ws) room_1) (fun a U => a = #[(.int p0), (.int p1), (.int p2)] ∧ Z.Warmed39 U.vm ∧ U.heap = h0) (fun _ _ _ _ _ => True) (fun _ U o U' => ∃ rv rL, o = .returned rv ∧ Q_rm0 Z h0 n0  rv U'.heap rL ∧ FrameEnd U o U' rL room_1.cells room_1.slots) := by
  refine own_met (y := x) (Q := Q_rm0 Z h0 n0 ) (own := "com/example/treellis/treellis/cpa/location/LocationStateEqualsPinLaw") rfl pn_0 ?_
  intro p e s m below meth c s₁ C e0 X0
  obtain ⟨hx, hby, hml, hown, hnm, hret, hlk, hZ⟩ := C
  have N0 := Fr.nil n0
  rw [ef_0]
  show own_Goes _ _ _ _ _ _ _ s₁ (mkF m 0 #[.val (.int p0), .val (.int p1), .val (.int p2), .unset, .unset, .unset, .unset, .unset, .unset, .unset, .unset, .unset, .unset] [])
  refine own_go (fun _ k => XS.iloadN X0.here hx rfl (hb hby at_0) rfl k) ?_
  show own_Goes _ _ _ _ _ _ _ s₁ (mkF m 1 #[.val (.int p0), .val (.int p1), .val (.int p2), .unset, .unset, .unset, .unset, .unset, .unset, .unset, .unset, .unset, .unset] [(.int p2)])
  refine own_go (fun _ k => XS.iconst X0.here hx rfl (hb hby at_1) k) ?_
  show own_Goes _ _ _ _ _ _ _ s₁ (mkF m 2 #[.val (.int p0), .val (.int p1), .val (.int p2), .unset, .unset, .unset, .unset, .unset, .unset, .unset, .unset, .unset, .unset] [(.int (4 : Int32)), (.int p2)])
  refine own_go (fun _ k => XS.iand X0.here hx rfl (hb hby at_2) rfl k) ?_
  show own_Goes _ _ _ _ _ _ _ s₁ (mkF m 3 #[.val (.int p0), .val (.int p1), .val (.int p2), .unset, .unset, .unset, .unset, .unset, .unset, .unset, .unset, .unset, .unset] [(.int (p2 &&& (4 : Int32)))])
  by_cases hc3 : (p2 &&& (4 : Int32)) = (0 : Int32)
  · refine own_go (fun _ k => XS.ifYes X0.here hx rfl (pc0 := 3) (pc' := 10) rfl (hb hby at_3) rfl ((if0 _ _).trans (teq hc3).1) (by decide) (by decide) k) ?_
    show own_Goes _ _ _ _ _ _ _ s₁ (mkF m 10 #[.val (.int p0), .val (.int p1), .val (.int p2), .unset, .unset, .unset, .unset, .unset, .unset, .unset, .unset, .unset, .unset] [])
    refine own_go (fun _ k => XS.iloadN X0.here hx rfl (hb hby at_10) rfl k) ?_
    show own_Goes _ _ _ _ _ _ _ s₁ (mkF m 11 #[.val (.int p0), .val (.int p1), .val (.int p2), .unset, .unset, .unset, .unset, .unset, .unset, .unset, .unset, .unset, .unset] [(.int p1)])
    refine own_go (fun _ k => XS.istoreN X0.here hx rfl (hb hby at_11) rfl (l' := #[.val (.int p0), .val (.int p1), .val (.int p2), .val (.int p1), .unset, .unset, .unset, .unset, .unset, .unset, .unset, .unset, .unset]) rfl k) ?_
    show own_Goes _ _ _ _ _ _ _ s₁ (mkF m 12 #[.val (.int p0), .val (.int p1), .val (.int p2), .val (.int p1), .unset, .unset, .unset, .unset, .unset, .unset, .unset, .unset, .unset] [])
    exact seg12 p0 p1 p2 p1 aD hw ⟨hx, hby, hml, hown, hnm, hret, hlk, hZ⟩ X0 e0 n0 Z0 N0 SD Od0
  · refine own_go (fun _ k => XS.ifNo X0.here hx rfl (hb hby at_3) rfl ((if0 _ _).trans (feq hc3).1) k) ?_
    show own_Goes _ _ _ _ _ _ _ s₁ (mkF m 6 #[.val (.int p0), .val (.int p1), .val (.int p2), .unset, .unset, .unset, .unset, .unset, .unset, .unset, .unset, .unset, .unset] [])
    refine own_go (fun _ k => XS.iloadN X0.here hx rfl (hb hby at_6) rfl k) ?_
    show own_Goes _ _ _ _ _ _ _ s₁ (mkF m 7 #[.val (.int p0), .val (.int p1), .val (.int p2), .unset, .unset, .unset, .unset, .unset, .unset, .unset, .unset, .unset, .unset] [(.int p0)])
    refine own_go (fun _ k => XS.goto X0.here hx rfl (pc0 := 7) (pc' := 11) rfl (hb hby at_7) (by decide) (by decide) k) ?_
    show own_Goes _ _ _ _ _ _ _ s₁ (mkF m 11 #[.val (.int p0), .val (.int p1), .val (.int p2), .unset, .unset, .unset, .unset, .unset, .unset, .unset, .unset, .unset, .unset] [(.int p0)])
    refine own_go (fun _ k => XS.istoreN X0.here hx rfl (hb hby at_11) rfl (l' := #[.val (.int p0), .val (.int p1), .val (.int p2), .val (.int p0), .unset, .unset, .unset, .unset, .unset, .unset, .unset, .unset, .unset]) rfl k) ?_
    show own_Goes _ _ _ _ _ _ _ s₁ (mkF m 12 #[.val (.int p0), .val (.int p1), .val (.int p2), .val (.int p0), .unset, .unset, .unset, .unset, .unset, .unset, .unset, .unset, .unset] [])
    exact seg12 p0 p1 p2 p0 aD hw ⟨hx, hby, hml, hown, hnm, hret, hlk, hZ⟩ X0 e0 n0 Z0 N0 SD Od0
set_option maxRecDepth 65536 in
set_option maxHeartbeats 40000000 in
theorem comes_1 {Post : Tables → Env → Array Value → State → Outcome → State → Prop} (hpost : ∀ tb e args s v u, (limb_1_1.after args s (.returned v) u = true ∧ limb_1_2.after args s (.returned v) u = true ∧ True) → FrameEnd s (.returned v) u (Jvm.fieldLocs frame_1_writes args s ++ Jvm.arrayLocs frame_1_arrays args s ++ Jvm.staticLocs frame_1_statics s) 24 128 → Post tb e args s (.returned v) u) :
    ArmFor flags0 classFile x code maxLocals ret World_1 tables_1 room_1 Calls_1 rest_1 Pre_1 Post := by
  intro l hfl _ _ p e ha hc hk s m args below hf hA hF happ hP
  obtain ⟨hcalls, hrest, hpre⟩ := hP
  obtain ⟨-, -, -, hnamed, -, -, -, hat⟩ := (Spec.applies_iff hf).mp happ
  obtain ⟨hg, hn⟩ := and_e (Cond.before_iff.mp (show (Jvm.Cond.and given_1 narrow_1).before args s = true from hpre))
  obtain ⟨g0, gr0⟩ := and_e hg
  obtain ⟨ga0, gr1⟩ := and_e gr0
  obtain ⟨ga1, gr2⟩ := and_e gr1
  have ga2 := gr2
  obtain ⟨w0, w1, w2, rfl⟩ : ∃ w0 w1 w2 : Value, args = #[w0, w1, w2] := by
    have hs : args.size = 3 := by simpa [Cond.value, given_1] using g0
    obtain ⟨L⟩ := args
    match L, hs with
    | [w0, w1, w2], _ => exact ⟨w0, w1, w2, rfl⟩
  have hw := fun d (hd : d ∈ tables_1) => atoms_spec (ws := Jvm.Cond.code x code maxLocals ret :: tables_1) hat d (List.mem_cons_of_mem _ hd)
  have hfit : Fit s := fun {y c} hc i hi => by
    obtain ⟨ha, rfl⟩ := Array.getElem?_eq_some_iff.mp hc
    have q := List.all_eq_true.mp ((Array.all_eq_true_iff_forall_mem.mp hF) _ (Array.getElem_mem ha)) i (List.mem_range.mpr hi)
    simpa [Array.getElem?_eq_getElem hi] using q
  obtain ⟨i0, ei0⟩ := is_v ga0
  obtain rfl : w0 = (.int i0) := Option.some.inj ei0
  obtain ⟨i1, ei1⟩ := is_v ga1
  obtain rfl : w1 = (.int i1) := Option.some.inj ei1
  obtain ⟨i2, ei2⟩ := is_v ga2
  obtain rfl : w2 = (.int i2) := Option.some.inj ei2
  have hsets := (atoms_of jdkStatics_1 (rest_1_c_eq ▸ (show rest_1_c.before _ s = true from hrest))).1
  obtain ⟨aD, vD⟩ := exa_v (Cond.before_iff.mp (hsets _ (List.mem_of_getElem? (i := 7) rfl)))
  have SD := Sta.start vD (Or.inr ⟨(hw _ (List.mem_of_getElem? (i := 11) rfl)), hsets _ (List.mem_of_getElem? (i := 2) rfl)⟩)
  obtain ⟨n, o, h1, h2, h3, _, L, rfl, ⟨rfl, N⟩, hq⟩ := rm0 l s _ hw tables_1 i0 i1 i2 aD s.heap s.heap.size (Nat.le_refl _) SD (Old.start s) p e ha hc hk s m _ below hf ((Spec.applies_iff_loose hf).mp happ).1 ⟨rfl, State.Warmed39.refl s, rfl⟩ trivial
  refine ⟨n, _, h1, h2, h3, hpost _ _ _ _ _ _ ⟨Cond.after_iff.mpr rfl, Cond.after_iff.mpr (eq_i res_at (Term.int_eval (1)) rfl), trivial⟩ ⟨hq.1, hq.2.1, (hq.2.2.sift fun y hy => Or.inr (N y hy)).mono (by decide) (by decide)⟩⟩
theorem main_1_1 : Claimed_1_1 := comes_1 fun _ _ _ _ _ _ h hF => ⟨h.1, hF⟩
theorem main_1_2 : Claimed_1_2 := comes_1 fun _ _ _ _ _ _ h hF => ⟨h.2.1, hF⟩
end Jvm.Pilot.@@N@@
namespace Jvm.Pilot.@@N@@
open Jvm Jvm.ClassFile Sem Op Lib Jvm.Free Jvm.Stand Jvm.Pilot.@@N@@.Jvm.D
/-! MADE BY PROGRAM (witnessworld.py) out of the Statement's table words and the real class files: 21 classes; the members and pool entries that the words name. The judged class is class 1, her method 1. -/
namespace start1
open Jvm.ClassFile
def u (s : String) : CpInfo := .utf8 (stringToUtf16 s)
/-- a pool by its gaps: so many unusable entries, then the entry; so many at the end -/
def gap : Nat → List CpInfo → List CpInfo
  | 0, r => r
  | n + 1, r => .unusable :: gap n r
def poolList (es : List (Nat × CpInfo)) (last : Nat) : List CpInfo := es.foldr (fun e r => gap e.1 (e.2 :: r)) (gap last [])
def pool (es : List (Nat × CpInfo)) (last : Nat) : Array CpInfo := ⟨poolList es last⟩
def fileOf (pool : Array CpInfo) (this : Nat) (attrs : Array Attribute := #[]) (ms : Array MethodInfo := #[]) (fl : Nat := 33) (sup : Nat := 0) (ifs : Array Nat := #[]) (fds : Array FieldInfo := #[]) : ClassFile where
  minorVersion := 0
  majorVersion := 65
  constantPool := pool
  accessFlags := fl
  thisClass := this
  superClass := sup
  interfaces := ifs
  fields := fds
  methods := ms
  attributes := attrs
def plain (name : String) (sup : Option ClassId) : Class where
  name := name
  kind := .ordinary
  loader := none
  accessFlags := 33
  super := sup
  interfaces := #[]
  cf := none
  fields := #[]
  methods := #[]
  instanceTypes := #[]
  staticTypes := #[]
  resolved := #[]
  callSites := []
  init := .initialized
  statics := none
  mirror := none

def pool0 : Array CpInfo := pool [(5, u "<init>"), (0, u "()V"), (1, .class_ 10), (1, u "java/lang/Object")] 113

def k0c0 : Code := { maxStack := 0, maxLocals := 1, code := object_method_1_code, exceptionTable := #[], attributes := #[] }
def k0m0 : Method := { name := "<init>", desc := "()V", sig := { parameters := [], returnType := none }, accessFlags := 1, code := some k0c0 }
/-- java/lang/Object -/
def k0 : Class := { plain "java/lang/Object" none with
  accessFlags := 33
  interfaces := #[]
  cf := some (fileOf pool0 8 #[] #[{ accessFlags := 1, nameIndex := 5, descriptorIndex := 6, attributes := #[] }] 33 0 #[] #[])
  fields := #[]
  methods := #[k0m0]
  instanceTypes := #[]
  staticTypes := #[]
  resolved := Array.replicate 124 none
  statics := none }

def pool1 : Array CpInfo := pool [(2, .class_ 4), (1, u "java/lang/Object"), (0, u "<init>"), (0, u "()V"), (0, .class_ 8), (0, u "com/example/treellis/treellis/cfa/CfaNode"), (0, .methodref 7 10), (0, .nameAndType 5 11), (0, u "(I)V"), (0, .class_ 13), (0, u "com/example/treellis/treellis/cpa/location/LocationState"), (0, .methodref 12 15), (0, .nameAndType 5 16), (0, u "(Lcom/example/treellis/treellis/cfa/CfaNode;)V"), (0, .methodref 12 18), (0, .nameAndType 19 20), (0, u "equals"), (0, u "(Ljava/lang/Object;)Z"), (0, .class_ 22), (0, u "com/example/treellis/treellis/cpa/location/LocationStateEqualsPinLaw"), (2, u "law"), (0, u "(III)Z")] 3

def k1m0 : Method := { name := "<init>", desc := "()V", sig := { parameters := [], returnType := none }, accessFlags := 1, code := none }
def k1c1 : Code := { maxStack := 3, maxLocals := 13, code := code, exceptionTable := #[], attributes := #[] }
def k1m1 : Method := { name := "law", desc := "(III)Z", sig := { parameters := [.int, .int, .int], returnType := some .boolean }, accessFlags := 9, code := some k1c1 }
/-- com/example/treellis/treellis/cpa/location/LocationStateEqualsPinLaw -/
def k1 : Class := { plain "com/example/treellis/treellis/cpa/location/LocationStateEqualsPinLaw" (some 0) with
  accessFlags := 49
  interfaces := #[]
  cf := some (fileOf pool1 21 #[] #[{ accessFlags := 1, nameIndex := 5, descriptorIndex := 6, attributes := #[] }, { accessFlags := 9, nameIndex := 25, descriptorIndex := 26, attributes := #[] }] 49 2 #[] #[])
  fields := #[]
  methods := #[k1m0, k1m1]
  instanceTypes := #[]
  staticTypes := #[]
  resolved := Array.replicate 30 none
  statics := none }

def pool2 : Array CpInfo := pool [(1, .methodref 2 3), (0, .class_ 4), (0, .nameAndType 5 6), (0, u "java/lang/Object"), (0, u "<init>"), (0, u "()V"), (0, .class_ 8), (0, u "java/util/ArrayList"), (0, .methodref 7 3), (0, .fieldref 11 12), (0, .class_ 13), (0, .nameAndType 14 15), (0, u "com/example/treellis/treellis/cfa/CfaNode"), (0, u "leavingEdges"), (0, u "Ljava/util/List;"), (0, .fieldref 11 17), (0, .nameAndType 18 19), (0, u "id"), (0, u "I"), (18, u "(I)V")] 25

def k2c0 : Code := { maxStack := 3, maxLocals := 2, code := prog_27_method_1_code, exceptionTable := #[], attributes := #[] }
def k2m0 : Method := { name := "<init>", desc := "(I)V", sig := { parameters := [.int], returnType := none }, accessFlags := 1, code := some k2c0 }
/-- com/example/treellis/treellis/cfa/CfaNode -/
def k2 : Class := { plain "com/example/treellis/treellis/cfa/CfaNode" (some 0) with
  accessFlags := 33
  interfaces := #[]
  cf := some (fileOf pool2 11 #[] #[{ accessFlags := 1, nameIndex := 5, descriptorIndex := 38, attributes := #[] }] 33 2 #[] #[{ accessFlags := 18, nameIndex := 18, descriptorIndex := 19, attributes := #[] }, { accessFlags := 18, nameIndex := 14, descriptorIndex := 15, attributes := #[] }])
  fields := #[{ name := "id", type := .int, accessFlags := 18, slot := 0, constantValue := 0 }, { name := "leavingEdges", type := (.object "java/util/List"), accessFlags := 18, slot := 1, constantValue := 0 }]
  methods := #[k2m0]
  instanceTypes := #[.int, (.object "java/util/List")]
  staticTypes := #[]
  resolved := Array.replicate 64 none
  statics := none }

def pool3 : Array CpInfo := pool [(8, .class_ 10), (1, u "java/lang/Iterable"), (24, .class_ 36), (0, u "java/lang/Object")] 25

/-- java/lang/Iterable -/
def k3 : Class := { plain "java/lang/Iterable" (some 0) with
  accessFlags := 1537
  interfaces := #[]
  cf := some (fileOf pool3 8 #[] #[] 1537 35 #[] #[])
  fields := #[]
  methods := #[]
  instanceTypes := #[]
  staticTypes := #[]
  resolved := Array.replicate 62 none
  statics := none }

def pool4 : Array CpInfo := pool [(10, .class_ 12), (1, u "java/util/Collection"), (47, .class_ 61), (0, u "java/lang/Object"), (0, .class_ 63), (0, u "java/lang/Iterable")] 51

/-- java/util/Collection -/
def k4 : Class := { plain "java/util/Collection" (some 0) with
  accessFlags := 1537
  interfaces := #[3]
  cf := some (fileOf pool4 10 #[] #[] 1537 60 #[62] #[])
  fields := #[]
  methods := #[]
  instanceTypes := #[]
  staticTypes := #[]
  resolved := Array.replicate 115 none
  statics := none }

def pool5 : Array CpInfo := pool [(1, .methodref 2 3), (0, .class_ 4), (0, .nameAndType 5 6), (0, u "java/lang/Object"), (0, u "<init>"), (0, u "()V"), (1, .class_ 10), (1, u "java/util/AbstractCollection"), (66, .class_ 78), (0, u "java/util/Collection")] 81

def k5c0 : Code := { maxStack := 1, maxLocals := 1, code := jdk_22_method_1_code, exceptionTable := #[], attributes := #[] }
def k5m0 : Method := { name := "<init>", desc := "()V", sig := { parameters := [], returnType := none }, accessFlags := 4, code := some k5c0 }
/-- java/util/AbstractCollection -/
def k5 : Class := { plain "java/util/AbstractCollection" (some 0) with
  accessFlags := 1057
  interfaces := #[4]
  cf := some (fileOf pool5 8 #[] #[{ accessFlags := 4, nameIndex := 5, descriptorIndex := 6, attributes := #[] }] 1057 2 #[77] #[])
  fields := #[]
  methods := #[k5m0]
  instanceTypes := #[]
  staticTypes := #[]
  resolved := Array.replicate 160 none
  statics := none }

def pool6 : Array CpInfo := pool [(8, .class_ 10), (1, u "java/util/SequencedCollection"), (15, .class_ 27), (0, u "java/lang/Object"), (0, .class_ 29), (0, u "java/util/Collection")] 27

/-- java/util/SequencedCollection -/
def k6 : Class := { plain "java/util/SequencedCollection" (some 0) with
  accessFlags := 1537
  interfaces := #[4]
  cf := some (fileOf pool6 8 #[] #[] 1537 26 #[28] #[])
  fields := #[]
  methods := #[]
  instanceTypes := #[]
  staticTypes := #[]
  resolved := Array.replicate 57 none
  statics := none }

def pool7 : Array CpInfo := pool [(8, .class_ 10), (1, u "java/util/List"), (92, .class_ 104), (0, u "java/lang/Object"), (15, .class_ 121), (0, u "java/util/SequencedCollection")] 129

/-- java/util/List -/
def k7 : Class := { plain "java/util/List" (some 0) with
  accessFlags := 1537
  interfaces := #[6]
  cf := some (fileOf pool7 8 #[] #[] 1537 103 #[120] #[])
  fields := #[]
  methods := #[]
  instanceTypes := #[]
  staticTypes := #[]
  resolved := Array.replicate 251 none
  statics := none }

def pool8 : Array CpInfo := pool [(1, .methodref 2 3), (0, .class_ 4), (0, .nameAndType 5 6), (0, u "java/util/AbstractCollection"), (0, u "<init>"), (0, u "()V"), (0, .fieldref 8 9), (0, .class_ 10), (0, .nameAndType 11 12), (0, u "java/util/AbstractList"), (0, u "modCount"), (0, u "I"), (64, .class_ 78), (0, u "java/util/AbstractList$Itr"), (3, .class_ 83), (0, u "java/util/AbstractList$ListItr"), (9, .class_ 94), (0, u "java/util/AbstractList$RandomAccessSubList"), (3, .class_ 99), (0, u "java/util/AbstractList$SubList"), (33, .class_ 134), (0, u "java/util/List"), (73, .class_ 209), (0, u "java/util/AbstractList$SubList$1"), (0, .class_ 211), (0, u "java/util/AbstractList$RandomAccessSpliterator")] 6

def k8c0 : Code := { maxStack := 2, maxLocals := 1, code := jdk_39_method_1_code, exceptionTable := #[], attributes := #[] }
def k8m0 : Method := { name := "<init>", desc := "()V", sig := { parameters := [], returnType := none }, accessFlags := 4, code := some k8c0 }
/-- java/util/AbstractList -/
def k8 : Class := { plain "java/util/AbstractList" (some 5) with
  accessFlags := 1057
  interfaces := #[7]
  cf := some (fileOf pool8 8 #[.nestMembers #[93, 98, 208, 210, 82, 77]] #[{ accessFlags := 4, nameIndex := 5, descriptorIndex := 6, attributes := #[] }] 1057 2 #[133] #[{ accessFlags := 132, nameIndex := 11, descriptorIndex := 12, attributes := #[] }])
  fields := #[{ name := "modCount", type := .int, accessFlags := 132, slot := 0, constantValue := 0 }]
  methods := #[k8m0]
  instanceTypes := #[.int]
  staticTypes := #[]
  resolved := Array.replicate 218 none
  statics := none }

def pool9 : Array CpInfo := pool [(1, .class_ 2), (0, u "java/util/RandomAccess"), (0, .class_ 4), (0, u "java/lang/Object")] 2

/-- java/util/RandomAccess -/
def k9 : Class := { plain "java/util/RandomAccess" (some 0) with
  accessFlags := 1537
  interfaces := #[]
  cf := some (fileOf pool9 1 #[] #[] 1537 3 #[] #[])
  fields := #[]
  methods := #[]
  instanceTypes := #[]
  staticTypes := #[]
  resolved := Array.replicate 7 none
  statics := none }

def pool10 : Array CpInfo := pool [(1, .class_ 2), (0, u "java/lang/Cloneable"), (0, .class_ 4), (0, u "java/lang/Object")] 2

/-- java/lang/Cloneable -/
def k10 : Class := { plain "java/lang/Cloneable" (some 0) with
  accessFlags := 1537
  interfaces := #[]
  cf := some (fileOf pool10 1 #[] #[] 1537 3 #[] #[])
  fields := #[]
  methods := #[]
  instanceTypes := #[]
  staticTypes := #[]
  resolved := Array.replicate 7 none
  statics := none }

def pool11 : Array CpInfo := pool [(1, .class_ 2), (0, u "java/io/Serializable"), (0, .class_ 4), (0, u "java/lang/Object")] 2

/-- java/io/Serializable -/
def k11 : Class := { plain "java/io/Serializable" (some 0) with
  accessFlags := 1537
  interfaces := #[]
  cf := some (fileOf pool11 1 #[] #[] 1537 3 #[] #[])
  fields := #[]
  methods := #[]
  instanceTypes := #[]
  staticTypes := #[]
  resolved := Array.replicate 7 none
  statics := none }

def pool12 : Array CpInfo := pool [(1, .methodref 2 3), (0, .class_ 4), (0, .nameAndType 5 6), (0, u "java/util/AbstractList"), (0, u "<init>"), (0, u "()V"), (2, .fieldref 10 11), (0, .class_ 12), (0, .nameAndType 13 14), (0, u "java/util/ArrayList"), (0, u "elementData"), (0, u "[Ljava/lang/Object;"), (2, u "EMPTY_ELEMENTDATA"), (21, .fieldref 10 40), (0, .nameAndType 41 14), (0, u "DEFAULTCAPACITY_EMPTY_ELEMENTDATA"), (8, u "size"), (0, u "I"), (96, .class_ 149), (0, u "java/util/List"), (112, .class_ 263), (0, u "java/util/ArrayList$ListItr"), (3, .class_ 268), (0, u "java/util/ArrayList$Itr"), (7, .class_ 277), (0, u "java/util/ArrayList$SubList"), (12, .class_ 291), (0, u "java/util/ArrayList$ArrayListSpliterator"), (37, .class_ 330), (0, u "java/util/RandomAccess"), (0, .class_ 332), (0, u "java/lang/Cloneable"), (0, .class_ 334), (0, u "java/io/Serializable"), (0, u "serialVersionUID"), (0, u "J"), (3, u "DEFAULT_CAPACITY"), (159, .class_ 501), (0, u "java/util/ArrayList$SubList$2"), (0, .class_ 503), (0, u "java/util/ArrayList$SubList$1")] 5

def k12c0 : Code := { maxStack := 2, maxLocals := 1, code := jdk_38_method_2_code, exceptionTable := #[], attributes := #[] }
def k12m0 : Method := { name := "<init>", desc := "()V", sig := { parameters := [], returnType := none }, accessFlags := 1, code := some k12c0 }
/-- java/util/ArrayList -/
def k12 : Class := { plain "java/util/ArrayList" (some 8) with
  accessFlags := 33
  interfaces := #[7, 9, 10, 11]
  cf := some (fileOf pool12 10 #[.nestMembers #[290, 276, 500, 502, 262, 267]] #[{ accessFlags := 1, nameIndex := 5, descriptorIndex := 6, attributes := #[] }] 33 2 #[148, 329, 331, 333] #[{ accessFlags := 26, nameIndex := 335, descriptorIndex := 336, attributes := #[] }, { accessFlags := 26, nameIndex := 340, descriptorIndex := 51, attributes := #[] }, { accessFlags := 26, nameIndex := 17, descriptorIndex := 14, attributes := #[] }, { accessFlags := 26, nameIndex := 41, descriptorIndex := 14, attributes := #[] }, { accessFlags := 128, nameIndex := 13, descriptorIndex := 14, attributes := #[] }, { accessFlags := 2, nameIndex := 50, descriptorIndex := 51, attributes := #[] }])
  fields := #[{ name := "serialVersionUID", type := .long, accessFlags := 26, slot := 0, constantValue := 0 }, { name := "DEFAULT_CAPACITY", type := .int, accessFlags := 26, slot := 1, constantValue := 0 }, { name := "EMPTY_ELEMENTDATA", type := (.array (.object "java/lang/Object")), accessFlags := 26, slot := 2, constantValue := 0 }, { name := "DEFAULTCAPACITY_EMPTY_ELEMENTDATA", type := (.array (.object "java/lang/Object")), accessFlags := 26, slot := 3, constantValue := 0 }, { name := "elementData", type := (.array (.object "java/lang/Object")), accessFlags := 128, slot := 1, constantValue := 0 }, { name := "size", type := .int, accessFlags := 2, slot := 2, constantValue := 0 }]
  methods := #[k12m0]
  instanceTypes := #[.int, (.array (.object "java/lang/Object")), .int]
  staticTypes := #[.long, .int, (.array (.object "java/lang/Object")), (.array (.object "java/lang/Object"))]
  resolved := Array.replicate 509 none
  statics := some 0 }

def pool13 : Array CpInfo := pool [(1, .class_ 2), (0, u "com/example/treellis/treellis/cpa/AbstractState"), (0, .class_ 4), (0, u "java/lang/Object")] 8

/-- com/example/treellis/treellis/cpa/AbstractState -/
def k13 : Class := { plain "com/example/treellis/treellis/cpa/AbstractState" (some 0) with
  accessFlags := 1537
  interfaces := #[]
  cf := some (fileOf pool13 1 #[] #[] 1537 3 #[] #[])
  fields := #[]
  methods := #[]
  instanceTypes := #[]
  staticTypes := #[]
  resolved := Array.replicate 13 none
  statics := none }

def pool14 : Array CpInfo := pool [(2, .class_ 4), (1, u "com/example/treellis/treellis/cpa/EqualityOrderedState"), (6, .class_ 12), (0, u "java/lang/Object"), (0, .class_ 14), (0, u "com/example/treellis/treellis/cpa/AbstractState")] 10

/-- com/example/treellis/treellis/cpa/EqualityOrderedState -/
def k14 : Class := { plain "com/example/treellis/treellis/cpa/EqualityOrderedState" (some 0) with
  accessFlags := 1537
  interfaces := #[13]
  cf := some (fileOf pool14 2 #[] #[] 1537 11 #[13] #[])
  fields := #[]
  methods := #[]
  instanceTypes := #[]
  staticTypes := #[]
  resolved := Array.replicate 25 none
  statics := none }

def pool15 : Array CpInfo := pool [(1, .methodref 2 3), (0, .class_ 4), (0, .nameAndType 5 6), (0, u "java/lang/Object"), (0, u "<init>"), (0, u "()V"), (0, .fieldref 8 9), (0, .class_ 10), (0, .nameAndType 11 12), (0, u "com/example/treellis/treellis/cpa/location/LocationState"), (0, u "node"), (0, u "Lcom/example/treellis/treellis/cfa/CfaNode;"), (4, .class_ 18), (0, u "com/example/treellis/treellis/cpa/EqualityOrderedState"), (0, u "(Lcom/example/treellis/treellis/cfa/CfaNode;)V"), (3, u "equals"), (0, u "(Ljava/lang/Object;)Z")] 3

def k15c0 : Code := { maxStack := 2, maxLocals := 2, code := prog_78_method_1_code, exceptionTable := #[], attributes := #[] }
def k15m0 : Method := { name := "<init>", desc := "(Lcom/example/treellis/treellis/cfa/CfaNode;)V", sig := { parameters := [(.object "com/example/treellis/treellis/cfa/CfaNode")], returnType := none }, accessFlags := 0, code := some k15c0 }
def k15c1 : Code := { maxStack := 2, maxLocals := 2, code := prog_78_method_3_code, exceptionTable := #[], attributes := #[] }
def k15m1 : Method := { name := "equals", desc := "(Ljava/lang/Object;)Z", sig := { parameters := [(.object "java/lang/Object")], returnType := some .boolean }, accessFlags := 1, code := some k15c1 }
/-- com/example/treellis/treellis/cpa/location/LocationState -/
def k15 : Class := { plain "com/example/treellis/treellis/cpa/location/LocationState" (some 0) with
  accessFlags := 33
  interfaces := #[14]
  cf := some (fileOf pool15 8 #[] #[{ accessFlags := 0, nameIndex := 5, descriptorIndex := 19, attributes := #[] }, { accessFlags := 1, nameIndex := 23, descriptorIndex := 24, attributes := #[] }] 33 2 #[17] #[{ accessFlags := 18, nameIndex := 11, descriptorIndex := 12, attributes := #[] }])
  fields := #[{ name := "node", type := (.object "com/example/treellis/treellis/cfa/CfaNode"), accessFlags := 18, slot := 0, constantValue := 0 }]
  methods := #[k15m0, k15m1]
  instanceTypes := #[(.object "com/example/treellis/treellis/cfa/CfaNode")]
  staticTypes := #[]
  resolved := Array.replicate 28 none
  statics := none }

/-- the primitive byte -/
def k16 : Class := { plain "byte" none with kind := .primitive 'B', accessFlags := 0x411 }
/-- [B -/
def k17 : Class := { plain "[B" (some 0) with kind := .array 16 .byte, interfaces := #[10, 11], accessFlags := 1041 }

/-- the primitive int -/
def k18 : Class := { plain "int" none with kind := .primitive 'I', accessFlags := 0x411 }
/-- [I -/
def k19 : Class := { plain "[I" (some 0) with kind := .array 18 .int, interfaces := #[10, 11], accessFlags := 1041 }

/-- [Ljava/lang/Object; -/
def k20 : Class := { plain "[Ljava/lang/Object;" (some 0) with kind := .array 0 (.object "java/lang/Object"), interfaces := #[10, 11], accessFlags := 1041 }

def heap : Heap := #[{ cls := 12, slots := #[.long 0, .int 0, .ref 1, .ref 2], vm := .statics 12 },
  { cls := 20, slots := #[], vm := .none },
  { cls := 20, slots := #[], vm := .none }]
def classes : Array Class := #[k0, k1, k2, k3, k4, k5, k6, k7, k8, k9, k10, k11, k12, k13, k14, k15, k16, k17, k18, k19, k20]
def interned : List (Array UInt16 × Addr) := []
def slotsUsed : Nat := 4
def theMethod : MethodId := ⟨1, 1⟩
def args0 : Array Value := #[.int 5, .int 6, .int 7]
def aboutOver (below : List Frame) : State where
  vm := { classes := classes, interned := interned.toArray }
  heap := heap
  slotsUsed := slotsUsed
  threads := #[{ frames := .invoking theMethod args0 :: below }]
def below0 : List Frame := [.native { method := ⟨0, 0⟩, args := #[] }]
def about1 : State := aboutOver below0
def p0 : Program := .bare "" "" ""
def e0 : Env := launch0.env 0 0 0
theorem w_frames : about1.frames = Frame.invoking theMethod args0 :: below0 := rfl
set_option maxRecDepth 65536 in
theorem w_args : argsFit about1.vm theMethod args0 = true := by decide +kernel
set_option maxRecDepth 65536 in
theorem w_heap : heapFits about1 = true := by decide +kernel
set_option maxRecDepth 65536 in
theorem w_runnable : about1.curStatus? = some .runnable := by decide +kernel
set_option maxRecDepth 65536 in
theorem w_alone : about1.alone = true := by decide +kernel
set_option maxRecDepth 65536 in
theorem w_named : about1.methodNamed? x = some theMethod := by decide +kernel
set_option maxRecDepth 65536 in
theorem w_hears : about1.hears theMethod below0 = true := by decide +kernel
set_option maxRecDepth 65536 in
theorem w_ripe : about1.ripe theMethod args0 below0 = true := by decide +kernel
theorem w_running : about1.status = .running := rfl
set_option maxRecDepth 65536 in
theorem w_room : about1.hasRoom e0.platform room_1 = true :=
  launch0.hasRoom_least _ room_1 (by decide +kernel) (by decide +kernel) (by decide +kernel) (by decide +kernel) (by decide +kernel) (by decide +kernel)
theorem allAtoms_all (ts : List Jvm.Cond) (a : Array Jvm.Value) (st : Jvm.State) : (allAtoms ts).before a st = ts.all (fun c => c.before a st) := by
  induction ts with
  | nil => rfl
  | cons c t ih =>
    show (Jvm.Cond.and c (allAtoms t)).before a st = _
    rw [Jvm.Cond.before_and, ih, List.all_cons]
def words1 : List Jvm.Cond := Jvm.Cond.code x code maxLocals ret :: tables_1
/-- a 'code' word, met by the world's own term for the bytes: nothing is compared byte by byte -/
theorem code_word {y : MethodName} {bytes : ByteArray} {mx : Nat} {rt : Option FieldType} {a : Array Value} {s : State} {m : MethodId} {meth : Method} {c : Code} (h1 : s.methodNamed? y = some m) (h2 : s.vm.method? m = some meth) (h3 : meth.code = some c) (h4 : c.code = bytes)
    (h5 : (c.maxLocals == mx && c.exceptionTable.isEmpty && decide (c.maxStack ≤ mostOperands) && decide (meth.sig.returnType = rt) && !meth.locks && decide (parseMethodDescriptor y.desc = some meth.sig)) = true) : (Jvm.Cond.code y bytes mx rt).before a s = true := by
  simp only [Bool.and_eq_true, beq_iff_eq, Bool.not_eq_true', decide_eq_true_eq] at h5
  obtain ⟨⟨⟨⟨⟨g1, g2⟩, g3⟩, g4⟩, g5⟩, g6⟩ := h5
  simp [Cond.before, Cond.holds, Cond.value, h1, h2, h3, h4, g1, g2, g3, g4, g5, g6]
def isCode : Jvm.Cond → Bool
  | .code _ _ _ _ => true
  | _ => false
theorem all_split {L : List Jvm.Cond} {P : Jvm.Cond → Bool} (h1 : L.all (fun c => isCode c || P c) = true) (h2 : ∀ c ∈ L.filter isCode, P c = true) : L.all P = true := by
  refine List.all_eq_true.mpr fun c hc => ?_
  have h := List.all_eq_true.mp h1 c hc
  rcases Bool.eq_false_or_eq_true (isCode c) with hi | hi
  · exact h2 c (List.mem_filter.mpr ⟨hc, hi⟩)
  · simpa [hi] using h
set_option maxRecDepth 65536 in
theorem w_c0 : (Jvm.Cond.code x code maxLocals ret).before args0 about1 = true := code_word (m := ⟨1, 1⟩) (meth := k1m1) (c := k1c1) (by decide +kernel) rfl rfl rfl (by decide +kernel)
set_option maxRecDepth 65536 in
theorem w_c1 : (Jvm.Cond.code ({ cls := "com/example/treellis/treellis/cfa/CfaNode", name := "<init>", desc := "(I)V" } : Jvm.MethodName) prog_27_method_1_code (2 : Nat) (Option.none : Option Jvm.ClassFile.FieldType)).before args0 about1 = true := code_word (m := ⟨2, 0⟩) (meth := k2m0) (c := k2c0) (by decide +kernel) rfl rfl rfl (by decide +kernel)
set_option maxRecDepth 65536 in
theorem w_c2 : (Jvm.Cond.code ({ cls := "java/lang/Object", name := "<init>", desc := "()V" } : Jvm.MethodName) object_method_1_code (1 : Nat) (Option.none : Option Jvm.ClassFile.FieldType)).before args0 about1 = true := code_word (m := ⟨0, 0⟩) (meth := k0m0) (c := k0c0) (by decide +kernel) rfl rfl rfl (by decide +kernel)
set_option maxRecDepth 65536 in
theorem w_c3 : (Jvm.Cond.code ({ cls := "java/util/ArrayList", name := "<init>", desc := "()V" } : Jvm.MethodName) jdk_38_method_2_code (1 : Nat) (Option.none : Option Jvm.ClassFile.FieldType)).before args0 about1 = true := code_word (m := ⟨12, 0⟩) (meth := k12m0) (c := k12c0) (by decide +kernel) rfl rfl rfl (by decide +kernel)
set_option maxRecDepth 65536 in
theorem w_c4 : (Jvm.Cond.code ({ cls := "java/util/AbstractList", name := "<init>", desc := "()V" } : Jvm.MethodName) jdk_39_method_1_code (1 : Nat) (Option.none : Option Jvm.ClassFile.FieldType)).before args0 about1 = true := code_word (m := ⟨8, 0⟩) (meth := k8m0) (c := k8c0) (by decide +kernel) rfl rfl rfl (by decide +kernel)
set_option maxRecDepth 65536 in
theorem w_c5 : (Jvm.Cond.code ({ cls := "java/util/AbstractCollection", name := "<init>", desc := "()V" } : Jvm.MethodName) jdk_22_method_1_code (1 : Nat) (Option.none : Option Jvm.ClassFile.FieldType)).before args0 about1 = true := code_word (m := ⟨5, 0⟩) (meth := k5m0) (c := k5c0) (by decide +kernel) rfl rfl rfl (by decide +kernel)
set_option maxRecDepth 65536 in
theorem w_c6 : (Jvm.Cond.code ({ cls := "com/example/treellis/treellis/cpa/location/LocationState", name := "<init>", desc := "(Lcom/example/treellis/treellis/cfa/CfaNode;)V" } : Jvm.MethodName) prog_78_method_1_code (2 : Nat) (Option.none : Option Jvm.ClassFile.FieldType)).before args0 about1 = true := code_word (m := ⟨15, 0⟩) (meth := k15m0) (c := k15c0) (by decide +kernel) rfl rfl rfl (by decide +kernel)
set_option maxRecDepth 65536 in
theorem w_c7 : (Jvm.Cond.code ({ cls := "com/example/treellis/treellis/cpa/location/LocationState", name := "equals", desc := "(Ljava/lang/Object;)Z" } : Jvm.MethodName) prog_78_method_3_code (2 : Nat) (Option.some Jvm.ClassFile.FieldType.boolean)).before args0 about1 = true := code_word (m := ⟨15, 1⟩) (meth := k15m1) (c := k15c1) (by decide +kernel) rfl rfl rfl (by decide +kernel)
def codes1 : List Jvm.Cond := [Jvm.Cond.code x code maxLocals ret, Jvm.Cond.code ({ cls := "com/example/treellis/treellis/cfa/CfaNode", name := "<init>", desc := "(I)V" } : Jvm.MethodName) prog_27_method_1_code (2 : Nat) (Option.none : Option Jvm.ClassFile.FieldType), Jvm.Cond.code ({ cls := "java/lang/Object", name := "<init>", desc := "()V" } : Jvm.MethodName) object_method_1_code (1 : Nat) (Option.none : Option Jvm.ClassFile.FieldType), Jvm.Cond.code ({ cls := "java/util/ArrayList", name := "<init>", desc := "()V" } : Jvm.MethodName) jdk_38_method_2_code (1 : Nat) (Option.none : Option Jvm.ClassFile.FieldType), Jvm.Cond.code ({ cls := "java/util/AbstractList", name := "<init>", desc := "()V" } : Jvm.MethodName) jdk_39_method_1_code (1 : Nat) (Option.none : Option Jvm.ClassFile.FieldType), Jvm.Cond.code ({ cls := "java/util/AbstractCollection", name := "<init>", desc := "()V" } : Jvm.MethodName) jdk_22_method_1_code (1 : Nat) (Option.none : Option Jvm.ClassFile.FieldType), Jvm.Cond.code ({ cls := "com/example/treellis/treellis/cpa/location/LocationState", name := "<init>", desc := "(Lcom/example/treellis/treellis/cfa/CfaNode;)V" } : Jvm.MethodName) prog_78_method_1_code (2 : Nat) (Option.none : Option Jvm.ClassFile.FieldType), Jvm.Cond.code ({ cls := "com/example/treellis/treellis/cpa/location/LocationState", name := "equals", desc := "(Ljava/lang/Object;)Z" } : Jvm.MethodName) prog_78_method_3_code (2 : Nat) (Option.some Jvm.ClassFile.FieldType.boolean)]
set_option maxRecDepth 65536 in
theorem codes_eq : words1.filter isCode = codes1 := rfl
theorem w_codes : ∀ c ∈ words1.filter isCode, c.before args0 about1 = true := by
  rw [codes_eq]
  intro c hc
  simp only [codes1, List.mem_cons, List.not_mem_nil, or_false] at hc
  rcases hc with rfl | rfl | rfl | rfl | rfl | rfl | rfl | rfl
  · exact w_c0
  · exact w_c1
  · exact w_c2
  · exact w_c3
  · exact w_c4
  · exact w_c5
  · exact w_c6
  · exact w_c7
set_option maxRecDepth 65536 in
theorem w_t1 : (words1.take 24).all (fun c => isCode c || c.before args0 about1) = true := by decide +kernel
set_option maxRecDepth 65536 in
theorem w_t2 : ((words1.drop 24).take 24).all (fun c => isCode c || c.before args0 about1) = true := by decide +kernel
set_option maxRecDepth 65536 in
theorem w_t3 : ((words1.drop 24).drop 24).all (fun c => isCode c || c.before args0 about1) = true := by decide +kernel
theorem w_tables : (allAtoms (Jvm.Cond.code x code maxLocals ret :: tables_1)).before args0 about1 = true := by
  rw [allAtoms_all]
  show words1.all (fun c => c.before args0 about1) = true
  refine all_split ?_ w_codes
  rw [← List.take_append_drop 24 words1, List.all_append, w_t1, ← List.take_append_drop 24 (words1.drop 24), List.all_append, w_t2, w_t3]
  rfl
set_option maxRecDepth 65536 in
theorem w_rest : rest_1_c.before args0 about1 = true := by decide +kernel
set_option maxRecDepth 65536 in
theorem w_case : (Jvm.Cond.and given_1 narrow_1).before args0 about1 = true := by decide +kernel
theorem w_applies : (headSpec (Jvm.Cond.code x code maxLocals ret :: tables_1) room_1).applies x e0.platform about1 = true :=
  (Spec.applies_iff w_frames).mpr ⟨w_running, w_runnable, w_alone, w_named, w_hears, w_ripe, w_room, w_tables⟩
theorem atStart : AtStart classFile x code maxLocals ret World_1 tables_1 room_1 Calls_1 rest_1 Pre_1 launch0 p0 e0 about1 theMethod args0 below0 :=
  ⟨lists_1, trivial, launch0.admits_env _ _ _, launch0.least_env, fairChoices_fair.cas, fairChoices_fair.clock, w_frames, w_args, w_heap, w_applies, trivial, w_rest, w_case⟩
end start1
theorem witness_1 : WitnessClaimed_1 := ⟨start1.p0, start1.e0, start1.about1, start1.theMethod, start1.args0, start1.below0, start1.atStart⟩
end Jvm.Pilot.@@N@@
