import JvmDerived
import JvmDerived.Pilot.@@N@@Statement
import JvmDerived.Pilot.@@N@@Code
set_option linter.unusedVariables false
set_option linter.unusedSimpArgs false
namespace Jvm.RoadKit
open Sem ClassFile Op Lib Jvm.Stand Jvm.Free Jvm.LawKit
section Own
variable {p : Program} {l : Launch} {e : Env} {R : Room} {s : State} {m : MethodId} {args : Array Value} {below : List Frame} {meth : Method} {c : Code} {T T1 : State} {locs : List Loc} {cells slots cs ss : Nat} {Q : Option Value → Heap → List Loc → Prop} {g g1 : JFrame}
/-- from the frame g over T the body comes to its end, and what it leaves is as Q says -/
def own_Goes (p : Program) (e : Env) (below : List Frame) (s : State) (Q : Option Value → Heap → List Loc → Prop) (cs ss : Nat) (T : State) (g : JFrame) : Prop :=
  ∃ s₂ o, Steps p.tables e below (T.setTop g) s₂ ∧ s₂.status = .running ∧ Ended s₂ below o ∧ ∃ v L, o = .returned v ∧ Q v s₂.heap L ∧ FrameEnd s o s₂ L cs ss
theorem own_go (st : ∀ target, Steps p.tables e below (T1.setTop g1) target → Steps p.tables e below (T.setTop g) target) (k : own_Goes p e below s Q cs ss T1 g1) : own_Goes p e below s Q cs ss T g := by
  obtain ⟨s₂, o, h, r⟩ := k
  exact ⟨s₂, o, st _ h, r⟩
theorem own_goS (st : Steps p.tables e below (T.setTop g) (T1.setTop g1)) (k : own_Goes p e below s Q cs ss T1 g1) : own_Goes p e below s Q cs ss T g := own_go (fun _ h => st.trans h) k
/-- the ends -/
theorem own_retN (X : Stand p l e R s m args below meth c T locs cells slots) (hx : p.tables.exec = Jvm.exec) {pc : Nat} {Ls : Array Slot} {z : Int32} {t : FieldType} {rest : List Value} (hlk : meth.locks = false) (hret : meth.sig.returnType = some t) (ht : t = .boolean ∨ t = .byte ∨ t = .char ∨ t = .short)
    (hd : decode c.code pc = .ok (.ireturn, 1)) (hc : cells ≤ cs) (hs : slots ≤ ss) (hQ : Q (some (.int (nar t z))) T.heap locs) : own_Goes p e below s Q cs ss T (mkF m pc Ls (.int z :: rest)) := by
  obtain ⟨fs, hr, hrun, hended, hW, hsame⟩ := X.leave (v := some (.int (nar t z))) (fun h => by rw [hret] at h; cases h) hlk
  exact ⟨_, _, retN X hx hret ht hd hr, hrun, hended, _, _, rfl, hQ, ⟨_, rfl⟩, hW, hsame.mono hc hs⟩
theorem own_ret (X : Stand p l e R s m args below meth c T locs cells slots) (hx : p.tables.exec = Jvm.exec) {pc : Nat} {Ls : Array Slot} {w : Value} {t : FieldType} {i : Instr} {rest : List Value} (hlk : meth.locks = false) (hret : meth.sig.returnType = some t) (hn : narrow t w = w)
    (hi : (i = .ireturn ∧ (t = .int ∨ t = .boolean ∨ t = .byte ∨ t = .char ∨ t = .short) ∧ ∃ z, w = .int z) ∨ (i = .lreturn ∧ t = .long ∧ ∃ z, w = .long z) ∨ (i = .dreturn ∧ t = .double ∧ ∃ z, w = .double z) ∨ (i = .freturn ∧ t = .float ∧ ∃ z, w = .float z) ∨ (i = .areturn ∧ t.isReference = true ∧ w.isRef = true))
    (hd : decode c.code pc = .ok (i, 1)) (hc : cells ≤ cs) (hs : slots ≤ ss) (hQ : Q (some w) T.heap locs) : own_Goes p e below s Q cs ss T (mkF m pc Ls (w :: rest)) := by
  obtain ⟨fs, hr, hrun, hended, hW, hsame⟩ := X.leave (v := some w) (fun h => by rw [hret] at h; cases h) hlk
  exact ⟨_, _, retOut X hx hret hn hi hd hr, hrun, hended, _, _, rfl, hQ, ⟨_, rfl⟩, hW, hsame.mono hc hs⟩
theorem own_retI (X : Stand p l e R s m args below meth c T locs cells slots) (hx : p.tables.exec = Jvm.exec) {pc : Nat} {Ls : Array Slot} {z : Int32} {rest : List Value} (hlk : meth.locks = false) (hret : meth.sig.returnType = some .int)
    (hd : decode c.code pc = .ok (.ireturn, 1)) (hc : cells ≤ cs) (hs : slots ≤ ss) (hQ : Q (some (.int z)) T.heap locs) : own_Goes p e below s Q cs ss T (mkF m pc Ls (.int z :: rest)) :=
  own_ret X hx hlk hret rfl (Or.inl ⟨rfl, Or.inl rfl, _, rfl⟩) hd hc hs hQ
theorem own_retA (X : Stand p l e R s m args below meth c T locs cells slots) (hx : p.tables.exec = Jvm.exec) {pc : Nat} {Ls : Array Slot} {w : Value} {t : FieldType} {rest : List Value} (hlk : meth.locks = false) (hret : meth.sig.returnType = some t) (ht : t.isReference = true) (hw : w.isRef = true)
    (hd : decode c.code pc = .ok (.areturn, 1)) (hc : cells ≤ cs) (hs : slots ≤ ss) (hQ : Q (some w) T.heap locs) : own_Goes p e below s Q cs ss T (mkF m pc Ls (w :: rest)) :=
  own_ret X hx hlk hret (by rcases ref_cases hw with rfl | ⟨a, rfl⟩ <;> cases t <;> simp [FieldType.isReference] at ht <;> rfl) (Or.inr (Or.inr (Or.inr (Or.inr ⟨rfl, ht, hw⟩)))) hd hc hs hQ
theorem own_retV (X : Stand p l e R s m args below meth c T locs cells slots) (hx : p.tables.exec = Jvm.exec) {pc : Nat} {Ls : Array Slot} (hlk : meth.locks = false) (hret : meth.sig.returnType = none)
    (hd : decode c.code pc = .ok (.return_, 1)) (hc : cells ≤ cs) (hs : slots ≤ ss) (hQ : Q none T.heap locs) : own_Goes p e below s Q cs ss T (mkF m pc Ls []) := by
  obtain ⟨fs, hr, hrun, hended, hW, hsame⟩ := X.leave (v := none) (fun _ => rfl) hlk
  exact ⟨_, _, X.returnOut hx hret hd hr, hrun, hended, _, _, rfl, hQ, ⟨_, rfl⟩, hW, hsame.mono hc hs⟩
/-- what holds throughout a body's walk -/
def own_Ctx (Z : State) (y : MethodName) (own : String) (bytes : ByteArray) (maxL : Nat) (ret : Option FieldType) (p : Program) (s : State) (m : MethodId) (meth : Method) (c : Code) : Prop :=
  p.tables.exec = Jvm.exec ∧ c.code = bytes ∧ c.maxLocals = maxL ∧ s.vm.findClass own = some m.cls ∧ meth.name = y.name ∧ meth.sig.returnType = ret ∧ meth.locks = false ∧ Z.Warmed39 s.vm
theorem own_met {Z : State} {y : MethodName} {own : String} {bytes : ByteArray} {maxL : Nat} {ret : Option FieldType} {ws : List Cond} {rm : Room} {as' : Array Value} {h0 : Heap} (hy : y.cls = own) (hpn : plainName own = true)
    (body : ∀ (p : Program) (e : Env) (s : State) (m : MethodId) (below : List Frame) (meth : Method) (c : Code) (s₁ : State), own_Ctx Z y own bytes maxL ret p s m meth c → s₁.heap = h0 → Stand p l e rm s m as' below meth c s₁ [] 0 0 → own_Goes p e below s Q cs ss s₁ (entryFrame m as' maxL)) :
    MetFree l y (head1 (Cond.code y bytes maxL ret :: ws) rm) (fun a U => a = as' ∧ Z.Warmed39 U.vm ∧ U.heap = h0) (fun _ _ _ _ _ => True) (fun _ U o U' => ∃ v L, o = .returned v ∧ Q v U'.heap L ∧ FrameEnd U o U' L cs ss) := by
  subst hy
  refine MetFree.of_bodySF (plainFor_of_name hpn) hisR ?_
  intro p e s m args below meth c s₁ Bd hml0 hP hK
  obtain ⟨rfl, hZ, hh⟩ := hP
  exact body p e s m below meth c s₁ ⟨Bd.exec, Bd.bytes, hml0, findClass_of_methodNamed Bd.named, (name_of_methodNamed Bd.named Bd.method).1, Bd.returns, Bd.notSynchronized, hZ⟩ (by rw [← hh, Bd.state]; rfl) (Stand.of_body Bd)
end Own
end Jvm.RoadKit
namespace Jvm.Pilot.@@N@@
open Jvm Jvm.ClassFile Sem Op Lib Jvm.Free Jvm.Stand Jvm.LawKit Jvm.RoadKit Bundle Jvm.Pilot.@@N@@.Jvm.D
def own_pos (n : Int32) : Int32 := if 0 < n then 1 else 0
def own_step (n b : Int32) : Int32 := if b = 0 then (if 0 < n then n - 1 else n) else n + 1
theorem d1_0 : decode prog_3_method_1_code 0 = .ok (.aload_n 0, 1) := by decide +kernel
theorem d1_1 : decode prog_3_method_1_code 1 = .ok (.invokespecial 1, 3) := by decide +kernel
theorem d1_4 : decode prog_3_method_1_code 4 = .ok (.aload_n 0, 1) := by decide +kernel
theorem d1_5 : decode prog_3_method_1_code 5 = .ok (.new 7, 3) := by decide +kernel
theorem d1_8 : decode prog_3_method_1_code 8 = .ok (.dup, 1) := by decide +kernel
theorem d1_9 : decode prog_3_method_1_code 9 = .ok (.invokespecial 9, 3) := by decide +kernel
theorem d1_12 : decode prog_3_method_1_code 12 = .ok (.putfield 10, 3) := by decide +kernel
theorem d1_15 : decode prog_3_method_1_code 15 = .ok (.aload_n 0, 1) := by decide +kernel
theorem d1_16 : decode prog_3_method_1_code 16 = .ok (.new 7, 3) := by decide +kernel
theorem d1_19 : decode prog_3_method_1_code 19 = .ok (.dup, 1) := by decide +kernel
theorem d1_20 : decode prog_3_method_1_code 20 = .ok (.invokespecial 9, 3) := by decide +kernel
theorem d1_23 : decode prog_3_method_1_code 23 = .ok (.putfield 16, 3) := by decide +kernel
theorem d1_26 : decode prog_3_method_1_code 26 = .ok (.aload_n 0, 1) := by decide +kernel
theorem d1_27 : decode prog_3_method_1_code 27 = .ok (.aload_n 1, 1) := by decide +kernel
theorem d1_28 : decode prog_3_method_1_code 28 = .ok (.putfield 19, 3) := by decide +kernel
theorem d1_31 : decode prog_3_method_1_code 31 = .ok (.return_, 1) := by decide +kernel
theorem d3_0 : decode jdk_21_method_3_code 0 = .ok (.aload_n 0, 1) := by decide +kernel
theorem d3_1 : decode jdk_21_method_3_code 1 = .ok (.invokespecial 42, 3) := by decide +kernel
theorem d3_4 : decode jdk_21_method_3_code 4 = .ok (.aload_n 0, 1) := by decide +kernel
theorem d3_5 : decode jdk_21_method_3_code 5 = .ok (.bipush 17, 2) := by decide +kernel
theorem d3_7 : decode jdk_21_method_3_code 7 = .ok (.anewarray 47, 3) := by decide +kernel
theorem d3_10 : decode jdk_21_method_3_code 10 = .ok (.putfield 3, 3) := by decide +kernel
theorem d3_13 : decode jdk_21_method_3_code 13 = .ok (.return_, 1) := by decide +kernel
theorem d4_0 : decode jdk_22_method_1_code 0 = .ok (.aload_n 0, 1) := by decide +kernel
theorem d4_1 : decode jdk_22_method_1_code 1 = .ok (.invokespecial 1, 3) := by decide +kernel
theorem d4_4 : decode jdk_22_method_1_code 4 = .ok (.return_, 1) := by decide +kernel
theorem d5_0 : decode prog_3_method_8_code 0 = .ok (.aload_n 0, 1) := by decide +kernel
theorem d5_1 : decode prog_3_method_8_code 1 = .ok (.getfield 34, 3) := by decide +kernel
theorem d5_4 : decode prog_3_method_8_code 4 = .ok (.ifCond .le 7, 3) := by decide +kernel
theorem d5_7 : decode prog_3_method_8_code 7 = .ok (.iconst 1, 1) := by decide +kernel
theorem d5_8 : decode prog_3_method_8_code 8 = .ok (.goto 4, 3) := by decide +kernel
theorem d5_11 : decode prog_3_method_8_code 11 = .ok (.iconst 0, 1) := by decide +kernel
theorem d5_12 : decode prog_3_method_8_code 12 = .ok (.ireturn, 1) := by decide +kernel
theorem d6_0 : decode method_2_code 0 = .ok (.iload_n 2, 1) := by decide +kernel
theorem d6_1 : decode method_2_code 1 = .ok (.ifCond .eq 11, 3) := by decide +kernel
theorem d6_4 : decode method_2_code 4 = .ok (.aload_n 0, 1) := by decide +kernel
theorem d6_5 : decode method_2_code 5 = .ok (.invokevirtual 7, 3) := by decide +kernel
theorem d6_8 : decode method_2_code 8 = .ok (.iload_n 1, 1) := by decide +kernel
theorem d6_9 : decode method_2_code 9 = .ok (.iconst 1, 1) := by decide +kernel
theorem d6_10 : decode method_2_code 10 = .ok (.iadd, 1) := by decide +kernel
theorem d6_11 : decode method_2_code 11 = .ok (.ireturn, 1) := by decide +kernel
theorem d6_12 : decode method_2_code 12 = .ok (.iload_n 1, 1) := by decide +kernel
theorem d6_13 : decode method_2_code 13 = .ok (.ifCond .le 11, 3) := by decide +kernel
theorem d6_16 : decode method_2_code 16 = .ok (.aload_n 0, 1) := by decide +kernel
theorem d6_17 : decode method_2_code 17 = .ok (.invokevirtual 12, 3) := by decide +kernel
theorem d6_20 : decode method_2_code 20 = .ok (.iload_n 1, 1) := by decide +kernel
theorem d6_21 : decode method_2_code 21 = .ok (.iconst 1, 1) := by decide +kernel
theorem d6_22 : decode method_2_code 22 = .ok (.isub, 1) := by decide +kernel
theorem d6_23 : decode method_2_code 23 = .ok (.ireturn, 1) := by decide +kernel
theorem d6_24 : decode method_2_code 24 = .ok (.iload_n 1, 1) := by decide +kernel
theorem d6_25 : decode method_2_code 25 = .ok (.ireturn, 1) := by decide +kernel
theorem d7_0 : decode prog_3_method_6_code 0 = .ok (.aload_n 0, 1) := by decide +kernel
theorem d7_1 : decode prog_3_method_6_code 1 = .ok (.dup, 1) := by decide +kernel
theorem d7_2 : decode prog_3_method_6_code 2 = .ok (.getfield 34, 3) := by decide +kernel
theorem d7_5 : decode prog_3_method_6_code 5 = .ok (.iconst 1, 1) := by decide +kernel
theorem d7_6 : decode prog_3_method_6_code 6 = .ok (.iadd, 1) := by decide +kernel
theorem d7_7 : decode prog_3_method_6_code 7 = .ok (.putfield 34, 3) := by decide +kernel
theorem d7_10 : decode prog_3_method_6_code 10 = .ok (.return_, 1) := by decide +kernel
theorem d8_0 : decode prog_3_method_7_code 0 = .ok (.aload_n 0, 1) := by decide +kernel
theorem d8_1 : decode prog_3_method_7_code 1 = .ok (.dup, 1) := by decide +kernel
theorem d8_2 : decode prog_3_method_7_code 2 = .ok (.getfield 34, 3) := by decide +kernel
theorem d8_5 : decode prog_3_method_7_code 5 = .ok (.iconst 1, 1) := by decide +kernel
theorem d8_6 : decode prog_3_method_7_code 6 = .ok (.isub, 1) := by decide +kernel
theorem d8_7 : decode prog_3_method_7_code 7 = .ok (.putfield 34, 3) := by decide +kernel
theorem d8_10 : decode prog_3_method_7_code 10 = .ok (.return_, 1) := by decide +kernel
theorem pn_0 : plainName "com/example/wire3/wire3/broker/ServiceHasWorkersPinLaw" = true := by first | (simp [plainName, overriddenIn]; done) | decide +kernel
theorem pn_1 : plainName "com/example/wire3/wire3/broker/Service" = true := by first | (simp [plainName, overriddenIn]; done) | decide +kernel
theorem pn_3 : plainName "java/util/ArrayDeque" = true := by first | (simp [plainName, overriddenIn]; done) | decide +kernel
theorem pn_4 : plainName "java/util/AbstractCollection" = true := by first | (simp [plainName, overriddenIn]; done) | decide +kernel
theorem pn_5 : plainName "com/example/wire3/wire3/broker/Service" = true := by first | (simp [plainName, overriddenIn]; done) | decide +kernel
theorem pn_6 : plainName "com/example/wire3/wire3/broker/ServiceHasWorkersPinLaw" = true := by first | (simp [plainName, overriddenIn]; done) | decide +kernel
theorem pn_7 : plainName "com/example/wire3/wire3/broker/Service" = true := by first | (simp [plainName, overriddenIn]; done) | decide +kernel
theorem pn_8 : plainName "com/example/wire3/wire3/broker/Service" = true := by first | (simp [plainName, overriddenIn]; done) | decide +kernel
theorem pd_0 : parseMethodDescriptor "()V" = some ⟨[], none⟩ := by decide +kernel
theorem pd_1 : parseMethodDescriptor "(Lcom/example/wire3/wire3/broker/Service;II)I" = some ⟨[(.object "com/example/wire3/wire3/broker/Service"), .int, .int], some .int⟩ := by decide +kernel
theorem pd_2 : parseMethodDescriptor "()Z" = some ⟨[], some .boolean⟩ := by decide +kernel
theorem pd_3 : parseMethodDescriptor "([B)V" = some ⟨[(.array .byte)], none⟩ := by decide +kernel
theorem ef_4 (m : MethodId) (a1 : Addr) : entryFrame m #[(.ref a1)] 1 = mkF m 0 #[.val (.ref a1)] [] := by first | (simp [entryFrame, mkF, argsToLocals, Value.category]; done) | rfl
theorem ef_3 (m : MethodId) (a1 : Addr) : entryFrame m #[(.ref a1)] 1 = mkF m 0 #[.val (.ref a1)] [] := by first | (simp [entryFrame, mkF, argsToLocals, Value.category]; done) | rfl
theorem ef_1 (m : MethodId) (a1 : Addr) (a2 : Addr) : entryFrame m #[(.ref a1), (.ref a2)] 2 = mkF m 0 #[.val (.ref a1), .val (.ref a2)] [] := by first | (simp [entryFrame, mkF, argsToLocals, Value.category]; done) | rfl
theorem ef_5 (m : MethodId) (a1 : Addr) : entryFrame m #[(.ref a1)] 1 = mkF m 0 #[.val (.ref a1)] [] := by first | (simp [entryFrame, mkF, argsToLocals, Value.category]; done) | rfl
theorem ef_7 (m : MethodId) (a1 : Addr) : entryFrame m #[(.ref a1)] 1 = mkF m 0 #[.val (.ref a1)] [] := by first | (simp [entryFrame, mkF, argsToLocals, Value.category]; done) | rfl
theorem ef_8 (m : MethodId) (a1 : Addr) : entryFrame m #[(.ref a1)] 1 = mkF m 0 #[.val (.ref a1)] [] := by first | (simp [entryFrame, mkF, argsToLocals, Value.category]; done) | rfl
theorem ef_6 (m : MethodId) (a1 : Addr) (p2 : Int32) (p3 : Int32) : entryFrame m #[(.ref a1), (.int p2), (.int p3)] 3 = mkF m 0 #[.val (.ref a1), .val (.int p2), .val (.int p3)] [] := by first | (simp [entryFrame, mkF, argsToLocals, Value.category]; done) | rfl
theorem ef_0 (m : MethodId) (p0 : Int32) : entryFrame m #[(.int p0)] maxLocals = mkF m 0 #[.val (.int p0), .unset, .unset, .unset] [] := by first | (simp [entryFrame, mkF, argsToLocals, Value.category, maxLocals]; done) | rfl
def Q_rm4 (Z : State) (h0 : Heap) (n0 : Nat)  (v : Option Value) (h : Heap) (L : List Loc) : Prop := v = none ∧ Fr n0 L ∧ h = h0
set_option maxRecDepth 65536 in
set_option maxHeartbeats 40000000 in
theorem rm4 (l : Launch) (Z : State) (a0 : Array Value) (hw : ∀ d ∈ tables_1, d.before a0 Z = true) (ws : List Jvm.Cond) (a1 : Addr) (h0 : Heap) (n0 : Nat) (Z0 : n0 ≤ h0.size) :
    MetFree l (⟨"java/util/AbstractCollection", "<init>", "()V"⟩ : MethodName) (head1 (Jvm.Cond.code (⟨"java/util/AbstractCollection", "<init>", "()V"⟩ : MethodName) jdk_22_method_1_code 1 none :: ws) ({ frames := 1, cells := 0, slots := 0, locals := 12 } : Room)) (fun a U => a = #[(.ref a1)] ∧ Z.Warmed39 U.vm ∧ U.heap = h0) (fun _ _ _ _ _ => True) (fun _ U o U' => ∃ rv rL, o = .returned rv ∧ Q_rm4 Z h0 n0  rv U'.heap rL ∧ FrameEnd U o U' rL ({ frames := 1, cells := 0, slots := 0, locals := 12 } : Room).cells ({ frames := 1, cells := 0, slots := 0, locals := 12 } : Room).slots) := by
  refine own_met (y := (⟨"java/util/AbstractCollection", "<init>", "()V"⟩ : MethodName)) (Q := Q_rm4 Z h0 n0 ) (own := "java/util/AbstractCollection") rfl pn_4 ?_
  intro p e s m below meth c s₁ C e0 X0
  obtain ⟨hx, hby, hml, hown, hnm, hret, hlk, hZ⟩ := C
  have N0 := Fr.nil n0
  rw [ef_4]
  show own_Goes _ _ _ _ _ _ _ s₁ (mkF m 0 #[.val (.ref a1)] [])
  refine own_go (fun _ k => XS.aloadN X0.here hx rfl (hb hby d4_0) rfl rfl k) ?_
  show own_Goes _ _ _ _ _ _ _ s₁ (mkF m 1 #[.val (.ref a1)] [(.ref a1)])
  obtain ⟨T1, X1, e1, st1⟩ := initO X0 hx hZ hown (hw _ (List.mem_of_getElem? (i := 22) rfl)) (hw _ (List.mem_of_getElem? (i := 8) rfl)) (hw _ (List.mem_of_getElem? (i := 9) rfl)) e0 (g := (mkF m 1 #[.val (.ref a1)] [(.ref a1)])) rfl (by rw [hml]; rfl) rfl (hb hby d4_1) (by decide) (W := 0) (by show 2 * 0 + _ ≤ _; exact Nat.le_of_eq rfl) (by decide)
  refine own_go st1 ?_
  show own_Goes _ _ _ _ _ _ _ T1 (mkF m 4 #[.val (.ref a1)] [])
  exact own_retV X1 hx hlk hret (hb hby d4_4) (by decide) (by decide) (by rw [e1]; exact ⟨rfl, N0, rfl⟩)
def Q_rm3 (Z : State) (h0 : Heap) (n0 : Nat) (a1 : Addr) (v : Option Value) (h : Heap) (L : List Loc) : Prop := v = none ∧ Fr n0 L ∧ Keep h0 h [a1]
set_option maxRecDepth 65536 in
set_option maxHeartbeats 40000000 in
theorem rm3 (l : Launch) (Z : State) (a0 : Array Value) (hw : ∀ d ∈ tables_1, d.before a0 Z = true) (ws : List Jvm.Cond) (a1 : Addr) (h0 : Heap) (n0 : Nat) (Z0 : n0 ≤ h0.size) (F_el : Fld Z h0 a1 "java/util/ArrayDeque" "elements" "[Ljava/lang/Object;" .null) (E_a1 : Exa Z h0 a1 "java/util/ArrayDeque") (lo_a1 : n0 ≤ a1) :
    MetFree l (⟨"java/util/ArrayDeque", "<init>", "()V"⟩ : MethodName) (head1 (Jvm.Cond.code (⟨"java/util/ArrayDeque", "<init>", "()V"⟩ : MethodName) jdk_21_method_3_code 1 none :: ws) ({ frames := 2, cells := 1, slots := 17, locals := 24 } : Room)) (fun a U => a = #[(.ref a1)] ∧ Z.Warmed39 U.vm ∧ U.heap = h0) (fun _ _ _ _ _ => True) (fun _ U o U' => ∃ rv rL, o = .returned rv ∧ Q_rm3 Z h0 n0 a1 rv U'.heap rL ∧ FrameEnd U o U' rL ({ frames := 2, cells := 1, slots := 17, locals := 24 } : Room).cells ({ frames := 2, cells := 1, slots := 17, locals := 24 } : Room).slots) := by
  refine own_met (y := (⟨"java/util/ArrayDeque", "<init>", "()V"⟩ : MethodName)) (Q := Q_rm3 Z h0 n0 a1) (own := "java/util/ArrayDeque") rfl pn_3 ?_
  intro p e s m below meth c s₁ C e0 X0
  obtain ⟨hx, hby, hml, hown, hnm, hret, hlk, hZ⟩ := C
  have N0 := Fr.nil n0
  rw [ef_3]
  have Kp0 : Keep h0 h0 [a1] := Keep.refl h0 _
  show own_Goes _ _ _ _ _ _ _ s₁ (mkF m 0 #[.val (.ref a1)] [])
  refine own_go (fun _ k => XS.aloadN X0.here hx rfl (hb hby d3_0) rfl rfl k) ?_
  show own_Goes _ _ _ _ _ _ _ s₁ (mkF m 1 #[.val (.ref a1)] [(.ref a1)])
  obtain ⟨_, _, ⟨T1, L1, k1, n1⟩, -, X1, ⟨Lc1, hQ1, l1, y1, z1⟩, st1⟩ := X0.specialBack hx (y := (⟨"java/util/AbstractCollection", "<init>", "()V"⟩ : MethodName)) rfl hown (mvT hZ (hw _ (List.mem_of_getElem? (i := 16) rfl))) (mvT hZ (hw _ (List.mem_of_getElem? (i := 17) rfl))) (mvT hZ (hw _ (List.mem_of_getElem? (i := 21) rfl))) (by decide) (backOf (W := 0) (rm4 l Z a0 hw [] a1 h0 n0 Z0) hZ (hw _ (List.mem_of_getElem? (i := 21) rfl)) (hw _ (List.mem_of_getElem? (i := 20) rfl)) (by decide) (by decide)) (g := (mkF m 1 #[.val (.ref a1)] [(.ref a1)])) rfl (by rw [hml]; rfl) (Steps.refl _) (a := a1) (argsL := []) (rest := []) (lenOf pd_0 rfl) rfl (by show 2 * 0 + _ ≤ _; exact Nat.le_of_eq rfl) (hb hby d3_1) (fun _ _ => ⟨rfl, e0, (by decide : 0 + 0 ≤ _), (by decide : 0 + 0 ≤ _)⟩)
  dsimp only [Pt.U, Pt.locs, Pt.cells, Pt.slots] at X1 l1 y1 z1 st1 hQ1
  subst l1 y1 z1
  obtain ⟨rfl, N1q, e1⟩ := hQ1
  have N1 := Fr.app N0 N1q
  refine own_goS st1 ?_
  show own_Goes _ _ _ _ _ _ _ T1 (mkF m 4 #[.val (.ref a1)] [])
  refine own_go (fun _ k => XS.aloadN X1.here hx rfl (hb hby d3_4) rfl rfl k) ?_
  show own_Goes _ _ _ _ _ _ _ T1 (mkF m 5 #[.val (.ref a1)] [(.ref a1)])
  refine own_go (fun _ k => XS.bipush X1.here hx rfl (hb hby d3_5) k) ?_
  show own_Goes _ _ _ _ _ _ _ T1 (mkF m 7 #[.val (.ref a1)] [(.int (17 : Int32)), (.ref a1)])
  obtain ⟨T2, h2, k2, X2, e2, E2, A2, O2, st2⟩ := newR X1 hx hZ hown (hw _ (List.mem_of_getElem? (i := 23) rfl)) (hw _ (List.mem_of_getElem? (i := 24) rfl)) e1 (g := (mkF m 7 #[.val (.ref a1)] [(.int (17 : Int32)), (.ref a1)])) rfl (hb hby d3_7) rfl (by decide) (cap := 17) (by decide) (by decide) (by decide) (by decide)
  obtain ⟨b2, g2⟩ : ∃ z, z = h0.size := ⟨_, rfl⟩
  rw [← g2] at A2 st2
  have lo_b2 : n0 ≤ b2 := Nat.le_trans Z0 (Nat.le_of_eq g2.symm)
  have bo_b2 : h0.size ≤ b2 := Nat.le_trans Kp0.1 (Nat.le_of_eq g2.symm)
  have ne_a1_b2 : a1 ≠ b2 := Nat.ne_of_lt (Nat.lt_of_lt_of_le F_el.lt (Nat.le_of_eq g2.symm))
  have F_el_2 : Fld Z h2 a1 "java/util/ArrayDeque" "elements" "[Ljava/lang/Object;" .null := F_el.ext E2
  have E_a1_2 : Exa Z h2 a1 "java/util/ArrayDeque" := E_a1.ext E2
  have Zs2 : n0 ≤ h2.size := Nat.le_trans Z0 E2.1
  have Kp2 : Keep h0 h2 [a1] := Kp0.ext E2
  refine own_go st2 ?_
  show own_Goes _ _ _ _ _ _ _ T2 (mkF m 10 #[.val (.ref a1)] [(.ref b2), (.ref a1)])
  obtain ⟨T3, h3, X3, e3, W3, st3⟩ := putF X2 hx hZ hown (host := "") (Or.inl (hw _ (List.mem_of_getElem? (i := 25) rfl))) Via.refl e2 F_el_2 E_a1_2 (Or.inl (hw _ (List.mem_of_getElem? (i := 26) rfl))) (hw _ (List.mem_of_getElem? (i := 11) rfl)) (ty := (.array (.object "java/lang/Object"))) (by decide) rfl rfl (g := (mkF m 10 #[.val (.ref a1)] [(.ref b2), (.ref a1)])) rfl rfl (hb hby d3_10)
  have F_el_3 : Fld Z h3 a1 "java/util/ArrayDeque" "elements" "[Ljava/lang/Object;" (.ref b2) := F_el_2.same W3
  have N3 := Fr.snoc X3 N1 lo_a1
  have E_a1_3 : Exa Z h3 a1 "java/util/ArrayDeque" := E_a1_2.wr W3
  have V_b2_3 : Arr Z h3 b2 (newA k2 (.object "java/lang/Object") (17 : Int32)) (.object "java/lang/Object") := A2.other W3 (Ne.symm ne_a1_b2)
  have Zs3 : n0 ≤ h3.size := Nat.le_trans Zs2 (Keep.of_wr W3).1
  have Kp3 : Keep h0 h3 [a1] := Kp2.wr W3 (Or.inl (by simp))
  refine own_go st3 ?_
  show own_Goes _ _ _ _ _ _ _ T3 (mkF m 13 #[.val (.ref a1)] [])
  exact own_retV X3 hx hlk hret (hb hby d3_13) (by decide) (by decide) (by rw [e3]; exact ⟨rfl, N3, Kp3⟩)
def Q_rm1 (Z : State) (h0 : Heap) (n0 : Nat) (a1 : Addr) (v : Option Value) (h : Heap) (L : List Loc) : Prop := v = none ∧ Fr n0 L ∧ Keep h0 h [a1] ∧ Fld Z h a1 "com/example/wire3/wire3/broker/Service" "workers" "I" (.int (0 : Int32))
set_option maxRecDepth 65536 in
set_option maxHeartbeats 40000000 in
theorem rm1 (l : Launch) (Z : State) (a0 : Array Value) (hw : ∀ d ∈ tables_1, d.before a0 Z = true) (ws : List Jvm.Cond) (a1 a2 : Addr) (h0 : Heap) (n0 : Nat) (Z0 : n0 ≤ h0.size) (E_a1 : Exa Z h0 a1 "com/example/wire3/wire3/broker/Service") (F_rq : Fld Z h0 a1 "com/example/wire3/wire3/broker/Service" "requests" "Ljava/util/Deque;" .null) (F_fw : Fld Z h0 a1 "com/example/wire3/wire3/broker/Service" "freeWorkers" "Ljava/util/Deque;" .null) (F_nm : Fld Z h0 a1 "com/example/wire3/wire3/broker/Service" "name" "[B" .null) (F_wk : Fld Z h0 a1 "com/example/wire3/wire3/broker/Service" "workers" "I" (.int (0 : Int32))) (lo_a1 : n0 ≤ a1) :
    MetFree l (⟨"com/example/wire3/wire3/broker/Service", "<init>", "([B)V"⟩ : MethodName) (head1 (Jvm.Cond.code (⟨"com/example/wire3/wire3/broker/Service", "<init>", "([B)V"⟩ : MethodName) prog_3_method_1_code 2 none :: ws) ({ frames := 3, cells := 4, slots := 40, locals := 40 } : Room)) (fun a U => a = #[(.ref a1), (.ref a2)] ∧ Z.Warmed39 U.vm ∧ U.heap = h0) (fun _ _ _ _ _ => True) (fun _ U o U' => ∃ rv rL, o = .returned rv ∧ Q_rm1 Z h0 n0 a1 rv U'.heap rL ∧ FrameEnd U o U' rL ({ frames := 3, cells := 4, slots := 40, locals := 40 } : Room).cells ({ frames := 3, cells := 4, slots := 40, locals := 40 } : Room).slots) := by
  refine own_met (y := (⟨"com/example/wire3/wire3/broker/Service", "<init>", "([B)V"⟩ : MethodName)) (Q := Q_rm1 Z h0 n0 a1) (own := "com/example/wire3/wire3/broker/Service") rfl pn_1 ?_
  intro p e s m below meth c s₁ C e0 X0
  obtain ⟨hx, hby, hml, hown, hnm, hret, hlk, hZ⟩ := C
  have N0 := Fr.nil n0
  rw [ef_1]
  have Kp0 : Keep h0 h0 [a1] := Keep.refl h0 _
  show own_Goes _ _ _ _ _ _ _ s₁ (mkF m 0 #[.val (.ref a1), .val (.ref a2)] [])
  refine own_go (fun _ k => XS.aloadN X0.here hx rfl (hb hby d1_0) rfl rfl k) ?_
  show own_Goes _ _ _ _ _ _ _ s₁ (mkF m 1 #[.val (.ref a1), .val (.ref a2)] [(.ref a1)])
  obtain ⟨T1, X1, e1, st1⟩ := initO X0 hx hZ hown (hw _ (List.mem_of_getElem? (i := 7) rfl)) (hw _ (List.mem_of_getElem? (i := 8) rfl)) (hw _ (List.mem_of_getElem? (i := 9) rfl)) e0 (g := (mkF m 1 #[.val (.ref a1), .val (.ref a2)] [(.ref a1)])) rfl (by rw [hml]; rfl) rfl (hb hby d1_1) (by decide) (W := 0) (by show 2 * 0 + _ ≤ _; exact Nat.le_of_eq rfl) (by decide)
  refine own_go st1 ?_
  show own_Goes _ _ _ _ _ _ _ T1 (mkF m 4 #[.val (.ref a1), .val (.ref a2)] [])
  refine own_go (fun _ k => XS.aloadN X1.here hx rfl (hb hby d1_4) rfl rfl k) ?_
  show own_Goes _ _ _ _ _ _ _ T1 (mkF m 5 #[.val (.ref a1), .val (.ref a2)] [(.ref a1)])
  obtain ⟨T2, h2, X2, e2, E2, A2, D2, -, st2⟩ := newO X1 hx hZ hown (hw _ (List.mem_of_getElem? (i := 10) rfl)) (hw _ (List.mem_of_getElem? (i := 11) rfl)) (hw _ (List.mem_of_getElem? (i := 12) rfl)) e1 (g := (mkF m 5 #[.val (.ref a1), .val (.ref a2)] [(.ref a1)])) rfl (hb hby d1_5) (by decide) (by decide)
  obtain ⟨b2, g2⟩ : ∃ z, z = h0.size := ⟨_, rfl⟩
  rw [← g2] at A2 D2 st2
  have lo_b2 : n0 ≤ b2 := Nat.le_trans Z0 (Nat.le_of_eq g2.symm)
  have bo_b2 : h0.size ≤ b2 := Nat.le_trans Kp0.1 (Nat.le_of_eq g2.symm)
  have ne_a1_b2 : a1 ≠ b2 := Nat.ne_of_lt (Nat.lt_of_lt_of_le E_a1.lt (Nat.le_of_eq g2.symm))
  have E_a1_2 : Exa Z h2 a1 "com/example/wire3/wire3/broker/Service" := E_a1.ext E2
  have F_rq_2 : Fld Z h2 a1 "com/example/wire3/wire3/broker/Service" "requests" "Ljava/util/Deque;" .null := F_rq.ext E2
  have F_fw_2 : Fld Z h2 a1 "com/example/wire3/wire3/broker/Service" "freeWorkers" "Ljava/util/Deque;" .null := F_fw.ext E2
  have F_nm_2 : Fld Z h2 a1 "com/example/wire3/wire3/broker/Service" "name" "[B" .null := F_nm.ext E2
  have F_wk_2 : Fld Z h2 a1 "com/example/wire3/wire3/broker/Service" "workers" "I" (.int (0 : Int32)) := F_wk.ext E2
  have Zs2 : n0 ≤ h2.size := Nat.le_trans Z0 E2.1
  have Kp2 : Keep h0 h2 [a1] := Kp0.ext E2
  have F_elements_b2 : Fld Z h2 b2 "java/util/ArrayDeque" "elements" "[Ljava/lang/Object;" .null := D2 (Or.inl (hw _ (List.mem_of_getElem? (i := 26) rfl))) (ty := (.array (.object "java/lang/Object"))) (by decide)
  refine own_go st2 ?_
  show own_Goes _ _ _ _ _ _ _ T2 (mkF m 8 #[.val (.ref a1), .val (.ref a2)] [(.ref b2), (.ref a1)])
  refine own_go (fun _ k => XS.dup X2.here hx rfl (hb hby d1_8) rfl rfl k) ?_
  show own_Goes _ _ _ _ _ _ _ T2 (mkF m 9 #[.val (.ref a1), .val (.ref a2)] [(.ref b2), (.ref b2), (.ref a1)])
  obtain ⟨_, _, ⟨T3, L3, k3, n3⟩, -, X3, ⟨Lc3, hQ3, l3, y3, z3⟩, st3⟩ := X2.specialBack hx (y := (⟨"java/util/ArrayDeque", "<init>", "()V"⟩ : MethodName)) rfl hown (mvT hZ (hw _ (List.mem_of_getElem? (i := 13) rfl))) (mvT hZ (hw _ (List.mem_of_getElem? (i := 14) rfl))) (mvT hZ (hw _ (List.mem_of_getElem? (i := 15) rfl))) (by decide) (backOf (W := 2) (rm3 l Z a0 hw [] b2 h2 n0 Zs2 F_elements_b2 A2 lo_b2) hZ (hw _ (List.mem_of_getElem? (i := 15) rfl)) (hw _ (List.mem_of_getElem? (i := 12) rfl)) (by decide) (by decide)) (g := (mkF m 9 #[.val (.ref a1), .val (.ref a2)] [(.ref b2), (.ref b2), (.ref a1)])) rfl (by rw [hml]; rfl) (Steps.refl _) (a := b2) (argsL := []) (rest := [(.ref b2), (.ref a1)]) (lenOf pd_0 rfl) rfl (by show 2 * 0 + _ ≤ _; exact Nat.le_of_eq rfl) (hb hby d1_9) (fun _ _ => ⟨rfl, e2, (by decide : 0 + 1 + 1 ≤ _), (by decide : 0 + 3 + 17 ≤ _)⟩)
  dsimp only [Pt.U, Pt.locs, Pt.cells, Pt.slots] at X3 l3 y3 z3 st3 hQ3
  subst l3 y3 z3
  obtain ⟨rfl, N3q, K3⟩ := hQ3
  have N3 := Fr.app N0 N3q
  refine own_goS st3 ?_
  show own_Goes _ _ _ _ _ _ _ T3 (mkF m 12 #[.val (.ref a1), .val (.ref a2)] [(.ref b2), (.ref a1)])
  have E_a1_3 : Exa Z T3.heap a1 "com/example/wire3/wire3/broker/Service" := E_a1_2.keep K3
  have F_rq_3 : Fld Z T3.heap a1 "com/example/wire3/wire3/broker/Service" "requests" "Ljava/util/Deque;" .null := F_rq_2.keep K3 (ninS ne_a1_b2 nin0)
  have F_fw_3 : Fld Z T3.heap a1 "com/example/wire3/wire3/broker/Service" "freeWorkers" "Ljava/util/Deque;" .null := F_fw_2.keep K3 (ninS ne_a1_b2 nin0)
  have F_nm_3 : Fld Z T3.heap a1 "com/example/wire3/wire3/broker/Service" "name" "[B" .null := F_nm_2.keep K3 (ninS ne_a1_b2 nin0)
  have F_wk_3 : Fld Z T3.heap a1 "com/example/wire3/wire3/broker/Service" "workers" "I" (.int (0 : Int32)) := F_wk_2.keep K3 (ninS ne_a1_b2 nin0)
  have E_b2_3 : Exa Z T3.heap b2 "java/util/ArrayDeque" := A2.keep K3
  have Zs3 : n0 ≤ T3.heap.size := Nat.le_trans Zs2 K3.1
  have Kp3 : Keep h0 T3.heap [a1] := Kp2.trans K3 (allS (Or.inr bo_b2) all0)
  obtain ⟨T4, h4, X4, e4, W4, st4⟩ := putF X3 hx hZ hown (host := "") (Or.inl (hw _ (List.mem_of_getElem? (i := 27) rfl))) Via.refl rfl F_rq_3 E_a1_3 (Or.inr ⟨(hw _ (List.mem_of_getElem? (i := 28) rfl)), rfl, hnm⟩) (hw _ (List.mem_of_getElem? (i := 1) rfl)) (ty := (.object "java/util/Deque")) (by decide) rfl rfl (g := (mkF m 12 #[.val (.ref a1), .val (.ref a2)] [(.ref b2), (.ref a1)])) rfl rfl (hb hby d1_12)
  have F_rq_4 : Fld Z h4 a1 "com/example/wire3/wire3/broker/Service" "requests" "Ljava/util/Deque;" (.ref b2) := F_rq_3.same W4
  have N4 := Fr.snoc X4 N3 lo_a1
  have E_a1_4 : Exa Z h4 a1 "com/example/wire3/wire3/broker/Service" := E_a1_3.wr W4
  have F_fw_4 : Fld Z h4 a1 "com/example/wire3/wire3/broker/Service" "freeWorkers" "Ljava/util/Deque;" .null := F_fw_3.other W4 (Or.inr (slot_ne (Or.inr (hw _ (List.mem_of_getElem? (i := 30) rfl))) (Or.inr (hw _ (List.mem_of_getElem? (i := 28) rfl))) (by decide) (t := (.object "java/util/Deque")) (t' := (.object "java/util/Deque")) (by decide) (by decide)))
  have F_nm_4 : Fld Z h4 a1 "com/example/wire3/wire3/broker/Service" "name" "[B" .null := F_nm_3.other W4 (Or.inr (slot_ne (Or.inr (hw _ (List.mem_of_getElem? (i := 32) rfl))) (Or.inr (hw _ (List.mem_of_getElem? (i := 28) rfl))) (by decide) (t := (.array .byte)) (t' := (.object "java/util/Deque")) (by decide) (by decide)))
  have F_wk_4 : Fld Z h4 a1 "com/example/wire3/wire3/broker/Service" "workers" "I" (.int (0 : Int32)) := F_wk_3.other W4 (Or.inr (slot_ne (Or.inl (hw _ (List.mem_of_getElem? (i := 39) rfl))) (Or.inr (hw _ (List.mem_of_getElem? (i := 28) rfl))) (by decide) (t := .int) (t' := (.object "java/util/Deque")) (by decide) (by decide)))
  have E_b2_4 : Exa Z h4 b2 "java/util/ArrayDeque" := E_b2_3.wr W4
  have Zs4 : n0 ≤ h4.size := Nat.le_trans Zs3 (Keep.of_wr W4).1
  have Kp4 : Keep h0 h4 [a1] := Kp3.wr W4 (Or.inl (by simp))
  refine own_go st4 ?_
  show own_Goes _ _ _ _ _ _ _ T4 (mkF m 15 #[.val (.ref a1), .val (.ref a2)] [])
  refine own_go (fun _ k => XS.aloadN X4.here hx rfl (hb hby d1_15) rfl rfl k) ?_
  show own_Goes _ _ _ _ _ _ _ T4 (mkF m 16 #[.val (.ref a1), .val (.ref a2)] [(.ref a1)])
  obtain ⟨T5, h5, X5, e5, E5, A5, D5, -, st5⟩ := newO X4 hx hZ hown (hw _ (List.mem_of_getElem? (i := 10) rfl)) (hw _ (List.mem_of_getElem? (i := 11) rfl)) (hw _ (List.mem_of_getElem? (i := 12) rfl)) e4 (g := (mkF m 16 #[.val (.ref a1), .val (.ref a2)] [(.ref a1)])) rfl (hb hby d1_16) (by decide) (by decide)
  obtain ⟨b5, g5⟩ : ∃ z, z = h4.size := ⟨_, rfl⟩
  rw [← g5] at A5 D5 st5
  have lo_b5 : n0 ≤ b5 := Nat.le_trans Zs4 (Nat.le_of_eq g5.symm)
  have bo_b5 : h0.size ≤ b5 := Nat.le_trans Kp4.1 (Nat.le_of_eq g5.symm)
  have ne_a1_b5 : a1 ≠ b5 := Nat.ne_of_lt (Nat.lt_of_lt_of_le E_a1_4.lt (Nat.le_of_eq g5.symm))
  have ne_b2_b5 : b2 ≠ b5 := Nat.ne_of_lt (Nat.lt_of_lt_of_le E_b2_4.lt (Nat.le_of_eq g5.symm))
  have E_a1_5 : Exa Z h5 a1 "com/example/wire3/wire3/broker/Service" := E_a1_4.ext E5
  have F_fw_5 : Fld Z h5 a1 "com/example/wire3/wire3/broker/Service" "freeWorkers" "Ljava/util/Deque;" .null := F_fw_4.ext E5
  have F_nm_5 : Fld Z h5 a1 "com/example/wire3/wire3/broker/Service" "name" "[B" .null := F_nm_4.ext E5
  have F_wk_5 : Fld Z h5 a1 "com/example/wire3/wire3/broker/Service" "workers" "I" (.int (0 : Int32)) := F_wk_4.ext E5
  have E_b2_5 : Exa Z h5 b2 "java/util/ArrayDeque" := E_b2_4.ext E5
  have F_rq_5 : Fld Z h5 a1 "com/example/wire3/wire3/broker/Service" "requests" "Ljava/util/Deque;" (.ref b2) := F_rq_4.ext E5
  have Zs5 : n0 ≤ h5.size := Nat.le_trans Zs4 E5.1
  have Kp5 : Keep h0 h5 [a1] := Kp4.ext E5
  have F_elements_b5 : Fld Z h5 b5 "java/util/ArrayDeque" "elements" "[Ljava/lang/Object;" .null := D5 (Or.inl (hw _ (List.mem_of_getElem? (i := 26) rfl))) (ty := (.array (.object "java/lang/Object"))) (by decide)
  refine own_go st5 ?_
  show own_Goes _ _ _ _ _ _ _ T5 (mkF m 19 #[.val (.ref a1), .val (.ref a2)] [(.ref b5), (.ref a1)])
  refine own_go (fun _ k => XS.dup X5.here hx rfl (hb hby d1_19) rfl rfl k) ?_
  show own_Goes _ _ _ _ _ _ _ T5 (mkF m 20 #[.val (.ref a1), .val (.ref a2)] [(.ref b5), (.ref b5), (.ref a1)])
  obtain ⟨_, _, ⟨T6, L6, k6, n6⟩, -, X6, ⟨Lc6, hQ6, l6, y6, z6⟩, st6⟩ := X5.specialBack hx (y := (⟨"java/util/ArrayDeque", "<init>", "()V"⟩ : MethodName)) rfl hown (mvT hZ (hw _ (List.mem_of_getElem? (i := 13) rfl))) (mvT hZ (hw _ (List.mem_of_getElem? (i := 14) rfl))) (mvT hZ (hw _ (List.mem_of_getElem? (i := 15) rfl))) (by decide) (backOf (W := 2) (rm3 l Z a0 hw [] b5 h5 n0 Zs5 F_elements_b5 A5 lo_b5) hZ (hw _ (List.mem_of_getElem? (i := 15) rfl)) (hw _ (List.mem_of_getElem? (i := 12) rfl)) (by decide) (by decide)) (g := (mkF m 20 #[.val (.ref a1), .val (.ref a2)] [(.ref b5), (.ref b5), (.ref a1)])) rfl (by rw [hml]; rfl) (Steps.refl _) (a := b5) (argsL := []) (rest := [(.ref b5), (.ref a1)]) (lenOf pd_0 rfl) rfl (by show 2 * 0 + _ ≤ _; exact Nat.le_of_eq rfl) (hb hby d1_20) (fun _ _ => ⟨rfl, e5, (by decide : 0 + 1 + 1 + 1 + 1 ≤ _), (by decide : 0 + 3 + 17 + 3 + 17 ≤ _)⟩)
  dsimp only [Pt.U, Pt.locs, Pt.cells, Pt.slots] at X6 l6 y6 z6 st6 hQ6
  subst l6 y6 z6
  obtain ⟨rfl, N6q, K6⟩ := hQ6
  have N6 := Fr.app N4 N6q
  refine own_goS st6 ?_
  show own_Goes _ _ _ _ _ _ _ T6 (mkF m 23 #[.val (.ref a1), .val (.ref a2)] [(.ref b5), (.ref a1)])
  have E_a1_6 : Exa Z T6.heap a1 "com/example/wire3/wire3/broker/Service" := E_a1_5.keep K6
  have F_fw_6 : Fld Z T6.heap a1 "com/example/wire3/wire3/broker/Service" "freeWorkers" "Ljava/util/Deque;" .null := F_fw_5.keep K6 (ninS ne_a1_b5 nin0)
  have F_nm_6 : Fld Z T6.heap a1 "com/example/wire3/wire3/broker/Service" "name" "[B" .null := F_nm_5.keep K6 (ninS ne_a1_b5 nin0)
  have F_wk_6 : Fld Z T6.heap a1 "com/example/wire3/wire3/broker/Service" "workers" "I" (.int (0 : Int32)) := F_wk_5.keep K6 (ninS ne_a1_b5 nin0)
  have E_b2_6 : Exa Z T6.heap b2 "java/util/ArrayDeque" := E_b2_5.keep K6
  have F_rq_6 : Fld Z T6.heap a1 "com/example/wire3/wire3/broker/Service" "requests" "Ljava/util/Deque;" (.ref b2) := F_rq_5.keep K6 (ninS ne_a1_b5 nin0)
  have E_b5_6 : Exa Z T6.heap b5 "java/util/ArrayDeque" := A5.keep K6
  have Zs6 : n0 ≤ T6.heap.size := Nat.le_trans Zs5 K6.1
  have Kp6 : Keep h0 T6.heap [a1] := Kp5.trans K6 (allS (Or.inr bo_b5) all0)
  obtain ⟨T7, h7, X7, e7, W7, st7⟩ := putF X6 hx hZ hown (host := "") (Or.inl (hw _ (List.mem_of_getElem? (i := 29) rfl))) Via.refl rfl F_fw_6 E_a1_6 (Or.inr ⟨(hw _ (List.mem_of_getElem? (i := 30) rfl)), rfl, hnm⟩) (hw _ (List.mem_of_getElem? (i := 1) rfl)) (ty := (.object "java/util/Deque")) (by decide) rfl rfl (g := (mkF m 23 #[.val (.ref a1), .val (.ref a2)] [(.ref b5), (.ref a1)])) rfl rfl (hb hby d1_23)
  have F_fw_7 : Fld Z h7 a1 "com/example/wire3/wire3/broker/Service" "freeWorkers" "Ljava/util/Deque;" (.ref b5) := F_fw_6.same W7
  have N7 := Fr.snoc X7 N6 lo_a1
  have E_a1_7 : Exa Z h7 a1 "com/example/wire3/wire3/broker/Service" := E_a1_6.wr W7
  have F_nm_7 : Fld Z h7 a1 "com/example/wire3/wire3/broker/Service" "name" "[B" .null := F_nm_6.other W7 (Or.inr (slot_ne (Or.inr (hw _ (List.mem_of_getElem? (i := 32) rfl))) (Or.inr (hw _ (List.mem_of_getElem? (i := 30) rfl))) (by decide) (t := (.array .byte)) (t' := (.object "java/util/Deque")) (by decide) (by decide)))
  have F_wk_7 : Fld Z h7 a1 "com/example/wire3/wire3/broker/Service" "workers" "I" (.int (0 : Int32)) := F_wk_6.other W7 (Or.inr (slot_ne (Or.inl (hw _ (List.mem_of_getElem? (i := 39) rfl))) (Or.inr (hw _ (List.mem_of_getElem? (i := 30) rfl))) (by decide) (t := .int) (t' := (.object "java/util/Deque")) (by decide) (by decide)))
  have E_b2_7 : Exa Z h7 b2 "java/util/ArrayDeque" := E_b2_6.wr W7
  have F_rq_7 : Fld Z h7 a1 "com/example/wire3/wire3/broker/Service" "requests" "Ljava/util/Deque;" (.ref b2) := F_rq_6.other W7 (Or.inr (slot_ne (Or.inr (hw _ (List.mem_of_getElem? (i := 28) rfl))) (Or.inr (hw _ (List.mem_of_getElem? (i := 30) rfl))) (by decide) (t := (.object "java/util/Deque")) (t' := (.object "java/util/Deque")) (by decide) (by decide)))
  have E_b5_7 : Exa Z h7 b5 "java/util/ArrayDeque" := E_b5_6.wr W7
  have Zs7 : n0 ≤ h7.size := Nat.le_trans Zs6 (Keep.of_wr W7).1
  have Kp7 : Keep h0 h7 [a1] := Kp6.wr W7 (Or.inl (by simp))
  refine own_go st7 ?_
  show own_Goes _ _ _ _ _ _ _ T7 (mkF m 26 #[.val (.ref a1), .val (.ref a2)] [])
  refine own_go (fun _ k => XS.aloadN X7.here hx rfl (hb hby d1_26) rfl rfl k) ?_
  show own_Goes _ _ _ _ _ _ _ T7 (mkF m 27 #[.val (.ref a1), .val (.ref a2)] [(.ref a1)])
  refine own_go (fun _ k => XS.aloadN X7.here hx rfl (hb hby d1_27) rfl rfl k) ?_
  show own_Goes _ _ _ _ _ _ _ T7 (mkF m 28 #[.val (.ref a1), .val (.ref a2)] [(.ref a2), (.ref a1)])
  obtain ⟨T8, h8, X8, e8, W8, st8⟩ := putF X7 hx hZ hown (host := "") (Or.inl (hw _ (List.mem_of_getElem? (i := 31) rfl))) Via.refl e7 F_nm_7 E_a1_7 (Or.inr ⟨(hw _ (List.mem_of_getElem? (i := 32) rfl)), rfl, hnm⟩) (hw _ (List.mem_of_getElem? (i := 1) rfl)) (ty := (.array .byte)) (by decide) rfl rfl (g := (mkF m 28 #[.val (.ref a1), .val (.ref a2)] [(.ref a2), (.ref a1)])) rfl rfl (hb hby d1_28)
  have F_nm_8 : Fld Z h8 a1 "com/example/wire3/wire3/broker/Service" "name" "[B" (.ref a2) := F_nm_7.same W8
  have N8 := Fr.snoc X8 N7 lo_a1
  have E_a1_8 : Exa Z h8 a1 "com/example/wire3/wire3/broker/Service" := E_a1_7.wr W8
  have F_wk_8 : Fld Z h8 a1 "com/example/wire3/wire3/broker/Service" "workers" "I" (.int (0 : Int32)) := F_wk_7.other W8 (Or.inr (slot_ne (Or.inl (hw _ (List.mem_of_getElem? (i := 39) rfl))) (Or.inr (hw _ (List.mem_of_getElem? (i := 32) rfl))) (by decide) (t := .int) (t' := (.array .byte)) (by decide) (by decide)))
  have E_b2_8 : Exa Z h8 b2 "java/util/ArrayDeque" := E_b2_7.wr W8
  have F_rq_8 : Fld Z h8 a1 "com/example/wire3/wire3/broker/Service" "requests" "Ljava/util/Deque;" (.ref b2) := F_rq_7.other W8 (Or.inr (slot_ne (Or.inr (hw _ (List.mem_of_getElem? (i := 28) rfl))) (Or.inr (hw _ (List.mem_of_getElem? (i := 32) rfl))) (by decide) (t := (.object "java/util/Deque")) (t' := (.array .byte)) (by decide) (by decide)))
  have E_b5_8 : Exa Z h8 b5 "java/util/ArrayDeque" := E_b5_7.wr W8
  have F_fw_8 : Fld Z h8 a1 "com/example/wire3/wire3/broker/Service" "freeWorkers" "Ljava/util/Deque;" (.ref b5) := F_fw_7.other W8 (Or.inr (slot_ne (Or.inr (hw _ (List.mem_of_getElem? (i := 30) rfl))) (Or.inr (hw _ (List.mem_of_getElem? (i := 32) rfl))) (by decide) (t := (.object "java/util/Deque")) (t' := (.array .byte)) (by decide) (by decide)))
  have Zs8 : n0 ≤ h8.size := Nat.le_trans Zs7 (Keep.of_wr W8).1
  have Kp8 : Keep h0 h8 [a1] := Kp7.wr W8 (Or.inl (by simp))
  refine own_go st8 ?_
  show own_Goes _ _ _ _ _ _ _ T8 (mkF m 31 #[.val (.ref a1), .val (.ref a2)] [])
  exact own_retV X8 hx hlk hret (hb hby d1_31) (by decide) (by decide) (by rw [e8]; exact ⟨rfl, N8, Kp8, F_wk_8⟩)
def Q_rm5 (Z : State) (h0 : Heap) (n0 : Nat) (p1 : Int32) (v : Option Value) (h : Heap) (L : List Loc) : Prop := v = some (.int (own_pos p1)) ∧ Fr n0 L ∧ h = h0
set_option maxRecDepth 65536 in
set_option maxHeartbeats 40000000 in
theorem rm5 (l : Launch) (Z : State) (a0 : Array Value) (hw : ∀ d ∈ tables_1, d.before a0 Z = true) (ws : List Jvm.Cond) (a1 : Addr) (p1 : Int32) (h0 : Heap) (n0 : Nat) (Z0 : n0 ≤ h0.size) (F_wk : Fld Z h0 a1 "com/example/wire3/wire3/broker/Service" "workers" "I" (.int p1)) :
    MetFree l (⟨"com/example/wire3/wire3/broker/Service", "hasWorkers", "()Z"⟩ : MethodName) (head1 (Jvm.Cond.code (⟨"com/example/wire3/wire3/broker/Service", "hasWorkers", "()Z"⟩ : MethodName) prog_3_method_8_code 1 (some .boolean) :: ws) ({ frames := 0, cells := 0, slots := 0, locals := 0 } : Room)) (fun a U => a = #[(.ref a1)] ∧ Z.Warmed39 U.vm ∧ U.heap = h0) (fun _ _ _ _ _ => True) (fun _ U o U' => ∃ rv rL, o = .returned rv ∧ Q_rm5 Z h0 n0 p1 rv U'.heap rL ∧ FrameEnd U o U' rL ({ frames := 0, cells := 0, slots := 0, locals := 0 } : Room).cells ({ frames := 0, cells := 0, slots := 0, locals := 0 } : Room).slots) := by
  refine own_met (y := (⟨"com/example/wire3/wire3/broker/Service", "hasWorkers", "()Z"⟩ : MethodName)) (Q := Q_rm5 Z h0 n0 p1) (own := "com/example/wire3/wire3/broker/Service") rfl pn_5 ?_
  intro p e s m below meth c s₁ C e0 X0
  obtain ⟨hx, hby, hml, hown, hnm, hret, hlk, hZ⟩ := C
  have N0 := Fr.nil n0
  rw [ef_5]
  show own_Goes _ _ _ _ _ _ _ s₁ (mkF m 0 #[.val (.ref a1)] [])
  refine own_go (fun _ k => XS.aloadN X0.here hx rfl (hb hby d5_0) rfl rfl k) ?_
  show own_Goes _ _ _ _ _ _ _ s₁ (mkF m 1 #[.val (.ref a1)] [(.ref a1)])
  obtain ⟨T1, X1, e1, st1⟩ := getF X0 hx hZ hown (host := "") (Or.inl (hw _ (List.mem_of_getElem? (i := 38) rfl))) Via.refl e0 F_wk (g := (mkF m 1 #[.val (.ref a1)] [(.ref a1)])) rfl rfl (hb hby d5_1)
  refine own_go st1 ?_
  show own_Goes _ _ _ _ _ _ _ T1 (mkF m 4 #[.val (.ref a1)] [(.int p1)])
  by_cases hc4 : (0 : Int32) < p1
  · refine own_go (fun _ k => XS.ifNo X1.here hx rfl (hb hby d5_4) rfl ((if0 _ _).trans (tlt hc4).2.2.2) k) ?_
    show own_Goes _ _ _ _ _ _ _ T1 (mkF m 7 #[.val (.ref a1)] [])
    refine own_go (fun _ k => XS.iconst X1.here hx rfl (hb hby d5_7) k) ?_
    show own_Goes _ _ _ _ _ _ _ T1 (mkF m 8 #[.val (.ref a1)] [(.int (1 : Int32))])
    refine own_go (fun _ k => XS.goto X1.here hx rfl (pc0 := 8) (pc' := 12) rfl (hb hby d5_8) (by decide) (by decide) k) ?_
    show own_Goes _ _ _ _ _ _ _ T1 (mkF m 12 #[.val (.ref a1)] [(.int (1 : Int32))])
    exact own_retN X1 hx (t := .boolean) hlk hret (by simp) (hb hby d5_12) (by decide) (by decide) ⟨by simp [own_pos, nar, *], N0, e1⟩
  · refine own_go (fun _ k => XS.ifYes X1.here hx rfl (pc0 := 4) (pc' := 11) rfl (hb hby d5_4) rfl ((if0 _ _).trans (flt hc4).2.2.2) (by decide) (by decide) k) ?_
    show own_Goes _ _ _ _ _ _ _ T1 (mkF m 11 #[.val (.ref a1)] [])
    refine own_go (fun _ k => XS.iconst X1.here hx rfl (hb hby d5_11) k) ?_
    show own_Goes _ _ _ _ _ _ _ T1 (mkF m 12 #[.val (.ref a1)] [(.int (0 : Int32))])
    exact own_retN X1 hx (t := .boolean) hlk hret (by simp) (hb hby d5_12) (by decide) (by decide) ⟨by simp [own_pos, nar, *], N0, e1⟩
def Q_rm7 (Z : State) (h0 : Heap) (n0 : Nat) (a1 : Addr) (p1 : Int32) (v : Option Value) (h : Heap) (L : List Loc) : Prop := v = none ∧ Fr n0 L ∧ Keep h0 h [a1] ∧ Fld Z h a1 "com/example/wire3/wire3/broker/Service" "workers" "I" (.int (p1 + (1 : Int32)))
set_option maxRecDepth 65536 in
set_option maxHeartbeats 40000000 in
theorem rm7 (l : Launch) (Z : State) (a0 : Array Value) (hw : ∀ d ∈ tables_1, d.before a0 Z = true) (ws : List Jvm.Cond) (a1 : Addr) (p1 : Int32) (h0 : Heap) (n0 : Nat) (Z0 : n0 ≤ h0.size) (E_a1 : Exa Z h0 a1 "com/example/wire3/wire3/broker/Service") (F_wk : Fld Z h0 a1 "com/example/wire3/wire3/broker/Service" "workers" "I" (.int p1)) (lo_a1 : n0 ≤ a1) :
    MetFree l (⟨"com/example/wire3/wire3/broker/Service", "addWorker", "()V"⟩ : MethodName) (head1 (Jvm.Cond.code (⟨"com/example/wire3/wire3/broker/Service", "addWorker", "()V"⟩ : MethodName) prog_3_method_6_code 1 none :: ws) ({ frames := 0, cells := 0, slots := 0, locals := 0 } : Room)) (fun a U => a = #[(.ref a1)] ∧ Z.Warmed39 U.vm ∧ U.heap = h0) (fun _ _ _ _ _ => True) (fun _ U o U' => ∃ rv rL, o = .returned rv ∧ Q_rm7 Z h0 n0 a1 p1 rv U'.heap rL ∧ FrameEnd U o U' rL ({ frames := 0, cells := 0, slots := 0, locals := 0 } : Room).cells ({ frames := 0, cells := 0, slots := 0, locals := 0 } : Room).slots) := by
  refine own_met (y := (⟨"com/example/wire3/wire3/broker/Service", "addWorker", "()V"⟩ : MethodName)) (Q := Q_rm7 Z h0 n0 a1 p1) (own := "com/example/wire3/wire3/broker/Service") rfl pn_7 ?_
  intro p e s m below meth c s₁ C e0 X0
  obtain ⟨hx, hby, hml, hown, hnm, hret, hlk, hZ⟩ := C
  have N0 := Fr.nil n0
  rw [ef_7]
  have Kp0 : Keep h0 h0 [a1] := Keep.refl h0 _
  show own_Goes _ _ _ _ _ _ _ s₁ (mkF m 0 #[.val (.ref a1)] [])
  refine own_go (fun _ k => XS.aloadN X0.here hx rfl (hb hby d7_0) rfl rfl k) ?_
  show own_Goes _ _ _ _ _ _ _ s₁ (mkF m 1 #[.val (.ref a1)] [(.ref a1)])
  refine own_go (fun _ k => XS.dup X0.here hx rfl (hb hby d7_1) rfl rfl k) ?_
  show own_Goes _ _ _ _ _ _ _ s₁ (mkF m 2 #[.val (.ref a1)] [(.ref a1), (.ref a1)])
  obtain ⟨T1, X1, e1, st1⟩ := getF X0 hx hZ hown (host := "") (Or.inl (hw _ (List.mem_of_getElem? (i := 38) rfl))) Via.refl e0 F_wk (g := (mkF m 2 #[.val (.ref a1)] [(.ref a1), (.ref a1)])) rfl rfl (hb hby d7_2)
  refine own_go st1 ?_
  show own_Goes _ _ _ _ _ _ _ T1 (mkF m 5 #[.val (.ref a1)] [(.int p1), (.ref a1)])
  refine own_go (fun _ k => XS.iconst X1.here hx rfl (hb hby d7_5) k) ?_
  show own_Goes _ _ _ _ _ _ _ T1 (mkF m 6 #[.val (.ref a1)] [(.int (1 : Int32)), (.int p1), (.ref a1)])
  refine own_go (fun _ k => XS.iadd X1.here hx rfl (hb hby d7_6) rfl k) ?_
  show own_Goes _ _ _ _ _ _ _ T1 (mkF m 7 #[.val (.ref a1)] [(.int (p1 + (1 : Int32))), (.ref a1)])
  obtain ⟨T2, h2, X2, e2, W2, st2⟩ := putF X1 hx hZ hown (host := "") (Or.inl (hw _ (List.mem_of_getElem? (i := 38) rfl))) Via.refl e1 F_wk E_a1 (Or.inl (hw _ (List.mem_of_getElem? (i := 39) rfl))) (hw _ (List.mem_of_getElem? (i := 1) rfl)) (ty := .int) (by decide) rfl rfl (g := (mkF m 7 #[.val (.ref a1)] [(.int (p1 + (1 : Int32))), (.ref a1)])) rfl rfl (hb hby d7_7)
  have F_wk_2 : Fld Z h2 a1 "com/example/wire3/wire3/broker/Service" "workers" "I" (.int (p1 + (1 : Int32))) := F_wk.same W2
  have N2 := Fr.snoc X2 N0 lo_a1
  have E_a1_2 : Exa Z h2 a1 "com/example/wire3/wire3/broker/Service" := E_a1.wr W2
  have Zs2 : n0 ≤ h2.size := Nat.le_trans Z0 (Keep.of_wr W2).1
  have Kp2 : Keep h0 h2 [a1] := Kp0.wr W2 (Or.inl (by simp))
  refine own_go st2 ?_
  show own_Goes _ _ _ _ _ _ _ T2 (mkF m 10 #[.val (.ref a1)] [])
  exact own_retV X2 hx hlk hret (hb hby d7_10) (by decide) (by decide) (by rw [e2]; exact ⟨rfl, N2, Kp2, F_wk_2⟩)
def Q_rm8 (Z : State) (h0 : Heap) (n0 : Nat) (a1 : Addr) (p1 : Int32) (v : Option Value) (h : Heap) (L : List Loc) : Prop := v = none ∧ Fr n0 L ∧ Keep h0 h [a1] ∧ Fld Z h a1 "com/example/wire3/wire3/broker/Service" "workers" "I" (.int (p1 - (1 : Int32)))
set_option maxRecDepth 65536 in
set_option maxHeartbeats 40000000 in
theorem rm8 (l : Launch) (Z : State) (a0 : Array Value) (hw : ∀ d ∈ tables_1, d.before a0 Z = true) (ws : List Jvm.Cond) (a1 : Addr) (p1 : Int32) (h0 : Heap) (n0 : Nat) (Z0 : n0 ≤ h0.size) (E_a1 : Exa Z h0 a1 "com/example/wire3/wire3/broker/Service") (F_wk : Fld Z h0 a1 "com/example/wire3/wire3/broker/Service" "workers" "I" (.int p1)) (lo_a1 : n0 ≤ a1) :
    MetFree l (⟨"com/example/wire3/wire3/broker/Service", "removeWorker", "()V"⟩ : MethodName) (head1 (Jvm.Cond.code (⟨"com/example/wire3/wire3/broker/Service", "removeWorker", "()V"⟩ : MethodName) prog_3_method_7_code 1 none :: ws) ({ frames := 0, cells := 0, slots := 0, locals := 0 } : Room)) (fun a U => a = #[(.ref a1)] ∧ Z.Warmed39 U.vm ∧ U.heap = h0) (fun _ _ _ _ _ => True) (fun _ U o U' => ∃ rv rL, o = .returned rv ∧ Q_rm8 Z h0 n0 a1 p1 rv U'.heap rL ∧ FrameEnd U o U' rL ({ frames := 0, cells := 0, slots := 0, locals := 0 } : Room).cells ({ frames := 0, cells := 0, slots := 0, locals := 0 } : Room).slots) := by
  refine own_met (y := (⟨"com/example/wire3/wire3/broker/Service", "removeWorker", "()V"⟩ : MethodName)) (Q := Q_rm8 Z h0 n0 a1 p1) (own := "com/example/wire3/wire3/broker/Service") rfl pn_8 ?_
  intro p e s m below meth c s₁ C e0 X0
  obtain ⟨hx, hby, hml, hown, hnm, hret, hlk, hZ⟩ := C
  have N0 := Fr.nil n0
  rw [ef_8]
  have Kp0 : Keep h0 h0 [a1] := Keep.refl h0 _
  show own_Goes _ _ _ _ _ _ _ s₁ (mkF m 0 #[.val (.ref a1)] [])
  refine own_go (fun _ k => XS.aloadN X0.here hx rfl (hb hby d8_0) rfl rfl k) ?_
  show own_Goes _ _ _ _ _ _ _ s₁ (mkF m 1 #[.val (.ref a1)] [(.ref a1)])
  refine own_go (fun _ k => XS.dup X0.here hx rfl (hb hby d8_1) rfl rfl k) ?_
  show own_Goes _ _ _ _ _ _ _ s₁ (mkF m 2 #[.val (.ref a1)] [(.ref a1), (.ref a1)])
  obtain ⟨T1, X1, e1, st1⟩ := getF X0 hx hZ hown (host := "") (Or.inl (hw _ (List.mem_of_getElem? (i := 38) rfl))) Via.refl e0 F_wk (g := (mkF m 2 #[.val (.ref a1)] [(.ref a1), (.ref a1)])) rfl rfl (hb hby d8_2)
  refine own_go st1 ?_
  show own_Goes _ _ _ _ _ _ _ T1 (mkF m 5 #[.val (.ref a1)] [(.int p1), (.ref a1)])
  refine own_go (fun _ k => XS.iconst X1.here hx rfl (hb hby d8_5) k) ?_
  show own_Goes _ _ _ _ _ _ _ T1 (mkF m 6 #[.val (.ref a1)] [(.int (1 : Int32)), (.int p1), (.ref a1)])
  refine own_go (fun _ k => XS.isub X1.here hx rfl (hb hby d8_6) rfl k) ?_
  show own_Goes _ _ _ _ _ _ _ T1 (mkF m 7 #[.val (.ref a1)] [(.int (p1 - (1 : Int32))), (.ref a1)])
  obtain ⟨T2, h2, X2, e2, W2, st2⟩ := putF X1 hx hZ hown (host := "") (Or.inl (hw _ (List.mem_of_getElem? (i := 38) rfl))) Via.refl e1 F_wk E_a1 (Or.inl (hw _ (List.mem_of_getElem? (i := 39) rfl))) (hw _ (List.mem_of_getElem? (i := 1) rfl)) (ty := .int) (by decide) rfl rfl (g := (mkF m 7 #[.val (.ref a1)] [(.int (p1 - (1 : Int32))), (.ref a1)])) rfl rfl (hb hby d8_7)
  have F_wk_2 : Fld Z h2 a1 "com/example/wire3/wire3/broker/Service" "workers" "I" (.int (p1 - (1 : Int32))) := F_wk.same W2
  have N2 := Fr.snoc X2 N0 lo_a1
  have E_a1_2 : Exa Z h2 a1 "com/example/wire3/wire3/broker/Service" := E_a1.wr W2
  have Zs2 : n0 ≤ h2.size := Nat.le_trans Z0 (Keep.of_wr W2).1
  have Kp2 : Keep h0 h2 [a1] := Kp0.wr W2 (Or.inl (by simp))
  refine own_go st2 ?_
  show own_Goes _ _ _ _ _ _ _ T2 (mkF m 10 #[.val (.ref a1)] [])
  exact own_retV X2 hx hlk hret (hb hby d8_10) (by decide) (by decide) (by rw [e2]; exact ⟨rfl, N2, Kp2, F_wk_2⟩)
def Q_rm6 (Z : State) (h0 : Heap) (n0 : Nat) (a1 : Addr) (p2 p3 : Int32) (v : Option Value) (h : Heap) (L : List Loc) : Prop := v = some (.int (own_step p2 p3)) ∧ Fr n0 L ∧ Keep h0 h [a1] ∧ Fld Z h a1 "com/example/wire3/wire3/broker/Service" "workers" "I" (.int (own_step p2 p3))
set_option maxRecDepth 65536 in
set_option maxHeartbeats 40000000 in
theorem rm6 (l : Launch) (Z : State) (a0 : Array Value) (hw : ∀ d ∈ tables_1, d.before a0 Z = true) (ws : List Jvm.Cond) (a1 : Addr) (p2 p3 : Int32) (h0 : Heap) (n0 : Nat) (Z0 : n0 ≤ h0.size) (E_a1 : Exa Z h0 a1 "com/example/wire3/wire3/broker/Service") (F_wk : Fld Z h0 a1 "com/example/wire3/wire3/broker/Service" "workers" "I" (.int p2)) (lo_a1 : n0 ≤ a1) :
    MetFree l (⟨"com/example/wire3/wire3/broker/ServiceHasWorkersPinLaw", "step", "(Lcom/example/wire3/wire3/broker/Service;II)I"⟩ : MethodName) (head1 (Jvm.Cond.code (⟨"com/example/wire3/wire3/broker/ServiceHasWorkersPinLaw", "step", "(Lcom/example/wire3/wire3/broker/Service;II)I"⟩ : MethodName) method_2_code 3 (some .int) :: ws) ({ frames := 1, cells := 0, slots := 0, locals := 12 } : Room)) (fun a U => a = #[(.ref a1), (.int p2), (.int p3)] ∧ Z.Warmed39 U.vm ∧ U.heap = h0) (fun _ _ _ _ _ => True) (fun _ U o U' => ∃ rv rL, o = .returned rv ∧ Q_rm6 Z h0 n0 a1 p2 p3 rv U'.heap rL ∧ FrameEnd U o U' rL ({ frames := 1, cells := 0, slots := 0, locals := 12 } : Room).cells ({ frames := 1, cells := 0, slots := 0, locals := 12 } : Room).slots) := by
  refine own_met (y := (⟨"com/example/wire3/wire3/broker/ServiceHasWorkersPinLaw", "step", "(Lcom/example/wire3/wire3/broker/Service;II)I"⟩ : MethodName)) (Q := Q_rm6 Z h0 n0 a1 p2 p3) (own := "com/example/wire3/wire3/broker/ServiceHasWorkersPinLaw") rfl pn_6 ?_
  intro p e s m below meth c s₁ C e0 X0
  obtain ⟨hx, hby, hml, hown, hnm, hret, hlk, hZ⟩ := C
  have N0 := Fr.nil n0
  rw [ef_6]
  have Kp0 : Keep h0 h0 [a1] := Keep.refl h0 _
  show own_Goes _ _ _ _ _ _ _ s₁ (mkF m 0 #[.val (.ref a1), .val (.int p2), .val (.int p3)] [])
  refine own_go (fun _ k => XS.iloadN X0.here hx rfl (hb hby d6_0) rfl k) ?_
  show own_Goes _ _ _ _ _ _ _ s₁ (mkF m 1 #[.val (.ref a1), .val (.int p2), .val (.int p3)] [(.int p3)])
  by_cases hc1 : p3 = (0 : Int32)
  · refine own_go (fun _ k => XS.ifYes X0.here hx rfl (pc0 := 1) (pc' := 12) rfl (hb hby d6_1) rfl ((if0 _ _).trans (teq hc1).1) (by decide) (by decide) k) ?_
    show own_Goes _ _ _ _ _ _ _ s₁ (mkF m 12 #[.val (.ref a1), .val (.int p2), .val (.int p3)] [])
    refine own_go (fun _ k => XS.iloadN X0.here hx rfl (hb hby d6_12) rfl k) ?_
    show own_Goes _ _ _ _ _ _ _ s₁ (mkF m 13 #[.val (.ref a1), .val (.int p2), .val (.int p3)] [(.int p2)])
    by_cases hc13 : (0 : Int32) < p2
    · refine own_go (fun _ k => XS.ifNo X0.here hx rfl (hb hby d6_13) rfl ((if0 _ _).trans (tlt hc13).2.2.2) k) ?_
      show own_Goes _ _ _ _ _ _ _ s₁ (mkF m 16 #[.val (.ref a1), .val (.int p2), .val (.int p3)] [])
      refine own_go (fun _ k => XS.aloadN X0.here hx rfl (hb hby d6_16) rfl rfl k) ?_
      show own_Goes _ _ _ _ _ _ _ s₁ (mkF m 17 #[.val (.ref a1), .val (.int p2), .val (.int p3)] [(.ref a1)])
      obtain ⟨cq1, kq1, zq1a, zq1b, zq1c⟩ := isOf hZ e0 E_a1
      obtain ⟨_, _, ⟨T1, L1, k1, n1⟩, -, X1, ⟨Lc1, hQ1, l1, y1, z1⟩, st1⟩ := X0.virtualBack hx (y := (⟨"com/example/wire3/wire3/broker/Service", "removeWorker", "()V"⟩ : MethodName)) (z := (⟨"com/example/wire3/wire3/broker/Service", "removeWorker", "()V"⟩ : MethodName)) hown (mvT hZ (hw _ (List.mem_of_getElem? (i := 49) rfl))) (mvT hZ (hw _ (List.mem_of_getElem? (i := 50) rfl))) (notFace_of_selects (args := #[]) (mvT hZ (hw _ (List.mem_of_getElem? (i := 52) rfl)))) (mvT hZ (hw _ (List.mem_of_getElem? (i := 52) rfl))) (mvT hZ (hw _ (List.mem_of_getElem? (i := 51) rfl))) (by decide) (backOf (W := 0) (rm8 l Z a0 hw [] a1 p2 h0 n0 Z0 E_a1 F_wk lo_a1) hZ (hw _ (List.mem_of_getElem? (i := 53) rfl)) (hw _ (List.mem_of_getElem? (i := 2) rfl)) (by decide) (by decide)) zq1a zq1c (g := (mkF m 17 #[.val (.ref a1), .val (.int p2), .val (.int p3)] [(.ref a1)])) rfl (by rw [hml]; rfl) (Steps.refl _) (argsL := []) (rest := []) (lenOf pd_0 rfl) rfl (by show 2 * 0 + _ ≤ _; exact Nat.le_of_eq rfl) (hb hby d6_17) (fun _ _ => ⟨rfl, e0, (by decide : 0 + 0 ≤ _), (by decide : 0 + 0 ≤ _)⟩)
      dsimp only [Pt.U, Pt.locs, Pt.cells, Pt.slots] at X1 l1 y1 z1 st1 hQ1
      subst l1 y1 z1
      obtain ⟨rfl, N1q, K1, F1⟩ := hQ1
      have N1 := Fr.app N0 N1q
      refine own_goS st1 ?_
      show own_Goes _ _ _ _ _ _ _ T1 (mkF m 20 #[.val (.ref a1), .val (.int p2), .val (.int p3)] [])
      have E_a1_1 : Exa Z T1.heap a1 "com/example/wire3/wire3/broker/Service" := E_a1.keep K1
      have Zs1 : n0 ≤ T1.heap.size := Nat.le_trans Z0 K1.1
      have Kp1 : Keep h0 T1.heap [a1] := Kp0.trans K1 (allS (Or.inl (by simp)) all0)
      refine own_go (fun _ k => XS.iloadN X1.here hx rfl (hb hby d6_20) rfl k) ?_
      show own_Goes _ _ _ _ _ _ _ T1 (mkF m 21 #[.val (.ref a1), .val (.int p2), .val (.int p3)] [(.int p2)])
      refine own_go (fun _ k => XS.iconst X1.here hx rfl (hb hby d6_21) k) ?_
      show own_Goes _ _ _ _ _ _ _ T1 (mkF m 22 #[.val (.ref a1), .val (.int p2), .val (.int p3)] [(.int (1 : Int32)), (.int p2)])
      refine own_go (fun _ k => XS.isub X1.here hx rfl (hb hby d6_22) rfl k) ?_
      show own_Goes _ _ _ _ _ _ _ T1 (mkF m 23 #[.val (.ref a1), .val (.int p2), .val (.int p3)] [(.int (p2 - (1 : Int32)))])
      exact own_retI X1 hx hlk hret (hb hby d6_23) (by decide) (by decide) ⟨by simp [own_step, *], N1, Kp1, by simpa [own_step, *] using F1⟩
    · refine own_go (fun _ k => XS.ifYes X0.here hx rfl (pc0 := 13) (pc' := 24) rfl (hb hby d6_13) rfl ((if0 _ _).trans (flt hc13).2.2.2) (by decide) (by decide) k) ?_
      show own_Goes _ _ _ _ _ _ _ s₁ (mkF m 24 #[.val (.ref a1), .val (.int p2), .val (.int p3)] [])
      refine own_go (fun _ k => XS.iloadN X0.here hx rfl (hb hby d6_24) rfl k) ?_
      show own_Goes _ _ _ _ _ _ _ s₁ (mkF m 25 #[.val (.ref a1), .val (.int p2), .val (.int p3)] [(.int p2)])
      exact own_retI X0 hx hlk hret (hb hby d6_25) (by decide) (by decide) (by rw [e0]; exact ⟨by simp [own_step, *], N0, Kp0, by simpa [own_step, *] using F_wk⟩)
  · refine own_go (fun _ k => XS.ifNo X0.here hx rfl (hb hby d6_1) rfl ((if0 _ _).trans (feq hc1).1) k) ?_
    show own_Goes _ _ _ _ _ _ _ s₁ (mkF m 4 #[.val (.ref a1), .val (.int p2), .val (.int p3)] [])
    refine own_go (fun _ k => XS.aloadN X0.here hx rfl (hb hby d6_4) rfl rfl k) ?_
    show own_Goes _ _ _ _ _ _ _ s₁ (mkF m 5 #[.val (.ref a1), .val (.int p2), .val (.int p3)] [(.ref a1)])
    obtain ⟨cq2, kq2, zq2a, zq2b, zq2c⟩ := isOf hZ e0 E_a1
    obtain ⟨_, _, ⟨T2, L2, k2, n2⟩, -, X2, ⟨Lc2, hQ2, l2, y2, z2⟩, st2⟩ := X0.virtualBack hx (y := (⟨"com/example/wire3/wire3/broker/Service", "addWorker", "()V"⟩ : MethodName)) (z := (⟨"com/example/wire3/wire3/broker/Service", "addWorker", "()V"⟩ : MethodName)) hown (mvT hZ (hw _ (List.mem_of_getElem? (i := 44) rfl))) (mvT hZ (hw _ (List.mem_of_getElem? (i := 45) rfl))) (notFace_of_selects (args := #[]) (mvT hZ (hw _ (List.mem_of_getElem? (i := 47) rfl)))) (mvT hZ (hw _ (List.mem_of_getElem? (i := 47) rfl))) (mvT hZ (hw _ (List.mem_of_getElem? (i := 46) rfl))) (by decide) (backOf (W := 0) (rm7 l Z a0 hw [] a1 p2 h0 n0 Z0 E_a1 F_wk lo_a1) hZ (hw _ (List.mem_of_getElem? (i := 48) rfl)) (hw _ (List.mem_of_getElem? (i := 2) rfl)) (by decide) (by decide)) zq2a zq2c (g := (mkF m 5 #[.val (.ref a1), .val (.int p2), .val (.int p3)] [(.ref a1)])) rfl (by rw [hml]; rfl) (Steps.refl _) (argsL := []) (rest := []) (lenOf pd_0 rfl) rfl (by show 2 * 0 + _ ≤ _; exact Nat.le_of_eq rfl) (hb hby d6_5) (fun _ _ => ⟨rfl, e0, (by decide : 0 + 0 ≤ _), (by decide : 0 + 0 ≤ _)⟩)
    dsimp only [Pt.U, Pt.locs, Pt.cells, Pt.slots] at X2 l2 y2 z2 st2 hQ2
    subst l2 y2 z2
    obtain ⟨rfl, N2q, K2, F2⟩ := hQ2
    have N2 := Fr.app N0 N2q
    refine own_goS st2 ?_
    show own_Goes _ _ _ _ _ _ _ T2 (mkF m 8 #[.val (.ref a1), .val (.int p2), .val (.int p3)] [])
    have E_a1_2 : Exa Z T2.heap a1 "com/example/wire3/wire3/broker/Service" := E_a1.keep K2
    have Zs2 : n0 ≤ T2.heap.size := Nat.le_trans Z0 K2.1
    have Kp2 : Keep h0 T2.heap [a1] := Kp0.trans K2 (allS (Or.inl (by simp)) all0)
    refine own_go (fun _ k => XS.iloadN X2.here hx rfl (hb hby d6_8) rfl k) ?_
    show own_Goes _ _ _ _ _ _ _ T2 (mkF m 9 #[.val (.ref a1), .val (.int p2), .val (.int p3)] [(.int p2)])
    refine own_go (fun _ k => XS.iconst X2.here hx rfl (hb hby d6_9) k) ?_
    show own_Goes _ _ _ _ _ _ _ T2 (mkF m 10 #[.val (.ref a1), .val (.int p2), .val (.int p3)] [(.int (1 : Int32)), (.int p2)])
    refine own_go (fun _ k => XS.iadd X2.here hx rfl (hb hby d6_10) rfl k) ?_
    show own_Goes _ _ _ _ _ _ _ T2 (mkF m 11 #[.val (.ref a1), .val (.int p2), .val (.int p3)] [(.int (p2 + (1 : Int32)))])
    exact own_retI X2 hx hlk hret (hb hby d6_11) (by decide) (by decide) ⟨by simp [own_step, *], N2, Kp2, by simpa [own_step, *] using F2⟩
set_option maxRecDepth 65536 in
set_option maxHeartbeats 40000000 in
theorem seg203 {p : Program} {l : Launch} {e : Env} {s : State} {m : MethodId} {args : Array Value} {below : List Frame} {meth : Method} {c : Code} {s₁ : State} {locs : List Loc} {Z : State} {a0 : Array Value} {h0 : Heap} (p0 p3 : Int32) (a1 : Addr)
    (hw : ∀ d ∈ tables_1, d.before a0 Z = true) (C : own_Ctx Z x "com/example/wire3/wire3/broker/ServiceHasWorkersPinLaw" code maxLocals ret p s m meth c) (X0 : Stand p l e room_1 s m args below meth c s₁ locs 6 44) (e0 : s₁.heap = h0) (n0 : Nat) (Z0 : n0 ≤ h0.size) (N0 : Fr n0 locs) (E_a1 : Exa Z h0 a1 "com/example/wire3/wire3/broker/Service") (F_wk : Fld Z h0 a1 "com/example/wire3/wire3/broker/Service" "workers" "I" (.int p3)) (lo_a1 : n0 ≤ a1) :
    own_Goes p e below s (fun v h L => v = some (.int 1) ∧ Fr n0 L) room_1.cells room_1.slots s₁ (mkF m 203 #[.val (.int p0), .val (.ref a1), .val (.int (1 : Int32)), .val (.int p3)] []) := by
  obtain ⟨hx, hby, hml, hown, hnm, hret, hlk, hZ⟩ := C
  refine own_go (fun _ k => XS.iloadN X0.here hx rfl (hb hby at_203) rfl k) ?_
  show own_Goes _ _ _ _ _ _ _ s₁ (mkF m 204 #[.val (.int p0), .val (.ref a1), .val (.int (1 : Int32)), .val (.int p3)] [(.int (1 : Int32))])
  exact own_retN X0 hx (t := .boolean) hlk hret (by simp) (hb hby at_204) (by decide) (by decide) ⟨rfl, N0⟩
set_option maxRecDepth 65536 in
set_option maxHeartbeats 40000000 in
theorem seg167 {p : Program} {l : Launch} {e : Env} {s : State} {m : MethodId} {args : Array Value} {below : List Frame} {meth : Method} {c : Code} {s₁ : State} {locs : List Loc} {Z : State} {a0 : Array Value} {h0 : Heap} (p0 p3 : Int32) (a1 : Addr)
    (hw : ∀ d ∈ tables_1, d.before a0 Z = true) (C : own_Ctx Z x "com/example/wire3/wire3/broker/ServiceHasWorkersPinLaw" code maxLocals ret p s m meth c) (X0 : Stand p l e room_1 s m args below meth c s₁ locs 6 44) (e0 : s₁.heap = h0) (n0 : Nat) (Z0 : n0 ≤ h0.size) (N0 : Fr n0 locs) (E_a1 : Exa Z h0 a1 "com/example/wire3/wire3/broker/Service") (F_wk : Fld Z h0 a1 "com/example/wire3/wire3/broker/Service" "workers" "I" (.int p3)) (lo_a1 : n0 ≤ a1) :
    own_Goes p e below s (fun v h L => v = some (.int 1) ∧ Fr n0 L) room_1.cells room_1.slots s₁ (mkF m 167 #[.val (.int p0), .val (.ref a1), .val (.int (1 : Int32)), .val (.int p3)] []) := by
  obtain ⟨hx, hby, hml, hown, hnm, hret, hlk, hZ⟩ := C
  refine own_go (fun _ k => XS.aloadN X0.here hx rfl (hb hby at_167) rfl rfl k) ?_
  show own_Goes _ _ _ _ _ _ _ s₁ (mkF m 168 #[.val (.int p0), .val (.ref a1), .val (.int (1 : Int32)), .val (.int p3)] [(.ref a1)])
  refine own_go (fun _ k => XS.iloadN X0.here hx rfl (hb hby at_168) rfl k) ?_
  show own_Goes _ _ _ _ _ _ _ s₁ (mkF m 169 #[.val (.int p0), .val (.ref a1), .val (.int (1 : Int32)), .val (.int p3)] [(.int p3), (.ref a1)])
  refine own_go (fun _ k => XS.iloadN X0.here hx rfl (hb hby at_169) rfl k) ?_
  show own_Goes _ _ _ _ _ _ _ s₁ (mkF m 170 #[.val (.int p0), .val (.ref a1), .val (.int (1 : Int32)), .val (.int p3)] [(.int p0), (.int p3), (.ref a1)])
  refine own_go (fun _ k => XS.bipush X0.here hx rfl (hb hby at_170) k) ?_
  show own_Goes _ _ _ _ _ _ _ s₁ (mkF m 172 #[.val (.int p0), .val (.ref a1), .val (.int (1 : Int32)), .val (.int p3)] [(.int (16 : Int32)), (.int p0), (.int p3), (.ref a1)])
  refine own_go (fun _ k => XS.iand X0.here hx rfl (hb hby at_172) rfl k) ?_
  show own_Goes _ _ _ _ _ _ _ s₁ (mkF m 173 #[.val (.int p0), .val (.ref a1), .val (.int (1 : Int32)), .val (.int p3)] [(.int (p0 &&& (16 : Int32))), (.int p3), (.ref a1)])
  obtain ⟨_, _, ⟨T1, L1, k1, n1⟩, -, X1, ⟨Lc1, hQ1, l1, y1, z1⟩, st1⟩ := Jvm.LawKit.callS X0 hx (y := (⟨"com/example/wire3/wire3/broker/ServiceHasWorkersPinLaw", "step", "(Lcom/example/wire3/wire3/broker/Service;II)I"⟩ : MethodName)) hown (mvT hZ (hw _ (List.mem_of_getElem? (i := 40) rfl))) (mvT hZ (hw _ (List.mem_of_getElem? (i := 41) rfl))) (mvT hZ (hw _ (List.mem_of_getElem? (i := 42) rfl))) (mvT hZ (hw _ (List.mem_of_getElem? (i := 43) rfl))) (by decide) (backOf (W := 0) (rm6 l Z a0 hw [] a1 p3 (p0 &&& (16 : Int32)) h0 n0 Z0 E_a1 F_wk lo_a1) hZ (hw _ (List.mem_of_getElem? (i := 43) rfl)) (hw _ (List.mem_of_getElem? (i := 42) rfl)) (by decide) (by decide)) (g := (mkF m 173 #[.val (.int p0), .val (.ref a1), .val (.int (1 : Int32)), .val (.int p3)] [(.int (p0 &&& (16 : Int32))), (.int p3), (.ref a1)])) rfl (by rw [hml]; rfl) (argsL := [(.ref a1), (.int p3), (.int (p0 &&& (16 : Int32)))]) (rest := []) (lenOf pd_1 rfl) rfl (by show 2 * 0 + _ ≤ _; exact Nat.le_of_eq rfl) (hb hby at_173) (fun _ _ => ⟨rfl, e0, (by decide : 6 + 0 ≤ _), (by decide : 44 + 0 ≤ _)⟩)
  dsimp only [Pt.U, Pt.locs, Pt.cells, Pt.slots] at X1 l1 y1 z1 st1 hQ1
  subst l1 y1 z1
  obtain ⟨rfl, N1q, K1, F1⟩ := hQ1
  have N1 := Fr.app N0 N1q
  refine own_go st1 ?_
  show own_Goes _ _ _ _ _ _ _ T1 (mkF m 176 #[.val (.int p0), .val (.ref a1), .val (.int (1 : Int32)), .val (.int p3)] [(.int (own_step p3 (p0 &&& (16 : Int32))))])
  have E_a1_1 : Exa Z T1.heap a1 "com/example/wire3/wire3/broker/Service" := E_a1.keep K1
  have Zs1 : n0 ≤ T1.heap.size := Nat.le_trans Z0 K1.1
  refine own_go (fun _ k => XS.istoreN X1.here hx rfl (hb hby at_176) rfl (l' := #[.val (.int p0), .val (.ref a1), .val (.int (1 : Int32)), .val (.int (own_step p3 (p0 &&& (16 : Int32))))]) rfl k) ?_
  show own_Goes _ _ _ _ _ _ _ T1 (mkF m 177 #[.val (.int p0), .val (.ref a1), .val (.int (1 : Int32)), .val (.int (own_step p3 (p0 &&& (16 : Int32))))] [])
  refine own_go (fun _ k => XS.iloadN X1.here hx rfl (hb hby at_177) rfl k) ?_
  show own_Goes _ _ _ _ _ _ _ T1 (mkF m 178 #[.val (.int p0), .val (.ref a1), .val (.int (1 : Int32)), .val (.int (own_step p3 (p0 &&& (16 : Int32))))] [(.int (1 : Int32))])
  refine own_go (fun _ k => XS.ifNo X1.here hx rfl (hb hby at_178) rfl ((if0 _ _).trans (feq (by decide : ¬ ((1 : Int32) = (0 : Int32)))).1) k) ?_
  show own_Goes _ _ _ _ _ _ _ T1 (mkF m 181 #[.val (.int p0), .val (.ref a1), .val (.int (1 : Int32)), .val (.int (own_step p3 (p0 &&& (16 : Int32))))] [])
  refine own_go (fun _ k => XS.aloadN X1.here hx rfl (hb hby at_181) rfl rfl k) ?_
  show own_Goes _ _ _ _ _ _ _ T1 (mkF m 182 #[.val (.int p0), .val (.ref a1), .val (.int (1 : Int32)), .val (.int (own_step p3 (p0 &&& (16 : Int32))))] [(.ref a1)])
  obtain ⟨cq2, kq2, zq2a, zq2b, zq2c⟩ := isOf hZ rfl E_a1_1
  obtain ⟨_, _, ⟨T2, L2, k2, n2⟩, -, X2, ⟨Lc2, hQ2, l2, y2, z2⟩, st2⟩ := X1.virtualBack hx (y := (⟨"com/example/wire3/wire3/broker/Service", "hasWorkers", "()Z"⟩ : MethodName)) (z := (⟨"com/example/wire3/wire3/broker/Service", "hasWorkers", "()Z"⟩ : MethodName)) hown (mvT hZ (hw _ (List.mem_of_getElem? (i := 33) rfl))) (mvT hZ (hw _ (List.mem_of_getElem? (i := 34) rfl))) (notFace_of_selects (args := #[]) (mvT hZ (hw _ (List.mem_of_getElem? (i := 36) rfl)))) (mvT hZ (hw _ (List.mem_of_getElem? (i := 36) rfl))) (mvT hZ (hw _ (List.mem_of_getElem? (i := 35) rfl))) (by decide) (backOf (W := 0) (rm5 l Z a0 hw [] a1 (own_step p3 (p0 &&& (16 : Int32))) T1.heap n0 Zs1 F1) hZ (hw _ (List.mem_of_getElem? (i := 37) rfl)) (hw _ (List.mem_of_getElem? (i := 2) rfl)) (by decide) (by decide)) zq2a zq2c (g := (mkF m 182 #[.val (.int p0), .val (.ref a1), .val (.int (1 : Int32)), .val (.int (own_step p3 (p0 &&& (16 : Int32))))] [(.ref a1)])) rfl (by rw [hml]; rfl) (Steps.refl _) (argsL := []) (rest := []) (lenOf pd_2 rfl) rfl (by show 2 * 0 + _ ≤ _; exact Nat.le_of_eq rfl) (hb hby at_182) (fun _ _ => ⟨rfl, rfl, (by decide : 6 + 0 + 0 ≤ _), (by decide : 44 + 0 + 0 ≤ _)⟩)
  dsimp only [Pt.U, Pt.locs, Pt.cells, Pt.slots] at X2 l2 y2 z2 st2 hQ2
  subst l2 y2 z2
  obtain ⟨rfl, N2q, e2⟩ := hQ2
  have N2 := Fr.app N1 N2q
  refine own_goS st2 ?_
  show own_Goes _ _ _ _ _ _ _ T2 (mkF m 185 #[.val (.int p0), .val (.ref a1), .val (.int (1 : Int32)), .val (.int (own_step p3 (p0 &&& (16 : Int32))))] [(.int (own_pos (own_step p3 (p0 &&& (16 : Int32)))))])
  refine own_go (fun _ k => XS.iloadN X2.here hx rfl (hb hby at_185) rfl k) ?_
  show own_Goes _ _ _ _ _ _ _ T2 (mkF m 186 #[.val (.int p0), .val (.ref a1), .val (.int (1 : Int32)), .val (.int (own_step p3 (p0 &&& (16 : Int32))))] [(.int (own_step p3 (p0 &&& (16 : Int32)))), (.int (own_pos (own_step p3 (p0 &&& (16 : Int32)))))])
  by_cases hc186 : (0 : Int32) < (own_step p3 (p0 &&& (16 : Int32)))
  · refine own_go (fun _ k => XS.ifNo X2.here hx rfl (hb hby at_186) rfl ((if0 _ _).trans (tlt hc186).2.2.2) k) ?_
    show own_Goes _ _ _ _ _ _ _ T2 (mkF m 189 #[.val (.int p0), .val (.ref a1), .val (.int (1 : Int32)), .val (.int (own_step p3 (p0 &&& (16 : Int32))))] [(.int (own_pos (own_step p3 (p0 &&& (16 : Int32)))))])
    refine own_go (fun _ k => XS.iconst X2.here hx rfl (hb hby at_189) k) ?_
    show own_Goes _ _ _ _ _ _ _ T2 (mkF m 190 #[.val (.int p0), .val (.ref a1), .val (.int (1 : Int32)), .val (.int (own_step p3 (p0 &&& (16 : Int32))))] [(.int (1 : Int32)), (.int (own_pos (own_step p3 (p0 &&& (16 : Int32)))))])
    refine own_go (fun _ k => XS.goto X2.here hx rfl (pc0 := 190) (pc' := 194) rfl (hb hby at_190) (by decide) (by decide) k) ?_
    show own_Goes _ _ _ _ _ _ _ T2 (mkF m 194 #[.val (.int p0), .val (.ref a1), .val (.int (1 : Int32)), .val (.int (own_step p3 (p0 &&& (16 : Int32))))] [(.int (1 : Int32)), (.int (own_pos (own_step p3 (p0 &&& (16 : Int32)))))])
    refine own_go (fun _ k => XS.icmpNo X2.here hx rfl (hb hby at_194) rfl (teq (by simp [own_pos, *] : (own_pos (own_step p3 (p0 &&& (16 : Int32)))) = (1 : Int32))).2 k) ?_
    show own_Goes _ _ _ _ _ _ _ T2 (mkF m 197 #[.val (.int p0), .val (.ref a1), .val (.int (1 : Int32)), .val (.int (own_step p3 (p0 &&& (16 : Int32))))] [])
    refine own_go (fun _ k => XS.iconst X2.here hx rfl (hb hby at_197) k) ?_
    show own_Goes _ _ _ _ _ _ _ T2 (mkF m 198 #[.val (.int p0), .val (.ref a1), .val (.int (1 : Int32)), .val (.int (own_step p3 (p0 &&& (16 : Int32))))] [(.int (1 : Int32))])
    refine own_go (fun _ k => XS.goto X2.here hx rfl (pc0 := 198) (pc' := 202) rfl (hb hby at_198) (by decide) (by decide) k) ?_
    show own_Goes _ _ _ _ _ _ _ T2 (mkF m 202 #[.val (.int p0), .val (.ref a1), .val (.int (1 : Int32)), .val (.int (own_step p3 (p0 &&& (16 : Int32))))] [(.int (1 : Int32))])
    refine own_go (fun _ k => XS.istoreN X2.here hx rfl (hb hby at_202) rfl (l' := #[.val (.int p0), .val (.ref a1), .val (.int (1 : Int32)), .val (.int (own_step p3 (p0 &&& (16 : Int32))))]) rfl k) ?_
    show own_Goes _ _ _ _ _ _ _ T2 (mkF m 203 #[.val (.int p0), .val (.ref a1), .val (.int (1 : Int32)), .val (.int (own_step p3 (p0 &&& (16 : Int32))))] [])
    exact seg203 p0 _ a1 hw ⟨hx, hby, hml, hown, hnm, hret, hlk, hZ⟩ X2 e2 n0 Zs1 N2 E_a1_1 F1 lo_a1
  · refine own_go (fun _ k => XS.ifYes X2.here hx rfl (pc0 := 186) (pc' := 193) rfl (hb hby at_186) rfl ((if0 _ _).trans (flt hc186).2.2.2) (by decide) (by decide) k) ?_
    show own_Goes _ _ _ _ _ _ _ T2 (mkF m 193 #[.val (.int p0), .val (.ref a1), .val (.int (1 : Int32)), .val (.int (own_step p3 (p0 &&& (16 : Int32))))] [(.int (own_pos (own_step p3 (p0 &&& (16 : Int32)))))])
    refine own_go (fun _ k => XS.iconst X2.here hx rfl (hb hby at_193) k) ?_
    show own_Goes _ _ _ _ _ _ _ T2 (mkF m 194 #[.val (.int p0), .val (.ref a1), .val (.int (1 : Int32)), .val (.int (own_step p3 (p0 &&& (16 : Int32))))] [(.int (0 : Int32)), (.int (own_pos (own_step p3 (p0 &&& (16 : Int32)))))])
    refine own_go (fun _ k => XS.icmpNo X2.here hx rfl (hb hby at_194) rfl (teq (by simp [own_pos, *] : (own_pos (own_step p3 (p0 &&& (16 : Int32)))) = (0 : Int32))).2 k) ?_
    show own_Goes _ _ _ _ _ _ _ T2 (mkF m 197 #[.val (.int p0), .val (.ref a1), .val (.int (1 : Int32)), .val (.int (own_step p3 (p0 &&& (16 : Int32))))] [])
    refine own_go (fun _ k => XS.iconst X2.here hx rfl (hb hby at_197) k) ?_
    show own_Goes _ _ _ _ _ _ _ T2 (mkF m 198 #[.val (.int p0), .val (.ref a1), .val (.int (1 : Int32)), .val (.int (own_step p3 (p0 &&& (16 : Int32))))] [(.int (1 : Int32))])
    refine own_go (fun _ k => XS.goto X2.here hx rfl (pc0 := 198) (pc' := 202) rfl (hb hby at_198) (by decide) (by decide) k) ?_
    show own_Goes _ _ _ _ _ _ _ T2 (mkF m 202 #[.val (.int p0), .val (.ref a1), .val (.int (1 : Int32)), .val (.int (own_step p3 (p0 &&& (16 : Int32))))] [(.int (1 : Int32))])
    refine own_go (fun _ k => XS.istoreN X2.here hx rfl (hb hby at_202) rfl (l' := #[.val (.int p0), .val (.ref a1), .val (.int (1 : Int32)), .val (.int (own_step p3 (p0 &&& (16 : Int32))))]) rfl k) ?_
    show own_Goes _ _ _ _ _ _ _ T2 (mkF m 203 #[.val (.int p0), .val (.ref a1), .val (.int (1 : Int32)), .val (.int (own_step p3 (p0 &&& (16 : Int32))))] [])
    exact seg203 p0 _ a1 hw ⟨hx, hby, hml, hown, hnm, hret, hlk, hZ⟩ X2 e2 n0 Zs1 N2 E_a1_1 F1 lo_a1
set_option maxRecDepth 65536 in
set_option maxHeartbeats 40000000 in
theorem seg131 {p : Program} {l : Launch} {e : Env} {s : State} {m : MethodId} {args : Array Value} {below : List Frame} {meth : Method} {c : Code} {s₁ : State} {locs : List Loc} {Z : State} {a0 : Array Value} {h0 : Heap} (p0 p3 : Int32) (a1 : Addr)
    (hw : ∀ d ∈ tables_1, d.before a0 Z = true) (C : own_Ctx Z x "com/example/wire3/wire3/broker/ServiceHasWorkersPinLaw" code maxLocals ret p s m meth c) (X0 : Stand p l e room_1 s m args below meth c s₁ locs 6 44) (e0 : s₁.heap = h0) (n0 : Nat) (Z0 : n0 ≤ h0.size) (N0 : Fr n0 locs) (E_a1 : Exa Z h0 a1 "com/example/wire3/wire3/broker/Service") (F_wk : Fld Z h0 a1 "com/example/wire3/wire3/broker/Service" "workers" "I" (.int p3)) (lo_a1 : n0 ≤ a1) :
    own_Goes p e below s (fun v h L => v = some (.int 1) ∧ Fr n0 L) room_1.cells room_1.slots s₁ (mkF m 131 #[.val (.int p0), .val (.ref a1), .val (.int (1 : Int32)), .val (.int p3)] []) := by
  obtain ⟨hx, hby, hml, hown, hnm, hret, hlk, hZ⟩ := C
  refine own_go (fun _ k => XS.aloadN X0.here hx rfl (hb hby at_131) rfl rfl k) ?_
  show own_Goes _ _ _ _ _ _ _ s₁ (mkF m 132 #[.val (.int p0), .val (.ref a1), .val (.int (1 : Int32)), .val (.int p3)] [(.ref a1)])
  refine own_go (fun _ k => XS.iloadN X0.here hx rfl (hb hby at_132) rfl k) ?_
  show own_Goes _ _ _ _ _ _ _ s₁ (mkF m 133 #[.val (.int p0), .val (.ref a1), .val (.int (1 : Int32)), .val (.int p3)] [(.int p3), (.ref a1)])
  refine own_go (fun _ k => XS.iloadN X0.here hx rfl (hb hby at_133) rfl k) ?_
  show own_Goes _ _ _ _ _ _ _ s₁ (mkF m 134 #[.val (.int p0), .val (.ref a1), .val (.int (1 : Int32)), .val (.int p3)] [(.int p0), (.int p3), (.ref a1)])
  refine own_go (fun _ k => XS.bipush X0.here hx rfl (hb hby at_134) k) ?_
  show own_Goes _ _ _ _ _ _ _ s₁ (mkF m 136 #[.val (.int p0), .val (.ref a1), .val (.int (1 : Int32)), .val (.int p3)] [(.int (8 : Int32)), (.int p0), (.int p3), (.ref a1)])
  refine own_go (fun _ k => XS.iand X0.here hx rfl (hb hby at_136) rfl k) ?_
  show own_Goes _ _ _ _ _ _ _ s₁ (mkF m 137 #[.val (.int p0), .val (.ref a1), .val (.int (1 : Int32)), .val (.int p3)] [(.int (p0 &&& (8 : Int32))), (.int p3), (.ref a1)])
  obtain ⟨_, _, ⟨T1, L1, k1, n1⟩, -, X1, ⟨Lc1, hQ1, l1, y1, z1⟩, st1⟩ := Jvm.LawKit.callS X0 hx (y := (⟨"com/example/wire3/wire3/broker/ServiceHasWorkersPinLaw", "step", "(Lcom/example/wire3/wire3/broker/Service;II)I"⟩ : MethodName)) hown (mvT hZ (hw _ (List.mem_of_getElem? (i := 40) rfl))) (mvT hZ (hw _ (List.mem_of_getElem? (i := 41) rfl))) (mvT hZ (hw _ (List.mem_of_getElem? (i := 42) rfl))) (mvT hZ (hw _ (List.mem_of_getElem? (i := 43) rfl))) (by decide) (backOf (W := 0) (rm6 l Z a0 hw [] a1 p3 (p0 &&& (8 : Int32)) h0 n0 Z0 E_a1 F_wk lo_a1) hZ (hw _ (List.mem_of_getElem? (i := 43) rfl)) (hw _ (List.mem_of_getElem? (i := 42) rfl)) (by decide) (by decide)) (g := (mkF m 137 #[.val (.int p0), .val (.ref a1), .val (.int (1 : Int32)), .val (.int p3)] [(.int (p0 &&& (8 : Int32))), (.int p3), (.ref a1)])) rfl (by rw [hml]; rfl) (argsL := [(.ref a1), (.int p3), (.int (p0 &&& (8 : Int32)))]) (rest := []) (lenOf pd_1 rfl) rfl (by show 2 * 0 + _ ≤ _; exact Nat.le_of_eq rfl) (hb hby at_137) (fun _ _ => ⟨rfl, e0, (by decide : 6 + 0 ≤ _), (by decide : 44 + 0 ≤ _)⟩)
  dsimp only [Pt.U, Pt.locs, Pt.cells, Pt.slots] at X1 l1 y1 z1 st1 hQ1
  subst l1 y1 z1
  obtain ⟨rfl, N1q, K1, F1⟩ := hQ1
  have N1 := Fr.app N0 N1q
  refine own_go st1 ?_
  show own_Goes _ _ _ _ _ _ _ T1 (mkF m 140 #[.val (.int p0), .val (.ref a1), .val (.int (1 : Int32)), .val (.int p3)] [(.int (own_step p3 (p0 &&& (8 : Int32))))])
  have E_a1_1 : Exa Z T1.heap a1 "com/example/wire3/wire3/broker/Service" := E_a1.keep K1
  have Zs1 : n0 ≤ T1.heap.size := Nat.le_trans Z0 K1.1
  refine own_go (fun _ k => XS.istoreN X1.here hx rfl (hb hby at_140) rfl (l' := #[.val (.int p0), .val (.ref a1), .val (.int (1 : Int32)), .val (.int (own_step p3 (p0 &&& (8 : Int32))))]) rfl k) ?_
  show own_Goes _ _ _ _ _ _ _ T1 (mkF m 141 #[.val (.int p0), .val (.ref a1), .val (.int (1 : Int32)), .val (.int (own_step p3 (p0 &&& (8 : Int32))))] [])
  refine own_go (fun _ k => XS.iloadN X1.here hx rfl (hb hby at_141) rfl k) ?_
  show own_Goes _ _ _ _ _ _ _ T1 (mkF m 142 #[.val (.int p0), .val (.ref a1), .val (.int (1 : Int32)), .val (.int (own_step p3 (p0 &&& (8 : Int32))))] [(.int (1 : Int32))])
  refine own_go (fun _ k => XS.ifNo X1.here hx rfl (hb hby at_142) rfl ((if0 _ _).trans (feq (by decide : ¬ ((1 : Int32) = (0 : Int32)))).1) k) ?_
  show own_Goes _ _ _ _ _ _ _ T1 (mkF m 145 #[.val (.int p0), .val (.ref a1), .val (.int (1 : Int32)), .val (.int (own_step p3 (p0 &&& (8 : Int32))))] [])
  refine own_go (fun _ k => XS.aloadN X1.here hx rfl (hb hby at_145) rfl rfl k) ?_
  show own_Goes _ _ _ _ _ _ _ T1 (mkF m 146 #[.val (.int p0), .val (.ref a1), .val (.int (1 : Int32)), .val (.int (own_step p3 (p0 &&& (8 : Int32))))] [(.ref a1)])
  obtain ⟨cq2, kq2, zq2a, zq2b, zq2c⟩ := isOf hZ rfl E_a1_1
  obtain ⟨_, _, ⟨T2, L2, k2, n2⟩, -, X2, ⟨Lc2, hQ2, l2, y2, z2⟩, st2⟩ := X1.virtualBack hx (y := (⟨"com/example/wire3/wire3/broker/Service", "hasWorkers", "()Z"⟩ : MethodName)) (z := (⟨"com/example/wire3/wire3/broker/Service", "hasWorkers", "()Z"⟩ : MethodName)) hown (mvT hZ (hw _ (List.mem_of_getElem? (i := 33) rfl))) (mvT hZ (hw _ (List.mem_of_getElem? (i := 34) rfl))) (notFace_of_selects (args := #[]) (mvT hZ (hw _ (List.mem_of_getElem? (i := 36) rfl)))) (mvT hZ (hw _ (List.mem_of_getElem? (i := 36) rfl))) (mvT hZ (hw _ (List.mem_of_getElem? (i := 35) rfl))) (by decide) (backOf (W := 0) (rm5 l Z a0 hw [] a1 (own_step p3 (p0 &&& (8 : Int32))) T1.heap n0 Zs1 F1) hZ (hw _ (List.mem_of_getElem? (i := 37) rfl)) (hw _ (List.mem_of_getElem? (i := 2) rfl)) (by decide) (by decide)) zq2a zq2c (g := (mkF m 146 #[.val (.int p0), .val (.ref a1), .val (.int (1 : Int32)), .val (.int (own_step p3 (p0 &&& (8 : Int32))))] [(.ref a1)])) rfl (by rw [hml]; rfl) (Steps.refl _) (argsL := []) (rest := []) (lenOf pd_2 rfl) rfl (by show 2 * 0 + _ ≤ _; exact Nat.le_of_eq rfl) (hb hby at_146) (fun _ _ => ⟨rfl, rfl, (by decide : 6 + 0 + 0 ≤ _), (by decide : 44 + 0 + 0 ≤ _)⟩)
  dsimp only [Pt.U, Pt.locs, Pt.cells, Pt.slots] at X2 l2 y2 z2 st2 hQ2
  subst l2 y2 z2
  obtain ⟨rfl, N2q, e2⟩ := hQ2
  have N2 := Fr.app N1 N2q
  refine own_goS st2 ?_
  show own_Goes _ _ _ _ _ _ _ T2 (mkF m 149 #[.val (.int p0), .val (.ref a1), .val (.int (1 : Int32)), .val (.int (own_step p3 (p0 &&& (8 : Int32))))] [(.int (own_pos (own_step p3 (p0 &&& (8 : Int32)))))])
  refine own_go (fun _ k => XS.iloadN X2.here hx rfl (hb hby at_149) rfl k) ?_
  show own_Goes _ _ _ _ _ _ _ T2 (mkF m 150 #[.val (.int p0), .val (.ref a1), .val (.int (1 : Int32)), .val (.int (own_step p3 (p0 &&& (8 : Int32))))] [(.int (own_step p3 (p0 &&& (8 : Int32)))), (.int (own_pos (own_step p3 (p0 &&& (8 : Int32)))))])
  by_cases hc150 : (0 : Int32) < (own_step p3 (p0 &&& (8 : Int32)))
  · refine own_go (fun _ k => XS.ifNo X2.here hx rfl (hb hby at_150) rfl ((if0 _ _).trans (tlt hc150).2.2.2) k) ?_
    show own_Goes _ _ _ _ _ _ _ T2 (mkF m 153 #[.val (.int p0), .val (.ref a1), .val (.int (1 : Int32)), .val (.int (own_step p3 (p0 &&& (8 : Int32))))] [(.int (own_pos (own_step p3 (p0 &&& (8 : Int32)))))])
    refine own_go (fun _ k => XS.iconst X2.here hx rfl (hb hby at_153) k) ?_
    show own_Goes _ _ _ _ _ _ _ T2 (mkF m 154 #[.val (.int p0), .val (.ref a1), .val (.int (1 : Int32)), .val (.int (own_step p3 (p0 &&& (8 : Int32))))] [(.int (1 : Int32)), (.int (own_pos (own_step p3 (p0 &&& (8 : Int32)))))])
    refine own_go (fun _ k => XS.goto X2.here hx rfl (pc0 := 154) (pc' := 158) rfl (hb hby at_154) (by decide) (by decide) k) ?_
    show own_Goes _ _ _ _ _ _ _ T2 (mkF m 158 #[.val (.int p0), .val (.ref a1), .val (.int (1 : Int32)), .val (.int (own_step p3 (p0 &&& (8 : Int32))))] [(.int (1 : Int32)), (.int (own_pos (own_step p3 (p0 &&& (8 : Int32)))))])
    refine own_go (fun _ k => XS.icmpNo X2.here hx rfl (hb hby at_158) rfl (teq (by simp [own_pos, *] : (own_pos (own_step p3 (p0 &&& (8 : Int32)))) = (1 : Int32))).2 k) ?_
    show own_Goes _ _ _ _ _ _ _ T2 (mkF m 161 #[.val (.int p0), .val (.ref a1), .val (.int (1 : Int32)), .val (.int (own_step p3 (p0 &&& (8 : Int32))))] [])
    refine own_go (fun _ k => XS.iconst X2.here hx rfl (hb hby at_161) k) ?_
    show own_Goes _ _ _ _ _ _ _ T2 (mkF m 162 #[.val (.int p0), .val (.ref a1), .val (.int (1 : Int32)), .val (.int (own_step p3 (p0 &&& (8 : Int32))))] [(.int (1 : Int32))])
    refine own_go (fun _ k => XS.goto X2.here hx rfl (pc0 := 162) (pc' := 166) rfl (hb hby at_162) (by decide) (by decide) k) ?_
    show own_Goes _ _ _ _ _ _ _ T2 (mkF m 166 #[.val (.int p0), .val (.ref a1), .val (.int (1 : Int32)), .val (.int (own_step p3 (p0 &&& (8 : Int32))))] [(.int (1 : Int32))])
    refine own_go (fun _ k => XS.istoreN X2.here hx rfl (hb hby at_166) rfl (l' := #[.val (.int p0), .val (.ref a1), .val (.int (1 : Int32)), .val (.int (own_step p3 (p0 &&& (8 : Int32))))]) rfl k) ?_
    show own_Goes _ _ _ _ _ _ _ T2 (mkF m 167 #[.val (.int p0), .val (.ref a1), .val (.int (1 : Int32)), .val (.int (own_step p3 (p0 &&& (8 : Int32))))] [])
    exact seg167 p0 _ a1 hw ⟨hx, hby, hml, hown, hnm, hret, hlk, hZ⟩ X2 e2 n0 Zs1 N2 E_a1_1 F1 lo_a1
  · refine own_go (fun _ k => XS.ifYes X2.here hx rfl (pc0 := 150) (pc' := 157) rfl (hb hby at_150) rfl ((if0 _ _).trans (flt hc150).2.2.2) (by decide) (by decide) k) ?_
    show own_Goes _ _ _ _ _ _ _ T2 (mkF m 157 #[.val (.int p0), .val (.ref a1), .val (.int (1 : Int32)), .val (.int (own_step p3 (p0 &&& (8 : Int32))))] [(.int (own_pos (own_step p3 (p0 &&& (8 : Int32)))))])
    refine own_go (fun _ k => XS.iconst X2.here hx rfl (hb hby at_157) k) ?_
    show own_Goes _ _ _ _ _ _ _ T2 (mkF m 158 #[.val (.int p0), .val (.ref a1), .val (.int (1 : Int32)), .val (.int (own_step p3 (p0 &&& (8 : Int32))))] [(.int (0 : Int32)), (.int (own_pos (own_step p3 (p0 &&& (8 : Int32)))))])
    refine own_go (fun _ k => XS.icmpNo X2.here hx rfl (hb hby at_158) rfl (teq (by simp [own_pos, *] : (own_pos (own_step p3 (p0 &&& (8 : Int32)))) = (0 : Int32))).2 k) ?_
    show own_Goes _ _ _ _ _ _ _ T2 (mkF m 161 #[.val (.int p0), .val (.ref a1), .val (.int (1 : Int32)), .val (.int (own_step p3 (p0 &&& (8 : Int32))))] [])
    refine own_go (fun _ k => XS.iconst X2.here hx rfl (hb hby at_161) k) ?_
    show own_Goes _ _ _ _ _ _ _ T2 (mkF m 162 #[.val (.int p0), .val (.ref a1), .val (.int (1 : Int32)), .val (.int (own_step p3 (p0 &&& (8 : Int32))))] [(.int (1 : Int32))])
    refine own_go (fun _ k => XS.goto X2.here hx rfl (pc0 := 162) (pc' := 166) rfl (hb hby at_162) (by decide) (by decide) k) ?_
    show own_Goes _ _ _ _ _ _ _ T2 (mkF m 166 #[.val (.int p0), .val (.ref a1), .val (.int (1 : Int32)), .val (.int (own_step p3 (p0 &&& (8 : Int32))))] [(.int (1 : Int32))])
    refine own_go (fun _ k => XS.istoreN X2.here hx rfl (hb hby at_166) rfl (l' := #[.val (.int p0), .val (.ref a1), .val (.int (1 : Int32)), .val (.int (own_step p3 (p0 &&& (8 : Int32))))]) rfl k) ?_
    show own_Goes _ _ _ _ _ _ _ T2 (mkF m 167 #[.val (.int p0), .val (.ref a1), .val (.int (1 : Int32)), .val (.int (own_step p3 (p0 &&& (8 : Int32))))] [])
    exact seg167 p0 _ a1 hw ⟨hx, hby, hml, hown, hnm, hret, hlk, hZ⟩ X2 e2 n0 Zs1 N2 E_a1_1 F1 lo_a1
set_option maxRecDepth 65536 in
set_option maxHeartbeats 40000000 in
theorem seg96 {p : Program} {l : Launch} {e : Env} {s : State} {m : MethodId} {args : Array Value} {below : List Frame} {meth : Method} {c : Code} {s₁ : State} {locs : List Loc} {Z : State} {a0 : Array Value} {h0 : Heap} (p0 p3 : Int32) (a1 : Addr)
    (hw : ∀ d ∈ tables_1, d.before a0 Z = true) (C : own_Ctx Z x "com/example/wire3/wire3/broker/ServiceHasWorkersPinLaw" code maxLocals ret p s m meth c) (X0 : Stand p l e room_1 s m args below meth c s₁ locs 6 44) (e0 : s₁.heap = h0) (n0 : Nat) (Z0 : n0 ≤ h0.size) (N0 : Fr n0 locs) (E_a1 : Exa Z h0 a1 "com/example/wire3/wire3/broker/Service") (F_wk : Fld Z h0 a1 "com/example/wire3/wire3/broker/Service" "workers" "I" (.int p3)) (lo_a1 : n0 ≤ a1) :
    own_Goes p e below s (fun v h L => v = some (.int 1) ∧ Fr n0 L) room_1.cells room_1.slots s₁ (mkF m 96 #[.val (.int p0), .val (.ref a1), .val (.int (1 : Int32)), .val (.int p3)] []) := by
  obtain ⟨hx, hby, hml, hown, hnm, hret, hlk, hZ⟩ := C
  refine own_go (fun _ k => XS.aloadN X0.here hx rfl (hb hby at_96) rfl rfl k) ?_
  show own_Goes _ _ _ _ _ _ _ s₁ (mkF m 97 #[.val (.int p0), .val (.ref a1), .val (.int (1 : Int32)), .val (.int p3)] [(.ref a1)])
  refine own_go (fun _ k => XS.iloadN X0.here hx rfl (hb hby at_97) rfl k) ?_
  show own_Goes _ _ _ _ _ _ _ s₁ (mkF m 98 #[.val (.int p0), .val (.ref a1), .val (.int (1 : Int32)), .val (.int p3)] [(.int p3), (.ref a1)])
  refine own_go (fun _ k => XS.iloadN X0.here hx rfl (hb hby at_98) rfl k) ?_
  show own_Goes _ _ _ _ _ _ _ s₁ (mkF m 99 #[.val (.int p0), .val (.ref a1), .val (.int (1 : Int32)), .val (.int p3)] [(.int p0), (.int p3), (.ref a1)])
  refine own_go (fun _ k => XS.iconst X0.here hx rfl (hb hby at_99) k) ?_
  show own_Goes _ _ _ _ _ _ _ s₁ (mkF m 100 #[.val (.int p0), .val (.ref a1), .val (.int (1 : Int32)), .val (.int p3)] [(.int (4 : Int32)), (.int p0), (.int p3), (.ref a1)])
  refine own_go (fun _ k => XS.iand X0.here hx rfl (hb hby at_100) rfl k) ?_
  show own_Goes _ _ _ _ _ _ _ s₁ (mkF m 101 #[.val (.int p0), .val (.ref a1), .val (.int (1 : Int32)), .val (.int p3)] [(.int (p0 &&& (4 : Int32))), (.int p3), (.ref a1)])
  obtain ⟨_, _, ⟨T1, L1, k1, n1⟩, -, X1, ⟨Lc1, hQ1, l1, y1, z1⟩, st1⟩ := Jvm.LawKit.callS X0 hx (y := (⟨"com/example/wire3/wire3/broker/ServiceHasWorkersPinLaw", "step", "(Lcom/example/wire3/wire3/broker/Service;II)I"⟩ : MethodName)) hown (mvT hZ (hw _ (List.mem_of_getElem? (i := 40) rfl))) (mvT hZ (hw _ (List.mem_of_getElem? (i := 41) rfl))) (mvT hZ (hw _ (List.mem_of_getElem? (i := 42) rfl))) (mvT hZ (hw _ (List.mem_of_getElem? (i := 43) rfl))) (by decide) (backOf (W := 0) (rm6 l Z a0 hw [] a1 p3 (p0 &&& (4 : Int32)) h0 n0 Z0 E_a1 F_wk lo_a1) hZ (hw _ (List.mem_of_getElem? (i := 43) rfl)) (hw _ (List.mem_of_getElem? (i := 42) rfl)) (by decide) (by decide)) (g := (mkF m 101 #[.val (.int p0), .val (.ref a1), .val (.int (1 : Int32)), .val (.int p3)] [(.int (p0 &&& (4 : Int32))), (.int p3), (.ref a1)])) rfl (by rw [hml]; rfl) (argsL := [(.ref a1), (.int p3), (.int (p0 &&& (4 : Int32)))]) (rest := []) (lenOf pd_1 rfl) rfl (by show 2 * 0 + _ ≤ _; exact Nat.le_of_eq rfl) (hb hby at_101) (fun _ _ => ⟨rfl, e0, (by decide : 6 + 0 ≤ _), (by decide : 44 + 0 ≤ _)⟩)
  dsimp only [Pt.U, Pt.locs, Pt.cells, Pt.slots] at X1 l1 y1 z1 st1 hQ1
  subst l1 y1 z1
  obtain ⟨rfl, N1q, K1, F1⟩ := hQ1
  have N1 := Fr.app N0 N1q
  refine own_go st1 ?_
  show own_Goes _ _ _ _ _ _ _ T1 (mkF m 104 #[.val (.int p0), .val (.ref a1), .val (.int (1 : Int32)), .val (.int p3)] [(.int (own_step p3 (p0 &&& (4 : Int32))))])
  have E_a1_1 : Exa Z T1.heap a1 "com/example/wire3/wire3/broker/Service" := E_a1.keep K1
  have Zs1 : n0 ≤ T1.heap.size := Nat.le_trans Z0 K1.1
  refine own_go (fun _ k => XS.istoreN X1.here hx rfl (hb hby at_104) rfl (l' := #[.val (.int p0), .val (.ref a1), .val (.int (1 : Int32)), .val (.int (own_step p3 (p0 &&& (4 : Int32))))]) rfl k) ?_
  show own_Goes _ _ _ _ _ _ _ T1 (mkF m 105 #[.val (.int p0), .val (.ref a1), .val (.int (1 : Int32)), .val (.int (own_step p3 (p0 &&& (4 : Int32))))] [])
  refine own_go (fun _ k => XS.iloadN X1.here hx rfl (hb hby at_105) rfl k) ?_
  show own_Goes _ _ _ _ _ _ _ T1 (mkF m 106 #[.val (.int p0), .val (.ref a1), .val (.int (1 : Int32)), .val (.int (own_step p3 (p0 &&& (4 : Int32))))] [(.int (1 : Int32))])
  refine own_go (fun _ k => XS.ifNo X1.here hx rfl (hb hby at_106) rfl ((if0 _ _).trans (feq (by decide : ¬ ((1 : Int32) = (0 : Int32)))).1) k) ?_
  show own_Goes _ _ _ _ _ _ _ T1 (mkF m 109 #[.val (.int p0), .val (.ref a1), .val (.int (1 : Int32)), .val (.int (own_step p3 (p0 &&& (4 : Int32))))] [])
  refine own_go (fun _ k => XS.aloadN X1.here hx rfl (hb hby at_109) rfl rfl k) ?_
  show own_Goes _ _ _ _ _ _ _ T1 (mkF m 110 #[.val (.int p0), .val (.ref a1), .val (.int (1 : Int32)), .val (.int (own_step p3 (p0 &&& (4 : Int32))))] [(.ref a1)])
  obtain ⟨cq2, kq2, zq2a, zq2b, zq2c⟩ := isOf hZ rfl E_a1_1
  obtain ⟨_, _, ⟨T2, L2, k2, n2⟩, -, X2, ⟨Lc2, hQ2, l2, y2, z2⟩, st2⟩ := X1.virtualBack hx (y := (⟨"com/example/wire3/wire3/broker/Service", "hasWorkers", "()Z"⟩ : MethodName)) (z := (⟨"com/example/wire3/wire3/broker/Service", "hasWorkers", "()Z"⟩ : MethodName)) hown (mvT hZ (hw _ (List.mem_of_getElem? (i := 33) rfl))) (mvT hZ (hw _ (List.mem_of_getElem? (i := 34) rfl))) (notFace_of_selects (args := #[]) (mvT hZ (hw _ (List.mem_of_getElem? (i := 36) rfl)))) (mvT hZ (hw _ (List.mem_of_getElem? (i := 36) rfl))) (mvT hZ (hw _ (List.mem_of_getElem? (i := 35) rfl))) (by decide) (backOf (W := 0) (rm5 l Z a0 hw [] a1 (own_step p3 (p0 &&& (4 : Int32))) T1.heap n0 Zs1 F1) hZ (hw _ (List.mem_of_getElem? (i := 37) rfl)) (hw _ (List.mem_of_getElem? (i := 2) rfl)) (by decide) (by decide)) zq2a zq2c (g := (mkF m 110 #[.val (.int p0), .val (.ref a1), .val (.int (1 : Int32)), .val (.int (own_step p3 (p0 &&& (4 : Int32))))] [(.ref a1)])) rfl (by rw [hml]; rfl) (Steps.refl _) (argsL := []) (rest := []) (lenOf pd_2 rfl) rfl (by show 2 * 0 + _ ≤ _; exact Nat.le_of_eq rfl) (hb hby at_110) (fun _ _ => ⟨rfl, rfl, (by decide : 6 + 0 + 0 ≤ _), (by decide : 44 + 0 + 0 ≤ _)⟩)
  dsimp only [Pt.U, Pt.locs, Pt.cells, Pt.slots] at X2 l2 y2 z2 st2 hQ2
  subst l2 y2 z2
  obtain ⟨rfl, N2q, e2⟩ := hQ2
  have N2 := Fr.app N1 N2q
  refine own_goS st2 ?_
  show own_Goes _ _ _ _ _ _ _ T2 (mkF m 113 #[.val (.int p0), .val (.ref a1), .val (.int (1 : Int32)), .val (.int (own_step p3 (p0 &&& (4 : Int32))))] [(.int (own_pos (own_step p3 (p0 &&& (4 : Int32)))))])
  refine own_go (fun _ k => XS.iloadN X2.here hx rfl (hb hby at_113) rfl k) ?_
  show own_Goes _ _ _ _ _ _ _ T2 (mkF m 114 #[.val (.int p0), .val (.ref a1), .val (.int (1 : Int32)), .val (.int (own_step p3 (p0 &&& (4 : Int32))))] [(.int (own_step p3 (p0 &&& (4 : Int32)))), (.int (own_pos (own_step p3 (p0 &&& (4 : Int32)))))])
  by_cases hc114 : (0 : Int32) < (own_step p3 (p0 &&& (4 : Int32)))
  · refine own_go (fun _ k => XS.ifNo X2.here hx rfl (hb hby at_114) rfl ((if0 _ _).trans (tlt hc114).2.2.2) k) ?_
    show own_Goes _ _ _ _ _ _ _ T2 (mkF m 117 #[.val (.int p0), .val (.ref a1), .val (.int (1 : Int32)), .val (.int (own_step p3 (p0 &&& (4 : Int32))))] [(.int (own_pos (own_step p3 (p0 &&& (4 : Int32)))))])
    refine own_go (fun _ k => XS.iconst X2.here hx rfl (hb hby at_117) k) ?_
    show own_Goes _ _ _ _ _ _ _ T2 (mkF m 118 #[.val (.int p0), .val (.ref a1), .val (.int (1 : Int32)), .val (.int (own_step p3 (p0 &&& (4 : Int32))))] [(.int (1 : Int32)), (.int (own_pos (own_step p3 (p0 &&& (4 : Int32)))))])
    refine own_go (fun _ k => XS.goto X2.here hx rfl (pc0 := 118) (pc' := 122) rfl (hb hby at_118) (by decide) (by decide) k) ?_
    show own_Goes _ _ _ _ _ _ _ T2 (mkF m 122 #[.val (.int p0), .val (.ref a1), .val (.int (1 : Int32)), .val (.int (own_step p3 (p0 &&& (4 : Int32))))] [(.int (1 : Int32)), (.int (own_pos (own_step p3 (p0 &&& (4 : Int32)))))])
    refine own_go (fun _ k => XS.icmpNo X2.here hx rfl (hb hby at_122) rfl (teq (by simp [own_pos, *] : (own_pos (own_step p3 (p0 &&& (4 : Int32)))) = (1 : Int32))).2 k) ?_
    show own_Goes _ _ _ _ _ _ _ T2 (mkF m 125 #[.val (.int p0), .val (.ref a1), .val (.int (1 : Int32)), .val (.int (own_step p3 (p0 &&& (4 : Int32))))] [])
    refine own_go (fun _ k => XS.iconst X2.here hx rfl (hb hby at_125) k) ?_
    show own_Goes _ _ _ _ _ _ _ T2 (mkF m 126 #[.val (.int p0), .val (.ref a1), .val (.int (1 : Int32)), .val (.int (own_step p3 (p0 &&& (4 : Int32))))] [(.int (1 : Int32))])
    refine own_go (fun _ k => XS.goto X2.here hx rfl (pc0 := 126) (pc' := 130) rfl (hb hby at_126) (by decide) (by decide) k) ?_
    show own_Goes _ _ _ _ _ _ _ T2 (mkF m 130 #[.val (.int p0), .val (.ref a1), .val (.int (1 : Int32)), .val (.int (own_step p3 (p0 &&& (4 : Int32))))] [(.int (1 : Int32))])
    refine own_go (fun _ k => XS.istoreN X2.here hx rfl (hb hby at_130) rfl (l' := #[.val (.int p0), .val (.ref a1), .val (.int (1 : Int32)), .val (.int (own_step p3 (p0 &&& (4 : Int32))))]) rfl k) ?_
    show own_Goes _ _ _ _ _ _ _ T2 (mkF m 131 #[.val (.int p0), .val (.ref a1), .val (.int (1 : Int32)), .val (.int (own_step p3 (p0 &&& (4 : Int32))))] [])
    exact seg131 p0 _ a1 hw ⟨hx, hby, hml, hown, hnm, hret, hlk, hZ⟩ X2 e2 n0 Zs1 N2 E_a1_1 F1 lo_a1
  · refine own_go (fun _ k => XS.ifYes X2.here hx rfl (pc0 := 114) (pc' := 121) rfl (hb hby at_114) rfl ((if0 _ _).trans (flt hc114).2.2.2) (by decide) (by decide) k) ?_
    show own_Goes _ _ _ _ _ _ _ T2 (mkF m 121 #[.val (.int p0), .val (.ref a1), .val (.int (1 : Int32)), .val (.int (own_step p3 (p0 &&& (4 : Int32))))] [(.int (own_pos (own_step p3 (p0 &&& (4 : Int32)))))])
    refine own_go (fun _ k => XS.iconst X2.here hx rfl (hb hby at_121) k) ?_
    show own_Goes _ _ _ _ _ _ _ T2 (mkF m 122 #[.val (.int p0), .val (.ref a1), .val (.int (1 : Int32)), .val (.int (own_step p3 (p0 &&& (4 : Int32))))] [(.int (0 : Int32)), (.int (own_pos (own_step p3 (p0 &&& (4 : Int32)))))])
    refine own_go (fun _ k => XS.icmpNo X2.here hx rfl (hb hby at_122) rfl (teq (by simp [own_pos, *] : (own_pos (own_step p3 (p0 &&& (4 : Int32)))) = (0 : Int32))).2 k) ?_
    show own_Goes _ _ _ _ _ _ _ T2 (mkF m 125 #[.val (.int p0), .val (.ref a1), .val (.int (1 : Int32)), .val (.int (own_step p3 (p0 &&& (4 : Int32))))] [])
    refine own_go (fun _ k => XS.iconst X2.here hx rfl (hb hby at_125) k) ?_
    show own_Goes _ _ _ _ _ _ _ T2 (mkF m 126 #[.val (.int p0), .val (.ref a1), .val (.int (1 : Int32)), .val (.int (own_step p3 (p0 &&& (4 : Int32))))] [(.int (1 : Int32))])
    refine own_go (fun _ k => XS.goto X2.here hx rfl (pc0 := 126) (pc' := 130) rfl (hb hby at_126) (by decide) (by decide) k) ?_
    show own_Goes _ _ _ _ _ _ _ T2 (mkF m 130 #[.val (.int p0), .val (.ref a1), .val (.int (1 : Int32)), .val (.int (own_step p3 (p0 &&& (4 : Int32))))] [(.int (1 : Int32))])
    refine own_go (fun _ k => XS.istoreN X2.here hx rfl (hb hby at_130) rfl (l' := #[.val (.int p0), .val (.ref a1), .val (.int (1 : Int32)), .val (.int (own_step p3 (p0 &&& (4 : Int32))))]) rfl k) ?_
    show own_Goes _ _ _ _ _ _ _ T2 (mkF m 131 #[.val (.int p0), .val (.ref a1), .val (.int (1 : Int32)), .val (.int (own_step p3 (p0 &&& (4 : Int32))))] [])
    exact seg131 p0 _ a1 hw ⟨hx, hby, hml, hown, hnm, hret, hlk, hZ⟩ X2 e2 n0 Zs1 N2 E_a1_1 F1 lo_a1
set_option maxRecDepth 65536 in
set_option maxHeartbeats 40000000 in
theorem seg61 {p : Program} {l : Launch} {e : Env} {s : State} {m : MethodId} {args : Array Value} {below : List Frame} {meth : Method} {c : Code} {s₁ : State} {locs : List Loc} {Z : State} {a0 : Array Value} {h0 : Heap} (p0 p3 : Int32) (a1 : Addr)
    (hw : ∀ d ∈ tables_1, d.before a0 Z = true) (C : own_Ctx Z x "com/example/wire3/wire3/broker/ServiceHasWorkersPinLaw" code maxLocals ret p s m meth c) (X0 : Stand p l e room_1 s m args below meth c s₁ locs 6 44) (e0 : s₁.heap = h0) (n0 : Nat) (Z0 : n0 ≤ h0.size) (N0 : Fr n0 locs) (E_a1 : Exa Z h0 a1 "com/example/wire3/wire3/broker/Service") (F_wk : Fld Z h0 a1 "com/example/wire3/wire3/broker/Service" "workers" "I" (.int p3)) (lo_a1 : n0 ≤ a1) :
    own_Goes p e below s (fun v h L => v = some (.int 1) ∧ Fr n0 L) room_1.cells room_1.slots s₁ (mkF m 61 #[.val (.int p0), .val (.ref a1), .val (.int (1 : Int32)), .val (.int p3)] []) := by
  obtain ⟨hx, hby, hml, hown, hnm, hret, hlk, hZ⟩ := C
  refine own_go (fun _ k => XS.aloadN X0.here hx rfl (hb hby at_61) rfl rfl k) ?_
  show own_Goes _ _ _ _ _ _ _ s₁ (mkF m 62 #[.val (.int p0), .val (.ref a1), .val (.int (1 : Int32)), .val (.int p3)] [(.ref a1)])
  refine own_go (fun _ k => XS.iloadN X0.here hx rfl (hb hby at_62) rfl k) ?_
  show own_Goes _ _ _ _ _ _ _ s₁ (mkF m 63 #[.val (.int p0), .val (.ref a1), .val (.int (1 : Int32)), .val (.int p3)] [(.int p3), (.ref a1)])
  refine own_go (fun _ k => XS.iloadN X0.here hx rfl (hb hby at_63) rfl k) ?_
  show own_Goes _ _ _ _ _ _ _ s₁ (mkF m 64 #[.val (.int p0), .val (.ref a1), .val (.int (1 : Int32)), .val (.int p3)] [(.int p0), (.int p3), (.ref a1)])
  refine own_go (fun _ k => XS.iconst X0.here hx rfl (hb hby at_64) k) ?_
  show own_Goes _ _ _ _ _ _ _ s₁ (mkF m 65 #[.val (.int p0), .val (.ref a1), .val (.int (1 : Int32)), .val (.int p3)] [(.int (2 : Int32)), (.int p0), (.int p3), (.ref a1)])
  refine own_go (fun _ k => XS.iand X0.here hx rfl (hb hby at_65) rfl k) ?_
  show own_Goes _ _ _ _ _ _ _ s₁ (mkF m 66 #[.val (.int p0), .val (.ref a1), .val (.int (1 : Int32)), .val (.int p3)] [(.int (p0 &&& (2 : Int32))), (.int p3), (.ref a1)])
  obtain ⟨_, _, ⟨T1, L1, k1, n1⟩, -, X1, ⟨Lc1, hQ1, l1, y1, z1⟩, st1⟩ := Jvm.LawKit.callS X0 hx (y := (⟨"com/example/wire3/wire3/broker/ServiceHasWorkersPinLaw", "step", "(Lcom/example/wire3/wire3/broker/Service;II)I"⟩ : MethodName)) hown (mvT hZ (hw _ (List.mem_of_getElem? (i := 40) rfl))) (mvT hZ (hw _ (List.mem_of_getElem? (i := 41) rfl))) (mvT hZ (hw _ (List.mem_of_getElem? (i := 42) rfl))) (mvT hZ (hw _ (List.mem_of_getElem? (i := 43) rfl))) (by decide) (backOf (W := 0) (rm6 l Z a0 hw [] a1 p3 (p0 &&& (2 : Int32)) h0 n0 Z0 E_a1 F_wk lo_a1) hZ (hw _ (List.mem_of_getElem? (i := 43) rfl)) (hw _ (List.mem_of_getElem? (i := 42) rfl)) (by decide) (by decide)) (g := (mkF m 66 #[.val (.int p0), .val (.ref a1), .val (.int (1 : Int32)), .val (.int p3)] [(.int (p0 &&& (2 : Int32))), (.int p3), (.ref a1)])) rfl (by rw [hml]; rfl) (argsL := [(.ref a1), (.int p3), (.int (p0 &&& (2 : Int32)))]) (rest := []) (lenOf pd_1 rfl) rfl (by show 2 * 0 + _ ≤ _; exact Nat.le_of_eq rfl) (hb hby at_66) (fun _ _ => ⟨rfl, e0, (by decide : 6 + 0 ≤ _), (by decide : 44 + 0 ≤ _)⟩)
  dsimp only [Pt.U, Pt.locs, Pt.cells, Pt.slots] at X1 l1 y1 z1 st1 hQ1
  subst l1 y1 z1
  obtain ⟨rfl, N1q, K1, F1⟩ := hQ1
  have N1 := Fr.app N0 N1q
  refine own_go st1 ?_
  show own_Goes _ _ _ _ _ _ _ T1 (mkF m 69 #[.val (.int p0), .val (.ref a1), .val (.int (1 : Int32)), .val (.int p3)] [(.int (own_step p3 (p0 &&& (2 : Int32))))])
  have E_a1_1 : Exa Z T1.heap a1 "com/example/wire3/wire3/broker/Service" := E_a1.keep K1
  have Zs1 : n0 ≤ T1.heap.size := Nat.le_trans Z0 K1.1
  refine own_go (fun _ k => XS.istoreN X1.here hx rfl (hb hby at_69) rfl (l' := #[.val (.int p0), .val (.ref a1), .val (.int (1 : Int32)), .val (.int (own_step p3 (p0 &&& (2 : Int32))))]) rfl k) ?_
  show own_Goes _ _ _ _ _ _ _ T1 (mkF m 70 #[.val (.int p0), .val (.ref a1), .val (.int (1 : Int32)), .val (.int (own_step p3 (p0 &&& (2 : Int32))))] [])
  refine own_go (fun _ k => XS.iloadN X1.here hx rfl (hb hby at_70) rfl k) ?_
  show own_Goes _ _ _ _ _ _ _ T1 (mkF m 71 #[.val (.int p0), .val (.ref a1), .val (.int (1 : Int32)), .val (.int (own_step p3 (p0 &&& (2 : Int32))))] [(.int (1 : Int32))])
  refine own_go (fun _ k => XS.ifNo X1.here hx rfl (hb hby at_71) rfl ((if0 _ _).trans (feq (by decide : ¬ ((1 : Int32) = (0 : Int32)))).1) k) ?_
  show own_Goes _ _ _ _ _ _ _ T1 (mkF m 74 #[.val (.int p0), .val (.ref a1), .val (.int (1 : Int32)), .val (.int (own_step p3 (p0 &&& (2 : Int32))))] [])
  refine own_go (fun _ k => XS.aloadN X1.here hx rfl (hb hby at_74) rfl rfl k) ?_
  show own_Goes _ _ _ _ _ _ _ T1 (mkF m 75 #[.val (.int p0), .val (.ref a1), .val (.int (1 : Int32)), .val (.int (own_step p3 (p0 &&& (2 : Int32))))] [(.ref a1)])
  obtain ⟨cq2, kq2, zq2a, zq2b, zq2c⟩ := isOf hZ rfl E_a1_1
  obtain ⟨_, _, ⟨T2, L2, k2, n2⟩, -, X2, ⟨Lc2, hQ2, l2, y2, z2⟩, st2⟩ := X1.virtualBack hx (y := (⟨"com/example/wire3/wire3/broker/Service", "hasWorkers", "()Z"⟩ : MethodName)) (z := (⟨"com/example/wire3/wire3/broker/Service", "hasWorkers", "()Z"⟩ : MethodName)) hown (mvT hZ (hw _ (List.mem_of_getElem? (i := 33) rfl))) (mvT hZ (hw _ (List.mem_of_getElem? (i := 34) rfl))) (notFace_of_selects (args := #[]) (mvT hZ (hw _ (List.mem_of_getElem? (i := 36) rfl)))) (mvT hZ (hw _ (List.mem_of_getElem? (i := 36) rfl))) (mvT hZ (hw _ (List.mem_of_getElem? (i := 35) rfl))) (by decide) (backOf (W := 0) (rm5 l Z a0 hw [] a1 (own_step p3 (p0 &&& (2 : Int32))) T1.heap n0 Zs1 F1) hZ (hw _ (List.mem_of_getElem? (i := 37) rfl)) (hw _ (List.mem_of_getElem? (i := 2) rfl)) (by decide) (by decide)) zq2a zq2c (g := (mkF m 75 #[.val (.int p0), .val (.ref a1), .val (.int (1 : Int32)), .val (.int (own_step p3 (p0 &&& (2 : Int32))))] [(.ref a1)])) rfl (by rw [hml]; rfl) (Steps.refl _) (argsL := []) (rest := []) (lenOf pd_2 rfl) rfl (by show 2 * 0 + _ ≤ _; exact Nat.le_of_eq rfl) (hb hby at_75) (fun _ _ => ⟨rfl, rfl, (by decide : 6 + 0 + 0 ≤ _), (by decide : 44 + 0 + 0 ≤ _)⟩)
  dsimp only [Pt.U, Pt.locs, Pt.cells, Pt.slots] at X2 l2 y2 z2 st2 hQ2
  subst l2 y2 z2
  obtain ⟨rfl, N2q, e2⟩ := hQ2
  have N2 := Fr.app N1 N2q
  refine own_goS st2 ?_
  show own_Goes _ _ _ _ _ _ _ T2 (mkF m 78 #[.val (.int p0), .val (.ref a1), .val (.int (1 : Int32)), .val (.int (own_step p3 (p0 &&& (2 : Int32))))] [(.int (own_pos (own_step p3 (p0 &&& (2 : Int32)))))])
  refine own_go (fun _ k => XS.iloadN X2.here hx rfl (hb hby at_78) rfl k) ?_
  show own_Goes _ _ _ _ _ _ _ T2 (mkF m 79 #[.val (.int p0), .val (.ref a1), .val (.int (1 : Int32)), .val (.int (own_step p3 (p0 &&& (2 : Int32))))] [(.int (own_step p3 (p0 &&& (2 : Int32)))), (.int (own_pos (own_step p3 (p0 &&& (2 : Int32)))))])
  by_cases hc79 : (0 : Int32) < (own_step p3 (p0 &&& (2 : Int32)))
  · refine own_go (fun _ k => XS.ifNo X2.here hx rfl (hb hby at_79) rfl ((if0 _ _).trans (tlt hc79).2.2.2) k) ?_
    show own_Goes _ _ _ _ _ _ _ T2 (mkF m 82 #[.val (.int p0), .val (.ref a1), .val (.int (1 : Int32)), .val (.int (own_step p3 (p0 &&& (2 : Int32))))] [(.int (own_pos (own_step p3 (p0 &&& (2 : Int32)))))])
    refine own_go (fun _ k => XS.iconst X2.here hx rfl (hb hby at_82) k) ?_
    show own_Goes _ _ _ _ _ _ _ T2 (mkF m 83 #[.val (.int p0), .val (.ref a1), .val (.int (1 : Int32)), .val (.int (own_step p3 (p0 &&& (2 : Int32))))] [(.int (1 : Int32)), (.int (own_pos (own_step p3 (p0 &&& (2 : Int32)))))])
    refine own_go (fun _ k => XS.goto X2.here hx rfl (pc0 := 83) (pc' := 87) rfl (hb hby at_83) (by decide) (by decide) k) ?_
    show own_Goes _ _ _ _ _ _ _ T2 (mkF m 87 #[.val (.int p0), .val (.ref a1), .val (.int (1 : Int32)), .val (.int (own_step p3 (p0 &&& (2 : Int32))))] [(.int (1 : Int32)), (.int (own_pos (own_step p3 (p0 &&& (2 : Int32)))))])
    refine own_go (fun _ k => XS.icmpNo X2.here hx rfl (hb hby at_87) rfl (teq (by simp [own_pos, *] : (own_pos (own_step p3 (p0 &&& (2 : Int32)))) = (1 : Int32))).2 k) ?_
    show own_Goes _ _ _ _ _ _ _ T2 (mkF m 90 #[.val (.int p0), .val (.ref a1), .val (.int (1 : Int32)), .val (.int (own_step p3 (p0 &&& (2 : Int32))))] [])
    refine own_go (fun _ k => XS.iconst X2.here hx rfl (hb hby at_90) k) ?_
    show own_Goes _ _ _ _ _ _ _ T2 (mkF m 91 #[.val (.int p0), .val (.ref a1), .val (.int (1 : Int32)), .val (.int (own_step p3 (p0 &&& (2 : Int32))))] [(.int (1 : Int32))])
    refine own_go (fun _ k => XS.goto X2.here hx rfl (pc0 := 91) (pc' := 95) rfl (hb hby at_91) (by decide) (by decide) k) ?_
    show own_Goes _ _ _ _ _ _ _ T2 (mkF m 95 #[.val (.int p0), .val (.ref a1), .val (.int (1 : Int32)), .val (.int (own_step p3 (p0 &&& (2 : Int32))))] [(.int (1 : Int32))])
    refine own_go (fun _ k => XS.istoreN X2.here hx rfl (hb hby at_95) rfl (l' := #[.val (.int p0), .val (.ref a1), .val (.int (1 : Int32)), .val (.int (own_step p3 (p0 &&& (2 : Int32))))]) rfl k) ?_
    show own_Goes _ _ _ _ _ _ _ T2 (mkF m 96 #[.val (.int p0), .val (.ref a1), .val (.int (1 : Int32)), .val (.int (own_step p3 (p0 &&& (2 : Int32))))] [])
    exact seg96 p0 _ a1 hw ⟨hx, hby, hml, hown, hnm, hret, hlk, hZ⟩ X2 e2 n0 Zs1 N2 E_a1_1 F1 lo_a1
  · refine own_go (fun _ k => XS.ifYes X2.here hx rfl (pc0 := 79) (pc' := 86) rfl (hb hby at_79) rfl ((if0 _ _).trans (flt hc79).2.2.2) (by decide) (by decide) k) ?_
    show own_Goes _ _ _ _ _ _ _ T2 (mkF m 86 #[.val (.int p0), .val (.ref a1), .val (.int (1 : Int32)), .val (.int (own_step p3 (p0 &&& (2 : Int32))))] [(.int (own_pos (own_step p3 (p0 &&& (2 : Int32)))))])
    refine own_go (fun _ k => XS.iconst X2.here hx rfl (hb hby at_86) k) ?_
    show own_Goes _ _ _ _ _ _ _ T2 (mkF m 87 #[.val (.int p0), .val (.ref a1), .val (.int (1 : Int32)), .val (.int (own_step p3 (p0 &&& (2 : Int32))))] [(.int (0 : Int32)), (.int (own_pos (own_step p3 (p0 &&& (2 : Int32)))))])
    refine own_go (fun _ k => XS.icmpNo X2.here hx rfl (hb hby at_87) rfl (teq (by simp [own_pos, *] : (own_pos (own_step p3 (p0 &&& (2 : Int32)))) = (0 : Int32))).2 k) ?_
    show own_Goes _ _ _ _ _ _ _ T2 (mkF m 90 #[.val (.int p0), .val (.ref a1), .val (.int (1 : Int32)), .val (.int (own_step p3 (p0 &&& (2 : Int32))))] [])
    refine own_go (fun _ k => XS.iconst X2.here hx rfl (hb hby at_90) k) ?_
    show own_Goes _ _ _ _ _ _ _ T2 (mkF m 91 #[.val (.int p0), .val (.ref a1), .val (.int (1 : Int32)), .val (.int (own_step p3 (p0 &&& (2 : Int32))))] [(.int (1 : Int32))])
    refine own_go (fun _ k => XS.goto X2.here hx rfl (pc0 := 91) (pc' := 95) rfl (hb hby at_91) (by decide) (by decide) k) ?_
    show own_Goes _ _ _ _ _ _ _ T2 (mkF m 95 #[.val (.int p0), .val (.ref a1), .val (.int (1 : Int32)), .val (.int (own_step p3 (p0 &&& (2 : Int32))))] [(.int (1 : Int32))])
    refine own_go (fun _ k => XS.istoreN X2.here hx rfl (hb hby at_95) rfl (l' := #[.val (.int p0), .val (.ref a1), .val (.int (1 : Int32)), .val (.int (own_step p3 (p0 &&& (2 : Int32))))]) rfl k) ?_
    show own_Goes _ _ _ _ _ _ _ T2 (mkF m 96 #[.val (.int p0), .val (.ref a1), .val (.int (1 : Int32)), .val (.int (own_step p3 (p0 &&& (2 : Int32))))] [])
    exact seg96 p0 _ a1 hw ⟨hx, hby, hml, hown, hnm, hret, hlk, hZ⟩ X2 e2 n0 Zs1 N2 E_a1_1 F1 lo_a1
set_option maxRecDepth 65536 in
set_option maxHeartbeats 40000000 in
theorem seg26 {p : Program} {l : Launch} {e : Env} {s : State} {m : MethodId} {args : Array Value} {below : List Frame} {meth : Method} {c : Code} {s₁ : State} {locs : List Loc} {Z : State} {a0 : Array Value} {h0 : Heap} (p0 p3 : Int32) (a1 : Addr)
    (hw : ∀ d ∈ tables_1, d.before a0 Z = true) (C : own_Ctx Z x "com/example/wire3/wire3/broker/ServiceHasWorkersPinLaw" code maxLocals ret p s m meth c) (X0 : Stand p l e room_1 s m args below meth c s₁ locs 6 44) (e0 : s₁.heap = h0) (n0 : Nat) (Z0 : n0 ≤ h0.size) (N0 : Fr n0 locs) (E_a1 : Exa Z h0 a1 "com/example/wire3/wire3/broker/Service") (F_wk : Fld Z h0 a1 "com/example/wire3/wire3/broker/Service" "workers" "I" (.int p3)) (lo_a1 : n0 ≤ a1) :
    own_Goes p e below s (fun v h L => v = some (.int 1) ∧ Fr n0 L) room_1.cells room_1.slots s₁ (mkF m 26 #[.val (.int p0), .val (.ref a1), .val (.int (1 : Int32)), .val (.int p3)] []) := by
  obtain ⟨hx, hby, hml, hown, hnm, hret, hlk, hZ⟩ := C
  refine own_go (fun _ k => XS.aloadN X0.here hx rfl (hb hby at_26) rfl rfl k) ?_
  show own_Goes _ _ _ _ _ _ _ s₁ (mkF m 27 #[.val (.int p0), .val (.ref a1), .val (.int (1 : Int32)), .val (.int p3)] [(.ref a1)])
  refine own_go (fun _ k => XS.iloadN X0.here hx rfl (hb hby at_27) rfl k) ?_
  show own_Goes _ _ _ _ _ _ _ s₁ (mkF m 28 #[.val (.int p0), .val (.ref a1), .val (.int (1 : Int32)), .val (.int p3)] [(.int p3), (.ref a1)])
  refine own_go (fun _ k => XS.iloadN X0.here hx rfl (hb hby at_28) rfl k) ?_
  show own_Goes _ _ _ _ _ _ _ s₁ (mkF m 29 #[.val (.int p0), .val (.ref a1), .val (.int (1 : Int32)), .val (.int p3)] [(.int p0), (.int p3), (.ref a1)])
  refine own_go (fun _ k => XS.iconst X0.here hx rfl (hb hby at_29) k) ?_
  show own_Goes _ _ _ _ _ _ _ s₁ (mkF m 30 #[.val (.int p0), .val (.ref a1), .val (.int (1 : Int32)), .val (.int p3)] [(.int (1 : Int32)), (.int p0), (.int p3), (.ref a1)])
  refine own_go (fun _ k => XS.iand X0.here hx rfl (hb hby at_30) rfl k) ?_
  show own_Goes _ _ _ _ _ _ _ s₁ (mkF m 31 #[.val (.int p0), .val (.ref a1), .val (.int (1 : Int32)), .val (.int p3)] [(.int (p0 &&& (1 : Int32))), (.int p3), (.ref a1)])
  obtain ⟨_, _, ⟨T1, L1, k1, n1⟩, -, X1, ⟨Lc1, hQ1, l1, y1, z1⟩, st1⟩ := Jvm.LawKit.callS X0 hx (y := (⟨"com/example/wire3/wire3/broker/ServiceHasWorkersPinLaw", "step", "(Lcom/example/wire3/wire3/broker/Service;II)I"⟩ : MethodName)) hown (mvT hZ (hw _ (List.mem_of_getElem? (i := 40) rfl))) (mvT hZ (hw _ (List.mem_of_getElem? (i := 41) rfl))) (mvT hZ (hw _ (List.mem_of_getElem? (i := 42) rfl))) (mvT hZ (hw _ (List.mem_of_getElem? (i := 43) rfl))) (by decide) (backOf (W := 0) (rm6 l Z a0 hw [] a1 p3 (p0 &&& (1 : Int32)) h0 n0 Z0 E_a1 F_wk lo_a1) hZ (hw _ (List.mem_of_getElem? (i := 43) rfl)) (hw _ (List.mem_of_getElem? (i := 42) rfl)) (by decide) (by decide)) (g := (mkF m 31 #[.val (.int p0), .val (.ref a1), .val (.int (1 : Int32)), .val (.int p3)] [(.int (p0 &&& (1 : Int32))), (.int p3), (.ref a1)])) rfl (by rw [hml]; rfl) (argsL := [(.ref a1), (.int p3), (.int (p0 &&& (1 : Int32)))]) (rest := []) (lenOf pd_1 rfl) rfl (by show 2 * 0 + _ ≤ _; exact Nat.le_of_eq rfl) (hb hby at_31) (fun _ _ => ⟨rfl, e0, (by decide : 6 + 0 ≤ _), (by decide : 44 + 0 ≤ _)⟩)
  dsimp only [Pt.U, Pt.locs, Pt.cells, Pt.slots] at X1 l1 y1 z1 st1 hQ1
  subst l1 y1 z1
  obtain ⟨rfl, N1q, K1, F1⟩ := hQ1
  have N1 := Fr.app N0 N1q
  refine own_go st1 ?_
  show own_Goes _ _ _ _ _ _ _ T1 (mkF m 34 #[.val (.int p0), .val (.ref a1), .val (.int (1 : Int32)), .val (.int p3)] [(.int (own_step p3 (p0 &&& (1 : Int32))))])
  have E_a1_1 : Exa Z T1.heap a1 "com/example/wire3/wire3/broker/Service" := E_a1.keep K1
  have Zs1 : n0 ≤ T1.heap.size := Nat.le_trans Z0 K1.1
  refine own_go (fun _ k => XS.istoreN X1.here hx rfl (hb hby at_34) rfl (l' := #[.val (.int p0), .val (.ref a1), .val (.int (1 : Int32)), .val (.int (own_step p3 (p0 &&& (1 : Int32))))]) rfl k) ?_
  show own_Goes _ _ _ _ _ _ _ T1 (mkF m 35 #[.val (.int p0), .val (.ref a1), .val (.int (1 : Int32)), .val (.int (own_step p3 (p0 &&& (1 : Int32))))] [])
  refine own_go (fun _ k => XS.iloadN X1.here hx rfl (hb hby at_35) rfl k) ?_
  show own_Goes _ _ _ _ _ _ _ T1 (mkF m 36 #[.val (.int p0), .val (.ref a1), .val (.int (1 : Int32)), .val (.int (own_step p3 (p0 &&& (1 : Int32))))] [(.int (1 : Int32))])
  refine own_go (fun _ k => XS.ifNo X1.here hx rfl (hb hby at_36) rfl ((if0 _ _).trans (feq (by decide : ¬ ((1 : Int32) = (0 : Int32)))).1) k) ?_
  show own_Goes _ _ _ _ _ _ _ T1 (mkF m 39 #[.val (.int p0), .val (.ref a1), .val (.int (1 : Int32)), .val (.int (own_step p3 (p0 &&& (1 : Int32))))] [])
  refine own_go (fun _ k => XS.aloadN X1.here hx rfl (hb hby at_39) rfl rfl k) ?_
  show own_Goes _ _ _ _ _ _ _ T1 (mkF m 40 #[.val (.int p0), .val (.ref a1), .val (.int (1 : Int32)), .val (.int (own_step p3 (p0 &&& (1 : Int32))))] [(.ref a1)])
  obtain ⟨cq2, kq2, zq2a, zq2b, zq2c⟩ := isOf hZ rfl E_a1_1
  obtain ⟨_, _, ⟨T2, L2, k2, n2⟩, -, X2, ⟨Lc2, hQ2, l2, y2, z2⟩, st2⟩ := X1.virtualBack hx (y := (⟨"com/example/wire3/wire3/broker/Service", "hasWorkers", "()Z"⟩ : MethodName)) (z := (⟨"com/example/wire3/wire3/broker/Service", "hasWorkers", "()Z"⟩ : MethodName)) hown (mvT hZ (hw _ (List.mem_of_getElem? (i := 33) rfl))) (mvT hZ (hw _ (List.mem_of_getElem? (i := 34) rfl))) (notFace_of_selects (args := #[]) (mvT hZ (hw _ (List.mem_of_getElem? (i := 36) rfl)))) (mvT hZ (hw _ (List.mem_of_getElem? (i := 36) rfl))) (mvT hZ (hw _ (List.mem_of_getElem? (i := 35) rfl))) (by decide) (backOf (W := 0) (rm5 l Z a0 hw [] a1 (own_step p3 (p0 &&& (1 : Int32))) T1.heap n0 Zs1 F1) hZ (hw _ (List.mem_of_getElem? (i := 37) rfl)) (hw _ (List.mem_of_getElem? (i := 2) rfl)) (by decide) (by decide)) zq2a zq2c (g := (mkF m 40 #[.val (.int p0), .val (.ref a1), .val (.int (1 : Int32)), .val (.int (own_step p3 (p0 &&& (1 : Int32))))] [(.ref a1)])) rfl (by rw [hml]; rfl) (Steps.refl _) (argsL := []) (rest := []) (lenOf pd_2 rfl) rfl (by show 2 * 0 + _ ≤ _; exact Nat.le_of_eq rfl) (hb hby at_40) (fun _ _ => ⟨rfl, rfl, (by decide : 6 + 0 + 0 ≤ _), (by decide : 44 + 0 + 0 ≤ _)⟩)
  dsimp only [Pt.U, Pt.locs, Pt.cells, Pt.slots] at X2 l2 y2 z2 st2 hQ2
  subst l2 y2 z2
  obtain ⟨rfl, N2q, e2⟩ := hQ2
  have N2 := Fr.app N1 N2q
  refine own_goS st2 ?_
  show own_Goes _ _ _ _ _ _ _ T2 (mkF m 43 #[.val (.int p0), .val (.ref a1), .val (.int (1 : Int32)), .val (.int (own_step p3 (p0 &&& (1 : Int32))))] [(.int (own_pos (own_step p3 (p0 &&& (1 : Int32)))))])
  refine own_go (fun _ k => XS.iloadN X2.here hx rfl (hb hby at_43) rfl k) ?_
  show own_Goes _ _ _ _ _ _ _ T2 (mkF m 44 #[.val (.int p0), .val (.ref a1), .val (.int (1 : Int32)), .val (.int (own_step p3 (p0 &&& (1 : Int32))))] [(.int (own_step p3 (p0 &&& (1 : Int32)))), (.int (own_pos (own_step p3 (p0 &&& (1 : Int32)))))])
  by_cases hc44 : (0 : Int32) < (own_step p3 (p0 &&& (1 : Int32)))
  · refine own_go (fun _ k => XS.ifNo X2.here hx rfl (hb hby at_44) rfl ((if0 _ _).trans (tlt hc44).2.2.2) k) ?_
    show own_Goes _ _ _ _ _ _ _ T2 (mkF m 47 #[.val (.int p0), .val (.ref a1), .val (.int (1 : Int32)), .val (.int (own_step p3 (p0 &&& (1 : Int32))))] [(.int (own_pos (own_step p3 (p0 &&& (1 : Int32)))))])
    refine own_go (fun _ k => XS.iconst X2.here hx rfl (hb hby at_47) k) ?_
    show own_Goes _ _ _ _ _ _ _ T2 (mkF m 48 #[.val (.int p0), .val (.ref a1), .val (.int (1 : Int32)), .val (.int (own_step p3 (p0 &&& (1 : Int32))))] [(.int (1 : Int32)), (.int (own_pos (own_step p3 (p0 &&& (1 : Int32)))))])
    refine own_go (fun _ k => XS.goto X2.here hx rfl (pc0 := 48) (pc' := 52) rfl (hb hby at_48) (by decide) (by decide) k) ?_
    show own_Goes _ _ _ _ _ _ _ T2 (mkF m 52 #[.val (.int p0), .val (.ref a1), .val (.int (1 : Int32)), .val (.int (own_step p3 (p0 &&& (1 : Int32))))] [(.int (1 : Int32)), (.int (own_pos (own_step p3 (p0 &&& (1 : Int32)))))])
    refine own_go (fun _ k => XS.icmpNo X2.here hx rfl (hb hby at_52) rfl (teq (by simp [own_pos, *] : (own_pos (own_step p3 (p0 &&& (1 : Int32)))) = (1 : Int32))).2 k) ?_
    show own_Goes _ _ _ _ _ _ _ T2 (mkF m 55 #[.val (.int p0), .val (.ref a1), .val (.int (1 : Int32)), .val (.int (own_step p3 (p0 &&& (1 : Int32))))] [])
    refine own_go (fun _ k => XS.iconst X2.here hx rfl (hb hby at_55) k) ?_
    show own_Goes _ _ _ _ _ _ _ T2 (mkF m 56 #[.val (.int p0), .val (.ref a1), .val (.int (1 : Int32)), .val (.int (own_step p3 (p0 &&& (1 : Int32))))] [(.int (1 : Int32))])
    refine own_go (fun _ k => XS.goto X2.here hx rfl (pc0 := 56) (pc' := 60) rfl (hb hby at_56) (by decide) (by decide) k) ?_
    show own_Goes _ _ _ _ _ _ _ T2 (mkF m 60 #[.val (.int p0), .val (.ref a1), .val (.int (1 : Int32)), .val (.int (own_step p3 (p0 &&& (1 : Int32))))] [(.int (1 : Int32))])
    refine own_go (fun _ k => XS.istoreN X2.here hx rfl (hb hby at_60) rfl (l' := #[.val (.int p0), .val (.ref a1), .val (.int (1 : Int32)), .val (.int (own_step p3 (p0 &&& (1 : Int32))))]) rfl k) ?_
    show own_Goes _ _ _ _ _ _ _ T2 (mkF m 61 #[.val (.int p0), .val (.ref a1), .val (.int (1 : Int32)), .val (.int (own_step p3 (p0 &&& (1 : Int32))))] [])
    exact seg61 p0 _ a1 hw ⟨hx, hby, hml, hown, hnm, hret, hlk, hZ⟩ X2 e2 n0 Zs1 N2 E_a1_1 F1 lo_a1
  · refine own_go (fun _ k => XS.ifYes X2.here hx rfl (pc0 := 44) (pc' := 51) rfl (hb hby at_44) rfl ((if0 _ _).trans (flt hc44).2.2.2) (by decide) (by decide) k) ?_
    show own_Goes _ _ _ _ _ _ _ T2 (mkF m 51 #[.val (.int p0), .val (.ref a1), .val (.int (1 : Int32)), .val (.int (own_step p3 (p0 &&& (1 : Int32))))] [(.int (own_pos (own_step p3 (p0 &&& (1 : Int32)))))])
    refine own_go (fun _ k => XS.iconst X2.here hx rfl (hb hby at_51) k) ?_
    show own_Goes _ _ _ _ _ _ _ T2 (mkF m 52 #[.val (.int p0), .val (.ref a1), .val (.int (1 : Int32)), .val (.int (own_step p3 (p0 &&& (1 : Int32))))] [(.int (0 : Int32)), (.int (own_pos (own_step p3 (p0 &&& (1 : Int32)))))])
    refine own_go (fun _ k => XS.icmpNo X2.here hx rfl (hb hby at_52) rfl (teq (by simp [own_pos, *] : (own_pos (own_step p3 (p0 &&& (1 : Int32)))) = (0 : Int32))).2 k) ?_
    show own_Goes _ _ _ _ _ _ _ T2 (mkF m 55 #[.val (.int p0), .val (.ref a1), .val (.int (1 : Int32)), .val (.int (own_step p3 (p0 &&& (1 : Int32))))] [])
    refine own_go (fun _ k => XS.iconst X2.here hx rfl (hb hby at_55) k) ?_
    show own_Goes _ _ _ _ _ _ _ T2 (mkF m 56 #[.val (.int p0), .val (.ref a1), .val (.int (1 : Int32)), .val (.int (own_step p3 (p0 &&& (1 : Int32))))] [(.int (1 : Int32))])
    refine own_go (fun _ k => XS.goto X2.here hx rfl (pc0 := 56) (pc' := 60) rfl (hb hby at_56) (by decide) (by decide) k) ?_
    show own_Goes _ _ _ _ _ _ _ T2 (mkF m 60 #[.val (.int p0), .val (.ref a1), .val (.int (1 : Int32)), .val (.int (own_step p3 (p0 &&& (1 : Int32))))] [(.int (1 : Int32))])
    refine own_go (fun _ k => XS.istoreN X2.here hx rfl (hb hby at_60) rfl (l' := #[.val (.int p0), .val (.ref a1), .val (.int (1 : Int32)), .val (.int (own_step p3 (p0 &&& (1 : Int32))))]) rfl k) ?_
    show own_Goes _ _ _ _ _ _ _ T2 (mkF m 61 #[.val (.int p0), .val (.ref a1), .val (.int (1 : Int32)), .val (.int (own_step p3 (p0 &&& (1 : Int32))))] [])
    exact seg61 p0 _ a1 hw ⟨hx, hby, hml, hown, hnm, hret, hlk, hZ⟩ X2 e2 n0 Zs1 N2 E_a1_1 F1 lo_a1
def Q_rm0 (Z : State) (h0 : Heap) (n0 : Nat)  (v : Option Value) (h : Heap) (L : List Loc) : Prop := v = some (.int 1) ∧ Fr n0 L
set_option maxRecDepth 65536 in
set_option maxHeartbeats 40000000 in
theorem rm0 (l : Launch) (Z : State) (a0 : Array Value) (hw : ∀ d ∈ tables_1, d.before a0 Z = true) (ws : List Jvm.Cond) (p0 : Int32) (h0 : Heap) (n0 : Nat) (Z0 : n0 ≤ h0.size) :
    MetFree l x (head1 (Jvm.Cond.code x code maxLocals ret :: ws) room_1) (fun a U => a = #[(.int p0)] ∧ Z.Warmed39 U.vm ∧ U.heap = h0) (fun _ _ _ _ _ => True) (fun _ U o U' => ∃ rv rL, o = .returned rv ∧ Q_rm0 Z h0 n0  rv U'.heap rL ∧ FrameEnd U o U' rL room_1.cells room_1.slots) := by
  refine own_met (y := x) (Q := Q_rm0 Z h0 n0 ) (own := "com/example/wire3/wire3/broker/ServiceHasWorkersPinLaw") rfl pn_0 ?_
  intro p e s m below meth c s₁ C e0 X0
  obtain ⟨hx, hby, hml, hown, hnm, hret, hlk, hZ⟩ := C
  have N0 := Fr.nil n0
  rw [ef_0]
  show own_Goes _ _ _ _ _ _ _ s₁ (mkF m 0 #[.val (.int p0), .unset, .unset, .unset] [])
  obtain ⟨T1, h1, X1, e1, E1, A1, D1, -, st1⟩ := newO X0 hx hZ hown (hw _ (List.mem_of_getElem? (i := 0) rfl)) (hw _ (List.mem_of_getElem? (i := 1) rfl)) (hw _ (List.mem_of_getElem? (i := 2) rfl)) e0 (g := (mkF m 0 #[.val (.int p0), .unset, .unset, .unset] [])) rfl (hb hby at_0) (by decide) (by decide)
  obtain ⟨b1, g1⟩ : ∃ z, z = h0.size := ⟨_, rfl⟩
  rw [← g1] at A1 D1 st1
  have lo_b1 : n0 ≤ b1 := Nat.le_trans Z0 (Nat.le_of_eq g1.symm)
  have Zs1 : n0 ≤ h1.size := Nat.le_trans Z0 E1.1
  have F_requests_b1 : Fld Z h1 b1 "com/example/wire3/wire3/broker/Service" "requests" "Ljava/util/Deque;" .null := D1 (Or.inr (hw _ (List.mem_of_getElem? (i := 28) rfl))) (ty := (.object "java/util/Deque")) (by decide)
  have F_freeWorkers_b1 : Fld Z h1 b1 "com/example/wire3/wire3/broker/Service" "freeWorkers" "Ljava/util/Deque;" .null := D1 (Or.inr (hw _ (List.mem_of_getElem? (i := 30) rfl))) (ty := (.object "java/util/Deque")) (by decide)
  have F_name_b1 : Fld Z h1 b1 "com/example/wire3/wire3/broker/Service" "name" "[B" .null := D1 (Or.inr (hw _ (List.mem_of_getElem? (i := 32) rfl))) (ty := (.array .byte)) (by decide)
  have F_workers_b1 : Fld Z h1 b1 "com/example/wire3/wire3/broker/Service" "workers" "I" (.int (0 : Int32)) := D1 (Or.inl (hw _ (List.mem_of_getElem? (i := 39) rfl))) (ty := .int) (by decide)
  refine own_go st1 ?_
  show own_Goes _ _ _ _ _ _ _ T1 (mkF m 3 #[.val (.int p0), .unset, .unset, .unset] [(.ref b1)])
  refine own_go (fun _ k => XS.dup X1.here hx rfl (hb hby at_3) rfl rfl k) ?_
  show own_Goes _ _ _ _ _ _ _ T1 (mkF m 4 #[.val (.int p0), .unset, .unset, .unset] [(.ref b1), (.ref b1)])
  refine own_go (fun _ k => XS.iconst X1.here hx rfl (hb hby at_4) k) ?_
  show own_Goes _ _ _ _ _ _ _ T1 (mkF m 5 #[.val (.int p0), .unset, .unset, .unset] [(.int (0 : Int32)), (.ref b1), (.ref b1)])
  obtain ⟨T2, h2, k2, X2, e2, E2, A2, st2⟩ := newP X1 hx hZ (hw _ (List.mem_of_getElem? (i := 3) rfl)) e1 (g := (mkF m 5 #[.val (.int p0), .unset, .unset, .unset] [(.int (0 : Int32)), (.ref b1), (.ref b1)])) rfl (hb hby at_5) rfl (by decide) (cap := 0) (by decide) (by decide) (by decide) (by decide)
  obtain ⟨b2, g2⟩ : ∃ z, z = h1.size := ⟨_, rfl⟩
  rw [← g2] at A2 st2
  have lo_b2 : n0 ≤ b2 := Nat.le_trans Zs1 (Nat.le_of_eq g2.symm)
  have ne_b1_b2 : b1 ≠ b2 := Nat.ne_of_lt (Nat.lt_of_lt_of_le A1.lt (Nat.le_of_eq g2.symm))
  have E_b1_2 : Exa Z h2 b1 "com/example/wire3/wire3/broker/Service" := A1.ext E2
  have F_requests_b1_2 : Fld Z h2 b1 "com/example/wire3/wire3/broker/Service" "requests" "Ljava/util/Deque;" .null := F_requests_b1.ext E2
  have F_freeWorkers_b1_2 : Fld Z h2 b1 "com/example/wire3/wire3/broker/Service" "freeWorkers" "Ljava/util/Deque;" .null := F_freeWorkers_b1.ext E2
  have F_name_b1_2 : Fld Z h2 b1 "com/example/wire3/wire3/broker/Service" "name" "[B" .null := F_name_b1.ext E2
  have F_workers_b1_2 : Fld Z h2 b1 "com/example/wire3/wire3/broker/Service" "workers" "I" (.int (0 : Int32)) := F_workers_b1.ext E2
  have Zs2 : n0 ≤ h2.size := Nat.le_trans Zs1 E2.1
  refine own_go st2 ?_
  show own_Goes _ _ _ _ _ _ _ T2 (mkF m 7 #[.val (.int p0), .unset, .unset, .unset] [(.ref b2), (.ref b1), (.ref b1)])
  obtain ⟨_, _, ⟨T3, L3, k3, n3⟩, -, X3, ⟨Lc3, hQ3, l3, y3, z3⟩, st3⟩ := X2.specialBack hx (y := (⟨"com/example/wire3/wire3/broker/Service", "<init>", "([B)V"⟩ : MethodName)) rfl hown (mvT hZ (hw _ (List.mem_of_getElem? (i := 4) rfl))) (mvT hZ (hw _ (List.mem_of_getElem? (i := 5) rfl))) (mvT hZ (hw _ (List.mem_of_getElem? (i := 6) rfl))) (by decide) (backOf (W := 1) (rm1 l Z a0 hw [] b1 b2 h2 n0 Zs2 E_b1_2 F_requests_b1_2 F_freeWorkers_b1_2 F_name_b1_2 F_workers_b1_2 lo_b1) hZ (hw _ (List.mem_of_getElem? (i := 6) rfl)) (hw _ (List.mem_of_getElem? (i := 2) rfl)) (by decide) (by decide)) (g := (mkF m 7 #[.val (.int p0), .unset, .unset, .unset] [(.ref b2), (.ref b1), (.ref b1)])) rfl (by rw [hml]; rfl) (Steps.refl _) (a := b1) (argsL := [(.ref b2)]) (rest := [(.ref b1)]) (lenOf pd_3 rfl) rfl (by show 2 * 0 + _ ≤ _; exact Nat.le_of_eq rfl) (hb hby at_7) (fun _ _ => ⟨rfl, e2, (by decide : 0 + 1 + 1 + 4 ≤ _), (by decide : 0 + 4 + 0 + 40 ≤ _)⟩)
  dsimp only [Pt.U, Pt.locs, Pt.cells, Pt.slots] at X3 l3 y3 z3 st3 hQ3
  subst l3 y3 z3
  obtain ⟨rfl, N3q, K3, F3⟩ := hQ3
  have N3 := Fr.app N0 N3q
  refine own_goS st3 ?_
  show own_Goes _ _ _ _ _ _ _ T3 (mkF m 10 #[.val (.int p0), .unset, .unset, .unset] [(.ref b1)])
  have E_b1_3 : Exa Z T3.heap b1 "com/example/wire3/wire3/broker/Service" := E_b1_2.keep K3
  have V_b2_3 : Arr Z T3.heap b2 (newA k2 .byte (0 : Int32)) .byte := (⟨K3.2.1 _ _ A2.1 (ninS (Ne.symm ne_b1_b2) nin0), A2.2⟩ : Arr Z T3.heap b2 (newA k2 .byte (0 : Int32)) .byte)
  have Zs3 : n0 ≤ T3.heap.size := Nat.le_trans Zs2 K3.1
  refine own_go (fun _ k => XS.astoreN X3.here hx rfl (hb hby at_10) rfl rfl (l' := #[.val (.int p0), .val (.ref b1), .unset, .unset]) rfl k) ?_
  show own_Goes _ _ _ _ _ _ _ T3 (mkF m 11 #[.val (.int p0), .val (.ref b1), .unset, .unset] [])
  refine own_go (fun _ k => XS.aloadN X3.here hx rfl (hb hby at_11) rfl rfl k) ?_
  show own_Goes _ _ _ _ _ _ _ T3 (mkF m 12 #[.val (.int p0), .val (.ref b1), .unset, .unset] [(.ref b1)])
  obtain ⟨cq4, kq4, zq4a, zq4b, zq4c⟩ := isOf hZ rfl E_b1_3
  obtain ⟨_, _, ⟨T4, L4, k4, n4⟩, -, X4, ⟨Lc4, hQ4, l4, y4, z4⟩, st4⟩ := X3.virtualBack hx (y := (⟨"com/example/wire3/wire3/broker/Service", "hasWorkers", "()Z"⟩ : MethodName)) (z := (⟨"com/example/wire3/wire3/broker/Service", "hasWorkers", "()Z"⟩ : MethodName)) hown (mvT hZ (hw _ (List.mem_of_getElem? (i := 33) rfl))) (mvT hZ (hw _ (List.mem_of_getElem? (i := 34) rfl))) (notFace_of_selects (args := #[]) (mvT hZ (hw _ (List.mem_of_getElem? (i := 36) rfl)))) (mvT hZ (hw _ (List.mem_of_getElem? (i := 36) rfl))) (mvT hZ (hw _ (List.mem_of_getElem? (i := 35) rfl))) (by decide) (backOf (W := 0) (rm5 l Z a0 hw [] b1 0 T3.heap n0 Zs3 F3) hZ (hw _ (List.mem_of_getElem? (i := 37) rfl)) (hw _ (List.mem_of_getElem? (i := 2) rfl)) (by decide) (by decide)) zq4a zq4c (g := (mkF m 12 #[.val (.int p0), .val (.ref b1), .unset, .unset] [(.ref b1)])) rfl (by rw [hml]; rfl) (Steps.refl _) (argsL := []) (rest := []) (lenOf pd_2 rfl) rfl (by show 2 * 0 + _ ≤ _; exact Nat.le_of_eq rfl) (hb hby at_12) (fun _ _ => ⟨rfl, rfl, (by decide : 0 + 1 + 1 + 4 + 0 ≤ _), (by decide : 0 + 4 + 0 + 40 + 0 ≤ _)⟩)
  dsimp only [Pt.U, Pt.locs, Pt.cells, Pt.slots] at X4 l4 y4 z4 st4 hQ4
  subst l4 y4 z4
  obtain ⟨rfl, N4q, e4⟩ := hQ4
  have N4 := Fr.app N3 N4q
  refine own_goS st4 ?_
  show own_Goes _ _ _ _ _ _ _ T4 (mkF m 15 #[.val (.int p0), .val (.ref b1), .unset, .unset] [(.int (own_pos 0))])
  refine own_go (fun _ k => XS.ifNo X4.here hx rfl (hb hby at_15) rfl ((if0 _ _).trans (teq (by decide : (own_pos 0) = (0 : Int32))).2) k) ?_
  show own_Goes _ _ _ _ _ _ _ T4 (mkF m 18 #[.val (.int p0), .val (.ref b1), .unset, .unset] [])
  refine own_go (fun _ k => XS.iconst X4.here hx rfl (hb hby at_18) k) ?_
  show own_Goes _ _ _ _ _ _ _ T4 (mkF m 19 #[.val (.int p0), .val (.ref b1), .unset, .unset] [(.int (1 : Int32))])
  refine own_go (fun _ k => XS.goto X4.here hx rfl (pc0 := 19) (pc' := 23) rfl (hb hby at_19) (by decide) (by decide) k) ?_
  show own_Goes _ _ _ _ _ _ _ T4 (mkF m 23 #[.val (.int p0), .val (.ref b1), .unset, .unset] [(.int (1 : Int32))])
  refine own_go (fun _ k => XS.istoreN X4.here hx rfl (hb hby at_23) rfl (l' := #[.val (.int p0), .val (.ref b1), .val (.int (1 : Int32)), .unset]) rfl k) ?_
  show own_Goes _ _ _ _ _ _ _ T4 (mkF m 24 #[.val (.int p0), .val (.ref b1), .val (.int (1 : Int32)), .unset] [])
  refine own_go (fun _ k => XS.iconst X4.here hx rfl (hb hby at_24) k) ?_
  show own_Goes _ _ _ _ _ _ _ T4 (mkF m 25 #[.val (.int p0), .val (.ref b1), .val (.int (1 : Int32)), .unset] [(.int (0 : Int32))])
  refine own_go (fun _ k => XS.istoreN X4.here hx rfl (hb hby at_25) rfl (l' := #[.val (.int p0), .val (.ref b1), .val (.int (1 : Int32)), .val (.int (0 : Int32))]) rfl k) ?_
  show own_Goes _ _ _ _ _ _ _ T4 (mkF m 26 #[.val (.int p0), .val (.ref b1), .val (.int (1 : Int32)), .val (.int (0 : Int32))] [])
  exact seg26 p0 _ b1 hw ⟨hx, hby, hml, hown, hnm, hret, hlk, hZ⟩ X4 e4 n0 Zs3 N4 E_b1_3 F3 lo_b1
set_option maxRecDepth 65536 in
set_option maxHeartbeats 40000000 in
theorem comes_1 {Post : Tables → Env → Array Value → State → Outcome → State → Prop} (hpost : ∀ tb e args s v u, (limb_1_1.after args s (.returned v) u = true ∧ limb_1_2.after args s (.returned v) u = true ∧ True) → FrameEnd s (.returned v) u (Jvm.fieldLocs frame_1_writes args s ++ Jvm.arrayLocs frame_1_arrays args s ++ Jvm.staticLocs frame_1_statics s) 24 192 → Post tb e args s (.returned v) u) :
    ArmFor flags0 classFile x code maxLocals ret World_1 tables_1 room_1 Calls_1 rest_1 Pre_1 Post := by
  intro l hfl _ _ p e ha hc hk s m args below hf hA hF happ hP
  obtain ⟨hcalls, hrest, hpre⟩ := hP
  obtain ⟨-, -, -, hnamed, -, -, -, hat⟩ := (Spec.applies_iff hf).mp happ
  obtain ⟨hg, hn⟩ := and_e (Cond.before_iff.mp (show (Jvm.Cond.and given_1 narrow_1).before args s = true from hpre))
  obtain ⟨g0, gr0⟩ := and_e hg
  have ga0 := gr0
  obtain ⟨w0, rfl⟩ : ∃ w0 : Value, args = #[w0] := by
    have hs : args.size = 1 := by simpa [Cond.value, given_1] using g0
    obtain ⟨L⟩ := args
    match L, hs with
    | [w0], _ => exact ⟨w0, rfl⟩
  have hw := fun d (hd : d ∈ tables_1) => atoms_spec (ws := Jvm.Cond.code x code maxLocals ret :: tables_1) hat d (List.mem_cons_of_mem _ hd)
  have hfit : Fit s := fun {y c} hc i hi => by
    obtain ⟨ha, rfl⟩ := Array.getElem?_eq_some_iff.mp hc
    have q := List.all_eq_true.mp ((Array.all_eq_true_iff_forall_mem.mp hF) _ (Array.getElem_mem ha)) i (List.mem_range.mpr hi)
    simpa [Array.getElem?_eq_getElem hi] using q
  obtain ⟨i0, ei0⟩ := is_v ga0
  obtain rfl : w0 = (.int i0) := Option.some.inj ei0
  obtain ⟨n, o, h1, h2, h3, _, L, rfl, ⟨rfl, N⟩, hq⟩ := rm0 l s _ hw tables_1 i0 s.heap s.heap.size (Nat.le_refl _)  p e ha hc hk s m _ below hf ((Spec.applies_iff_loose hf).mp happ).1 ⟨rfl, State.Warmed39.refl s, rfl⟩ trivial
  refine ⟨n, _, h1, h2, h3, hpost _ _ _ _ _ _ ⟨Cond.after_iff.mpr rfl, Cond.after_iff.mpr (eq_i res_at (Term.int_eval (1)) rfl), trivial⟩ ⟨hq.1, hq.2.1, (hq.2.2.sift fun y hy => Or.inr (N y hy)).mono (by decide) (by decide)⟩⟩
theorem main_1_1 : Claimed_1_1 := comes_1 fun _ _ _ _ _ _ h hF => ⟨h.1, hF⟩
theorem main_1_2 : Claimed_1_2 := comes_1 fun _ _ _ _ _ _ h hF => ⟨h.2.1, hF⟩
end Jvm.Pilot.@@N@@
namespace Jvm.Pilot.@@N@@
open Jvm Jvm.ClassFile Sem Op Lib Jvm.Free Jvm.Stand Jvm.Pilot.@@N@@.Jvm.D
/-! MADE BY PROGRAM (witnessworld.py) out of the Statement's table words and the real class files: 17 classes; the members and pool entries that the words name. The judged class is class 1, her method 2. -/
namespace start1
open Jvm.ClassFile
def u (s : String) : CpInfo := .utf8 (stringToUtf16 s)
/-- a pool by its gaps: so many unusable entries, then the entry; so many at the end -/
def gap : Nat → List CpInfo → List CpInfo
  | 0, r => r
  | n + 1, r => .unusable :: gap n r
def poolList (es : List (Nat × CpInfo)) (last : Nat) : List CpInfo := es.foldr (fun e r => gap e.1 (e.2 :: r)) (gap last [])
def pool (es : List (Nat × CpInfo)) (last : Nat) : Array CpInfo := ⟨poolList es last⟩
def fileOf (pool : Array CpInfo) (this : Nat) (attrs : Array Attribute := #[]) (ms : Array MethodInfo := #[]) (fl : Nat := 33) (sup : Nat := 0) (ifs : Array Nat := #[]) (fds : Array FieldInfo := #[]) : ClassFile where
  minorVersion := 0
  majorVersion := 65
  constantPool := pool
  accessFlags := fl
  thisClass := this
  superClass := sup
  interfaces := ifs
  fields := fds
  methods := ms
  attributes := attrs
def plain (name : String) (sup : Option ClassId) : Class where
  name := name
  kind := .ordinary
  loader := none
  accessFlags := 33
  super := sup
  interfaces := #[]
  cf := none
  fields := #[]
  methods := #[]
  instanceTypes := #[]
  staticTypes := #[]
  resolved := #[]
  callSites := []
  init := .initialized
  statics := none
  mirror := none

def pool0 : Array CpInfo := pool [(5, u "<init>"), (0, u "()V"), (1, .class_ 10), (1, u "java/lang/Object")] 113

def k0c0 : Code := { maxStack := 0, maxLocals := 1, code := object_method_1_code, exceptionTable := #[], attributes := #[] }
def k0m0 : Method := { name := "<init>", desc := "()V", sig := { parameters := [], returnType := none }, accessFlags := 1, code := some k0c0 }
/-- java/lang/Object -/
def k0 : Class := { plain "java/lang/Object" none with
  accessFlags := 33
  interfaces := #[]
  cf := some (fileOf pool0 8 #[] #[{ accessFlags := 1, nameIndex := 5, descriptorIndex := 6, attributes := #[] }] 33 0 #[] #[])
  fields := #[]
  methods := #[k0m0]
  instanceTypes := #[]
  staticTypes := #[]
  resolved := Array.replicate 124 none
  statics := none }

def pool1 : Array CpInfo := pool [(2, .class_ 4), (1, u "java/lang/Object"), (0, u "<init>"), (0, u "()V"), (0, .methodref 8 9), (0, .class_ 10), (0, .nameAndType 11 6), (0, u "com/example/wire3/wire3/broker/Service"), (0, u "addWorker"), (0, .methodref 8 13), (0, .nameAndType 14 6), (0, u "removeWorker"), (0, .methodref 8 16), (0, .nameAndType 5 17), (0, u "([B)V"), (0, .methodref 8 19), (0, .nameAndType 20 21), (0, u "hasWorkers"), (0, u "()Z"), (0, .methodref 23 24), (0, .class_ 25), (0, .nameAndType 26 27), (0, u "com/example/wire3/wire3/broker/ServiceHasWorkersPinLaw"), (0, u "step"), (0, u "(Lcom/example/wire3/wire3/broker/Service;II)I"), (3, u "law"), (0, u "(I)Z")] 2

def k1m0 : Method := { name := "<init>", desc := "()V", sig := { parameters := [], returnType := none }, accessFlags := 1, code := none }
def k1c1 : Code := { maxStack := 2, maxLocals := 3, code := method_2_code, exceptionTable := #[], attributes := #[] }
def k1m1 : Method := { name := "step", desc := "(Lcom/example/wire3/wire3/broker/Service;II)I", sig := { parameters := [(.object "com/example/wire3/wire3/broker/Service"), .int, .int], returnType := some .int }, accessFlags := 10, code := some k1c1 }
def k1c2 : Code := { maxStack := 4, maxLocals := 4, code := code, exceptionTable := #[], attributes := #[] }
def k1m2 : Method := { name := "law", desc := "(I)Z", sig := { parameters := [.int], returnType := some .boolean }, accessFlags := 9, code := some k1c2 }
/-- com/example/wire3/wire3/broker/ServiceHasWorkersPinLaw -/
def k1 : Class := { plain "com/example/wire3/wire3/broker/ServiceHasWorkersPinLaw" (some 0) with
  accessFlags := 49
  interfaces := #[]
  cf := some (fileOf pool1 23 #[] #[{ accessFlags := 1, nameIndex := 5, descriptorIndex := 6, attributes := #[] }, { accessFlags := 10, nameIndex := 26, descriptorIndex := 27, attributes := #[] }, { accessFlags := 9, nameIndex := 31, descriptorIndex := 32, attributes := #[] }] 49 2 #[] #[])
  fields := #[]
  methods := #[k1m0, k1m1, k1m2]
  instanceTypes := #[]
  staticTypes := #[]
  resolved := Array.replicate 35 none
  statics := none }

def pool2 : Array CpInfo := pool [(1, .methodref 2 3), (0, .class_ 4), (0, .nameAndType 5 6), (0, u "java/lang/Object"), (0, u "<init>"), (0, u "()V"), (0, .class_ 8), (0, u "java/util/ArrayDeque"), (0, .methodref 7 3), (0, .fieldref 11 12), (0, .class_ 13), (0, .nameAndType 14 15), (0, u "com/example/wire3/wire3/broker/Service"), (0, u "requests"), (0, u "Ljava/util/Deque;"), (0, .fieldref 11 17), (0, .nameAndType 18 15), (0, u "freeWorkers"), (0, .fieldref 11 20), (0, .nameAndType 21 22), (0, u "name"), (0, u "[B"), (11, .fieldref 11 35), (0, .nameAndType 36 37), (0, u "workers"), (0, u "I"), (3, u "([B)V"), (8, u "addWorker"), (0, u "removeWorker"), (0, u "hasWorkers"), (0, u "()Z")] 3

def k2c0 : Code := { maxStack := 3, maxLocals := 2, code := prog_3_method_1_code, exceptionTable := #[], attributes := #[] }
def k2m0 : Method := { name := "<init>", desc := "([B)V", sig := { parameters := [(.array .byte)], returnType := none }, accessFlags := 0, code := some k2c0 }
def k2c1 : Code := { maxStack := 3, maxLocals := 1, code := prog_3_method_6_code, exceptionTable := #[], attributes := #[] }
def k2m1 : Method := { name := "addWorker", desc := "()V", sig := { parameters := [], returnType := none }, accessFlags := 0, code := some k2c1 }
def k2c2 : Code := { maxStack := 3, maxLocals := 1, code := prog_3_method_7_code, exceptionTable := #[], attributes := #[] }
def k2m2 : Method := { name := "removeWorker", desc := "()V", sig := { parameters := [], returnType := none }, accessFlags := 0, code := some k2c2 }
def k2c3 : Code := { maxStack := 1, maxLocals := 1, code := prog_3_method_8_code, exceptionTable := #[], attributes := #[] }
def k2m3 : Method := { name := "hasWorkers", desc := "()Z", sig := { parameters := [], returnType := some .boolean }, accessFlags := 0, code := some k2c3 }
/-- com/example/wire3/wire3/broker/Service -/
def k2 : Class := { plain "com/example/wire3/wire3/broker/Service" (some 0) with
  accessFlags := 48
  interfaces := #[]
  cf := some (fileOf pool2 11 #[] #[{ accessFlags := 0, nameIndex := 5, descriptorIndex := 41, attributes := #[] }, { accessFlags := 0, nameIndex := 50, descriptorIndex := 6, attributes := #[] }, { accessFlags := 0, nameIndex := 51, descriptorIndex := 6, attributes := #[] }, { accessFlags := 0, nameIndex := 52, descriptorIndex := 53, attributes := #[] }] 48 2 #[] #[{ accessFlags := 18, nameIndex := 21, descriptorIndex := 22, attributes := #[] }, { accessFlags := 18, nameIndex := 14, descriptorIndex := 15, attributes := #[] }, { accessFlags := 18, nameIndex := 18, descriptorIndex := 15, attributes := #[] }, { accessFlags := 2, nameIndex := 36, descriptorIndex := 37, attributes := #[] }])
  fields := #[{ name := "name", type := (.array .byte), accessFlags := 18, slot := 0, constantValue := 0 }, { name := "requests", type := (.object "java/util/Deque"), accessFlags := 18, slot := 1, constantValue := 0 }, { name := "freeWorkers", type := (.object "java/util/Deque"), accessFlags := 18, slot := 2, constantValue := 0 }, { name := "workers", type := .int, accessFlags := 2, slot := 3, constantValue := 0 }]
  methods := #[k2m0, k2m1, k2m2, k2m3]
  instanceTypes := #[(.array .byte), (.object "java/util/Deque"), (.object "java/util/Deque"), .int]
  staticTypes := #[]
  resolved := Array.replicate 57 none
  statics := none }

def pool3 : Array CpInfo := pool [(8, .class_ 10), (1, u "java/lang/Iterable"), (24, .class_ 36), (0, u "java/lang/Object")] 25

/-- java/lang/Iterable -/
def k3 : Class := { plain "java/lang/Iterable" (some 0) with
  accessFlags := 1537
  interfaces := #[]
  cf := some (fileOf pool3 8 #[] #[] 1537 35 #[] #[])
  fields := #[]
  methods := #[]
  instanceTypes := #[]
  staticTypes := #[]
  resolved := Array.replicate 62 none
  statics := none }

def pool4 : Array CpInfo := pool [(10, .class_ 12), (1, u "java/util/Collection"), (47, .class_ 61), (0, u "java/lang/Object"), (0, .class_ 63), (0, u "java/lang/Iterable")] 51

/-- java/util/Collection -/
def k4 : Class := { plain "java/util/Collection" (some 0) with
  accessFlags := 1537
  interfaces := #[3]
  cf := some (fileOf pool4 10 #[] #[] 1537 60 #[62] #[])
  fields := #[]
  methods := #[]
  instanceTypes := #[]
  staticTypes := #[]
  resolved := Array.replicate 115 none
  statics := none }

def pool5 : Array CpInfo := pool [(1, .methodref 2 3), (0, .class_ 4), (0, .nameAndType 5 6), (0, u "java/lang/Object"), (0, u "<init>"), (0, u "()V"), (1, .class_ 10), (1, u "java/util/AbstractCollection"), (66, .class_ 78), (0, u "java/util/Collection")] 81

def k5c0 : Code := { maxStack := 1, maxLocals := 1, code := jdk_22_method_1_code, exceptionTable := #[], attributes := #[] }
def k5m0 : Method := { name := "<init>", desc := "()V", sig := { parameters := [], returnType := none }, accessFlags := 4, code := some k5c0 }
/-- java/util/AbstractCollection -/
def k5 : Class := { plain "java/util/AbstractCollection" (some 0) with
  accessFlags := 1057
  interfaces := #[4]
  cf := some (fileOf pool5 8 #[] #[{ accessFlags := 4, nameIndex := 5, descriptorIndex := 6, attributes := #[] }] 1057 2 #[77] #[])
  fields := #[]
  methods := #[k5m0]
  instanceTypes := #[]
  staticTypes := #[]
  resolved := Array.replicate 160 none
  statics := none }

def pool6 : Array CpInfo := pool [(1, .class_ 2), (0, u "java/util/Queue"), (0, .class_ 4), (0, u "java/lang/Object"), (0, .class_ 6), (0, u "java/util/Collection")] 14

/-- java/util/Queue -/
def k6 : Class := { plain "java/util/Queue" (some 0) with
  accessFlags := 1537
  interfaces := #[4]
  cf := some (fileOf pool6 1 #[] #[] 1537 3 #[5] #[])
  fields := #[]
  methods := #[]
  instanceTypes := #[]
  staticTypes := #[]
  resolved := Array.replicate 21 none
  statics := none }

def pool7 : Array CpInfo := pool [(8, .class_ 10), (1, u "java/util/SequencedCollection"), (15, .class_ 27), (0, u "java/lang/Object"), (0, .class_ 29), (0, u "java/util/Collection")] 27

/-- java/util/SequencedCollection -/
def k7 : Class := { plain "java/util/SequencedCollection" (some 0) with
  accessFlags := 1537
  interfaces := #[4]
  cf := some (fileOf pool7 8 #[] #[] 1537 26 #[28] #[])
  fields := #[]
  methods := #[]
  instanceTypes := #[]
  staticTypes := #[]
  resolved := Array.replicate 57 none
  statics := none }

def pool8 : Array CpInfo := pool [(8, .class_ 10), (1, u "java/util/Deque"), (2, .class_ 14), (0, u "java/lang/Object"), (0, .class_ 16), (0, u "java/util/Queue"), (0, .class_ 18), (0, u "java/util/SequencedCollection")] 51

/-- java/util/Deque -/
def k8 : Class := { plain "java/util/Deque" (some 0) with
  accessFlags := 1537
  interfaces := #[6, 7]
  cf := some (fileOf pool8 8 #[] #[] 1537 13 #[15, 17] #[])
  fields := #[]
  methods := #[]
  instanceTypes := #[]
  staticTypes := #[]
  resolved := Array.replicate 70 none
  statics := none }

def pool9 : Array CpInfo := pool [(1, .class_ 2), (0, u "java/lang/Cloneable"), (0, .class_ 4), (0, u "java/lang/Object")] 2

/-- java/lang/Cloneable -/
def k9 : Class := { plain "java/lang/Cloneable" (some 0) with
  accessFlags := 1537
  interfaces := #[]
  cf := some (fileOf pool9 1 #[] #[] 1537 3 #[] #[])
  fields := #[]
  methods := #[]
  instanceTypes := #[]
  staticTypes := #[]
  resolved := Array.replicate 7 none
  statics := none }

def pool10 : Array CpInfo := pool [(1, .class_ 2), (0, u "java/io/Serializable"), (0, .class_ 4), (0, u "java/lang/Object")] 2

/-- java/io/Serializable -/
def k10 : Class := { plain "java/io/Serializable" (some 0) with
  accessFlags := 1537
  interfaces := #[]
  cf := some (fileOf pool10 1 #[] #[] 1537 3 #[] #[])
  fields := #[]
  methods := #[]
  instanceTypes := #[]
  staticTypes := #[]
  resolved := Array.replicate 7 none
  statics := none }

def pool11 : Array CpInfo := pool [(3, .fieldref 4 5), (0, .class_ 6), (0, .nameAndType 7 8), (0, u "java/util/ArrayDeque"), (0, u "elements"), (0, u "[Ljava/lang/Object;"), (13, u "tail"), (0, u "I"), (2, u "head"), (12, u "<init>"), (2, .methodref 43 44), (0, .class_ 45), (0, .nameAndType 39 46), (0, u "java/util/AbstractCollection"), (0, u "()V"), (0, .class_ 48), (0, u "java/lang/Object"), (82, .class_ 132), (0, u "java/util/ArrayDeque$DeqIterator"), (3, .class_ 137), (0, u "java/util/ArrayDeque$DescendingIterator"), (1, .class_ 140), (0, u "java/util/ArrayDeque$DeqSpliterator"), (137, .class_ 279), (0, u "java/util/Deque"), (0, .class_ 281), (0, u "java/lang/Cloneable"), (0, .class_ 283), (0, u "java/io/Serializable"), (0, u "MAX_ARRAY_SIZE"), (1, u "serialVersionUID"), (0, u "J")] 150

def k11c0 : Code := { maxStack := 2, maxLocals := 1, code := jdk_21_method_3_code, exceptionTable := #[], attributes := #[] }
def k11m0 : Method := { name := "<init>", desc := "()V", sig := { parameters := [], returnType := none }, accessFlags := 1, code := some k11c0 }
/-- java/util/ArrayDeque -/
def k11 : Class := { plain "java/util/ArrayDeque" (some 5) with
  accessFlags := 33
  interfaces := #[8, 9, 10]
  cf := some (fileOf pool11 4 #[.nestMembers #[139, 136, 131]] #[{ accessFlags := 1, nameIndex := 39, descriptorIndex := 46, attributes := #[] }] 33 43 #[278, 280, 282] #[{ accessFlags := 128, nameIndex := 7, descriptorIndex := 8, attributes := #[] }, { accessFlags := 128, nameIndex := 26, descriptorIndex := 23, attributes := #[] }, { accessFlags := 128, nameIndex := 22, descriptorIndex := 23, attributes := #[] }, { accessFlags := 26, nameIndex := 284, descriptorIndex := 23, attributes := #[] }, { accessFlags := 26, nameIndex := 286, descriptorIndex := 287, attributes := #[] }])
  fields := #[{ name := "elements", type := (.array (.object "java/lang/Object")), accessFlags := 128, slot := 0, constantValue := 0 }, { name := "head", type := .int, accessFlags := 128, slot := 1, constantValue := 0 }, { name := "tail", type := .int, accessFlags := 128, slot := 2, constantValue := 0 }, { name := "MAX_ARRAY_SIZE", type := .int, accessFlags := 26, slot := 0, constantValue := 0 }, { name := "serialVersionUID", type := .long, accessFlags := 26, slot := 1, constantValue := 0 }]
  methods := #[k11m0]
  instanceTypes := #[(.array (.object "java/lang/Object")), .int, .int]
  staticTypes := #[.int, .long]
  resolved := Array.replicate 438 none
  statics := none }

/-- the primitive byte -/
def k12 : Class := { plain "byte" none with kind := .primitive 'B', accessFlags := 0x411 }
/-- [B -/
def k13 : Class := { plain "[B" (some 0) with kind := .array 12 .byte, interfaces := #[9, 10], accessFlags := 1041 }

/-- the primitive int -/
def k14 : Class := { plain "int" none with kind := .primitive 'I', accessFlags := 0x411 }
/-- [I -/
def k15 : Class := { plain "[I" (some 0) with kind := .array 14 .int, interfaces := #[9, 10], accessFlags := 1041 }

/-- [Ljava/lang/Object; -/
def k16 : Class := { plain "[Ljava/lang/Object;" (some 0) with kind := .array 0 (.object "java/lang/Object"), interfaces := #[9, 10], accessFlags := 1041 }

def heap : Heap := #[]
def classes : Array Class := #[k0, k1, k2, k3, k4, k5, k6, k7, k8, k9, k10, k11, k12, k13, k14, k15, k16]
def interned : List (Array UInt16 × Addr) := []
def slotsUsed : Nat := 0
def theMethod : MethodId := ⟨1, 2⟩
def args0 : Array Value := #[.int 5]
def aboutOver (below : List Frame) : State where
  vm := { classes := classes, interned := interned.toArray }
  heap := heap
  slotsUsed := slotsUsed
  threads := #[{ frames := .invoking theMethod args0 :: below }]
def below0 : List Frame := [.native { method := ⟨0, 0⟩, args := #[] }]
def about1 : State := aboutOver below0
def p0 : Program := .bare "" "" ""
def e0 : Env := launch0.env 0 0 0
theorem w_frames : about1.frames = Frame.invoking theMethod args0 :: below0 := rfl
set_option maxRecDepth 65536 in
theorem w_args : argsFit about1.vm theMethod args0 = true := by decide +kernel
set_option maxRecDepth 65536 in
theorem w_heap : heapFits about1 = true := by decide +kernel
set_option maxRecDepth 65536 in
theorem w_runnable : about1.curStatus? = some .runnable := by decide +kernel
set_option maxRecDepth 65536 in
theorem w_alone : about1.alone = true := by decide +kernel
set_option maxRecDepth 65536 in
theorem w_named : about1.methodNamed? x = some theMethod := by decide +kernel
set_option maxRecDepth 65536 in
theorem w_hears : about1.hears theMethod below0 = true := by decide +kernel
set_option maxRecDepth 65536 in
theorem w_ripe : about1.ripe theMethod args0 below0 = true := by decide +kernel
theorem w_running : about1.status = .running := rfl
set_option maxRecDepth 65536 in
theorem w_room : about1.hasRoom e0.platform room_1 = true :=
  launch0.hasRoom_least _ room_1 (by decide +kernel) (by decide +kernel) (by decide +kernel) (by decide +kernel) (by decide +kernel) (by decide +kernel)
theorem allAtoms_all (ts : List Jvm.Cond) (a : Array Jvm.Value) (st : Jvm.State) : (allAtoms ts).before a st = ts.all (fun c => c.before a st) := by
  induction ts with
  | nil => rfl
  | cons c t ih =>
    show (Jvm.Cond.and c (allAtoms t)).before a st = _
    rw [Jvm.Cond.before_and, ih, List.all_cons]
def words1 : List Jvm.Cond := Jvm.Cond.code x code maxLocals ret :: tables_1
/-- a 'code' word, met by the world's own term for the bytes: nothing is compared byte by byte -/
theorem code_word {y : MethodName} {bytes : ByteArray} {mx : Nat} {rt : Option FieldType} {a : Array Value} {s : State} {m : MethodId} {meth : Method} {c : Code} (h1 : s.methodNamed? y = some m) (h2 : s.vm.method? m = some meth) (h3 : meth.code = some c) (h4 : c.code = bytes)
    (h5 : (c.maxLocals == mx && c.exceptionTable.isEmpty && decide (c.maxStack ≤ mostOperands) && decide (meth.sig.returnType = rt) && !meth.locks && decide (parseMethodDescriptor y.desc = some meth.sig)) = true) : (Jvm.Cond.code y bytes mx rt).before a s = true := by
  simp only [Bool.and_eq_true, beq_iff_eq, Bool.not_eq_true', decide_eq_true_eq] at h5
  obtain ⟨⟨⟨⟨⟨g1, g2⟩, g3⟩, g4⟩, g5⟩, g6⟩ := h5
  simp [Cond.before, Cond.holds, Cond.value, h1, h2, h3, h4, g1, g2, g3, g4, g5, g6]
def isCode : Jvm.Cond → Bool
  | .code _ _ _ _ => true
  | _ => false
theorem all_split {L : List Jvm.Cond} {P : Jvm.Cond → Bool} (h1 : L.all (fun c => isCode c || P c) = true) (h2 : ∀ c ∈ L.filter isCode, P c = true) : L.all P = true := by
  refine List.all_eq_true.mpr fun c hc => ?_
  have h := List.all_eq_true.mp h1 c hc
  rcases Bool.eq_false_or_eq_true (isCode c) with hi | hi
  · exact h2 c (List.mem_filter.mpr ⟨hc, hi⟩)
  · simpa [hi] using h
set_option maxRecDepth 65536 in
theorem w_c0 : (Jvm.Cond.code x code maxLocals ret).before args0 about1 = true := code_word (m := ⟨1, 2⟩) (meth := k1m2) (c := k1c2) (by decide +kernel) rfl rfl rfl (by decide +kernel)
set_option maxRecDepth 65536 in
theorem w_c1 : (Jvm.Cond.code ({ cls := "com/example/wire3/wire3/broker/Service", name := "<init>", desc := "([B)V" } : Jvm.MethodName) prog_3_method_1_code (2 : Nat) (Option.none : Option Jvm.ClassFile.FieldType)).before args0 about1 = true := code_word (m := ⟨2, 0⟩) (meth := k2m0) (c := k2c0) (by decide +kernel) rfl rfl rfl (by decide +kernel)
set_option maxRecDepth 65536 in
theorem w_c2 : (Jvm.Cond.code ({ cls := "java/lang/Object", name := "<init>", desc := "()V" } : Jvm.MethodName) object_method_1_code (1 : Nat) (Option.none : Option Jvm.ClassFile.FieldType)).before args0 about1 = true := code_word (m := ⟨0, 0⟩) (meth := k0m0) (c := k0c0) (by decide +kernel) rfl rfl rfl (by decide +kernel)
set_option maxRecDepth 65536 in
theorem w_c3 : (Jvm.Cond.code ({ cls := "java/util/ArrayDeque", name := "<init>", desc := "()V" } : Jvm.MethodName) jdk_21_method_3_code (1 : Nat) (Option.none : Option Jvm.ClassFile.FieldType)).before args0 about1 = true := code_word (m := ⟨11, 0⟩) (meth := k11m0) (c := k11c0) (by decide +kernel) rfl rfl rfl (by decide +kernel)
set_option maxRecDepth 65536 in
theorem w_c4 : (Jvm.Cond.code ({ cls := "java/util/AbstractCollection", name := "<init>", desc := "()V" } : Jvm.MethodName) jdk_22_method_1_code (1 : Nat) (Option.none : Option Jvm.ClassFile.FieldType)).before args0 about1 = true := code_word (m := ⟨5, 0⟩) (meth := k5m0) (c := k5c0) (by decide +kernel) rfl rfl rfl (by decide +kernel)
set_option maxRecDepth 65536 in
theorem w_c5 : (Jvm.Cond.code ({ cls := "com/example/wire3/wire3/broker/Service", name := "hasWorkers", desc := "()Z" } : Jvm.MethodName) prog_3_method_8_code (1 : Nat) (Option.some Jvm.ClassFile.FieldType.boolean)).before args0 about1 = true := code_word (m := ⟨2, 3⟩) (meth := k2m3) (c := k2c3) (by decide +kernel) rfl rfl rfl (by decide +kernel)
set_option maxRecDepth 65536 in
theorem w_c6 : (Jvm.Cond.code ({ cls := "com/example/wire3/wire3/broker/ServiceHasWorkersPinLaw", name := "step", desc := "(Lcom/example/wire3/wire3/broker/Service;II)I" } : Jvm.MethodName) method_2_code (3 : Nat) (Option.some Jvm.ClassFile.FieldType.int)).before args0 about1 = true := code_word (m := ⟨1, 1⟩) (meth := k1m1) (c := k1c1) (by decide +kernel) rfl rfl rfl (by decide +kernel)
set_option maxRecDepth 65536 in
theorem w_c7 : (Jvm.Cond.code ({ cls := "com/example/wire3/wire3/broker/Service", name := "addWorker", desc := "()V" } : Jvm.MethodName) prog_3_method_6_code (1 : Nat) (Option.none : Option Jvm.ClassFile.FieldType)).before args0 about1 = true := code_word (m := ⟨2, 1⟩) (meth := k2m1) (c := k2c1) (by decide +kernel) rfl rfl rfl (by decide +kernel)
set_option maxRecDepth 65536 in
theorem w_c8 : (Jvm.Cond.code ({ cls := "com/example/wire3/wire3/broker/Service", name := "removeWorker", desc := "()V" } : Jvm.MethodName) prog_3_method_7_code (1 : Nat) (Option.none : Option Jvm.ClassFile.FieldType)).before args0 about1 = true := code_word (m := ⟨2, 2⟩) (meth := k2m2) (c := k2c2) (by decide +kernel) rfl rfl rfl (by decide +kernel)
def codes1 : List Jvm.Cond := [Jvm.Cond.code x code maxLocals ret, Jvm.Cond.code ({ cls := "com/example/wire3/wire3/broker/Service", name := "<init>", desc := "([B)V" } : Jvm.MethodName) prog_3_method_1_code (2 : Nat) (Option.none : Option Jvm.ClassFile.FieldType), Jvm.Cond.code ({ cls := "java/lang/Object", name := "<init>", desc := "()V" } : Jvm.MethodName) object_method_1_code (1 : Nat) (Option.none : Option Jvm.ClassFile.FieldType), Jvm.Cond.code ({ cls := "java/util/ArrayDeque", name := "<init>", desc := "()V" } : Jvm.MethodName) jdk_21_method_3_code (1 : Nat) (Option.none : Option Jvm.ClassFile.FieldType), Jvm.Cond.code ({ cls := "java/util/AbstractCollection", name := "<init>", desc := "()V" } : Jvm.MethodName) jdk_22_method_1_code (1 : Nat) (Option.none : Option Jvm.ClassFile.FieldType), Jvm.Cond.code ({ cls := "com/example/wire3/wire3/broker/Service", name := "hasWorkers", desc := "()Z" } : Jvm.MethodName) prog_3_method_8_code (1 : Nat) (Option.some Jvm.ClassFile.FieldType.boolean), Jvm.Cond.code ({ cls := "com/example/wire3/wire3/broker/ServiceHasWorkersPinLaw", name := "step", desc := "(Lcom/example/wire3/wire3/broker/Service;II)I" } : Jvm.MethodName) method_2_code (3 : Nat) (Option.some Jvm.ClassFile.FieldType.int), Jvm.Cond.code ({ cls := "com/example/wire3/wire3/broker/Service", name := "addWorker", desc := "()V" } : Jvm.MethodName) prog_3_method_6_code (1 : Nat) (Option.none : Option Jvm.ClassFile.FieldType), Jvm.Cond.code ({ cls := "com/example/wire3/wire3/broker/Service", name := "removeWorker", desc := "()V" } : Jvm.MethodName) prog_3_method_7_code (1 : Nat) (Option.none : Option Jvm.ClassFile.FieldType)]
set_option maxRecDepth 65536 in
theorem codes_eq : words1.filter isCode = codes1 := rfl
theorem w_codes : ∀ c ∈ words1.filter isCode, c.before args0 about1 = true := by
  rw [codes_eq]
  intro c hc
  simp only [codes1, List.mem_cons, List.not_mem_nil, or_false] at hc
  rcases hc with rfl | rfl | rfl | rfl | rfl | rfl | rfl | rfl | rfl
  · exact w_c0
  · exact w_c1
  · exact w_c2
  · exact w_c3
  · exact w_c4
  · exact w_c5
  · exact w_c6
  · exact w_c7
  · exact w_c8
set_option maxRecDepth 65536 in
theorem w_t1 : (words1.take 24).all (fun c => isCode c || c.before args0 about1) = true := by decide +kernel
set_option maxRecDepth 65536 in
theorem w_t2 : ((words1.drop 24).take 24).all (fun c => isCode c || c.before args0 about1) = true := by decide +kernel
set_option maxRecDepth 65536 in
theorem w_t3 : ((words1.drop 24).drop 24).all (fun c => isCode c || c.before args0 about1) = true := by decide +kernel
theorem w_tables : (allAtoms (Jvm.Cond.code x code maxLocals ret :: tables_1)).before args0 about1 = true := by
  rw [allAtoms_all]
  show words1.all (fun c => c.before args0 about1) = true
  refine all_split ?_ w_codes
  rw [← List.take_append_drop 24 words1, List.all_append, w_t1, ← List.take_append_drop 24 (words1.drop 24), List.all_append, w_t2, w_t3]
  rfl
set_option maxRecDepth 65536 in
theorem w_case : (Jvm.Cond.and given_1 narrow_1).before args0 about1 = true := by decide +kernel
theorem w_applies : (headSpec (Jvm.Cond.code x code maxLocals ret :: tables_1) room_1).applies x e0.platform about1 = true :=
  (Spec.applies_iff w_frames).mpr ⟨w_running, w_runnable, w_alone, w_named, w_hears, w_ripe, w_room, w_tables⟩
theorem atStart : AtStart classFile x code maxLocals ret World_1 tables_1 room_1 Calls_1 rest_1 Pre_1 launch0 p0 e0 about1 theMethod args0 below0 :=
  ⟨lists_1, trivial, launch0.admits_env _ _ _, launch0.least_env, fairChoices_fair.cas, fairChoices_fair.clock, w_frames, w_args, w_heap, w_applies, trivial, trivial, w_case⟩
end start1
theorem witness_1 : WitnessClaimed_1 := ⟨start1.p0, start1.e0, start1.about1, start1.theMethod, start1.args0, start1.below0, start1.atStart⟩
end Jvm.Pilot.@@N@@
