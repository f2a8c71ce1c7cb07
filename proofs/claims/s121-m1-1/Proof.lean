import JvmDerived
import JvmDerived.Pilot.@@N@@Statement
import JvmDerived.Pilot.@@N@@Code
set_option linter.unusedVariables false
set_option linter.unusedSimpArgs false
namespace Jvm.RoadKit
open Sem ClassFile Op Lib Jvm.Stand Jvm.Free Jvm.LawKit
section Own
variable {p : Program} {l : Launch} {e : Env} {R : Room} {s : State} {m : MethodId} {args : Array Value} {below : List Frame} {meth : Method} {c : Code} {T T1 : State} {locs : List Loc} {cells slots cs ss : Nat} {Q : Option Value → Heap → List Loc → Prop} {g g1 : JFrame}
/-- from the frame g over T the body comes to its end, and what it leaves is as Q says -/
def own_Goes (p : Program) (e : Env) (below : List Frame) (s : State) (Q : Option Value → Heap → List Loc → Prop) (cs ss : Nat) (T : State) (g : JFrame) : Prop :=
  ∃ s₂ o, Steps p.tables e below (T.setTop g) s₂ ∧ s₂.status = .running ∧ Ended s₂ below o ∧ ∃ v L, o = .returned v ∧ Q v s₂.heap L ∧ FrameEnd s o s₂ L cs ss
theorem own_go (st : ∀ target, Steps p.tables e below (T1.setTop g1) target → Steps p.tables e below (T.setTop g) target) (k : own_Goes p e below s Q cs ss T1 g1) : own_Goes p e below s Q cs ss T g := by
  obtain ⟨s₂, o, h, r⟩ := k
  exact ⟨s₂, o, st _ h, r⟩
theorem own_goS (st : Steps p.tables e below (T.setTop g) (T1.setTop g1)) (k : own_Goes p e below s Q cs ss T1 g1) : own_Goes p e below s Q cs ss T g := own_go (fun _ h => st.trans h) k
/-- the ends -/
theorem own_retN (X : Stand p l e R s m args below meth c T locs cells slots) (hx : p.tables.exec = Jvm.exec) {pc : Nat} {Ls : Array Slot} {z : Int32} {t : FieldType} {rest : List Value} (hlk : meth.locks = false) (hret : meth.sig.returnType = some t) (ht : t = .boolean ∨ t = .byte ∨ t = .char ∨ t = .short)
    (hd : decode c.code pc = .ok (.ireturn, 1)) (hc : cells ≤ cs) (hs : slots ≤ ss) (hQ : Q (some (.int (nar t z))) T.heap locs) : own_Goes p e below s Q cs ss T (mkF m pc Ls (.int z :: rest)) := by
  obtain ⟨fs, hr, hrun, hended, hW, hsame⟩ := X.leave (v := some (.int (nar t z))) (fun h => by rw [hret] at h; cases h) hlk
  exact ⟨_, _, retN X hx hret ht hd hr, hrun, hended, _, _, rfl, hQ, ⟨_, rfl⟩, hW, hsame.mono hc hs⟩
theorem own_ret (X : Stand p l e R s m args below meth c T locs cells slots) (hx : p.tables.exec = Jvm.exec) {pc : Nat} {Ls : Array Slot} {w : Value} {t : FieldType} {i : Instr} {rest : List Value} (hlk : meth.locks = false) (hret : meth.sig.returnType = some t) (hn : narrow t w = w)
    (hi : (i = .ireturn ∧ (t = .int ∨ t = .boolean ∨ t = .byte ∨ t = .char ∨ t = .short) ∧ ∃ z, w = .int z) ∨ (i = .lreturn ∧ t = .long ∧ ∃ z, w = .long z) ∨ (i = .dreturn ∧ t = .double ∧ ∃ z, w = .double z) ∨ (i = .freturn ∧ t = .float ∧ ∃ z, w = .float z) ∨ (i = .areturn ∧ t.isReference = true ∧ w.isRef = true))
    (hd : decode c.code pc = .ok (i, 1)) (hc : cells ≤ cs) (hs : slots ≤ ss) (hQ : Q (some w) T.heap locs) : own_Goes p e below s Q cs ss T (mkF m pc Ls (w :: rest)) := by
  obtain ⟨fs, hr, hrun, hended, hW, hsame⟩ := X.leave (v := some w) (fun h => by rw [hret] at h; cases h) hlk
  exact ⟨_, _, retOut X hx hret hn hi hd hr, hrun, hended, _, _, rfl, hQ, ⟨_, rfl⟩, hW, hsame.mono hc hs⟩
theorem own_retI (X : Stand p l e R s m args below meth c T locs cells slots) (hx : p.tables.exec = Jvm.exec) {pc : Nat} {Ls : Array Slot} {z : Int32} {rest : List Value} (hlk : meth.locks = false) (hret : meth.sig.returnType = some .int)
    (hd : decode c.code pc = .ok (.ireturn, 1)) (hc : cells ≤ cs) (hs : slots ≤ ss) (hQ : Q (some (.int z)) T.heap locs) : own_Goes p e below s Q cs ss T (mkF m pc Ls (.int z :: rest)) :=
  own_ret X hx hlk hret rfl (Or.inl ⟨rfl, Or.inl rfl, _, rfl⟩) hd hc hs hQ
theorem own_retA (X : Stand p l e R s m args below meth c T locs cells slots) (hx : p.tables.exec = Jvm.exec) {pc : Nat} {Ls : Array Slot} {w : Value} {t : FieldType} {rest : List Value} (hlk : meth.locks = false) (hret : meth.sig.returnType = some t) (ht : t.isReference = true) (hw : w.isRef = true)
    (hd : decode c.code pc = .ok (.areturn, 1)) (hc : cells ≤ cs) (hs : slots ≤ ss) (hQ : Q (some w) T.heap locs) : own_Goes p e below s Q cs ss T (mkF m pc Ls (w :: rest)) :=
  own_ret X hx hlk hret (by rcases ref_cases hw with rfl | ⟨a, rfl⟩ <;> cases t <;> simp [FieldType.isReference] at ht <;> rfl) (Or.inr (Or.inr (Or.inr (Or.inr ⟨rfl, ht, hw⟩)))) hd hc hs hQ
theorem own_retV (X : Stand p l e R s m args below meth c T locs cells slots) (hx : p.tables.exec = Jvm.exec) {pc : Nat} {Ls : Array Slot} (hlk : meth.locks = false) (hret : meth.sig.returnType = none)
    (hd : decode c.code pc = .ok (.return_, 1)) (hc : cells ≤ cs) (hs : slots ≤ ss) (hQ : Q none T.heap locs) : own_Goes p e below s Q cs ss T (mkF m pc Ls []) := by
  obtain ⟨fs, hr, hrun, hended, hW, hsame⟩ := X.leave (v := none) (fun _ => rfl) hlk
  exact ⟨_, _, X.returnOut hx hret hd hr, hrun, hended, _, _, rfl, hQ, ⟨_, rfl⟩, hW, hsame.mono hc hs⟩
/-- what holds throughout a body's walk -/
def own_Ctx (Z : State) (y : MethodName) (own : String) (bytes : ByteArray) (maxL : Nat) (ret : Option FieldType) (p : Program) (s : State) (m : MethodId) (meth : Method) (c : Code) : Prop :=
  p.tables.exec = Jvm.exec ∧ c.code = bytes ∧ c.maxLocals = maxL ∧ s.vm.findClass own = some m.cls ∧ meth.name = y.name ∧ meth.sig.returnType = ret ∧ meth.locks = false ∧ Z.Warmed39 s.vm
theorem own_met {Z : State} {y : MethodName} {own : String} {bytes : ByteArray} {maxL : Nat} {ret : Option FieldType} {ws : List Cond} {rm : Room} {as' : Array Value} {h0 : Heap} (hy : y.cls = own) (hpn : plainName own = true)
    (body : ∀ (p : Program) (e : Env) (s : State) (m : MethodId) (below : List Frame) (meth : Method) (c : Code) (s₁ : State), own_Ctx Z y own bytes maxL ret p s m meth c → s₁.heap = h0 → Stand p l e rm s m as' below meth c s₁ [] 0 0 → own_Goes p e below s Q cs ss s₁ (entryFrame m as' maxL)) :
    MetFree l y (head1 (Cond.code y bytes maxL ret :: ws) rm) (fun a U => a = as' ∧ Z.Warmed39 U.vm ∧ U.heap = h0) (fun _ _ _ _ _ => True) (fun _ U o U' => ∃ v L, o = .returned v ∧ Q v U'.heap L ∧ FrameEnd U o U' L cs ss) := by
  subst hy
  refine MetFree.of_bodySF (plainFor_of_name hpn) hisR ?_
  intro p e s m args below meth c s₁ Bd hml0 hP hK
  obtain ⟨rfl, hZ, hh⟩ := hP
  exact body p e s m below meth c s₁ ⟨Bd.exec, Bd.bytes, hml0, findClass_of_methodNamed Bd.named, (name_of_methodNamed Bd.named Bd.method).1, Bd.returns, Bd.notSynchronized, hZ⟩ (by rw [← hh, Bd.state]; rfl) (Stand.of_body Bd)
end Own
end Jvm.RoadKit
namespace Jvm.Pilot.@@N@@
open Jvm Jvm.ClassFile Sem Op Lib Jvm.Free Jvm.Stand Jvm.LawKit Jvm.RoadKit Bundle Jvm.Pilot.@@N@@.Jvm.D
/-- what 'reads' answers -/
def own_f (b : Int32) : Int32 := if b = 1 ∨ b = 3 ∨ b = 4 ∨ b = 6 then 1 else 0
theorem own_law {b : Int32} (h0 : ¬ b < 0) (h8 : b < 8) : own_f b = ((90 : Int32) >>> (b &&& 31)) &&& 1 := by
  have h : b.toInt = 0 ∨ b.toInt = 1 ∨ b.toInt = 2 ∨ b.toInt = 3 ∨ b.toInt = 4 ∨ b.toInt = 5 ∨ b.toInt = 6 ∨ b.toInt = 7 := by
    simp only [Int32.lt_iff_toInt_lt, Int32.reduceToInt] at h0 h8; omega
  rcases h with h | h | h | h | h | h | h | h
  · obtain rfl : b = 0 := Int32.toInt_inj.mp h
    decide
  · obtain rfl : b = 1 := Int32.toInt_inj.mp h
    decide
  · obtain rfl : b = 2 := Int32.toInt_inj.mp h
    decide
  · obtain rfl : b = 3 := Int32.toInt_inj.mp h
    decide
  · obtain rfl : b = 4 := Int32.toInt_inj.mp h
    decide
  · obtain rfl : b = 5 := Int32.toInt_inj.mp h
    decide
  · obtain rfl : b = 6 := Int32.toInt_inj.mp h
    decide
  · obtain rfl : b = 7 := Int32.toInt_inj.mp h
    decide
theorem own_bit (b : Int32) : own_f b = 0 ∨ own_f b = 1 := by
  unfold own_f; split <;> simp
theorem own_neg {b : Int32} (h : b < 0) : own_f b = 0 := by
  unfold own_f; rw [if_neg]; rintro (rfl | rfl | rfl | rfl) <;> exact absurd h (by decide)
theorem own_big {b : Int32} (h : ¬ b < 8) : own_f b = 0 := by
  unfold own_f; rw [if_neg]; rintro (rfl | rfl | rfl | rfl) <;> exact absurd h (by decide)
theorem own_one {b : Int32} (h0 : ¬ b < 0) (h8 : b < 8) (h : ¬ (((90 : Int32) >>> (b &&& 31)) &&& 1) = 0) : own_f b = 1 := by
  rcases own_bit b with q | q
  · rw [own_law h0 h8] at q; exact absurd q h
  · exact q
theorem d1_0 : decode prog_12_method_3_code 0 = .ok (.iload_n 0, 1) := by decide +kernel
theorem d1_1 : decode prog_12_method_3_code 1 = .ok (.iconst 1, 1) := by decide +kernel
theorem d1_2 : decode prog_12_method_3_code 2 = .ok (.if_icmp .eq 19, 3) := by decide +kernel
theorem d1_5 : decode prog_12_method_3_code 5 = .ok (.iload_n 0, 1) := by decide +kernel
theorem d1_6 : decode prog_12_method_3_code 6 = .ok (.iconst 3, 1) := by decide +kernel
theorem d1_7 : decode prog_12_method_3_code 7 = .ok (.if_icmp .eq 14, 3) := by decide +kernel
theorem d1_10 : decode prog_12_method_3_code 10 = .ok (.iload_n 0, 1) := by decide +kernel
theorem d1_11 : decode prog_12_method_3_code 11 = .ok (.iconst 4, 1) := by decide +kernel
theorem d1_12 : decode prog_12_method_3_code 12 = .ok (.if_icmp .eq 9, 3) := by decide +kernel
theorem d1_15 : decode prog_12_method_3_code 15 = .ok (.iload_n 0, 1) := by decide +kernel
theorem d1_16 : decode prog_12_method_3_code 16 = .ok (.bipush 6, 2) := by decide +kernel
theorem d1_18 : decode prog_12_method_3_code 18 = .ok (.if_icmp .ne 7, 3) := by decide +kernel
theorem d1_21 : decode prog_12_method_3_code 21 = .ok (.iconst 1, 1) := by decide +kernel
theorem d1_22 : decode prog_12_method_3_code 22 = .ok (.goto 4, 3) := by decide +kernel
theorem d1_25 : decode prog_12_method_3_code 25 = .ok (.iconst 0, 1) := by decide +kernel
theorem d1_26 : decode prog_12_method_3_code 26 = .ok (.ireturn, 1) := by decide +kernel
theorem pn_0 : plainName "com/example/corsia/corsia/document/DocumentEffectsReadsPinLaw" = true := by first | (simp [plainName, overriddenIn]; done) | decide +kernel
theorem pn_1 : plainName "com/example/corsia/corsia/document/DocumentEffects" = true := by first | (simp [plainName, overriddenIn]; done) | decide +kernel
theorem pd_0 : parseMethodDescriptor "(B)Z" = some ⟨[.byte], some .boolean⟩ := by decide +kernel
theorem ef_1 (m : MethodId) (p1 : Int32) : entryFrame m #[(.int p1)] 1 = mkF m 0 #[.val (.int p1)] [] := by first | (simp [entryFrame, mkF, argsToLocals, Value.category]; done) | rfl
theorem ef_0 (m : MethodId) (p1 : Int32) : entryFrame m #[(.int p1)] maxLocals = mkF m 0 #[.val (.int p1), .unset, .unset] [] := by first | (simp [entryFrame, mkF, argsToLocals, Value.category, maxLocals]; done) | rfl
def Q_rm1 (Z : State) (h0 : Heap) (n0 : Nat) (p1 : Int32) (v : Option Value) (h : Heap) (L : List Loc) : Prop := v = some (.int (own_f p1)) ∧ Fr n0 L ∧ h = h0
set_option maxRecDepth 65536 in
set_option maxHeartbeats 40000000 in
theorem rm1 (l : Launch) (Z : State) (a0 : Array Value) (hw : ∀ d ∈ tables_1, d.before a0 Z = true) (ws : List Jvm.Cond) (p1 : Int32) (h0 : Heap) (n0 : Nat) (Z0 : n0 ≤ h0.size) :
    MetFree l (⟨"com/example/corsia/corsia/document/DocumentEffects", "reads", "(B)Z"⟩ : MethodName) (head1 (Jvm.Cond.code (⟨"com/example/corsia/corsia/document/DocumentEffects", "reads", "(B)Z"⟩ : MethodName) prog_12_method_3_code 1 (some .boolean) :: ws) ({ frames := 0, cells := 0, slots := 0, locals := 0 } : Room)) (fun a U => a = #[(.int p1)] ∧ Z.Warmed39 U.vm ∧ U.heap = h0) (fun _ _ _ _ _ => True) (fun _ U o U' => ∃ v L, o = .returned v ∧ Q_rm1 Z h0 n0 p1 v U'.heap L ∧ FrameEnd U o U' L ({ frames := 0, cells := 0, slots := 0, locals := 0 } : Room).cells ({ frames := 0, cells := 0, slots := 0, locals := 0 } : Room).slots) := by
  refine own_met (y := (⟨"com/example/corsia/corsia/document/DocumentEffects", "reads", "(B)Z"⟩ : MethodName)) (Q := Q_rm1 Z h0 n0 p1) (own := "com/example/corsia/corsia/document/DocumentEffects") rfl pn_1 ?_
  intro p e s m below meth c s₁ C e0 X0
  obtain ⟨hx, hby, hml, hown, hnm, hret, hlk, hZ⟩ := C
  have N0 := Fr.nil n0
  rw [ef_1]
  show own_Goes _ _ _ _ _ _ _ s₁ (mkF m 0 #[.val (.int p1)] [])
  refine own_go (fun _ k => XS.iloadN X0.here hx rfl (hb hby d1_0) rfl k) ?_
  show own_Goes _ _ _ _ _ _ _ s₁ (mkF m 1 #[.val (.int p1)] [(.int p1)])
  refine own_go (fun _ k => XS.iconst X0.here hx rfl (hb hby d1_1) k) ?_
  show own_Goes _ _ _ _ _ _ _ s₁ (mkF m 2 #[.val (.int p1)] [(.int (1 : Int32)), (.int p1)])
  by_cases hc2 : p1 = (1 : Int32)
  · refine own_go (fun _ k => XS.icmpYes X0.here hx rfl (pc0 := 2) (pc' := 21) rfl (hb hby d1_2) rfl (teq hc2).1 (by decide) (by decide) k) ?_
    show own_Goes _ _ _ _ _ _ _ s₁ (mkF m 21 #[.val (.int p1)] [])
    refine own_go (fun _ k => XS.iconst X0.here hx rfl (hb hby d1_21) k) ?_
    show own_Goes _ _ _ _ _ _ _ s₁ (mkF m 22 #[.val (.int p1)] [(.int (1 : Int32))])
    refine own_go (fun _ k => XS.goto X0.here hx rfl (pc0 := 22) (pc' := 26) rfl (hb hby d1_22) (by decide) (by decide) k) ?_
    show own_Goes _ _ _ _ _ _ _ s₁ (mkF m 26 #[.val (.int p1)] [(.int (1 : Int32))])
    exact own_retN X0 hx (t := .boolean) hlk hret (by simp) (hb hby d1_26) (by decide) (by decide) ⟨by simp [own_f, nar, *], N0, e0⟩
  · refine own_go (fun _ k => XS.icmpNo X0.here hx rfl (hb hby d1_2) rfl (feq hc2).1 k) ?_
    show own_Goes _ _ _ _ _ _ _ s₁ (mkF m 5 #[.val (.int p1)] [])
    refine own_go (fun _ k => XS.iloadN X0.here hx rfl (hb hby d1_5) rfl k) ?_
    show own_Goes _ _ _ _ _ _ _ s₁ (mkF m 6 #[.val (.int p1)] [(.int p1)])
    refine own_go (fun _ k => XS.iconst X0.here hx rfl (hb hby d1_6) k) ?_
    show own_Goes _ _ _ _ _ _ _ s₁ (mkF m 7 #[.val (.int p1)] [(.int (3 : Int32)), (.int p1)])
    by_cases hc7 : p1 = (3 : Int32)
    · refine own_go (fun _ k => XS.icmpYes X0.here hx rfl (pc0 := 7) (pc' := 21) rfl (hb hby d1_7) rfl (teq hc7).1 (by decide) (by decide) k) ?_
      show own_Goes _ _ _ _ _ _ _ s₁ (mkF m 21 #[.val (.int p1)] [])
      refine own_go (fun _ k => XS.iconst X0.here hx rfl (hb hby d1_21) k) ?_
      show own_Goes _ _ _ _ _ _ _ s₁ (mkF m 22 #[.val (.int p1)] [(.int (1 : Int32))])
      refine own_go (fun _ k => XS.goto X0.here hx rfl (pc0 := 22) (pc' := 26) rfl (hb hby d1_22) (by decide) (by decide) k) ?_
      show own_Goes _ _ _ _ _ _ _ s₁ (mkF m 26 #[.val (.int p1)] [(.int (1 : Int32))])
      exact own_retN X0 hx (t := .boolean) hlk hret (by simp) (hb hby d1_26) (by decide) (by decide) ⟨by simp [own_f, nar, *], N0, e0⟩
    · refine own_go (fun _ k => XS.icmpNo X0.here hx rfl (hb hby d1_7) rfl (feq hc7).1 k) ?_
      show own_Goes _ _ _ _ _ _ _ s₁ (mkF m 10 #[.val (.int p1)] [])
      refine own_go (fun _ k => XS.iloadN X0.here hx rfl (hb hby d1_10) rfl k) ?_
      show own_Goes _ _ _ _ _ _ _ s₁ (mkF m 11 #[.val (.int p1)] [(.int p1)])
      refine own_go (fun _ k => XS.iconst X0.here hx rfl (hb hby d1_11) k) ?_
      show own_Goes _ _ _ _ _ _ _ s₁ (mkF m 12 #[.val (.int p1)] [(.int (4 : Int32)), (.int p1)])
      by_cases hc12 : p1 = (4 : Int32)
      · refine own_go (fun _ k => XS.icmpYes X0.here hx rfl (pc0 := 12) (pc' := 21) rfl (hb hby d1_12) rfl (teq hc12).1 (by decide) (by decide) k) ?_
        show own_Goes _ _ _ _ _ _ _ s₁ (mkF m 21 #[.val (.int p1)] [])
        refine own_go (fun _ k => XS.iconst X0.here hx rfl (hb hby d1_21) k) ?_
        show own_Goes _ _ _ _ _ _ _ s₁ (mkF m 22 #[.val (.int p1)] [(.int (1 : Int32))])
        refine own_go (fun _ k => XS.goto X0.here hx rfl (pc0 := 22) (pc' := 26) rfl (hb hby d1_22) (by decide) (by decide) k) ?_
        show own_Goes _ _ _ _ _ _ _ s₁ (mkF m 26 #[.val (.int p1)] [(.int (1 : Int32))])
        exact own_retN X0 hx (t := .boolean) hlk hret (by simp) (hb hby d1_26) (by decide) (by decide) ⟨by simp [own_f, nar, *], N0, e0⟩
      · refine own_go (fun _ k => XS.icmpNo X0.here hx rfl (hb hby d1_12) rfl (feq hc12).1 k) ?_
        show own_Goes _ _ _ _ _ _ _ s₁ (mkF m 15 #[.val (.int p1)] [])
        refine own_go (fun _ k => XS.iloadN X0.here hx rfl (hb hby d1_15) rfl k) ?_
        show own_Goes _ _ _ _ _ _ _ s₁ (mkF m 16 #[.val (.int p1)] [(.int p1)])
        refine own_go (fun _ k => XS.bipush X0.here hx rfl (hb hby d1_16) k) ?_
        show own_Goes _ _ _ _ _ _ _ s₁ (mkF m 18 #[.val (.int p1)] [(.int (6 : Int32)), (.int p1)])
        by_cases hc18 : p1 = (6 : Int32)
        · refine own_go (fun _ k => XS.icmpNo X0.here hx rfl (hb hby d1_18) rfl (teq hc18).2 k) ?_
          show own_Goes _ _ _ _ _ _ _ s₁ (mkF m 21 #[.val (.int p1)] [])
          refine own_go (fun _ k => XS.iconst X0.here hx rfl (hb hby d1_21) k) ?_
          show own_Goes _ _ _ _ _ _ _ s₁ (mkF m 22 #[.val (.int p1)] [(.int (1 : Int32))])
          refine own_go (fun _ k => XS.goto X0.here hx rfl (pc0 := 22) (pc' := 26) rfl (hb hby d1_22) (by decide) (by decide) k) ?_
          show own_Goes _ _ _ _ _ _ _ s₁ (mkF m 26 #[.val (.int p1)] [(.int (1 : Int32))])
          exact own_retN X0 hx (t := .boolean) hlk hret (by simp) (hb hby d1_26) (by decide) (by decide) ⟨by simp [own_f, nar, *], N0, e0⟩
        · refine own_go (fun _ k => XS.icmpYes X0.here hx rfl (pc0 := 18) (pc' := 25) rfl (hb hby d1_18) rfl (feq hc18).2 (by decide) (by decide) k) ?_
          show own_Goes _ _ _ _ _ _ _ s₁ (mkF m 25 #[.val (.int p1)] [])
          refine own_go (fun _ k => XS.iconst X0.here hx rfl (hb hby d1_25) k) ?_
          show own_Goes _ _ _ _ _ _ _ s₁ (mkF m 26 #[.val (.int p1)] [(.int (0 : Int32))])
          exact own_retN X0 hx (t := .boolean) hlk hret (by simp) (hb hby d1_26) (by decide) (by decide) ⟨by simp [own_f, nar, *], N0, e0⟩
def Q_rm0 (Z : State) (h0 : Heap) (n0 : Nat)  (v : Option Value) (h : Heap) (L : List Loc) : Prop := v = some (.int 1) ∧ Fr n0 L
set_option maxRecDepth 65536 in
set_option maxHeartbeats 40000000 in
theorem rm0 (l : Launch) (Z : State) (a0 : Array Value) (hw : ∀ d ∈ tables_1, d.before a0 Z = true) (ws : List Jvm.Cond) (p1 : Int32) (h0 : Heap) (n0 : Nat) (Z0 : n0 ≤ h0.size) :
    MetFree l x (head1 (Jvm.Cond.code x code maxLocals ret :: ws) room_1) (fun a U => a = #[(.int p1)] ∧ Z.Warmed39 U.vm ∧ U.heap = h0) (fun _ _ _ _ _ => True) (fun _ U o U' => ∃ v L, o = .returned v ∧ Q_rm0 Z h0 n0  v U'.heap L ∧ FrameEnd U o U' L room_1.cells room_1.slots) := by
  refine own_met (y := x) (Q := Q_rm0 Z h0 n0 ) (own := "com/example/corsia/corsia/document/DocumentEffectsReadsPinLaw") rfl pn_0 ?_
  intro p e s m below meth c s₁ C e0 X0
  obtain ⟨hx, hby, hml, hown, hnm, hret, hlk, hZ⟩ := C
  have N0 := Fr.nil n0
  rw [ef_0]
  show own_Goes _ _ _ _ _ _ _ s₁ (mkF m 0 #[.val (.int p1), .unset, .unset] [])
  refine own_go (fun _ k => XS.iloadN X0.here hx rfl (hb hby at_0) rfl k) ?_
  show own_Goes _ _ _ _ _ _ _ s₁ (mkF m 1 #[.val (.int p1), .unset, .unset] [(.int p1)])
  refine own_go (fun _ k => XS.i2b X0.here hx rfl (hb hby at_1) rfl k) ?_
  show own_Goes _ _ _ _ _ _ _ s₁ (mkF m 2 #[.val (.int p1), .unset, .unset] [(.int (p1.toInt8.toInt32))])
  refine own_go (fun _ k => XS.istoreN X0.here hx rfl (hb hby at_2) rfl (l' := #[.val (.int p1), .val (.int (p1.toInt8.toInt32)), .unset]) rfl k) ?_
  show own_Goes _ _ _ _ _ _ _ s₁ (mkF m 3 #[.val (.int p1), .val (.int (p1.toInt8.toInt32)), .unset] [])
  refine own_go (fun _ k => XS.iloadN X0.here hx rfl (hb hby at_3) rfl k) ?_
  show own_Goes _ _ _ _ _ _ _ s₁ (mkF m 4 #[.val (.int p1), .val (.int (p1.toInt8.toInt32)), .unset] [(.int (p1.toInt8.toInt32))])
  by_cases hc4 : (p1.toInt8.toInt32) < (0 : Int32)
  · refine own_go (fun _ k => XS.ifYes X0.here hx rfl (pc0 := 4) (pc' := 26) rfl (hb hby at_4) rfl ((if0 _ _).trans (tlt hc4).1) (by decide) (by decide) k) ?_
    show own_Goes _ _ _ _ _ _ _ s₁ (mkF m 26 #[.val (.int p1), .val (.int (p1.toInt8.toInt32)), .unset] [])
    refine own_go (fun _ k => XS.iconst X0.here hx rfl (hb hby at_26) k) ?_
    show own_Goes _ _ _ _ _ _ _ s₁ (mkF m 27 #[.val (.int p1), .val (.int (p1.toInt8.toInt32)), .unset] [(.int (0 : Int32))])
    refine own_go (fun _ k => XS.istoreN X0.here hx rfl (hb hby at_27) rfl (l' := #[.val (.int p1), .val (.int (p1.toInt8.toInt32)), .val (.int (0 : Int32))]) rfl k) ?_
    show own_Goes _ _ _ _ _ _ _ s₁ (mkF m 28 #[.val (.int p1), .val (.int (p1.toInt8.toInt32)), .val (.int (0 : Int32))] [])
    refine own_go (fun _ k => XS.iloadN X0.here hx rfl (hb hby at_28) rfl k) ?_
    show own_Goes _ _ _ _ _ _ _ s₁ (mkF m 29 #[.val (.int p1), .val (.int (p1.toInt8.toInt32)), .val (.int (0 : Int32))] [(.int (p1.toInt8.toInt32))])
    obtain ⟨_, _, ⟨T1, L1, k1, n1⟩, -, X1, ⟨Lc1, hQ1, l1, y1, z1⟩, st1⟩ := Jvm.LawKit.callS X0 hx (y := (⟨"com/example/corsia/corsia/document/DocumentEffects", "reads", "(B)Z"⟩ : MethodName)) hown (mvT hZ (hw _ (List.mem_of_getElem? (i := 0) rfl))) (mvT hZ (hw _ (List.mem_of_getElem? (i := 1) rfl))) (mvT hZ (hw _ (List.mem_of_getElem? (i := 2) rfl))) (mvT hZ (hw _ (List.mem_of_getElem? (i := 3) rfl))) (by decide) (backOf (W := 0) (rm1 l Z a0 hw [] (p1.toInt8.toInt32) h0 n0 Z0) hZ (hw _ (List.mem_of_getElem? (i := 3) rfl)) (hw _ (List.mem_of_getElem? (i := 2) rfl)) (by decide) (by decide)) (g := (mkF m 29 #[.val (.int p1), .val (.int (p1.toInt8.toInt32)), .val (.int (0 : Int32))] [(.int (p1.toInt8.toInt32))])) rfl (by rw [hml]; rfl) (argsL := [(.int (p1.toInt8.toInt32))]) (rest := []) (lenOf pd_0 rfl) rfl (by show 2 * 0 + _ ≤ _; exact Nat.le_of_eq rfl) (hb hby at_29) (fun _ _ => ⟨rfl, e0, (by decide : 0 + 0 ≤ _), (by decide : 0 + 0 ≤ _)⟩)
    dsimp only [Pt.U, Pt.locs, Pt.cells, Pt.slots] at X1 l1 y1 z1 st1 hQ1
    subst l1 y1 z1
    obtain ⟨rfl, N1q, e1⟩ := hQ1
    have N1 := Fr.app N0 N1q
    refine own_go st1 ?_
    show own_Goes _ _ _ _ _ _ _ T1 (mkF m 32 #[.val (.int p1), .val (.int (p1.toInt8.toInt32)), .val (.int (0 : Int32))] [(.int (own_f (p1.toInt8.toInt32)))])
    refine own_go (fun _ k => XS.iloadN X1.here hx rfl (hb hby at_32) rfl k) ?_
    show own_Goes _ _ _ _ _ _ _ T1 (mkF m 33 #[.val (.int p1), .val (.int (p1.toInt8.toInt32)), .val (.int (0 : Int32))] [(.int (0 : Int32)), (.int (own_f (p1.toInt8.toInt32)))])
    refine own_go (fun _ k => XS.icmpNo X1.here hx rfl (hb hby at_33) rfl (teq (own_neg hc4)).2 k) ?_
    show own_Goes _ _ _ _ _ _ _ T1 (mkF m 36 #[.val (.int p1), .val (.int (p1.toInt8.toInt32)), .val (.int (0 : Int32))] [])
    refine own_go (fun _ k => XS.iconst X1.here hx rfl (hb hby at_36) k) ?_
    show own_Goes _ _ _ _ _ _ _ T1 (mkF m 37 #[.val (.int p1), .val (.int (p1.toInt8.toInt32)), .val (.int (0 : Int32))] [(.int (1 : Int32))])
    refine own_go (fun _ k => XS.goto X1.here hx rfl (pc0 := 37) (pc' := 41) rfl (hb hby at_37) (by decide) (by decide) k) ?_
    show own_Goes _ _ _ _ _ _ _ T1 (mkF m 41 #[.val (.int p1), .val (.int (p1.toInt8.toInt32)), .val (.int (0 : Int32))] [(.int (1 : Int32))])
    exact own_retN X1 hx (t := .boolean) hlk hret (by simp) (hb hby at_41) (by decide) (by decide) ⟨rfl, N1⟩
  · refine own_go (fun _ k => XS.ifNo X0.here hx rfl (hb hby at_4) rfl ((if0 _ _).trans (flt hc4).1) k) ?_
    show own_Goes _ _ _ _ _ _ _ s₁ (mkF m 7 #[.val (.int p1), .val (.int (p1.toInt8.toInt32)), .unset] [])
    refine own_go (fun _ k => XS.iloadN X0.here hx rfl (hb hby at_7) rfl k) ?_
    show own_Goes _ _ _ _ _ _ _ s₁ (mkF m 8 #[.val (.int p1), .val (.int (p1.toInt8.toInt32)), .unset] [(.int (p1.toInt8.toInt32))])
    refine own_go (fun _ k => XS.bipush X0.here hx rfl (hb hby at_8) k) ?_
    show own_Goes _ _ _ _ _ _ _ s₁ (mkF m 10 #[.val (.int p1), .val (.int (p1.toInt8.toInt32)), .unset] [(.int (8 : Int32)), (.int (p1.toInt8.toInt32))])
    by_cases hc10 : (p1.toInt8.toInt32) < (8 : Int32)
    · refine own_go (fun _ k => XS.icmpNo X0.here hx rfl (hb hby at_10) rfl (tlt hc10).2.1 k) ?_
      show own_Goes _ _ _ _ _ _ _ s₁ (mkF m 13 #[.val (.int p1), .val (.int (p1.toInt8.toInt32)), .unset] [])
      refine own_go (fun _ k => XS.bipush X0.here hx rfl (hb hby at_13) k) ?_
      show own_Goes _ _ _ _ _ _ _ s₁ (mkF m 15 #[.val (.int p1), .val (.int (p1.toInt8.toInt32)), .unset] [(.int (90 : Int32))])
      refine own_go (fun _ k => XS.iloadN X0.here hx rfl (hb hby at_15) rfl k) ?_
      show own_Goes _ _ _ _ _ _ _ s₁ (mkF m 16 #[.val (.int p1), .val (.int (p1.toInt8.toInt32)), .unset] [(.int (p1.toInt8.toInt32)), (.int (90 : Int32))])
      refine own_go (fun _ k => XS.ishr X0.here hx rfl (hb hby at_16) rfl k) ?_
      show own_Goes _ _ _ _ _ _ _ s₁ (mkF m 17 #[.val (.int p1), .val (.int (p1.toInt8.toInt32)), .unset] [(.int ((90 : Int32) >>> ((p1.toInt8.toInt32) &&& 31)))])
      refine own_go (fun _ k => XS.iconst X0.here hx rfl (hb hby at_17) k) ?_
      show own_Goes _ _ _ _ _ _ _ s₁ (mkF m 18 #[.val (.int p1), .val (.int (p1.toInt8.toInt32)), .unset] [(.int (1 : Int32)), (.int ((90 : Int32) >>> ((p1.toInt8.toInt32) &&& 31)))])
      refine own_go (fun _ k => XS.iand X0.here hx rfl (hb hby at_18) rfl k) ?_
      show own_Goes _ _ _ _ _ _ _ s₁ (mkF m 19 #[.val (.int p1), .val (.int (p1.toInt8.toInt32)), .unset] [(.int (((90 : Int32) >>> ((p1.toInt8.toInt32) &&& 31)) &&& (1 : Int32)))])
      by_cases hc19 : (((90 : Int32) >>> ((p1.toInt8.toInt32) &&& 31)) &&& (1 : Int32)) = (0 : Int32)
      · refine own_go (fun _ k => XS.ifYes X0.here hx rfl (pc0 := 19) (pc' := 26) rfl (hb hby at_19) rfl ((if0 _ _).trans (teq hc19).1) (by decide) (by decide) k) ?_
        show own_Goes _ _ _ _ _ _ _ s₁ (mkF m 26 #[.val (.int p1), .val (.int (p1.toInt8.toInt32)), .unset] [])
        refine own_go (fun _ k => XS.iconst X0.here hx rfl (hb hby at_26) k) ?_
        show own_Goes _ _ _ _ _ _ _ s₁ (mkF m 27 #[.val (.int p1), .val (.int (p1.toInt8.toInt32)), .unset] [(.int (0 : Int32))])
        refine own_go (fun _ k => XS.istoreN X0.here hx rfl (hb hby at_27) rfl (l' := #[.val (.int p1), .val (.int (p1.toInt8.toInt32)), .val (.int (0 : Int32))]) rfl k) ?_
        show own_Goes _ _ _ _ _ _ _ s₁ (mkF m 28 #[.val (.int p1), .val (.int (p1.toInt8.toInt32)), .val (.int (0 : Int32))] [])
        refine own_go (fun _ k => XS.iloadN X0.here hx rfl (hb hby at_28) rfl k) ?_
        show own_Goes _ _ _ _ _ _ _ s₁ (mkF m 29 #[.val (.int p1), .val (.int (p1.toInt8.toInt32)), .val (.int (0 : Int32))] [(.int (p1.toInt8.toInt32))])
        obtain ⟨_, _, ⟨T2, L2, k2, n2⟩, -, X2, ⟨Lc2, hQ2, l2, y2, z2⟩, st2⟩ := Jvm.LawKit.callS X0 hx (y := (⟨"com/example/corsia/corsia/document/DocumentEffects", "reads", "(B)Z"⟩ : MethodName)) hown (mvT hZ (hw _ (List.mem_of_getElem? (i := 0) rfl))) (mvT hZ (hw _ (List.mem_of_getElem? (i := 1) rfl))) (mvT hZ (hw _ (List.mem_of_getElem? (i := 2) rfl))) (mvT hZ (hw _ (List.mem_of_getElem? (i := 3) rfl))) (by decide) (backOf (W := 0) (rm1 l Z a0 hw [] (p1.toInt8.toInt32) h0 n0 Z0) hZ (hw _ (List.mem_of_getElem? (i := 3) rfl)) (hw _ (List.mem_of_getElem? (i := 2) rfl)) (by decide) (by decide)) (g := (mkF m 29 #[.val (.int p1), .val (.int (p1.toInt8.toInt32)), .val (.int (0 : Int32))] [(.int (p1.toInt8.toInt32))])) rfl (by rw [hml]; rfl) (argsL := [(.int (p1.toInt8.toInt32))]) (rest := []) (lenOf pd_0 rfl) rfl (by show 2 * 0 + _ ≤ _; exact Nat.le_of_eq rfl) (hb hby at_29) (fun _ _ => ⟨rfl, e0, (by decide : 0 + 0 ≤ _), (by decide : 0 + 0 ≤ _)⟩)
        dsimp only [Pt.U, Pt.locs, Pt.cells, Pt.slots] at X2 l2 y2 z2 st2 hQ2
        subst l2 y2 z2
        obtain ⟨rfl, N2q, e2⟩ := hQ2
        have N2 := Fr.app N0 N2q
        refine own_go st2 ?_
        show own_Goes _ _ _ _ _ _ _ T2 (mkF m 32 #[.val (.int p1), .val (.int (p1.toInt8.toInt32)), .val (.int (0 : Int32))] [(.int (own_f (p1.toInt8.toInt32)))])
        refine own_go (fun _ k => XS.iloadN X2.here hx rfl (hb hby at_32) rfl k) ?_
        show own_Goes _ _ _ _ _ _ _ T2 (mkF m 33 #[.val (.int p1), .val (.int (p1.toInt8.toInt32)), .val (.int (0 : Int32))] [(.int (0 : Int32)), (.int (own_f (p1.toInt8.toInt32)))])
        refine own_go (fun _ k => XS.icmpNo X2.here hx rfl (hb hby at_33) rfl (teq ((own_law hc4 hc10).trans hc19)).2 k) ?_
        show own_Goes _ _ _ _ _ _ _ T2 (mkF m 36 #[.val (.int p1), .val (.int (p1.toInt8.toInt32)), .val (.int (0 : Int32))] [])
        refine own_go (fun _ k => XS.iconst X2.here hx rfl (hb hby at_36) k) ?_
        show own_Goes _ _ _ _ _ _ _ T2 (mkF m 37 #[.val (.int p1), .val (.int (p1.toInt8.toInt32)), .val (.int (0 : Int32))] [(.int (1 : Int32))])
        refine own_go (fun _ k => XS.goto X2.here hx rfl (pc0 := 37) (pc' := 41) rfl (hb hby at_37) (by decide) (by decide) k) ?_
        show own_Goes _ _ _ _ _ _ _ T2 (mkF m 41 #[.val (.int p1), .val (.int (p1.toInt8.toInt32)), .val (.int (0 : Int32))] [(.int (1 : Int32))])
        exact own_retN X2 hx (t := .boolean) hlk hret (by simp) (hb hby at_41) (by decide) (by decide) ⟨rfl, N2⟩
      · refine own_go (fun _ k => XS.ifNo X0.here hx rfl (hb hby at_19) rfl ((if0 _ _).trans (feq hc19).1) k) ?_
        show own_Goes _ _ _ _ _ _ _ s₁ (mkF m 22 #[.val (.int p1), .val (.int (p1.toInt8.toInt32)), .unset] [])
        refine own_go (fun _ k => XS.iconst X0.here hx rfl (hb hby at_22) k) ?_
        show own_Goes _ _ _ _ _ _ _ s₁ (mkF m 23 #[.val (.int p1), .val (.int (p1.toInt8.toInt32)), .unset] [(.int (1 : Int32))])
        refine own_go (fun _ k => XS.goto X0.here hx rfl (pc0 := 23) (pc' := 27) rfl (hb hby at_23) (by decide) (by decide) k) ?_
        show own_Goes _ _ _ _ _ _ _ s₁ (mkF m 27 #[.val (.int p1), .val (.int (p1.toInt8.toInt32)), .unset] [(.int (1 : Int32))])
        refine own_go (fun _ k => XS.istoreN X0.here hx rfl (hb hby at_27) rfl (l' := #[.val (.int p1), .val (.int (p1.toInt8.toInt32)), .val (.int (1 : Int32))]) rfl k) ?_
        show own_Goes _ _ _ _ _ _ _ s₁ (mkF m 28 #[.val (.int p1), .val (.int (p1.toInt8.toInt32)), .val (.int (1 : Int32))] [])
        refine own_go (fun _ k => XS.iloadN X0.here hx rfl (hb hby at_28) rfl k) ?_
        show own_Goes _ _ _ _ _ _ _ s₁ (mkF m 29 #[.val (.int p1), .val (.int (p1.toInt8.toInt32)), .val (.int (1 : Int32))] [(.int (p1.toInt8.toInt32))])
        obtain ⟨_, _, ⟨T3, L3, k3, n3⟩, -, X3, ⟨Lc3, hQ3, l3, y3, z3⟩, st3⟩ := Jvm.LawKit.callS X0 hx (y := (⟨"com/example/corsia/corsia/document/DocumentEffects", "reads", "(B)Z"⟩ : MethodName)) hown (mvT hZ (hw _ (List.mem_of_getElem? (i := 0) rfl))) (mvT hZ (hw _ (List.mem_of_getElem? (i := 1) rfl))) (mvT hZ (hw _ (List.mem_of_getElem? (i := 2) rfl))) (mvT hZ (hw _ (List.mem_of_getElem? (i := 3) rfl))) (by decide) (backOf (W := 0) (rm1 l Z a0 hw [] (p1.toInt8.toInt32) h0 n0 Z0) hZ (hw _ (List.mem_of_getElem? (i := 3) rfl)) (hw _ (List.mem_of_getElem? (i := 2) rfl)) (by decide) (by decide)) (g := (mkF m 29 #[.val (.int p1), .val (.int (p1.toInt8.toInt32)), .val (.int (1 : Int32))] [(.int (p1.toInt8.toInt32))])) rfl (by rw [hml]; rfl) (argsL := [(.int (p1.toInt8.toInt32))]) (rest := []) (lenOf pd_0 rfl) rfl (by show 2 * 0 + _ ≤ _; exact Nat.le_of_eq rfl) (hb hby at_29) (fun _ _ => ⟨rfl, e0, (by decide : 0 + 0 ≤ _), (by decide : 0 + 0 ≤ _)⟩)
        dsimp only [Pt.U, Pt.locs, Pt.cells, Pt.slots] at X3 l3 y3 z3 st3 hQ3
        subst l3 y3 z3
        obtain ⟨rfl, N3q, e3⟩ := hQ3
        have N3 := Fr.app N0 N3q
        refine own_go st3 ?_
        show own_Goes _ _ _ _ _ _ _ T3 (mkF m 32 #[.val (.int p1), .val (.int (p1.toInt8.toInt32)), .val (.int (1 : Int32))] [(.int (own_f (p1.toInt8.toInt32)))])
        refine own_go (fun _ k => XS.iloadN X3.here hx rfl (hb hby at_32) rfl k) ?_
        show own_Goes _ _ _ _ _ _ _ T3 (mkF m 33 #[.val (.int p1), .val (.int (p1.toInt8.toInt32)), .val (.int (1 : Int32))] [(.int (1 : Int32)), (.int (own_f (p1.toInt8.toInt32)))])
        refine own_go (fun _ k => XS.icmpNo X3.here hx rfl (hb hby at_33) rfl (teq (own_one hc4 hc10 hc19)).2 k) ?_
        show own_Goes _ _ _ _ _ _ _ T3 (mkF m 36 #[.val (.int p1), .val (.int (p1.toInt8.toInt32)), .val (.int (1 : Int32))] [])
        refine own_go (fun _ k => XS.iconst X3.here hx rfl (hb hby at_36) k) ?_
        show own_Goes _ _ _ _ _ _ _ T3 (mkF m 37 #[.val (.int p1), .val (.int (p1.toInt8.toInt32)), .val (.int (1 : Int32))] [(.int (1 : Int32))])
        refine own_go (fun _ k => XS.goto X3.here hx rfl (pc0 := 37) (pc' := 41) rfl (hb hby at_37) (by decide) (by decide) k) ?_
        show own_Goes _ _ _ _ _ _ _ T3 (mkF m 41 #[.val (.int p1), .val (.int (p1.toInt8.toInt32)), .val (.int (1 : Int32))] [(.int (1 : Int32))])
        exact own_retN X3 hx (t := .boolean) hlk hret (by simp) (hb hby at_41) (by decide) (by decide) ⟨rfl, N3⟩
    · refine own_go (fun _ k => XS.icmpYes X0.here hx rfl (pc0 := 10) (pc' := 26) rfl (hb hby at_10) rfl (flt hc10).2.1 (by decide) (by decide) k) ?_
      show own_Goes _ _ _ _ _ _ _ s₁ (mkF m 26 #[.val (.int p1), .val (.int (p1.toInt8.toInt32)), .unset] [])
      refine own_go (fun _ k => XS.iconst X0.here hx rfl (hb hby at_26) k) ?_
      show own_Goes _ _ _ _ _ _ _ s₁ (mkF m 27 #[.val (.int p1), .val (.int (p1.toInt8.toInt32)), .unset] [(.int (0 : Int32))])
      refine own_go (fun _ k => XS.istoreN X0.here hx rfl (hb hby at_27) rfl (l' := #[.val (.int p1), .val (.int (p1.toInt8.toInt32)), .val (.int (0 : Int32))]) rfl k) ?_
      show own_Goes _ _ _ _ _ _ _ s₁ (mkF m 28 #[.val (.int p1), .val (.int (p1.toInt8.toInt32)), .val (.int (0 : Int32))] [])
      refine own_go (fun _ k => XS.iloadN X0.here hx rfl (hb hby at_28) rfl k) ?_
      show own_Goes _ _ _ _ _ _ _ s₁ (mkF m 29 #[.val (.int p1), .val (.int (p1.toInt8.toInt32)), .val (.int (0 : Int32))] [(.int (p1.toInt8.toInt32))])
      obtain ⟨_, _, ⟨T4, L4, k4, n4⟩, -, X4, ⟨Lc4, hQ4, l4, y4, z4⟩, st4⟩ := Jvm.LawKit.callS X0 hx (y := (⟨"com/example/corsia/corsia/document/DocumentEffects", "reads", "(B)Z"⟩ : MethodName)) hown (mvT hZ (hw _ (List.mem_of_getElem? (i := 0) rfl))) (mvT hZ (hw _ (List.mem_of_getElem? (i := 1) rfl))) (mvT hZ (hw _ (List.mem_of_getElem? (i := 2) rfl))) (mvT hZ (hw _ (List.mem_of_getElem? (i := 3) rfl))) (by decide) (backOf (W := 0) (rm1 l Z a0 hw [] (p1.toInt8.toInt32) h0 n0 Z0) hZ (hw _ (List.mem_of_getElem? (i := 3) rfl)) (hw _ (List.mem_of_getElem? (i := 2) rfl)) (by decide) (by decide)) (g := (mkF m 29 #[.val (.int p1), .val (.int (p1.toInt8.toInt32)), .val (.int (0 : Int32))] [(.int (p1.toInt8.toInt32))])) rfl (by rw [hml]; rfl) (argsL := [(.int (p1.toInt8.toInt32))]) (rest := []) (lenOf pd_0 rfl) rfl (by show 2 * 0 + _ ≤ _; exact Nat.le_of_eq rfl) (hb hby at_29) (fun _ _ => ⟨rfl, e0, (by decide : 0 + 0 ≤ _), (by decide : 0 + 0 ≤ _)⟩)
      dsimp only [Pt.U, Pt.locs, Pt.cells, Pt.slots] at X4 l4 y4 z4 st4 hQ4
      subst l4 y4 z4
      obtain ⟨rfl, N4q, e4⟩ := hQ4
      have N4 := Fr.app N0 N4q
      refine own_go st4 ?_
      show own_Goes _ _ _ _ _ _ _ T4 (mkF m 32 #[.val (.int p1), .val (.int (p1.toInt8.toInt32)), .val (.int (0 : Int32))] [(.int (own_f (p1.toInt8.toInt32)))])
      refine own_go (fun _ k => XS.iloadN X4.here hx rfl (hb hby at_32) rfl k) ?_
      show own_Goes _ _ _ _ _ _ _ T4 (mkF m 33 #[.val (.int p1), .val (.int (p1.toInt8.toInt32)), .val (.int (0 : Int32))] [(.int (0 : Int32)), (.int (own_f (p1.toInt8.toInt32)))])
      refine own_go (fun _ k => XS.icmpNo X4.here hx rfl (hb hby at_33) rfl (teq (own_big hc10)).2 k) ?_
      show own_Goes _ _ _ _ _ _ _ T4 (mkF m 36 #[.val (.int p1), .val (.int (p1.toInt8.toInt32)), .val (.int (0 : Int32))] [])
      refine own_go (fun _ k => XS.iconst X4.here hx rfl (hb hby at_36) k) ?_
      show own_Goes _ _ _ _ _ _ _ T4 (mkF m 37 #[.val (.int p1), .val (.int (p1.toInt8.toInt32)), .val (.int (0 : Int32))] [(.int (1 : Int32))])
      refine own_go (fun _ k => XS.goto X4.here hx rfl (pc0 := 37) (pc' := 41) rfl (hb hby at_37) (by decide) (by decide) k) ?_
      show own_Goes _ _ _ _ _ _ _ T4 (mkF m 41 #[.val (.int p1), .val (.int (p1.toInt8.toInt32)), .val (.int (0 : Int32))] [(.int (1 : Int32))])
      exact own_retN X4 hx (t := .boolean) hlk hret (by simp) (hb hby at_41) (by decide) (by decide) ⟨rfl, N4⟩
set_option maxRecDepth 65536 in
set_option maxHeartbeats 40000000 in
theorem comes_1 {Post : Tables → Env → Array Value → State → Outcome → State → Prop} (hpost : ∀ tb e args s v u, (limb_1_1.after args s (.returned v) u = true ∧ limb_1_2.after args s (.returned v) u = true ∧ True) → FrameEnd s (.returned v) u (Jvm.fieldLocs frame_1_writes args s ++ Jvm.arrayLocs frame_1_arrays args s ++ Jvm.staticLocs frame_1_statics s) 0 0 → Post tb e args s (.returned v) u) :
    ArmFor flags0 classFile x code maxLocals ret World_1 tables_1 room_1 Calls_1 rest_1 Pre_1 Post := by
  intro l hfl _ _ p e ha hc hk s m args below hf hA hF happ hP
  obtain ⟨hcalls, hrest, hpre⟩ := hP
  obtain ⟨-, -, -, hnamed, -, -, -, hat⟩ := (Spec.applies_iff hf).mp happ
  obtain ⟨hg, hn⟩ := and_e (Cond.before_iff.mp (show (Jvm.Cond.and given_1 narrow_1).before args s = true from hpre))
  obtain ⟨g0, gr0⟩ := and_e hg
  have ga0 := gr0
  obtain ⟨w0, rfl⟩ : ∃ w0 : Value, args = #[w0] := by
    have hs : args.size = 1 := by simpa [Cond.value, given_1] using g0
    obtain ⟨L⟩ := args
    match L, hs with
    | [w0], _ => exact ⟨w0, rfl⟩
  have hw := fun d (hd : d ∈ tables_1) => atoms_spec (ws := Jvm.Cond.code x code maxLocals ret :: tables_1) hat d (List.mem_cons_of_mem _ hd)
  have hfit : Fit s := fun {y c} hc i hi => by
    obtain ⟨ha, rfl⟩ := Array.getElem?_eq_some_iff.mp hc
    have q := List.all_eq_true.mp ((Array.all_eq_true_iff_forall_mem.mp hF) _ (Array.getElem_mem ha)) i (List.mem_range.mpr hi)
    simpa [Array.getElem?_eq_getElem hi] using q
  obtain ⟨i0, ei0⟩ := is_v ga0
  obtain rfl : w0 = (.int i0) := Option.some.inj ei0
  obtain ⟨n, o, h1, h2, h3, _, L, rfl, ⟨rfl, N⟩, hq⟩ := rm0 l s _ hw tables_1 i0 s.heap s.heap.size (Nat.le_refl _)  p e ha hc hk s m _ below hf ((Spec.applies_iff_loose hf).mp happ).1 ⟨rfl, State.Warmed39.refl s, rfl⟩ trivial
  refine ⟨n, _, h1, h2, h3, hpost _ _ _ _ _ _ ⟨Cond.after_iff.mpr rfl, Cond.after_iff.mpr (eq_i res_at (Term.int_eval (1)) rfl), trivial⟩ ⟨hq.1, hq.2.1, (hq.2.2.sift fun y hy => Or.inr (N y hy)).mono (by decide) (by decide)⟩⟩
theorem main_1_1 : Claimed_1_1 := comes_1 fun _ _ _ _ _ _ h hF => ⟨h.1, hF⟩
theorem main_1_2 : Claimed_1_2 := comes_1 fun _ _ _ _ _ _ h hF => ⟨h.2.1, hF⟩
end Jvm.Pilot.@@N@@
namespace Jvm.Pilot.@@N@@
open Jvm Jvm.ClassFile Sem Op Lib Jvm.Free Jvm.Stand Jvm.Pilot.@@N@@.Jvm.D
/-! MADE BY PROGRAM (witnessworld.py) out of the Statement's table words and the real class files: 9 classes; the members and pool entries that the words name. The judged class is class 1, her method 1. -/
namespace start1
open Jvm.ClassFile
def u (s : String) : CpInfo := .utf8 (stringToUtf16 s)
/-- a pool by its gaps: so many unusable entries, then the entry; so many at the end -/
def gap : Nat → List CpInfo → List CpInfo
  | 0, r => r
  | n + 1, r => .unusable :: gap n r
def poolList (es : List (Nat × CpInfo)) (last : Nat) : List CpInfo := es.foldr (fun e r => gap e.1 (e.2 :: r)) (gap last [])
def pool (es : List (Nat × CpInfo)) (last : Nat) : Array CpInfo := ⟨poolList es last⟩
def fileOf (pool : Array CpInfo) (this : Nat) (attrs : Array Attribute := #[]) (ms : Array MethodInfo := #[]) (fl : Nat := 33) (sup : Nat := 0) (ifs : Array Nat := #[]) (fds : Array FieldInfo := #[]) : ClassFile where
  minorVersion := 0
  majorVersion := 65
  constantPool := pool
  accessFlags := fl
  thisClass := this
  superClass := sup
  interfaces := ifs
  fields := fds
  methods := ms
  attributes := attrs
def plain (name : String) (sup : Option ClassId) : Class where
  name := name
  kind := .ordinary
  loader := none
  accessFlags := 33
  super := sup
  interfaces := #[]
  cf := none
  fields := #[]
  methods := #[]
  instanceTypes := #[]
  staticTypes := #[]
  resolved := #[]
  callSites := []
  init := .initialized
  statics := none
  mirror := none

def pool0 : Array CpInfo := pool [(5, u "<init>"), (0, u "()V"), (1, .class_ 10), (1, u "java/lang/Object")] 113

def k0m0 : Method := { name := "<init>", desc := "()V", sig := { parameters := [], returnType := none }, accessFlags := 1, code := none }
/-- java/lang/Object -/
def k0 : Class := { plain "java/lang/Object" none with
  accessFlags := 33
  interfaces := #[]
  cf := some (fileOf pool0 8 #[] #[{ accessFlags := 1, nameIndex := 5, descriptorIndex := 6, attributes := #[] }] 33 0 #[] #[])
  fields := #[]
  methods := #[k0m0]
  instanceTypes := #[]
  staticTypes := #[]
  resolved := Array.replicate 124 none
  statics := none }

def pool1 : Array CpInfo := pool [(2, .class_ 4), (1, u "java/lang/Object"), (0, u "<init>"), (0, u "()V"), (0, .methodref 8 9), (0, .class_ 10), (0, .nameAndType 11 12), (0, u "com/example/corsia/corsia/document/DocumentEffects"), (0, u "reads"), (0, u "(B)Z"), (0, .class_ 14), (0, u "com/example/corsia/corsia/document/DocumentEffectsReadsPinLaw"), (2, u "law"), (0, u "(I)Z")] 3

def k1m0 : Method := { name := "<init>", desc := "()V", sig := { parameters := [], returnType := none }, accessFlags := 2, code := none }
def k1c1 : Code := { maxStack := 2, maxLocals := 3, code := code, exceptionTable := #[], attributes := #[] }
def k1m1 : Method := { name := "law", desc := "(I)Z", sig := { parameters := [.int], returnType := some .boolean }, accessFlags := 9, code := some k1c1 }
/-- com/example/corsia/corsia/document/DocumentEffectsReadsPinLaw -/
def k1 : Class := { plain "com/example/corsia/corsia/document/DocumentEffectsReadsPinLaw" (some 0) with
  accessFlags := 49
  interfaces := #[]
  cf := some (fileOf pool1 13 #[] #[{ accessFlags := 2, nameIndex := 5, descriptorIndex := 6, attributes := #[] }, { accessFlags := 9, nameIndex := 17, descriptorIndex := 18, attributes := #[] }] 49 2 #[] #[])
  fields := #[]
  methods := #[k1m0, k1m1]
  instanceTypes := #[]
  staticTypes := #[]
  resolved := Array.replicate 22 none
  statics := none }

def pool2 : Array CpInfo := pool [(2, .class_ 4), (1, u "java/lang/Object"), (0, u "<init>"), (0, u "()V"), (6, .class_ 14), (0, u "com/example/corsia/corsia/document/DocumentEffects"), (175, u "DOCUMENT"), (0, u "B"), (2, u "ADDENDUM"), (1, u "PRIVACY"), (1, u "REPOSITORY"), (6, u "reads"), (0, u "(B)Z")] 46

def k2m0 : Method := { name := "<init>", desc := "()V", sig := { parameters := [], returnType := none }, accessFlags := 2, code := none }
def k2c1 : Code := { maxStack := 2, maxLocals := 1, code := prog_12_method_3_code, exceptionTable := #[], attributes := #[] }
def k2m1 : Method := { name := "reads", desc := "(B)Z", sig := { parameters := [.byte], returnType := some .boolean }, accessFlags := 8, code := some k2c1 }
/-- com/example/corsia/corsia/document/DocumentEffects -/
def k2 : Class := { plain "com/example/corsia/corsia/document/DocumentEffects" (some 0) with
  accessFlags := 48
  interfaces := #[]
  cf := some (fileOf pool2 13 #[] #[{ accessFlags := 2, nameIndex := 5, descriptorIndex := 6, attributes := #[] }, { accessFlags := 8, nameIndex := 205, descriptorIndex := 206, attributes := #[] }] 48 2 #[] #[{ accessFlags := 26, nameIndex := 190, descriptorIndex := 191, attributes := #[] }, { accessFlags := 26, nameIndex := 194, descriptorIndex := 191, attributes := #[] }, { accessFlags := 26, nameIndex := 196, descriptorIndex := 191, attributes := #[] }, { accessFlags := 26, nameIndex := 198, descriptorIndex := 191, attributes := #[] }])
  fields := #[{ name := "DOCUMENT", type := .byte, accessFlags := 26, slot := 0, constantValue := 0 }, { name := "ADDENDUM", type := .byte, accessFlags := 26, slot := 1, constantValue := 0 }, { name := "PRIVACY", type := .byte, accessFlags := 26, slot := 2, constantValue := 0 }, { name := "REPOSITORY", type := .byte, accessFlags := 26, slot := 3, constantValue := 0 }]
  methods := #[k2m0, k2m1]
  instanceTypes := #[]
  staticTypes := #[.byte, .byte, .byte, .byte]
  resolved := Array.replicate 253 none
  statics := none }

def pool3 : Array CpInfo := pool [(1, u "java/lang/Cloneable"), (0, .class_ 1), (0, u "java/lang/Object"), (0, .class_ 3)] 3

/-- java/lang/Cloneable -/
def k3 : Class := { plain "java/lang/Cloneable" (some 0) with
  accessFlags := 1537
  interfaces := #[]
  cf := some (fileOf pool3 2 #[] #[] 1537 4 #[] #[])
  fields := #[]
  methods := #[]
  instanceTypes := #[]
  staticTypes := #[]
  resolved := Array.replicate 8 none
  statics := none }

def pool4 : Array CpInfo := pool [(1, u "java/io/Serializable"), (0, .class_ 1), (0, u "java/lang/Object"), (0, .class_ 3)] 3

/-- java/io/Serializable -/
def k4 : Class := { plain "java/io/Serializable" (some 0) with
  accessFlags := 1537
  interfaces := #[]
  cf := some (fileOf pool4 2 #[] #[] 1537 4 #[] #[])
  fields := #[]
  methods := #[]
  instanceTypes := #[]
  staticTypes := #[]
  resolved := Array.replicate 8 none
  statics := none }

/-- the primitive byte -/
def k5 : Class := { plain "byte" none with kind := .primitive 'B', accessFlags := 0x411 }
/-- [B -/
def k6 : Class := { plain "[B" (some 0) with kind := .array 5 .byte, interfaces := #[3, 4], accessFlags := 1041 }

/-- the primitive int -/
def k7 : Class := { plain "int" none with kind := .primitive 'I', accessFlags := 0x411 }
/-- [I -/
def k8 : Class := { plain "[I" (some 0) with kind := .array 7 .int, interfaces := #[3, 4], accessFlags := 1041 }

def heap : Heap := #[]
def classes : Array Class := #[k0, k1, k2, k3, k4, k5, k6, k7, k8]
def interned : List (Array UInt16 × Addr) := []
def slotsUsed : Nat := 0
def theMethod : MethodId := ⟨1, 1⟩
def args0 : Array Value := #[.int 5]
def aboutOver (below : List Frame) : State where
  vm := { classes := classes, interned := interned.toArray }
  heap := heap
  slotsUsed := slotsUsed
  threads := #[{ frames := .invoking theMethod args0 :: below }]
def below0 : List Frame := [.native { method := ⟨0, 0⟩, args := #[] }]
def about1 : State := aboutOver below0
def p0 : Program := .bare "" "" ""
def e0 : Env := launch0.env 0 0 0
theorem w_frames : about1.frames = Frame.invoking theMethod args0 :: below0 := rfl
set_option maxRecDepth 65536 in
theorem w_args : argsFit about1.vm theMethod args0 = true := by decide +kernel
set_option maxRecDepth 65536 in
theorem w_heap : heapFits about1 = true := by decide +kernel
set_option maxRecDepth 65536 in
theorem w_runnable : about1.curStatus? = some .runnable := by decide +kernel
set_option maxRecDepth 65536 in
theorem w_alone : about1.alone = true := by decide +kernel
set_option maxRecDepth 65536 in
theorem w_named : about1.methodNamed? x = some theMethod := by decide +kernel
set_option maxRecDepth 65536 in
theorem w_hears : about1.hears theMethod below0 = true := by decide +kernel
set_option maxRecDepth 65536 in
theorem w_ripe : about1.ripe theMethod args0 below0 = true := by decide +kernel
theorem w_running : about1.status = .running := rfl
set_option maxRecDepth 65536 in
theorem w_room : about1.hasRoom e0.platform room_1 = true :=
  launch0.hasRoom_least _ room_1 (by decide +kernel) (by decide +kernel) (by decide +kernel) (by decide +kernel) (by decide +kernel) (by decide +kernel)
theorem allAtoms_all (ts : List Jvm.Cond) (a : Array Jvm.Value) (st : Jvm.State) : (allAtoms ts).before a st = ts.all (fun c => c.before a st) := by
  induction ts with
  | nil => rfl
  | cons c t ih =>
    show (Jvm.Cond.and c (allAtoms t)).before a st = _
    rw [Jvm.Cond.before_and, ih, List.all_cons]
def words1 : List Jvm.Cond := Jvm.Cond.code x code maxLocals ret :: tables_1
/-- a 'code' word, met by the world's own term for the bytes: nothing is compared byte by byte -/
theorem code_word {y : MethodName} {bytes : ByteArray} {mx : Nat} {rt : Option FieldType} {a : Array Value} {s : State} {m : MethodId} {meth : Method} {c : Code} (h1 : s.methodNamed? y = some m) (h2 : s.vm.method? m = some meth) (h3 : meth.code = some c) (h4 : c.code = bytes)
    (h5 : (c.maxLocals == mx && c.exceptionTable.isEmpty && decide (c.maxStack ≤ mostOperands) && decide (meth.sig.returnType = rt) && !meth.locks && decide (parseMethodDescriptor y.desc = some meth.sig)) = true) : (Jvm.Cond.code y bytes mx rt).before a s = true := by
  simp only [Bool.and_eq_true, beq_iff_eq, Bool.not_eq_true', decide_eq_true_eq] at h5
  obtain ⟨⟨⟨⟨⟨g1, g2⟩, g3⟩, g4⟩, g5⟩, g6⟩ := h5
  simp [Cond.before, Cond.holds, Cond.value, h1, h2, h3, h4, g1, g2, g3, g4, g5, g6]
def isCode : Jvm.Cond → Bool
  | .code _ _ _ _ => true
  | _ => false
theorem all_split {L : List Jvm.Cond} {P : Jvm.Cond → Bool} (h1 : L.all (fun c => isCode c || P c) = true) (h2 : ∀ c ∈ L.filter isCode, P c = true) : L.all P = true := by
  refine List.all_eq_true.mpr fun c hc => ?_
  have h := List.all_eq_true.mp h1 c hc
  rcases Bool.eq_false_or_eq_true (isCode c) with hi | hi
  · exact h2 c (List.mem_filter.mpr ⟨hc, hi⟩)
  · simpa [hi] using h
set_option maxRecDepth 65536 in
theorem w_c0 : (Jvm.Cond.code x code maxLocals ret).before args0 about1 = true := code_word (m := ⟨1, 1⟩) (meth := k1m1) (c := k1c1) (by decide +kernel) rfl rfl rfl (by decide +kernel)
set_option maxRecDepth 65536 in
theorem w_c1 : (Jvm.Cond.code ({ cls := "com/example/corsia/corsia/document/DocumentEffects", name := "reads", desc := "(B)Z" } : Jvm.MethodName) prog_12_method_3_code (1 : Nat) (Option.some Jvm.ClassFile.FieldType.boolean)).before args0 about1 = true := code_word (m := ⟨2, 1⟩) (meth := k2m1) (c := k2c1) (by decide +kernel) rfl rfl rfl (by decide +kernel)
def codes1 : List Jvm.Cond := [Jvm.Cond.code x code maxLocals ret, Jvm.Cond.code ({ cls := "com/example/corsia/corsia/document/DocumentEffects", name := "reads", desc := "(B)Z" } : Jvm.MethodName) prog_12_method_3_code (1 : Nat) (Option.some Jvm.ClassFile.FieldType.boolean)]
set_option maxRecDepth 65536 in
theorem codes_eq : words1.filter isCode = codes1 := rfl
theorem w_codes : ∀ c ∈ words1.filter isCode, c.before args0 about1 = true := by
  rw [codes_eq]
  intro c hc
  simp only [codes1, List.mem_cons, List.not_mem_nil, or_false] at hc
  rcases hc with rfl | rfl
  · exact w_c0
  · exact w_c1
set_option maxRecDepth 65536 in
theorem w_t1 : words1.all (fun c => isCode c || c.before args0 about1) = true := by decide +kernel
theorem w_tables : (allAtoms (Jvm.Cond.code x code maxLocals ret :: tables_1)).before args0 about1 = true := by
  rw [allAtoms_all]
  show words1.all (fun c => c.before args0 about1) = true
  refine all_split ?_ w_codes
  rw [w_t1]
set_option maxRecDepth 65536 in
theorem w_case : (Jvm.Cond.and given_1 narrow_1).before args0 about1 = true := by decide +kernel
theorem w_applies : (headSpec (Jvm.Cond.code x code maxLocals ret :: tables_1) room_1).applies x e0.platform about1 = true :=
  (Spec.applies_iff w_frames).mpr ⟨w_running, w_runnable, w_alone, w_named, w_hears, w_ripe, w_room, w_tables⟩
theorem atStart : AtStart classFile x code maxLocals ret World_1 tables_1 room_1 Calls_1 rest_1 Pre_1 launch0 p0 e0 about1 theMethod args0 below0 :=
  ⟨lists_1, trivial, launch0.admits_env _ _ _, launch0.least_env, fairChoices_fair.cas, fairChoices_fair.clock, w_frames, w_args, w_heap, w_applies, trivial, trivial, w_case⟩
end start1
theorem witness_1 : WitnessClaimed_1 := ⟨start1.p0, start1.e0, start1.about1, start1.theMethod, start1.args0, start1.below0, start1.atStart⟩
end Jvm.Pilot.@@N@@
