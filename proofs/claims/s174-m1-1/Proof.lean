import JvmDerived
import JvmDerived.Pilot.@@N@@Statement
import JvmDerived.Pilot.@@N@@Code
set_option linter.unusedVariables false
set_option linter.unusedSimpArgs false
namespace Jvm.RoadKit
open Sem ClassFile Op Lib Jvm.Stand Jvm.Free Jvm.LawKit
section Own
variable {p : Program} {l : Launch} {e : Env} {R : Room} {s : State} {m : MethodId} {args : Array Value} {below : List Frame} {meth : Method} {c : Code} {T T1 : State} {locs : List Loc} {cells slots cs ss : Nat} {Q : Option Value → Heap → List Loc → Prop} {g g1 : JFrame}
/-- from the frame g over T the body comes to its end, and what it leaves is as Q says -/
def own_Goes (p : Program) (e : Env) (below : List Frame) (s : State) (Q : Option Value → Heap → List Loc → Prop) (cs ss : Nat) (T : State) (g : JFrame) : Prop :=
  ∃ s₂ o, Steps p.tables e below (T.setTop g) s₂ ∧ s₂.status = .running ∧ Ended s₂ below o ∧ ∃ v L, o = .returned v ∧ Q v s₂.heap L ∧ FrameEnd s o s₂ L cs ss
theorem own_go (st : ∀ target, Steps p.tables e below (T1.setTop g1) target → Steps p.tables e below (T.setTop g) target) (k : own_Goes p e below s Q cs ss T1 g1) : own_Goes p e below s Q cs ss T g := by
  obtain ⟨s₂, o, h, r⟩ := k
  exact ⟨s₂, o, st _ h, r⟩
theorem own_goS (st : Steps p.tables e below (T.setTop g) (T1.setTop g1)) (k : own_Goes p e below s Q cs ss T1 g1) : own_Goes p e below s Q cs ss T g := own_go (fun _ h => st.trans h) k
/-- the ends -/
theorem own_retN (X : Stand p l e R s m args below meth c T locs cells slots) (hx : p.tables.exec = Jvm.exec) {pc : Nat} {Ls : Array Slot} {z : Int32} {t : FieldType} {rest : List Value} (hlk : meth.locks = false) (hret : meth.sig.returnType = some t) (ht : t = .boolean ∨ t = .byte ∨ t = .char ∨ t = .short)
    (hd : decode c.code pc = .ok (.ireturn, 1)) (hc : cells ≤ cs) (hs : slots ≤ ss) (hQ : Q (some (.int (nar t z))) T.heap locs) : own_Goes p e below s Q cs ss T (mkF m pc Ls (.int z :: rest)) := by
  obtain ⟨fs, hr, hrun, hended, hW, hsame⟩ := X.leave (v := some (.int (nar t z))) (fun h => by rw [hret] at h; cases h) hlk
  exact ⟨_, _, retN X hx hret ht hd hr, hrun, hended, _, _, rfl, hQ, ⟨_, rfl⟩, hW, hsame.mono hc hs⟩
theorem own_ret (X : Stand p l e R s m args below meth c T locs cells slots) (hx : p.tables.exec = Jvm.exec) {pc : Nat} {Ls : Array Slot} {w : Value} {t : FieldType} {i : Instr} {rest : List Value} (hlk : meth.locks = false) (hret : meth.sig.returnType = some t) (hn : narrow t w = w)
    (hi : (i = .ireturn ∧ (t = .int ∨ t = .boolean ∨ t = .byte ∨ t = .char ∨ t = .short) ∧ ∃ z, w = .int z) ∨ (i = .lreturn ∧ t = .long ∧ ∃ z, w = .long z) ∨ (i = .dreturn ∧ t = .double ∧ ∃ z, w = .double z) ∨ (i = .freturn ∧ t = .float ∧ ∃ z, w = .float z) ∨ (i = .areturn ∧ t.isReference = true ∧ w.isRef = true))
    (hd : decode c.code pc = .ok (i, 1)) (hc : cells ≤ cs) (hs : slots ≤ ss) (hQ : Q (some w) T.heap locs) : own_Goes p e below s Q cs ss T (mkF m pc Ls (w :: rest)) := by
  obtain ⟨fs, hr, hrun, hended, hW, hsame⟩ := X.leave (v := some w) (fun h => by rw [hret] at h; cases h) hlk
  exact ⟨_, _, retOut X hx hret hn hi hd hr, hrun, hended, _, _, rfl, hQ, ⟨_, rfl⟩, hW, hsame.mono hc hs⟩
theorem own_retI (X : Stand p l e R s m args below meth c T locs cells slots) (hx : p.tables.exec = Jvm.exec) {pc : Nat} {Ls : Array Slot} {z : Int32} {rest : List Value} (hlk : meth.locks = false) (hret : meth.sig.returnType = some .int)
    (hd : decode c.code pc = .ok (.ireturn, 1)) (hc : cells ≤ cs) (hs : slots ≤ ss) (hQ : Q (some (.int z)) T.heap locs) : own_Goes p e below s Q cs ss T (mkF m pc Ls (.int z :: rest)) :=
  own_ret X hx hlk hret rfl (Or.inl ⟨rfl, Or.inl rfl, _, rfl⟩) hd hc hs hQ
theorem own_retA (X : Stand p l e R s m args below meth c T locs cells slots) (hx : p.tables.exec = Jvm.exec) {pc : Nat} {Ls : Array Slot} {w : Value} {t : FieldType} {rest : List Value} (hlk : meth.locks = false) (hret : meth.sig.returnType = some t) (ht : t.isReference = true) (hw : w.isRef = true)
    (hd : decode c.code pc = .ok (.areturn, 1)) (hc : cells ≤ cs) (hs : slots ≤ ss) (hQ : Q (some w) T.heap locs) : own_Goes p e below s Q cs ss T (mkF m pc Ls (w :: rest)) :=
  own_ret X hx hlk hret (by rcases ref_cases hw with rfl | ⟨a, rfl⟩ <;> cases t <;> simp [FieldType.isReference] at ht <;> rfl) (Or.inr (Or.inr (Or.inr (Or.inr ⟨rfl, ht, hw⟩)))) hd hc hs hQ
theorem own_retV (X : Stand p l e R s m args below meth c T locs cells slots) (hx : p.tables.exec = Jvm.exec) {pc : Nat} {Ls : Array Slot} (hlk : meth.locks = false) (hret : meth.sig.returnType = none)
    (hd : decode c.code pc = .ok (.return_, 1)) (hc : cells ≤ cs) (hs : slots ≤ ss) (hQ : Q none T.heap locs) : own_Goes p e below s Q cs ss T (mkF m pc Ls []) := by
  obtain ⟨fs, hr, hrun, hended, hW, hsame⟩ := X.leave (v := none) (fun _ => rfl) hlk
  exact ⟨_, _, X.returnOut hx hret hd hr, hrun, hended, _, _, rfl, hQ, ⟨_, rfl⟩, hW, hsame.mono hc hs⟩
/-- what holds throughout a body's walk -/
def own_Ctx (Z : State) (y : MethodName) (own : String) (bytes : ByteArray) (maxL : Nat) (ret : Option FieldType) (p : Program) (s : State) (m : MethodId) (meth : Method) (c : Code) : Prop :=
  p.tables.exec = Jvm.exec ∧ c.code = bytes ∧ c.maxLocals = maxL ∧ s.vm.findClass own = some m.cls ∧ meth.name = y.name ∧ meth.sig.returnType = ret ∧ meth.locks = false ∧ Z.Warmed39 s.vm
theorem own_met {Z : State} {y : MethodName} {own : String} {bytes : ByteArray} {maxL : Nat} {ret : Option FieldType} {ws : List Cond} {rm : Room} {as' : Array Value} {h0 : Heap} (hy : y.cls = own) (hpn : plainName own = true)
    (body : ∀ (p : Program) (e : Env) (s : State) (m : MethodId) (below : List Frame) (meth : Method) (c : Code) (s₁ : State), own_Ctx Z y own bytes maxL ret p s m meth c → s₁.heap = h0 → Stand p l e rm s m as' below meth c s₁ [] 0 0 → own_Goes p e below s Q cs ss s₁ (entryFrame m as' maxL)) :
    MetFree l y (head1 (Cond.code y bytes maxL ret :: ws) rm) (fun a U => a = as' ∧ Z.Warmed39 U.vm ∧ U.heap = h0) (fun _ _ _ _ _ => True) (fun _ U o U' => ∃ v L, o = .returned v ∧ Q v U'.heap L ∧ FrameEnd U o U' L cs ss) := by
  subst hy
  refine MetFree.of_bodySF (plainFor_of_name hpn) hisR ?_
  intro p e s m args below meth c s₁ Bd hml0 hP hK
  obtain ⟨rfl, hZ, hh⟩ := hP
  exact body p e s m below meth c s₁ ⟨Bd.exec, Bd.bytes, hml0, findClass_of_methodNamed Bd.named, (name_of_methodNamed Bd.named Bd.method).1, Bd.returns, Bd.notSynchronized, hZ⟩ (by rw [← hh, Bd.state]; rfl) (Stand.of_body Bd)
end Own
end Jvm.RoadKit
namespace Jvm.Pilot.@@N@@
open Jvm Jvm.ClassFile Sem Op Lib Jvm.Free Jvm.Stand Jvm.LawKit Jvm.RoadKit Bundle Jvm.Pilot.@@N@@.Jvm.D
/-- what 'isInRange' answers -/
def own_g (v : Int64) : Int32 := if v < (-9007199254740991 : Int64) then 0 else if (9007199254740991 : Int64) < v then 0 else 1
theorem own_hi (x : Int64) : (x >>> ((53 : Int32) &&& 0x3f).toInt64).toInt = x.toInt / 9007199254740992 := c_lshr x 53 53 (by decide)
theorem own_g1 {x : Int64} (h1 : -9007199254740991 ≤ x.toInt) (h2 : x.toInt ≤ 9007199254740991) : own_g x = 1 := by
  unfold own_g
  rw [if_neg (by rw [Int64.lt_iff_toInt_lt]; show ¬ x.toInt < -9007199254740991; omega), if_neg (by rw [Int64.lt_iff_toInt_lt]; show ¬ 9007199254740991 < x.toInt; omega)]
theorem own_g0 {x : Int64} (h : x.toInt < -9007199254740991 ∨ 9007199254740991 < x.toInt) : own_g x = 0 := by
  unfold own_g
  rcases h with h | h
  · rw [if_pos (by rw [Int64.lt_iff_toInt_lt]; exact h)]
  · rw [if_neg (by rw [Int64.lt_iff_toInt_lt]; show ¬ x.toInt < -9007199254740991; omega), if_pos (by rw [Int64.lt_iff_toInt_lt]; exact h)]
theorem own_a {x : Int64} (h : (x >>> ((53 : Int32) &&& 0x3f).toInt64) = (0 : Int64)) : own_g x = 1 := by
  have q := own_hi x; rw [h] at q; have q' : (0 : Int) = x.toInt / 9007199254740992 := q
  exact own_g1 (by omega) (by omega)
theorem own_b {x : Int64} (h : ¬ (x >>> ((53 : Int32) &&& 0x3f).toInt64) = (0 : Int64)) (h' : ¬ (x >>> ((53 : Int32) &&& 0x3f).toInt64) = (-1 : Int64)) : own_g x = 0 := by
  have q := own_hi x
  have a1 : ¬ (x >>> ((53 : Int32) &&& 0x3f).toInt64).toInt = 0 := fun e => h (Int64.toInt_inj.mp e)
  have a2 : ¬ (x >>> ((53 : Int32) &&& 0x3f).toInt64).toInt = -1 := fun e => h' (Int64.toInt_inj.mp e)
  rw [q] at a1 a2
  exact own_g0 (by omega)
theorem own_c {x : Int64} (h : x = (-9007199254740992 : Int64)) : own_g x = 0 := by subst h; decide
theorem own_d {x : Int64} (h' : (x >>> ((53 : Int32) &&& 0x3f).toInt64) = (-1 : Int64)) (h : ¬ x = (-9007199254740992 : Int64)) : own_g x = 1 := by
  have q := own_hi x; rw [h'] at q; have q' : (-1 : Int) = x.toInt / 9007199254740992 := q
  have a1 : ¬ x.toInt = -9007199254740992 := fun e => h (Int64.toInt_inj.mp e)
  exact own_g1 (by omega) (by omega)
theorem d1_0 : decode prog_17_method_8_code 0 = .ok (.lload_n 0, 1) := by decide +kernel
theorem d1_1 : decode prog_17_method_8_code 1 = .ok (.ldc2_w 121, 3) := by decide +kernel
theorem d1_4 : decode prog_17_method_8_code 4 = .ok (.lcmp, 1) := by decide +kernel
theorem d1_5 : decode prog_17_method_8_code 5 = .ok (.ifCond .lt 15, 3) := by decide +kernel
theorem d1_8 : decode prog_17_method_8_code 8 = .ok (.lload_n 0, 1) := by decide +kernel
theorem d1_9 : decode prog_17_method_8_code 9 = .ok (.ldc2_w 123, 3) := by decide +kernel
theorem d1_12 : decode prog_17_method_8_code 12 = .ok (.lcmp, 1) := by decide +kernel
theorem d1_13 : decode prog_17_method_8_code 13 = .ok (.ifCond .gt 7, 3) := by decide +kernel
theorem d1_16 : decode prog_17_method_8_code 16 = .ok (.iconst 1, 1) := by decide +kernel
theorem d1_17 : decode prog_17_method_8_code 17 = .ok (.goto 4, 3) := by decide +kernel
theorem d1_20 : decode prog_17_method_8_code 20 = .ok (.iconst 0, 1) := by decide +kernel
theorem d1_21 : decode prog_17_method_8_code 21 = .ok (.ireturn, 1) := by decide +kernel
theorem pn_0 : plainName "dev/resolvent/model/JsonNumberIsInRangePinLaw" = true := by first | (simp [plainName, overriddenIn]; done) | decide +kernel
theorem pn_1 : plainName "dev/resolvent/model/JsonNumber" = true := by first | (simp [plainName, overriddenIn]; done) | decide +kernel
theorem pd_0 : parseMethodDescriptor "(J)Z" = some ⟨[.long], some .boolean⟩ := by decide +kernel
theorem ef_1 (m : MethodId) (q1 : Int64) : entryFrame m #[(.long q1)] 2 = mkF m 0 #[.val (.long q1), .second] [] := by first | (simp [entryFrame, mkF, argsToLocals, Value.category]; done) | rfl
theorem ef_0 (m : MethodId) (q1 : Int64) (p2 : Int32) : entryFrame m #[(.long q1), (.int p2)] maxLocals = mkF m 0 #[.val (.long q1), .second, .val (.int p2), .unset, .unset, .unset, .unset, .unset, .unset, .unset, .unset, .unset] [] := by first | (simp [entryFrame, mkF, argsToLocals, Value.category, maxLocals]; done) | rfl
def Q_rm1 (Z : State) (h0 : Heap) (n0 : Nat) (q1 : Int64) (v : Option Value) (h : Heap) (L : List Loc) : Prop := v = some (.int (own_g q1)) ∧ Fr n0 L ∧ h = h0
set_option maxRecDepth 65536 in
set_option maxHeartbeats 40000000 in
theorem rm1 (l : Launch) (Z : State) (a0 : Array Value) (hw : ∀ d ∈ tables_1, d.before a0 Z = true) (ws : List Jvm.Cond) (q1 : Int64) (h0 : Heap) (n0 : Nat) (Z0 : n0 ≤ h0.size) :
    MetFree l (⟨"dev/resolvent/model/JsonNumber", "isInRange", "(J)Z"⟩ : MethodName) (head1 (Jvm.Cond.code (⟨"dev/resolvent/model/JsonNumber", "isInRange", "(J)Z"⟩ : MethodName) prog_17_method_8_code 2 (some .boolean) :: ws) ({ frames := 0, cells := 0, slots := 0, locals := 0 } : Room)) (fun a U => a = #[(.long q1)] ∧ Z.Warmed39 U.vm ∧ U.heap = h0) (fun _ _ _ _ _ => True) (fun _ U o U' => ∃ v L, o = .returned v ∧ Q_rm1 Z h0 n0 q1 v U'.heap L ∧ FrameEnd U o U' L ({ frames := 0, cells := 0, slots := 0, locals := 0 } : Room).cells ({ frames := 0, cells := 0, slots := 0, locals := 0 } : Room).slots) := by
  refine own_met (y := (⟨"dev/resolvent/model/JsonNumber", "isInRange", "(J)Z"⟩ : MethodName)) (Q := Q_rm1 Z h0 n0 q1) (own := "dev/resolvent/model/JsonNumber") rfl pn_1 ?_
  intro p e s m below meth c s₁ C e0 X0
  obtain ⟨hx, hby, hml, hown, hnm, hret, hlk, hZ⟩ := C
  have N0 := Fr.nil n0
  rw [ef_1]
  show own_Goes _ _ _ _ _ _ _ s₁ (mkF m 0 #[.val (.long q1), .second] [])
  refine own_go (fun _ k => XS.lloadN X0.here hx rfl (hb hby d1_0) rfl k) ?_
  show own_Goes _ _ _ _ _ _ _ s₁ (mkF m 1 #[.val (.long q1), .second] [(.long q1)])
  refine own_go (fun t k => X0.ldc2Long hx hown (mvT hZ (hw _ (List.mem_of_getElem? (i := 6) rfl))) (g := (mkF m 1 #[.val (.long q1), .second] [(.long q1)])) rfl (hb hby d1_1) t k) ?_
  show own_Goes _ _ _ _ _ _ _ s₁ (mkF m 4 #[.val (.long q1), .second] [(.long (-9007199254740991 : Int64)), (.long q1)])
  refine own_go (fun _ k => XS.lcmp X0.here hx rfl (hb hby d1_4) rfl k) ?_
  show own_Goes _ _ _ _ _ _ _ s₁ (mkF m 5 #[.val (.long q1), .second] [(.int (lcmpW q1 (-9007199254740991 : Int64)))])
  by_cases hc5 : q1 < (-9007199254740991 : Int64)
  · refine own_go (fun _ k => XS.ifYes X0.here hx rfl (pc0 := 5) (pc' := 20) rfl (hb hby d1_5) rfl ((if0 _ _).trans (tlt ((lw_lt _ _).mpr hc5)).1) (by decide) (by decide) k) ?_
    show own_Goes _ _ _ _ _ _ _ s₁ (mkF m 20 #[.val (.long q1), .second] [])
    refine own_go (fun _ k => XS.iconst X0.here hx rfl (hb hby d1_20) k) ?_
    show own_Goes _ _ _ _ _ _ _ s₁ (mkF m 21 #[.val (.long q1), .second] [(.int (0 : Int32))])
    exact own_retN X0 hx (t := .boolean) hlk hret (by simp) (hb hby d1_21) (by decide) (by decide) ⟨by simp [own_g, nar, *], N0, e0⟩
  · refine own_go (fun _ k => XS.ifNo X0.here hx rfl (hb hby d1_5) rfl ((if0 _ _).trans (flt (fun q => hc5 ((lw_lt _ _).mp q))).1) k) ?_
    show own_Goes _ _ _ _ _ _ _ s₁ (mkF m 8 #[.val (.long q1), .second] [])
    refine own_go (fun _ k => XS.lloadN X0.here hx rfl (hb hby d1_8) rfl k) ?_
    show own_Goes _ _ _ _ _ _ _ s₁ (mkF m 9 #[.val (.long q1), .second] [(.long q1)])
    refine own_go (fun t k => X0.ldc2Long hx hown (mvT hZ (hw _ (List.mem_of_getElem? (i := 9) rfl))) (g := (mkF m 9 #[.val (.long q1), .second] [(.long q1)])) rfl (hb hby d1_9) t k) ?_
    show own_Goes _ _ _ _ _ _ _ s₁ (mkF m 12 #[.val (.long q1), .second] [(.long (9007199254740991 : Int64)), (.long q1)])
    refine own_go (fun _ k => XS.lcmp X0.here hx rfl (hb hby d1_12) rfl k) ?_
    show own_Goes _ _ _ _ _ _ _ s₁ (mkF m 13 #[.val (.long q1), .second] [(.int (lcmpW q1 (9007199254740991 : Int64)))])
    by_cases hc13 : (9007199254740991 : Int64) < q1
    · refine own_go (fun _ k => XS.ifYes X0.here hx rfl (pc0 := 13) (pc' := 20) rfl (hb hby d1_13) rfl ((if0 _ _).trans (tlt ((lw_gt _ _).mpr hc13)).2.2.1) (by decide) (by decide) k) ?_
      show own_Goes _ _ _ _ _ _ _ s₁ (mkF m 20 #[.val (.long q1), .second] [])
      refine own_go (fun _ k => XS.iconst X0.here hx rfl (hb hby d1_20) k) ?_
      show own_Goes _ _ _ _ _ _ _ s₁ (mkF m 21 #[.val (.long q1), .second] [(.int (0 : Int32))])
      exact own_retN X0 hx (t := .boolean) hlk hret (by simp) (hb hby d1_21) (by decide) (by decide) ⟨by simp [own_g, nar, *], N0, e0⟩
    · refine own_go (fun _ k => XS.ifNo X0.here hx rfl (hb hby d1_13) rfl ((if0 _ _).trans (flt (fun q => hc13 ((lw_gt _ _).mp q))).2.2.1) k) ?_
      show own_Goes _ _ _ _ _ _ _ s₁ (mkF m 16 #[.val (.long q1), .second] [])
      refine own_go (fun _ k => XS.iconst X0.here hx rfl (hb hby d1_16) k) ?_
      show own_Goes _ _ _ _ _ _ _ s₁ (mkF m 17 #[.val (.long q1), .second] [(.int (1 : Int32))])
      refine own_go (fun _ k => XS.goto X0.here hx rfl (pc0 := 17) (pc' := 21) rfl (hb hby d1_17) (by decide) (by decide) k) ?_
      show own_Goes _ _ _ _ _ _ _ s₁ (mkF m 21 #[.val (.long q1), .second] [(.int (1 : Int32))])
      exact own_retN X0 hx (t := .boolean) hlk hret (by simp) (hb hby d1_21) (by decide) (by decide) ⟨by simp [own_g, nar, *], N0, e0⟩
set_option maxRecDepth 65536 in
set_option maxHeartbeats 40000000 in
theorem seg74 {p : Program} {l : Launch} {e : Env} {s : State} {m : MethodId} {args : Array Value} {below : List Frame} {meth : Method} {c : Code} {s₁ : State} {locs : List Loc} {Z : State} {a0 : Array Value} {h0 : Heap} (q1 q3 q7 : Int64) (p2 p5 p6 : Int32)
    (hw : ∀ d ∈ tables_1, d.before a0 Z = true) (C : own_Ctx Z x "dev/resolvent/model/JsonNumberIsInRangePinLaw" code maxLocals ret p s m meth c) (X0 : Stand p l e room_1 s m args below meth c s₁ locs 0 0) (e0 : s₁.heap = h0) (n0 : Nat) (Z0 : n0 ≤ h0.size) (N0 : Fr n0 locs) :
    own_Goes p e below s (fun v h L => v = some (.int 1) ∧ Fr n0 L) room_1.cells room_1.slots s₁ (mkF m 74 #[.val (.long q1), .second, .val (.int p2), .val (.long q3), .second, .val (.int p5), .val (.int p6), .val (.long q7), .second, .unset, .unset, .unset] []) := by
  obtain ⟨hx, hby, hml, hown, hnm, hret, hlk, hZ⟩ := C
  refine own_go (fun _ k => XS.lload X0.here hx rfl (hb hby at_74) rfl k) ?_
  show own_Goes _ _ _ _ _ _ _ s₁ (mkF m 76 #[.val (.long q1), .second, .val (.int p2), .val (.long q3), .second, .val (.int p5), .val (.int p6), .val (.long q7), .second, .unset, .unset, .unset] [(.long q7)])
  refine own_go (fun _ k => XS.bipush X0.here hx rfl (hb hby at_76) k) ?_
  show own_Goes _ _ _ _ _ _ _ s₁ (mkF m 78 #[.val (.long q1), .second, .val (.int p2), .val (.long q3), .second, .val (.int p5), .val (.int p6), .val (.long q7), .second, .unset, .unset, .unset] [(.int (53 : Int32)), (.long q7)])
  refine own_go (fun _ k => XS.lshr X0.here hx rfl (hb hby at_78) rfl k) ?_
  show own_Goes _ _ _ _ _ _ _ s₁ (mkF m 79 #[.val (.long q1), .second, .val (.int p2), .val (.long q3), .second, .val (.int p5), .val (.int p6), .val (.long q7), .second, .unset, .unset, .unset] [(.long (q7 >>> ((53 : Int32) &&& 0x3f).toInt64))])
  refine own_go (fun _ k => XS.lstore X0.here hx rfl (hb hby at_79) rfl (l' := #[.val (.long q1), .second, .val (.int p2), .val (.long q3), .second, .val (.int p5), .val (.int p6), .val (.long q7), .second, .val (.long (q7 >>> ((53 : Int32) &&& 0x3f).toInt64)), .second, .unset]) rfl k) ?_
  show own_Goes _ _ _ _ _ _ _ s₁ (mkF m 81 #[.val (.long q1), .second, .val (.int p2), .val (.long q3), .second, .val (.int p5), .val (.int p6), .val (.long q7), .second, .val (.long (q7 >>> ((53 : Int32) &&& 0x3f).toInt64)), .second, .unset] [])
  refine own_go (fun _ k => XS.lload X0.here hx rfl (hb hby at_81) rfl k) ?_
  show own_Goes _ _ _ _ _ _ _ s₁ (mkF m 83 #[.val (.long q1), .second, .val (.int p2), .val (.long q3), .second, .val (.int p5), .val (.int p6), .val (.long q7), .second, .val (.long (q7 >>> ((53 : Int32) &&& 0x3f).toInt64)), .second, .unset] [(.long (q7 >>> ((53 : Int32) &&& 0x3f).toInt64))])
  refine own_go (fun _ k => XS.lconst X0.here hx rfl (hb hby at_83) k) ?_
  show own_Goes _ _ _ _ _ _ _ s₁ (mkF m 84 #[.val (.long q1), .second, .val (.int p2), .val (.long q3), .second, .val (.int p5), .val (.int p6), .val (.long q7), .second, .val (.long (q7 >>> ((53 : Int32) &&& 0x3f).toInt64)), .second, .unset] [(.long (0 : Int64)), (.long (q7 >>> ((53 : Int32) &&& 0x3f).toInt64))])
  refine own_go (fun _ k => XS.lcmp X0.here hx rfl (hb hby at_84) rfl k) ?_
  show own_Goes _ _ _ _ _ _ _ s₁ (mkF m 85 #[.val (.long q1), .second, .val (.int p2), .val (.long q3), .second, .val (.int p5), .val (.int p6), .val (.long q7), .second, .val (.long (q7 >>> ((53 : Int32) &&& 0x3f).toInt64)), .second, .unset] [(.int (lcmpW (q7 >>> ((53 : Int32) &&& 0x3f).toInt64) (0 : Int64)))])
  by_cases hc85 : (q7 >>> ((53 : Int32) &&& 0x3f).toInt64) = (0 : Int64)
  · refine own_go (fun _ k => XS.ifYes X0.here hx rfl (pc0 := 85) (pc' := 106) rfl (hb hby at_85) rfl ((if0 _ _).trans (teq ((lw_eq _ _).mpr hc85)).1) (by decide) (by decide) k) ?_
    show own_Goes _ _ _ _ _ _ _ s₁ (mkF m 106 #[.val (.long q1), .second, .val (.int p2), .val (.long q3), .second, .val (.int p5), .val (.int p6), .val (.long q7), .second, .val (.long (q7 >>> ((53 : Int32) &&& 0x3f).toInt64)), .second, .unset] [])
    refine own_go (fun _ k => XS.iconst X0.here hx rfl (hb hby at_106) k) ?_
    show own_Goes _ _ _ _ _ _ _ s₁ (mkF m 107 #[.val (.long q1), .second, .val (.int p2), .val (.long q3), .second, .val (.int p5), .val (.int p6), .val (.long q7), .second, .val (.long (q7 >>> ((53 : Int32) &&& 0x3f).toInt64)), .second, .unset] [(.int (1 : Int32))])
    refine own_go (fun _ k => XS.goto X0.here hx rfl (pc0 := 107) (pc' := 111) rfl (hb hby at_107) (by decide) (by decide) k) ?_
    show own_Goes _ _ _ _ _ _ _ s₁ (mkF m 111 #[.val (.long q1), .second, .val (.int p2), .val (.long q3), .second, .val (.int p5), .val (.int p6), .val (.long q7), .second, .val (.long (q7 >>> ((53 : Int32) &&& 0x3f).toInt64)), .second, .unset] [(.int (1 : Int32))])
    refine own_go (fun _ k => XS.istore X0.here hx rfl (hb hby at_111) rfl (l' := #[.val (.long q1), .second, .val (.int p2), .val (.long q3), .second, .val (.int p5), .val (.int p6), .val (.long q7), .second, .val (.long (q7 >>> ((53 : Int32) &&& 0x3f).toInt64)), .second, .val (.int (1 : Int32))]) rfl k) ?_
    show own_Goes _ _ _ _ _ _ _ s₁ (mkF m 113 #[.val (.long q1), .second, .val (.int p2), .val (.long q3), .second, .val (.int p5), .val (.int p6), .val (.long q7), .second, .val (.long (q7 >>> ((53 : Int32) &&& 0x3f).toInt64)), .second, .val (.int (1 : Int32))] [])
    refine own_go (fun _ k => XS.lload X0.here hx rfl (hb hby at_113) rfl k) ?_
    show own_Goes _ _ _ _ _ _ _ s₁ (mkF m 115 #[.val (.long q1), .second, .val (.int p2), .val (.long q3), .second, .val (.int p5), .val (.int p6), .val (.long q7), .second, .val (.long (q7 >>> ((53 : Int32) &&& 0x3f).toInt64)), .second, .val (.int (1 : Int32))] [(.long q7)])
    obtain ⟨_, _, ⟨T1, L1, k1, n1⟩, -, X1, ⟨Lc1, hQ1, l1, y1, z1⟩, st1⟩ := Jvm.LawKit.callS X0 hx (y := (⟨"dev/resolvent/model/JsonNumber", "isInRange", "(J)Z"⟩ : MethodName)) hown (mvT hZ (hw _ (List.mem_of_getElem? (i := 2) rfl))) (mvT hZ (hw _ (List.mem_of_getElem? (i := 3) rfl))) (mvT hZ (hw _ (List.mem_of_getElem? (i := 4) rfl))) (mvT hZ (hw _ (List.mem_of_getElem? (i := 5) rfl))) (by decide) (backOf (W := 0) (rm1 l Z a0 hw [] q7 h0 n0 Z0) hZ (hw _ (List.mem_of_getElem? (i := 5) rfl)) (hw _ (List.mem_of_getElem? (i := 4) rfl)) (by decide) (by decide)) (g := (mkF m 115 #[.val (.long q1), .second, .val (.int p2), .val (.long q3), .second, .val (.int p5), .val (.int p6), .val (.long q7), .second, .val (.long (q7 >>> ((53 : Int32) &&& 0x3f).toInt64)), .second, .val (.int (1 : Int32))] [(.long q7)])) rfl (by rw [hml]; rfl) (argsL := [(.long q7)]) (rest := []) (lenOf pd_0 rfl) rfl (by show 2 * 0 + _ ≤ _; exact Nat.le_of_eq rfl) (hb hby at_115) (fun _ _ => ⟨rfl, e0, (by decide : 0 + 0 ≤ _), (by decide : 0 + 0 ≤ _)⟩)
    dsimp only [Pt.U, Pt.locs, Pt.cells, Pt.slots] at X1 l1 y1 z1 st1 hQ1
    subst l1 y1 z1
    obtain ⟨rfl, N1q, e1⟩ := hQ1
    have N1 := Fr.app N0 N1q
    refine own_go st1 ?_
    show own_Goes _ _ _ _ _ _ _ T1 (mkF m 118 #[.val (.long q1), .second, .val (.int p2), .val (.long q3), .second, .val (.int p5), .val (.int p6), .val (.long q7), .second, .val (.long (q7 >>> ((53 : Int32) &&& 0x3f).toInt64)), .second, .val (.int (1 : Int32))] [(.int (own_g q7))])
    refine own_go (fun _ k => XS.iload X1.here hx rfl (hb hby at_118) rfl k) ?_
    show own_Goes _ _ _ _ _ _ _ T1 (mkF m 120 #[.val (.long q1), .second, .val (.int p2), .val (.long q3), .second, .val (.int p5), .val (.int p6), .val (.long q7), .second, .val (.long (q7 >>> ((53 : Int32) &&& 0x3f).toInt64)), .second, .val (.int (1 : Int32))] [(.int (1 : Int32)), (.int (own_g q7))])
    refine own_go (fun _ k => XS.icmpNo X1.here hx rfl (hb hby at_120) rfl (teq (own_a hc85)).2 k) ?_
    show own_Goes _ _ _ _ _ _ _ T1 (mkF m 123 #[.val (.long q1), .second, .val (.int p2), .val (.long q3), .second, .val (.int p5), .val (.int p6), .val (.long q7), .second, .val (.long (q7 >>> ((53 : Int32) &&& 0x3f).toInt64)), .second, .val (.int (1 : Int32))] [])
    refine own_go (fun _ k => XS.iconst X1.here hx rfl (hb hby at_123) k) ?_
    show own_Goes _ _ _ _ _ _ _ T1 (mkF m 124 #[.val (.long q1), .second, .val (.int p2), .val (.long q3), .second, .val (.int p5), .val (.int p6), .val (.long q7), .second, .val (.long (q7 >>> ((53 : Int32) &&& 0x3f).toInt64)), .second, .val (.int (1 : Int32))] [(.int (1 : Int32))])
    refine own_go (fun _ k => XS.goto X1.here hx rfl (pc0 := 124) (pc' := 128) rfl (hb hby at_124) (by decide) (by decide) k) ?_
    show own_Goes _ _ _ _ _ _ _ T1 (mkF m 128 #[.val (.long q1), .second, .val (.int p2), .val (.long q3), .second, .val (.int p5), .val (.int p6), .val (.long q7), .second, .val (.long (q7 >>> ((53 : Int32) &&& 0x3f).toInt64)), .second, .val (.int (1 : Int32))] [(.int (1 : Int32))])
    exact own_retN X1 hx (t := .boolean) hlk hret (by simp) (hb hby at_128) (by decide) (by decide) ⟨rfl, N1⟩
  · refine own_go (fun _ k => XS.ifNo X0.here hx rfl (hb hby at_85) rfl ((if0 _ _).trans (feq (fun q => hc85 ((lw_eq _ _).mp q))).1) k) ?_
    show own_Goes _ _ _ _ _ _ _ s₁ (mkF m 88 #[.val (.long q1), .second, .val (.int p2), .val (.long q3), .second, .val (.int p5), .val (.int p6), .val (.long q7), .second, .val (.long (q7 >>> ((53 : Int32) &&& 0x3f).toInt64)), .second, .unset] [])
    refine own_go (fun _ k => XS.lload X0.here hx rfl (hb hby at_88) rfl k) ?_
    show own_Goes _ _ _ _ _ _ _ s₁ (mkF m 90 #[.val (.long q1), .second, .val (.int p2), .val (.long q3), .second, .val (.int p5), .val (.int p6), .val (.long q7), .second, .val (.long (q7 >>> ((53 : Int32) &&& 0x3f).toInt64)), .second, .unset] [(.long (q7 >>> ((53 : Int32) &&& 0x3f).toInt64))])
    refine own_go (fun t k => X0.ldc2Long hx hown (mvT hZ (hw _ (List.mem_of_getElem? (i := 1) rfl))) (g := (mkF m 90 #[.val (.long q1), .second, .val (.int p2), .val (.long q3), .second, .val (.int p5), .val (.int p6), .val (.long q7), .second, .val (.long (q7 >>> ((53 : Int32) &&& 0x3f).toInt64)), .second, .unset] [(.long (q7 >>> ((53 : Int32) &&& 0x3f).toInt64))])) rfl (hb hby at_90) t k) ?_
    show own_Goes _ _ _ _ _ _ _ s₁ (mkF m 93 #[.val (.long q1), .second, .val (.int p2), .val (.long q3), .second, .val (.int p5), .val (.int p6), .val (.long q7), .second, .val (.long (q7 >>> ((53 : Int32) &&& 0x3f).toInt64)), .second, .unset] [(.long (-1 : Int64)), (.long (q7 >>> ((53 : Int32) &&& 0x3f).toInt64))])
    refine own_go (fun _ k => XS.lcmp X0.here hx rfl (hb hby at_93) rfl k) ?_
    show own_Goes _ _ _ _ _ _ _ s₁ (mkF m 94 #[.val (.long q1), .second, .val (.int p2), .val (.long q3), .second, .val (.int p5), .val (.int p6), .val (.long q7), .second, .val (.long (q7 >>> ((53 : Int32) &&& 0x3f).toInt64)), .second, .unset] [(.int (lcmpW (q7 >>> ((53 : Int32) &&& 0x3f).toInt64) (-1 : Int64)))])
    by_cases hc94 : (q7 >>> ((53 : Int32) &&& 0x3f).toInt64) = (-1 : Int64)
    · refine own_go (fun _ k => XS.ifNo X0.here hx rfl (hb hby at_94) rfl ((if0 _ _).trans (teq ((lw_eq _ _).mpr hc94)).2) k) ?_
      show own_Goes _ _ _ _ _ _ _ s₁ (mkF m 97 #[.val (.long q1), .second, .val (.int p2), .val (.long q3), .second, .val (.int p5), .val (.int p6), .val (.long q7), .second, .val (.long (q7 >>> ((53 : Int32) &&& 0x3f).toInt64)), .second, .unset] [])
      refine own_go (fun _ k => XS.lload X0.here hx rfl (hb hby at_97) rfl k) ?_
      show own_Goes _ _ _ _ _ _ _ s₁ (mkF m 99 #[.val (.long q1), .second, .val (.int p2), .val (.long q3), .second, .val (.int p5), .val (.int p6), .val (.long q7), .second, .val (.long (q7 >>> ((53 : Int32) &&& 0x3f).toInt64)), .second, .unset] [(.long q7)])
      refine own_go (fun t k => X0.ldc2Long hx hown (mvT hZ (hw _ (List.mem_of_getElem? (i := 8) rfl))) (g := (mkF m 99 #[.val (.long q1), .second, .val (.int p2), .val (.long q3), .second, .val (.int p5), .val (.int p6), .val (.long q7), .second, .val (.long (q7 >>> ((53 : Int32) &&& 0x3f).toInt64)), .second, .unset] [(.long q7)])) rfl (hb hby at_99) t k) ?_
      show own_Goes _ _ _ _ _ _ _ s₁ (mkF m 102 #[.val (.long q1), .second, .val (.int p2), .val (.long q3), .second, .val (.int p5), .val (.int p6), .val (.long q7), .second, .val (.long (q7 >>> ((53 : Int32) &&& 0x3f).toInt64)), .second, .unset] [(.long (-9007199254740992 : Int64)), (.long q7)])
      refine own_go (fun _ k => XS.lcmp X0.here hx rfl (hb hby at_102) rfl k) ?_
      show own_Goes _ _ _ _ _ _ _ s₁ (mkF m 103 #[.val (.long q1), .second, .val (.int p2), .val (.long q3), .second, .val (.int p5), .val (.int p6), .val (.long q7), .second, .val (.long (q7 >>> ((53 : Int32) &&& 0x3f).toInt64)), .second, .unset] [(.int (lcmpW q7 (-9007199254740992 : Int64)))])
      by_cases hc103 : q7 = (-9007199254740992 : Int64)
      · refine own_go (fun _ k => XS.ifYes X0.here hx rfl (pc0 := 103) (pc' := 110) rfl (hb hby at_103) rfl ((if0 _ _).trans (teq ((lw_eq _ _).mpr hc103)).1) (by decide) (by decide) k) ?_
        show own_Goes _ _ _ _ _ _ _ s₁ (mkF m 110 #[.val (.long q1), .second, .val (.int p2), .val (.long q3), .second, .val (.int p5), .val (.int p6), .val (.long q7), .second, .val (.long (q7 >>> ((53 : Int32) &&& 0x3f).toInt64)), .second, .unset] [])
        refine own_go (fun _ k => XS.iconst X0.here hx rfl (hb hby at_110) k) ?_
        show own_Goes _ _ _ _ _ _ _ s₁ (mkF m 111 #[.val (.long q1), .second, .val (.int p2), .val (.long q3), .second, .val (.int p5), .val (.int p6), .val (.long q7), .second, .val (.long (q7 >>> ((53 : Int32) &&& 0x3f).toInt64)), .second, .unset] [(.int (0 : Int32))])
        refine own_go (fun _ k => XS.istore X0.here hx rfl (hb hby at_111) rfl (l' := #[.val (.long q1), .second, .val (.int p2), .val (.long q3), .second, .val (.int p5), .val (.int p6), .val (.long q7), .second, .val (.long (q7 >>> ((53 : Int32) &&& 0x3f).toInt64)), .second, .val (.int (0 : Int32))]) rfl k) ?_
        show own_Goes _ _ _ _ _ _ _ s₁ (mkF m 113 #[.val (.long q1), .second, .val (.int p2), .val (.long q3), .second, .val (.int p5), .val (.int p6), .val (.long q7), .second, .val (.long (q7 >>> ((53 : Int32) &&& 0x3f).toInt64)), .second, .val (.int (0 : Int32))] [])
        refine own_go (fun _ k => XS.lload X0.here hx rfl (hb hby at_113) rfl k) ?_
        show own_Goes _ _ _ _ _ _ _ s₁ (mkF m 115 #[.val (.long q1), .second, .val (.int p2), .val (.long q3), .second, .val (.int p5), .val (.int p6), .val (.long q7), .second, .val (.long (q7 >>> ((53 : Int32) &&& 0x3f).toInt64)), .second, .val (.int (0 : Int32))] [(.long q7)])
        obtain ⟨_, _, ⟨T2, L2, k2, n2⟩, -, X2, ⟨Lc2, hQ2, l2, y2, z2⟩, st2⟩ := Jvm.LawKit.callS X0 hx (y := (⟨"dev/resolvent/model/JsonNumber", "isInRange", "(J)Z"⟩ : MethodName)) hown (mvT hZ (hw _ (List.mem_of_getElem? (i := 2) rfl))) (mvT hZ (hw _ (List.mem_of_getElem? (i := 3) rfl))) (mvT hZ (hw _ (List.mem_of_getElem? (i := 4) rfl))) (mvT hZ (hw _ (List.mem_of_getElem? (i := 5) rfl))) (by decide) (backOf (W := 0) (rm1 l Z a0 hw [] q7 h0 n0 Z0) hZ (hw _ (List.mem_of_getElem? (i := 5) rfl)) (hw _ (List.mem_of_getElem? (i := 4) rfl)) (by decide) (by decide)) (g := (mkF m 115 #[.val (.long q1), .second, .val (.int p2), .val (.long q3), .second, .val (.int p5), .val (.int p6), .val (.long q7), .second, .val (.long (q7 >>> ((53 : Int32) &&& 0x3f).toInt64)), .second, .val (.int (0 : Int32))] [(.long q7)])) rfl (by rw [hml]; rfl) (argsL := [(.long q7)]) (rest := []) (lenOf pd_0 rfl) rfl (by show 2 * 0 + _ ≤ _; exact Nat.le_of_eq rfl) (hb hby at_115) (fun _ _ => ⟨rfl, e0, (by decide : 0 + 0 ≤ _), (by decide : 0 + 0 ≤ _)⟩)
        dsimp only [Pt.U, Pt.locs, Pt.cells, Pt.slots] at X2 l2 y2 z2 st2 hQ2
        subst l2 y2 z2
        obtain ⟨rfl, N2q, e2⟩ := hQ2
        have N2 := Fr.app N0 N2q
        refine own_go st2 ?_
        show own_Goes _ _ _ _ _ _ _ T2 (mkF m 118 #[.val (.long q1), .second, .val (.int p2), .val (.long q3), .second, .val (.int p5), .val (.int p6), .val (.long q7), .second, .val (.long (q7 >>> ((53 : Int32) &&& 0x3f).toInt64)), .second, .val (.int (0 : Int32))] [(.int (own_g q7))])
        refine own_go (fun _ k => XS.iload X2.here hx rfl (hb hby at_118) rfl k) ?_
        show own_Goes _ _ _ _ _ _ _ T2 (mkF m 120 #[.val (.long q1), .second, .val (.int p2), .val (.long q3), .second, .val (.int p5), .val (.int p6), .val (.long q7), .second, .val (.long (q7 >>> ((53 : Int32) &&& 0x3f).toInt64)), .second, .val (.int (0 : Int32))] [(.int (0 : Int32)), (.int (own_g q7))])
        refine own_go (fun _ k => XS.icmpNo X2.here hx rfl (hb hby at_120) rfl (teq (own_c hc103)).2 k) ?_
        show own_Goes _ _ _ _ _ _ _ T2 (mkF m 123 #[.val (.long q1), .second, .val (.int p2), .val (.long q3), .second, .val (.int p5), .val (.int p6), .val (.long q7), .second, .val (.long (q7 >>> ((53 : Int32) &&& 0x3f).toInt64)), .second, .val (.int (0 : Int32))] [])
        refine own_go (fun _ k => XS.iconst X2.here hx rfl (hb hby at_123) k) ?_
        show own_Goes _ _ _ _ _ _ _ T2 (mkF m 124 #[.val (.long q1), .second, .val (.int p2), .val (.long q3), .second, .val (.int p5), .val (.int p6), .val (.long q7), .second, .val (.long (q7 >>> ((53 : Int32) &&& 0x3f).toInt64)), .second, .val (.int (0 : Int32))] [(.int (1 : Int32))])
        refine own_go (fun _ k => XS.goto X2.here hx rfl (pc0 := 124) (pc' := 128) rfl (hb hby at_124) (by decide) (by decide) k) ?_
        show own_Goes _ _ _ _ _ _ _ T2 (mkF m 128 #[.val (.long q1), .second, .val (.int p2), .val (.long q3), .second, .val (.int p5), .val (.int p6), .val (.long q7), .second, .val (.long (q7 >>> ((53 : Int32) &&& 0x3f).toInt64)), .second, .val (.int (0 : Int32))] [(.int (1 : Int32))])
        exact own_retN X2 hx (t := .boolean) hlk hret (by simp) (hb hby at_128) (by decide) (by decide) ⟨rfl, N2⟩
      · refine own_go (fun _ k => XS.ifNo X0.here hx rfl (hb hby at_103) rfl ((if0 _ _).trans (feq (fun q => hc103 ((lw_eq _ _).mp q))).1) k) ?_
        show own_Goes _ _ _ _ _ _ _ s₁ (mkF m 106 #[.val (.long q1), .second, .val (.int p2), .val (.long q3), .second, .val (.int p5), .val (.int p6), .val (.long q7), .second, .val (.long (q7 >>> ((53 : Int32) &&& 0x3f).toInt64)), .second, .unset] [])
        refine own_go (fun _ k => XS.iconst X0.here hx rfl (hb hby at_106) k) ?_
        show own_Goes _ _ _ _ _ _ _ s₁ (mkF m 107 #[.val (.long q1), .second, .val (.int p2), .val (.long q3), .second, .val (.int p5), .val (.int p6), .val (.long q7), .second, .val (.long (q7 >>> ((53 : Int32) &&& 0x3f).toInt64)), .second, .unset] [(.int (1 : Int32))])
        refine own_go (fun _ k => XS.goto X0.here hx rfl (pc0 := 107) (pc' := 111) rfl (hb hby at_107) (by decide) (by decide) k) ?_
        show own_Goes _ _ _ _ _ _ _ s₁ (mkF m 111 #[.val (.long q1), .second, .val (.int p2), .val (.long q3), .second, .val (.int p5), .val (.int p6), .val (.long q7), .second, .val (.long (q7 >>> ((53 : Int32) &&& 0x3f).toInt64)), .second, .unset] [(.int (1 : Int32))])
        refine own_go (fun _ k => XS.istore X0.here hx rfl (hb hby at_111) rfl (l' := #[.val (.long q1), .second, .val (.int p2), .val (.long q3), .second, .val (.int p5), .val (.int p6), .val (.long q7), .second, .val (.long (q7 >>> ((53 : Int32) &&& 0x3f).toInt64)), .second, .val (.int (1 : Int32))]) rfl k) ?_
        show own_Goes _ _ _ _ _ _ _ s₁ (mkF m 113 #[.val (.long q1), .second, .val (.int p2), .val (.long q3), .second, .val (.int p5), .val (.int p6), .val (.long q7), .second, .val (.long (q7 >>> ((53 : Int32) &&& 0x3f).toInt64)), .second, .val (.int (1 : Int32))] [])
        refine own_go (fun _ k => XS.lload X0.here hx rfl (hb hby at_113) rfl k) ?_
        show own_Goes _ _ _ _ _ _ _ s₁ (mkF m 115 #[.val (.long q1), .second, .val (.int p2), .val (.long q3), .second, .val (.int p5), .val (.int p6), .val (.long q7), .second, .val (.long (q7 >>> ((53 : Int32) &&& 0x3f).toInt64)), .second, .val (.int (1 : Int32))] [(.long q7)])
        obtain ⟨_, _, ⟨T3, L3, k3, n3⟩, -, X3, ⟨Lc3, hQ3, l3, y3, z3⟩, st3⟩ := Jvm.LawKit.callS X0 hx (y := (⟨"dev/resolvent/model/JsonNumber", "isInRange", "(J)Z"⟩ : MethodName)) hown (mvT hZ (hw _ (List.mem_of_getElem? (i := 2) rfl))) (mvT hZ (hw _ (List.mem_of_getElem? (i := 3) rfl))) (mvT hZ (hw _ (List.mem_of_getElem? (i := 4) rfl))) (mvT hZ (hw _ (List.mem_of_getElem? (i := 5) rfl))) (by decide) (backOf (W := 0) (rm1 l Z a0 hw [] q7 h0 n0 Z0) hZ (hw _ (List.mem_of_getElem? (i := 5) rfl)) (hw _ (List.mem_of_getElem? (i := 4) rfl)) (by decide) (by decide)) (g := (mkF m 115 #[.val (.long q1), .second, .val (.int p2), .val (.long q3), .second, .val (.int p5), .val (.int p6), .val (.long q7), .second, .val (.long (q7 >>> ((53 : Int32) &&& 0x3f).toInt64)), .second, .val (.int (1 : Int32))] [(.long q7)])) rfl (by rw [hml]; rfl) (argsL := [(.long q7)]) (rest := []) (lenOf pd_0 rfl) rfl (by show 2 * 0 + _ ≤ _; exact Nat.le_of_eq rfl) (hb hby at_115) (fun _ _ => ⟨rfl, e0, (by decide : 0 + 0 ≤ _), (by decide : 0 + 0 ≤ _)⟩)
        dsimp only [Pt.U, Pt.locs, Pt.cells, Pt.slots] at X3 l3 y3 z3 st3 hQ3
        subst l3 y3 z3
        obtain ⟨rfl, N3q, e3⟩ := hQ3
        have N3 := Fr.app N0 N3q
        refine own_go st3 ?_
        show own_Goes _ _ _ _ _ _ _ T3 (mkF m 118 #[.val (.long q1), .second, .val (.int p2), .val (.long q3), .second, .val (.int p5), .val (.int p6), .val (.long q7), .second, .val (.long (q7 >>> ((53 : Int32) &&& 0x3f).toInt64)), .second, .val (.int (1 : Int32))] [(.int (own_g q7))])
        refine own_go (fun _ k => XS.iload X3.here hx rfl (hb hby at_118) rfl k) ?_
        show own_Goes _ _ _ _ _ _ _ T3 (mkF m 120 #[.val (.long q1), .second, .val (.int p2), .val (.long q3), .second, .val (.int p5), .val (.int p6), .val (.long q7), .second, .val (.long (q7 >>> ((53 : Int32) &&& 0x3f).toInt64)), .second, .val (.int (1 : Int32))] [(.int (1 : Int32)), (.int (own_g q7))])
        refine own_go (fun _ k => XS.icmpNo X3.here hx rfl (hb hby at_120) rfl (teq (own_d hc94 hc103)).2 k) ?_
        show own_Goes _ _ _ _ _ _ _ T3 (mkF m 123 #[.val (.long q1), .second, .val (.int p2), .val (.long q3), .second, .val (.int p5), .val (.int p6), .val (.long q7), .second, .val (.long (q7 >>> ((53 : Int32) &&& 0x3f).toInt64)), .second, .val (.int (1 : Int32))] [])
        refine own_go (fun _ k => XS.iconst X3.here hx rfl (hb hby at_123) k) ?_
        show own_Goes _ _ _ _ _ _ _ T3 (mkF m 124 #[.val (.long q1), .second, .val (.int p2), .val (.long q3), .second, .val (.int p5), .val (.int p6), .val (.long q7), .second, .val (.long (q7 >>> ((53 : Int32) &&& 0x3f).toInt64)), .second, .val (.int (1 : Int32))] [(.int (1 : Int32))])
        refine own_go (fun _ k => XS.goto X3.here hx rfl (pc0 := 124) (pc' := 128) rfl (hb hby at_124) (by decide) (by decide) k) ?_
        show own_Goes _ _ _ _ _ _ _ T3 (mkF m 128 #[.val (.long q1), .second, .val (.int p2), .val (.long q3), .second, .val (.int p5), .val (.int p6), .val (.long q7), .second, .val (.long (q7 >>> ((53 : Int32) &&& 0x3f).toInt64)), .second, .val (.int (1 : Int32))] [(.int (1 : Int32))])
        exact own_retN X3 hx (t := .boolean) hlk hret (by simp) (hb hby at_128) (by decide) (by decide) ⟨rfl, N3⟩
    · refine own_go (fun _ k => XS.ifYes X0.here hx rfl (pc0 := 94) (pc' := 110) rfl (hb hby at_94) rfl ((if0 _ _).trans (feq (fun q => hc94 ((lw_eq _ _).mp q))).2) (by decide) (by decide) k) ?_
      show own_Goes _ _ _ _ _ _ _ s₁ (mkF m 110 #[.val (.long q1), .second, .val (.int p2), .val (.long q3), .second, .val (.int p5), .val (.int p6), .val (.long q7), .second, .val (.long (q7 >>> ((53 : Int32) &&& 0x3f).toInt64)), .second, .unset] [])
      refine own_go (fun _ k => XS.iconst X0.here hx rfl (hb hby at_110) k) ?_
      show own_Goes _ _ _ _ _ _ _ s₁ (mkF m 111 #[.val (.long q1), .second, .val (.int p2), .val (.long q3), .second, .val (.int p5), .val (.int p6), .val (.long q7), .second, .val (.long (q7 >>> ((53 : Int32) &&& 0x3f).toInt64)), .second, .unset] [(.int (0 : Int32))])
      refine own_go (fun _ k => XS.istore X0.here hx rfl (hb hby at_111) rfl (l' := #[.val (.long q1), .second, .val (.int p2), .val (.long q3), .second, .val (.int p5), .val (.int p6), .val (.long q7), .second, .val (.long (q7 >>> ((53 : Int32) &&& 0x3f).toInt64)), .second, .val (.int (0 : Int32))]) rfl k) ?_
      show own_Goes _ _ _ _ _ _ _ s₁ (mkF m 113 #[.val (.long q1), .second, .val (.int p2), .val (.long q3), .second, .val (.int p5), .val (.int p6), .val (.long q7), .second, .val (.long (q7 >>> ((53 : Int32) &&& 0x3f).toInt64)), .second, .val (.int (0 : Int32))] [])
      refine own_go (fun _ k => XS.lload X0.here hx rfl (hb hby at_113) rfl k) ?_
      show own_Goes _ _ _ _ _ _ _ s₁ (mkF m 115 #[.val (.long q1), .second, .val (.int p2), .val (.long q3), .second, .val (.int p5), .val (.int p6), .val (.long q7), .second, .val (.long (q7 >>> ((53 : Int32) &&& 0x3f).toInt64)), .second, .val (.int (0 : Int32))] [(.long q7)])
      obtain ⟨_, _, ⟨T4, L4, k4, n4⟩, -, X4, ⟨Lc4, hQ4, l4, y4, z4⟩, st4⟩ := Jvm.LawKit.callS X0 hx (y := (⟨"dev/resolvent/model/JsonNumber", "isInRange", "(J)Z"⟩ : MethodName)) hown (mvT hZ (hw _ (List.mem_of_getElem? (i := 2) rfl))) (mvT hZ (hw _ (List.mem_of_getElem? (i := 3) rfl))) (mvT hZ (hw _ (List.mem_of_getElem? (i := 4) rfl))) (mvT hZ (hw _ (List.mem_of_getElem? (i := 5) rfl))) (by decide) (backOf (W := 0) (rm1 l Z a0 hw [] q7 h0 n0 Z0) hZ (hw _ (List.mem_of_getElem? (i := 5) rfl)) (hw _ (List.mem_of_getElem? (i := 4) rfl)) (by decide) (by decide)) (g := (mkF m 115 #[.val (.long q1), .second, .val (.int p2), .val (.long q3), .second, .val (.int p5), .val (.int p6), .val (.long q7), .second, .val (.long (q7 >>> ((53 : Int32) &&& 0x3f).toInt64)), .second, .val (.int (0 : Int32))] [(.long q7)])) rfl (by rw [hml]; rfl) (argsL := [(.long q7)]) (rest := []) (lenOf pd_0 rfl) rfl (by show 2 * 0 + _ ≤ _; exact Nat.le_of_eq rfl) (hb hby at_115) (fun _ _ => ⟨rfl, e0, (by decide : 0 + 0 ≤ _), (by decide : 0 + 0 ≤ _)⟩)
      dsimp only [Pt.U, Pt.locs, Pt.cells, Pt.slots] at X4 l4 y4 z4 st4 hQ4
      subst l4 y4 z4
      obtain ⟨rfl, N4q, e4⟩ := hQ4
      have N4 := Fr.app N0 N4q
      refine own_go st4 ?_
      show own_Goes _ _ _ _ _ _ _ T4 (mkF m 118 #[.val (.long q1), .second, .val (.int p2), .val (.long q3), .second, .val (.int p5), .val (.int p6), .val (.long q7), .second, .val (.long (q7 >>> ((53 : Int32) &&& 0x3f).toInt64)), .second, .val (.int (0 : Int32))] [(.int (own_g q7))])
      refine own_go (fun _ k => XS.iload X4.here hx rfl (hb hby at_118) rfl k) ?_
      show own_Goes _ _ _ _ _ _ _ T4 (mkF m 120 #[.val (.long q1), .second, .val (.int p2), .val (.long q3), .second, .val (.int p5), .val (.int p6), .val (.long q7), .second, .val (.long (q7 >>> ((53 : Int32) &&& 0x3f).toInt64)), .second, .val (.int (0 : Int32))] [(.int (0 : Int32)), (.int (own_g q7))])
      refine own_go (fun _ k => XS.icmpNo X4.here hx rfl (hb hby at_120) rfl (teq (own_b hc85 hc94)).2 k) ?_
      show own_Goes _ _ _ _ _ _ _ T4 (mkF m 123 #[.val (.long q1), .second, .val (.int p2), .val (.long q3), .second, .val (.int p5), .val (.int p6), .val (.long q7), .second, .val (.long (q7 >>> ((53 : Int32) &&& 0x3f).toInt64)), .second, .val (.int (0 : Int32))] [])
      refine own_go (fun _ k => XS.iconst X4.here hx rfl (hb hby at_123) k) ?_
      show own_Goes _ _ _ _ _ _ _ T4 (mkF m 124 #[.val (.long q1), .second, .val (.int p2), .val (.long q3), .second, .val (.int p5), .val (.int p6), .val (.long q7), .second, .val (.long (q7 >>> ((53 : Int32) &&& 0x3f).toInt64)), .second, .val (.int (0 : Int32))] [(.int (1 : Int32))])
      refine own_go (fun _ k => XS.goto X4.here hx rfl (pc0 := 124) (pc' := 128) rfl (hb hby at_124) (by decide) (by decide) k) ?_
      show own_Goes _ _ _ _ _ _ _ T4 (mkF m 128 #[.val (.long q1), .second, .val (.int p2), .val (.long q3), .second, .val (.int p5), .val (.int p6), .val (.long q7), .second, .val (.long (q7 >>> ((53 : Int32) &&& 0x3f).toInt64)), .second, .val (.int (0 : Int32))] [(.int (1 : Int32))])
      exact own_retN X4 hx (t := .boolean) hlk hret (by simp) (hb hby at_128) (by decide) (by decide) ⟨rfl, N4⟩
def Q_rm0 (Z : State) (h0 : Heap) (n0 : Nat)  (v : Option Value) (h : Heap) (L : List Loc) : Prop := v = some (.int 1) ∧ Fr n0 L
set_option maxRecDepth 65536 in
set_option maxHeartbeats 40000000 in
theorem rm0 (l : Launch) (Z : State) (a0 : Array Value) (hw : ∀ d ∈ tables_1, d.before a0 Z = true) (ws : List Jvm.Cond) (q1 : Int64) (p2 : Int32) (h0 : Heap) (n0 : Nat) (Z0 : n0 ≤ h0.size) :
    MetFree l x (head1 (Jvm.Cond.code x code maxLocals ret :: ws) room_1) (fun a U => a = #[(.long q1), (.int p2)] ∧ Z.Warmed39 U.vm ∧ U.heap = h0) (fun _ _ _ _ _ => True) (fun _ U o U' => ∃ v L, o = .returned v ∧ Q_rm0 Z h0 n0  v U'.heap L ∧ FrameEnd U o U' L room_1.cells room_1.slots) := by
  refine own_met (y := x) (Q := Q_rm0 Z h0 n0 ) (own := "dev/resolvent/model/JsonNumberIsInRangePinLaw") rfl pn_0 ?_
  intro p e s m below meth c s₁ C e0 X0
  obtain ⟨hx, hby, hml, hown, hnm, hret, hlk, hZ⟩ := C
  have N0 := Fr.nil n0
  rw [ef_0]
  show own_Goes _ _ _ _ _ _ _ s₁ (mkF m 0 #[.val (.long q1), .second, .val (.int p2), .unset, .unset, .unset, .unset, .unset, .unset, .unset, .unset, .unset] [])
  refine own_go (fun t k => X0.ldc2Long hx hown (mvT hZ (hw _ (List.mem_of_getElem? (i := 0) rfl))) (g := (mkF m 0 #[.val (.long q1), .second, .val (.int p2), .unset, .unset, .unset, .unset, .unset, .unset, .unset, .unset, .unset] [])) rfl (hb hby at_0) t k) ?_
  show own_Goes _ _ _ _ _ _ _ s₁ (mkF m 3 #[.val (.long q1), .second, .val (.int p2), .unset, .unset, .unset, .unset, .unset, .unset, .unset, .unset, .unset] [(.long (9007199254740991 : Int64))])
  refine own_go (fun _ k => XS.lstoreN X0.here hx rfl (hb hby at_3) rfl (l' := #[.val (.long q1), .second, .val (.int p2), .val (.long (9007199254740991 : Int64)), .second, .unset, .unset, .unset, .unset, .unset, .unset, .unset]) rfl k) ?_
  show own_Goes _ _ _ _ _ _ _ s₁ (mkF m 4 #[.val (.long q1), .second, .val (.int p2), .val (.long (9007199254740991 : Int64)), .second, .unset, .unset, .unset, .unset, .unset, .unset, .unset] [])
  refine own_go (fun _ k => XS.iloadN X0.here hx rfl (hb hby at_4) rfl k) ?_
  show own_Goes _ _ _ _ _ _ _ s₁ (mkF m 5 #[.val (.long q1), .second, .val (.int p2), .val (.long (9007199254740991 : Int64)), .second, .unset, .unset, .unset, .unset, .unset, .unset, .unset] [(.int p2)])
  refine own_go (fun _ k => XS.iconst X0.here hx rfl (hb hby at_5) k) ?_
  show own_Goes _ _ _ _ _ _ _ s₁ (mkF m 6 #[.val (.long q1), .second, .val (.int p2), .val (.long (9007199254740991 : Int64)), .second, .unset, .unset, .unset, .unset, .unset, .unset, .unset] [(.int (3 : Int32)), (.int p2)])
  refine own_go (fun _ k => XS.iand X0.here hx rfl (hb hby at_6) rfl k) ?_
  show own_Goes _ _ _ _ _ _ _ s₁ (mkF m 7 #[.val (.long q1), .second, .val (.int p2), .val (.long (9007199254740991 : Int64)), .second, .unset, .unset, .unset, .unset, .unset, .unset, .unset] [(.int (p2 &&& (3 : Int32)))])
  refine own_go (fun _ k => XS.istore X0.here hx rfl (hb hby at_7) rfl (l' := #[.val (.long q1), .second, .val (.int p2), .val (.long (9007199254740991 : Int64)), .second, .val (.int (p2 &&& (3 : Int32))), .unset, .unset, .unset, .unset, .unset, .unset]) rfl k) ?_
  show own_Goes _ _ _ _ _ _ _ s₁ (mkF m 9 #[.val (.long q1), .second, .val (.int p2), .val (.long (9007199254740991 : Int64)), .second, .val (.int (p2 &&& (3 : Int32))), .unset, .unset, .unset, .unset, .unset, .unset] [])
  refine own_go (fun _ k => XS.iloadN X0.here hx rfl (hb hby at_9) rfl k) ?_
  show own_Goes _ _ _ _ _ _ _ s₁ (mkF m 10 #[.val (.long q1), .second, .val (.int p2), .val (.long (9007199254740991 : Int64)), .second, .val (.int (p2 &&& (3 : Int32))), .unset, .unset, .unset, .unset, .unset, .unset] [(.int p2)])
  refine own_go (fun _ k => XS.iconst X0.here hx rfl (hb hby at_10) k) ?_
  show own_Goes _ _ _ _ _ _ _ s₁ (mkF m 11 #[.val (.long q1), .second, .val (.int p2), .val (.long (9007199254740991 : Int64)), .second, .val (.int (p2 &&& (3 : Int32))), .unset, .unset, .unset, .unset, .unset, .unset] [(.int (2 : Int32)), (.int p2)])
  refine own_go (fun _ k => XS.iushr X0.here hx rfl (hb hby at_11) rfl k) ?_
  show own_Goes _ _ _ _ _ _ _ s₁ (mkF m 12 #[.val (.long q1), .second, .val (.int p2), .val (.long (9007199254740991 : Int64)), .second, .val (.int (p2 &&& (3 : Int32))), .unset, .unset, .unset, .unset, .unset, .unset] [(.int ((p2.toUInt32 >>> ((2 : Int32) &&& 31).toUInt32).toInt32))])
  refine own_go (fun _ k => XS.bipush X0.here hx rfl (hb hby at_12) k) ?_
  show own_Goes _ _ _ _ _ _ _ s₁ (mkF m 14 #[.val (.long q1), .second, .val (.int p2), .val (.long (9007199254740991 : Int64)), .second, .val (.int (p2 &&& (3 : Int32))), .unset, .unset, .unset, .unset, .unset, .unset] [(.int (7 : Int32)), (.int ((p2.toUInt32 >>> ((2 : Int32) &&& 31).toUInt32).toInt32))])
  refine own_go (fun _ k => XS.iand X0.here hx rfl (hb hby at_14) rfl k) ?_
  show own_Goes _ _ _ _ _ _ _ s₁ (mkF m 15 #[.val (.long q1), .second, .val (.int p2), .val (.long (9007199254740991 : Int64)), .second, .val (.int (p2 &&& (3 : Int32))), .unset, .unset, .unset, .unset, .unset, .unset] [(.int (((p2.toUInt32 >>> ((2 : Int32) &&& 31).toUInt32).toInt32) &&& (7 : Int32)))])
  refine own_go (fun _ k => XS.iconst X0.here hx rfl (hb hby at_15) k) ?_
  show own_Goes _ _ _ _ _ _ _ s₁ (mkF m 16 #[.val (.long q1), .second, .val (.int p2), .val (.long (9007199254740991 : Int64)), .second, .val (.int (p2 &&& (3 : Int32))), .unset, .unset, .unset, .unset, .unset, .unset] [(.int (4 : Int32)), (.int (((p2.toUInt32 >>> ((2 : Int32) &&& 31).toUInt32).toInt32) &&& (7 : Int32)))])
  refine own_go (fun _ k => XS.isub X0.here hx rfl (hb hby at_16) rfl k) ?_
  show own_Goes _ _ _ _ _ _ _ s₁ (mkF m 17 #[.val (.long q1), .second, .val (.int p2), .val (.long (9007199254740991 : Int64)), .second, .val (.int (p2 &&& (3 : Int32))), .unset, .unset, .unset, .unset, .unset, .unset] [(.int ((((p2.toUInt32 >>> ((2 : Int32) &&& 31).toUInt32).toInt32) &&& (7 : Int32)) - (4 : Int32)))])
  refine own_go (fun _ k => XS.istore X0.here hx rfl (hb hby at_17) rfl (l' := #[.val (.long q1), .second, .val (.int p2), .val (.long (9007199254740991 : Int64)), .second, .val (.int (p2 &&& (3 : Int32))), .val (.int ((((p2.toUInt32 >>> ((2 : Int32) &&& 31).toUInt32).toInt32) &&& (7 : Int32)) - (4 : Int32))), .unset, .unset, .unset, .unset, .unset]) rfl k) ?_
  show own_Goes _ _ _ _ _ _ _ s₁ (mkF m 19 #[.val (.long q1), .second, .val (.int p2), .val (.long (9007199254740991 : Int64)), .second, .val (.int (p2 &&& (3 : Int32))), .val (.int ((((p2.toUInt32 >>> ((2 : Int32) &&& 31).toUInt32).toInt32) &&& (7 : Int32)) - (4 : Int32))), .unset, .unset, .unset, .unset, .unset] [])
  refine own_go (fun _ k => XS.iload X0.here hx rfl (hb hby at_19) rfl k) ?_
  show own_Goes _ _ _ _ _ _ _ s₁ (mkF m 21 #[.val (.long q1), .second, .val (.int p2), .val (.long (9007199254740991 : Int64)), .second, .val (.int (p2 &&& (3 : Int32))), .val (.int ((((p2.toUInt32 >>> ((2 : Int32) &&& 31).toUInt32).toInt32) &&& (7 : Int32)) - (4 : Int32))), .unset, .unset, .unset, .unset, .unset] [(.int (p2 &&& (3 : Int32)))])
  by_cases hc21 : (p2 &&& (3 : Int32)) = (0 : Int32)
  · refine own_go (fun _ k => XS.ifNo X0.here hx rfl (hb hby at_21) rfl ((if0 _ _).trans (teq hc21).2) k) ?_
    show own_Goes _ _ _ _ _ _ _ s₁ (mkF m 24 #[.val (.long q1), .second, .val (.int p2), .val (.long (9007199254740991 : Int64)), .second, .val (.int (p2 &&& (3 : Int32))), .val (.int ((((p2.toUInt32 >>> ((2 : Int32) &&& 31).toUInt32).toInt32) &&& (7 : Int32)) - (4 : Int32))), .unset, .unset, .unset, .unset, .unset] [])
    refine own_go (fun _ k => XS.lloadN X0.here hx rfl (hb hby at_24) rfl k) ?_
    show own_Goes _ _ _ _ _ _ _ s₁ (mkF m 25 #[.val (.long q1), .second, .val (.int p2), .val (.long (9007199254740991 : Int64)), .second, .val (.int (p2 &&& (3 : Int32))), .val (.int ((((p2.toUInt32 >>> ((2 : Int32) &&& 31).toUInt32).toInt32) &&& (7 : Int32)) - (4 : Int32))), .unset, .unset, .unset, .unset, .unset] [(.long q1)])
    refine own_go (fun _ k => XS.lstore X0.here hx rfl (hb hby at_25) rfl (l' := #[.val (.long q1), .second, .val (.int p2), .val (.long (9007199254740991 : Int64)), .second, .val (.int (p2 &&& (3 : Int32))), .val (.int ((((p2.toUInt32 >>> ((2 : Int32) &&& 31).toUInt32).toInt32) &&& (7 : Int32)) - (4 : Int32))), .val (.long q1), .second, .unset, .unset, .unset]) rfl k) ?_
    show own_Goes _ _ _ _ _ _ _ s₁ (mkF m 27 #[.val (.long q1), .second, .val (.int p2), .val (.long (9007199254740991 : Int64)), .second, .val (.int (p2 &&& (3 : Int32))), .val (.int ((((p2.toUInt32 >>> ((2 : Int32) &&& 31).toUInt32).toInt32) &&& (7 : Int32)) - (4 : Int32))), .val (.long q1), .second, .unset, .unset, .unset] [])
    refine own_go (fun _ k => XS.goto X0.here hx rfl (pc0 := 27) (pc' := 74) rfl (hb hby at_27) (by decide) (by decide) k) ?_
    show own_Goes _ _ _ _ _ _ _ s₁ (mkF m 74 #[.val (.long q1), .second, .val (.int p2), .val (.long (9007199254740991 : Int64)), .second, .val (.int (p2 &&& (3 : Int32))), .val (.int ((((p2.toUInt32 >>> ((2 : Int32) &&& 31).toUInt32).toInt32) &&& (7 : Int32)) - (4 : Int32))), .val (.long q1), .second, .unset, .unset, .unset] [])
    exact seg74 q1 (9007199254740991 : Int64) q1 p2 (p2 &&& (3 : Int32)) ((((p2.toUInt32 >>> ((2 : Int32) &&& 31).toUInt32).toInt32) &&& (7 : Int32)) - (4 : Int32)) hw ⟨hx, hby, hml, hown, hnm, hret, hlk, hZ⟩ X0 e0 n0 Z0 N0
  · refine own_go (fun _ k => XS.ifYes X0.here hx rfl (pc0 := 21) (pc' := 30) rfl (hb hby at_21) rfl ((if0 _ _).trans (feq hc21).2) (by decide) (by decide) k) ?_
    show own_Goes _ _ _ _ _ _ _ s₁ (mkF m 30 #[.val (.long q1), .second, .val (.int p2), .val (.long (9007199254740991 : Int64)), .second, .val (.int (p2 &&& (3 : Int32))), .val (.int ((((p2.toUInt32 >>> ((2 : Int32) &&& 31).toUInt32).toInt32) &&& (7 : Int32)) - (4 : Int32))), .unset, .unset, .unset, .unset, .unset] [])
    refine own_go (fun _ k => XS.iload X0.here hx rfl (hb hby at_30) rfl k) ?_
    show own_Goes _ _ _ _ _ _ _ s₁ (mkF m 32 #[.val (.long q1), .second, .val (.int p2), .val (.long (9007199254740991 : Int64)), .second, .val (.int (p2 &&& (3 : Int32))), .val (.int ((((p2.toUInt32 >>> ((2 : Int32) &&& 31).toUInt32).toInt32) &&& (7 : Int32)) - (4 : Int32))), .unset, .unset, .unset, .unset, .unset] [(.int (p2 &&& (3 : Int32)))])
    refine own_go (fun _ k => XS.iconst X0.here hx rfl (hb hby at_32) k) ?_
    show own_Goes _ _ _ _ _ _ _ s₁ (mkF m 33 #[.val (.long q1), .second, .val (.int p2), .val (.long (9007199254740991 : Int64)), .second, .val (.int (p2 &&& (3 : Int32))), .val (.int ((((p2.toUInt32 >>> ((2 : Int32) &&& 31).toUInt32).toInt32) &&& (7 : Int32)) - (4 : Int32))), .unset, .unset, .unset, .unset, .unset] [(.int (1 : Int32)), (.int (p2 &&& (3 : Int32)))])
    by_cases hc33 : (p2 &&& (3 : Int32)) = (1 : Int32)
    · refine own_go (fun _ k => XS.icmpNo X0.here hx rfl (hb hby at_33) rfl (teq hc33).2 k) ?_
      show own_Goes _ _ _ _ _ _ _ s₁ (mkF m 36 #[.val (.long q1), .second, .val (.int p2), .val (.long (9007199254740991 : Int64)), .second, .val (.int (p2 &&& (3 : Int32))), .val (.int ((((p2.toUInt32 >>> ((2 : Int32) &&& 31).toUInt32).toInt32) &&& (7 : Int32)) - (4 : Int32))), .unset, .unset, .unset, .unset, .unset] [])
      refine own_go (fun _ k => XS.lloadN X0.here hx rfl (hb hby at_36) rfl k) ?_
      show own_Goes _ _ _ _ _ _ _ s₁ (mkF m 37 #[.val (.long q1), .second, .val (.int p2), .val (.long (9007199254740991 : Int64)), .second, .val (.int (p2 &&& (3 : Int32))), .val (.int ((((p2.toUInt32 >>> ((2 : Int32) &&& 31).toUInt32).toInt32) &&& (7 : Int32)) - (4 : Int32))), .unset, .unset, .unset, .unset, .unset] [(.long (9007199254740991 : Int64))])
      refine own_go (fun _ k => XS.iload X0.here hx rfl (hb hby at_37) rfl k) ?_
      show own_Goes _ _ _ _ _ _ _ s₁ (mkF m 39 #[.val (.long q1), .second, .val (.int p2), .val (.long (9007199254740991 : Int64)), .second, .val (.int (p2 &&& (3 : Int32))), .val (.int ((((p2.toUInt32 >>> ((2 : Int32) &&& 31).toUInt32).toInt32) &&& (7 : Int32)) - (4 : Int32))), .unset, .unset, .unset, .unset, .unset] [(.int ((((p2.toUInt32 >>> ((2 : Int32) &&& 31).toUInt32).toInt32) &&& (7 : Int32)) - (4 : Int32))), (.long (9007199254740991 : Int64))])
      refine own_go (fun _ k => XS.i2l X0.here hx rfl (hb hby at_39) rfl k) ?_
      show own_Goes _ _ _ _ _ _ _ s₁ (mkF m 40 #[.val (.long q1), .second, .val (.int p2), .val (.long (9007199254740991 : Int64)), .second, .val (.int (p2 &&& (3 : Int32))), .val (.int ((((p2.toUInt32 >>> ((2 : Int32) &&& 31).toUInt32).toInt32) &&& (7 : Int32)) - (4 : Int32))), .unset, .unset, .unset, .unset, .unset] [(.long (((((p2.toUInt32 >>> ((2 : Int32) &&& 31).toUInt32).toInt32) &&& (7 : Int32)) - (4 : Int32)).toInt64)), (.long (9007199254740991 : Int64))])
      refine own_go (fun _ k => XS.ladd X0.here hx rfl (hb hby at_40) rfl k) ?_
      show own_Goes _ _ _ _ _ _ _ s₁ (mkF m 41 #[.val (.long q1), .second, .val (.int p2), .val (.long (9007199254740991 : Int64)), .second, .val (.int (p2 &&& (3 : Int32))), .val (.int ((((p2.toUInt32 >>> ((2 : Int32) &&& 31).toUInt32).toInt32) &&& (7 : Int32)) - (4 : Int32))), .unset, .unset, .unset, .unset, .unset] [(.long ((9007199254740991 : Int64) + (((((p2.toUInt32 >>> ((2 : Int32) &&& 31).toUInt32).toInt32) &&& (7 : Int32)) - (4 : Int32)).toInt64)))])
      refine own_go (fun _ k => XS.lstore X0.here hx rfl (hb hby at_41) rfl (l' := #[.val (.long q1), .second, .val (.int p2), .val (.long (9007199254740991 : Int64)), .second, .val (.int (p2 &&& (3 : Int32))), .val (.int ((((p2.toUInt32 >>> ((2 : Int32) &&& 31).toUInt32).toInt32) &&& (7 : Int32)) - (4 : Int32))), .val (.long ((9007199254740991 : Int64) + (((((p2.toUInt32 >>> ((2 : Int32) &&& 31).toUInt32).toInt32) &&& (7 : Int32)) - (4 : Int32)).toInt64))), .second, .unset, .unset, .unset]) rfl k) ?_
      show own_Goes _ _ _ _ _ _ _ s₁ (mkF m 43 #[.val (.long q1), .second, .val (.int p2), .val (.long (9007199254740991 : Int64)), .second, .val (.int (p2 &&& (3 : Int32))), .val (.int ((((p2.toUInt32 >>> ((2 : Int32) &&& 31).toUInt32).toInt32) &&& (7 : Int32)) - (4 : Int32))), .val (.long ((9007199254740991 : Int64) + (((((p2.toUInt32 >>> ((2 : Int32) &&& 31).toUInt32).toInt32) &&& (7 : Int32)) - (4 : Int32)).toInt64))), .second, .unset, .unset, .unset] [])
      refine own_go (fun _ k => XS.goto X0.here hx rfl (pc0 := 43) (pc' := 74) rfl (hb hby at_43) (by decide) (by decide) k) ?_
      show own_Goes _ _ _ _ _ _ _ s₁ (mkF m 74 #[.val (.long q1), .second, .val (.int p2), .val (.long (9007199254740991 : Int64)), .second, .val (.int (p2 &&& (3 : Int32))), .val (.int ((((p2.toUInt32 >>> ((2 : Int32) &&& 31).toUInt32).toInt32) &&& (7 : Int32)) - (4 : Int32))), .val (.long ((9007199254740991 : Int64) + (((((p2.toUInt32 >>> ((2 : Int32) &&& 31).toUInt32).toInt32) &&& (7 : Int32)) - (4 : Int32)).toInt64))), .second, .unset, .unset, .unset] [])
      exact seg74 q1 (9007199254740991 : Int64) ((9007199254740991 : Int64) + (((((p2.toUInt32 >>> ((2 : Int32) &&& 31).toUInt32).toInt32) &&& (7 : Int32)) - (4 : Int32)).toInt64)) p2 (p2 &&& (3 : Int32)) ((((p2.toUInt32 >>> ((2 : Int32) &&& 31).toUInt32).toInt32) &&& (7 : Int32)) - (4 : Int32)) hw ⟨hx, hby, hml, hown, hnm, hret, hlk, hZ⟩ X0 e0 n0 Z0 N0
    · refine own_go (fun _ k => XS.icmpYes X0.here hx rfl (pc0 := 33) (pc' := 46) rfl (hb hby at_33) rfl (feq hc33).2 (by decide) (by decide) k) ?_
      show own_Goes _ _ _ _ _ _ _ s₁ (mkF m 46 #[.val (.long q1), .second, .val (.int p2), .val (.long (9007199254740991 : Int64)), .second, .val (.int (p2 &&& (3 : Int32))), .val (.int ((((p2.toUInt32 >>> ((2 : Int32) &&& 31).toUInt32).toInt32) &&& (7 : Int32)) - (4 : Int32))), .unset, .unset, .unset, .unset, .unset] [])
      refine own_go (fun _ k => XS.iload X0.here hx rfl (hb hby at_46) rfl k) ?_
      show own_Goes _ _ _ _ _ _ _ s₁ (mkF m 48 #[.val (.long q1), .second, .val (.int p2), .val (.long (9007199254740991 : Int64)), .second, .val (.int (p2 &&& (3 : Int32))), .val (.int ((((p2.toUInt32 >>> ((2 : Int32) &&& 31).toUInt32).toInt32) &&& (7 : Int32)) - (4 : Int32))), .unset, .unset, .unset, .unset, .unset] [(.int (p2 &&& (3 : Int32)))])
      refine own_go (fun _ k => XS.iconst X0.here hx rfl (hb hby at_48) k) ?_
      show own_Goes _ _ _ _ _ _ _ s₁ (mkF m 49 #[.val (.long q1), .second, .val (.int p2), .val (.long (9007199254740991 : Int64)), .second, .val (.int (p2 &&& (3 : Int32))), .val (.int ((((p2.toUInt32 >>> ((2 : Int32) &&& 31).toUInt32).toInt32) &&& (7 : Int32)) - (4 : Int32))), .unset, .unset, .unset, .unset, .unset] [(.int (2 : Int32)), (.int (p2 &&& (3 : Int32)))])
      by_cases hc49 : (p2 &&& (3 : Int32)) = (2 : Int32)
      · refine own_go (fun _ k => XS.icmpNo X0.here hx rfl (hb hby at_49) rfl (teq hc49).2 k) ?_
        show own_Goes _ _ _ _ _ _ _ s₁ (mkF m 52 #[.val (.long q1), .second, .val (.int p2), .val (.long (9007199254740991 : Int64)), .second, .val (.int (p2 &&& (3 : Int32))), .val (.int ((((p2.toUInt32 >>> ((2 : Int32) &&& 31).toUInt32).toInt32) &&& (7 : Int32)) - (4 : Int32))), .unset, .unset, .unset, .unset, .unset] [])
        refine own_go (fun _ k => XS.lloadN X0.here hx rfl (hb hby at_52) rfl k) ?_
        show own_Goes _ _ _ _ _ _ _ s₁ (mkF m 53 #[.val (.long q1), .second, .val (.int p2), .val (.long (9007199254740991 : Int64)), .second, .val (.int (p2 &&& (3 : Int32))), .val (.int ((((p2.toUInt32 >>> ((2 : Int32) &&& 31).toUInt32).toInt32) &&& (7 : Int32)) - (4 : Int32))), .unset, .unset, .unset, .unset, .unset] [(.long (9007199254740991 : Int64))])
        refine own_go (fun _ k => XS.lneg X0.here hx rfl (hb hby at_53) rfl k) ?_
        show own_Goes _ _ _ _ _ _ _ s₁ (mkF m 54 #[.val (.long q1), .second, .val (.int p2), .val (.long (9007199254740991 : Int64)), .second, .val (.int (p2 &&& (3 : Int32))), .val (.int ((((p2.toUInt32 >>> ((2 : Int32) &&& 31).toUInt32).toInt32) &&& (7 : Int32)) - (4 : Int32))), .unset, .unset, .unset, .unset, .unset] [(.long (-(9007199254740991 : Int64)))])
        refine own_go (fun _ k => XS.iload X0.here hx rfl (hb hby at_54) rfl k) ?_
        show own_Goes _ _ _ _ _ _ _ s₁ (mkF m 56 #[.val (.long q1), .second, .val (.int p2), .val (.long (9007199254740991 : Int64)), .second, .val (.int (p2 &&& (3 : Int32))), .val (.int ((((p2.toUInt32 >>> ((2 : Int32) &&& 31).toUInt32).toInt32) &&& (7 : Int32)) - (4 : Int32))), .unset, .unset, .unset, .unset, .unset] [(.int ((((p2.toUInt32 >>> ((2 : Int32) &&& 31).toUInt32).toInt32) &&& (7 : Int32)) - (4 : Int32))), (.long (-(9007199254740991 : Int64)))])
        refine own_go (fun _ k => XS.i2l X0.here hx rfl (hb hby at_56) rfl k) ?_
        show own_Goes _ _ _ _ _ _ _ s₁ (mkF m 57 #[.val (.long q1), .second, .val (.int p2), .val (.long (9007199254740991 : Int64)), .second, .val (.int (p2 &&& (3 : Int32))), .val (.int ((((p2.toUInt32 >>> ((2 : Int32) &&& 31).toUInt32).toInt32) &&& (7 : Int32)) - (4 : Int32))), .unset, .unset, .unset, .unset, .unset] [(.long (((((p2.toUInt32 >>> ((2 : Int32) &&& 31).toUInt32).toInt32) &&& (7 : Int32)) - (4 : Int32)).toInt64)), (.long (-(9007199254740991 : Int64)))])
        refine own_go (fun _ k => XS.ladd X0.here hx rfl (hb hby at_57) rfl k) ?_
        show own_Goes _ _ _ _ _ _ _ s₁ (mkF m 58 #[.val (.long q1), .second, .val (.int p2), .val (.long (9007199254740991 : Int64)), .second, .val (.int (p2 &&& (3 : Int32))), .val (.int ((((p2.toUInt32 >>> ((2 : Int32) &&& 31).toUInt32).toInt32) &&& (7 : Int32)) - (4 : Int32))), .unset, .unset, .unset, .unset, .unset] [(.long ((-(9007199254740991 : Int64)) + (((((p2.toUInt32 >>> ((2 : Int32) &&& 31).toUInt32).toInt32) &&& (7 : Int32)) - (4 : Int32)).toInt64)))])
        refine own_go (fun _ k => XS.lstore X0.here hx rfl (hb hby at_58) rfl (l' := #[.val (.long q1), .second, .val (.int p2), .val (.long (9007199254740991 : Int64)), .second, .val (.int (p2 &&& (3 : Int32))), .val (.int ((((p2.toUInt32 >>> ((2 : Int32) &&& 31).toUInt32).toInt32) &&& (7 : Int32)) - (4 : Int32))), .val (.long ((-(9007199254740991 : Int64)) + (((((p2.toUInt32 >>> ((2 : Int32) &&& 31).toUInt32).toInt32) &&& (7 : Int32)) - (4 : Int32)).toInt64))), .second, .unset, .unset, .unset]) rfl k) ?_
        show own_Goes _ _ _ _ _ _ _ s₁ (mkF m 60 #[.val (.long q1), .second, .val (.int p2), .val (.long (9007199254740991 : Int64)), .second, .val (.int (p2 &&& (3 : Int32))), .val (.int ((((p2.toUInt32 >>> ((2 : Int32) &&& 31).toUInt32).toInt32) &&& (7 : Int32)) - (4 : Int32))), .val (.long ((-(9007199254740991 : Int64)) + (((((p2.toUInt32 >>> ((2 : Int32) &&& 31).toUInt32).toInt32) &&& (7 : Int32)) - (4 : Int32)).toInt64))), .second, .unset, .unset, .unset] [])
        refine own_go (fun _ k => XS.goto X0.here hx rfl (pc0 := 60) (pc' := 74) rfl (hb hby at_60) (by decide) (by decide) k) ?_
        show own_Goes _ _ _ _ _ _ _ s₁ (mkF m 74 #[.val (.long q1), .second, .val (.int p2), .val (.long (9007199254740991 : Int64)), .second, .val (.int (p2 &&& (3 : Int32))), .val (.int ((((p2.toUInt32 >>> ((2 : Int32) &&& 31).toUInt32).toInt32) &&& (7 : Int32)) - (4 : Int32))), .val (.long ((-(9007199254740991 : Int64)) + (((((p2.toUInt32 >>> ((2 : Int32) &&& 31).toUInt32).toInt32) &&& (7 : Int32)) - (4 : Int32)).toInt64))), .second, .unset, .unset, .unset] [])
        exact seg74 q1 (9007199254740991 : Int64) ((-(9007199254740991 : Int64)) + (((((p2.toUInt32 >>> ((2 : Int32) &&& 31).toUInt32).toInt32) &&& (7 : Int32)) - (4 : Int32)).toInt64)) p2 (p2 &&& (3 : Int32)) ((((p2.toUInt32 >>> ((2 : Int32) &&& 31).toUInt32).toInt32) &&& (7 : Int32)) - (4 : Int32)) hw ⟨hx, hby, hml, hown, hnm, hret, hlk, hZ⟩ X0 e0 n0 Z0 N0
      · refine own_go (fun _ k => XS.icmpYes X0.here hx rfl (pc0 := 49) (pc' := 63) rfl (hb hby at_49) rfl (feq hc49).2 (by decide) (by decide) k) ?_
        show own_Goes _ _ _ _ _ _ _ s₁ (mkF m 63 #[.val (.long q1), .second, .val (.int p2), .val (.long (9007199254740991 : Int64)), .second, .val (.int (p2 &&& (3 : Int32))), .val (.int ((((p2.toUInt32 >>> ((2 : Int32) &&& 31).toUInt32).toInt32) &&& (7 : Int32)) - (4 : Int32))), .unset, .unset, .unset, .unset, .unset] [])
        refine own_go (fun t k => X0.ldc2Long hx hown (mvT hZ (hw _ (List.mem_of_getElem? (i := 7) rfl))) (g := (mkF m 63 #[.val (.long q1), .second, .val (.int p2), .val (.long (9007199254740991 : Int64)), .second, .val (.int (p2 &&& (3 : Int32))), .val (.int ((((p2.toUInt32 >>> ((2 : Int32) &&& 31).toUInt32).toInt32) &&& (7 : Int32)) - (4 : Int32))), .unset, .unset, .unset, .unset, .unset] [])) rfl (hb hby at_63) t k) ?_
        show own_Goes _ _ _ _ _ _ _ s₁ (mkF m 66 #[.val (.long q1), .second, .val (.int p2), .val (.long (9007199254740991 : Int64)), .second, .val (.int (p2 &&& (3 : Int32))), .val (.int ((((p2.toUInt32 >>> ((2 : Int32) &&& 31).toUInt32).toInt32) &&& (7 : Int32)) - (4 : Int32))), .unset, .unset, .unset, .unset, .unset] [(.long (-9223372036854775808 : Int64))])
        refine own_go (fun _ k => XS.iload X0.here hx rfl (hb hby at_66) rfl k) ?_
        show own_Goes _ _ _ _ _ _ _ s₁ (mkF m 68 #[.val (.long q1), .second, .val (.int p2), .val (.long (9007199254740991 : Int64)), .second, .val (.int (p2 &&& (3 : Int32))), .val (.int ((((p2.toUInt32 >>> ((2 : Int32) &&& 31).toUInt32).toInt32) &&& (7 : Int32)) - (4 : Int32))), .unset, .unset, .unset, .unset, .unset] [(.int ((((p2.toUInt32 >>> ((2 : Int32) &&& 31).toUInt32).toInt32) &&& (7 : Int32)) - (4 : Int32))), (.long (-9223372036854775808 : Int64))])
        refine own_go (fun _ k => XS.iconst X0.here hx rfl (hb hby at_68) k) ?_
        show own_Goes _ _ _ _ _ _ _ s₁ (mkF m 69 #[.val (.long q1), .second, .val (.int p2), .val (.long (9007199254740991 : Int64)), .second, .val (.int (p2 &&& (3 : Int32))), .val (.int ((((p2.toUInt32 >>> ((2 : Int32) &&& 31).toUInt32).toInt32) &&& (7 : Int32)) - (4 : Int32))), .unset, .unset, .unset, .unset, .unset] [(.int (4 : Int32)), (.int ((((p2.toUInt32 >>> ((2 : Int32) &&& 31).toUInt32).toInt32) &&& (7 : Int32)) - (4 : Int32))), (.long (-9223372036854775808 : Int64))])
        refine own_go (fun _ k => XS.iadd X0.here hx rfl (hb hby at_69) rfl k) ?_
        show own_Goes _ _ _ _ _ _ _ s₁ (mkF m 70 #[.val (.long q1), .second, .val (.int p2), .val (.long (9007199254740991 : Int64)), .second, .val (.int (p2 &&& (3 : Int32))), .val (.int ((((p2.toUInt32 >>> ((2 : Int32) &&& 31).toUInt32).toInt32) &&& (7 : Int32)) - (4 : Int32))), .unset, .unset, .unset, .unset, .unset] [(.int (((((p2.toUInt32 >>> ((2 : Int32) &&& 31).toUInt32).toInt32) &&& (7 : Int32)) - (4 : Int32)) + (4 : Int32))), (.long (-9223372036854775808 : Int64))])
        refine own_go (fun _ k => XS.i2l X0.here hx rfl (hb hby at_70) rfl k) ?_
        show own_Goes _ _ _ _ _ _ _ s₁ (mkF m 71 #[.val (.long q1), .second, .val (.int p2), .val (.long (9007199254740991 : Int64)), .second, .val (.int (p2 &&& (3 : Int32))), .val (.int ((((p2.toUInt32 >>> ((2 : Int32) &&& 31).toUInt32).toInt32) &&& (7 : Int32)) - (4 : Int32))), .unset, .unset, .unset, .unset, .unset] [(.long ((((((p2.toUInt32 >>> ((2 : Int32) &&& 31).toUInt32).toInt32) &&& (7 : Int32)) - (4 : Int32)) + (4 : Int32)).toInt64)), (.long (-9223372036854775808 : Int64))])
        refine own_go (fun _ k => XS.ladd X0.here hx rfl (hb hby at_71) rfl k) ?_
        show own_Goes _ _ _ _ _ _ _ s₁ (mkF m 72 #[.val (.long q1), .second, .val (.int p2), .val (.long (9007199254740991 : Int64)), .second, .val (.int (p2 &&& (3 : Int32))), .val (.int ((((p2.toUInt32 >>> ((2 : Int32) &&& 31).toUInt32).toInt32) &&& (7 : Int32)) - (4 : Int32))), .unset, .unset, .unset, .unset, .unset] [(.long ((-9223372036854775808 : Int64) + ((((((p2.toUInt32 >>> ((2 : Int32) &&& 31).toUInt32).toInt32) &&& (7 : Int32)) - (4 : Int32)) + (4 : Int32)).toInt64)))])
        refine own_go (fun _ k => XS.lstore X0.here hx rfl (hb hby at_72) rfl (l' := #[.val (.long q1), .second, .val (.int p2), .val (.long (9007199254740991 : Int64)), .second, .val (.int (p2 &&& (3 : Int32))), .val (.int ((((p2.toUInt32 >>> ((2 : Int32) &&& 31).toUInt32).toInt32) &&& (7 : Int32)) - (4 : Int32))), .val (.long ((-9223372036854775808 : Int64) + ((((((p2.toUInt32 >>> ((2 : Int32) &&& 31).toUInt32).toInt32) &&& (7 : Int32)) - (4 : Int32)) + (4 : Int32)).toInt64))), .second, .unset, .unset, .unset]) rfl k) ?_
        show own_Goes _ _ _ _ _ _ _ s₁ (mkF m 74 #[.val (.long q1), .second, .val (.int p2), .val (.long (9007199254740991 : Int64)), .second, .val (.int (p2 &&& (3 : Int32))), .val (.int ((((p2.toUInt32 >>> ((2 : Int32) &&& 31).toUInt32).toInt32) &&& (7 : Int32)) - (4 : Int32))), .val (.long ((-9223372036854775808 : Int64) + ((((((p2.toUInt32 >>> ((2 : Int32) &&& 31).toUInt32).toInt32) &&& (7 : Int32)) - (4 : Int32)) + (4 : Int32)).toInt64))), .second, .unset, .unset, .unset] [])
        exact seg74 q1 (9007199254740991 : Int64) ((-9223372036854775808 : Int64) + ((((((p2.toUInt32 >>> ((2 : Int32) &&& 31).toUInt32).toInt32) &&& (7 : Int32)) - (4 : Int32)) + (4 : Int32)).toInt64)) p2 (p2 &&& (3 : Int32)) ((((p2.toUInt32 >>> ((2 : Int32) &&& 31).toUInt32).toInt32) &&& (7 : Int32)) - (4 : Int32)) hw ⟨hx, hby, hml, hown, hnm, hret, hlk, hZ⟩ X0 e0 n0 Z0 N0
set_option maxRecDepth 65536 in
set_option maxHeartbeats 40000000 in
theorem comes_1 {Post : Tables → Env → Array Value → State → Outcome → State → Prop} (hpost : ∀ tb e args s v u, (limb_1_1.after args s (.returned v) u = true ∧ limb_1_2.after args s (.returned v) u = true ∧ True) → FrameEnd s (.returned v) u (Jvm.fieldLocs frame_1_writes args s ++ Jvm.arrayLocs frame_1_arrays args s ++ Jvm.staticLocs frame_1_statics s) 0 0 → Post tb e args s (.returned v) u) :
    ArmFor flags0 classFile x code maxLocals ret World_1 tables_1 room_1 Calls_1 rest_1 Pre_1 Post := by
  intro l hfl _ _ p e ha hc hk s m args below hf hA hF happ hP
  obtain ⟨hcalls, hrest, hpre⟩ := hP
  obtain ⟨-, -, -, hnamed, -, -, -, hat⟩ := (Spec.applies_iff hf).mp happ
  obtain ⟨hg, hn⟩ := and_e (Cond.before_iff.mp (show (Jvm.Cond.and given_1 narrow_1).before args s = true from hpre))
  obtain ⟨g0, gr0⟩ := and_e hg
  obtain ⟨ga0, gr1⟩ := and_e gr0
  have ga1 := gr1
  obtain ⟨w0, w1, rfl⟩ : ∃ w0 w1 : Value, args = #[w0, w1] := by
    have hs : args.size = 2 := by simpa [Cond.value, given_1] using g0
    obtain ⟨L⟩ := args
    match L, hs with
    | [w0, w1], _ => exact ⟨w0, w1, rfl⟩
  have hw := fun d (hd : d ∈ tables_1) => atoms_spec (ws := Jvm.Cond.code x code maxLocals ret :: tables_1) hat d (List.mem_cons_of_mem _ hd)
  have hfit : Fit s := fun {y c} hc i hi => by
    obtain ⟨ha, rfl⟩ := Array.getElem?_eq_some_iff.mp hc
    have q := List.all_eq_true.mp ((Array.all_eq_true_iff_forall_mem.mp hF) _ (Array.getElem_mem ha)) i (List.mem_range.mpr hi)
    simpa [Array.getElem?_eq_getElem hi] using q
  obtain ⟨i0, ei0⟩ := isL_v ga0
  obtain rfl : w0 = (.long i0) := Option.some.inj ei0
  obtain ⟨i1, ei1⟩ := is_v ga1
  obtain rfl : w1 = (.int i1) := Option.some.inj ei1
  obtain ⟨n, o, h1, h2, h3, _, L, rfl, ⟨rfl, N⟩, hq⟩ := rm0 l s _ hw tables_1 i0 i1 s.heap s.heap.size (Nat.le_refl _)  p e ha hc hk s m _ below hf ((Spec.applies_iff_loose hf).mp happ).1 ⟨rfl, State.Warmed39.refl s, rfl⟩ trivial
  refine ⟨n, _, h1, h2, h3, hpost _ _ _ _ _ _ ⟨Cond.after_iff.mpr rfl, Cond.after_iff.mpr (eq_i res_at (Term.int_eval (1)) rfl), trivial⟩ ⟨hq.1, hq.2.1, (hq.2.2.sift fun y hy => Or.inr (N y hy)).mono (by decide) (by decide)⟩⟩
theorem main_1_1 : Claimed_1_1 := comes_1 fun _ _ _ _ _ _ h hF => ⟨h.1, hF⟩
theorem main_1_2 : Claimed_1_2 := comes_1 fun _ _ _ _ _ _ h hF => ⟨h.2.1, hF⟩
end Jvm.Pilot.@@N@@
namespace Jvm.Pilot.@@N@@
open Jvm Jvm.ClassFile Sem Op Lib Jvm.Free Jvm.Stand Jvm.Pilot.@@N@@.Jvm.D
/-! MADE BY PROGRAM (witnessworld.py) out of the Statement's table words and the real class files: 11 classes; the members and pool entries that the words name. The judged class is class 1, her method 1. -/
namespace start1
open Jvm.ClassFile
def u (s : String) : CpInfo := .utf8 (stringToUtf16 s)
/-- a pool by its gaps: so many unusable entries, then the entry; so many at the end -/
def gap : Nat → List CpInfo → List CpInfo
  | 0, r => r
  | n + 1, r => .unusable :: gap n r
def poolList (es : List (Nat × CpInfo)) (last : Nat) : List CpInfo := es.foldr (fun e r => gap e.1 (e.2 :: r)) (gap last [])
def pool (es : List (Nat × CpInfo)) (last : Nat) : Array CpInfo := ⟨poolList es last⟩
def fileOf (pool : Array CpInfo) (this : Nat) (attrs : Array Attribute := #[]) (ms : Array MethodInfo := #[]) (fl : Nat := 33) (sup : Nat := 0) (ifs : Array Nat := #[]) (fds : Array FieldInfo := #[]) : ClassFile where
  minorVersion := 0
  majorVersion := 65
  constantPool := pool
  accessFlags := fl
  thisClass := this
  superClass := sup
  interfaces := ifs
  fields := fds
  methods := ms
  attributes := attrs
def plain (name : String) (sup : Option ClassId) : Class where
  name := name
  kind := .ordinary
  loader := none
  accessFlags := 33
  super := sup
  interfaces := #[]
  cf := none
  fields := #[]
  methods := #[]
  instanceTypes := #[]
  staticTypes := #[]
  resolved := #[]
  callSites := []
  init := .initialized
  statics := none
  mirror := none

def pool0 : Array CpInfo := pool [(5, u "<init>"), (0, u "()V"), (1, .class_ 10), (1, u "java/lang/Object")] 113

def k0m0 : Method := { name := "<init>", desc := "()V", sig := { parameters := [], returnType := none }, accessFlags := 1, code := none }
/-- java/lang/Object -/
def k0 : Class := { plain "java/lang/Object" none with
  accessFlags := 33
  interfaces := #[]
  cf := some (fileOf pool0 8 #[] #[{ accessFlags := 1, nameIndex := 5, descriptorIndex := 6, attributes := #[] }] 33 0 #[] #[])
  fields := #[]
  methods := #[k0m0]
  instanceTypes := #[]
  staticTypes := #[]
  resolved := Array.replicate 124 none
  statics := none }

def pool1 : Array CpInfo := pool [(2, .class_ 4), (1, u "java/lang/Object"), (0, u "<init>"), (0, u "()V"), (0, .long 9007199254740991), (3, .long 9223372036854775808), (1, .long 18446744073709551615), (1, .long 18437736874454810624), (1, .methodref 18 19), (0, .class_ 20), (0, .nameAndType 21 22), (0, u "dev/resolvent/model/JsonNumber"), (0, u "isInRange"), (0, u "(J)Z"), (0, .class_ 24), (0, u "dev/resolvent/model/JsonNumberIsInRangePinLaw"), (2, u "law"), (0, u "(JI)Z")] 3

def k1m0 : Method := { name := "<init>", desc := "()V", sig := { parameters := [], returnType := none }, accessFlags := 2, code := none }
def k1c1 : Code := { maxStack := 4, maxLocals := 12, code := code, exceptionTable := #[], attributes := #[] }
def k1m1 : Method := { name := "law", desc := "(JI)Z", sig := { parameters := [.long, .int], returnType := some .boolean }, accessFlags := 9, code := some k1c1 }
/-- dev/resolvent/model/JsonNumberIsInRangePinLaw -/
def k1 : Class := { plain "dev/resolvent/model/JsonNumberIsInRangePinLaw" (some 0) with
  accessFlags := 49
  interfaces := #[]
  cf := some (fileOf pool1 23 #[] #[{ accessFlags := 2, nameIndex := 5, descriptorIndex := 6, attributes := #[] }, { accessFlags := 9, nameIndex := 27, descriptorIndex := 28, attributes := #[] }] 49 2 #[] #[])
  fields := #[]
  methods := #[k1m0, k1m1]
  instanceTypes := #[]
  staticTypes := #[]
  resolved := Array.replicate 32 none
  statics := none }

def pool2 : Array CpInfo := pool [(2, .class_ 4), (1, u "java/lang/Object"), (0, u "<init>"), (0, u "()V"), (0, .class_ 8), (0, u "java/lang/Record")] 13

def k2m0 : Method := { name := "<init>", desc := "()V", sig := { parameters := [], returnType := none }, accessFlags := 4, code := none }
/-- java/lang/Record -/
def k2 : Class := { plain "java/lang/Record" (some 0) with
  accessFlags := 1057
  interfaces := #[]
  cf := some (fileOf pool2 7 #[] #[{ accessFlags := 4, nameIndex := 5, descriptorIndex := 6, attributes := #[] }] 1057 2 #[] #[])
  fields := #[]
  methods := #[k2m0]
  instanceTypes := #[]
  staticTypes := #[]
  resolved := Array.replicate 22 none
  statics := none }

def pool3 : Array CpInfo := pool [(12, .class_ 13), (0, u "dev/resolvent/model/JsonValue"), (0, .class_ 15), (0, u "java/lang/Object")] 23

/-- dev/resolvent/model/JsonValue -/
def k3 : Class := { plain "dev/resolvent/model/JsonValue" (some 0) with
  accessFlags := 1537
  interfaces := #[]
  cf := some (fileOf pool3 12 #[] #[] 1537 14 #[] #[])
  fields := #[]
  methods := #[]
  instanceTypes := #[]
  staticTypes := #[]
  resolved := Array.replicate 39 none
  statics := none }

def pool4 : Array CpInfo := pool [(2, .class_ 4), (1, u "java/lang/Record"), (3, u "literal"), (7, .class_ 18), (1, u "dev/resolvent/model/JsonNumber"), (0, u "Ljava/lang/String;"), (30, u "isInRange"), (0, u "(J)Z"), (69, .long 18437736874454810625), (1, .long 9007199254740991), (12, .class_ 137), (0, u "dev/resolvent/model/JsonValue"), (0, u "MAX_INTEGER"), (0, u "J")] 28

def k4c0 : Code := { maxStack := 4, maxLocals := 2, code := prog_17_method_8_code, exceptionTable := #[], attributes := #[] }
def k4m0 : Method := { name := "isInRange", desc := "(J)Z", sig := { parameters := [.long], returnType := some .boolean }, accessFlags := 9, code := some k4c0 }
/-- dev/resolvent/model/JsonNumber -/
def k4 : Class := { plain "dev/resolvent/model/JsonNumber" (some 2) with
  accessFlags := 49
  interfaces := #[3]
  cf := some (fileOf pool4 16 #[] #[{ accessFlags := 9, nameIndex := 50, descriptorIndex := 51, attributes := #[] }] 49 2 #[136] #[{ accessFlags := 18, nameIndex := 8, descriptorIndex := 19, attributes := #[] }, { accessFlags := 26, nameIndex := 138, descriptorIndex := 139, attributes := #[] }])
  fields := #[{ name := "literal", type := (.object "java/lang/String"), accessFlags := 18, slot := 0, constantValue := 0 }, { name := "MAX_INTEGER", type := .long, accessFlags := 26, slot := 0, constantValue := 0 }]
  methods := #[k4m0]
  instanceTypes := #[(.object "java/lang/String")]
  staticTypes := #[.long]
  resolved := Array.replicate 168 none
  statics := none }

def pool5 : Array CpInfo := pool [(1, u "java/lang/Cloneable"), (0, .class_ 1), (0, u "java/lang/Object"), (0, .class_ 3)] 3

/-- java/lang/Cloneable -/
def k5 : Class := { plain "java/lang/Cloneable" (some 0) with
  accessFlags := 1537
  interfaces := #[]
  cf := some (fileOf pool5 2 #[] #[] 1537 4 #[] #[])
  fields := #[]
  methods := #[]
  instanceTypes := #[]
  staticTypes := #[]
  resolved := Array.replicate 8 none
  statics := none }

def pool6 : Array CpInfo := pool [(1, u "java/io/Serializable"), (0, .class_ 1), (0, u "java/lang/Object"), (0, .class_ 3)] 3

/-- java/io/Serializable -/
def k6 : Class := { plain "java/io/Serializable" (some 0) with
  accessFlags := 1537
  interfaces := #[]
  cf := some (fileOf pool6 2 #[] #[] 1537 4 #[] #[])
  fields := #[]
  methods := #[]
  instanceTypes := #[]
  staticTypes := #[]
  resolved := Array.replicate 8 none
  statics := none }

/-- the primitive byte -/
def k7 : Class := { plain "byte" none with kind := .primitive 'B', accessFlags := 0x411 }
/-- [B -/
def k8 : Class := { plain "[B" (some 0) with kind := .array 7 .byte, interfaces := #[5, 6], accessFlags := 1041 }

/-- the primitive int -/
def k9 : Class := { plain "int" none with kind := .primitive 'I', accessFlags := 0x411 }
/-- [I -/
def k10 : Class := { plain "[I" (some 0) with kind := .array 9 .int, interfaces := #[5, 6], accessFlags := 1041 }

def heap : Heap := #[]
def classes : Array Class := #[k0, k1, k2, k3, k4, k5, k6, k7, k8, k9, k10]
def interned : List (Array UInt16 × Addr) := []
def slotsUsed : Nat := 0
def theMethod : MethodId := ⟨1, 1⟩
def args0 : Array Value := #[.long 5, .int 3]
def aboutOver (below : List Frame) : State where
  vm := { classes := classes, interned := interned.toArray }
  heap := heap
  slotsUsed := slotsUsed
  threads := #[{ frames := .invoking theMethod args0 :: below }]
def below0 : List Frame := [.native { method := ⟨0, 0⟩, args := #[] }]
def about1 : State := aboutOver below0
def p0 : Program := .bare "" "" ""
def e0 : Env := launch0.env 0 0 0
theorem w_frames : about1.frames = Frame.invoking theMethod args0 :: below0 := rfl
set_option maxRecDepth 65536 in
theorem w_args : argsFit about1.vm theMethod args0 = true := by decide +kernel
set_option maxRecDepth 65536 in
theorem w_heap : heapFits about1 = true := by decide +kernel
set_option maxRecDepth 65536 in
theorem w_runnable : about1.curStatus? = some .runnable := by decide +kernel
set_option maxRecDepth 65536 in
theorem w_alone : about1.alone = true := by decide +kernel
set_option maxRecDepth 65536 in
theorem w_named : about1.methodNamed? x = some theMethod := by decide +kernel
set_option maxRecDepth 65536 in
theorem w_hears : about1.hears theMethod below0 = true := by decide +kernel
set_option maxRecDepth 65536 in
theorem w_ripe : about1.ripe theMethod args0 below0 = true := by decide +kernel
theorem w_running : about1.status = .running := rfl
set_option maxRecDepth 65536 in
theorem w_room : about1.hasRoom e0.platform room_1 = true :=
  launch0.hasRoom_least _ room_1 (by decide +kernel) (by decide +kernel) (by decide +kernel) (by decide +kernel) (by decide +kernel) (by decide +kernel)
theorem allAtoms_all (ts : List Jvm.Cond) (a : Array Jvm.Value) (st : Jvm.State) : (allAtoms ts).before a st = ts.all (fun c => c.before a st) := by
  induction ts with
  | nil => rfl
  | cons c t ih =>
    show (Jvm.Cond.and c (allAtoms t)).before a st = _
    rw [Jvm.Cond.before_and, ih, List.all_cons]
def words1 : List Jvm.Cond := Jvm.Cond.code x code maxLocals ret :: tables_1
/-- a 'code' word, met by the world's own term for the bytes: nothing is compared byte by byte -/
theorem code_word {y : MethodName} {bytes : ByteArray} {mx : Nat} {rt : Option FieldType} {a : Array Value} {s : State} {m : MethodId} {meth : Method} {c : Code} (h1 : s.methodNamed? y = some m) (h2 : s.vm.method? m = some meth) (h3 : meth.code = some c) (h4 : c.code = bytes)
    (h5 : (c.maxLocals == mx && c.exceptionTable.isEmpty && decide (c.maxStack ≤ mostOperands) && decide (meth.sig.returnType = rt) && !meth.locks && decide (parseMethodDescriptor y.desc = some meth.sig)) = true) : (Jvm.Cond.code y bytes mx rt).before a s = true := by
  simp only [Bool.and_eq_true, beq_iff_eq, Bool.not_eq_true', decide_eq_true_eq] at h5
  obtain ⟨⟨⟨⟨⟨g1, g2⟩, g3⟩, g4⟩, g5⟩, g6⟩ := h5
  simp [Cond.before, Cond.holds, Cond.value, h1, h2, h3, h4, g1, g2, g3, g4, g5, g6]
def isCode : Jvm.Cond → Bool
  | .code _ _ _ _ => true
  | _ => false
theorem all_split {L : List Jvm.Cond} {P : Jvm.Cond → Bool} (h1 : L.all (fun c => isCode c || P c) = true) (h2 : ∀ c ∈ L.filter isCode, P c = true) : L.all P = true := by
  refine List.all_eq_true.mpr fun c hc => ?_
  have h := List.all_eq_true.mp h1 c hc
  rcases Bool.eq_false_or_eq_true (isCode c) with hi | hi
  · exact h2 c (List.mem_filter.mpr ⟨hc, hi⟩)
  · simpa [hi] using h
set_option maxRecDepth 65536 in
theorem w_c0 : (Jvm.Cond.code x code maxLocals ret).before args0 about1 = true := code_word (m := ⟨1, 1⟩) (meth := k1m1) (c := k1c1) (by decide +kernel) rfl rfl rfl (by decide +kernel)
set_option maxRecDepth 65536 in
theorem w_c1 : (Jvm.Cond.code ({ cls := "dev/resolvent/model/JsonNumber", name := "isInRange", desc := "(J)Z" } : Jvm.MethodName) prog_17_method_8_code (2 : Nat) (Option.some Jvm.ClassFile.FieldType.boolean)).before args0 about1 = true := code_word (m := ⟨4, 0⟩) (meth := k4m0) (c := k4c0) (by decide +kernel) rfl rfl rfl (by decide +kernel)
def codes1 : List Jvm.Cond := [Jvm.Cond.code x code maxLocals ret, Jvm.Cond.code ({ cls := "dev/resolvent/model/JsonNumber", name := "isInRange", desc := "(J)Z" } : Jvm.MethodName) prog_17_method_8_code (2 : Nat) (Option.some Jvm.ClassFile.FieldType.boolean)]
set_option maxRecDepth 65536 in
theorem codes_eq : words1.filter isCode = codes1 := rfl
theorem w_codes : ∀ c ∈ words1.filter isCode, c.before args0 about1 = true := by
  rw [codes_eq]
  intro c hc
  simp only [codes1, List.mem_cons, List.not_mem_nil, or_false] at hc
  rcases hc with rfl | rfl
  · exact w_c0
  · exact w_c1
set_option maxRecDepth 65536 in
theorem w_t1 : words1.all (fun c => isCode c || c.before args0 about1) = true := by decide +kernel
theorem w_tables : (allAtoms (Jvm.Cond.code x code maxLocals ret :: tables_1)).before args0 about1 = true := by
  rw [allAtoms_all]
  show words1.all (fun c => c.before args0 about1) = true
  refine all_split ?_ w_codes
  rw [w_t1]
set_option maxRecDepth 65536 in
theorem w_case : (Jvm.Cond.and given_1 narrow_1).before args0 about1 = true := by decide +kernel
theorem w_applies : (headSpec (Jvm.Cond.code x code maxLocals ret :: tables_1) room_1).applies x e0.platform about1 = true :=
  (Spec.applies_iff w_frames).mpr ⟨w_running, w_runnable, w_alone, w_named, w_hears, w_ripe, w_room, w_tables⟩
theorem atStart : AtStart classFile x code maxLocals ret World_1 tables_1 room_1 Calls_1 rest_1 Pre_1 launch0 p0 e0 about1 theMethod args0 below0 :=
  ⟨lists_1, trivial, launch0.admits_env _ _ _, launch0.least_env, fairChoices_fair.cas, fairChoices_fair.clock, w_frames, w_args, w_heap, w_applies, trivial, trivial, w_case⟩
end start1
theorem witness_1 : WitnessClaimed_1 := ⟨start1.p0, start1.e0, start1.about1, start1.theMethod, start1.args0, start1.below0, start1.atStart⟩
end Jvm.Pilot.@@N@@
