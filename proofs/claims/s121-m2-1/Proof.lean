import JvmDerived
import JvmDerived.Pilot.@@N@@Statement
import JvmDerived.Pilot.@@N@@Code
set_option linter.unusedVariables false
set_option linter.unusedSimpArgs false
namespace Jvm.RoadKit
open Sem ClassFile Op Lib Jvm.Stand Jvm.Free Jvm.LawKit
section Own
variable {p : Program} {l : Launch} {e : Env} {R : Room} {s : State} {m : MethodId} {args : Array Value} {below : List Frame} {meth : Method} {c : Code} {T T1 : State} {locs : List Loc} {cells slots cs ss : Nat} {Q : Option Value → Heap → List Loc → Prop} {g g1 : JFrame}
/-- from the frame g over T the body comes to its end, and what it leaves is as Q says -/
def own_Goes (p : Program) (e : Env) (below : List Frame) (s : State) (Q : Option Value → Heap → List Loc → Prop) (cs ss : Nat) (T : State) (g : JFrame) : Prop :=
  ∃ s₂ o, Steps p.tables e below (T.setTop g) s₂ ∧ s₂.status = .running ∧ Ended s₂ below o ∧ ∃ v L, o = .returned v ∧ Q v s₂.heap L ∧ FrameEnd s o s₂ L cs ss
theorem own_go (st : ∀ target, Steps p.tables e below (T1.setTop g1) target → Steps p.tables e below (T.setTop g) target) (k : own_Goes p e below s Q cs ss T1 g1) : own_Goes p e below s Q cs ss T g := by
  obtain ⟨s₂, o, h, r⟩ := k
  exact ⟨s₂, o, st _ h, r⟩
theorem own_goS (st : Steps p.tables e below (T.setTop g) (T1.setTop g1)) (k : own_Goes p e below s Q cs ss T1 g1) : own_Goes p e below s Q cs ss T g := own_go (fun _ h => st.trans h) k
/-- the ends -/
theorem own_retN (X : Stand p l e R s m args below meth c T locs cells slots) (hx : p.tables.exec = Jvm.exec) {pc : Nat} {Ls : Array Slot} {z : Int32} {t : FieldType} {rest : List Value} (hlk : meth.locks = false) (hret : meth.sig.returnType = some t) (ht : t = .boolean ∨ t = .byte ∨ t = .char ∨ t = .short)
    (hd : decode c.code pc = .ok (.ireturn, 1)) (hc : cells ≤ cs) (hs : slots ≤ ss) (hQ : Q (some (.int (nar t z))) T.heap locs) : own_Goes p e below s Q cs ss T (mkF m pc Ls (.int z :: rest)) := by
  obtain ⟨fs, hr, hrun, hended, hW, hsame⟩ := X.leave (v := some (.int (nar t z))) (fun h => by rw [hret] at h; cases h) hlk
  exact ⟨_, _, retN X hx hret ht hd hr, hrun, hended, _, _, rfl, hQ, ⟨_, rfl⟩, hW, hsame.mono hc hs⟩
theorem own_ret (X : Stand p l e R s m args below meth c T locs cells slots) (hx : p.tables.exec = Jvm.exec) {pc : Nat} {Ls : Array Slot} {w : Value} {t : FieldType} {i : Instr} {rest : List Value} (hlk : meth.locks = false) (hret : meth.sig.returnType = some t) (hn : narrow t w = w)
    (hi : (i = .ireturn ∧ (t = .int ∨ t = .boolean ∨ t = .byte ∨ t = .char ∨ t = .short) ∧ ∃ z, w = .int z) ∨ (i = .lreturn ∧ t = .long ∧ ∃ z, w = .long z) ∨ (i = .dreturn ∧ t = .double ∧ ∃ z, w = .double z) ∨ (i = .freturn ∧ t = .float ∧ ∃ z, w = .float z) ∨ (i = .areturn ∧ t.isReference = true ∧ w.isRef = true))
    (hd : decode c.code pc = .ok (i, 1)) (hc : cells ≤ cs) (hs : slots ≤ ss) (hQ : Q (some w) T.heap locs) : own_Goes p e below s Q cs ss T (mkF m pc Ls (w :: rest)) := by
  obtain ⟨fs, hr, hrun, hended, hW, hsame⟩ := X.leave (v := some w) (fun h => by rw [hret] at h; cases h) hlk
  exact ⟨_, _, retOut X hx hret hn hi hd hr, hrun, hended, _, _, rfl, hQ, ⟨_, rfl⟩, hW, hsame.mono hc hs⟩
theorem own_retI (X : Stand p l e R s m args below meth c T locs cells slots) (hx : p.tables.exec = Jvm.exec) {pc : Nat} {Ls : Array Slot} {z : Int32} {rest : List Value} (hlk : meth.locks = false) (hret : meth.sig.returnType = some .int)
    (hd : decode c.code pc = .ok (.ireturn, 1)) (hc : cells ≤ cs) (hs : slots ≤ ss) (hQ : Q (some (.int z)) T.heap locs) : own_Goes p e below s Q cs ss T (mkF m pc Ls (.int z :: rest)) :=
  own_ret X hx hlk hret rfl (Or.inl ⟨rfl, Or.inl rfl, _, rfl⟩) hd hc hs hQ
theorem own_retA (X : Stand p l e R s m args below meth c T locs cells slots) (hx : p.tables.exec = Jvm.exec) {pc : Nat} {Ls : Array Slot} {w : Value} {t : FieldType} {rest : List Value} (hlk : meth.locks = false) (hret : meth.sig.returnType = some t) (ht : t.isReference = true) (hw : w.isRef = true)
    (hd : decode c.code pc = .ok (.areturn, 1)) (hc : cells ≤ cs) (hs : slots ≤ ss) (hQ : Q (some w) T.heap locs) : own_Goes p e below s Q cs ss T (mkF m pc Ls (w :: rest)) :=
  own_ret X hx hlk hret (by rcases ref_cases hw with rfl | ⟨a, rfl⟩ <;> cases t <;> simp [FieldType.isReference] at ht <;> rfl) (Or.inr (Or.inr (Or.inr (Or.inr ⟨rfl, ht, hw⟩)))) hd hc hs hQ
theorem own_retV (X : Stand p l e R s m args below meth c T locs cells slots) (hx : p.tables.exec = Jvm.exec) {pc : Nat} {Ls : Array Slot} (hlk : meth.locks = false) (hret : meth.sig.returnType = none)
    (hd : decode c.code pc = .ok (.return_, 1)) (hc : cells ≤ cs) (hs : slots ≤ ss) (hQ : Q none T.heap locs) : own_Goes p e below s Q cs ss T (mkF m pc Ls []) := by
  obtain ⟨fs, hr, hrun, hended, hW, hsame⟩ := X.leave (v := none) (fun _ => rfl) hlk
  exact ⟨_, _, X.returnOut hx hret hd hr, hrun, hended, _, _, rfl, hQ, ⟨_, rfl⟩, hW, hsame.mono hc hs⟩
/-- what holds throughout a body's walk -/
def own_Ctx (Z : State) (y : MethodName) (own : String) (bytes : ByteArray) (maxL : Nat) (ret : Option FieldType) (p : Program) (s : State) (m : MethodId) (meth : Method) (c : Code) : Prop :=
  p.tables.exec = Jvm.exec ∧ c.code = bytes ∧ c.maxLocals = maxL ∧ s.vm.findClass own = some m.cls ∧ meth.name = y.name ∧ meth.sig.returnType = ret ∧ meth.locks = false ∧ Z.Warmed39 s.vm
theorem own_met {Z : State} {y : MethodName} {own : String} {bytes : ByteArray} {maxL : Nat} {ret : Option FieldType} {ws : List Cond} {rm : Room} {as' : Array Value} {h0 : Heap} (hy : y.cls = own) (hpn : plainName own = true)
    (body : ∀ (p : Program) (e : Env) (s : State) (m : MethodId) (below : List Frame) (meth : Method) (c : Code) (s₁ : State), own_Ctx Z y own bytes maxL ret p s m meth c → s₁.heap = h0 → Stand p l e rm s m as' below meth c s₁ [] 0 0 → own_Goes p e below s Q cs ss s₁ (entryFrame m as' maxL)) :
    MetFree l y (head1 (Cond.code y bytes maxL ret :: ws) rm) (fun a U => a = as' ∧ Z.Warmed39 U.vm ∧ U.heap = h0) (fun _ _ _ _ _ => True) (fun _ U o U' => ∃ v L, o = .returned v ∧ Q v U'.heap L ∧ FrameEnd U o U' L cs ss) := by
  subst hy
  refine MetFree.of_bodySF (plainFor_of_name hpn) hisR ?_
  intro p e s m args below meth c s₁ Bd hml0 hP hK
  obtain ⟨rfl, hZ, hh⟩ := hP
  exact body p e s m below meth c s₁ ⟨Bd.exec, Bd.bytes, hml0, findClass_of_methodNamed Bd.named, (name_of_methodNamed Bd.named Bd.method).1, Bd.returns, Bd.notSynchronized, hZ⟩ (by rw [← hh, Bd.state]; rfl) (Stand.of_body Bd)
end Own
end Jvm.RoadKit
namespace Jvm.Pilot.@@N@@
open Jvm Jvm.ClassFile Sem Op Lib Jvm.Free Jvm.Stand Jvm.LawKit Jvm.RoadKit Bundle Jvm.Pilot.@@N@@.Jvm.D
theorem own_ord {args : Array Value} {s : State} {t : Term} {a : Addr} {C n d : String} {k : Int32} (ev : t.eval args s none [] s = some (.ref a)) (h : (Jvm.Cond.eq (Term.field t C n d) (Term.int k)).value args s none s [] = some true) : Fld s s.heap a C n d (.int k) := by
  refine Fld.start ?_
  rw [← fld_at ev]
  simp only [Jvm.Cond.value, Term.int_eval] at h
  cases hq : (Term.field t C n d).eval args s none [] s with
  | none => simp [hq] at h
  | some x => cases x <;> simp [hq] at h; subst h; rfl
theorem own_vne {i j : Int32} (h : i ≠ j) : (Value.int i) ≠ .int j := fun q => h (Value.int.inj q)
def own_r1 (a1 aADMISSION aDISCHARGE aCANCELLATION : Addr) : Int32 := if a1 = aADMISSION then 1 else if a1 = aDISCHARGE then 1 else if a1 = aCANCELLATION then 1 else 0
theorem d1_0 : decode prog_17_method_6_code 0 = .ok (.aload_n 0, 1) := by decide +kernel
theorem d1_1 : decode prog_17_method_6_code 1 = .ok (.getstatic 3, 3) := by decide +kernel
theorem d1_4 : decode prog_17_method_6_code 4 = .ok (.if_acmp .eq 17, 3) := by decide +kernel
theorem d1_7 : decode prog_17_method_6_code 7 = .ok (.aload_n 0, 1) := by decide +kernel
theorem d1_8 : decode prog_17_method_6_code 8 = .ok (.getstatic 7, 3) := by decide +kernel
theorem d1_11 : decode prog_17_method_6_code 11 = .ok (.if_acmp .eq 10, 3) := by decide +kernel
theorem d1_14 : decode prog_17_method_6_code 14 = .ok (.aload_n 0, 1) := by decide +kernel
theorem d1_15 : decode prog_17_method_6_code 15 = .ok (.getstatic 10, 3) := by decide +kernel
theorem d1_18 : decode prog_17_method_6_code 18 = .ok (.if_acmp .ne 7, 3) := by decide +kernel
theorem d1_21 : decode prog_17_method_6_code 21 = .ok (.iconst 1, 1) := by decide +kernel
theorem d1_22 : decode prog_17_method_6_code 22 = .ok (.goto 4, 3) := by decide +kernel
theorem d1_25 : decode prog_17_method_6_code 25 = .ok (.iconst 0, 1) := by decide +kernel
theorem d1_26 : decode prog_17_method_6_code 26 = .ok (.ireturn, 1) := by decide +kernel
theorem pn_0 : plainName "com/example/corsia/corsia/episode/EpisodeEventRequiresEpisodePinLaw" = true := by first | (simp [plainName, overriddenIn]; done) | decide +kernel
theorem pn_1 : plainName "com/example/corsia/corsia/episode/EpisodeEvent" = true := by first | (simp [plainName, overriddenIn]; done) | decide +kernel
theorem pd_0 : parseMethodDescriptor "()Z" = some ⟨[], some .boolean⟩ := by decide +kernel
theorem ef_1 (m : MethodId) (a1 : Addr) : entryFrame m #[(.ref a1)] 1 = mkF m 0 #[.val (.ref a1)] [] := by first | (simp [entryFrame, mkF, argsToLocals, Value.category]; done) | rfl
theorem ef_0 (m : MethodId) (p1 : Int32) : entryFrame m #[(.int p1)] maxLocals = mkF m 0 #[.val (.int p1), .unset, .unset, .unset] [] := by first | (simp [entryFrame, mkF, argsToLocals, Value.category, maxLocals]; done) | rfl
def Q_rm1 (Z : State) (h0 : Heap) (n0 : Nat) (a1 aADMISSION aDISCHARGE aCANCELLATION : Addr) (v : Option Value) (h : Heap) (L : List Loc) : Prop := v = some (.int (own_r1 a1 aADMISSION aDISCHARGE aCANCELLATION)) ∧ Fr n0 L ∧ h = h0
set_option maxRecDepth 65536 in
set_option maxHeartbeats 40000000 in
theorem rm1 (l : Launch) (Z : State) (a0 : Array Value) (hw : ∀ d ∈ tables_1, d.before a0 Z = true) (ws : List Jvm.Cond) (a1 aADMISSION aDISCHARGE aCANCELLATION : Addr) (h0 : Heap) (n0 : Nat) (Z0 : n0 ≤ h0.size) (S_ADMISSION : Sta Z h0 "com/example/corsia/corsia/episode/EpisodeEvent" "ADMISSION" "Lcom/example/corsia/corsia/episode/EpisodeEvent;" (.ref aADMISSION)) (S_DISCHARGE : Sta Z h0 "com/example/corsia/corsia/episode/EpisodeEvent" "DISCHARGE" "Lcom/example/corsia/corsia/episode/EpisodeEvent;" (.ref aDISCHARGE)) (S_CANCELLATION : Sta Z h0 "com/example/corsia/corsia/episode/EpisodeEvent" "CANCELLATION" "Lcom/example/corsia/corsia/episode/EpisodeEvent;" (.ref aCANCELLATION)) :
    MetFree l (⟨"com/example/corsia/corsia/episode/EpisodeEvent", "requiresEpisode", "()Z"⟩ : MethodName) (head1 (Jvm.Cond.code (⟨"com/example/corsia/corsia/episode/EpisodeEvent", "requiresEpisode", "()Z"⟩ : MethodName) prog_17_method_6_code 1 (some .boolean) :: ws) ({ frames := 0, cells := 0, slots := 0, locals := 0 } : Room)) (fun a U => a = #[(.ref a1)] ∧ Z.Warmed39 U.vm ∧ U.heap = h0) (fun _ _ _ _ _ => True) (fun _ U o U' => ∃ rv rL, o = .returned rv ∧ Q_rm1 Z h0 n0 a1 aADMISSION aDISCHARGE aCANCELLATION rv U'.heap rL ∧ FrameEnd U o U' rL ({ frames := 0, cells := 0, slots := 0, locals := 0 } : Room).cells ({ frames := 0, cells := 0, slots := 0, locals := 0 } : Room).slots) := by
  refine own_met (y := (⟨"com/example/corsia/corsia/episode/EpisodeEvent", "requiresEpisode", "()Z"⟩ : MethodName)) (Q := Q_rm1 Z h0 n0 a1 aADMISSION aDISCHARGE aCANCELLATION) (own := "com/example/corsia/corsia/episode/EpisodeEvent") rfl pn_1 ?_
  intro p e s m below meth c s₁ C e0 X0
  obtain ⟨hx, hby, hml, hown, hnm, hret, hlk, hZ⟩ := C
  have N0 := Fr.nil n0
  rw [ef_1]
  show own_Goes _ _ _ _ _ _ _ s₁ (mkF m 0 #[.val (.ref a1)] [])
  refine own_go (fun _ k => XS.aloadN X0.here hx rfl (hb hby d1_0) rfl rfl k) ?_
  show own_Goes _ _ _ _ _ _ _ s₁ (mkF m 1 #[.val (.ref a1)] [(.ref a1)])
  obtain ⟨T1, X1, e1, st1⟩ := getS2 X0 hx hZ hown (host := "") (Or.inl (hw _ (List.mem_of_getElem? (i := 9) rfl))) Via.refl e0 S_ADMISSION (g := (mkF m 1 #[.val (.ref a1)] [(.ref a1)])) rfl (hb hby d1_1)
  refine own_go st1 ?_
  show own_Goes _ _ _ _ _ _ _ T1 (mkF m 4 #[.val (.ref a1)] [(.ref aADMISSION), (.ref a1)])
  by_cases ha4 : a1 = aADMISSION
  · refine own_go (fun _ k => Jvm.RoadKit.acmp (g := (mkF m 4 #[.val (.ref a1)] [(.ref aADMISSION), (.ref a1)])) X1 hx rfl rfl rfl (pc0 := 4) (pc' := 21) (same := true) rfl (hb hby d1_4) rfl (decide_eq_true (congrArg Value.ref ha4)) (by decide) (by decide) k) ?_
    show own_Goes _ _ _ _ _ _ _ T1 (mkF m 21 #[.val (.ref a1)] [])
    refine own_go (fun _ k => XS.iconst X1.here hx rfl (hb hby d1_21) k) ?_
    show own_Goes _ _ _ _ _ _ _ T1 (mkF m 22 #[.val (.ref a1)] [(.int (1 : Int32))])
    refine own_go (fun _ k => XS.goto X1.here hx rfl (pc0 := 22) (pc' := 26) rfl (hb hby d1_22) (by decide) (by decide) k) ?_
    show own_Goes _ _ _ _ _ _ _ T1 (mkF m 26 #[.val (.ref a1)] [(.int (1 : Int32))])
    exact own_retN X1 hx (t := .boolean) hlk hret (by simp) (hb hby d1_26) (by decide) (by decide) ⟨by simp [own_r1, nar, *], N0, e1⟩
  · refine own_go (fun _ k => Jvm.RoadKit.acmp (g := (mkF m 4 #[.val (.ref a1)] [(.ref aADMISSION), (.ref a1)])) X1 hx rfl rfl rfl (pc0 := 4) (pc' := 7) (same := false) rfl (hb hby d1_4) rfl (decide_eq_false fun q => ha4 (Value.ref.inj q)) (by decide) (by decide) k) ?_
    show own_Goes _ _ _ _ _ _ _ T1 (mkF m 7 #[.val (.ref a1)] [])
    refine own_go (fun _ k => XS.aloadN X1.here hx rfl (hb hby d1_7) rfl rfl k) ?_
    show own_Goes _ _ _ _ _ _ _ T1 (mkF m 8 #[.val (.ref a1)] [(.ref a1)])
    obtain ⟨T2, X2, e2, st2⟩ := getS2 X1 hx hZ hown (host := "") (Or.inl (hw _ (List.mem_of_getElem? (i := 12) rfl))) Via.refl e1 S_DISCHARGE (g := (mkF m 8 #[.val (.ref a1)] [(.ref a1)])) rfl (hb hby d1_8)
    refine own_go st2 ?_
    show own_Goes _ _ _ _ _ _ _ T2 (mkF m 11 #[.val (.ref a1)] [(.ref aDISCHARGE), (.ref a1)])
    by_cases ha11 : a1 = aDISCHARGE
    · refine own_go (fun _ k => Jvm.RoadKit.acmp (g := (mkF m 11 #[.val (.ref a1)] [(.ref aDISCHARGE), (.ref a1)])) X2 hx rfl rfl rfl (pc0 := 11) (pc' := 21) (same := true) rfl (hb hby d1_11) rfl (decide_eq_true (congrArg Value.ref ha11)) (by decide) (by decide) k) ?_
      show own_Goes _ _ _ _ _ _ _ T2 (mkF m 21 #[.val (.ref a1)] [])
      refine own_go (fun _ k => XS.iconst X2.here hx rfl (hb hby d1_21) k) ?_
      show own_Goes _ _ _ _ _ _ _ T2 (mkF m 22 #[.val (.ref a1)] [(.int (1 : Int32))])
      refine own_go (fun _ k => XS.goto X2.here hx rfl (pc0 := 22) (pc' := 26) rfl (hb hby d1_22) (by decide) (by decide) k) ?_
      show own_Goes _ _ _ _ _ _ _ T2 (mkF m 26 #[.val (.ref a1)] [(.int (1 : Int32))])
      exact own_retN X2 hx (t := .boolean) hlk hret (by simp) (hb hby d1_26) (by decide) (by decide) ⟨by simp [own_r1, nar, *], N0, e2⟩
    · refine own_go (fun _ k => Jvm.RoadKit.acmp (g := (mkF m 11 #[.val (.ref a1)] [(.ref aDISCHARGE), (.ref a1)])) X2 hx rfl rfl rfl (pc0 := 11) (pc' := 14) (same := false) rfl (hb hby d1_11) rfl (decide_eq_false fun q => ha11 (Value.ref.inj q)) (by decide) (by decide) k) ?_
      show own_Goes _ _ _ _ _ _ _ T2 (mkF m 14 #[.val (.ref a1)] [])
      refine own_go (fun _ k => XS.aloadN X2.here hx rfl (hb hby d1_14) rfl rfl k) ?_
      show own_Goes _ _ _ _ _ _ _ T2 (mkF m 15 #[.val (.ref a1)] [(.ref a1)])
      obtain ⟨T3, X3, e3, st3⟩ := getS2 X2 hx hZ hown (host := "") (Or.inl (hw _ (List.mem_of_getElem? (i := 14) rfl))) Via.refl e2 S_CANCELLATION (g := (mkF m 15 #[.val (.ref a1)] [(.ref a1)])) rfl (hb hby d1_15)
      refine own_go st3 ?_
      show own_Goes _ _ _ _ _ _ _ T3 (mkF m 18 #[.val (.ref a1)] [(.ref aCANCELLATION), (.ref a1)])
      by_cases ha18 : a1 = aCANCELLATION
      · refine own_go (fun _ k => Jvm.RoadKit.acmp (g := (mkF m 18 #[.val (.ref a1)] [(.ref aCANCELLATION), (.ref a1)])) X3 hx rfl rfl rfl (pc0 := 18) (pc' := 21) (same := true) rfl (hb hby d1_18) rfl (decide_eq_true (congrArg Value.ref ha18)) (by decide) (by decide) k) ?_
        show own_Goes _ _ _ _ _ _ _ T3 (mkF m 21 #[.val (.ref a1)] [])
        refine own_go (fun _ k => XS.iconst X3.here hx rfl (hb hby d1_21) k) ?_
        show own_Goes _ _ _ _ _ _ _ T3 (mkF m 22 #[.val (.ref a1)] [(.int (1 : Int32))])
        refine own_go (fun _ k => XS.goto X3.here hx rfl (pc0 := 22) (pc' := 26) rfl (hb hby d1_22) (by decide) (by decide) k) ?_
        show own_Goes _ _ _ _ _ _ _ T3 (mkF m 26 #[.val (.ref a1)] [(.int (1 : Int32))])
        exact own_retN X3 hx (t := .boolean) hlk hret (by simp) (hb hby d1_26) (by decide) (by decide) ⟨by simp [own_r1, nar, *], N0, e3⟩
      · refine own_go (fun _ k => Jvm.RoadKit.acmp (g := (mkF m 18 #[.val (.ref a1)] [(.ref aCANCELLATION), (.ref a1)])) X3 hx rfl rfl rfl (pc0 := 18) (pc' := 25) (same := false) rfl (hb hby d1_18) rfl (decide_eq_false fun q => ha18 (Value.ref.inj q)) (by decide) (by decide) k) ?_
        show own_Goes _ _ _ _ _ _ _ T3 (mkF m 25 #[.val (.ref a1)] [])
        refine own_go (fun _ k => XS.iconst X3.here hx rfl (hb hby d1_25) k) ?_
        show own_Goes _ _ _ _ _ _ _ T3 (mkF m 26 #[.val (.ref a1)] [(.int (0 : Int32))])
        exact own_retN X3 hx (t := .boolean) hlk hret (by simp) (hb hby d1_26) (by decide) (by decide) ⟨by simp [own_r1, nar, *], N0, e3⟩
def Q_rm0 (Z : State) (h0 : Heap) (n0 : Nat)  (v : Option Value) (h : Heap) (L : List Loc) : Prop := v = some (.int 1) ∧ Fr n0 L
set_option maxRecDepth 65536 in
set_option maxHeartbeats 40000000 in
theorem rm0 (l : Launch) (Z : State) (a0 : Array Value) (hw : ∀ d ∈ tables_1, d.before a0 Z = true) (ws : List Jvm.Cond) (p1 : Int32) (aADMISSION aREPORT aDISCHARGE aCANCELLATION aMENTION aREPORT_CANCELLATION : Addr) (h0 : Heap) (n0 : Nat) (Z0 : n0 ≤ h0.size) (S_ADMISSION : Sta Z h0 "com/example/corsia/corsia/episode/EpisodeEvent" "ADMISSION" "Lcom/example/corsia/corsia/episode/EpisodeEvent;" (.ref aADMISSION)) (E_ADMISSION : Exa Z h0 aADMISSION "com/example/corsia/corsia/episode/EpisodeEvent") (S_REPORT : Sta Z h0 "com/example/corsia/corsia/episode/EpisodeEvent" "REPORT" "Lcom/example/corsia/corsia/episode/EpisodeEvent;" (.ref aREPORT)) (E_REPORT : Exa Z h0 aREPORT "com/example/corsia/corsia/episode/EpisodeEvent") (S_DISCHARGE : Sta Z h0 "com/example/corsia/corsia/episode/EpisodeEvent" "DISCHARGE" "Lcom/example/corsia/corsia/episode/EpisodeEvent;" (.ref aDISCHARGE)) (E_DISCHARGE : Exa Z h0 aDISCHARGE "com/example/corsia/corsia/episode/EpisodeEvent") (S_CANCELLATION : Sta Z h0 "com/example/corsia/corsia/episode/EpisodeEvent" "CANCELLATION" "Lcom/example/corsia/corsia/episode/EpisodeEvent;" (.ref aCANCELLATION)) (E_CANCELLATION : Exa Z h0 aCANCELLATION "com/example/corsia/corsia/episode/EpisodeEvent") (S_MENTION : Sta Z h0 "com/example/corsia/corsia/episode/EpisodeEvent" "MENTION" "Lcom/example/corsia/corsia/episode/EpisodeEvent;" (.ref aMENTION)) (E_MENTION : Exa Z h0 aMENTION "com/example/corsia/corsia/episode/EpisodeEvent") (S_REPORT_CANCELLATION : Sta Z h0 "com/example/corsia/corsia/episode/EpisodeEvent" "REPORT_CANCELLATION" "Lcom/example/corsia/corsia/episode/EpisodeEvent;" (.ref aREPORT_CANCELLATION)) (E_REPORT_CANCELLATION : Exa Z h0 aREPORT_CANCELLATION "com/example/corsia/corsia/episode/EpisodeEvent") (ne_ADMISSION_REPORT : aADMISSION ≠ aREPORT) (ne_ADMISSION_DISCHARGE : aADMISSION ≠ aDISCHARGE) (ne_ADMISSION_CANCELLATION : aADMISSION ≠ aCANCELLATION) (ne_ADMISSION_MENTION : aADMISSION ≠ aMENTION) (ne_ADMISSION_REPORT_CANCELLATION : aADMISSION ≠ aREPORT_CANCELLATION) (ne_REPORT_ADMISSION : aREPORT ≠ aADMISSION) (ne_REPORT_DISCHARGE : aREPORT ≠ aDISCHARGE) (ne_REPORT_CANCELLATION : aREPORT ≠ aCANCELLATION) (ne_REPORT_MENTION : aREPORT ≠ aMENTION) (ne_REPORT_REPORT_CANCELLATION : aREPORT ≠ aREPORT_CANCELLATION) (ne_DISCHARGE_ADMISSION : aDISCHARGE ≠ aADMISSION) (ne_DISCHARGE_REPORT : aDISCHARGE ≠ aREPORT) (ne_DISCHARGE_CANCELLATION : aDISCHARGE ≠ aCANCELLATION) (ne_DISCHARGE_MENTION : aDISCHARGE ≠ aMENTION) (ne_DISCHARGE_REPORT_CANCELLATION : aDISCHARGE ≠ aREPORT_CANCELLATION) (ne_CANCELLATION_ADMISSION : aCANCELLATION ≠ aADMISSION) (ne_CANCELLATION_REPORT : aCANCELLATION ≠ aREPORT) (ne_CANCELLATION_DISCHARGE : aCANCELLATION ≠ aDISCHARGE) (ne_CANCELLATION_MENTION : aCANCELLATION ≠ aMENTION) (ne_CANCELLATION_REPORT_CANCELLATION : aCANCELLATION ≠ aREPORT_CANCELLATION) (ne_MENTION_ADMISSION : aMENTION ≠ aADMISSION) (ne_MENTION_REPORT : aMENTION ≠ aREPORT) (ne_MENTION_DISCHARGE : aMENTION ≠ aDISCHARGE) (ne_MENTION_CANCELLATION : aMENTION ≠ aCANCELLATION) (ne_MENTION_REPORT_CANCELLATION : aMENTION ≠ aREPORT_CANCELLATION) (ne_REPORT_CANCELLATION_ADMISSION : aREPORT_CANCELLATION ≠ aADMISSION) (ne_REPORT_CANCELLATION_REPORT : aREPORT_CANCELLATION ≠ aREPORT) (ne_REPORT_CANCELLATION_DISCHARGE : aREPORT_CANCELLATION ≠ aDISCHARGE) (ne_REPORT_CANCELLATION_CANCELLATION : aREPORT_CANCELLATION ≠ aCANCELLATION) (ne_REPORT_CANCELLATION_MENTION : aREPORT_CANCELLATION ≠ aMENTION) :
    MetFree l x (head1 (Jvm.Cond.code x code maxLocals ret :: ws) room_1) (fun a U => a = #[(.int p1)] ∧ Z.Warmed39 U.vm ∧ U.heap = h0) (fun _ _ _ _ _ => True) (fun _ U o U' => ∃ rv rL, o = .returned rv ∧ Q_rm0 Z h0 n0  rv U'.heap rL ∧ FrameEnd U o U' rL room_1.cells room_1.slots) := by
  refine own_met (y := x) (Q := Q_rm0 Z h0 n0 ) (own := "com/example/corsia/corsia/episode/EpisodeEventRequiresEpisodePinLaw") rfl pn_0 ?_
  intro p e s m below meth c s₁ C e0 X0
  obtain ⟨hx, hby, hml, hown, hnm, hret, hlk, hZ⟩ := C
  have N0 := Fr.nil n0
  rw [ef_0]
  show own_Goes _ _ _ _ _ _ _ s₁ (mkF m 0 #[.val (.int p1), .unset, .unset, .unset] [])
  refine own_go (fun _ k => XS.iloadN X0.here hx rfl (hb hby at_0) rfl k) ?_
  show own_Goes _ _ _ _ _ _ _ s₁ (mkF m 1 #[.val (.int p1), .unset, .unset, .unset] [(.int p1)])
  refine own_go (fun t k => X0.ldcInt hx hown (mvT hZ (hw _ (List.mem_of_getElem? (i := 0) rfl))) (g := (mkF m 1 #[.val (.int p1), .unset, .unset, .unset] [(.int p1)])) rfl (hb hby at_1) t k) ?_
  show own_Goes _ _ _ _ _ _ _ s₁ (mkF m 3 #[.val (.int p1), .unset, .unset, .unset] [(.int (2147483647 : Int32)), (.int p1)])
  refine own_go (fun _ k => XS.iand X0.here hx rfl (hb hby at_3) rfl k) ?_
  show own_Goes _ _ _ _ _ _ _ s₁ (mkF m 4 #[.val (.int p1), .unset, .unset, .unset] [(.int (p1 &&& (2147483647 : Int32)))])
  refine own_go (fun _ k => XS.bipush X0.here hx rfl (hb hby at_4) k) ?_
  show own_Goes _ _ _ _ _ _ _ s₁ (mkF m 6 #[.val (.int p1), .unset, .unset, .unset] [(.int (6 : Int32)), (.int (p1 &&& (2147483647 : Int32)))])
  refine own_go (fun _ k => iremM (g := (mkF m 6 #[.val (.int p1), .unset, .unset, .unset] [(.int (6 : Int32)), (.int (p1 &&& (2147483647 : Int32)))])) X0 hx rfl (hb hby at_6) rfl (by decide) k) ?_
  show own_Goes _ _ _ _ _ _ _ s₁ (mkF m 7 #[.val (.int p1), .unset, .unset, .unset] [(.int ((p1 &&& (2147483647 : Int32)) % (6 : Int32)))])
  refine own_go (fun _ k => XS.istoreN X0.here hx rfl (hb hby at_7) rfl (l' := #[.val (.int p1), .val (.int ((p1 &&& (2147483647 : Int32)) % (6 : Int32))), .unset, .unset]) rfl k) ?_
  show own_Goes _ _ _ _ _ _ _ s₁ (mkF m 8 #[.val (.int p1), .val (.int ((p1 &&& (2147483647 : Int32)) % (6 : Int32))), .unset, .unset] [])
  refine own_go (fun _ k => XS.iloadN X0.here hx rfl (hb hby at_8) rfl k) ?_
  show own_Goes _ _ _ _ _ _ _ s₁ (mkF m 9 #[.val (.int p1), .val (.int ((p1 &&& (2147483647 : Int32)) % (6 : Int32))), .unset, .unset] [(.int ((p1 &&& (2147483647 : Int32)) % (6 : Int32)))])
  by_cases hc9 : ((p1 &&& (2147483647 : Int32)) % (6 : Int32)) = (0 : Int32)
  · refine own_go (fun _ k => XS.ifNo X0.here hx rfl (hb hby at_9) rfl ((if0 _ _).trans (teq hc9).2) k) ?_
    show own_Goes _ _ _ _ _ _ _ s₁ (mkF m 12 #[.val (.int p1), .val (.int ((p1 &&& (2147483647 : Int32)) % (6 : Int32))), .unset, .unset] [])
    obtain ⟨T1, X1, e1, st1⟩ := getS2 X0 hx hZ hown (host := "") (Or.inl (hw _ (List.mem_of_getElem? (i := 1) rfl))) Via.refl e0 S_ADMISSION (g := (mkF m 12 #[.val (.int p1), .val (.int ((p1 &&& (2147483647 : Int32)) % (6 : Int32))), .unset, .unset] [])) rfl (hb hby at_12)
    refine own_go st1 ?_
    show own_Goes _ _ _ _ _ _ _ T1 (mkF m 15 #[.val (.int p1), .val (.int ((p1 &&& (2147483647 : Int32)) % (6 : Int32))), .unset, .unset] [(.ref aADMISSION)])
    refine own_go (fun _ k => XS.astoreN X1.here hx rfl (hb hby at_15) rfl rfl (l' := #[.val (.int p1), .val (.int ((p1 &&& (2147483647 : Int32)) % (6 : Int32))), .val (.ref aADMISSION), .unset]) rfl k) ?_
    show own_Goes _ _ _ _ _ _ _ T1 (mkF m 16 #[.val (.int p1), .val (.int ((p1 &&& (2147483647 : Int32)) % (6 : Int32))), .val (.ref aADMISSION), .unset] [])
    refine own_go (fun _ k => XS.iconst X1.here hx rfl (hb hby at_16) k) ?_
    show own_Goes _ _ _ _ _ _ _ T1 (mkF m 17 #[.val (.int p1), .val (.int ((p1 &&& (2147483647 : Int32)) % (6 : Int32))), .val (.ref aADMISSION), .unset] [(.int (1 : Int32))])
    refine own_go (fun _ k => XS.istoreN X1.here hx rfl (hb hby at_17) rfl (l' := #[.val (.int p1), .val (.int ((p1 &&& (2147483647 : Int32)) % (6 : Int32))), .val (.ref aADMISSION), .val (.int (1 : Int32))]) rfl k) ?_
    show own_Goes _ _ _ _ _ _ _ T1 (mkF m 18 #[.val (.int p1), .val (.int ((p1 &&& (2147483647 : Int32)) % (6 : Int32))), .val (.ref aADMISSION), .val (.int (1 : Int32))] [])
    refine own_go (fun _ k => XS.goto X1.here hx rfl (pc0 := 18) (pc' := 83) rfl (hb hby at_18) (by decide) (by decide) k) ?_
    show own_Goes _ _ _ _ _ _ _ T1 (mkF m 83 #[.val (.int p1), .val (.int ((p1 &&& (2147483647 : Int32)) % (6 : Int32))), .val (.ref aADMISSION), .val (.int (1 : Int32))] [])
    refine own_go (fun _ k => XS.aloadN X1.here hx rfl (hb hby at_83) rfl rfl k) ?_
    show own_Goes _ _ _ _ _ _ _ T1 (mkF m 84 #[.val (.int p1), .val (.int ((p1 &&& (2147483647 : Int32)) % (6 : Int32))), .val (.ref aADMISSION), .val (.int (1 : Int32))] [(.ref aADMISSION)])
    obtain ⟨cq2, kq2, zq2a, zq2b, zq2c⟩ := isOf hZ e1 E_ADMISSION
    obtain ⟨_, _, ⟨T2, L2, k2, n2⟩, -, X2, ⟨Lc2, hQ2, l2, y2, z2⟩, st2⟩ := X1.virtualBack hx (y := (⟨"com/example/corsia/corsia/episode/EpisodeEvent", "requiresEpisode", "()Z"⟩ : MethodName)) (z := (⟨"com/example/corsia/corsia/episode/EpisodeEvent", "requiresEpisode", "()Z"⟩ : MethodName)) hown (mvT hZ (hw _ (List.mem_of_getElem? (i := 4) rfl))) (mvT hZ (hw _ (List.mem_of_getElem? (i := 5) rfl))) (notFace_of_selects (args := #[]) (mvT hZ (hw _ (List.mem_of_getElem? (i := 7) rfl)))) (mvT hZ (hw _ (List.mem_of_getElem? (i := 7) rfl))) (mvT hZ (hw _ (List.mem_of_getElem? (i := 6) rfl))) (by decide) (backOf (W := 0) (rm1 l Z a0 hw [] aADMISSION aADMISSION aDISCHARGE aCANCELLATION h0 n0 Z0 S_ADMISSION S_DISCHARGE S_CANCELLATION) hZ (hw _ (List.mem_of_getElem? (i := 8) rfl)) (hw _ (List.mem_of_getElem? (i := 2) rfl)) (by decide) (by decide)) zq2a zq2c (g := (mkF m 84 #[.val (.int p1), .val (.int ((p1 &&& (2147483647 : Int32)) % (6 : Int32))), .val (.ref aADMISSION), .val (.int (1 : Int32))] [(.ref aADMISSION)])) rfl (by rw [hml]; rfl) (Steps.refl _) (argsL := []) (rest := []) (lenOf pd_0 rfl) rfl (by show 2 * 0 + _ ≤ _; exact Nat.le_of_eq rfl) (hb hby at_84) (fun _ _ => ⟨rfl, e1, (by decide : 0 + 0 ≤ _), (by decide : 0 + 0 ≤ _)⟩)
    dsimp only [Pt.U, Pt.locs, Pt.cells, Pt.slots] at X2 l2 y2 z2 st2 hQ2
    subst l2 y2 z2
    obtain ⟨rfl, N2q, e2⟩ := hQ2
    have N2 := Fr.app N0 N2q
    refine own_goS st2 ?_
    show own_Goes _ _ _ _ _ _ _ T2 (mkF m 87 #[.val (.int p1), .val (.int ((p1 &&& (2147483647 : Int32)) % (6 : Int32))), .val (.ref aADMISSION), .val (.int (1 : Int32))] [(.int (own_r1 aADMISSION aADMISSION aDISCHARGE aCANCELLATION))])
    refine own_go (fun _ k => XS.iloadN X2.here hx rfl (hb hby at_87) rfl k) ?_
    show own_Goes _ _ _ _ _ _ _ T2 (mkF m 88 #[.val (.int p1), .val (.int ((p1 &&& (2147483647 : Int32)) % (6 : Int32))), .val (.ref aADMISSION), .val (.int (1 : Int32))] [(.int (1 : Int32)), (.int (own_r1 aADMISSION aADMISSION aDISCHARGE aCANCELLATION))])
    refine own_go (fun _ k => XS.icmpNo X2.here hx rfl (hb hby at_88) rfl (teq (by simp [own_r1, *] : (own_r1 aADMISSION aADMISSION aDISCHARGE aCANCELLATION) = (1 : Int32))).2 k) ?_
    show own_Goes _ _ _ _ _ _ _ T2 (mkF m 91 #[.val (.int p1), .val (.int ((p1 &&& (2147483647 : Int32)) % (6 : Int32))), .val (.ref aADMISSION), .val (.int (1 : Int32))] [])
    refine own_go (fun _ k => XS.iconst X2.here hx rfl (hb hby at_91) k) ?_
    show own_Goes _ _ _ _ _ _ _ T2 (mkF m 92 #[.val (.int p1), .val (.int ((p1 &&& (2147483647 : Int32)) % (6 : Int32))), .val (.ref aADMISSION), .val (.int (1 : Int32))] [(.int (1 : Int32))])
    refine own_go (fun _ k => XS.goto X2.here hx rfl (pc0 := 92) (pc' := 96) rfl (hb hby at_92) (by decide) (by decide) k) ?_
    show own_Goes _ _ _ _ _ _ _ T2 (mkF m 96 #[.val (.int p1), .val (.int ((p1 &&& (2147483647 : Int32)) % (6 : Int32))), .val (.ref aADMISSION), .val (.int (1 : Int32))] [(.int (1 : Int32))])
    exact own_retN X2 hx (t := .boolean) hlk hret (by simp) (hb hby at_96) (by decide) (by decide) ⟨rfl, N2⟩
  · refine own_go (fun _ k => XS.ifYes X0.here hx rfl (pc0 := 9) (pc' := 21) rfl (hb hby at_9) rfl ((if0 _ _).trans (feq hc9).2) (by decide) (by decide) k) ?_
    show own_Goes _ _ _ _ _ _ _ s₁ (mkF m 21 #[.val (.int p1), .val (.int ((p1 &&& (2147483647 : Int32)) % (6 : Int32))), .unset, .unset] [])
    refine own_go (fun _ k => XS.iloadN X0.here hx rfl (hb hby at_21) rfl k) ?_
    show own_Goes _ _ _ _ _ _ _ s₁ (mkF m 22 #[.val (.int p1), .val (.int ((p1 &&& (2147483647 : Int32)) % (6 : Int32))), .unset, .unset] [(.int ((p1 &&& (2147483647 : Int32)) % (6 : Int32)))])
    refine own_go (fun _ k => XS.iconst X0.here hx rfl (hb hby at_22) k) ?_
    show own_Goes _ _ _ _ _ _ _ s₁ (mkF m 23 #[.val (.int p1), .val (.int ((p1 &&& (2147483647 : Int32)) % (6 : Int32))), .unset, .unset] [(.int (1 : Int32)), (.int ((p1 &&& (2147483647 : Int32)) % (6 : Int32)))])
    by_cases hc23 : ((p1 &&& (2147483647 : Int32)) % (6 : Int32)) = (1 : Int32)
    · refine own_go (fun _ k => XS.icmpNo X0.here hx rfl (hb hby at_23) rfl (teq hc23).2 k) ?_
      show own_Goes _ _ _ _ _ _ _ s₁ (mkF m 26 #[.val (.int p1), .val (.int ((p1 &&& (2147483647 : Int32)) % (6 : Int32))), .unset, .unset] [])
      obtain ⟨T3, X3, e3, st3⟩ := getS2 X0 hx hZ hown (host := "") (Or.inl (hw _ (List.mem_of_getElem? (i := 17) rfl))) Via.refl e0 S_DISCHARGE (g := (mkF m 26 #[.val (.int p1), .val (.int ((p1 &&& (2147483647 : Int32)) % (6 : Int32))), .unset, .unset] [])) rfl (hb hby at_26)
      refine own_go st3 ?_
      show own_Goes _ _ _ _ _ _ _ T3 (mkF m 29 #[.val (.int p1), .val (.int ((p1 &&& (2147483647 : Int32)) % (6 : Int32))), .unset, .unset] [(.ref aDISCHARGE)])
      refine own_go (fun _ k => XS.astoreN X3.here hx rfl (hb hby at_29) rfl rfl (l' := #[.val (.int p1), .val (.int ((p1 &&& (2147483647 : Int32)) % (6 : Int32))), .val (.ref aDISCHARGE), .unset]) rfl k) ?_
      show own_Goes _ _ _ _ _ _ _ T3 (mkF m 30 #[.val (.int p1), .val (.int ((p1 &&& (2147483647 : Int32)) % (6 : Int32))), .val (.ref aDISCHARGE), .unset] [])
      refine own_go (fun _ k => XS.iconst X3.here hx rfl (hb hby at_30) k) ?_
      show own_Goes _ _ _ _ _ _ _ T3 (mkF m 31 #[.val (.int p1), .val (.int ((p1 &&& (2147483647 : Int32)) % (6 : Int32))), .val (.ref aDISCHARGE), .unset] [(.int (1 : Int32))])
      refine own_go (fun _ k => XS.istoreN X3.here hx rfl (hb hby at_31) rfl (l' := #[.val (.int p1), .val (.int ((p1 &&& (2147483647 : Int32)) % (6 : Int32))), .val (.ref aDISCHARGE), .val (.int (1 : Int32))]) rfl k) ?_
      show own_Goes _ _ _ _ _ _ _ T3 (mkF m 32 #[.val (.int p1), .val (.int ((p1 &&& (2147483647 : Int32)) % (6 : Int32))), .val (.ref aDISCHARGE), .val (.int (1 : Int32))] [])
      refine own_go (fun _ k => XS.goto X3.here hx rfl (pc0 := 32) (pc' := 83) rfl (hb hby at_32) (by decide) (by decide) k) ?_
      show own_Goes _ _ _ _ _ _ _ T3 (mkF m 83 #[.val (.int p1), .val (.int ((p1 &&& (2147483647 : Int32)) % (6 : Int32))), .val (.ref aDISCHARGE), .val (.int (1 : Int32))] [])
      refine own_go (fun _ k => XS.aloadN X3.here hx rfl (hb hby at_83) rfl rfl k) ?_
      show own_Goes _ _ _ _ _ _ _ T3 (mkF m 84 #[.val (.int p1), .val (.int ((p1 &&& (2147483647 : Int32)) % (6 : Int32))), .val (.ref aDISCHARGE), .val (.int (1 : Int32))] [(.ref aDISCHARGE)])
      obtain ⟨cq4, kq4, zq4a, zq4b, zq4c⟩ := isOf hZ e3 E_DISCHARGE
      obtain ⟨_, _, ⟨T4, L4, k4, n4⟩, -, X4, ⟨Lc4, hQ4, l4, y4, z4⟩, st4⟩ := X3.virtualBack hx (y := (⟨"com/example/corsia/corsia/episode/EpisodeEvent", "requiresEpisode", "()Z"⟩ : MethodName)) (z := (⟨"com/example/corsia/corsia/episode/EpisodeEvent", "requiresEpisode", "()Z"⟩ : MethodName)) hown (mvT hZ (hw _ (List.mem_of_getElem? (i := 4) rfl))) (mvT hZ (hw _ (List.mem_of_getElem? (i := 5) rfl))) (notFace_of_selects (args := #[]) (mvT hZ (hw _ (List.mem_of_getElem? (i := 7) rfl)))) (mvT hZ (hw _ (List.mem_of_getElem? (i := 7) rfl))) (mvT hZ (hw _ (List.mem_of_getElem? (i := 6) rfl))) (by decide) (backOf (W := 0) (rm1 l Z a0 hw [] aDISCHARGE aADMISSION aDISCHARGE aCANCELLATION h0 n0 Z0 S_ADMISSION S_DISCHARGE S_CANCELLATION) hZ (hw _ (List.mem_of_getElem? (i := 8) rfl)) (hw _ (List.mem_of_getElem? (i := 2) rfl)) (by decide) (by decide)) zq4a zq4c (g := (mkF m 84 #[.val (.int p1), .val (.int ((p1 &&& (2147483647 : Int32)) % (6 : Int32))), .val (.ref aDISCHARGE), .val (.int (1 : Int32))] [(.ref aDISCHARGE)])) rfl (by rw [hml]; rfl) (Steps.refl _) (argsL := []) (rest := []) (lenOf pd_0 rfl) rfl (by show 2 * 0 + _ ≤ _; exact Nat.le_of_eq rfl) (hb hby at_84) (fun _ _ => ⟨rfl, e3, (by decide : 0 + 0 ≤ _), (by decide : 0 + 0 ≤ _)⟩)
      dsimp only [Pt.U, Pt.locs, Pt.cells, Pt.slots] at X4 l4 y4 z4 st4 hQ4
      subst l4 y4 z4
      obtain ⟨rfl, N4q, e4⟩ := hQ4
      have N4 := Fr.app N0 N4q
      refine own_goS st4 ?_
      show own_Goes _ _ _ _ _ _ _ T4 (mkF m 87 #[.val (.int p1), .val (.int ((p1 &&& (2147483647 : Int32)) % (6 : Int32))), .val (.ref aDISCHARGE), .val (.int (1 : Int32))] [(.int (own_r1 aDISCHARGE aADMISSION aDISCHARGE aCANCELLATION))])
      refine own_go (fun _ k => XS.iloadN X4.here hx rfl (hb hby at_87) rfl k) ?_
      show own_Goes _ _ _ _ _ _ _ T4 (mkF m 88 #[.val (.int p1), .val (.int ((p1 &&& (2147483647 : Int32)) % (6 : Int32))), .val (.ref aDISCHARGE), .val (.int (1 : Int32))] [(.int (1 : Int32)), (.int (own_r1 aDISCHARGE aADMISSION aDISCHARGE aCANCELLATION))])
      refine own_go (fun _ k => XS.icmpNo X4.here hx rfl (hb hby at_88) rfl (teq (by simp [own_r1, *] : (own_r1 aDISCHARGE aADMISSION aDISCHARGE aCANCELLATION) = (1 : Int32))).2 k) ?_
      show own_Goes _ _ _ _ _ _ _ T4 (mkF m 91 #[.val (.int p1), .val (.int ((p1 &&& (2147483647 : Int32)) % (6 : Int32))), .val (.ref aDISCHARGE), .val (.int (1 : Int32))] [])
      refine own_go (fun _ k => XS.iconst X4.here hx rfl (hb hby at_91) k) ?_
      show own_Goes _ _ _ _ _ _ _ T4 (mkF m 92 #[.val (.int p1), .val (.int ((p1 &&& (2147483647 : Int32)) % (6 : Int32))), .val (.ref aDISCHARGE), .val (.int (1 : Int32))] [(.int (1 : Int32))])
      refine own_go (fun _ k => XS.goto X4.here hx rfl (pc0 := 92) (pc' := 96) rfl (hb hby at_92) (by decide) (by decide) k) ?_
      show own_Goes _ _ _ _ _ _ _ T4 (mkF m 96 #[.val (.int p1), .val (.int ((p1 &&& (2147483647 : Int32)) % (6 : Int32))), .val (.ref aDISCHARGE), .val (.int (1 : Int32))] [(.int (1 : Int32))])
      exact own_retN X4 hx (t := .boolean) hlk hret (by simp) (hb hby at_96) (by decide) (by decide) ⟨rfl, N4⟩
    · refine own_go (fun _ k => XS.icmpYes X0.here hx rfl (pc0 := 23) (pc' := 35) rfl (hb hby at_23) rfl (feq hc23).2 (by decide) (by decide) k) ?_
      show own_Goes _ _ _ _ _ _ _ s₁ (mkF m 35 #[.val (.int p1), .val (.int ((p1 &&& (2147483647 : Int32)) % (6 : Int32))), .unset, .unset] [])
      refine own_go (fun _ k => XS.iloadN X0.here hx rfl (hb hby at_35) rfl k) ?_
      show own_Goes _ _ _ _ _ _ _ s₁ (mkF m 36 #[.val (.int p1), .val (.int ((p1 &&& (2147483647 : Int32)) % (6 : Int32))), .unset, .unset] [(.int ((p1 &&& (2147483647 : Int32)) % (6 : Int32)))])
      refine own_go (fun _ k => XS.iconst X0.here hx rfl (hb hby at_36) k) ?_
      show own_Goes _ _ _ _ _ _ _ s₁ (mkF m 37 #[.val (.int p1), .val (.int ((p1 &&& (2147483647 : Int32)) % (6 : Int32))), .unset, .unset] [(.int (2 : Int32)), (.int ((p1 &&& (2147483647 : Int32)) % (6 : Int32)))])
      by_cases hc37 : ((p1 &&& (2147483647 : Int32)) % (6 : Int32)) = (2 : Int32)
      · refine own_go (fun _ k => XS.icmpNo X0.here hx rfl (hb hby at_37) rfl (teq hc37).2 k) ?_
        show own_Goes _ _ _ _ _ _ _ s₁ (mkF m 40 #[.val (.int p1), .val (.int ((p1 &&& (2147483647 : Int32)) % (6 : Int32))), .unset, .unset] [])
        obtain ⟨T5, X5, e5, st5⟩ := getS2 X0 hx hZ hown (host := "") (Or.inl (hw _ (List.mem_of_getElem? (i := 16) rfl))) Via.refl e0 S_CANCELLATION (g := (mkF m 40 #[.val (.int p1), .val (.int ((p1 &&& (2147483647 : Int32)) % (6 : Int32))), .unset, .unset] [])) rfl (hb hby at_40)
        refine own_go st5 ?_
        show own_Goes _ _ _ _ _ _ _ T5 (mkF m 43 #[.val (.int p1), .val (.int ((p1 &&& (2147483647 : Int32)) % (6 : Int32))), .unset, .unset] [(.ref aCANCELLATION)])
        refine own_go (fun _ k => XS.astoreN X5.here hx rfl (hb hby at_43) rfl rfl (l' := #[.val (.int p1), .val (.int ((p1 &&& (2147483647 : Int32)) % (6 : Int32))), .val (.ref aCANCELLATION), .unset]) rfl k) ?_
        show own_Goes _ _ _ _ _ _ _ T5 (mkF m 44 #[.val (.int p1), .val (.int ((p1 &&& (2147483647 : Int32)) % (6 : Int32))), .val (.ref aCANCELLATION), .unset] [])
        refine own_go (fun _ k => XS.iconst X5.here hx rfl (hb hby at_44) k) ?_
        show own_Goes _ _ _ _ _ _ _ T5 (mkF m 45 #[.val (.int p1), .val (.int ((p1 &&& (2147483647 : Int32)) % (6 : Int32))), .val (.ref aCANCELLATION), .unset] [(.int (1 : Int32))])
        refine own_go (fun _ k => XS.istoreN X5.here hx rfl (hb hby at_45) rfl (l' := #[.val (.int p1), .val (.int ((p1 &&& (2147483647 : Int32)) % (6 : Int32))), .val (.ref aCANCELLATION), .val (.int (1 : Int32))]) rfl k) ?_
        show own_Goes _ _ _ _ _ _ _ T5 (mkF m 46 #[.val (.int p1), .val (.int ((p1 &&& (2147483647 : Int32)) % (6 : Int32))), .val (.ref aCANCELLATION), .val (.int (1 : Int32))] [])
        refine own_go (fun _ k => XS.goto X5.here hx rfl (pc0 := 46) (pc' := 83) rfl (hb hby at_46) (by decide) (by decide) k) ?_
        show own_Goes _ _ _ _ _ _ _ T5 (mkF m 83 #[.val (.int p1), .val (.int ((p1 &&& (2147483647 : Int32)) % (6 : Int32))), .val (.ref aCANCELLATION), .val (.int (1 : Int32))] [])
        refine own_go (fun _ k => XS.aloadN X5.here hx rfl (hb hby at_83) rfl rfl k) ?_
        show own_Goes _ _ _ _ _ _ _ T5 (mkF m 84 #[.val (.int p1), .val (.int ((p1 &&& (2147483647 : Int32)) % (6 : Int32))), .val (.ref aCANCELLATION), .val (.int (1 : Int32))] [(.ref aCANCELLATION)])
        obtain ⟨cq6, kq6, zq6a, zq6b, zq6c⟩ := isOf hZ e5 E_CANCELLATION
        obtain ⟨_, _, ⟨T6, L6, k6, n6⟩, -, X6, ⟨Lc6, hQ6, l6, y6, z6⟩, st6⟩ := X5.virtualBack hx (y := (⟨"com/example/corsia/corsia/episode/EpisodeEvent", "requiresEpisode", "()Z"⟩ : MethodName)) (z := (⟨"com/example/corsia/corsia/episode/EpisodeEvent", "requiresEpisode", "()Z"⟩ : MethodName)) hown (mvT hZ (hw _ (List.mem_of_getElem? (i := 4) rfl))) (mvT hZ (hw _ (List.mem_of_getElem? (i := 5) rfl))) (notFace_of_selects (args := #[]) (mvT hZ (hw _ (List.mem_of_getElem? (i := 7) rfl)))) (mvT hZ (hw _ (List.mem_of_getElem? (i := 7) rfl))) (mvT hZ (hw _ (List.mem_of_getElem? (i := 6) rfl))) (by decide) (backOf (W := 0) (rm1 l Z a0 hw [] aCANCELLATION aADMISSION aDISCHARGE aCANCELLATION h0 n0 Z0 S_ADMISSION S_DISCHARGE S_CANCELLATION) hZ (hw _ (List.mem_of_getElem? (i := 8) rfl)) (hw _ (List.mem_of_getElem? (i := 2) rfl)) (by decide) (by decide)) zq6a zq6c (g := (mkF m 84 #[.val (.int p1), .val (.int ((p1 &&& (2147483647 : Int32)) % (6 : Int32))), .val (.ref aCANCELLATION), .val (.int (1 : Int32))] [(.ref aCANCELLATION)])) rfl (by rw [hml]; rfl) (Steps.refl _) (argsL := []) (rest := []) (lenOf pd_0 rfl) rfl (by show 2 * 0 + _ ≤ _; exact Nat.le_of_eq rfl) (hb hby at_84) (fun _ _ => ⟨rfl, e5, (by decide : 0 + 0 ≤ _), (by decide : 0 + 0 ≤ _)⟩)
        dsimp only [Pt.U, Pt.locs, Pt.cells, Pt.slots] at X6 l6 y6 z6 st6 hQ6
        subst l6 y6 z6
        obtain ⟨rfl, N6q, e6⟩ := hQ6
        have N6 := Fr.app N0 N6q
        refine own_goS st6 ?_
        show own_Goes _ _ _ _ _ _ _ T6 (mkF m 87 #[.val (.int p1), .val (.int ((p1 &&& (2147483647 : Int32)) % (6 : Int32))), .val (.ref aCANCELLATION), .val (.int (1 : Int32))] [(.int (own_r1 aCANCELLATION aADMISSION aDISCHARGE aCANCELLATION))])
        refine own_go (fun _ k => XS.iloadN X6.here hx rfl (hb hby at_87) rfl k) ?_
        show own_Goes _ _ _ _ _ _ _ T6 (mkF m 88 #[.val (.int p1), .val (.int ((p1 &&& (2147483647 : Int32)) % (6 : Int32))), .val (.ref aCANCELLATION), .val (.int (1 : Int32))] [(.int (1 : Int32)), (.int (own_r1 aCANCELLATION aADMISSION aDISCHARGE aCANCELLATION))])
        refine own_go (fun _ k => XS.icmpNo X6.here hx rfl (hb hby at_88) rfl (teq (by simp [own_r1, *] : (own_r1 aCANCELLATION aADMISSION aDISCHARGE aCANCELLATION) = (1 : Int32))).2 k) ?_
        show own_Goes _ _ _ _ _ _ _ T6 (mkF m 91 #[.val (.int p1), .val (.int ((p1 &&& (2147483647 : Int32)) % (6 : Int32))), .val (.ref aCANCELLATION), .val (.int (1 : Int32))] [])
        refine own_go (fun _ k => XS.iconst X6.here hx rfl (hb hby at_91) k) ?_
        show own_Goes _ _ _ _ _ _ _ T6 (mkF m 92 #[.val (.int p1), .val (.int ((p1 &&& (2147483647 : Int32)) % (6 : Int32))), .val (.ref aCANCELLATION), .val (.int (1 : Int32))] [(.int (1 : Int32))])
        refine own_go (fun _ k => XS.goto X6.here hx rfl (pc0 := 92) (pc' := 96) rfl (hb hby at_92) (by decide) (by decide) k) ?_
        show own_Goes _ _ _ _ _ _ _ T6 (mkF m 96 #[.val (.int p1), .val (.int ((p1 &&& (2147483647 : Int32)) % (6 : Int32))), .val (.ref aCANCELLATION), .val (.int (1 : Int32))] [(.int (1 : Int32))])
        exact own_retN X6 hx (t := .boolean) hlk hret (by simp) (hb hby at_96) (by decide) (by decide) ⟨rfl, N6⟩
      · refine own_go (fun _ k => XS.icmpYes X0.here hx rfl (pc0 := 37) (pc' := 49) rfl (hb hby at_37) rfl (feq hc37).2 (by decide) (by decide) k) ?_
        show own_Goes _ _ _ _ _ _ _ s₁ (mkF m 49 #[.val (.int p1), .val (.int ((p1 &&& (2147483647 : Int32)) % (6 : Int32))), .unset, .unset] [])
        refine own_go (fun _ k => XS.iloadN X0.here hx rfl (hb hby at_49) rfl k) ?_
        show own_Goes _ _ _ _ _ _ _ s₁ (mkF m 50 #[.val (.int p1), .val (.int ((p1 &&& (2147483647 : Int32)) % (6 : Int32))), .unset, .unset] [(.int ((p1 &&& (2147483647 : Int32)) % (6 : Int32)))])
        refine own_go (fun _ k => XS.iconst X0.here hx rfl (hb hby at_50) k) ?_
        show own_Goes _ _ _ _ _ _ _ s₁ (mkF m 51 #[.val (.int p1), .val (.int ((p1 &&& (2147483647 : Int32)) % (6 : Int32))), .unset, .unset] [(.int (3 : Int32)), (.int ((p1 &&& (2147483647 : Int32)) % (6 : Int32)))])
        by_cases hc51 : ((p1 &&& (2147483647 : Int32)) % (6 : Int32)) = (3 : Int32)
        · refine own_go (fun _ k => XS.icmpNo X0.here hx rfl (hb hby at_51) rfl (teq hc51).2 k) ?_
          show own_Goes _ _ _ _ _ _ _ s₁ (mkF m 54 #[.val (.int p1), .val (.int ((p1 &&& (2147483647 : Int32)) % (6 : Int32))), .unset, .unset] [])
          obtain ⟨T7, X7, e7, st7⟩ := getS2 X0 hx hZ hown (host := "") (Or.inl (hw _ (List.mem_of_getElem? (i := 10) rfl))) Via.refl e0 S_REPORT (g := (mkF m 54 #[.val (.int p1), .val (.int ((p1 &&& (2147483647 : Int32)) % (6 : Int32))), .unset, .unset] [])) rfl (hb hby at_54)
          refine own_go st7 ?_
          show own_Goes _ _ _ _ _ _ _ T7 (mkF m 57 #[.val (.int p1), .val (.int ((p1 &&& (2147483647 : Int32)) % (6 : Int32))), .unset, .unset] [(.ref aREPORT)])
          refine own_go (fun _ k => XS.astoreN X7.here hx rfl (hb hby at_57) rfl rfl (l' := #[.val (.int p1), .val (.int ((p1 &&& (2147483647 : Int32)) % (6 : Int32))), .val (.ref aREPORT), .unset]) rfl k) ?_
          show own_Goes _ _ _ _ _ _ _ T7 (mkF m 58 #[.val (.int p1), .val (.int ((p1 &&& (2147483647 : Int32)) % (6 : Int32))), .val (.ref aREPORT), .unset] [])
          refine own_go (fun _ k => XS.iconst X7.here hx rfl (hb hby at_58) k) ?_
          show own_Goes _ _ _ _ _ _ _ T7 (mkF m 59 #[.val (.int p1), .val (.int ((p1 &&& (2147483647 : Int32)) % (6 : Int32))), .val (.ref aREPORT), .unset] [(.int (0 : Int32))])
          refine own_go (fun _ k => XS.istoreN X7.here hx rfl (hb hby at_59) rfl (l' := #[.val (.int p1), .val (.int ((p1 &&& (2147483647 : Int32)) % (6 : Int32))), .val (.ref aREPORT), .val (.int (0 : Int32))]) rfl k) ?_
          show own_Goes _ _ _ _ _ _ _ T7 (mkF m 60 #[.val (.int p1), .val (.int ((p1 &&& (2147483647 : Int32)) % (6 : Int32))), .val (.ref aREPORT), .val (.int (0 : Int32))] [])
          refine own_go (fun _ k => XS.goto X7.here hx rfl (pc0 := 60) (pc' := 83) rfl (hb hby at_60) (by decide) (by decide) k) ?_
          show own_Goes _ _ _ _ _ _ _ T7 (mkF m 83 #[.val (.int p1), .val (.int ((p1 &&& (2147483647 : Int32)) % (6 : Int32))), .val (.ref aREPORT), .val (.int (0 : Int32))] [])
          refine own_go (fun _ k => XS.aloadN X7.here hx rfl (hb hby at_83) rfl rfl k) ?_
          show own_Goes _ _ _ _ _ _ _ T7 (mkF m 84 #[.val (.int p1), .val (.int ((p1 &&& (2147483647 : Int32)) % (6 : Int32))), .val (.ref aREPORT), .val (.int (0 : Int32))] [(.ref aREPORT)])
          obtain ⟨cq8, kq8, zq8a, zq8b, zq8c⟩ := isOf hZ e7 E_REPORT
          obtain ⟨_, _, ⟨T8, L8, k8, n8⟩, -, X8, ⟨Lc8, hQ8, l8, y8, z8⟩, st8⟩ := X7.virtualBack hx (y := (⟨"com/example/corsia/corsia/episode/EpisodeEvent", "requiresEpisode", "()Z"⟩ : MethodName)) (z := (⟨"com/example/corsia/corsia/episode/EpisodeEvent", "requiresEpisode", "()Z"⟩ : MethodName)) hown (mvT hZ (hw _ (List.mem_of_getElem? (i := 4) rfl))) (mvT hZ (hw _ (List.mem_of_getElem? (i := 5) rfl))) (notFace_of_selects (args := #[]) (mvT hZ (hw _ (List.mem_of_getElem? (i := 7) rfl)))) (mvT hZ (hw _ (List.mem_of_getElem? (i := 7) rfl))) (mvT hZ (hw _ (List.mem_of_getElem? (i := 6) rfl))) (by decide) (backOf (W := 0) (rm1 l Z a0 hw [] aREPORT aADMISSION aDISCHARGE aCANCELLATION h0 n0 Z0 S_ADMISSION S_DISCHARGE S_CANCELLATION) hZ (hw _ (List.mem_of_getElem? (i := 8) rfl)) (hw _ (List.mem_of_getElem? (i := 2) rfl)) (by decide) (by decide)) zq8a zq8c (g := (mkF m 84 #[.val (.int p1), .val (.int ((p1 &&& (2147483647 : Int32)) % (6 : Int32))), .val (.ref aREPORT), .val (.int (0 : Int32))] [(.ref aREPORT)])) rfl (by rw [hml]; rfl) (Steps.refl _) (argsL := []) (rest := []) (lenOf pd_0 rfl) rfl (by show 2 * 0 + _ ≤ _; exact Nat.le_of_eq rfl) (hb hby at_84) (fun _ _ => ⟨rfl, e7, (by decide : 0 + 0 ≤ _), (by decide : 0 + 0 ≤ _)⟩)
          dsimp only [Pt.U, Pt.locs, Pt.cells, Pt.slots] at X8 l8 y8 z8 st8 hQ8
          subst l8 y8 z8
          obtain ⟨rfl, N8q, e8⟩ := hQ8
          have N8 := Fr.app N0 N8q
          refine own_goS st8 ?_
          show own_Goes _ _ _ _ _ _ _ T8 (mkF m 87 #[.val (.int p1), .val (.int ((p1 &&& (2147483647 : Int32)) % (6 : Int32))), .val (.ref aREPORT), .val (.int (0 : Int32))] [(.int (own_r1 aREPORT aADMISSION aDISCHARGE aCANCELLATION))])
          refine own_go (fun _ k => XS.iloadN X8.here hx rfl (hb hby at_87) rfl k) ?_
          show own_Goes _ _ _ _ _ _ _ T8 (mkF m 88 #[.val (.int p1), .val (.int ((p1 &&& (2147483647 : Int32)) % (6 : Int32))), .val (.ref aREPORT), .val (.int (0 : Int32))] [(.int (0 : Int32)), (.int (own_r1 aREPORT aADMISSION aDISCHARGE aCANCELLATION))])
          refine own_go (fun _ k => XS.icmpNo X8.here hx rfl (hb hby at_88) rfl (teq (by simp [own_r1, *] : (own_r1 aREPORT aADMISSION aDISCHARGE aCANCELLATION) = (0 : Int32))).2 k) ?_
          show own_Goes _ _ _ _ _ _ _ T8 (mkF m 91 #[.val (.int p1), .val (.int ((p1 &&& (2147483647 : Int32)) % (6 : Int32))), .val (.ref aREPORT), .val (.int (0 : Int32))] [])
          refine own_go (fun _ k => XS.iconst X8.here hx rfl (hb hby at_91) k) ?_
          show own_Goes _ _ _ _ _ _ _ T8 (mkF m 92 #[.val (.int p1), .val (.int ((p1 &&& (2147483647 : Int32)) % (6 : Int32))), .val (.ref aREPORT), .val (.int (0 : Int32))] [(.int (1 : Int32))])
          refine own_go (fun _ k => XS.goto X8.here hx rfl (pc0 := 92) (pc' := 96) rfl (hb hby at_92) (by decide) (by decide) k) ?_
          show own_Goes _ _ _ _ _ _ _ T8 (mkF m 96 #[.val (.int p1), .val (.int ((p1 &&& (2147483647 : Int32)) % (6 : Int32))), .val (.ref aREPORT), .val (.int (0 : Int32))] [(.int (1 : Int32))])
          exact own_retN X8 hx (t := .boolean) hlk hret (by simp) (hb hby at_96) (by decide) (by decide) ⟨rfl, N8⟩
        · refine own_go (fun _ k => XS.icmpYes X0.here hx rfl (pc0 := 51) (pc' := 63) rfl (hb hby at_51) rfl (feq hc51).2 (by decide) (by decide) k) ?_
          show own_Goes _ _ _ _ _ _ _ s₁ (mkF m 63 #[.val (.int p1), .val (.int ((p1 &&& (2147483647 : Int32)) % (6 : Int32))), .unset, .unset] [])
          refine own_go (fun _ k => XS.iloadN X0.here hx rfl (hb hby at_63) rfl k) ?_
          show own_Goes _ _ _ _ _ _ _ s₁ (mkF m 64 #[.val (.int p1), .val (.int ((p1 &&& (2147483647 : Int32)) % (6 : Int32))), .unset, .unset] [(.int ((p1 &&& (2147483647 : Int32)) % (6 : Int32)))])
          refine own_go (fun _ k => XS.iconst X0.here hx rfl (hb hby at_64) k) ?_
          show own_Goes _ _ _ _ _ _ _ s₁ (mkF m 65 #[.val (.int p1), .val (.int ((p1 &&& (2147483647 : Int32)) % (6 : Int32))), .unset, .unset] [(.int (4 : Int32)), (.int ((p1 &&& (2147483647 : Int32)) % (6 : Int32)))])
          by_cases hc65 : ((p1 &&& (2147483647 : Int32)) % (6 : Int32)) = (4 : Int32)
          · refine own_go (fun _ k => XS.icmpNo X0.here hx rfl (hb hby at_65) rfl (teq hc65).2 k) ?_
            show own_Goes _ _ _ _ _ _ _ s₁ (mkF m 68 #[.val (.int p1), .val (.int ((p1 &&& (2147483647 : Int32)) % (6 : Int32))), .unset, .unset] [])
            obtain ⟨T9, X9, e9, st9⟩ := getS2 X0 hx hZ hown (host := "") (Or.inl (hw _ (List.mem_of_getElem? (i := 20) rfl))) Via.refl e0 S_REPORT_CANCELLATION (g := (mkF m 68 #[.val (.int p1), .val (.int ((p1 &&& (2147483647 : Int32)) % (6 : Int32))), .unset, .unset] [])) rfl (hb hby at_68)
            refine own_go st9 ?_
            show own_Goes _ _ _ _ _ _ _ T9 (mkF m 71 #[.val (.int p1), .val (.int ((p1 &&& (2147483647 : Int32)) % (6 : Int32))), .unset, .unset] [(.ref aREPORT_CANCELLATION)])
            refine own_go (fun _ k => XS.astoreN X9.here hx rfl (hb hby at_71) rfl rfl (l' := #[.val (.int p1), .val (.int ((p1 &&& (2147483647 : Int32)) % (6 : Int32))), .val (.ref aREPORT_CANCELLATION), .unset]) rfl k) ?_
            show own_Goes _ _ _ _ _ _ _ T9 (mkF m 72 #[.val (.int p1), .val (.int ((p1 &&& (2147483647 : Int32)) % (6 : Int32))), .val (.ref aREPORT_CANCELLATION), .unset] [])
            refine own_go (fun _ k => XS.iconst X9.here hx rfl (hb hby at_72) k) ?_
            show own_Goes _ _ _ _ _ _ _ T9 (mkF m 73 #[.val (.int p1), .val (.int ((p1 &&& (2147483647 : Int32)) % (6 : Int32))), .val (.ref aREPORT_CANCELLATION), .unset] [(.int (0 : Int32))])
            refine own_go (fun _ k => XS.istoreN X9.here hx rfl (hb hby at_73) rfl (l' := #[.val (.int p1), .val (.int ((p1 &&& (2147483647 : Int32)) % (6 : Int32))), .val (.ref aREPORT_CANCELLATION), .val (.int (0 : Int32))]) rfl k) ?_
            show own_Goes _ _ _ _ _ _ _ T9 (mkF m 74 #[.val (.int p1), .val (.int ((p1 &&& (2147483647 : Int32)) % (6 : Int32))), .val (.ref aREPORT_CANCELLATION), .val (.int (0 : Int32))] [])
            refine own_go (fun _ k => XS.goto X9.here hx rfl (pc0 := 74) (pc' := 83) rfl (hb hby at_74) (by decide) (by decide) k) ?_
            show own_Goes _ _ _ _ _ _ _ T9 (mkF m 83 #[.val (.int p1), .val (.int ((p1 &&& (2147483647 : Int32)) % (6 : Int32))), .val (.ref aREPORT_CANCELLATION), .val (.int (0 : Int32))] [])
            refine own_go (fun _ k => XS.aloadN X9.here hx rfl (hb hby at_83) rfl rfl k) ?_
            show own_Goes _ _ _ _ _ _ _ T9 (mkF m 84 #[.val (.int p1), .val (.int ((p1 &&& (2147483647 : Int32)) % (6 : Int32))), .val (.ref aREPORT_CANCELLATION), .val (.int (0 : Int32))] [(.ref aREPORT_CANCELLATION)])
            obtain ⟨cq10, kq10, zq10a, zq10b, zq10c⟩ := isOf hZ e9 E_REPORT_CANCELLATION
            obtain ⟨_, _, ⟨T10, L10, k10, n10⟩, -, X10, ⟨Lc10, hQ10, l10, y10, z10⟩, st10⟩ := X9.virtualBack hx (y := (⟨"com/example/corsia/corsia/episode/EpisodeEvent", "requiresEpisode", "()Z"⟩ : MethodName)) (z := (⟨"com/example/corsia/corsia/episode/EpisodeEvent", "requiresEpisode", "()Z"⟩ : MethodName)) hown (mvT hZ (hw _ (List.mem_of_getElem? (i := 4) rfl))) (mvT hZ (hw _ (List.mem_of_getElem? (i := 5) rfl))) (notFace_of_selects (args := #[]) (mvT hZ (hw _ (List.mem_of_getElem? (i := 7) rfl)))) (mvT hZ (hw _ (List.mem_of_getElem? (i := 7) rfl))) (mvT hZ (hw _ (List.mem_of_getElem? (i := 6) rfl))) (by decide) (backOf (W := 0) (rm1 l Z a0 hw [] aREPORT_CANCELLATION aADMISSION aDISCHARGE aCANCELLATION h0 n0 Z0 S_ADMISSION S_DISCHARGE S_CANCELLATION) hZ (hw _ (List.mem_of_getElem? (i := 8) rfl)) (hw _ (List.mem_of_getElem? (i := 2) rfl)) (by decide) (by decide)) zq10a zq10c (g := (mkF m 84 #[.val (.int p1), .val (.int ((p1 &&& (2147483647 : Int32)) % (6 : Int32))), .val (.ref aREPORT_CANCELLATION), .val (.int (0 : Int32))] [(.ref aREPORT_CANCELLATION)])) rfl (by rw [hml]; rfl) (Steps.refl _) (argsL := []) (rest := []) (lenOf pd_0 rfl) rfl (by show 2 * 0 + _ ≤ _; exact Nat.le_of_eq rfl) (hb hby at_84) (fun _ _ => ⟨rfl, e9, (by decide : 0 + 0 ≤ _), (by decide : 0 + 0 ≤ _)⟩)
            dsimp only [Pt.U, Pt.locs, Pt.cells, Pt.slots] at X10 l10 y10 z10 st10 hQ10
            subst l10 y10 z10
            obtain ⟨rfl, N10q, e10⟩ := hQ10
            have N10 := Fr.app N0 N10q
            refine own_goS st10 ?_
            show own_Goes _ _ _ _ _ _ _ T10 (mkF m 87 #[.val (.int p1), .val (.int ((p1 &&& (2147483647 : Int32)) % (6 : Int32))), .val (.ref aREPORT_CANCELLATION), .val (.int (0 : Int32))] [(.int (own_r1 aREPORT_CANCELLATION aADMISSION aDISCHARGE aCANCELLATION))])
            refine own_go (fun _ k => XS.iloadN X10.here hx rfl (hb hby at_87) rfl k) ?_
            show own_Goes _ _ _ _ _ _ _ T10 (mkF m 88 #[.val (.int p1), .val (.int ((p1 &&& (2147483647 : Int32)) % (6 : Int32))), .val (.ref aREPORT_CANCELLATION), .val (.int (0 : Int32))] [(.int (0 : Int32)), (.int (own_r1 aREPORT_CANCELLATION aADMISSION aDISCHARGE aCANCELLATION))])
            refine own_go (fun _ k => XS.icmpNo X10.here hx rfl (hb hby at_88) rfl (teq (by simp [own_r1, *] : (own_r1 aREPORT_CANCELLATION aADMISSION aDISCHARGE aCANCELLATION) = (0 : Int32))).2 k) ?_
            show own_Goes _ _ _ _ _ _ _ T10 (mkF m 91 #[.val (.int p1), .val (.int ((p1 &&& (2147483647 : Int32)) % (6 : Int32))), .val (.ref aREPORT_CANCELLATION), .val (.int (0 : Int32))] [])
            refine own_go (fun _ k => XS.iconst X10.here hx rfl (hb hby at_91) k) ?_
            show own_Goes _ _ _ _ _ _ _ T10 (mkF m 92 #[.val (.int p1), .val (.int ((p1 &&& (2147483647 : Int32)) % (6 : Int32))), .val (.ref aREPORT_CANCELLATION), .val (.int (0 : Int32))] [(.int (1 : Int32))])
            refine own_go (fun _ k => XS.goto X10.here hx rfl (pc0 := 92) (pc' := 96) rfl (hb hby at_92) (by decide) (by decide) k) ?_
            show own_Goes _ _ _ _ _ _ _ T10 (mkF m 96 #[.val (.int p1), .val (.int ((p1 &&& (2147483647 : Int32)) % (6 : Int32))), .val (.ref aREPORT_CANCELLATION), .val (.int (0 : Int32))] [(.int (1 : Int32))])
            exact own_retN X10 hx (t := .boolean) hlk hret (by simp) (hb hby at_96) (by decide) (by decide) ⟨rfl, N10⟩
          · refine own_go (fun _ k => XS.icmpYes X0.here hx rfl (pc0 := 65) (pc' := 77) rfl (hb hby at_65) rfl (feq hc65).2 (by decide) (by decide) k) ?_
            show own_Goes _ _ _ _ _ _ _ s₁ (mkF m 77 #[.val (.int p1), .val (.int ((p1 &&& (2147483647 : Int32)) % (6 : Int32))), .unset, .unset] [])
            obtain ⟨T11, X11, e11, st11⟩ := getS2 X0 hx hZ hown (host := "") (Or.inl (hw _ (List.mem_of_getElem? (i := 18) rfl))) Via.refl e0 S_MENTION (g := (mkF m 77 #[.val (.int p1), .val (.int ((p1 &&& (2147483647 : Int32)) % (6 : Int32))), .unset, .unset] [])) rfl (hb hby at_77)
            refine own_go st11 ?_
            show own_Goes _ _ _ _ _ _ _ T11 (mkF m 80 #[.val (.int p1), .val (.int ((p1 &&& (2147483647 : Int32)) % (6 : Int32))), .unset, .unset] [(.ref aMENTION)])
            refine own_go (fun _ k => XS.astoreN X11.here hx rfl (hb hby at_80) rfl rfl (l' := #[.val (.int p1), .val (.int ((p1 &&& (2147483647 : Int32)) % (6 : Int32))), .val (.ref aMENTION), .unset]) rfl k) ?_
            show own_Goes _ _ _ _ _ _ _ T11 (mkF m 81 #[.val (.int p1), .val (.int ((p1 &&& (2147483647 : Int32)) % (6 : Int32))), .val (.ref aMENTION), .unset] [])
            refine own_go (fun _ k => XS.iconst X11.here hx rfl (hb hby at_81) k) ?_
            show own_Goes _ _ _ _ _ _ _ T11 (mkF m 82 #[.val (.int p1), .val (.int ((p1 &&& (2147483647 : Int32)) % (6 : Int32))), .val (.ref aMENTION), .unset] [(.int (0 : Int32))])
            refine own_go (fun _ k => XS.istoreN X11.here hx rfl (hb hby at_82) rfl (l' := #[.val (.int p1), .val (.int ((p1 &&& (2147483647 : Int32)) % (6 : Int32))), .val (.ref aMENTION), .val (.int (0 : Int32))]) rfl k) ?_
            show own_Goes _ _ _ _ _ _ _ T11 (mkF m 83 #[.val (.int p1), .val (.int ((p1 &&& (2147483647 : Int32)) % (6 : Int32))), .val (.ref aMENTION), .val (.int (0 : Int32))] [])
            refine own_go (fun _ k => XS.aloadN X11.here hx rfl (hb hby at_83) rfl rfl k) ?_
            show own_Goes _ _ _ _ _ _ _ T11 (mkF m 84 #[.val (.int p1), .val (.int ((p1 &&& (2147483647 : Int32)) % (6 : Int32))), .val (.ref aMENTION), .val (.int (0 : Int32))] [(.ref aMENTION)])
            obtain ⟨cq12, kq12, zq12a, zq12b, zq12c⟩ := isOf hZ e11 E_MENTION
            obtain ⟨_, _, ⟨T12, L12, k12, n12⟩, -, X12, ⟨Lc12, hQ12, l12, y12, z12⟩, st12⟩ := X11.virtualBack hx (y := (⟨"com/example/corsia/corsia/episode/EpisodeEvent", "requiresEpisode", "()Z"⟩ : MethodName)) (z := (⟨"com/example/corsia/corsia/episode/EpisodeEvent", "requiresEpisode", "()Z"⟩ : MethodName)) hown (mvT hZ (hw _ (List.mem_of_getElem? (i := 4) rfl))) (mvT hZ (hw _ (List.mem_of_getElem? (i := 5) rfl))) (notFace_of_selects (args := #[]) (mvT hZ (hw _ (List.mem_of_getElem? (i := 7) rfl)))) (mvT hZ (hw _ (List.mem_of_getElem? (i := 7) rfl))) (mvT hZ (hw _ (List.mem_of_getElem? (i := 6) rfl))) (by decide) (backOf (W := 0) (rm1 l Z a0 hw [] aMENTION aADMISSION aDISCHARGE aCANCELLATION h0 n0 Z0 S_ADMISSION S_DISCHARGE S_CANCELLATION) hZ (hw _ (List.mem_of_getElem? (i := 8) rfl)) (hw _ (List.mem_of_getElem? (i := 2) rfl)) (by decide) (by decide)) zq12a zq12c (g := (mkF m 84 #[.val (.int p1), .val (.int ((p1 &&& (2147483647 : Int32)) % (6 : Int32))), .val (.ref aMENTION), .val (.int (0 : Int32))] [(.ref aMENTION)])) rfl (by rw [hml]; rfl) (Steps.refl _) (argsL := []) (rest := []) (lenOf pd_0 rfl) rfl (by show 2 * 0 + _ ≤ _; exact Nat.le_of_eq rfl) (hb hby at_84) (fun _ _ => ⟨rfl, e11, (by decide : 0 + 0 ≤ _), (by decide : 0 + 0 ≤ _)⟩)
            dsimp only [Pt.U, Pt.locs, Pt.cells, Pt.slots] at X12 l12 y12 z12 st12 hQ12
            subst l12 y12 z12
            obtain ⟨rfl, N12q, e12⟩ := hQ12
            have N12 := Fr.app N0 N12q
            refine own_goS st12 ?_
            show own_Goes _ _ _ _ _ _ _ T12 (mkF m 87 #[.val (.int p1), .val (.int ((p1 &&& (2147483647 : Int32)) % (6 : Int32))), .val (.ref aMENTION), .val (.int (0 : Int32))] [(.int (own_r1 aMENTION aADMISSION aDISCHARGE aCANCELLATION))])
            refine own_go (fun _ k => XS.iloadN X12.here hx rfl (hb hby at_87) rfl k) ?_
            show own_Goes _ _ _ _ _ _ _ T12 (mkF m 88 #[.val (.int p1), .val (.int ((p1 &&& (2147483647 : Int32)) % (6 : Int32))), .val (.ref aMENTION), .val (.int (0 : Int32))] [(.int (0 : Int32)), (.int (own_r1 aMENTION aADMISSION aDISCHARGE aCANCELLATION))])
            refine own_go (fun _ k => XS.icmpNo X12.here hx rfl (hb hby at_88) rfl (teq (by simp [own_r1, *] : (own_r1 aMENTION aADMISSION aDISCHARGE aCANCELLATION) = (0 : Int32))).2 k) ?_
            show own_Goes _ _ _ _ _ _ _ T12 (mkF m 91 #[.val (.int p1), .val (.int ((p1 &&& (2147483647 : Int32)) % (6 : Int32))), .val (.ref aMENTION), .val (.int (0 : Int32))] [])
            refine own_go (fun _ k => XS.iconst X12.here hx rfl (hb hby at_91) k) ?_
            show own_Goes _ _ _ _ _ _ _ T12 (mkF m 92 #[.val (.int p1), .val (.int ((p1 &&& (2147483647 : Int32)) % (6 : Int32))), .val (.ref aMENTION), .val (.int (0 : Int32))] [(.int (1 : Int32))])
            refine own_go (fun _ k => XS.goto X12.here hx rfl (pc0 := 92) (pc' := 96) rfl (hb hby at_92) (by decide) (by decide) k) ?_
            show own_Goes _ _ _ _ _ _ _ T12 (mkF m 96 #[.val (.int p1), .val (.int ((p1 &&& (2147483647 : Int32)) % (6 : Int32))), .val (.ref aMENTION), .val (.int (0 : Int32))] [(.int (1 : Int32))])
            exact own_retN X12 hx (t := .boolean) hlk hret (by simp) (hb hby at_96) (by decide) (by decide) ⟨rfl, N12⟩
set_option maxRecDepth 65536 in
set_option maxHeartbeats 40000000 in
theorem comes_1 {Post : Tables → Env → Array Value → State → Outcome → State → Prop} (hpost : ∀ tb e args s v u, (limb_1_1.after args s (.returned v) u = true ∧ limb_1_2.after args s (.returned v) u = true ∧ True) → FrameEnd s (.returned v) u (Jvm.fieldLocs frame_1_writes args s ++ Jvm.arrayLocs frame_1_arrays args s ++ Jvm.staticLocs frame_1_statics s) 0 0 → Post tb e args s (.returned v) u) :
    ArmFor flags0 classFile x code maxLocals ret World_1 tables_1 room_1 Calls_1 rest_1 Pre_1 Post := by
  intro l hfl _ _ p e ha hc hk s m args below hf hA hF happ hP
  obtain ⟨hcalls, hrest, hpre⟩ := hP
  obtain ⟨-, -, -, hnamed, -, -, -, hat⟩ := (Spec.applies_iff hf).mp happ
  obtain ⟨hg, hn⟩ := and_e (Cond.before_iff.mp (show (Jvm.Cond.and given_1 narrow_1).before args s = true from hpre))
  obtain ⟨g0, gr0⟩ := and_e hg
  have ga0 := gr0
  obtain ⟨w0, rfl⟩ : ∃ w0 : Value, args = #[w0] := by
    have hs : args.size = 1 := by simpa [Cond.value, given_1] using g0
    obtain ⟨L⟩ := args
    match L, hs with
    | [w0], _ => exact ⟨w0, rfl⟩
  have hw := fun d (hd : d ∈ tables_1) => atoms_spec (ws := Jvm.Cond.code x code maxLocals ret :: tables_1) hat d (List.mem_cons_of_mem _ hd)
  have hfit : Fit s := fun {y c} hc i hi => by
    obtain ⟨ha, rfl⟩ := Array.getElem?_eq_some_iff.mp hc
    have q := List.all_eq_true.mp ((Array.all_eq_true_iff_forall_mem.mp hF) _ (Array.getElem_mem ha)) i (List.mem_range.mpr hi)
    simpa [Array.getElem?_eq_getElem hi] using q
  obtain ⟨i0, ei0⟩ := is_v ga0
  obtain rfl : w0 = (.int i0) := Option.some.inj ei0
  obtain ⟨c0, r0⟩ := and_e hn
  obtain ⟨c1, r1⟩ := and_e r0
  obtain ⟨c2, r2⟩ := and_e r1
  obtain ⟨c3, r3⟩ := and_e r2
  obtain ⟨c4, r4⟩ := and_e r3
  obtain ⟨c5, r5⟩ := and_e r4
  obtain ⟨c6, r6⟩ := and_e r5
  obtain ⟨c7, r7⟩ := and_e r6
  obtain ⟨c8, r8⟩ := and_e r7
  obtain ⟨c9, r9⟩ := and_e r8
  obtain ⟨c10, r10⟩ := and_e r9
  have c11 := r10
  obtain ⟨aADMISSION, v_ADMISSION⟩ := exa_v c0
  have E_ADMISSION := Exa.start v_ADMISSION c0
  have S_ADMISSION := Sta.start v_ADMISSION (Or.inr ⟨(hw _ (List.mem_of_getElem? (i := 2) rfl)), (hw _ (List.mem_of_getElem? (i := 3) rfl))⟩)
  have O_ADMISSION := own_ord v_ADMISSION c3
  obtain ⟨aREPORT, v_REPORT⟩ := exa_v c1
  have E_REPORT := Exa.start v_REPORT c1
  have S_REPORT := Sta.start v_REPORT (Or.inr ⟨(hw _ (List.mem_of_getElem? (i := 2) rfl)), (hw _ (List.mem_of_getElem? (i := 11) rfl))⟩)
  have O_REPORT := own_ord v_REPORT c2
  obtain ⟨aDISCHARGE, v_DISCHARGE⟩ := exa_v c4
  have E_DISCHARGE := Exa.start v_DISCHARGE c4
  have S_DISCHARGE := Sta.start v_DISCHARGE (Or.inr ⟨(hw _ (List.mem_of_getElem? (i := 2) rfl)), (hw _ (List.mem_of_getElem? (i := 13) rfl))⟩)
  have O_DISCHARGE := own_ord v_DISCHARGE c5
  obtain ⟨aCANCELLATION, v_CANCELLATION⟩ := exa_v c6
  have E_CANCELLATION := Exa.start v_CANCELLATION c6
  have S_CANCELLATION := Sta.start v_CANCELLATION (Or.inr ⟨(hw _ (List.mem_of_getElem? (i := 2) rfl)), (hw _ (List.mem_of_getElem? (i := 15) rfl))⟩)
  have O_CANCELLATION := own_ord v_CANCELLATION c7
  obtain ⟨aMENTION, v_MENTION⟩ := exa_v c8
  have E_MENTION := Exa.start v_MENTION c8
  have S_MENTION := Sta.start v_MENTION (Or.inr ⟨(hw _ (List.mem_of_getElem? (i := 2) rfl)), (hw _ (List.mem_of_getElem? (i := 19) rfl))⟩)
  have O_MENTION := own_ord v_MENTION c9
  obtain ⟨aREPORT_CANCELLATION, v_REPORT_CANCELLATION⟩ := exa_v c10
  have E_REPORT_CANCELLATION := Exa.start v_REPORT_CANCELLATION c10
  have S_REPORT_CANCELLATION := Sta.start v_REPORT_CANCELLATION (Or.inr ⟨(hw _ (List.mem_of_getElem? (i := 2) rfl)), (hw _ (List.mem_of_getElem? (i := 21) rfl))⟩)
  have O_REPORT_CANCELLATION := own_ord v_REPORT_CANCELLATION c11
  obtain ⟨n, o, h1, h2, h3, _, L, rfl, ⟨rfl, N⟩, hq⟩ := rm0 l s _ hw tables_1 i0 aADMISSION aREPORT aDISCHARGE aCANCELLATION aMENTION aREPORT_CANCELLATION s.heap s.heap.size (Nat.le_refl _) S_ADMISSION E_ADMISSION S_REPORT E_REPORT S_DISCHARGE E_DISCHARGE S_CANCELLATION E_CANCELLATION S_MENTION E_MENTION S_REPORT_CANCELLATION E_REPORT_CANCELLATION (Fld.ne O_ADMISSION O_REPORT (own_vne (by decide))) (Fld.ne O_ADMISSION O_DISCHARGE (own_vne (by decide))) (Fld.ne O_ADMISSION O_CANCELLATION (own_vne (by decide))) (Fld.ne O_ADMISSION O_MENTION (own_vne (by decide))) (Fld.ne O_ADMISSION O_REPORT_CANCELLATION (own_vne (by decide))) (Fld.ne O_REPORT O_ADMISSION (own_vne (by decide))) (Fld.ne O_REPORT O_DISCHARGE (own_vne (by decide))) (Fld.ne O_REPORT O_CANCELLATION (own_vne (by decide))) (Fld.ne O_REPORT O_MENTION (own_vne (by decide))) (Fld.ne O_REPORT O_REPORT_CANCELLATION (own_vne (by decide))) (Fld.ne O_DISCHARGE O_ADMISSION (own_vne (by decide))) (Fld.ne O_DISCHARGE O_REPORT (own_vne (by decide))) (Fld.ne O_DISCHARGE O_CANCELLATION (own_vne (by decide))) (Fld.ne O_DISCHARGE O_MENTION (own_vne (by decide))) (Fld.ne O_DISCHARGE O_REPORT_CANCELLATION (own_vne (by decide))) (Fld.ne O_CANCELLATION O_ADMISSION (own_vne (by decide))) (Fld.ne O_CANCELLATION O_REPORT (own_vne (by decide))) (Fld.ne O_CANCELLATION O_DISCHARGE (own_vne (by decide))) (Fld.ne O_CANCELLATION O_MENTION (own_vne (by decide))) (Fld.ne O_CANCELLATION O_REPORT_CANCELLATION (own_vne (by decide))) (Fld.ne O_MENTION O_ADMISSION (own_vne (by decide))) (Fld.ne O_MENTION O_REPORT (own_vne (by decide))) (Fld.ne O_MENTION O_DISCHARGE (own_vne (by decide))) (Fld.ne O_MENTION O_CANCELLATION (own_vne (by decide))) (Fld.ne O_MENTION O_REPORT_CANCELLATION (own_vne (by decide))) (Fld.ne O_REPORT_CANCELLATION O_ADMISSION (own_vne (by decide))) (Fld.ne O_REPORT_CANCELLATION O_REPORT (own_vne (by decide))) (Fld.ne O_REPORT_CANCELLATION O_DISCHARGE (own_vne (by decide))) (Fld.ne O_REPORT_CANCELLATION O_CANCELLATION (own_vne (by decide))) (Fld.ne O_REPORT_CANCELLATION O_MENTION (own_vne (by decide))) p e ha hc hk s m _ below hf ((Spec.applies_iff_loose hf).mp happ).1 ⟨rfl, State.Warmed39.refl s, rfl⟩ trivial
  refine ⟨n, _, h1, h2, h3, hpost _ _ _ _ _ _ ⟨Cond.after_iff.mpr rfl, Cond.after_iff.mpr (eq_i res_at (Term.int_eval (1)) rfl), trivial⟩ ⟨hq.1, hq.2.1, (hq.2.2.sift fun y hy => Or.inr (N y hy)).mono (by decide) (by decide)⟩⟩
theorem main_1_1 : Claimed_1_1 := comes_1 fun _ _ _ _ _ _ h hF => ⟨h.1, hF⟩
theorem main_1_2 : Claimed_1_2 := comes_1 fun _ _ _ _ _ _ h hF => ⟨h.2.1, hF⟩
end Jvm.Pilot.@@N@@
namespace Jvm.Pilot.@@N@@
open Jvm Jvm.ClassFile Sem Op Lib Jvm.Free Jvm.Stand Jvm.Pilot.@@N@@.Jvm.D
/-! MADE BY PROGRAM (witnessworld.py) out of the Statement's table words and the real class files: 12 classes; the members and pool entries that the words name. The judged class is class 1, her method 1. -/
namespace start1
open Jvm.ClassFile
def u (s : String) : CpInfo := .utf8 (stringToUtf16 s)
/-- a pool by its gaps: so many unusable entries, then the entry; so many at the end -/
def gap : Nat → List CpInfo → List CpInfo
  | 0, r => r
  | n + 1, r => .unusable :: gap n r
def poolList (es : List (Nat × CpInfo)) (last : Nat) : List CpInfo := es.foldr (fun e r => gap e.1 (e.2 :: r)) (gap last [])
def pool (es : List (Nat × CpInfo)) (last : Nat) : Array CpInfo := ⟨poolList es last⟩
def fileOf (pool : Array CpInfo) (this : Nat) (attrs : Array Attribute := #[]) (ms : Array MethodInfo := #[]) (fl : Nat := 33) (sup : Nat := 0) (ifs : Array Nat := #[]) (fds : Array FieldInfo := #[]) : ClassFile where
  minorVersion := 0
  majorVersion := 65
  constantPool := pool
  accessFlags := fl
  thisClass := this
  superClass := sup
  interfaces := ifs
  fields := fds
  methods := ms
  attributes := attrs
def plain (name : String) (sup : Option ClassId) : Class where
  name := name
  kind := .ordinary
  loader := none
  accessFlags := 33
  super := sup
  interfaces := #[]
  cf := none
  fields := #[]
  methods := #[]
  instanceTypes := #[]
  staticTypes := #[]
  resolved := #[]
  callSites := []
  init := .initialized
  statics := none
  mirror := none

def pool0 : Array CpInfo := pool [(5, u "<init>"), (0, u "()V"), (1, .class_ 10), (1, u "java/lang/Object")] 113

def k0m0 : Method := { name := "<init>", desc := "()V", sig := { parameters := [], returnType := none }, accessFlags := 1, code := none }
/-- java/lang/Object -/
def k0 : Class := { plain "java/lang/Object" none with
  accessFlags := 33
  interfaces := #[]
  cf := some (fileOf pool0 8 #[] #[{ accessFlags := 1, nameIndex := 5, descriptorIndex := 6, attributes := #[] }] 33 0 #[] #[])
  fields := #[]
  methods := #[k0m0]
  instanceTypes := #[]
  staticTypes := #[]
  resolved := Array.replicate 124 none
  statics := none }

def pool1 : Array CpInfo := pool [(2, .class_ 4), (1, u "java/lang/Object"), (0, u "<init>"), (0, u "()V"), (0, .integer 2147483647), (0, .fieldref 9 10), (0, .class_ 11), (0, .nameAndType 12 13), (0, u "com/example/corsia/corsia/episode/EpisodeEvent"), (0, u "ADMISSION"), (0, u "Lcom/example/corsia/corsia/episode/EpisodeEvent;"), (0, .fieldref 9 15), (0, .nameAndType 16 13), (0, u "DISCHARGE"), (0, .fieldref 9 18), (0, .nameAndType 19 13), (0, u "CANCELLATION"), (0, .fieldref 9 21), (0, .nameAndType 22 13), (0, u "REPORT"), (0, .fieldref 9 24), (0, .nameAndType 25 13), (0, u "REPORT_CANCELLATION"), (0, .fieldref 9 27), (0, .nameAndType 28 13), (0, u "MENTION"), (0, .methodref 9 30), (0, .nameAndType 31 32), (0, u "requiresEpisode"), (0, u "()Z"), (0, .class_ 34), (0, u "com/example/corsia/corsia/episode/EpisodeEventRequiresEpisodePinLaw"), (2, u "law"), (0, u "(I)Z")] 3

def k1m0 : Method := { name := "<init>", desc := "()V", sig := { parameters := [], returnType := none }, accessFlags := 1, code := none }
def k1c1 : Code := { maxStack := 2, maxLocals := 4, code := code, exceptionTable := #[], attributes := #[] }
def k1m1 : Method := { name := "law", desc := "(I)Z", sig := { parameters := [.int], returnType := some .boolean }, accessFlags := 9, code := some k1c1 }
/-- com/example/corsia/corsia/episode/EpisodeEventRequiresEpisodePinLaw -/
def k1 : Class := { plain "com/example/corsia/corsia/episode/EpisodeEventRequiresEpisodePinLaw" (some 0) with
  accessFlags := 49
  interfaces := #[]
  cf := some (fileOf pool1 33 #[] #[{ accessFlags := 1, nameIndex := 5, descriptorIndex := 6, attributes := #[] }, { accessFlags := 9, nameIndex := 37, descriptorIndex := 38, attributes := #[] }] 49 2 #[] #[])
  fields := #[]
  methods := #[k1m0, k1m1]
  instanceTypes := #[]
  staticTypes := #[]
  resolved := Array.replicate 42 none
  statics := none }

def pool2 : Array CpInfo := pool [(1, .class_ 2), (0, u "java/lang/constant/Constable"), (0, .class_ 4), (0, u "java/lang/Object")] 6

/-- java/lang/constant/Constable -/
def k2 : Class := { plain "java/lang/constant/Constable" (some 0) with
  accessFlags := 1537
  interfaces := #[]
  cf := some (fileOf pool2 1 #[] #[] 1537 3 #[] #[])
  fields := #[]
  methods := #[]
  instanceTypes := #[]
  staticTypes := #[]
  resolved := Array.replicate 11 none
  statics := none }

def pool3 : Array CpInfo := pool [(1, .class_ 2), (0, u "java/lang/Comparable"), (0, .class_ 4), (0, u "java/lang/Object")] 7

/-- java/lang/Comparable -/
def k3 : Class := { plain "java/lang/Comparable" (some 0) with
  accessFlags := 1537
  interfaces := #[]
  cf := some (fileOf pool3 1 #[] #[] 1537 3 #[] #[])
  fields := #[]
  methods := #[]
  instanceTypes := #[]
  staticTypes := #[]
  resolved := Array.replicate 12 none
  statics := none }

def pool4 : Array CpInfo := pool [(1, .class_ 2), (0, u "java/io/Serializable"), (0, .class_ 4), (0, u "java/lang/Object")] 2

/-- java/io/Serializable -/
def k4 : Class := { plain "java/io/Serializable" (some 0) with
  accessFlags := 1537
  interfaces := #[]
  cf := some (fileOf pool4 1 #[] #[] 1537 3 #[] #[])
  fields := #[]
  methods := #[]
  instanceTypes := #[]
  staticTypes := #[]
  resolved := Array.replicate 7 none
  statics := none }

def pool5 : Array CpInfo := pool [(2, .class_ 4), (1, u "java/lang/Enum"), (0, u "name"), (0, u "Ljava/lang/String;"), (2, u "ordinal"), (0, u "I"), (1, .class_ 14), (1, u "java/lang/Object"), (4, u "hash"), (86, .class_ 108), (1, u "java/lang/Enum$EnumDesc"), (2, .class_ 112), (0, u "java/lang/constant/Constable"), (0, .class_ 114), (0, u "java/lang/Comparable"), (0, .class_ 116), (0, u "java/io/Serializable")] 87

/-- java/lang/Enum -/
def k5 : Class := { plain "java/lang/Enum" (some 0) with
  accessFlags := 1057
  interfaces := #[2, 3, 4]
  cf := some (fileOf pool5 2 #[.nestMembers #[106]] #[] 1057 12 #[111, 113, 115] #[{ accessFlags := 18, nameIndex := 5, descriptorIndex := 6, attributes := #[] }, { accessFlags := 18, nameIndex := 9, descriptorIndex := 10, attributes := #[] }, { accessFlags := 2, nameIndex := 19, descriptorIndex := 10, attributes := #[] }])
  fields := #[{ name := "name", type := (.object "java/lang/String"), accessFlags := 18, slot := 0, constantValue := 0 }, { name := "ordinal", type := .int, accessFlags := 18, slot := 1, constantValue := 0 }, { name := "hash", type := .int, accessFlags := 2, slot := 2, constantValue := 0 }]
  methods := #[]
  instanceTypes := #[(.object "java/lang/String"), .int, .int]
  staticTypes := #[]
  resolved := Array.replicate 204 none
  statics := none }

def pool6 : Array CpInfo := pool [(1, .class_ 2), (0, u "com/example/corsia/corsia/episode/EpisodeEvent"), (0, .fieldref 1 4), (0, .nameAndType 5 6), (0, u "ADMISSION"), (0, u "Lcom/example/corsia/corsia/episode/EpisodeEvent;"), (0, .fieldref 1 8), (0, .nameAndType 9 6), (0, u "DISCHARGE"), (0, .fieldref 1 11), (0, .nameAndType 12 6), (0, u "CANCELLATION"), (2, u "REPORT"), (2, u "REPORT_CANCELLATION"), (2, u "MENTION"), (2, u "$VALUES"), (0, u "[Lcom/example/corsia/corsia/episode/EpisodeEvent;"), (6, .class_ 34), (1, u "java/lang/Enum"), (8, u "admissionEvent"), (0, u "Ljava/lang/String;"), (17, u "()Z"), (7, u "ADT"), (12, u "MESSAGE_CODES"), (0, u "Ljava/util/List;"), (45, u "requiresEpisode")] 7

def k6c0 : Code := { maxStack := 2, maxLocals := 1, code := prog_17_method_6_code, exceptionTable := #[], attributes := #[] }
def k6m0 : Method := { name := "requiresEpisode", desc := "()Z", sig := { parameters := [], returnType := some .boolean }, accessFlags := 1, code := some k6c0 }
/-- com/example/corsia/corsia/episode/EpisodeEvent -/
def k6 : Class := { plain "com/example/corsia/corsia/episode/EpisodeEvent" (some 5) with
  accessFlags := 16432
  interfaces := #[]
  cf := some (fileOf pool6 1 #[] #[{ accessFlags := 1, nameIndex := 130, descriptorIndex := 62, attributes := #[] }] 16432 32 #[] #[{ accessFlags := 16409, nameIndex := 5, descriptorIndex := 6, attributes := #[] }, { accessFlags := 16409, nameIndex := 9, descriptorIndex := 6, attributes := #[] }, { accessFlags := 16409, nameIndex := 12, descriptorIndex := 6, attributes := #[] }, { accessFlags := 16409, nameIndex := 15, descriptorIndex := 6, attributes := #[] }, { accessFlags := 16409, nameIndex := 18, descriptorIndex := 6, attributes := #[] }, { accessFlags := 16409, nameIndex := 21, descriptorIndex := 6, attributes := #[] }, { accessFlags := 26, nameIndex := 70, descriptorIndex := 44, attributes := #[] }, { accessFlags := 26, nameIndex := 83, descriptorIndex := 84, attributes := #[] }, { accessFlags := 18, nameIndex := 43, descriptorIndex := 44, attributes := #[] }, { accessFlags := 4122, nameIndex := 24, descriptorIndex := 25, attributes := #[] }])
  fields := #[{ name := "ADMISSION", type := (.object "com/example/corsia/corsia/episode/EpisodeEvent"), accessFlags := 16409, slot := 0, constantValue := 0 }, { name := "DISCHARGE", type := (.object "com/example/corsia/corsia/episode/EpisodeEvent"), accessFlags := 16409, slot := 1, constantValue := 0 }, { name := "CANCELLATION", type := (.object "com/example/corsia/corsia/episode/EpisodeEvent"), accessFlags := 16409, slot := 2, constantValue := 0 }, { name := "REPORT", type := (.object "com/example/corsia/corsia/episode/EpisodeEvent"), accessFlags := 16409, slot := 3, constantValue := 0 }, { name := "REPORT_CANCELLATION", type := (.object "com/example/corsia/corsia/episode/EpisodeEvent"), accessFlags := 16409, slot := 4, constantValue := 0 }, { name := "MENTION", type := (.object "com/example/corsia/corsia/episode/EpisodeEvent"), accessFlags := 16409, slot := 5, constantValue := 0 }, { name := "ADT", type := (.object "java/lang/String"), accessFlags := 26, slot := 6, constantValue := 0 }, { name := "MESSAGE_CODES", type := (.object "java/util/List"), accessFlags := 26, slot := 7, constantValue := 0 }, { name := "admissionEvent", type := (.object "java/lang/String"), accessFlags := 18, slot := 3, constantValue := 0 }, { name := "$VALUES", type := (.array (.object "com/example/corsia/corsia/episode/EpisodeEvent")), accessFlags := 4122, slot := 8, constantValue := 0 }]
  methods := #[k6m0]
  instanceTypes := #[(.object "java/lang/String"), .int, .int, (.object "java/lang/String")]
  staticTypes := #[(.object "com/example/corsia/corsia/episode/EpisodeEvent"), (.object "com/example/corsia/corsia/episode/EpisodeEvent"), (.object "com/example/corsia/corsia/episode/EpisodeEvent"), (.object "com/example/corsia/corsia/episode/EpisodeEvent"), (.object "com/example/corsia/corsia/episode/EpisodeEvent"), (.object "com/example/corsia/corsia/episode/EpisodeEvent"), (.object "java/lang/String"), (.object "java/util/List"), (.array (.object "com/example/corsia/corsia/episode/EpisodeEvent"))]
  resolved := Array.replicate 138 none
  statics := some 0 }

def pool7 : Array CpInfo := pool [(1, u "java/lang/Cloneable"), (0, .class_ 1), (0, u "java/lang/Object"), (0, .class_ 3)] 3

/-- java/lang/Cloneable -/
def k7 : Class := { plain "java/lang/Cloneable" (some 0) with
  accessFlags := 1537
  interfaces := #[]
  cf := some (fileOf pool7 2 #[] #[] 1537 4 #[] #[])
  fields := #[]
  methods := #[]
  instanceTypes := #[]
  staticTypes := #[]
  resolved := Array.replicate 8 none
  statics := none }

/-- the primitive byte -/
def k8 : Class := { plain "byte" none with kind := .primitive 'B', accessFlags := 0x411 }
/-- [B -/
def k9 : Class := { plain "[B" (some 0) with kind := .array 8 .byte, interfaces := #[7, 4], accessFlags := 1041 }

/-- the primitive int -/
def k10 : Class := { plain "int" none with kind := .primitive 'I', accessFlags := 0x411 }
/-- [I -/
def k11 : Class := { plain "[I" (some 0) with kind := .array 10 .int, interfaces := #[7, 4], accessFlags := 1041 }

def heap : Heap := #[{ cls := 6, slots := #[.ref 1, .ref 3, .ref 4, .ref 2, .ref 6, .ref 5, .null, .null, .null], vm := .statics 6 },
  { cls := 6, slots := #[.null, .int 0, .int 0, .null], vm := .none },
  { cls := 6, slots := #[.null, .int 3, .int 0, .null], vm := .none },
  { cls := 6, slots := #[.null, .int 1, .int 0, .null], vm := .none },
  { cls := 6, slots := #[.null, .int 2, .int 0, .null], vm := .none },
  { cls := 6, slots := #[.null, .int 5, .int 0, .null], vm := .none },
  { cls := 6, slots := #[.null, .int 4, .int 0, .null], vm := .none }]
def classes : Array Class := #[k0, k1, k2, k3, k4, k5, k6, k7, k8, k9, k10, k11]
def interned : List (Array UInt16 × Addr) := []
def slotsUsed : Nat := 33
def theMethod : MethodId := ⟨1, 1⟩
def args0 : Array Value := #[.int 5]
def aboutOver (below : List Frame) : State where
  vm := { classes := classes, interned := interned.toArray }
  heap := heap
  slotsUsed := slotsUsed
  threads := #[{ frames := .invoking theMethod args0 :: below }]
def below0 : List Frame := [.native { method := ⟨0, 0⟩, args := #[] }]
def about1 : State := aboutOver below0
def p0 : Program := .bare "" "" ""
def e0 : Env := launch0.env 0 0 0
theorem w_frames : about1.frames = Frame.invoking theMethod args0 :: below0 := rfl
set_option maxRecDepth 65536 in
theorem w_args : argsFit about1.vm theMethod args0 = true := by decide +kernel
set_option maxRecDepth 65536 in
theorem w_heap : heapFits about1 = true := by decide +kernel
set_option maxRecDepth 65536 in
theorem w_runnable : about1.curStatus? = some .runnable := by decide +kernel
set_option maxRecDepth 65536 in
theorem w_alone : about1.alone = true := by decide +kernel
set_option maxRecDepth 65536 in
theorem w_named : about1.methodNamed? x = some theMethod := by decide +kernel
set_option maxRecDepth 65536 in
theorem w_hears : about1.hears theMethod below0 = true := by decide +kernel
set_option maxRecDepth 65536 in
theorem w_ripe : about1.ripe theMethod args0 below0 = true := by decide +kernel
theorem w_running : about1.status = .running := rfl
set_option maxRecDepth 65536 in
theorem w_room : about1.hasRoom e0.platform room_1 = true :=
  launch0.hasRoom_least _ room_1 (by decide +kernel) (by decide +kernel) (by decide +kernel) (by decide +kernel) (by decide +kernel) (by decide +kernel)
theorem allAtoms_all (ts : List Jvm.Cond) (a : Array Jvm.Value) (st : Jvm.State) : (allAtoms ts).before a st = ts.all (fun c => c.before a st) := by
  induction ts with
  | nil => rfl
  | cons c t ih =>
    show (Jvm.Cond.and c (allAtoms t)).before a st = _
    rw [Jvm.Cond.before_and, ih, List.all_cons]
def words1 : List Jvm.Cond := Jvm.Cond.code x code maxLocals ret :: tables_1
/-- a 'code' word, met by the world's own term for the bytes: nothing is compared byte by byte -/
theorem code_word {y : MethodName} {bytes : ByteArray} {mx : Nat} {rt : Option FieldType} {a : Array Value} {s : State} {m : MethodId} {meth : Method} {c : Code} (h1 : s.methodNamed? y = some m) (h2 : s.vm.method? m = some meth) (h3 : meth.code = some c) (h4 : c.code = bytes)
    (h5 : (c.maxLocals == mx && c.exceptionTable.isEmpty && decide (c.maxStack ≤ mostOperands) && decide (meth.sig.returnType = rt) && !meth.locks && decide (parseMethodDescriptor y.desc = some meth.sig)) = true) : (Jvm.Cond.code y bytes mx rt).before a s = true := by
  simp only [Bool.and_eq_true, beq_iff_eq, Bool.not_eq_true', decide_eq_true_eq] at h5
  obtain ⟨⟨⟨⟨⟨g1, g2⟩, g3⟩, g4⟩, g5⟩, g6⟩ := h5
  simp [Cond.before, Cond.holds, Cond.value, h1, h2, h3, h4, g1, g2, g3, g4, g5, g6]
def isCode : Jvm.Cond → Bool
  | .code _ _ _ _ => true
  | _ => false
theorem all_split {L : List Jvm.Cond} {P : Jvm.Cond → Bool} (h1 : L.all (fun c => isCode c || P c) = true) (h2 : ∀ c ∈ L.filter isCode, P c = true) : L.all P = true := by
  refine List.all_eq_true.mpr fun c hc => ?_
  have h := List.all_eq_true.mp h1 c hc
  rcases Bool.eq_false_or_eq_true (isCode c) with hi | hi
  · exact h2 c (List.mem_filter.mpr ⟨hc, hi⟩)
  · simpa [hi] using h
set_option maxRecDepth 65536 in
theorem w_c0 : (Jvm.Cond.code x code maxLocals ret).before args0 about1 = true := code_word (m := ⟨1, 1⟩) (meth := k1m1) (c := k1c1) (by decide +kernel) rfl rfl rfl (by decide +kernel)
set_option maxRecDepth 65536 in
theorem w_c1 : (Jvm.Cond.code ({ cls := "com/example/corsia/corsia/episode/EpisodeEvent", name := "requiresEpisode", desc := "()Z" } : Jvm.MethodName) prog_17_method_6_code (1 : Nat) (Option.some Jvm.ClassFile.FieldType.boolean)).before args0 about1 = true := code_word (m := ⟨6, 0⟩) (meth := k6m0) (c := k6c0) (by decide +kernel) rfl rfl rfl (by decide +kernel)
def codes1 : List Jvm.Cond := [Jvm.Cond.code x code maxLocals ret, Jvm.Cond.code ({ cls := "com/example/corsia/corsia/episode/EpisodeEvent", name := "requiresEpisode", desc := "()Z" } : Jvm.MethodName) prog_17_method_6_code (1 : Nat) (Option.some Jvm.ClassFile.FieldType.boolean)]
set_option maxRecDepth 65536 in
theorem codes_eq : words1.filter isCode = codes1 := rfl
theorem w_codes : ∀ c ∈ words1.filter isCode, c.before args0 about1 = true := by
  rw [codes_eq]
  intro c hc
  simp only [codes1, List.mem_cons, List.not_mem_nil, or_false] at hc
  rcases hc with rfl | rfl
  · exact w_c0
  · exact w_c1
set_option maxRecDepth 65536 in
theorem w_t1 : words1.all (fun c => isCode c || c.before args0 about1) = true := by decide +kernel
theorem w_tables : (allAtoms (Jvm.Cond.code x code maxLocals ret :: tables_1)).before args0 about1 = true := by
  rw [allAtoms_all]
  show words1.all (fun c => c.before args0 about1) = true
  refine all_split ?_ w_codes
  rw [w_t1]
set_option maxRecDepth 65536 in
theorem w_case : (Jvm.Cond.and given_1 narrow_1).before args0 about1 = true := by decide +kernel
theorem w_applies : (headSpec (Jvm.Cond.code x code maxLocals ret :: tables_1) room_1).applies x e0.platform about1 = true :=
  (Spec.applies_iff w_frames).mpr ⟨w_running, w_runnable, w_alone, w_named, w_hears, w_ripe, w_room, w_tables⟩
theorem atStart : AtStart classFile x code maxLocals ret World_1 tables_1 room_1 Calls_1 rest_1 Pre_1 launch0 p0 e0 about1 theMethod args0 below0 :=
  ⟨lists_1, trivial, launch0.admits_env _ _ _, launch0.least_env, fairChoices_fair.cas, fairChoices_fair.clock, w_frames, w_args, w_heap, w_applies, trivial, trivial, w_case⟩
end start1
theorem witness_1 : WitnessClaimed_1 := ⟨start1.p0, start1.e0, start1.about1, start1.theMethod, start1.args0, start1.below0, start1.atStart⟩
end Jvm.Pilot.@@N@@
