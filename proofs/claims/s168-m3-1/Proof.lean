import JvmDerived
import JvmDerived.Pilot.@@N@@Statement
import JvmDerived.Pilot.@@N@@Code
set_option linter.unusedVariables false
set_option linter.unusedSimpArgs false
namespace Jvm.RoadKit
open Sem ClassFile Op Lib Jvm.Stand Jvm.Free Jvm.LawKit
section Own
variable {p : Program} {l : Launch} {e : Env} {R : Room} {s : State} {m : MethodId} {args : Array Value} {below : List Frame} {meth : Method} {c : Code} {T T1 : State} {locs : List Loc} {cells slots cs ss : Nat} {Q : Option Value → Heap → List Loc → Prop} {g g1 : JFrame}
/-- from the frame g over T the body comes to its end, and what it leaves is as Q says -/
def own_Goes (p : Program) (e : Env) (below : List Frame) (s : State) (Q : Option Value → Heap → List Loc → Prop) (cs ss : Nat) (T : State) (g : JFrame) : Prop :=
  ∃ s₂ o, Steps p.tables e below (T.setTop g) s₂ ∧ s₂.status = .running ∧ Ended s₂ below o ∧ ∃ v L, o = .returned v ∧ Q v s₂.heap L ∧ FrameEnd s o s₂ L cs ss
theorem own_go (st : ∀ target, Steps p.tables e below (T1.setTop g1) target → Steps p.tables e below (T.setTop g) target) (k : own_Goes p e below s Q cs ss T1 g1) : own_Goes p e below s Q cs ss T g := by
  obtain ⟨s₂, o, h, r⟩ := k
  exact ⟨s₂, o, st _ h, r⟩
theorem own_goS (st : Steps p.tables e below (T.setTop g) (T1.setTop g1)) (k : own_Goes p e below s Q cs ss T1 g1) : own_Goes p e below s Q cs ss T g := own_go (fun _ h => st.trans h) k
/-- the ends -/
theorem own_retN (X : Stand p l e R s m args below meth c T locs cells slots) (hx : p.tables.exec = Jvm.exec) {pc : Nat} {Ls : Array Slot} {z : Int32} {t : FieldType} {rest : List Value} (hlk : meth.locks = false) (hret : meth.sig.returnType = some t) (ht : t = .boolean ∨ t = .byte ∨ t = .char ∨ t = .short)
    (hd : decode c.code pc = .ok (.ireturn, 1)) (hc : cells ≤ cs) (hs : slots ≤ ss) (hQ : Q (some (.int (nar t z))) T.heap locs) : own_Goes p e below s Q cs ss T (mkF m pc Ls (.int z :: rest)) := by
  obtain ⟨fs, hr, hrun, hended, hW, hsame⟩ := X.leave (v := some (.int (nar t z))) (fun h => by rw [hret] at h; cases h) hlk
  exact ⟨_, _, retN X hx hret ht hd hr, hrun, hended, _, _, rfl, hQ, ⟨_, rfl⟩, hW, hsame.mono hc hs⟩
theorem own_ret (X : Stand p l e R s m args below meth c T locs cells slots) (hx : p.tables.exec = Jvm.exec) {pc : Nat} {Ls : Array Slot} {w : Value} {t : FieldType} {i : Instr} {rest : List Value} (hlk : meth.locks = false) (hret : meth.sig.returnType = some t) (hn : narrow t w = w)
    (hi : (i = .ireturn ∧ (t = .int ∨ t = .boolean ∨ t = .byte ∨ t = .char ∨ t = .short) ∧ ∃ z, w = .int z) ∨ (i = .lreturn ∧ t = .long ∧ ∃ z, w = .long z) ∨ (i = .dreturn ∧ t = .double ∧ ∃ z, w = .double z) ∨ (i = .freturn ∧ t = .float ∧ ∃ z, w = .float z) ∨ (i = .areturn ∧ t.isReference = true ∧ w.isRef = true))
    (hd : decode c.code pc = .ok (i, 1)) (hc : cells ≤ cs) (hs : slots ≤ ss) (hQ : Q (some w) T.heap locs) : own_Goes p e below s Q cs ss T (mkF m pc Ls (w :: rest)) := by
  obtain ⟨fs, hr, hrun, hended, hW, hsame⟩ := X.leave (v := some w) (fun h => by rw [hret] at h; cases h) hlk
  exact ⟨_, _, retOut X hx hret hn hi hd hr, hrun, hended, _, _, rfl, hQ, ⟨_, rfl⟩, hW, hsame.mono hc hs⟩
theorem own_retI (X : Stand p l e R s m args below meth c T locs cells slots) (hx : p.tables.exec = Jvm.exec) {pc : Nat} {Ls : Array Slot} {z : Int32} {rest : List Value} (hlk : meth.locks = false) (hret : meth.sig.returnType = some .int)
    (hd : decode c.code pc = .ok (.ireturn, 1)) (hc : cells ≤ cs) (hs : slots ≤ ss) (hQ : Q (some (.int z)) T.heap locs) : own_Goes p e below s Q cs ss T (mkF m pc Ls (.int z :: rest)) :=
  own_ret X hx hlk hret rfl (Or.inl ⟨rfl, Or.inl rfl, _, rfl⟩) hd hc hs hQ
theorem own_retA (X : Stand p l e R s m args below meth c T locs cells slots) (hx : p.tables.exec = Jvm.exec) {pc : Nat} {Ls : Array Slot} {w : Value} {t : FieldType} {rest : List Value} (hlk : meth.locks = false) (hret : meth.sig.returnType = some t) (ht : t.isReference = true) (hw : w.isRef = true)
    (hd : decode c.code pc = .ok (.areturn, 1)) (hc : cells ≤ cs) (hs : slots ≤ ss) (hQ : Q (some w) T.heap locs) : own_Goes p e below s Q cs ss T (mkF m pc Ls (w :: rest)) :=
  own_ret X hx hlk hret (by rcases ref_cases hw with rfl | ⟨a, rfl⟩ <;> cases t <;> simp [FieldType.isReference] at ht <;> rfl) (Or.inr (Or.inr (Or.inr (Or.inr ⟨rfl, ht, hw⟩)))) hd hc hs hQ
theorem own_retV (X : Stand p l e R s m args below meth c T locs cells slots) (hx : p.tables.exec = Jvm.exec) {pc : Nat} {Ls : Array Slot} (hlk : meth.locks = false) (hret : meth.sig.returnType = none)
    (hd : decode c.code pc = .ok (.return_, 1)) (hc : cells ≤ cs) (hs : slots ≤ ss) (hQ : Q none T.heap locs) : own_Goes p e below s Q cs ss T (mkF m pc Ls []) := by
  obtain ⟨fs, hr, hrun, hended, hW, hsame⟩ := X.leave (v := none) (fun _ => rfl) hlk
  exact ⟨_, _, X.returnOut hx hret hd hr, hrun, hended, _, _, rfl, hQ, ⟨_, rfl⟩, hW, hsame.mono hc hs⟩
/-- what holds throughout a body's walk -/
def own_Ctx (Z : State) (y : MethodName) (own : String) (bytes : ByteArray) (maxL : Nat) (ret : Option FieldType) (p : Program) (s : State) (m : MethodId) (meth : Method) (c : Code) : Prop :=
  p.tables.exec = Jvm.exec ∧ c.code = bytes ∧ c.maxLocals = maxL ∧ s.vm.findClass own = some m.cls ∧ meth.name = y.name ∧ meth.sig.returnType = ret ∧ meth.locks = false ∧ Z.Warmed39 s.vm
theorem own_met {Z : State} {y : MethodName} {own : String} {bytes : ByteArray} {maxL : Nat} {ret : Option FieldType} {ws : List Cond} {rm : Room} {as' : Array Value} {h0 : Heap} (hy : y.cls = own) (hpn : plainName own = true)
    (body : ∀ (p : Program) (e : Env) (s : State) (m : MethodId) (below : List Frame) (meth : Method) (c : Code) (s₁ : State), own_Ctx Z y own bytes maxL ret p s m meth c → s₁.heap = h0 → Stand p l e rm s m as' below meth c s₁ [] 0 0 → own_Goes p e below s Q cs ss s₁ (entryFrame m as' maxL)) :
    MetFree l y (head1 (Cond.code y bytes maxL ret :: ws) rm) (fun a U => a = as' ∧ Z.Warmed39 U.vm ∧ U.heap = h0) (fun _ _ _ _ _ => True) (fun _ U o U' => ∃ v L, o = .returned v ∧ Q v U'.heap L ∧ FrameEnd U o U' L cs ss) := by
  subst hy
  refine MetFree.of_bodySF (plainFor_of_name hpn) hisR ?_
  intro p e s m args below meth c s₁ Bd hml0 hP hK
  obtain ⟨rfl, hZ, hh⟩ := hP
  exact body p e s m below meth c s₁ ⟨Bd.exec, Bd.bytes, hml0, findClass_of_methodNamed Bd.named, (name_of_methodNamed Bd.named Bd.method).1, Bd.returns, Bd.notSynchronized, hZ⟩ (by rw [← hh, Bd.state]; rfl) (Stand.of_body Bd)
end Own
end Jvm.RoadKit
namespace Jvm.Pilot.@@N@@
open Jvm Jvm.ClassFile Sem Op Lib Jvm.Free Jvm.Stand Jvm.LawKit Jvm.RoadKit Bundle Jvm.Pilot.@@N@@.Jvm.D
theorem own_ord {args : Array Value} {s : State} {t : Term} {a : Addr} {C n d : String} {k : Int32} (ev : t.eval args s none [] s = some (.ref a)) (h : (Jvm.Cond.eq (Term.field t C n d) (Term.int k)).value args s none s [] = some true) : Fld s s.heap a C n d (.int k) := by
  refine Fld.start ?_
  rw [← fld_at ev]
  simp only [Jvm.Cond.value, Term.int_eval] at h
  cases hq : (Term.field t C n d).eval args s none [] s with
  | none => simp [hq] at h
  | some x => cases x <;> simp [hq] at h; subst h; rfl
theorem own_vne {i j : Int32} (h : i ≠ j) : (Value.int i) ≠ .int j := fun q => h (Value.int.inj q)
def own_SS (Z : State) (aBOOL aCHAR aSIGNED_CHAR aUNSIGNED_CHAR aSHORT aUNSIGNED_SHORT aINT aUNSIGNED_INT aLONG aUNSIGNED_LONG aLONG_LONG aUNSIGNED_LONG_LONG aINT128 aUNSIGNED_INT128 : Addr) : Prop := Sta Z Z.heap "com/example/treellis/treellis/cfa/IntegerType" "BOOL" "Lcom/example/treellis/treellis/cfa/IntegerType;" (.ref aBOOL) ∧ Sta Z Z.heap "com/example/treellis/treellis/cfa/IntegerType" "CHAR" "Lcom/example/treellis/treellis/cfa/IntegerType;" (.ref aCHAR) ∧ Sta Z Z.heap "com/example/treellis/treellis/cfa/IntegerType" "SIGNED_CHAR" "Lcom/example/treellis/treellis/cfa/IntegerType;" (.ref aSIGNED_CHAR) ∧ Sta Z Z.heap "com/example/treellis/treellis/cfa/IntegerType" "UNSIGNED_CHAR" "Lcom/example/treellis/treellis/cfa/IntegerType;" (.ref aUNSIGNED_CHAR) ∧ Sta Z Z.heap "com/example/treellis/treellis/cfa/IntegerType" "SHORT" "Lcom/example/treellis/treellis/cfa/IntegerType;" (.ref aSHORT) ∧ Sta Z Z.heap "com/example/treellis/treellis/cfa/IntegerType" "UNSIGNED_SHORT" "Lcom/example/treellis/treellis/cfa/IntegerType;" (.ref aUNSIGNED_SHORT) ∧ Sta Z Z.heap "com/example/treellis/treellis/cfa/IntegerType" "INT" "Lcom/example/treellis/treellis/cfa/IntegerType;" (.ref aINT) ∧ Sta Z Z.heap "com/example/treellis/treellis/cfa/IntegerType" "UNSIGNED_INT" "Lcom/example/treellis/treellis/cfa/IntegerType;" (.ref aUNSIGNED_INT) ∧ Sta Z Z.heap "com/example/treellis/treellis/cfa/IntegerType" "LONG" "Lcom/example/treellis/treellis/cfa/IntegerType;" (.ref aLONG) ∧ Sta Z Z.heap "com/example/treellis/treellis/cfa/IntegerType" "UNSIGNED_LONG" "Lcom/example/treellis/treellis/cfa/IntegerType;" (.ref aUNSIGNED_LONG) ∧ Sta Z Z.heap "com/example/treellis/treellis/cfa/IntegerType" "LONG_LONG" "Lcom/example/treellis/treellis/cfa/IntegerType;" (.ref aLONG_LONG) ∧ Sta Z Z.heap "com/example/treellis/treellis/cfa/IntegerType" "UNSIGNED_LONG_LONG" "Lcom/example/treellis/treellis/cfa/IntegerType;" (.ref aUNSIGNED_LONG_LONG) ∧ Sta Z Z.heap "com/example/treellis/treellis/cfa/IntegerType" "INT128" "Lcom/example/treellis/treellis/cfa/IntegerType;" (.ref aINT128) ∧ Sta Z Z.heap "com/example/treellis/treellis/cfa/IntegerType" "UNSIGNED_INT128" "Lcom/example/treellis/treellis/cfa/IntegerType;" (.ref aUNSIGNED_INT128)
def own_FF (Z : State) (aBOOL aCHAR aSIGNED_CHAR aUNSIGNED_CHAR aSHORT aUNSIGNED_SHORT aINT aUNSIGNED_INT aLONG aUNSIGNED_LONG aLONG_LONG aUNSIGNED_LONG_LONG aINT128 aUNSIGNED_INT128 : Addr) : Prop := (Exa Z Z.heap aBOOL "com/example/treellis/treellis/cfa/IntegerType" ∧ Fld Z Z.heap aBOOL "com/example/treellis/treellis/cfa/IntegerType" "rank" "I" (.int (0 : Int32)) ∧ Fld Z Z.heap aBOOL "com/example/treellis/treellis/cfa/IntegerType" "signed" "Z" (.int (0 : Int32))) ∧ (Exa Z Z.heap aCHAR "com/example/treellis/treellis/cfa/IntegerType" ∧ Fld Z Z.heap aCHAR "com/example/treellis/treellis/cfa/IntegerType" "rank" "I" (.int (1 : Int32)) ∧ Fld Z Z.heap aCHAR "com/example/treellis/treellis/cfa/IntegerType" "signed" "Z" (.int (1 : Int32))) ∧ (Exa Z Z.heap aSIGNED_CHAR "com/example/treellis/treellis/cfa/IntegerType" ∧ Fld Z Z.heap aSIGNED_CHAR "com/example/treellis/treellis/cfa/IntegerType" "rank" "I" (.int (1 : Int32)) ∧ Fld Z Z.heap aSIGNED_CHAR "com/example/treellis/treellis/cfa/IntegerType" "signed" "Z" (.int (1 : Int32))) ∧ (Exa Z Z.heap aUNSIGNED_CHAR "com/example/treellis/treellis/cfa/IntegerType" ∧ Fld Z Z.heap aUNSIGNED_CHAR "com/example/treellis/treellis/cfa/IntegerType" "rank" "I" (.int (1 : Int32)) ∧ Fld Z Z.heap aUNSIGNED_CHAR "com/example/treellis/treellis/cfa/IntegerType" "signed" "Z" (.int (0 : Int32))) ∧ (Exa Z Z.heap aSHORT "com/example/treellis/treellis/cfa/IntegerType" ∧ Fld Z Z.heap aSHORT "com/example/treellis/treellis/cfa/IntegerType" "rank" "I" (.int (2 : Int32)) ∧ Fld Z Z.heap aSHORT "com/example/treellis/treellis/cfa/IntegerType" "signed" "Z" (.int (1 : Int32))) ∧ (Exa Z Z.heap aUNSIGNED_SHORT "com/example/treellis/treellis/cfa/IntegerType" ∧ Fld Z Z.heap aUNSIGNED_SHORT "com/example/treellis/treellis/cfa/IntegerType" "rank" "I" (.int (2 : Int32)) ∧ Fld Z Z.heap aUNSIGNED_SHORT "com/example/treellis/treellis/cfa/IntegerType" "signed" "Z" (.int (0 : Int32))) ∧ (Exa Z Z.heap aINT "com/example/treellis/treellis/cfa/IntegerType" ∧ Fld Z Z.heap aINT "com/example/treellis/treellis/cfa/IntegerType" "rank" "I" (.int (3 : Int32)) ∧ Fld Z Z.heap aINT "com/example/treellis/treellis/cfa/IntegerType" "signed" "Z" (.int (1 : Int32))) ∧ (Exa Z Z.heap aUNSIGNED_INT "com/example/treellis/treellis/cfa/IntegerType" ∧ Fld Z Z.heap aUNSIGNED_INT "com/example/treellis/treellis/cfa/IntegerType" "rank" "I" (.int (3 : Int32)) ∧ Fld Z Z.heap aUNSIGNED_INT "com/example/treellis/treellis/cfa/IntegerType" "signed" "Z" (.int (0 : Int32))) ∧ (Exa Z Z.heap aLONG "com/example/treellis/treellis/cfa/IntegerType" ∧ Fld Z Z.heap aLONG "com/example/treellis/treellis/cfa/IntegerType" "rank" "I" (.int (4 : Int32)) ∧ Fld Z Z.heap aLONG "com/example/treellis/treellis/cfa/IntegerType" "signed" "Z" (.int (1 : Int32))) ∧ (Exa Z Z.heap aUNSIGNED_LONG "com/example/treellis/treellis/cfa/IntegerType" ∧ Fld Z Z.heap aUNSIGNED_LONG "com/example/treellis/treellis/cfa/IntegerType" "rank" "I" (.int (4 : Int32)) ∧ Fld Z Z.heap aUNSIGNED_LONG "com/example/treellis/treellis/cfa/IntegerType" "signed" "Z" (.int (0 : Int32))) ∧ (Exa Z Z.heap aLONG_LONG "com/example/treellis/treellis/cfa/IntegerType" ∧ Fld Z Z.heap aLONG_LONG "com/example/treellis/treellis/cfa/IntegerType" "rank" "I" (.int (5 : Int32)) ∧ Fld Z Z.heap aLONG_LONG "com/example/treellis/treellis/cfa/IntegerType" "signed" "Z" (.int (1 : Int32))) ∧ (Exa Z Z.heap aUNSIGNED_LONG_LONG "com/example/treellis/treellis/cfa/IntegerType" ∧ Fld Z Z.heap aUNSIGNED_LONG_LONG "com/example/treellis/treellis/cfa/IntegerType" "rank" "I" (.int (5 : Int32)) ∧ Fld Z Z.heap aUNSIGNED_LONG_LONG "com/example/treellis/treellis/cfa/IntegerType" "signed" "Z" (.int (0 : Int32))) ∧ (Exa Z Z.heap aINT128 "com/example/treellis/treellis/cfa/IntegerType" ∧ Fld Z Z.heap aINT128 "com/example/treellis/treellis/cfa/IntegerType" "rank" "I" (.int (6 : Int32)) ∧ Fld Z Z.heap aINT128 "com/example/treellis/treellis/cfa/IntegerType" "signed" "Z" (.int (1 : Int32))) ∧ (Exa Z Z.heap aUNSIGNED_INT128 "com/example/treellis/treellis/cfa/IntegerType" ∧ Fld Z Z.heap aUNSIGNED_INT128 "com/example/treellis/treellis/cfa/IntegerType" "rank" "I" (.int (6 : Int32)) ∧ Fld Z Z.heap aUNSIGNED_INT128 "com/example/treellis/treellis/cfa/IntegerType" "signed" "Z" (.int (0 : Int32)))
def own_VV (Z : State) (aV : Addr) (clV : Cell) (aBOOL aCHAR aSIGNED_CHAR aUNSIGNED_CHAR aSHORT aUNSIGNED_SHORT aINT aUNSIGNED_INT aLONG aUNSIGNED_LONG aLONG_LONG aUNSIGNED_LONG_LONG aINT128 aUNSIGNED_INT128 : Addr) : Prop := Sta Z Z.heap "com/example/treellis/treellis/cfa/IntegerType" "$VALUES" "[Lcom/example/treellis/treellis/cfa/IntegerType;" (.ref aV) ∧ Arr Z Z.heap aV clV (.object "com/example/treellis/treellis/cfa/IntegerType") ∧ Exa Z Z.heap aV "[Lcom/example/treellis/treellis/cfa/IntegerType;" ∧ FitC Z clV ∧ clV.slots.size = 14 ∧ clV.slots[0]? = some (.ref aBOOL) ∧ clV.slots[1]? = some (.ref aCHAR) ∧ clV.slots[2]? = some (.ref aSIGNED_CHAR) ∧ clV.slots[3]? = some (.ref aUNSIGNED_CHAR) ∧ clV.slots[4]? = some (.ref aSHORT) ∧ clV.slots[5]? = some (.ref aUNSIGNED_SHORT) ∧ clV.slots[6]? = some (.ref aINT) ∧ clV.slots[7]? = some (.ref aUNSIGNED_INT) ∧ clV.slots[8]? = some (.ref aLONG) ∧ clV.slots[9]? = some (.ref aUNSIGNED_LONG) ∧ clV.slots[10]? = some (.ref aLONG_LONG) ∧ clV.slots[11]? = some (.ref aUNSIGNED_LONG_LONG) ∧ clV.slots[12]? = some (.ref aINT128) ∧ clV.slots[13]? = some (.ref aUNSIGNED_INT128)
def own_pick (p1 : Int32) (aBOOL aCHAR aSIGNED_CHAR aUNSIGNED_CHAR aSHORT aUNSIGNED_SHORT aINT aUNSIGNED_INT aLONG aUNSIGNED_LONG aLONG_LONG aUNSIGNED_LONG_LONG aINT128 aUNSIGNED_INT128 : Addr) : Addr := if p1 = (0 : Int32) then aBOOL else if p1 = (1 : Int32) then aCHAR else if p1 = (2 : Int32) then aSIGNED_CHAR else if p1 = (3 : Int32) then aUNSIGNED_CHAR else if p1 = (4 : Int32) then aSHORT else if p1 = (5 : Int32) then aUNSIGNED_SHORT else if p1 = (6 : Int32) then aINT else if p1 = (7 : Int32) then aUNSIGNED_INT else if p1 = (8 : Int32) then aLONG else if p1 = (9 : Int32) then aUNSIGNED_LONG else if p1 = (10 : Int32) then aLONG_LONG else if p1 = (11 : Int32) then aUNSIGNED_LONG_LONG else if p1 = (12 : Int32) then aINT128 else aUNSIGNED_INT128
def own_expected (p1 : Int32) (aBOOL aCHAR aSIGNED_CHAR aUNSIGNED_CHAR aSHORT aUNSIGNED_SHORT aINT aUNSIGNED_INT aLONG aUNSIGNED_LONG aLONG_LONG aUNSIGNED_LONG_LONG aINT128 aUNSIGNED_INT128 : Addr) : Addr := if p1 = (0 : Int32) then aBOOL else if (3 : Int32) < p1 then if (5 : Int32) < p1 then if (7 : Int32) < p1 then if (9 : Int32) < p1 then if (11 : Int32) < p1 then aUNSIGNED_INT128 else aUNSIGNED_LONG_LONG else aUNSIGNED_LONG else aUNSIGNED_INT else aUNSIGNED_SHORT else aUNSIGNED_CHAR
theorem own_rem (p : Int32) : ((p &&& (2147483647 : Int32)) % (14 : Int32)) = (0 : Int32) ∨ ((p &&& (2147483647 : Int32)) % (14 : Int32)) = (1 : Int32) ∨ ((p &&& (2147483647 : Int32)) % (14 : Int32)) = (2 : Int32) ∨ ((p &&& (2147483647 : Int32)) % (14 : Int32)) = (3 : Int32) ∨ ((p &&& (2147483647 : Int32)) % (14 : Int32)) = (4 : Int32) ∨ ((p &&& (2147483647 : Int32)) % (14 : Int32)) = (5 : Int32) ∨ ((p &&& (2147483647 : Int32)) % (14 : Int32)) = (6 : Int32) ∨ ((p &&& (2147483647 : Int32)) % (14 : Int32)) = (7 : Int32) ∨ ((p &&& (2147483647 : Int32)) % (14 : Int32)) = (8 : Int32) ∨ ((p &&& (2147483647 : Int32)) % (14 : Int32)) = (9 : Int32) ∨ ((p &&& (2147483647 : Int32)) % (14 : Int32)) = (10 : Int32) ∨ ((p &&& (2147483647 : Int32)) % (14 : Int32)) = (11 : Int32) ∨ ((p &&& (2147483647 : Int32)) % (14 : Int32)) = (12 : Int32) ∨ ((p &&& (2147483647 : Int32)) % (14 : Int32)) = (13 : Int32) := by
  have h1 : (p &&& (2147483647 : Int32)).toInt = p.toInt % (2 ^ 31 : Nat) := c_mask p _ 31 (by decide) (by decide)
  have h2 := (c_irem (p &&& (2147483647 : Int32)) (14 : Int32) 14 rfl).1 (by omega)
  have h3 : ∀ k : Int32, ((p &&& (2147483647 : Int32)) % (14 : Int32)).toInt = k.toInt → ((p &&& (2147483647 : Int32)) % (14 : Int32)) = k := fun k h => Int32.toInt_inj.mp h
  have h4 : ((p &&& (2147483647 : Int32)) % (14 : Int32)).toInt = 0 ∨ ((p &&& (2147483647 : Int32)) % (14 : Int32)).toInt = 1 ∨ ((p &&& (2147483647 : Int32)) % (14 : Int32)).toInt = 2 ∨ ((p &&& (2147483647 : Int32)) % (14 : Int32)).toInt = 3 ∨ ((p &&& (2147483647 : Int32)) % (14 : Int32)).toInt = 4 ∨ ((p &&& (2147483647 : Int32)) % (14 : Int32)).toInt = 5 ∨ ((p &&& (2147483647 : Int32)) % (14 : Int32)).toInt = 6 ∨ ((p &&& (2147483647 : Int32)) % (14 : Int32)).toInt = 7 ∨ ((p &&& (2147483647 : Int32)) % (14 : Int32)).toInt = 8 ∨ ((p &&& (2147483647 : Int32)) % (14 : Int32)).toInt = 9 ∨ ((p &&& (2147483647 : Int32)) % (14 : Int32)).toInt = 10 ∨ ((p &&& (2147483647 : Int32)) % (14 : Int32)).toInt = 11 ∨ ((p &&& (2147483647 : Int32)) % (14 : Int32)).toInt = 12 ∨ ((p &&& (2147483647 : Int32)) % (14 : Int32)).toInt = 13 := by omega
  rcases h4 with h | h | h | h | h | h | h | h | h | h | h | h | h | h
  · exact Or.inl (h3 (0 : Int32) h)
  · exact Or.inr (Or.inl (h3 (1 : Int32) h))
  · exact Or.inr (Or.inr (Or.inl (h3 (2 : Int32) h)))
  · exact Or.inr (Or.inr (Or.inr (Or.inl (h3 (3 : Int32) h))))
  · exact Or.inr (Or.inr (Or.inr (Or.inr (Or.inl (h3 (4 : Int32) h)))))
  · exact Or.inr (Or.inr (Or.inr (Or.inr (Or.inr (Or.inl (h3 (5 : Int32) h))))))
  · exact Or.inr (Or.inr (Or.inr (Or.inr (Or.inr (Or.inr (Or.inl (h3 (6 : Int32) h)))))))
  · exact Or.inr (Or.inr (Or.inr (Or.inr (Or.inr (Or.inr (Or.inr (Or.inl (h3 (7 : Int32) h))))))))
  · exact Or.inr (Or.inr (Or.inr (Or.inr (Or.inr (Or.inr (Or.inr (Or.inr (Or.inl (h3 (8 : Int32) h)))))))))
  · exact Or.inr (Or.inr (Or.inr (Or.inr (Or.inr (Or.inr (Or.inr (Or.inr (Or.inr (Or.inl (h3 (9 : Int32) h))))))))))
  · exact Or.inr (Or.inr (Or.inr (Or.inr (Or.inr (Or.inr (Or.inr (Or.inr (Or.inr (Or.inr (Or.inl (h3 (10 : Int32) h)))))))))))
  · exact Or.inr (Or.inr (Or.inr (Or.inr (Or.inr (Or.inr (Or.inr (Or.inr (Or.inr (Or.inr (Or.inr (Or.inl (h3 (11 : Int32) h))))))))))))
  · exact Or.inr (Or.inr (Or.inr (Or.inr (Or.inr (Or.inr (Or.inr (Or.inr (Or.inr (Or.inr (Or.inr (Or.inr (Or.inl (h3 (12 : Int32) h)))))))))))))
  · exact Or.inr (Or.inr (Or.inr (Or.inr (Or.inr (Or.inr (Or.inr (Or.inr (Or.inr (Or.inr (Or.inr (Or.inr (Or.inr ((h3 (13 : Int32) h))))))))))))))
theorem own_len {args : Array Value} {s : State} {t : Term} {a : Addr} {cl : Cell} {ty : FieldType} {k : Int32} {n : Nat} (ev : t.eval args s none [] s = some (.ref a)) (A : Arr s s.heap a cl ty) (h : (Jvm.Cond.eq (Term.length t) (Term.int k)).value args s none s [] = some true) (hk : k.toInt = n) : cl.slots.size = n := by
  obtain ⟨x, y, h1, h2, -, -⟩ := cmp_v (Or.inl h)
  have ha := A.fin (Vm.Alike.refl _)
  simp only [Term.eval, ev, ha, Option.bind_eq_bind, Option.bind_some, Option.pure_def] at h1
  split at h1
  · rename_i hlt
    cases h1
    simp only [Term.eval] at h2
    cases h2
    have q : cl.slots.size.toInt32 = k := by
      simp only [Jvm.Cond.value, Term.eval, ev, ha, Option.bind_eq_bind, Option.bind_some, Option.pure_def, hlt] at h
      simpa using h
    have r := congrArg Int32.toInt q
    rw [len_toInt (by omega), hk] at r
    omega
  · cases h1
theorem own_elem {args : Array Value} {s : State} {t u : Term} {a b : Addr} {cl : Cell} {ty : FieldType} {k : Int32} (ev : t.eval args s none [] s = some (.ref a)) (A : Arr s s.heap a cl ty) (h : (Jvm.Cond.eq (Term.elem t (Term.int k)) u).value args s none s [] = some true) (eu : u.eval args s none [] s = some (.ref b)) : cl.slots[k.toNatClampNeg]? = some (.ref b) := by
  obtain ⟨x, y, h1, h2, -, -⟩ := cmp_v (Or.inl h)
  have q := (elem_in h1 ev (Term.int_eval k) A.1).2
  cases eu.symm.trans h2
  simp only [Jvm.Cond.value, h1, h2] at h
  cases x <;> simp at h
  subst h; exact q
theorem d1_0 : decode method_2_code 0 = .ok (.iload_n 0, 1) := by decide +kernel
theorem d1_1 : decode method_2_code 1 = .ok (.ifCond .ne 7, 3) := by decide +kernel
theorem d1_4 : decode method_2_code 4 = .ok (.getstatic 7, 3) := by decide +kernel
theorem d1_7 : decode method_2_code 7 = .ok (.areturn, 1) := by decide +kernel
theorem d1_8 : decode method_2_code 8 = .ok (.iload_n 0, 1) := by decide +kernel
theorem d1_9 : decode method_2_code 9 = .ok (.iconst 1, 1) := by decide +kernel
theorem d1_10 : decode method_2_code 10 = .ok (.if_icmp .ne 7, 3) := by decide +kernel
theorem d1_13 : decode method_2_code 13 = .ok (.getstatic 13, 3) := by decide +kernel
theorem d1_16 : decode method_2_code 16 = .ok (.areturn, 1) := by decide +kernel
theorem d1_17 : decode method_2_code 17 = .ok (.iload_n 0, 1) := by decide +kernel
theorem d1_18 : decode method_2_code 18 = .ok (.iconst 2, 1) := by decide +kernel
theorem d1_19 : decode method_2_code 19 = .ok (.if_icmp .ne 7, 3) := by decide +kernel
theorem d1_22 : decode method_2_code 22 = .ok (.getstatic 16, 3) := by decide +kernel
theorem d1_25 : decode method_2_code 25 = .ok (.areturn, 1) := by decide +kernel
theorem d1_26 : decode method_2_code 26 = .ok (.iload_n 0, 1) := by decide +kernel
theorem d1_27 : decode method_2_code 27 = .ok (.iconst 3, 1) := by decide +kernel
theorem d1_28 : decode method_2_code 28 = .ok (.if_icmp .ne 7, 3) := by decide +kernel
theorem d1_31 : decode method_2_code 31 = .ok (.getstatic 19, 3) := by decide +kernel
theorem d1_34 : decode method_2_code 34 = .ok (.areturn, 1) := by decide +kernel
theorem d1_35 : decode method_2_code 35 = .ok (.iload_n 0, 1) := by decide +kernel
theorem d1_36 : decode method_2_code 36 = .ok (.iconst 4, 1) := by decide +kernel
theorem d1_37 : decode method_2_code 37 = .ok (.if_icmp .ne 7, 3) := by decide +kernel
theorem d1_40 : decode method_2_code 40 = .ok (.getstatic 22, 3) := by decide +kernel
theorem d1_43 : decode method_2_code 43 = .ok (.areturn, 1) := by decide +kernel
theorem d1_44 : decode method_2_code 44 = .ok (.iload_n 0, 1) := by decide +kernel
theorem d1_45 : decode method_2_code 45 = .ok (.iconst 5, 1) := by decide +kernel
theorem d1_46 : decode method_2_code 46 = .ok (.if_icmp .ne 7, 3) := by decide +kernel
theorem d1_49 : decode method_2_code 49 = .ok (.getstatic 25, 3) := by decide +kernel
theorem d1_52 : decode method_2_code 52 = .ok (.areturn, 1) := by decide +kernel
theorem d1_53 : decode method_2_code 53 = .ok (.iload_n 0, 1) := by decide +kernel
theorem d1_54 : decode method_2_code 54 = .ok (.bipush 6, 2) := by decide +kernel
theorem d1_56 : decode method_2_code 56 = .ok (.if_icmp .ne 7, 3) := by decide +kernel
theorem d1_59 : decode method_2_code 59 = .ok (.getstatic 28, 3) := by decide +kernel
theorem d1_62 : decode method_2_code 62 = .ok (.areturn, 1) := by decide +kernel
theorem d1_63 : decode method_2_code 63 = .ok (.iload_n 0, 1) := by decide +kernel
theorem d1_64 : decode method_2_code 64 = .ok (.bipush 7, 2) := by decide +kernel
theorem d1_66 : decode method_2_code 66 = .ok (.if_icmp .ne 7, 3) := by decide +kernel
theorem d1_69 : decode method_2_code 69 = .ok (.getstatic 31, 3) := by decide +kernel
theorem d1_72 : decode method_2_code 72 = .ok (.areturn, 1) := by decide +kernel
theorem d1_73 : decode method_2_code 73 = .ok (.iload_n 0, 1) := by decide +kernel
theorem d1_74 : decode method_2_code 74 = .ok (.bipush 8, 2) := by decide +kernel
theorem d1_76 : decode method_2_code 76 = .ok (.if_icmp .ne 7, 3) := by decide +kernel
theorem d1_79 : decode method_2_code 79 = .ok (.getstatic 34, 3) := by decide +kernel
theorem d1_82 : decode method_2_code 82 = .ok (.areturn, 1) := by decide +kernel
theorem d1_83 : decode method_2_code 83 = .ok (.iload_n 0, 1) := by decide +kernel
theorem d1_84 : decode method_2_code 84 = .ok (.bipush 9, 2) := by decide +kernel
theorem d1_86 : decode method_2_code 86 = .ok (.if_icmp .ne 7, 3) := by decide +kernel
theorem d1_89 : decode method_2_code 89 = .ok (.getstatic 37, 3) := by decide +kernel
theorem d1_92 : decode method_2_code 92 = .ok (.areturn, 1) := by decide +kernel
theorem d1_93 : decode method_2_code 93 = .ok (.iload_n 0, 1) := by decide +kernel
theorem d1_94 : decode method_2_code 94 = .ok (.bipush 10, 2) := by decide +kernel
theorem d1_96 : decode method_2_code 96 = .ok (.if_icmp .ne 7, 3) := by decide +kernel
theorem d1_99 : decode method_2_code 99 = .ok (.getstatic 40, 3) := by decide +kernel
theorem d1_102 : decode method_2_code 102 = .ok (.areturn, 1) := by decide +kernel
theorem d1_103 : decode method_2_code 103 = .ok (.iload_n 0, 1) := by decide +kernel
theorem d1_104 : decode method_2_code 104 = .ok (.bipush 11, 2) := by decide +kernel
theorem d1_106 : decode method_2_code 106 = .ok (.if_icmp .ne 7, 3) := by decide +kernel
theorem d1_109 : decode method_2_code 109 = .ok (.getstatic 43, 3) := by decide +kernel
theorem d1_112 : decode method_2_code 112 = .ok (.areturn, 1) := by decide +kernel
theorem d1_113 : decode method_2_code 113 = .ok (.iload_n 0, 1) := by decide +kernel
theorem d1_114 : decode method_2_code 114 = .ok (.bipush 12, 2) := by decide +kernel
theorem d1_116 : decode method_2_code 116 = .ok (.if_icmp .ne 7, 3) := by decide +kernel
theorem d1_119 : decode method_2_code 119 = .ok (.getstatic 46, 3) := by decide +kernel
theorem d1_122 : decode method_2_code 122 = .ok (.areturn, 1) := by decide +kernel
theorem d1_123 : decode method_2_code 123 = .ok (.getstatic 49, 3) := by decide +kernel
theorem d1_126 : decode method_2_code 126 = .ok (.areturn, 1) := by decide +kernel
theorem d2_0 : decode prog_44_method_6_code 0 = .ok (.invokestatic 77, 3) := by decide +kernel
theorem d2_3 : decode prog_44_method_6_code 3 = .ok (.astore_n 1, 1) := by decide +kernel
theorem d2_4 : decode prog_44_method_6_code 4 = .ok (.aload_n 1, 1) := by decide +kernel
theorem d2_5 : decode prog_44_method_6_code 5 = .ok (.arraylength, 1) := by decide +kernel
theorem d2_6 : decode prog_44_method_6_code 6 = .ok (.istore_n 2, 1) := by decide +kernel
theorem d2_7 : decode prog_44_method_6_code 7 = .ok (.iconst 0, 1) := by decide +kernel
theorem d2_8 : decode prog_44_method_6_code 8 = .ok (.istore_n 3, 1) := by decide +kernel
theorem d2_9 : decode prog_44_method_6_code 9 = .ok (.iload_n 3, 1) := by decide +kernel
theorem d2_10 : decode prog_44_method_6_code 10 = .ok (.iload_n 2, 1) := by decide +kernel
theorem d2_11 : decode prog_44_method_6_code 11 = .ok (.if_icmp .ge 37, 3) := by decide +kernel
theorem d2_14 : decode prog_44_method_6_code 14 = .ok (.aload_n 1, 1) := by decide +kernel
theorem d2_15 : decode prog_44_method_6_code 15 = .ok (.iload_n 3, 1) := by decide +kernel
theorem d2_16 : decode prog_44_method_6_code 16 = .ok (.aaload, 1) := by decide +kernel
theorem d2_17 : decode prog_44_method_6_code 17 = .ok (.astore 4, 2) := by decide +kernel
theorem d2_19 : decode prog_44_method_6_code 19 = .ok (.aload 4, 2) := by decide +kernel
theorem d2_21 : decode prog_44_method_6_code 21 = .ok (.getfield 73, 3) := by decide +kernel
theorem d2_24 : decode prog_44_method_6_code 24 = .ok (.ifCond .ne 18, 3) := by decide +kernel
theorem d2_27 : decode prog_44_method_6_code 27 = .ok (.aload 4, 2) := by decide +kernel
theorem d2_29 : decode prog_44_method_6_code 29 = .ok (.getfield 69, 3) := by decide +kernel
theorem d2_32 : decode prog_44_method_6_code 32 = .ok (.aload_n 0, 1) := by decide +kernel
theorem d2_33 : decode prog_44_method_6_code 33 = .ok (.getfield 69, 3) := by decide +kernel
theorem d2_36 : decode prog_44_method_6_code 36 = .ok (.if_icmp .ne 6, 3) := by decide +kernel
theorem d2_39 : decode prog_44_method_6_code 39 = .ok (.aload 4, 2) := by decide +kernel
theorem d2_41 : decode prog_44_method_6_code 41 = .ok (.areturn, 1) := by decide +kernel
theorem d2_42 : decode prog_44_method_6_code 42 = .ok (.iinc 3 1, 3) := by decide +kernel
theorem d2_45 : decode prog_44_method_6_code 45 = .ok (.goto (-36), 3) := by decide +kernel
theorem d3_0 : decode prog_44_method_1_code 0 = .ok (.getstatic 46, 3) := by decide +kernel
theorem d3_3 : decode prog_44_method_1_code 3 = .ok (.invokevirtual 50, 3) := by decide +kernel
theorem d3_6 : decode prog_44_method_1_code 6 = .ok (.checkcast 51, 3) := by decide +kernel
theorem d3_9 : decode prog_44_method_1_code 9 = .ok (.areturn, 1) := by decide +kernel
theorem d4_0 : decode method_3_code 0 = .ok (.iload_n 0, 1) := by decide +kernel
theorem d4_1 : decode method_3_code 1 = .ok (.ifCond .ne 7, 3) := by decide +kernel
theorem d4_4 : decode method_3_code 4 = .ok (.getstatic 7, 3) := by decide +kernel
theorem d4_7 : decode method_3_code 7 = .ok (.areturn, 1) := by decide +kernel
theorem d4_8 : decode method_3_code 8 = .ok (.iload_n 0, 1) := by decide +kernel
theorem d4_9 : decode method_3_code 9 = .ok (.iconst 3, 1) := by decide +kernel
theorem d4_10 : decode method_3_code 10 = .ok (.if_icmp .gt 7, 3) := by decide +kernel
theorem d4_13 : decode method_3_code 13 = .ok (.getstatic 19, 3) := by decide +kernel
theorem d4_16 : decode method_3_code 16 = .ok (.areturn, 1) := by decide +kernel
theorem d4_17 : decode method_3_code 17 = .ok (.iload_n 0, 1) := by decide +kernel
theorem d4_18 : decode method_3_code 18 = .ok (.iconst 5, 1) := by decide +kernel
theorem d4_19 : decode method_3_code 19 = .ok (.if_icmp .gt 7, 3) := by decide +kernel
theorem d4_22 : decode method_3_code 22 = .ok (.getstatic 25, 3) := by decide +kernel
theorem d4_25 : decode method_3_code 25 = .ok (.areturn, 1) := by decide +kernel
theorem d4_26 : decode method_3_code 26 = .ok (.iload_n 0, 1) := by decide +kernel
theorem d4_27 : decode method_3_code 27 = .ok (.bipush 7, 2) := by decide +kernel
theorem d4_29 : decode method_3_code 29 = .ok (.if_icmp .gt 7, 3) := by decide +kernel
theorem d4_32 : decode method_3_code 32 = .ok (.getstatic 31, 3) := by decide +kernel
theorem d4_35 : decode method_3_code 35 = .ok (.areturn, 1) := by decide +kernel
theorem d4_36 : decode method_3_code 36 = .ok (.iload_n 0, 1) := by decide +kernel
theorem d4_37 : decode method_3_code 37 = .ok (.bipush 9, 2) := by decide +kernel
theorem d4_39 : decode method_3_code 39 = .ok (.if_icmp .gt 7, 3) := by decide +kernel
theorem d4_42 : decode method_3_code 42 = .ok (.getstatic 37, 3) := by decide +kernel
theorem d4_45 : decode method_3_code 45 = .ok (.areturn, 1) := by decide +kernel
theorem d4_46 : decode method_3_code 46 = .ok (.iload_n 0, 1) := by decide +kernel
theorem d4_47 : decode method_3_code 47 = .ok (.bipush 11, 2) := by decide +kernel
theorem d4_49 : decode method_3_code 49 = .ok (.if_icmp .gt 7, 3) := by decide +kernel
theorem d4_52 : decode method_3_code 52 = .ok (.getstatic 43, 3) := by decide +kernel
theorem d4_55 : decode method_3_code 55 = .ok (.areturn, 1) := by decide +kernel
theorem d4_56 : decode method_3_code 56 = .ok (.getstatic 49, 3) := by decide +kernel
theorem d4_59 : decode method_3_code 59 = .ok (.areturn, 1) := by decide +kernel
theorem pn_0 : plainName "com/example/treellis/treellis/cfa/IntegerTypeToUnsignedPinLaw" = true := by first | (simp [plainName, overriddenIn]; done) | decide +kernel
theorem pn_1 : plainName "com/example/treellis/treellis/cfa/IntegerTypeToUnsignedPinLaw" = true := by first | (simp [plainName, overriddenIn]; done) | decide +kernel
theorem pn_2 : plainName "com/example/treellis/treellis/cfa/IntegerType" = true := by first | (simp [plainName, overriddenIn]; done) | decide +kernel
theorem pn_3 : plainName "com/example/treellis/treellis/cfa/IntegerType" = true := by first | (simp [plainName, overriddenIn]; done) | decide +kernel
theorem pn_4 : plainName "com/example/treellis/treellis/cfa/IntegerTypeToUnsignedPinLaw" = true := by first | (simp [plainName, overriddenIn]; done) | decide +kernel
theorem pd_0 : parseMethodDescriptor "()[Lcom/example/treellis/treellis/cfa/IntegerType;" = some ⟨[], some (.array (.object "com/example/treellis/treellis/cfa/IntegerType"))⟩ := by decide +kernel
theorem pd_1 : parseMethodDescriptor "(I)Lcom/example/treellis/treellis/cfa/IntegerType;" = some ⟨[.int], some (.object "com/example/treellis/treellis/cfa/IntegerType")⟩ := by decide +kernel
theorem pd_2 : parseMethodDescriptor "()Lcom/example/treellis/treellis/cfa/IntegerType;" = some ⟨[], some (.object "com/example/treellis/treellis/cfa/IntegerType")⟩ := by decide +kernel
theorem ef_3 (m : MethodId)  : entryFrame m #[] 0 = mkF m 0 #[] [] := by first | (simp [entryFrame, mkF, argsToLocals, Value.category]; done) | rfl
theorem ef_1 (m : MethodId) (p1 : Int32) : entryFrame m #[(.int p1)] 1 = mkF m 0 #[.val (.int p1)] [] := by first | (simp [entryFrame, mkF, argsToLocals, Value.category]; done) | rfl
theorem ef_4 (m : MethodId) (p1 : Int32) : entryFrame m #[(.int p1)] 1 = mkF m 0 #[.val (.int p1)] [] := by first | (simp [entryFrame, mkF, argsToLocals, Value.category]; done) | rfl
theorem ef_2 (m : MethodId) (a1 : Addr) : entryFrame m #[(.ref a1)] 5 = mkF m 0 #[.val (.ref a1), .unset, .unset, .unset, .unset] [] := by first | (simp [entryFrame, mkF, argsToLocals, Value.category]; done) | rfl
theorem ef_0 (m : MethodId) (p0 : Int32) : entryFrame m #[(.int p0)] maxLocals = mkF m 0 #[.val (.int p0), .unset, .unset, .unset] [] := by first | (simp [entryFrame, mkF, argsToLocals, Value.category, maxLocals]; done) | rfl
def Q_rm3 (Z : State) (h0 : Heap) (n0 : Nat) (clV : Cell) (v : Option Value) (h : Heap) (L : List Loc) : Prop := v = some (.ref h0.size) ∧ Fr n0 L ∧ Ext h0 h ∧ Arr Z h h0.size (cloneOf clV) (.object "com/example/treellis/treellis/cfa/IntegerType")
set_option maxRecDepth 65536 in
set_option maxHeartbeats 40000000 in
theorem rm3 (l : Launch) (Z : State) (a0 : Array Value) (hw : ∀ d ∈ tables_1, d.before a0 Z = true) (ws : List Jvm.Cond) (aV : Addr) (clV : Cell) (aBOOL aCHAR aSIGNED_CHAR aUNSIGNED_CHAR aSHORT aUNSIGNED_SHORT aINT aUNSIGNED_INT aLONG aUNSIGNED_LONG aLONG_LONG aUNSIGNED_LONG_LONG aINT128 aUNSIGNED_INT128 : Addr) (h0 : Heap) (n0 : Nat) (Z0 : n0 ≤ h0.size) (VV : own_VV Z aV clV aBOOL aCHAR aSIGNED_CHAR aUNSIGNED_CHAR aSHORT aUNSIGNED_SHORT aINT aUNSIGNED_INT aLONG aUNSIGNED_LONG aLONG_LONG aUNSIGNED_LONG_LONG aINT128 aUNSIGNED_INT128) (Od0 : Old Z n0 h0) :
    MetFree l (⟨"com/example/treellis/treellis/cfa/IntegerType", "values", "()[Lcom/example/treellis/treellis/cfa/IntegerType;"⟩ : MethodName) (head1 (Jvm.Cond.code (⟨"com/example/treellis/treellis/cfa/IntegerType", "values", "()[Lcom/example/treellis/treellis/cfa/IntegerType;"⟩ : MethodName) prog_44_method_1_code 0 (some (.array (.object "com/example/treellis/treellis/cfa/IntegerType"))) :: ws) ({ frames := 1, cells := 1, slots := 14, locals := 14 } : Room)) (fun a U => a = #[] ∧ Z.Warmed39 U.vm ∧ U.heap = h0) (fun _ _ _ _ _ => True) (fun _ U o U' => ∃ rv rL, o = .returned rv ∧ Q_rm3 Z h0 n0 clV rv U'.heap rL ∧ FrameEnd U o U' rL ({ frames := 1, cells := 1, slots := 14, locals := 14 } : Room).cells ({ frames := 1, cells := 1, slots := 14, locals := 14 } : Room).slots) := by
  refine own_met (y := (⟨"com/example/treellis/treellis/cfa/IntegerType", "values", "()[Lcom/example/treellis/treellis/cfa/IntegerType;"⟩ : MethodName)) (Q := Q_rm3 Z h0 n0 clV) (own := "com/example/treellis/treellis/cfa/IntegerType") rfl pn_3 ?_
  intro p e s m below meth c s₁ C e0 X0
  obtain ⟨hx, hby, hml, hown, hnm, hret, hlk, hZ⟩ := C
  have N0 := Fr.nil n0
  rw [ef_3]
  obtain ⟨SV, AV, EV, FV, hsz, el_0, el_1, el_2, el_3, el_4, el_5, el_6, el_7, el_8, el_9, el_10, el_11, el_12, el_13⟩ := VV
  show own_Goes _ _ _ _ _ _ _ s₁ (mkF m 0 #[] [])
  obtain ⟨T1, X1, e1, st1⟩ := getS2 X0 hx hZ hown (host := "") (Or.inl (hw _ (List.mem_of_getElem? (i := 16) rfl))) Via.refl e0 (SV.ext Od0.2) (g := (mkF m 0 #[] [])) rfl (hb hby d3_0)
  refine own_go st1 ?_
  show own_Goes _ _ _ _ _ _ _ T1 (mkF m 3 #[] [(.ref aV)])
  obtain ⟨T2, h2, X2, e2, E2, A2, B2, st2⟩ := cloneA X1 hx hZ hown (hw _ (List.mem_of_getElem? (i := 18) rfl)) (hw _ (List.mem_of_getElem? (i := 19) rfl)) (hw _ (List.mem_of_getElem? (i := 23) rfl)) (hw _ (List.mem_of_getElem? (i := 21) rfl)) (hw _ (List.mem_of_getElem? (i := 22) rfl)) (hw _ (List.mem_of_getElem? (i := 24) rfl)) e1 (AV.ext Od0.2) (EV.ext Od0.2) FV (g := (mkF m 3 #[] [(.ref aV)])) rfl (by rw [hml]; rfl) rfl (hb hby d3_3) (by decide) (W := 0) (cap := 14) (by show 2 * 0 + _ ≤ _; exact Nat.le_of_eq rfl) (by decide) (Nat.le_of_eq hsz) (by decide) (by decide)
  refine own_go st2 ?_
  show own_Goes _ _ _ _ _ _ _ T2 (mkF m 6 #[] [(.ref h0.size)])
  obtain ⟨T3, X3, e3, st3⟩ := castY X2 hx hZ hown (hw _ (List.mem_of_getElem? (i := 39) rfl)) e2 (Ins.self B2) (g := (mkF m 6 #[] [(.ref h0.size)])) rfl rfl (hb hby d3_6)
  refine own_go st3 ?_
  show own_Goes _ _ _ _ _ _ _ T3 (mkF m 9 #[] [(.ref h0.size)])
  exact own_retA X3 hx hlk hret rfl rfl (hb hby d3_9) (by decide) (by decide) (by rw [e3]; exact ⟨rfl, N0, E2, A2⟩)
def Q_rm_pick (Z : State) (h0 : Heap) (n0 : Nat) (p1 : Int32) (aBOOL aCHAR aSIGNED_CHAR aUNSIGNED_CHAR aSHORT aUNSIGNED_SHORT aINT aUNSIGNED_INT aLONG aUNSIGNED_LONG aLONG_LONG aUNSIGNED_LONG_LONG aINT128 aUNSIGNED_INT128 : Addr) (v : Option Value) (h : Heap) (L : List Loc) : Prop := v = some (.ref (own_pick p1 aBOOL aCHAR aSIGNED_CHAR aUNSIGNED_CHAR aSHORT aUNSIGNED_SHORT aINT aUNSIGNED_INT aLONG aUNSIGNED_LONG aLONG_LONG aUNSIGNED_LONG_LONG aINT128 aUNSIGNED_INT128)) ∧ Fr n0 L ∧ h = h0
set_option maxRecDepth 65536 in
set_option maxHeartbeats 40000000 in
theorem rm_pick (l : Launch) (Z : State) (a0 : Array Value) (hw : ∀ d ∈ tables_1, d.before a0 Z = true) (ws : List Jvm.Cond) (p1 : Int32) (aBOOL aCHAR aSIGNED_CHAR aUNSIGNED_CHAR aSHORT aUNSIGNED_SHORT aINT aUNSIGNED_INT aLONG aUNSIGNED_LONG aLONG_LONG aUNSIGNED_LONG_LONG aINT128 aUNSIGNED_INT128 : Addr) (h0 : Heap) (n0 : Nat) (Z0 : n0 ≤ h0.size) (SS : own_SS Z aBOOL aCHAR aSIGNED_CHAR aUNSIGNED_CHAR aSHORT aUNSIGNED_SHORT aINT aUNSIGNED_INT aLONG aUNSIGNED_LONG aLONG_LONG aUNSIGNED_LONG_LONG aINT128 aUNSIGNED_INT128) (Od0 : Old Z n0 h0) :
    MetFree l (⟨"com/example/treellis/treellis/cfa/IntegerTypeToUnsignedPinLaw", "pick", "(I)Lcom/example/treellis/treellis/cfa/IntegerType;"⟩ : MethodName) (head1 (Jvm.Cond.code (⟨"com/example/treellis/treellis/cfa/IntegerTypeToUnsignedPinLaw", "pick", "(I)Lcom/example/treellis/treellis/cfa/IntegerType;"⟩ : MethodName) method_2_code 1 (some (.object "com/example/treellis/treellis/cfa/IntegerType")) :: ws) ({ frames := 0, cells := 0, slots := 0, locals := 0 } : Room)) (fun a U => a = #[(.int p1)] ∧ Z.Warmed39 U.vm ∧ U.heap = h0) (fun _ _ _ _ _ => True) (fun _ U o U' => ∃ rv rL, o = .returned rv ∧ Q_rm_pick Z h0 n0 p1 aBOOL aCHAR aSIGNED_CHAR aUNSIGNED_CHAR aSHORT aUNSIGNED_SHORT aINT aUNSIGNED_INT aLONG aUNSIGNED_LONG aLONG_LONG aUNSIGNED_LONG_LONG aINT128 aUNSIGNED_INT128 rv U'.heap rL ∧ FrameEnd U o U' rL ({ frames := 0, cells := 0, slots := 0, locals := 0 } : Room).cells ({ frames := 0, cells := 0, slots := 0, locals := 0 } : Room).slots) := by
  refine own_met (y := (⟨"com/example/treellis/treellis/cfa/IntegerTypeToUnsignedPinLaw", "pick", "(I)Lcom/example/treellis/treellis/cfa/IntegerType;"⟩ : MethodName)) (Q := Q_rm_pick Z h0 n0 p1 aBOOL aCHAR aSIGNED_CHAR aUNSIGNED_CHAR aSHORT aUNSIGNED_SHORT aINT aUNSIGNED_INT aLONG aUNSIGNED_LONG aLONG_LONG aUNSIGNED_LONG_LONG aINT128 aUNSIGNED_INT128) (own := "com/example/treellis/treellis/cfa/IntegerTypeToUnsignedPinLaw") rfl pn_1 ?_
  intro p e s m below meth c s₁ C e0 X0
  obtain ⟨hx, hby, hml, hown, hnm, hret, hlk, hZ⟩ := C
  have N0 := Fr.nil n0
  rw [ef_1]
  obtain ⟨S_BOOL, S_CHAR, S_SIGNED_CHAR, S_UNSIGNED_CHAR, S_SHORT, S_UNSIGNED_SHORT, S_INT, S_UNSIGNED_INT, S_LONG, S_UNSIGNED_LONG, S_LONG_LONG, S_UNSIGNED_LONG_LONG, S_INT128, S_UNSIGNED_INT128⟩ := SS
  show own_Goes _ _ _ _ _ _ _ s₁ (mkF m 0 #[.val (.int p1)] [])
  refine own_go (fun _ k => XS.iloadN X0.here hx rfl (hb hby d1_0) rfl k) ?_
  show own_Goes _ _ _ _ _ _ _ s₁ (mkF m 1 #[.val (.int p1)] [(.int p1)])
  by_cases hc1 : p1 = (0 : Int32)
  · refine own_go (fun _ k => XS.ifNo X0.here hx rfl (hb hby d1_1) rfl ((if0 _ _).trans (teq hc1).2) k) ?_
    show own_Goes _ _ _ _ _ _ _ s₁ (mkF m 4 #[.val (.int p1)] [])
    obtain ⟨T1, X1, e1, st1⟩ := getS2 X0 hx hZ hown (host := "") (Or.inl (hw _ (List.mem_of_getElem? (i := 5) rfl))) Via.refl e0 (S_BOOL.ext Od0.2) (g := (mkF m 4 #[.val (.int p1)] [])) rfl (hb hby d1_4)
    refine own_go st1 ?_
    show own_Goes _ _ _ _ _ _ _ T1 (mkF m 7 #[.val (.int p1)] [(.ref aBOOL)])
    exact own_retA X1 hx hlk hret rfl rfl (hb hby d1_7) (by decide) (by decide) (by rw [e1]; exact ⟨by simp [own_pick, *], N0, rfl⟩)
  · refine own_go (fun _ k => XS.ifYes X0.here hx rfl (pc0 := 1) (pc' := 8) rfl (hb hby d1_1) rfl ((if0 _ _).trans (feq hc1).2) (by decide) (by decide) k) ?_
    show own_Goes _ _ _ _ _ _ _ s₁ (mkF m 8 #[.val (.int p1)] [])
    refine own_go (fun _ k => XS.iloadN X0.here hx rfl (hb hby d1_8) rfl k) ?_
    show own_Goes _ _ _ _ _ _ _ s₁ (mkF m 9 #[.val (.int p1)] [(.int p1)])
    refine own_go (fun _ k => XS.iconst X0.here hx rfl (hb hby d1_9) k) ?_
    show own_Goes _ _ _ _ _ _ _ s₁ (mkF m 10 #[.val (.int p1)] [(.int (1 : Int32)), (.int p1)])
    by_cases hc10 : p1 = (1 : Int32)
    · refine own_go (fun _ k => XS.icmpNo X0.here hx rfl (hb hby d1_10) rfl (teq hc10).2 k) ?_
      show own_Goes _ _ _ _ _ _ _ s₁ (mkF m 13 #[.val (.int p1)] [])
      obtain ⟨T2, X2, e2, st2⟩ := getS2 X0 hx hZ hown (host := "") (Or.inl (hw _ (List.mem_of_getElem? (i := 59) rfl))) Via.refl e0 (S_CHAR.ext Od0.2) (g := (mkF m 13 #[.val (.int p1)] [])) rfl (hb hby d1_13)
      refine own_go st2 ?_
      show own_Goes _ _ _ _ _ _ _ T2 (mkF m 16 #[.val (.int p1)] [(.ref aCHAR)])
      exact own_retA X2 hx hlk hret rfl rfl (hb hby d1_16) (by decide) (by decide) (by rw [e2]; exact ⟨by simp [own_pick, *], N0, rfl⟩)
    · refine own_go (fun _ k => XS.icmpYes X0.here hx rfl (pc0 := 10) (pc' := 17) rfl (hb hby d1_10) rfl (feq hc10).2 (by decide) (by decide) k) ?_
      show own_Goes _ _ _ _ _ _ _ s₁ (mkF m 17 #[.val (.int p1)] [])
      refine own_go (fun _ k => XS.iloadN X0.here hx rfl (hb hby d1_17) rfl k) ?_
      show own_Goes _ _ _ _ _ _ _ s₁ (mkF m 18 #[.val (.int p1)] [(.int p1)])
      refine own_go (fun _ k => XS.iconst X0.here hx rfl (hb hby d1_18) k) ?_
      show own_Goes _ _ _ _ _ _ _ s₁ (mkF m 19 #[.val (.int p1)] [(.int (2 : Int32)), (.int p1)])
      by_cases hc19 : p1 = (2 : Int32)
      · refine own_go (fun _ k => XS.icmpNo X0.here hx rfl (hb hby d1_19) rfl (teq hc19).2 k) ?_
        show own_Goes _ _ _ _ _ _ _ s₁ (mkF m 22 #[.val (.int p1)] [])
        obtain ⟨T3, X3, e3, st3⟩ := getS2 X0 hx hZ hown (host := "") (Or.inl (hw _ (List.mem_of_getElem? (i := 54) rfl))) Via.refl e0 (S_SIGNED_CHAR.ext Od0.2) (g := (mkF m 22 #[.val (.int p1)] [])) rfl (hb hby d1_22)
        refine own_go st3 ?_
        show own_Goes _ _ _ _ _ _ _ T3 (mkF m 25 #[.val (.int p1)] [(.ref aSIGNED_CHAR)])
        exact own_retA X3 hx hlk hret rfl rfl (hb hby d1_25) (by decide) (by decide) (by rw [e3]; exact ⟨by simp [own_pick, *], N0, rfl⟩)
      · refine own_go (fun _ k => XS.icmpYes X0.here hx rfl (pc0 := 19) (pc' := 26) rfl (hb hby d1_19) rfl (feq hc19).2 (by decide) (by decide) k) ?_
        show own_Goes _ _ _ _ _ _ _ s₁ (mkF m 26 #[.val (.int p1)] [])
        refine own_go (fun _ k => XS.iloadN X0.here hx rfl (hb hby d1_26) rfl k) ?_
        show own_Goes _ _ _ _ _ _ _ s₁ (mkF m 27 #[.val (.int p1)] [(.int p1)])
        refine own_go (fun _ k => XS.iconst X0.here hx rfl (hb hby d1_27) k) ?_
        show own_Goes _ _ _ _ _ _ _ s₁ (mkF m 28 #[.val (.int p1)] [(.int (3 : Int32)), (.int p1)])
        by_cases hc28 : p1 = (3 : Int32)
        · refine own_go (fun _ k => XS.icmpNo X0.here hx rfl (hb hby d1_28) rfl (teq hc28).2 k) ?_
          show own_Goes _ _ _ _ _ _ _ s₁ (mkF m 31 #[.val (.int p1)] [])
          obtain ⟨T4, X4, e4, st4⟩ := getS2 X0 hx hZ hown (host := "") (Or.inl (hw _ (List.mem_of_getElem? (i := 48) rfl))) Via.refl e0 (S_UNSIGNED_CHAR.ext Od0.2) (g := (mkF m 31 #[.val (.int p1)] [])) rfl (hb hby d1_31)
          refine own_go st4 ?_
          show own_Goes _ _ _ _ _ _ _ T4 (mkF m 34 #[.val (.int p1)] [(.ref aUNSIGNED_CHAR)])
          exact own_retA X4 hx hlk hret rfl rfl (hb hby d1_34) (by decide) (by decide) (by rw [e4]; exact ⟨by simp [own_pick, *], N0, rfl⟩)
        · refine own_go (fun _ k => XS.icmpYes X0.here hx rfl (pc0 := 28) (pc' := 35) rfl (hb hby d1_28) rfl (feq hc28).2 (by decide) (by decide) k) ?_
          show own_Goes _ _ _ _ _ _ _ s₁ (mkF m 35 #[.val (.int p1)] [])
          refine own_go (fun _ k => XS.iloadN X0.here hx rfl (hb hby d1_35) rfl k) ?_
          show own_Goes _ _ _ _ _ _ _ s₁ (mkF m 36 #[.val (.int p1)] [(.int p1)])
          refine own_go (fun _ k => XS.iconst X0.here hx rfl (hb hby d1_36) k) ?_
          show own_Goes _ _ _ _ _ _ _ s₁ (mkF m 37 #[.val (.int p1)] [(.int (4 : Int32)), (.int p1)])
          by_cases hc37 : p1 = (4 : Int32)
          · refine own_go (fun _ k => XS.icmpNo X0.here hx rfl (hb hby d1_37) rfl (teq hc37).2 k) ?_
            show own_Goes _ _ _ _ _ _ _ s₁ (mkF m 40 #[.val (.int p1)] [])
            obtain ⟨T5, X5, e5, st5⟩ := getS2 X0 hx hZ hown (host := "") (Or.inl (hw _ (List.mem_of_getElem? (i := 51) rfl))) Via.refl e0 (S_SHORT.ext Od0.2) (g := (mkF m 40 #[.val (.int p1)] [])) rfl (hb hby d1_40)
            refine own_go st5 ?_
            show own_Goes _ _ _ _ _ _ _ T5 (mkF m 43 #[.val (.int p1)] [(.ref aSHORT)])
            exact own_retA X5 hx hlk hret rfl rfl (hb hby d1_43) (by decide) (by decide) (by rw [e5]; exact ⟨by simp [own_pick, *], N0, rfl⟩)
          · refine own_go (fun _ k => XS.icmpYes X0.here hx rfl (pc0 := 37) (pc' := 44) rfl (hb hby d1_37) rfl (feq hc37).2 (by decide) (by decide) k) ?_
            show own_Goes _ _ _ _ _ _ _ s₁ (mkF m 44 #[.val (.int p1)] [])
            refine own_go (fun _ k => XS.iloadN X0.here hx rfl (hb hby d1_44) rfl k) ?_
            show own_Goes _ _ _ _ _ _ _ s₁ (mkF m 45 #[.val (.int p1)] [(.int p1)])
            refine own_go (fun _ k => XS.iconst X0.here hx rfl (hb hby d1_45) k) ?_
            show own_Goes _ _ _ _ _ _ _ s₁ (mkF m 46 #[.val (.int p1)] [(.int (5 : Int32)), (.int p1)])
            by_cases hc46 : p1 = (5 : Int32)
            · refine own_go (fun _ k => XS.icmpNo X0.here hx rfl (hb hby d1_46) rfl (teq hc46).2 k) ?_
              show own_Goes _ _ _ _ _ _ _ s₁ (mkF m 49 #[.val (.int p1)] [])
              obtain ⟨T6, X6, e6, st6⟩ := getS2 X0 hx hZ hown (host := "") (Or.inl (hw _ (List.mem_of_getElem? (i := 52) rfl))) Via.refl e0 (S_UNSIGNED_SHORT.ext Od0.2) (g := (mkF m 49 #[.val (.int p1)] [])) rfl (hb hby d1_49)
              refine own_go st6 ?_
              show own_Goes _ _ _ _ _ _ _ T6 (mkF m 52 #[.val (.int p1)] [(.ref aUNSIGNED_SHORT)])
              exact own_retA X6 hx hlk hret rfl rfl (hb hby d1_52) (by decide) (by decide) (by rw [e6]; exact ⟨by simp [own_pick, *], N0, rfl⟩)
            · refine own_go (fun _ k => XS.icmpYes X0.here hx rfl (pc0 := 46) (pc' := 53) rfl (hb hby d1_46) rfl (feq hc46).2 (by decide) (by decide) k) ?_
              show own_Goes _ _ _ _ _ _ _ s₁ (mkF m 53 #[.val (.int p1)] [])
              refine own_go (fun _ k => XS.iloadN X0.here hx rfl (hb hby d1_53) rfl k) ?_
              show own_Goes _ _ _ _ _ _ _ s₁ (mkF m 54 #[.val (.int p1)] [(.int p1)])
              refine own_go (fun _ k => XS.bipush X0.here hx rfl (hb hby d1_54) k) ?_
              show own_Goes _ _ _ _ _ _ _ s₁ (mkF m 56 #[.val (.int p1)] [(.int (6 : Int32)), (.int p1)])
              by_cases hc56 : p1 = (6 : Int32)
              · refine own_go (fun _ k => XS.icmpNo X0.here hx rfl (hb hby d1_56) rfl (teq hc56).2 k) ?_
                show own_Goes _ _ _ _ _ _ _ s₁ (mkF m 59 #[.val (.int p1)] [])
                obtain ⟨T7, X7, e7, st7⟩ := getS2 X0 hx hZ hown (host := "") (Or.inl (hw _ (List.mem_of_getElem? (i := 60) rfl))) Via.refl e0 (S_INT.ext Od0.2) (g := (mkF m 59 #[.val (.int p1)] [])) rfl (hb hby d1_59)
                refine own_go st7 ?_
                show own_Goes _ _ _ _ _ _ _ T7 (mkF m 62 #[.val (.int p1)] [(.ref aINT)])
                exact own_retA X7 hx hlk hret rfl rfl (hb hby d1_62) (by decide) (by decide) (by rw [e7]; exact ⟨by simp [own_pick, *], N0, rfl⟩)
              · refine own_go (fun _ k => XS.icmpYes X0.here hx rfl (pc0 := 56) (pc' := 63) rfl (hb hby d1_56) rfl (feq hc56).2 (by decide) (by decide) k) ?_
                show own_Goes _ _ _ _ _ _ _ s₁ (mkF m 63 #[.val (.int p1)] [])
                refine own_go (fun _ k => XS.iloadN X0.here hx rfl (hb hby d1_63) rfl k) ?_
                show own_Goes _ _ _ _ _ _ _ s₁ (mkF m 64 #[.val (.int p1)] [(.int p1)])
                refine own_go (fun _ k => XS.bipush X0.here hx rfl (hb hby d1_64) k) ?_
                show own_Goes _ _ _ _ _ _ _ s₁ (mkF m 66 #[.val (.int p1)] [(.int (7 : Int32)), (.int p1)])
                by_cases hc66 : p1 = (7 : Int32)
                · refine own_go (fun _ k => XS.icmpNo X0.here hx rfl (hb hby d1_66) rfl (teq hc66).2 k) ?_
                  show own_Goes _ _ _ _ _ _ _ s₁ (mkF m 69 #[.val (.int p1)] [])
                  obtain ⟨T8, X8, e8, st8⟩ := getS2 X0 hx hZ hown (host := "") (Or.inl (hw _ (List.mem_of_getElem? (i := 53) rfl))) Via.refl e0 (S_UNSIGNED_INT.ext Od0.2) (g := (mkF m 69 #[.val (.int p1)] [])) rfl (hb hby d1_69)
                  refine own_go st8 ?_
                  show own_Goes _ _ _ _ _ _ _ T8 (mkF m 72 #[.val (.int p1)] [(.ref aUNSIGNED_INT)])
                  exact own_retA X8 hx hlk hret rfl rfl (hb hby d1_72) (by decide) (by decide) (by rw [e8]; exact ⟨by simp [own_pick, *], N0, rfl⟩)
                · refine own_go (fun _ k => XS.icmpYes X0.here hx rfl (pc0 := 66) (pc' := 73) rfl (hb hby d1_66) rfl (feq hc66).2 (by decide) (by decide) k) ?_
                  show own_Goes _ _ _ _ _ _ _ s₁ (mkF m 73 #[.val (.int p1)] [])
                  refine own_go (fun _ k => XS.iloadN X0.here hx rfl (hb hby d1_73) rfl k) ?_
                  show own_Goes _ _ _ _ _ _ _ s₁ (mkF m 74 #[.val (.int p1)] [(.int p1)])
                  refine own_go (fun _ k => XS.bipush X0.here hx rfl (hb hby d1_74) k) ?_
                  show own_Goes _ _ _ _ _ _ _ s₁ (mkF m 76 #[.val (.int p1)] [(.int (8 : Int32)), (.int p1)])
                  by_cases hc76 : p1 = (8 : Int32)
                  · refine own_go (fun _ k => XS.icmpNo X0.here hx rfl (hb hby d1_76) rfl (teq hc76).2 k) ?_
                    show own_Goes _ _ _ _ _ _ _ s₁ (mkF m 79 #[.val (.int p1)] [])
                    obtain ⟨T9, X9, e9, st9⟩ := getS2 X0 hx hZ hown (host := "") (Or.inl (hw _ (List.mem_of_getElem? (i := 57) rfl))) Via.refl e0 (S_LONG.ext Od0.2) (g := (mkF m 79 #[.val (.int p1)] [])) rfl (hb hby d1_79)
                    refine own_go st9 ?_
                    show own_Goes _ _ _ _ _ _ _ T9 (mkF m 82 #[.val (.int p1)] [(.ref aLONG)])
                    exact own_retA X9 hx hlk hret rfl rfl (hb hby d1_82) (by decide) (by decide) (by rw [e9]; exact ⟨by simp [own_pick, *], N0, rfl⟩)
                  · refine own_go (fun _ k => XS.icmpYes X0.here hx rfl (pc0 := 76) (pc' := 83) rfl (hb hby d1_76) rfl (feq hc76).2 (by decide) (by decide) k) ?_
                    show own_Goes _ _ _ _ _ _ _ s₁ (mkF m 83 #[.val (.int p1)] [])
                    refine own_go (fun _ k => XS.iloadN X0.here hx rfl (hb hby d1_83) rfl k) ?_
                    show own_Goes _ _ _ _ _ _ _ s₁ (mkF m 84 #[.val (.int p1)] [(.int p1)])
                    refine own_go (fun _ k => XS.bipush X0.here hx rfl (hb hby d1_84) k) ?_
                    show own_Goes _ _ _ _ _ _ _ s₁ (mkF m 86 #[.val (.int p1)] [(.int (9 : Int32)), (.int p1)])
                    by_cases hc86 : p1 = (9 : Int32)
                    · refine own_go (fun _ k => XS.icmpNo X0.here hx rfl (hb hby d1_86) rfl (teq hc86).2 k) ?_
                      show own_Goes _ _ _ _ _ _ _ s₁ (mkF m 89 #[.val (.int p1)] [])
                      obtain ⟨T10, X10, e10, st10⟩ := getS2 X0 hx hZ hown (host := "") (Or.inl (hw _ (List.mem_of_getElem? (i := 58) rfl))) Via.refl e0 (S_UNSIGNED_LONG.ext Od0.2) (g := (mkF m 89 #[.val (.int p1)] [])) rfl (hb hby d1_89)
                      refine own_go st10 ?_
                      show own_Goes _ _ _ _ _ _ _ T10 (mkF m 92 #[.val (.int p1)] [(.ref aUNSIGNED_LONG)])
                      exact own_retA X10 hx hlk hret rfl rfl (hb hby d1_92) (by decide) (by decide) (by rw [e10]; exact ⟨by simp [own_pick, *], N0, rfl⟩)
                    · refine own_go (fun _ k => XS.icmpYes X0.here hx rfl (pc0 := 86) (pc' := 93) rfl (hb hby d1_86) rfl (feq hc86).2 (by decide) (by decide) k) ?_
                      show own_Goes _ _ _ _ _ _ _ s₁ (mkF m 93 #[.val (.int p1)] [])
                      refine own_go (fun _ k => XS.iloadN X0.here hx rfl (hb hby d1_93) rfl k) ?_
                      show own_Goes _ _ _ _ _ _ _ s₁ (mkF m 94 #[.val (.int p1)] [(.int p1)])
                      refine own_go (fun _ k => XS.bipush X0.here hx rfl (hb hby d1_94) k) ?_
                      show own_Goes _ _ _ _ _ _ _ s₁ (mkF m 96 #[.val (.int p1)] [(.int (10 : Int32)), (.int p1)])
                      by_cases hc96 : p1 = (10 : Int32)
                      · refine own_go (fun _ k => XS.icmpNo X0.here hx rfl (hb hby d1_96) rfl (teq hc96).2 k) ?_
                        show own_Goes _ _ _ _ _ _ _ s₁ (mkF m 99 #[.val (.int p1)] [])
                        obtain ⟨T11, X11, e11, st11⟩ := getS2 X0 hx hZ hown (host := "") (Or.inl (hw _ (List.mem_of_getElem? (i := 56) rfl))) Via.refl e0 (S_LONG_LONG.ext Od0.2) (g := (mkF m 99 #[.val (.int p1)] [])) rfl (hb hby d1_99)
                        refine own_go st11 ?_
                        show own_Goes _ _ _ _ _ _ _ T11 (mkF m 102 #[.val (.int p1)] [(.ref aLONG_LONG)])
                        exact own_retA X11 hx hlk hret rfl rfl (hb hby d1_102) (by decide) (by decide) (by rw [e11]; exact ⟨by simp [own_pick, *], N0, rfl⟩)
                      · refine own_go (fun _ k => XS.icmpYes X0.here hx rfl (pc0 := 96) (pc' := 103) rfl (hb hby d1_96) rfl (feq hc96).2 (by decide) (by decide) k) ?_
                        show own_Goes _ _ _ _ _ _ _ s₁ (mkF m 103 #[.val (.int p1)] [])
                        refine own_go (fun _ k => XS.iloadN X0.here hx rfl (hb hby d1_103) rfl k) ?_
                        show own_Goes _ _ _ _ _ _ _ s₁ (mkF m 104 #[.val (.int p1)] [(.int p1)])
                        refine own_go (fun _ k => XS.bipush X0.here hx rfl (hb hby d1_104) k) ?_
                        show own_Goes _ _ _ _ _ _ _ s₁ (mkF m 106 #[.val (.int p1)] [(.int (11 : Int32)), (.int p1)])
                        by_cases hc106 : p1 = (11 : Int32)
                        · refine own_go (fun _ k => XS.icmpNo X0.here hx rfl (hb hby d1_106) rfl (teq hc106).2 k) ?_
                          show own_Goes _ _ _ _ _ _ _ s₁ (mkF m 109 #[.val (.int p1)] [])
                          obtain ⟨T12, X12, e12, st12⟩ := getS2 X0 hx hZ hown (host := "") (Or.inl (hw _ (List.mem_of_getElem? (i := 55) rfl))) Via.refl e0 (S_UNSIGNED_LONG_LONG.ext Od0.2) (g := (mkF m 109 #[.val (.int p1)] [])) rfl (hb hby d1_109)
                          refine own_go st12 ?_
                          show own_Goes _ _ _ _ _ _ _ T12 (mkF m 112 #[.val (.int p1)] [(.ref aUNSIGNED_LONG_LONG)])
                          exact own_retA X12 hx hlk hret rfl rfl (hb hby d1_112) (by decide) (by decide) (by rw [e12]; exact ⟨by simp [own_pick, *], N0, rfl⟩)
                        · refine own_go (fun _ k => XS.icmpYes X0.here hx rfl (pc0 := 106) (pc' := 113) rfl (hb hby d1_106) rfl (feq hc106).2 (by decide) (by decide) k) ?_
                          show own_Goes _ _ _ _ _ _ _ s₁ (mkF m 113 #[.val (.int p1)] [])
                          refine own_go (fun _ k => XS.iloadN X0.here hx rfl (hb hby d1_113) rfl k) ?_
                          show own_Goes _ _ _ _ _ _ _ s₁ (mkF m 114 #[.val (.int p1)] [(.int p1)])
                          refine own_go (fun _ k => XS.bipush X0.here hx rfl (hb hby d1_114) k) ?_
                          show own_Goes _ _ _ _ _ _ _ s₁ (mkF m 116 #[.val (.int p1)] [(.int (12 : Int32)), (.int p1)])
                          by_cases hc116 : p1 = (12 : Int32)
                          · refine own_go (fun _ k => XS.icmpNo X0.here hx rfl (hb hby d1_116) rfl (teq hc116).2 k) ?_
                            show own_Goes _ _ _ _ _ _ _ s₁ (mkF m 119 #[.val (.int p1)] [])
                            obtain ⟨T13, X13, e13, st13⟩ := getS2 X0 hx hZ hown (host := "") (Or.inl (hw _ (List.mem_of_getElem? (i := 49) rfl))) Via.refl e0 (S_INT128.ext Od0.2) (g := (mkF m 119 #[.val (.int p1)] [])) rfl (hb hby d1_119)
                            refine own_go st13 ?_
                            show own_Goes _ _ _ _ _ _ _ T13 (mkF m 122 #[.val (.int p1)] [(.ref aINT128)])
                            exact own_retA X13 hx hlk hret rfl rfl (hb hby d1_122) (by decide) (by decide) (by rw [e13]; exact ⟨by simp [own_pick, *], N0, rfl⟩)
                          · refine own_go (fun _ k => XS.icmpYes X0.here hx rfl (pc0 := 116) (pc' := 123) rfl (hb hby d1_116) rfl (feq hc116).2 (by decide) (by decide) k) ?_
                            show own_Goes _ _ _ _ _ _ _ s₁ (mkF m 123 #[.val (.int p1)] [])
                            obtain ⟨T14, X14, e14, st14⟩ := getS2 X0 hx hZ hown (host := "") (Or.inl (hw _ (List.mem_of_getElem? (i := 50) rfl))) Via.refl e0 (S_UNSIGNED_INT128.ext Od0.2) (g := (mkF m 123 #[.val (.int p1)] [])) rfl (hb hby d1_123)
                            refine own_go st14 ?_
                            show own_Goes _ _ _ _ _ _ _ T14 (mkF m 126 #[.val (.int p1)] [(.ref aUNSIGNED_INT128)])
                            exact own_retA X14 hx hlk hret rfl rfl (hb hby d1_126) (by decide) (by decide) (by rw [e14]; exact ⟨by simp [own_pick, *], N0, rfl⟩)
def Q_rm_expected (Z : State) (h0 : Heap) (n0 : Nat) (p1 : Int32) (aBOOL aCHAR aSIGNED_CHAR aUNSIGNED_CHAR aSHORT aUNSIGNED_SHORT aINT aUNSIGNED_INT aLONG aUNSIGNED_LONG aLONG_LONG aUNSIGNED_LONG_LONG aINT128 aUNSIGNED_INT128 : Addr) (v : Option Value) (h : Heap) (L : List Loc) : Prop := v = some (.ref (own_expected p1 aBOOL aCHAR aSIGNED_CHAR aUNSIGNED_CHAR aSHORT aUNSIGNED_SHORT aINT aUNSIGNED_INT aLONG aUNSIGNED_LONG aLONG_LONG aUNSIGNED_LONG_LONG aINT128 aUNSIGNED_INT128)) ∧ Fr n0 L ∧ h = h0
set_option maxRecDepth 65536 in
set_option maxHeartbeats 40000000 in
theorem rm_expected (l : Launch) (Z : State) (a0 : Array Value) (hw : ∀ d ∈ tables_1, d.before a0 Z = true) (ws : List Jvm.Cond) (p1 : Int32) (aBOOL aCHAR aSIGNED_CHAR aUNSIGNED_CHAR aSHORT aUNSIGNED_SHORT aINT aUNSIGNED_INT aLONG aUNSIGNED_LONG aLONG_LONG aUNSIGNED_LONG_LONG aINT128 aUNSIGNED_INT128 : Addr) (h0 : Heap) (n0 : Nat) (Z0 : n0 ≤ h0.size) (SS : own_SS Z aBOOL aCHAR aSIGNED_CHAR aUNSIGNED_CHAR aSHORT aUNSIGNED_SHORT aINT aUNSIGNED_INT aLONG aUNSIGNED_LONG aLONG_LONG aUNSIGNED_LONG_LONG aINT128 aUNSIGNED_INT128) (Od0 : Old Z n0 h0) :
    MetFree l (⟨"com/example/treellis/treellis/cfa/IntegerTypeToUnsignedPinLaw", "expected", "(I)Lcom/example/treellis/treellis/cfa/IntegerType;"⟩ : MethodName) (head1 (Jvm.Cond.code (⟨"com/example/treellis/treellis/cfa/IntegerTypeToUnsignedPinLaw", "expected", "(I)Lcom/example/treellis/treellis/cfa/IntegerType;"⟩ : MethodName) method_3_code 1 (some (.object "com/example/treellis/treellis/cfa/IntegerType")) :: ws) ({ frames := 0, cells := 0, slots := 0, locals := 0 } : Room)) (fun a U => a = #[(.int p1)] ∧ Z.Warmed39 U.vm ∧ U.heap = h0) (fun _ _ _ _ _ => True) (fun _ U o U' => ∃ rv rL, o = .returned rv ∧ Q_rm_expected Z h0 n0 p1 aBOOL aCHAR aSIGNED_CHAR aUNSIGNED_CHAR aSHORT aUNSIGNED_SHORT aINT aUNSIGNED_INT aLONG aUNSIGNED_LONG aLONG_LONG aUNSIGNED_LONG_LONG aINT128 aUNSIGNED_INT128 rv U'.heap rL ∧ FrameEnd U o U' rL ({ frames := 0, cells := 0, slots := 0, locals := 0 } : Room).cells ({ frames := 0, cells := 0, slots := 0, locals := 0 } : Room).slots) := by
  refine own_met (y := (⟨"com/example/treellis/treellis/cfa/IntegerTypeToUnsignedPinLaw", "expected", "(I)Lcom/example/treellis/treellis/cfa/IntegerType;"⟩ : MethodName)) (Q := Q_rm_expected Z h0 n0 p1 aBOOL aCHAR aSIGNED_CHAR aUNSIGNED_CHAR aSHORT aUNSIGNED_SHORT aINT aUNSIGNED_INT aLONG aUNSIGNED_LONG aLONG_LONG aUNSIGNED_LONG_LONG aINT128 aUNSIGNED_INT128) (own := "com/example/treellis/treellis/cfa/IntegerTypeToUnsignedPinLaw") rfl pn_4 ?_
  intro p e s m below meth c s₁ C e0 X0
  obtain ⟨hx, hby, hml, hown, hnm, hret, hlk, hZ⟩ := C
  have N0 := Fr.nil n0
  rw [ef_4]
  obtain ⟨S_BOOL, S_CHAR, S_SIGNED_CHAR, S_UNSIGNED_CHAR, S_SHORT, S_UNSIGNED_SHORT, S_INT, S_UNSIGNED_INT, S_LONG, S_UNSIGNED_LONG, S_LONG_LONG, S_UNSIGNED_LONG_LONG, S_INT128, S_UNSIGNED_INT128⟩ := SS
  show own_Goes _ _ _ _ _ _ _ s₁ (mkF m 0 #[.val (.int p1)] [])
  refine own_go (fun _ k => XS.iloadN X0.here hx rfl (hb hby d4_0) rfl k) ?_
  show own_Goes _ _ _ _ _ _ _ s₁ (mkF m 1 #[.val (.int p1)] [(.int p1)])
  by_cases hc1 : p1 = (0 : Int32)
  · refine own_go (fun _ k => XS.ifNo X0.here hx rfl (hb hby d4_1) rfl ((if0 _ _).trans (teq hc1).2) k) ?_
    show own_Goes _ _ _ _ _ _ _ s₁ (mkF m 4 #[.val (.int p1)] [])
    obtain ⟨T1, X1, e1, st1⟩ := getS2 X0 hx hZ hown (host := "") (Or.inl (hw _ (List.mem_of_getElem? (i := 5) rfl))) Via.refl e0 (S_BOOL.ext Od0.2) (g := (mkF m 4 #[.val (.int p1)] [])) rfl (hb hby d4_4)
    refine own_go st1 ?_
    show own_Goes _ _ _ _ _ _ _ T1 (mkF m 7 #[.val (.int p1)] [(.ref aBOOL)])
    exact own_retA X1 hx hlk hret rfl rfl (hb hby d4_7) (by decide) (by decide) (by rw [e1]; exact ⟨by simp [own_expected, *], N0, rfl⟩)
  · refine own_go (fun _ k => XS.ifYes X0.here hx rfl (pc0 := 1) (pc' := 8) rfl (hb hby d4_1) rfl ((if0 _ _).trans (feq hc1).2) (by decide) (by decide) k) ?_
    show own_Goes _ _ _ _ _ _ _ s₁ (mkF m 8 #[.val (.int p1)] [])
    refine own_go (fun _ k => XS.iloadN X0.here hx rfl (hb hby d4_8) rfl k) ?_
    show own_Goes _ _ _ _ _ _ _ s₁ (mkF m 9 #[.val (.int p1)] [(.int p1)])
    refine own_go (fun _ k => XS.iconst X0.here hx rfl (hb hby d4_9) k) ?_
    show own_Goes _ _ _ _ _ _ _ s₁ (mkF m 10 #[.val (.int p1)] [(.int (3 : Int32)), (.int p1)])
    by_cases hc10 : (3 : Int32) < p1
    · refine own_go (fun _ k => XS.icmpYes X0.here hx rfl (pc0 := 10) (pc' := 17) rfl (hb hby d4_10) rfl (tlt hc10).2.2.1 (by decide) (by decide) k) ?_
      show own_Goes _ _ _ _ _ _ _ s₁ (mkF m 17 #[.val (.int p1)] [])
      refine own_go (fun _ k => XS.iloadN X0.here hx rfl (hb hby d4_17) rfl k) ?_
      show own_Goes _ _ _ _ _ _ _ s₁ (mkF m 18 #[.val (.int p1)] [(.int p1)])
      refine own_go (fun _ k => XS.iconst X0.here hx rfl (hb hby d4_18) k) ?_
      show own_Goes _ _ _ _ _ _ _ s₁ (mkF m 19 #[.val (.int p1)] [(.int (5 : Int32)), (.int p1)])
      by_cases hc19 : (5 : Int32) < p1
      · refine own_go (fun _ k => XS.icmpYes X0.here hx rfl (pc0 := 19) (pc' := 26) rfl (hb hby d4_19) rfl (tlt hc19).2.2.1 (by decide) (by decide) k) ?_
        show own_Goes _ _ _ _ _ _ _ s₁ (mkF m 26 #[.val (.int p1)] [])
        refine own_go (fun _ k => XS.iloadN X0.here hx rfl (hb hby d4_26) rfl k) ?_
        show own_Goes _ _ _ _ _ _ _ s₁ (mkF m 27 #[.val (.int p1)] [(.int p1)])
        refine own_go (fun _ k => XS.bipush X0.here hx rfl (hb hby d4_27) k) ?_
        show own_Goes _ _ _ _ _ _ _ s₁ (mkF m 29 #[.val (.int p1)] [(.int (7 : Int32)), (.int p1)])
        by_cases hc29 : (7 : Int32) < p1
        · refine own_go (fun _ k => XS.icmpYes X0.here hx rfl (pc0 := 29) (pc' := 36) rfl (hb hby d4_29) rfl (tlt hc29).2.2.1 (by decide) (by decide) k) ?_
          show own_Goes _ _ _ _ _ _ _ s₁ (mkF m 36 #[.val (.int p1)] [])
          refine own_go (fun _ k => XS.iloadN X0.here hx rfl (hb hby d4_36) rfl k) ?_
          show own_Goes _ _ _ _ _ _ _ s₁ (mkF m 37 #[.val (.int p1)] [(.int p1)])
          refine own_go (fun _ k => XS.bipush X0.here hx rfl (hb hby d4_37) k) ?_
          show own_Goes _ _ _ _ _ _ _ s₁ (mkF m 39 #[.val (.int p1)] [(.int (9 : Int32)), (.int p1)])
          by_cases hc39 : (9 : Int32) < p1
          · refine own_go (fun _ k => XS.icmpYes X0.here hx rfl (pc0 := 39) (pc' := 46) rfl (hb hby d4_39) rfl (tlt hc39).2.2.1 (by decide) (by decide) k) ?_
            show own_Goes _ _ _ _ _ _ _ s₁ (mkF m 46 #[.val (.int p1)] [])
            refine own_go (fun _ k => XS.iloadN X0.here hx rfl (hb hby d4_46) rfl k) ?_
            show own_Goes _ _ _ _ _ _ _ s₁ (mkF m 47 #[.val (.int p1)] [(.int p1)])
            refine own_go (fun _ k => XS.bipush X0.here hx rfl (hb hby d4_47) k) ?_
            show own_Goes _ _ _ _ _ _ _ s₁ (mkF m 49 #[.val (.int p1)] [(.int (11 : Int32)), (.int p1)])
            by_cases hc49 : (11 : Int32) < p1
            · refine own_go (fun _ k => XS.icmpYes X0.here hx rfl (pc0 := 49) (pc' := 56) rfl (hb hby d4_49) rfl (tlt hc49).2.2.1 (by decide) (by decide) k) ?_
              show own_Goes _ _ _ _ _ _ _ s₁ (mkF m 56 #[.val (.int p1)] [])
              obtain ⟨T2, X2, e2, st2⟩ := getS2 X0 hx hZ hown (host := "") (Or.inl (hw _ (List.mem_of_getElem? (i := 50) rfl))) Via.refl e0 (S_UNSIGNED_INT128.ext Od0.2) (g := (mkF m 56 #[.val (.int p1)] [])) rfl (hb hby d4_56)
              refine own_go st2 ?_
              show own_Goes _ _ _ _ _ _ _ T2 (mkF m 59 #[.val (.int p1)] [(.ref aUNSIGNED_INT128)])
              exact own_retA X2 hx hlk hret rfl rfl (hb hby d4_59) (by decide) (by decide) (by rw [e2]; exact ⟨by simp [own_expected, *], N0, rfl⟩)
            · refine own_go (fun _ k => XS.icmpNo X0.here hx rfl (hb hby d4_49) rfl (flt hc49).2.2.1 k) ?_
              show own_Goes _ _ _ _ _ _ _ s₁ (mkF m 52 #[.val (.int p1)] [])
              obtain ⟨T3, X3, e3, st3⟩ := getS2 X0 hx hZ hown (host := "") (Or.inl (hw _ (List.mem_of_getElem? (i := 55) rfl))) Via.refl e0 (S_UNSIGNED_LONG_LONG.ext Od0.2) (g := (mkF m 52 #[.val (.int p1)] [])) rfl (hb hby d4_52)
              refine own_go st3 ?_
              show own_Goes _ _ _ _ _ _ _ T3 (mkF m 55 #[.val (.int p1)] [(.ref aUNSIGNED_LONG_LONG)])
              exact own_retA X3 hx hlk hret rfl rfl (hb hby d4_55) (by decide) (by decide) (by rw [e3]; exact ⟨by simp [own_expected, *], N0, rfl⟩)
          · refine own_go (fun _ k => XS.icmpNo X0.here hx rfl (hb hby d4_39) rfl (flt hc39).2.2.1 k) ?_
            show own_Goes _ _ _ _ _ _ _ s₁ (mkF m 42 #[.val (.int p1)] [])
            obtain ⟨T4, X4, e4, st4⟩ := getS2 X0 hx hZ hown (host := "") (Or.inl (hw _ (List.mem_of_getElem? (i := 58) rfl))) Via.refl e0 (S_UNSIGNED_LONG.ext Od0.2) (g := (mkF m 42 #[.val (.int p1)] [])) rfl (hb hby d4_42)
            refine own_go st4 ?_
            show own_Goes _ _ _ _ _ _ _ T4 (mkF m 45 #[.val (.int p1)] [(.ref aUNSIGNED_LONG)])
            exact own_retA X4 hx hlk hret rfl rfl (hb hby d4_45) (by decide) (by decide) (by rw [e4]; exact ⟨by simp [own_expected, *], N0, rfl⟩)
        · refine own_go (fun _ k => XS.icmpNo X0.here hx rfl (hb hby d4_29) rfl (flt hc29).2.2.1 k) ?_
          show own_Goes _ _ _ _ _ _ _ s₁ (mkF m 32 #[.val (.int p1)] [])
          obtain ⟨T5, X5, e5, st5⟩ := getS2 X0 hx hZ hown (host := "") (Or.inl (hw _ (List.mem_of_getElem? (i := 53) rfl))) Via.refl e0 (S_UNSIGNED_INT.ext Od0.2) (g := (mkF m 32 #[.val (.int p1)] [])) rfl (hb hby d4_32)
          refine own_go st5 ?_
          show own_Goes _ _ _ _ _ _ _ T5 (mkF m 35 #[.val (.int p1)] [(.ref aUNSIGNED_INT)])
          exact own_retA X5 hx hlk hret rfl rfl (hb hby d4_35) (by decide) (by decide) (by rw [e5]; exact ⟨by simp [own_expected, *], N0, rfl⟩)
      · refine own_go (fun _ k => XS.icmpNo X0.here hx rfl (hb hby d4_19) rfl (flt hc19).2.2.1 k) ?_
        show own_Goes _ _ _ _ _ _ _ s₁ (mkF m 22 #[.val (.int p1)] [])
        obtain ⟨T6, X6, e6, st6⟩ := getS2 X0 hx hZ hown (host := "") (Or.inl (hw _ (List.mem_of_getElem? (i := 52) rfl))) Via.refl e0 (S_UNSIGNED_SHORT.ext Od0.2) (g := (mkF m 22 #[.val (.int p1)] [])) rfl (hb hby d4_22)
        refine own_go st6 ?_
        show own_Goes _ _ _ _ _ _ _ T6 (mkF m 25 #[.val (.int p1)] [(.ref aUNSIGNED_SHORT)])
        exact own_retA X6 hx hlk hret rfl rfl (hb hby d4_25) (by decide) (by decide) (by rw [e6]; exact ⟨by simp [own_expected, *], N0, rfl⟩)
    · refine own_go (fun _ k => XS.icmpNo X0.here hx rfl (hb hby d4_10) rfl (flt hc10).2.2.1 k) ?_
      show own_Goes _ _ _ _ _ _ _ s₁ (mkF m 13 #[.val (.int p1)] [])
      obtain ⟨T7, X7, e7, st7⟩ := getS2 X0 hx hZ hown (host := "") (Or.inl (hw _ (List.mem_of_getElem? (i := 48) rfl))) Via.refl e0 (S_UNSIGNED_CHAR.ext Od0.2) (g := (mkF m 13 #[.val (.int p1)] [])) rfl (hb hby d4_13)
      refine own_go st7 ?_
      show own_Goes _ _ _ _ _ _ _ T7 (mkF m 16 #[.val (.int p1)] [(.ref aUNSIGNED_CHAR)])
      exact own_retA X7 hx hlk hret rfl rfl (hb hby d4_16) (by decide) (by decide) (by rw [e7]; exact ⟨by simp [own_expected, *], N0, rfl⟩)
def Q_rmU0 (Z : State) (h0 : Heap) (n0 : Nat) (aBOOL : Addr) (v : Option Value) (h : Heap) (L : List Loc) : Prop := v = some (.ref aBOOL) ∧ Fr n0 L ∧ Ext h0 h
set_option maxRecDepth 65536 in
set_option maxHeartbeats 40000000 in
theorem rmU0 (l : Launch) (Z : State) (a0 : Array Value) (hw : ∀ d ∈ tables_1, d.before a0 Z = true) (ws : List Jvm.Cond) (a1 aV : Addr) (clV : Cell) (aBOOL aCHAR aSIGNED_CHAR aUNSIGNED_CHAR aSHORT aUNSIGNED_SHORT aINT aUNSIGNED_INT aLONG aUNSIGNED_LONG aLONG_LONG aUNSIGNED_LONG_LONG aINT128 aUNSIGNED_INT128 : Addr) (h0 : Heap) (n0 : Nat) (Z0 : n0 ≤ h0.size) (VV : own_VV Z aV clV aBOOL aCHAR aSIGNED_CHAR aUNSIGNED_CHAR aSHORT aUNSIGNED_SHORT aINT aUNSIGNED_INT aLONG aUNSIGNED_LONG aLONG_LONG aUNSIGNED_LONG_LONG aINT128 aUNSIGNED_INT128) (FF : own_FF Z aBOOL aCHAR aSIGNED_CHAR aUNSIGNED_CHAR aSHORT aUNSIGNED_SHORT aINT aUNSIGNED_INT aLONG aUNSIGNED_LONG aLONG_LONG aUNSIGNED_LONG_LONG aINT128 aUNSIGNED_INT128) (Od0 : Old Z n0 h0) (R_a1 : Fld Z Z.heap a1 "com/example/treellis/treellis/cfa/IntegerType" "rank" "I" (.int (0 : Int32))) :
    MetFree l (⟨"com/example/treellis/treellis/cfa/IntegerType", "toUnsigned", "()Lcom/example/treellis/treellis/cfa/IntegerType;"⟩ : MethodName) (head1 (Jvm.Cond.code (⟨"com/example/treellis/treellis/cfa/IntegerType", "toUnsigned", "()Lcom/example/treellis/treellis/cfa/IntegerType;"⟩ : MethodName) prog_44_method_6_code 5 (some (.object "com/example/treellis/treellis/cfa/IntegerType")) :: ws) ({ frames := 2, cells := 1, slots := 14, locals := 25 } : Room)) (fun a U => a = #[(.ref a1)] ∧ Z.Warmed39 U.vm ∧ U.heap = h0) (fun _ _ _ _ _ => True) (fun _ U o U' => ∃ rv rL, o = .returned rv ∧ Q_rmU0 Z h0 n0 aBOOL rv U'.heap rL ∧ FrameEnd U o U' rL ({ frames := 2, cells := 1, slots := 14, locals := 25 } : Room).cells ({ frames := 2, cells := 1, slots := 14, locals := 25 } : Room).slots) := by
  refine own_met (y := (⟨"com/example/treellis/treellis/cfa/IntegerType", "toUnsigned", "()Lcom/example/treellis/treellis/cfa/IntegerType;"⟩ : MethodName)) (Q := Q_rmU0 Z h0 n0 aBOOL) (own := "com/example/treellis/treellis/cfa/IntegerType") rfl pn_2 ?_
  intro p e s m below meth c s₁ C e0 X0
  obtain ⟨hx, hby, hml, hown, hnm, hret, hlk, hZ⟩ := C
  have N0 := Fr.nil n0
  rw [ef_2]
  obtain ⟨SV, AV, EV, FV, hsz, el_0, el_1, el_2, el_3, el_4, el_5, el_6, el_7, el_8, el_9, el_10, el_11, el_12, el_13⟩ := VV
  obtain ⟨⟨E_BOOL, R_BOOL, G_BOOL⟩, ⟨E_CHAR, R_CHAR, G_CHAR⟩, ⟨E_SIGNED_CHAR, R_SIGNED_CHAR, G_SIGNED_CHAR⟩, ⟨E_UNSIGNED_CHAR, R_UNSIGNED_CHAR, G_UNSIGNED_CHAR⟩, ⟨E_SHORT, R_SHORT, G_SHORT⟩, ⟨E_UNSIGNED_SHORT, R_UNSIGNED_SHORT, G_UNSIGNED_SHORT⟩, ⟨E_INT, R_INT, G_INT⟩, ⟨E_UNSIGNED_INT, R_UNSIGNED_INT, G_UNSIGNED_INT⟩, ⟨E_LONG, R_LONG, G_LONG⟩, ⟨E_UNSIGNED_LONG, R_UNSIGNED_LONG, G_UNSIGNED_LONG⟩, ⟨E_LONG_LONG, R_LONG_LONG, G_LONG_LONG⟩, ⟨E_UNSIGNED_LONG_LONG, R_UNSIGNED_LONG_LONG, G_UNSIGNED_LONG_LONG⟩, ⟨E_INT128, R_INT128, G_INT128⟩, ⟨E_UNSIGNED_INT128, R_UNSIGNED_INT128, G_UNSIGNED_INT128⟩⟩ := FF
  show own_Goes _ _ _ _ _ _ _ s₁ (mkF m 0 #[.val (.ref a1), .unset, .unset, .unset, .unset] [])
  obtain ⟨_, _, ⟨T1, L1, k1, n1⟩, -, X1, ⟨Lc1, hQ1, l1, y1, z1⟩, st1⟩ := Jvm.LawKit.callS X0 hx (y := (⟨"com/example/treellis/treellis/cfa/IntegerType", "values", "()[Lcom/example/treellis/treellis/cfa/IntegerType;"⟩ : MethodName)) hown (mvT hZ (hw _ (List.mem_of_getElem? (i := 13) rfl))) (mvT hZ (hw _ (List.mem_of_getElem? (i := 14) rfl))) (mvT hZ (hw _ (List.mem_of_getElem? (i := 6) rfl))) (mvT hZ (hw _ (List.mem_of_getElem? (i := 15) rfl))) (by decide) (backOf (W := 0) (rm3 l Z a0 hw [] aV clV aBOOL aCHAR aSIGNED_CHAR aUNSIGNED_CHAR aSHORT aUNSIGNED_SHORT aINT aUNSIGNED_INT aLONG aUNSIGNED_LONG aLONG_LONG aUNSIGNED_LONG_LONG aINT128 aUNSIGNED_INT128 h0 n0 Z0 ⟨SV, AV, EV, FV, hsz, el_0, el_1, el_2, el_3, el_4, el_5, el_6, el_7, el_8, el_9, el_10, el_11, el_12, el_13⟩ Od0) hZ (hw _ (List.mem_of_getElem? (i := 15) rfl)) (hw _ (List.mem_of_getElem? (i := 6) rfl)) (by decide) (by decide)) (g := (mkF m 0 #[.val (.ref a1), .unset, .unset, .unset, .unset] [])) rfl (by rw [hml]; rfl) (argsL := []) (rest := []) (lenOf pd_0 rfl) rfl (by show 2 * 0 + _ ≤ _; exact Nat.le_of_eq rfl) (hb hby d2_0) (fun _ _ => ⟨rfl, e0, (by decide : 0 + 1 ≤ _), (by decide : 0 + 14 ≤ _)⟩)
  dsimp only [Pt.U, Pt.locs, Pt.cells, Pt.slots] at X1 l1 y1 z1 st1 hQ1
  subst l1 y1 z1
  obtain ⟨rfl, N1q, E1, A1⟩ := hQ1
  have N1 := Fr.app N0 N1q
  refine own_go st1 ?_
  show own_Goes _ _ _ _ _ _ _ T1 (mkF m 3 #[.val (.ref a1), .unset, .unset, .unset, .unset] [(.ref h0.size)])
  have Od1 := Od0.ext E1
  refine own_go (fun _ k => XS.astoreN X1.here hx rfl (hb hby d2_3) rfl rfl (l' := #[.val (.ref a1), .val (.ref h0.size), .unset, .unset, .unset]) rfl k) ?_
  show own_Goes _ _ _ _ _ _ _ T1 (mkF m 4 #[.val (.ref a1), .val (.ref h0.size), .unset, .unset, .unset] [])
  refine own_go (fun _ k => XS.aloadN X1.here hx rfl (hb hby d2_4) rfl rfl k) ?_
  show own_Goes _ _ _ _ _ _ _ T1 (mkF m 5 #[.val (.ref a1), .val (.ref h0.size), .unset, .unset, .unset] [(.ref h0.size)])
  refine own_go (fun t k => X1.arraylength hx (by exact A1.1) (State.isArrayOf_alike hZ.alike A1.2.1) (g := (mkF m 5 #[.val (.ref a1), .val (.ref h0.size), .unset, .unset, .unset] [(.ref h0.size)])) rfl rfl (hb hby d2_5) t k) ?_
  rw [show (cloneOf clV).slots.size.toInt32 = (14 : Int32) from by show clV.slots.size.toInt32 = _; rw [hsz]; rfl]
  show own_Goes _ _ _ _ _ _ _ T1 (mkF m 6 #[.val (.ref a1), .val (.ref h0.size), .unset, .unset, .unset] [(.int (14 : Int32))])
  refine own_go (fun _ k => XS.istoreN X1.here hx rfl (hb hby d2_6) rfl (l' := #[.val (.ref a1), .val (.ref h0.size), .val (.int (14 : Int32)), .unset, .unset]) rfl k) ?_
  show own_Goes _ _ _ _ _ _ _ T1 (mkF m 7 #[.val (.ref a1), .val (.ref h0.size), .val (.int (14 : Int32)), .unset, .unset] [])
  refine own_go (fun _ k => XS.iconst X1.here hx rfl (hb hby d2_7) k) ?_
  show own_Goes _ _ _ _ _ _ _ T1 (mkF m 8 #[.val (.ref a1), .val (.ref h0.size), .val (.int (14 : Int32)), .unset, .unset] [(.int (0 : Int32))])
  refine own_go (fun _ k => XS.istoreN X1.here hx rfl (hb hby d2_8) rfl (l' := #[.val (.ref a1), .val (.ref h0.size), .val (.int (14 : Int32)), .val (.int (0 : Int32)), .unset]) rfl k) ?_
  show own_Goes _ _ _ _ _ _ _ T1 (mkF m 9 #[.val (.ref a1), .val (.ref h0.size), .val (.int (14 : Int32)), .val (.int (0 : Int32)), .unset] [])
  refine own_go (fun _ k => XS.iloadN X1.here hx rfl (hb hby d2_9) rfl k) ?_
  show own_Goes _ _ _ _ _ _ _ T1 (mkF m 10 #[.val (.ref a1), .val (.ref h0.size), .val (.int (14 : Int32)), .val (.int (0 : Int32)), .unset] [(.int (0 : Int32))])
  refine own_go (fun _ k => XS.iloadN X1.here hx rfl (hb hby d2_10) rfl k) ?_
  show own_Goes _ _ _ _ _ _ _ T1 (mkF m 11 #[.val (.ref a1), .val (.ref h0.size), .val (.int (14 : Int32)), .val (.int (0 : Int32)), .unset] [(.int (14 : Int32)), (.int (0 : Int32))])
  refine own_go (fun _ k => XS.icmpNo X1.here hx rfl (hb hby d2_11) rfl (tlt (by decide : (0 : Int32) < (14 : Int32))).2.1 k) ?_
  show own_Goes _ _ _ _ _ _ _ T1 (mkF m 14 #[.val (.ref a1), .val (.ref h0.size), .val (.int (14 : Int32)), .val (.int (0 : Int32)), .unset] [])
  refine own_go (fun _ k => XS.aloadN X1.here hx rfl (hb hby d2_14) rfl rfl k) ?_
  show own_Goes _ _ _ _ _ _ _ T1 (mkF m 15 #[.val (.ref a1), .val (.ref h0.size), .val (.int (14 : Int32)), .val (.int (0 : Int32)), .unset] [(.ref h0.size)])
  refine own_go (fun _ k => XS.iloadN X1.here hx rfl (hb hby d2_15) rfl k) ?_
  show own_Goes _ _ _ _ _ _ _ T1 (mkF m 16 #[.val (.ref a1), .val (.ref h0.size), .val (.int (14 : Int32)), .val (.int (0 : Int32)), .unset] [(.int (0 : Int32)), (.ref h0.size)])
  refine own_go (fun t k => X1.aaload hx (j := (0 : Int32)) (v := (.ref aBOOL)) (by rw [show _ = T1.heap from rfl]; exact A1.1) (State.isArrayOf_alike hZ.alike A1.2.1) rfl A1.2.2 (by show ¬ (_ ∨ clV.slots.size ≤ _); rw [hsz]; decide) el_0 (g := (mkF m 16 #[.val (.ref a1), .val (.ref h0.size), .val (.int (14 : Int32)), .val (.int (0 : Int32)), .unset] [(.int (0 : Int32)), (.ref h0.size)])) rfl rfl (hb hby d2_16) t k) ?_
  show own_Goes _ _ _ _ _ _ _ T1 (mkF m 17 #[.val (.ref a1), .val (.ref h0.size), .val (.int (14 : Int32)), .val (.int (0 : Int32)), .unset] [(.ref aBOOL)])
  refine own_go (fun _ k => XS.astore X1.here hx rfl (hb hby d2_17) rfl rfl (l' := #[.val (.ref a1), .val (.ref h0.size), .val (.int (14 : Int32)), .val (.int (0 : Int32)), .val (.ref aBOOL)]) rfl k) ?_
  show own_Goes _ _ _ _ _ _ _ T1 (mkF m 19 #[.val (.ref a1), .val (.ref h0.size), .val (.int (14 : Int32)), .val (.int (0 : Int32)), .val (.ref aBOOL)] [])
  refine own_go (fun _ k => XS.aload X1.here hx rfl (hb hby d2_19) rfl rfl k) ?_
  show own_Goes _ _ _ _ _ _ _ T1 (mkF m 21 #[.val (.ref a1), .val (.ref h0.size), .val (.int (14 : Int32)), .val (.int (0 : Int32)), .val (.ref aBOOL)] [(.ref aBOOL)])
  obtain ⟨T2, X2, e2, st2⟩ := getF X1 hx hZ hown (host := "") (Or.inl (hw _ (List.mem_of_getElem? (i := 41) rfl))) Via.refl rfl (G_BOOL.ext Od1.2) (g := (mkF m 21 #[.val (.ref a1), .val (.ref h0.size), .val (.int (14 : Int32)), .val (.int (0 : Int32)), .val (.ref aBOOL)] [(.ref aBOOL)])) rfl rfl (hb hby d2_21)
  refine own_go st2 ?_
  show own_Goes _ _ _ _ _ _ _ T2 (mkF m 24 #[.val (.ref a1), .val (.ref h0.size), .val (.int (14 : Int32)), .val (.int (0 : Int32)), .val (.ref aBOOL)] [(.int (0 : Int32))])
  refine own_go (fun _ k => XS.ifNo X2.here hx rfl (hb hby d2_24) rfl ((if0 _ _).trans (teq (by decide : (0 : Int32) = (0 : Int32))).2) k) ?_
  show own_Goes _ _ _ _ _ _ _ T2 (mkF m 27 #[.val (.ref a1), .val (.ref h0.size), .val (.int (14 : Int32)), .val (.int (0 : Int32)), .val (.ref aBOOL)] [])
  refine own_go (fun _ k => XS.aload X2.here hx rfl (hb hby d2_27) rfl rfl k) ?_
  show own_Goes _ _ _ _ _ _ _ T2 (mkF m 29 #[.val (.ref a1), .val (.ref h0.size), .val (.int (14 : Int32)), .val (.int (0 : Int32)), .val (.ref aBOOL)] [(.ref aBOOL)])
  obtain ⟨T3, X3, e3, st3⟩ := getF X2 hx hZ hown (host := "") (Or.inl (hw _ (List.mem_of_getElem? (i := 43) rfl))) Via.refl e2 (R_BOOL.ext Od1.2) (g := (mkF m 29 #[.val (.ref a1), .val (.ref h0.size), .val (.int (14 : Int32)), .val (.int (0 : Int32)), .val (.ref aBOOL)] [(.ref aBOOL)])) rfl rfl (hb hby d2_29)
  refine own_go st3 ?_
  show own_Goes _ _ _ _ _ _ _ T3 (mkF m 32 #[.val (.ref a1), .val (.ref h0.size), .val (.int (14 : Int32)), .val (.int (0 : Int32)), .val (.ref aBOOL)] [(.int (0 : Int32))])
  refine own_go (fun _ k => XS.aloadN X3.here hx rfl (hb hby d2_32) rfl rfl k) ?_
  show own_Goes _ _ _ _ _ _ _ T3 (mkF m 33 #[.val (.ref a1), .val (.ref h0.size), .val (.int (14 : Int32)), .val (.int (0 : Int32)), .val (.ref aBOOL)] [(.ref a1), (.int (0 : Int32))])
  obtain ⟨T4, X4, e4, st4⟩ := getF X3 hx hZ hown (host := "") (Or.inl (hw _ (List.mem_of_getElem? (i := 43) rfl))) Via.refl e3 (R_a1.ext Od1.2) (g := (mkF m 33 #[.val (.ref a1), .val (.ref h0.size), .val (.int (14 : Int32)), .val (.int (0 : Int32)), .val (.ref aBOOL)] [(.ref a1), (.int (0 : Int32))])) rfl rfl (hb hby d2_33)
  refine own_go st4 ?_
  show own_Goes _ _ _ _ _ _ _ T4 (mkF m 36 #[.val (.ref a1), .val (.ref h0.size), .val (.int (14 : Int32)), .val (.int (0 : Int32)), .val (.ref aBOOL)] [(.int (0 : Int32)), (.int (0 : Int32))])
  refine own_go (fun _ k => XS.icmpNo X4.here hx rfl (hb hby d2_36) rfl (teq (by decide : (0 : Int32) = (0 : Int32))).2 k) ?_
  show own_Goes _ _ _ _ _ _ _ T4 (mkF m 39 #[.val (.ref a1), .val (.ref h0.size), .val (.int (14 : Int32)), .val (.int (0 : Int32)), .val (.ref aBOOL)] [])
  refine own_go (fun _ k => XS.aload X4.here hx rfl (hb hby d2_39) rfl rfl k) ?_
  show own_Goes _ _ _ _ _ _ _ T4 (mkF m 41 #[.val (.ref a1), .val (.ref h0.size), .val (.int (14 : Int32)), .val (.int (0 : Int32)), .val (.ref aBOOL)] [(.ref aBOOL)])
  exact own_retA X4 hx hlk hret rfl rfl (hb hby d2_41) (by decide) (by decide) (by rw [e4]; exact ⟨rfl, N1, E1⟩)
def Q_rmU1 (Z : State) (h0 : Heap) (n0 : Nat) (aUNSIGNED_CHAR : Addr) (v : Option Value) (h : Heap) (L : List Loc) : Prop := v = some (.ref aUNSIGNED_CHAR) ∧ Fr n0 L ∧ Ext h0 h
set_option maxRecDepth 65536 in
set_option maxHeartbeats 40000000 in
theorem rmU1 (l : Launch) (Z : State) (a0 : Array Value) (hw : ∀ d ∈ tables_1, d.before a0 Z = true) (ws : List Jvm.Cond) (a1 aV : Addr) (clV : Cell) (aBOOL aCHAR aSIGNED_CHAR aUNSIGNED_CHAR aSHORT aUNSIGNED_SHORT aINT aUNSIGNED_INT aLONG aUNSIGNED_LONG aLONG_LONG aUNSIGNED_LONG_LONG aINT128 aUNSIGNED_INT128 : Addr) (h0 : Heap) (n0 : Nat) (Z0 : n0 ≤ h0.size) (VV : own_VV Z aV clV aBOOL aCHAR aSIGNED_CHAR aUNSIGNED_CHAR aSHORT aUNSIGNED_SHORT aINT aUNSIGNED_INT aLONG aUNSIGNED_LONG aLONG_LONG aUNSIGNED_LONG_LONG aINT128 aUNSIGNED_INT128) (FF : own_FF Z aBOOL aCHAR aSIGNED_CHAR aUNSIGNED_CHAR aSHORT aUNSIGNED_SHORT aINT aUNSIGNED_INT aLONG aUNSIGNED_LONG aLONG_LONG aUNSIGNED_LONG_LONG aINT128 aUNSIGNED_INT128) (Od0 : Old Z n0 h0) (R_a1 : Fld Z Z.heap a1 "com/example/treellis/treellis/cfa/IntegerType" "rank" "I" (.int (1 : Int32))) :
    MetFree l (⟨"com/example/treellis/treellis/cfa/IntegerType", "toUnsigned", "()Lcom/example/treellis/treellis/cfa/IntegerType;"⟩ : MethodName) (head1 (Jvm.Cond.code (⟨"com/example/treellis/treellis/cfa/IntegerType", "toUnsigned", "()Lcom/example/treellis/treellis/cfa/IntegerType;"⟩ : MethodName) prog_44_method_6_code 5 (some (.object "com/example/treellis/treellis/cfa/IntegerType")) :: ws) ({ frames := 2, cells := 1, slots := 14, locals := 25 } : Room)) (fun a U => a = #[(.ref a1)] ∧ Z.Warmed39 U.vm ∧ U.heap = h0) (fun _ _ _ _ _ => True) (fun _ U o U' => ∃ rv rL, o = .returned rv ∧ Q_rmU1 Z h0 n0 aUNSIGNED_CHAR rv U'.heap rL ∧ FrameEnd U o U' rL ({ frames := 2, cells := 1, slots := 14, locals := 25 } : Room).cells ({ frames := 2, cells := 1, slots := 14, locals := 25 } : Room).slots) := by
  refine own_met (y := (⟨"com/example/treellis/treellis/cfa/IntegerType", "toUnsigned", "()Lcom/example/treellis/treellis/cfa/IntegerType;"⟩ : MethodName)) (Q := Q_rmU1 Z h0 n0 aUNSIGNED_CHAR) (own := "com/example/treellis/treellis/cfa/IntegerType") rfl pn_2 ?_
  intro p e s m below meth c s₁ C e0 X0
  obtain ⟨hx, hby, hml, hown, hnm, hret, hlk, hZ⟩ := C
  have N0 := Fr.nil n0
  rw [ef_2]
  obtain ⟨SV, AV, EV, FV, hsz, el_0, el_1, el_2, el_3, el_4, el_5, el_6, el_7, el_8, el_9, el_10, el_11, el_12, el_13⟩ := VV
  obtain ⟨⟨E_BOOL, R_BOOL, G_BOOL⟩, ⟨E_CHAR, R_CHAR, G_CHAR⟩, ⟨E_SIGNED_CHAR, R_SIGNED_CHAR, G_SIGNED_CHAR⟩, ⟨E_UNSIGNED_CHAR, R_UNSIGNED_CHAR, G_UNSIGNED_CHAR⟩, ⟨E_SHORT, R_SHORT, G_SHORT⟩, ⟨E_UNSIGNED_SHORT, R_UNSIGNED_SHORT, G_UNSIGNED_SHORT⟩, ⟨E_INT, R_INT, G_INT⟩, ⟨E_UNSIGNED_INT, R_UNSIGNED_INT, G_UNSIGNED_INT⟩, ⟨E_LONG, R_LONG, G_LONG⟩, ⟨E_UNSIGNED_LONG, R_UNSIGNED_LONG, G_UNSIGNED_LONG⟩, ⟨E_LONG_LONG, R_LONG_LONG, G_LONG_LONG⟩, ⟨E_UNSIGNED_LONG_LONG, R_UNSIGNED_LONG_LONG, G_UNSIGNED_LONG_LONG⟩, ⟨E_INT128, R_INT128, G_INT128⟩, ⟨E_UNSIGNED_INT128, R_UNSIGNED_INT128, G_UNSIGNED_INT128⟩⟩ := FF
  show own_Goes _ _ _ _ _ _ _ s₁ (mkF m 0 #[.val (.ref a1), .unset, .unset, .unset, .unset] [])
  obtain ⟨_, _, ⟨T1, L1, k1, n1⟩, -, X1, ⟨Lc1, hQ1, l1, y1, z1⟩, st1⟩ := Jvm.LawKit.callS X0 hx (y := (⟨"com/example/treellis/treellis/cfa/IntegerType", "values", "()[Lcom/example/treellis/treellis/cfa/IntegerType;"⟩ : MethodName)) hown (mvT hZ (hw _ (List.mem_of_getElem? (i := 13) rfl))) (mvT hZ (hw _ (List.mem_of_getElem? (i := 14) rfl))) (mvT hZ (hw _ (List.mem_of_getElem? (i := 6) rfl))) (mvT hZ (hw _ (List.mem_of_getElem? (i := 15) rfl))) (by decide) (backOf (W := 0) (rm3 l Z a0 hw [] aV clV aBOOL aCHAR aSIGNED_CHAR aUNSIGNED_CHAR aSHORT aUNSIGNED_SHORT aINT aUNSIGNED_INT aLONG aUNSIGNED_LONG aLONG_LONG aUNSIGNED_LONG_LONG aINT128 aUNSIGNED_INT128 h0 n0 Z0 ⟨SV, AV, EV, FV, hsz, el_0, el_1, el_2, el_3, el_4, el_5, el_6, el_7, el_8, el_9, el_10, el_11, el_12, el_13⟩ Od0) hZ (hw _ (List.mem_of_getElem? (i := 15) rfl)) (hw _ (List.mem_of_getElem? (i := 6) rfl)) (by decide) (by decide)) (g := (mkF m 0 #[.val (.ref a1), .unset, .unset, .unset, .unset] [])) rfl (by rw [hml]; rfl) (argsL := []) (rest := []) (lenOf pd_0 rfl) rfl (by show 2 * 0 + _ ≤ _; exact Nat.le_of_eq rfl) (hb hby d2_0) (fun _ _ => ⟨rfl, e0, (by decide : 0 + 1 ≤ _), (by decide : 0 + 14 ≤ _)⟩)
  dsimp only [Pt.U, Pt.locs, Pt.cells, Pt.slots] at X1 l1 y1 z1 st1 hQ1
  subst l1 y1 z1
  obtain ⟨rfl, N1q, E1, A1⟩ := hQ1
  have N1 := Fr.app N0 N1q
  refine own_go st1 ?_
  show own_Goes _ _ _ _ _ _ _ T1 (mkF m 3 #[.val (.ref a1), .unset, .unset, .unset, .unset] [(.ref h0.size)])
  have Od1 := Od0.ext E1
  refine own_go (fun _ k => XS.astoreN X1.here hx rfl (hb hby d2_3) rfl rfl (l' := #[.val (.ref a1), .val (.ref h0.size), .unset, .unset, .unset]) rfl k) ?_
  show own_Goes _ _ _ _ _ _ _ T1 (mkF m 4 #[.val (.ref a1), .val (.ref h0.size), .unset, .unset, .unset] [])
  refine own_go (fun _ k => XS.aloadN X1.here hx rfl (hb hby d2_4) rfl rfl k) ?_
  show own_Goes _ _ _ _ _ _ _ T1 (mkF m 5 #[.val (.ref a1), .val (.ref h0.size), .unset, .unset, .unset] [(.ref h0.size)])
  refine own_go (fun t k => X1.arraylength hx (by exact A1.1) (State.isArrayOf_alike hZ.alike A1.2.1) (g := (mkF m 5 #[.val (.ref a1), .val (.ref h0.size), .unset, .unset, .unset] [(.ref h0.size)])) rfl rfl (hb hby d2_5) t k) ?_
  rw [show (cloneOf clV).slots.size.toInt32 = (14 : Int32) from by show clV.slots.size.toInt32 = _; rw [hsz]; rfl]
  show own_Goes _ _ _ _ _ _ _ T1 (mkF m 6 #[.val (.ref a1), .val (.ref h0.size), .unset, .unset, .unset] [(.int (14 : Int32))])
  refine own_go (fun _ k => XS.istoreN X1.here hx rfl (hb hby d2_6) rfl (l' := #[.val (.ref a1), .val (.ref h0.size), .val (.int (14 : Int32)), .unset, .unset]) rfl k) ?_
  show own_Goes _ _ _ _ _ _ _ T1 (mkF m 7 #[.val (.ref a1), .val (.ref h0.size), .val (.int (14 : Int32)), .unset, .unset] [])
  refine own_go (fun _ k => XS.iconst X1.here hx rfl (hb hby d2_7) k) ?_
  show own_Goes _ _ _ _ _ _ _ T1 (mkF m 8 #[.val (.ref a1), .val (.ref h0.size), .val (.int (14 : Int32)), .unset, .unset] [(.int (0 : Int32))])
  refine own_go (fun _ k => XS.istoreN X1.here hx rfl (hb hby d2_8) rfl (l' := #[.val (.ref a1), .val (.ref h0.size), .val (.int (14 : Int32)), .val (.int (0 : Int32)), .unset]) rfl k) ?_
  show own_Goes _ _ _ _ _ _ _ T1 (mkF m 9 #[.val (.ref a1), .val (.ref h0.size), .val (.int (14 : Int32)), .val (.int (0 : Int32)), .unset] [])
  refine own_go (fun _ k => XS.iloadN X1.here hx rfl (hb hby d2_9) rfl k) ?_
  show own_Goes _ _ _ _ _ _ _ T1 (mkF m 10 #[.val (.ref a1), .val (.ref h0.size), .val (.int (14 : Int32)), .val (.int (0 : Int32)), .unset] [(.int (0 : Int32))])
  refine own_go (fun _ k => XS.iloadN X1.here hx rfl (hb hby d2_10) rfl k) ?_
  show own_Goes _ _ _ _ _ _ _ T1 (mkF m 11 #[.val (.ref a1), .val (.ref h0.size), .val (.int (14 : Int32)), .val (.int (0 : Int32)), .unset] [(.int (14 : Int32)), (.int (0 : Int32))])
  refine own_go (fun _ k => XS.icmpNo X1.here hx rfl (hb hby d2_11) rfl (tlt (by decide : (0 : Int32) < (14 : Int32))).2.1 k) ?_
  show own_Goes _ _ _ _ _ _ _ T1 (mkF m 14 #[.val (.ref a1), .val (.ref h0.size), .val (.int (14 : Int32)), .val (.int (0 : Int32)), .unset] [])
  refine own_go (fun _ k => XS.aloadN X1.here hx rfl (hb hby d2_14) rfl rfl k) ?_
  show own_Goes _ _ _ _ _ _ _ T1 (mkF m 15 #[.val (.ref a1), .val (.ref h0.size), .val (.int (14 : Int32)), .val (.int (0 : Int32)), .unset] [(.ref h0.size)])
  refine own_go (fun _ k => XS.iloadN X1.here hx rfl (hb hby d2_15) rfl k) ?_
  show own_Goes _ _ _ _ _ _ _ T1 (mkF m 16 #[.val (.ref a1), .val (.ref h0.size), .val (.int (14 : Int32)), .val (.int (0 : Int32)), .unset] [(.int (0 : Int32)), (.ref h0.size)])
  refine own_go (fun t k => X1.aaload hx (j := (0 : Int32)) (v := (.ref aBOOL)) (by rw [show _ = T1.heap from rfl]; exact A1.1) (State.isArrayOf_alike hZ.alike A1.2.1) rfl A1.2.2 (by show ¬ (_ ∨ clV.slots.size ≤ _); rw [hsz]; decide) el_0 (g := (mkF m 16 #[.val (.ref a1), .val (.ref h0.size), .val (.int (14 : Int32)), .val (.int (0 : Int32)), .unset] [(.int (0 : Int32)), (.ref h0.size)])) rfl rfl (hb hby d2_16) t k) ?_
  show own_Goes _ _ _ _ _ _ _ T1 (mkF m 17 #[.val (.ref a1), .val (.ref h0.size), .val (.int (14 : Int32)), .val (.int (0 : Int32)), .unset] [(.ref aBOOL)])
  refine own_go (fun _ k => XS.astore X1.here hx rfl (hb hby d2_17) rfl rfl (l' := #[.val (.ref a1), .val (.ref h0.size), .val (.int (14 : Int32)), .val (.int (0 : Int32)), .val (.ref aBOOL)]) rfl k) ?_
  show own_Goes _ _ _ _ _ _ _ T1 (mkF m 19 #[.val (.ref a1), .val (.ref h0.size), .val (.int (14 : Int32)), .val (.int (0 : Int32)), .val (.ref aBOOL)] [])
  refine own_go (fun _ k => XS.aload X1.here hx rfl (hb hby d2_19) rfl rfl k) ?_
  show own_Goes _ _ _ _ _ _ _ T1 (mkF m 21 #[.val (.ref a1), .val (.ref h0.size), .val (.int (14 : Int32)), .val (.int (0 : Int32)), .val (.ref aBOOL)] [(.ref aBOOL)])
  obtain ⟨T2, X2, e2, st2⟩ := getF X1 hx hZ hown (host := "") (Or.inl (hw _ (List.mem_of_getElem? (i := 41) rfl))) Via.refl rfl (G_BOOL.ext Od1.2) (g := (mkF m 21 #[.val (.ref a1), .val (.ref h0.size), .val (.int (14 : Int32)), .val (.int (0 : Int32)), .val (.ref aBOOL)] [(.ref aBOOL)])) rfl rfl (hb hby d2_21)
  refine own_go st2 ?_
  show own_Goes _ _ _ _ _ _ _ T2 (mkF m 24 #[.val (.ref a1), .val (.ref h0.size), .val (.int (14 : Int32)), .val (.int (0 : Int32)), .val (.ref aBOOL)] [(.int (0 : Int32))])
  refine own_go (fun _ k => XS.ifNo X2.here hx rfl (hb hby d2_24) rfl ((if0 _ _).trans (teq (by decide : (0 : Int32) = (0 : Int32))).2) k) ?_
  show own_Goes _ _ _ _ _ _ _ T2 (mkF m 27 #[.val (.ref a1), .val (.ref h0.size), .val (.int (14 : Int32)), .val (.int (0 : Int32)), .val (.ref aBOOL)] [])
  refine own_go (fun _ k => XS.aload X2.here hx rfl (hb hby d2_27) rfl rfl k) ?_
  show own_Goes _ _ _ _ _ _ _ T2 (mkF m 29 #[.val (.ref a1), .val (.ref h0.size), .val (.int (14 : Int32)), .val (.int (0 : Int32)), .val (.ref aBOOL)] [(.ref aBOOL)])
  obtain ⟨T3, X3, e3, st3⟩ := getF X2 hx hZ hown (host := "") (Or.inl (hw _ (List.mem_of_getElem? (i := 43) rfl))) Via.refl e2 (R_BOOL.ext Od1.2) (g := (mkF m 29 #[.val (.ref a1), .val (.ref h0.size), .val (.int (14 : Int32)), .val (.int (0 : Int32)), .val (.ref aBOOL)] [(.ref aBOOL)])) rfl rfl (hb hby d2_29)
  refine own_go st3 ?_
  show own_Goes _ _ _ _ _ _ _ T3 (mkF m 32 #[.val (.ref a1), .val (.ref h0.size), .val (.int (14 : Int32)), .val (.int (0 : Int32)), .val (.ref aBOOL)] [(.int (0 : Int32))])
  refine own_go (fun _ k => XS.aloadN X3.here hx rfl (hb hby d2_32) rfl rfl k) ?_
  show own_Goes _ _ _ _ _ _ _ T3 (mkF m 33 #[.val (.ref a1), .val (.ref h0.size), .val (.int (14 : Int32)), .val (.int (0 : Int32)), .val (.ref aBOOL)] [(.ref a1), (.int (0 : Int32))])
  obtain ⟨T4, X4, e4, st4⟩ := getF X3 hx hZ hown (host := "") (Or.inl (hw _ (List.mem_of_getElem? (i := 43) rfl))) Via.refl e3 (R_a1.ext Od1.2) (g := (mkF m 33 #[.val (.ref a1), .val (.ref h0.size), .val (.int (14 : Int32)), .val (.int (0 : Int32)), .val (.ref aBOOL)] [(.ref a1), (.int (0 : Int32))])) rfl rfl (hb hby d2_33)
  refine own_go st4 ?_
  show own_Goes _ _ _ _ _ _ _ T4 (mkF m 36 #[.val (.ref a1), .val (.ref h0.size), .val (.int (14 : Int32)), .val (.int (0 : Int32)), .val (.ref aBOOL)] [(.int (1 : Int32)), (.int (0 : Int32))])
  refine own_go (fun _ k => XS.icmpYes X4.here hx rfl (pc0 := 36) (pc' := 42) rfl (hb hby d2_36) rfl (feq (by decide : ¬ ((0 : Int32) = (1 : Int32)))).2 (by decide) (by decide) k) ?_
  show own_Goes _ _ _ _ _ _ _ T4 (mkF m 42 #[.val (.ref a1), .val (.ref h0.size), .val (.int (14 : Int32)), .val (.int (0 : Int32)), .val (.ref aBOOL)] [])
  refine own_go (fun _ k => XS.iinc X4.here hx rfl (hb hby d2_42) rfl (l' := #[.val (.ref a1), .val (.ref h0.size), .val (.int (14 : Int32)), .val (.int (1 : Int32)), .val (.ref aBOOL)]) rfl k) ?_
  show own_Goes _ _ _ _ _ _ _ T4 (mkF m 45 #[.val (.ref a1), .val (.ref h0.size), .val (.int (14 : Int32)), .val (.int (1 : Int32)), .val (.ref aBOOL)] [])
  refine own_go (fun _ k => XS.goto X4.here hx rfl (pc0 := 45) (pc' := 9) rfl (hb hby d2_45) (by decide) (by decide) k) ?_
  show own_Goes _ _ _ _ _ _ _ T4 (mkF m 9 #[.val (.ref a1), .val (.ref h0.size), .val (.int (14 : Int32)), .val (.int (1 : Int32)), .val (.ref aBOOL)] [])
  refine own_go (fun _ k => XS.iloadN X4.here hx rfl (hb hby d2_9) rfl k) ?_
  show own_Goes _ _ _ _ _ _ _ T4 (mkF m 10 #[.val (.ref a1), .val (.ref h0.size), .val (.int (14 : Int32)), .val (.int (1 : Int32)), .val (.ref aBOOL)] [(.int (1 : Int32))])
  refine own_go (fun _ k => XS.iloadN X4.here hx rfl (hb hby d2_10) rfl k) ?_
  show own_Goes _ _ _ _ _ _ _ T4 (mkF m 11 #[.val (.ref a1), .val (.ref h0.size), .val (.int (14 : Int32)), .val (.int (1 : Int32)), .val (.ref aBOOL)] [(.int (14 : Int32)), (.int (1 : Int32))])
  refine own_go (fun _ k => XS.icmpNo X4.here hx rfl (hb hby d2_11) rfl (tlt (by decide : (1 : Int32) < (14 : Int32))).2.1 k) ?_
  show own_Goes _ _ _ _ _ _ _ T4 (mkF m 14 #[.val (.ref a1), .val (.ref h0.size), .val (.int (14 : Int32)), .val (.int (1 : Int32)), .val (.ref aBOOL)] [])
  refine own_go (fun _ k => XS.aloadN X4.here hx rfl (hb hby d2_14) rfl rfl k) ?_
  show own_Goes _ _ _ _ _ _ _ T4 (mkF m 15 #[.val (.ref a1), .val (.ref h0.size), .val (.int (14 : Int32)), .val (.int (1 : Int32)), .val (.ref aBOOL)] [(.ref h0.size)])
  refine own_go (fun _ k => XS.iloadN X4.here hx rfl (hb hby d2_15) rfl k) ?_
  show own_Goes _ _ _ _ _ _ _ T4 (mkF m 16 #[.val (.ref a1), .val (.ref h0.size), .val (.int (14 : Int32)), .val (.int (1 : Int32)), .val (.ref aBOOL)] [(.int (1 : Int32)), (.ref h0.size)])
  refine own_go (fun t k => X4.aaload hx (j := (1 : Int32)) (v := (.ref aCHAR)) (by rw [e4]; exact A1.1) (State.isArrayOf_alike hZ.alike A1.2.1) rfl A1.2.2 (by show ¬ (_ ∨ clV.slots.size ≤ _); rw [hsz]; decide) el_1 (g := (mkF m 16 #[.val (.ref a1), .val (.ref h0.size), .val (.int (14 : Int32)), .val (.int (1 : Int32)), .val (.ref aBOOL)] [(.int (1 : Int32)), (.ref h0.size)])) rfl rfl (hb hby d2_16) t k) ?_
  show own_Goes _ _ _ _ _ _ _ T4 (mkF m 17 #[.val (.ref a1), .val (.ref h0.size), .val (.int (14 : Int32)), .val (.int (1 : Int32)), .val (.ref aBOOL)] [(.ref aCHAR)])
  refine own_go (fun _ k => XS.astore X4.here hx rfl (hb hby d2_17) rfl rfl (l' := #[.val (.ref a1), .val (.ref h0.size), .val (.int (14 : Int32)), .val (.int (1 : Int32)), .val (.ref aCHAR)]) rfl k) ?_
  show own_Goes _ _ _ _ _ _ _ T4 (mkF m 19 #[.val (.ref a1), .val (.ref h0.size), .val (.int (14 : Int32)), .val (.int (1 : Int32)), .val (.ref aCHAR)] [])
  refine own_go (fun _ k => XS.aload X4.here hx rfl (hb hby d2_19) rfl rfl k) ?_
  show own_Goes _ _ _ _ _ _ _ T4 (mkF m 21 #[.val (.ref a1), .val (.ref h0.size), .val (.int (14 : Int32)), .val (.int (1 : Int32)), .val (.ref aCHAR)] [(.ref aCHAR)])
  obtain ⟨T5, X5, e5, st5⟩ := getF X4 hx hZ hown (host := "") (Or.inl (hw _ (List.mem_of_getElem? (i := 41) rfl))) Via.refl e4 (G_CHAR.ext Od1.2) (g := (mkF m 21 #[.val (.ref a1), .val (.ref h0.size), .val (.int (14 : Int32)), .val (.int (1 : Int32)), .val (.ref aCHAR)] [(.ref aCHAR)])) rfl rfl (hb hby d2_21)
  refine own_go st5 ?_
  show own_Goes _ _ _ _ _ _ _ T5 (mkF m 24 #[.val (.ref a1), .val (.ref h0.size), .val (.int (14 : Int32)), .val (.int (1 : Int32)), .val (.ref aCHAR)] [(.int (1 : Int32))])
  refine own_go (fun _ k => XS.ifYes X5.here hx rfl (pc0 := 24) (pc' := 42) rfl (hb hby d2_24) rfl ((if0 _ _).trans (feq (by decide : ¬ ((1 : Int32) = (0 : Int32)))).2) (by decide) (by decide) k) ?_
  show own_Goes _ _ _ _ _ _ _ T5 (mkF m 42 #[.val (.ref a1), .val (.ref h0.size), .val (.int (14 : Int32)), .val (.int (1 : Int32)), .val (.ref aCHAR)] [])
  refine own_go (fun _ k => XS.iinc X5.here hx rfl (hb hby d2_42) rfl (l' := #[.val (.ref a1), .val (.ref h0.size), .val (.int (14 : Int32)), .val (.int (2 : Int32)), .val (.ref aCHAR)]) rfl k) ?_
  show own_Goes _ _ _ _ _ _ _ T5 (mkF m 45 #[.val (.ref a1), .val (.ref h0.size), .val (.int (14 : Int32)), .val (.int (2 : Int32)), .val (.ref aCHAR)] [])
  refine own_go (fun _ k => XS.goto X5.here hx rfl (pc0 := 45) (pc' := 9) rfl (hb hby d2_45) (by decide) (by decide) k) ?_
  show own_Goes _ _ _ _ _ _ _ T5 (mkF m 9 #[.val (.ref a1), .val (.ref h0.size), .val (.int (14 : Int32)), .val (.int (2 : Int32)), .val (.ref aCHAR)] [])
  refine own_go (fun _ k => XS.iloadN X5.here hx rfl (hb hby d2_9) rfl k) ?_
  show own_Goes _ _ _ _ _ _ _ T5 (mkF m 10 #[.val (.ref a1), .val (.ref h0.size), .val (.int (14 : Int32)), .val (.int (2 : Int32)), .val (.ref aCHAR)] [(.int (2 : Int32))])
  refine own_go (fun _ k => XS.iloadN X5.here hx rfl (hb hby d2_10) rfl k) ?_
  show own_Goes _ _ _ _ _ _ _ T5 (mkF m 11 #[.val (.ref a1), .val (.ref h0.size), .val (.int (14 : Int32)), .val (.int (2 : Int32)), .val (.ref aCHAR)] [(.int (14 : Int32)), (.int (2 : Int32))])
  refine own_go (fun _ k => XS.icmpNo X5.here hx rfl (hb hby d2_11) rfl (tlt (by decide : (2 : Int32) < (14 : Int32))).2.1 k) ?_
  show own_Goes _ _ _ _ _ _ _ T5 (mkF m 14 #[.val (.ref a1), .val (.ref h0.size), .val (.int (14 : Int32)), .val (.int (2 : Int32)), .val (.ref aCHAR)] [])
  refine own_go (fun _ k => XS.aloadN X5.here hx rfl (hb hby d2_14) rfl rfl k) ?_
  show own_Goes _ _ _ _ _ _ _ T5 (mkF m 15 #[.val (.ref a1), .val (.ref h0.size), .val (.int (14 : Int32)), .val (.int (2 : Int32)), .val (.ref aCHAR)] [(.ref h0.size)])
  refine own_go (fun _ k => XS.iloadN X5.here hx rfl (hb hby d2_15) rfl k) ?_
  show own_Goes _ _ _ _ _ _ _ T5 (mkF m 16 #[.val (.ref a1), .val (.ref h0.size), .val (.int (14 : Int32)), .val (.int (2 : Int32)), .val (.ref aCHAR)] [(.int (2 : Int32)), (.ref h0.size)])
  refine own_go (fun t k => X5.aaload hx (j := (2 : Int32)) (v := (.ref aSIGNED_CHAR)) (by rw [e5]; exact A1.1) (State.isArrayOf_alike hZ.alike A1.2.1) rfl A1.2.2 (by show ¬ (_ ∨ clV.slots.size ≤ _); rw [hsz]; decide) el_2 (g := (mkF m 16 #[.val (.ref a1), .val (.ref h0.size), .val (.int (14 : Int32)), .val (.int (2 : Int32)), .val (.ref aCHAR)] [(.int (2 : Int32)), (.ref h0.size)])) rfl rfl (hb hby d2_16) t k) ?_
  show own_Goes _ _ _ _ _ _ _ T5 (mkF m 17 #[.val (.ref a1), .val (.ref h0.size), .val (.int (14 : Int32)), .val (.int (2 : Int32)), .val (.ref aCHAR)] [(.ref aSIGNED_CHAR)])
  refine own_go (fun _ k => XS.astore X5.here hx rfl (hb hby d2_17) rfl rfl (l' := #[.val (.ref a1), .val (.ref h0.size), .val (.int (14 : Int32)), .val (.int (2 : Int32)), .val (.ref aSIGNED_CHAR)]) rfl k) ?_
  show own_Goes _ _ _ _ _ _ _ T5 (mkF m 19 #[.val (.ref a1), .val (.ref h0.size), .val (.int (14 : Int32)), .val (.int (2 : Int32)), .val (.ref aSIGNED_CHAR)] [])
  refine own_go (fun _ k => XS.aload X5.here hx rfl (hb hby d2_19) rfl rfl k) ?_
  show own_Goes _ _ _ _ _ _ _ T5 (mkF m 21 #[.val (.ref a1), .val (.ref h0.size), .val (.int (14 : Int32)), .val (.int (2 : Int32)), .val (.ref aSIGNED_CHAR)] [(.ref aSIGNED_CHAR)])
  obtain ⟨T6, X6, e6, st6⟩ := getF X5 hx hZ hown (host := "") (Or.inl (hw _ (List.mem_of_getElem? (i := 41) rfl))) Via.refl e5 (G_SIGNED_CHAR.ext Od1.2) (g := (mkF m 21 #[.val (.ref a1), .val (.ref h0.size), .val (.int (14 : Int32)), .val (.int (2 : Int32)), .val (.ref aSIGNED_CHAR)] [(.ref aSIGNED_CHAR)])) rfl rfl (hb hby d2_21)
  refine own_go st6 ?_
  show own_Goes _ _ _ _ _ _ _ T6 (mkF m 24 #[.val (.ref a1), .val (.ref h0.size), .val (.int (14 : Int32)), .val (.int (2 : Int32)), .val (.ref aSIGNED_CHAR)] [(.int (1 : Int32))])
  refine own_go (fun _ k => XS.ifYes X6.here hx rfl (pc0 := 24) (pc' := 42) rfl (hb hby d2_24) rfl ((if0 _ _).trans (feq (by decide : ¬ ((1 : Int32) = (0 : Int32)))).2) (by decide) (by decide) k) ?_
  show own_Goes _ _ _ _ _ _ _ T6 (mkF m 42 #[.val (.ref a1), .val (.ref h0.size), .val (.int (14 : Int32)), .val (.int (2 : Int32)), .val (.ref aSIGNED_CHAR)] [])
  refine own_go (fun _ k => XS.iinc X6.here hx rfl (hb hby d2_42) rfl (l' := #[.val (.ref a1), .val (.ref h0.size), .val (.int (14 : Int32)), .val (.int (3 : Int32)), .val (.ref aSIGNED_CHAR)]) rfl k) ?_
  show own_Goes _ _ _ _ _ _ _ T6 (mkF m 45 #[.val (.ref a1), .val (.ref h0.size), .val (.int (14 : Int32)), .val (.int (3 : Int32)), .val (.ref aSIGNED_CHAR)] [])
  refine own_go (fun _ k => XS.goto X6.here hx rfl (pc0 := 45) (pc' := 9) rfl (hb hby d2_45) (by decide) (by decide) k) ?_
  show own_Goes _ _ _ _ _ _ _ T6 (mkF m 9 #[.val (.ref a1), .val (.ref h0.size), .val (.int (14 : Int32)), .val (.int (3 : Int32)), .val (.ref aSIGNED_CHAR)] [])
  refine own_go (fun _ k => XS.iloadN X6.here hx rfl (hb hby d2_9) rfl k) ?_
  show own_Goes _ _ _ _ _ _ _ T6 (mkF m 10 #[.val (.ref a1), .val (.ref h0.size), .val (.int (14 : Int32)), .val (.int (3 : Int32)), .val (.ref aSIGNED_CHAR)] [(.int (3 : Int32))])
  refine own_go (fun _ k => XS.iloadN X6.here hx rfl (hb hby d2_10) rfl k) ?_
  show own_Goes _ _ _ _ _ _ _ T6 (mkF m 11 #[.val (.ref a1), .val (.ref h0.size), .val (.int (14 : Int32)), .val (.int (3 : Int32)), .val (.ref aSIGNED_CHAR)] [(.int (14 : Int32)), (.int (3 : Int32))])
  refine own_go (fun _ k => XS.icmpNo X6.here hx rfl (hb hby d2_11) rfl (tlt (by decide : (3 : Int32) < (14 : Int32))).2.1 k) ?_
  show own_Goes _ _ _ _ _ _ _ T6 (mkF m 14 #[.val (.ref a1), .val (.ref h0.size), .val (.int (14 : Int32)), .val (.int (3 : Int32)), .val (.ref aSIGNED_CHAR)] [])
  refine own_go (fun _ k => XS.aloadN X6.here hx rfl (hb hby d2_14) rfl rfl k) ?_
  show own_Goes _ _ _ _ _ _ _ T6 (mkF m 15 #[.val (.ref a1), .val (.ref h0.size), .val (.int (14 : Int32)), .val (.int (3 : Int32)), .val (.ref aSIGNED_CHAR)] [(.ref h0.size)])
  refine own_go (fun _ k => XS.iloadN X6.here hx rfl (hb hby d2_15) rfl k) ?_
  show own_Goes _ _ _ _ _ _ _ T6 (mkF m 16 #[.val (.ref a1), .val (.ref h0.size), .val (.int (14 : Int32)), .val (.int (3 : Int32)), .val (.ref aSIGNED_CHAR)] [(.int (3 : Int32)), (.ref h0.size)])
  refine own_go (fun t k => X6.aaload hx (j := (3 : Int32)) (v := (.ref aUNSIGNED_CHAR)) (by rw [e6]; exact A1.1) (State.isArrayOf_alike hZ.alike A1.2.1) rfl A1.2.2 (by show ¬ (_ ∨ clV.slots.size ≤ _); rw [hsz]; decide) el_3 (g := (mkF m 16 #[.val (.ref a1), .val (.ref h0.size), .val (.int (14 : Int32)), .val (.int (3 : Int32)), .val (.ref aSIGNED_CHAR)] [(.int (3 : Int32)), (.ref h0.size)])) rfl rfl (hb hby d2_16) t k) ?_
  show own_Goes _ _ _ _ _ _ _ T6 (mkF m 17 #[.val (.ref a1), .val (.ref h0.size), .val (.int (14 : Int32)), .val (.int (3 : Int32)), .val (.ref aSIGNED_CHAR)] [(.ref aUNSIGNED_CHAR)])
  refine own_go (fun _ k => XS.astore X6.here hx rfl (hb hby d2_17) rfl rfl (l' := #[.val (.ref a1), .val (.ref h0.size), .val (.int (14 : Int32)), .val (.int (3 : Int32)), .val (.ref aUNSIGNED_CHAR)]) rfl k) ?_
  show own_Goes _ _ _ _ _ _ _ T6 (mkF m 19 #[.val (.ref a1), .val (.ref h0.size), .val (.int (14 : Int32)), .val (.int (3 : Int32)), .val (.ref aUNSIGNED_CHAR)] [])
  refine own_go (fun _ k => XS.aload X6.here hx rfl (hb hby d2_19) rfl rfl k) ?_
  show own_Goes _ _ _ _ _ _ _ T6 (mkF m 21 #[.val (.ref a1), .val (.ref h0.size), .val (.int (14 : Int32)), .val (.int (3 : Int32)), .val (.ref aUNSIGNED_CHAR)] [(.ref aUNSIGNED_CHAR)])
  obtain ⟨T7, X7, e7, st7⟩ := getF X6 hx hZ hown (host := "") (Or.inl (hw _ (List.mem_of_getElem? (i := 41) rfl))) Via.refl e6 (G_UNSIGNED_CHAR.ext Od1.2) (g := (mkF m 21 #[.val (.ref a1), .val (.ref h0.size), .val (.int (14 : Int32)), .val (.int (3 : Int32)), .val (.ref aUNSIGNED_CHAR)] [(.ref aUNSIGNED_CHAR)])) rfl rfl (hb hby d2_21)
  refine own_go st7 ?_
  show own_Goes _ _ _ _ _ _ _ T7 (mkF m 24 #[.val (.ref a1), .val (.ref h0.size), .val (.int (14 : Int32)), .val (.int (3 : Int32)), .val (.ref aUNSIGNED_CHAR)] [(.int (0 : Int32))])
  refine own_go (fun _ k => XS.ifNo X7.here hx rfl (hb hby d2_24) rfl ((if0 _ _).trans (teq (by decide : (0 : Int32) = (0 : Int32))).2) k) ?_
  show own_Goes _ _ _ _ _ _ _ T7 (mkF m 27 #[.val (.ref a1), .val (.ref h0.size), .val (.int (14 : Int32)), .val (.int (3 : Int32)), .val (.ref aUNSIGNED_CHAR)] [])
  refine own_go (fun _ k => XS.aload X7.here hx rfl (hb hby d2_27) rfl rfl k) ?_
  show own_Goes _ _ _ _ _ _ _ T7 (mkF m 29 #[.val (.ref a1), .val (.ref h0.size), .val (.int (14 : Int32)), .val (.int (3 : Int32)), .val (.ref aUNSIGNED_CHAR)] [(.ref aUNSIGNED_CHAR)])
  obtain ⟨T8, X8, e8, st8⟩ := getF X7 hx hZ hown (host := "") (Or.inl (hw _ (List.mem_of_getElem? (i := 43) rfl))) Via.refl e7 (R_UNSIGNED_CHAR.ext Od1.2) (g := (mkF m 29 #[.val (.ref a1), .val (.ref h0.size), .val (.int (14 : Int32)), .val (.int (3 : Int32)), .val (.ref aUNSIGNED_CHAR)] [(.ref aUNSIGNED_CHAR)])) rfl rfl (hb hby d2_29)
  refine own_go st8 ?_
  show own_Goes _ _ _ _ _ _ _ T8 (mkF m 32 #[.val (.ref a1), .val (.ref h0.size), .val (.int (14 : Int32)), .val (.int (3 : Int32)), .val (.ref aUNSIGNED_CHAR)] [(.int (1 : Int32))])
  refine own_go (fun _ k => XS.aloadN X8.here hx rfl (hb hby d2_32) rfl rfl k) ?_
  show own_Goes _ _ _ _ _ _ _ T8 (mkF m 33 #[.val (.ref a1), .val (.ref h0.size), .val (.int (14 : Int32)), .val (.int (3 : Int32)), .val (.ref aUNSIGNED_CHAR)] [(.ref a1), (.int (1 : Int32))])
  obtain ⟨T9, X9, e9, st9⟩ := getF X8 hx hZ hown (host := "") (Or.inl (hw _ (List.mem_of_getElem? (i := 43) rfl))) Via.refl e8 (R_a1.ext Od1.2) (g := (mkF m 33 #[.val (.ref a1), .val (.ref h0.size), .val (.int (14 : Int32)), .val (.int (3 : Int32)), .val (.ref aUNSIGNED_CHAR)] [(.ref a1), (.int (1 : Int32))])) rfl rfl (hb hby d2_33)
  refine own_go st9 ?_
  show own_Goes _ _ _ _ _ _ _ T9 (mkF m 36 #[.val (.ref a1), .val (.ref h0.size), .val (.int (14 : Int32)), .val (.int (3 : Int32)), .val (.ref aUNSIGNED_CHAR)] [(.int (1 : Int32)), (.int (1 : Int32))])
  refine own_go (fun _ k => XS.icmpNo X9.here hx rfl (hb hby d2_36) rfl (teq (by decide : (1 : Int32) = (1 : Int32))).2 k) ?_
  show own_Goes _ _ _ _ _ _ _ T9 (mkF m 39 #[.val (.ref a1), .val (.ref h0.size), .val (.int (14 : Int32)), .val (.int (3 : Int32)), .val (.ref aUNSIGNED_CHAR)] [])
  refine own_go (fun _ k => XS.aload X9.here hx rfl (hb hby d2_39) rfl rfl k) ?_
  show own_Goes _ _ _ _ _ _ _ T9 (mkF m 41 #[.val (.ref a1), .val (.ref h0.size), .val (.int (14 : Int32)), .val (.int (3 : Int32)), .val (.ref aUNSIGNED_CHAR)] [(.ref aUNSIGNED_CHAR)])
  exact own_retA X9 hx hlk hret rfl rfl (hb hby d2_41) (by decide) (by decide) (by rw [e9]; exact ⟨rfl, N1, E1⟩)
def Q_rmU2 (Z : State) (h0 : Heap) (n0 : Nat) (aUNSIGNED_SHORT : Addr) (v : Option Value) (h : Heap) (L : List Loc) : Prop := v = some (.ref aUNSIGNED_SHORT) ∧ Fr n0 L ∧ Ext h0 h
set_option maxRecDepth 65536 in
set_option maxHeartbeats 40000000 in
theorem rmU2 (l : Launch) (Z : State) (a0 : Array Value) (hw : ∀ d ∈ tables_1, d.before a0 Z = true) (ws : List Jvm.Cond) (a1 aV : Addr) (clV : Cell) (aBOOL aCHAR aSIGNED_CHAR aUNSIGNED_CHAR aSHORT aUNSIGNED_SHORT aINT aUNSIGNED_INT aLONG aUNSIGNED_LONG aLONG_LONG aUNSIGNED_LONG_LONG aINT128 aUNSIGNED_INT128 : Addr) (h0 : Heap) (n0 : Nat) (Z0 : n0 ≤ h0.size) (VV : own_VV Z aV clV aBOOL aCHAR aSIGNED_CHAR aUNSIGNED_CHAR aSHORT aUNSIGNED_SHORT aINT aUNSIGNED_INT aLONG aUNSIGNED_LONG aLONG_LONG aUNSIGNED_LONG_LONG aINT128 aUNSIGNED_INT128) (FF : own_FF Z aBOOL aCHAR aSIGNED_CHAR aUNSIGNED_CHAR aSHORT aUNSIGNED_SHORT aINT aUNSIGNED_INT aLONG aUNSIGNED_LONG aLONG_LONG aUNSIGNED_LONG_LONG aINT128 aUNSIGNED_INT128) (Od0 : Old Z n0 h0) (R_a1 : Fld Z Z.heap a1 "com/example/treellis/treellis/cfa/IntegerType" "rank" "I" (.int (2 : Int32))) :
    MetFree l (⟨"com/example/treellis/treellis/cfa/IntegerType", "toUnsigned", "()Lcom/example/treellis/treellis/cfa/IntegerType;"⟩ : MethodName) (head1 (Jvm.Cond.code (⟨"com/example/treellis/treellis/cfa/IntegerType", "toUnsigned", "()Lcom/example/treellis/treellis/cfa/IntegerType;"⟩ : MethodName) prog_44_method_6_code 5 (some (.object "com/example/treellis/treellis/cfa/IntegerType")) :: ws) ({ frames := 2, cells := 1, slots := 14, locals := 25 } : Room)) (fun a U => a = #[(.ref a1)] ∧ Z.Warmed39 U.vm ∧ U.heap = h0) (fun _ _ _ _ _ => True) (fun _ U o U' => ∃ rv rL, o = .returned rv ∧ Q_rmU2 Z h0 n0 aUNSIGNED_SHORT rv U'.heap rL ∧ FrameEnd U o U' rL ({ frames := 2, cells := 1, slots := 14, locals := 25 } : Room).cells ({ frames := 2, cells := 1, slots := 14, locals := 25 } : Room).slots) := by
  refine own_met (y := (⟨"com/example/treellis/treellis/cfa/IntegerType", "toUnsigned", "()Lcom/example/treellis/treellis/cfa/IntegerType;"⟩ : MethodName)) (Q := Q_rmU2 Z h0 n0 aUNSIGNED_SHORT) (own := "com/example/treellis/treellis/cfa/IntegerType") rfl pn_2 ?_
  intro p e s m below meth c s₁ C e0 X0
  obtain ⟨hx, hby, hml, hown, hnm, hret, hlk, hZ⟩ := C
  have N0 := Fr.nil n0
  rw [ef_2]
  obtain ⟨SV, AV, EV, FV, hsz, el_0, el_1, el_2, el_3, el_4, el_5, el_6, el_7, el_8, el_9, el_10, el_11, el_12, el_13⟩ := VV
  obtain ⟨⟨E_BOOL, R_BOOL, G_BOOL⟩, ⟨E_CHAR, R_CHAR, G_CHAR⟩, ⟨E_SIGNED_CHAR, R_SIGNED_CHAR, G_SIGNED_CHAR⟩, ⟨E_UNSIGNED_CHAR, R_UNSIGNED_CHAR, G_UNSIGNED_CHAR⟩, ⟨E_SHORT, R_SHORT, G_SHORT⟩, ⟨E_UNSIGNED_SHORT, R_UNSIGNED_SHORT, G_UNSIGNED_SHORT⟩, ⟨E_INT, R_INT, G_INT⟩, ⟨E_UNSIGNED_INT, R_UNSIGNED_INT, G_UNSIGNED_INT⟩, ⟨E_LONG, R_LONG, G_LONG⟩, ⟨E_UNSIGNED_LONG, R_UNSIGNED_LONG, G_UNSIGNED_LONG⟩, ⟨E_LONG_LONG, R_LONG_LONG, G_LONG_LONG⟩, ⟨E_UNSIGNED_LONG_LONG, R_UNSIGNED_LONG_LONG, G_UNSIGNED_LONG_LONG⟩, ⟨E_INT128, R_INT128, G_INT128⟩, ⟨E_UNSIGNED_INT128, R_UNSIGNED_INT128, G_UNSIGNED_INT128⟩⟩ := FF
  show own_Goes _ _ _ _ _ _ _ s₁ (mkF m 0 #[.val (.ref a1), .unset, .unset, .unset, .unset] [])
  obtain ⟨_, _, ⟨T1, L1, k1, n1⟩, -, X1, ⟨Lc1, hQ1, l1, y1, z1⟩, st1⟩ := Jvm.LawKit.callS X0 hx (y := (⟨"com/example/treellis/treellis/cfa/IntegerType", "values", "()[Lcom/example/treellis/treellis/cfa/IntegerType;"⟩ : MethodName)) hown (mvT hZ (hw _ (List.mem_of_getElem? (i := 13) rfl))) (mvT hZ (hw _ (List.mem_of_getElem? (i := 14) rfl))) (mvT hZ (hw _ (List.mem_of_getElem? (i := 6) rfl))) (mvT hZ (hw _ (List.mem_of_getElem? (i := 15) rfl))) (by decide) (backOf (W := 0) (rm3 l Z a0 hw [] aV clV aBOOL aCHAR aSIGNED_CHAR aUNSIGNED_CHAR aSHORT aUNSIGNED_SHORT aINT aUNSIGNED_INT aLONG aUNSIGNED_LONG aLONG_LONG aUNSIGNED_LONG_LONG aINT128 aUNSIGNED_INT128 h0 n0 Z0 ⟨SV, AV, EV, FV, hsz, el_0, el_1, el_2, el_3, el_4, el_5, el_6, el_7, el_8, el_9, el_10, el_11, el_12, el_13⟩ Od0) hZ (hw _ (List.mem_of_getElem? (i := 15) rfl)) (hw _ (List.mem_of_getElem? (i := 6) rfl)) (by decide) (by decide)) (g := (mkF m 0 #[.val (.ref a1), .unset, .unset, .unset, .unset] [])) rfl (by rw [hml]; rfl) (argsL := []) (rest := []) (lenOf pd_0 rfl) rfl (by show 2 * 0 + _ ≤ _; exact Nat.le_of_eq rfl) (hb hby d2_0) (fun _ _ => ⟨rfl, e0, (by decide : 0 + 1 ≤ _), (by decide : 0 + 14 ≤ _)⟩)
  dsimp only [Pt.U, Pt.locs, Pt.cells, Pt.slots] at X1 l1 y1 z1 st1 hQ1
  subst l1 y1 z1
  obtain ⟨rfl, N1q, E1, A1⟩ := hQ1
  have N1 := Fr.app N0 N1q
  refine own_go st1 ?_
  show own_Goes _ _ _ _ _ _ _ T1 (mkF m 3 #[.val (.ref a1), .unset, .unset, .unset, .unset] [(.ref h0.size)])
  have Od1 := Od0.ext E1
  refine own_go (fun _ k => XS.astoreN X1.here hx rfl (hb hby d2_3) rfl rfl (l' := #[.val (.ref a1), .val (.ref h0.size), .unset, .unset, .unset]) rfl k) ?_
  show own_Goes _ _ _ _ _ _ _ T1 (mkF m 4 #[.val (.ref a1), .val (.ref h0.size), .unset, .unset, .unset] [])
  refine own_go (fun _ k => XS.aloadN X1.here hx rfl (hb hby d2_4) rfl rfl k) ?_
  show own_Goes _ _ _ _ _ _ _ T1 (mkF m 5 #[.val (.ref a1), .val (.ref h0.size), .unset, .unset, .unset] [(.ref h0.size)])
  refine own_go (fun t k => X1.arraylength hx (by exact A1.1) (State.isArrayOf_alike hZ.alike A1.2.1) (g := (mkF m 5 #[.val (.ref a1), .val (.ref h0.size), .unset, .unset, .unset] [(.ref h0.size)])) rfl rfl (hb hby d2_5) t k) ?_
  rw [show (cloneOf clV).slots.size.toInt32 = (14 : Int32) from by show clV.slots.size.toInt32 = _; rw [hsz]; rfl]
  show own_Goes _ _ _ _ _ _ _ T1 (mkF m 6 #[.val (.ref a1), .val (.ref h0.size), .unset, .unset, .unset] [(.int (14 : Int32))])
  refine own_go (fun _ k => XS.istoreN X1.here hx rfl (hb hby d2_6) rfl (l' := #[.val (.ref a1), .val (.ref h0.size), .val (.int (14 : Int32)), .unset, .unset]) rfl k) ?_
  show own_Goes _ _ _ _ _ _ _ T1 (mkF m 7 #[.val (.ref a1), .val (.ref h0.size), .val (.int (14 : Int32)), .unset, .unset] [])
  refine own_go (fun _ k => XS.iconst X1.here hx rfl (hb hby d2_7) k) ?_
  show own_Goes _ _ _ _ _ _ _ T1 (mkF m 8 #[.val (.ref a1), .val (.ref h0.size), .val (.int (14 : Int32)), .unset, .unset] [(.int (0 : Int32))])
  refine own_go (fun _ k => XS.istoreN X1.here hx rfl (hb hby d2_8) rfl (l' := #[.val (.ref a1), .val (.ref h0.size), .val (.int (14 : Int32)), .val (.int (0 : Int32)), .unset]) rfl k) ?_
  show own_Goes _ _ _ _ _ _ _ T1 (mkF m 9 #[.val (.ref a1), .val (.ref h0.size), .val (.int (14 : Int32)), .val (.int (0 : Int32)), .unset] [])
  refine own_go (fun _ k => XS.iloadN X1.here hx rfl (hb hby d2_9) rfl k) ?_
  show own_Goes _ _ _ _ _ _ _ T1 (mkF m 10 #[.val (.ref a1), .val (.ref h0.size), .val (.int (14 : Int32)), .val (.int (0 : Int32)), .unset] [(.int (0 : Int32))])
  refine own_go (fun _ k => XS.iloadN X1.here hx rfl (hb hby d2_10) rfl k) ?_
  show own_Goes _ _ _ _ _ _ _ T1 (mkF m 11 #[.val (.ref a1), .val (.ref h0.size), .val (.int (14 : Int32)), .val (.int (0 : Int32)), .unset] [(.int (14 : Int32)), (.int (0 : Int32))])
  refine own_go (fun _ k => XS.icmpNo X1.here hx rfl (hb hby d2_11) rfl (tlt (by decide : (0 : Int32) < (14 : Int32))).2.1 k) ?_
  show own_Goes _ _ _ _ _ _ _ T1 (mkF m 14 #[.val (.ref a1), .val (.ref h0.size), .val (.int (14 : Int32)), .val (.int (0 : Int32)), .unset] [])
  refine own_go (fun _ k => XS.aloadN X1.here hx rfl (hb hby d2_14) rfl rfl k) ?_
  show own_Goes _ _ _ _ _ _ _ T1 (mkF m 15 #[.val (.ref a1), .val (.ref h0.size), .val (.int (14 : Int32)), .val (.int (0 : Int32)), .unset] [(.ref h0.size)])
  refine own_go (fun _ k => XS.iloadN X1.here hx rfl (hb hby d2_15) rfl k) ?_
  show own_Goes _ _ _ _ _ _ _ T1 (mkF m 16 #[.val (.ref a1), .val (.ref h0.size), .val (.int (14 : Int32)), .val (.int (0 : Int32)), .unset] [(.int (0 : Int32)), (.ref h0.size)])
  refine own_go (fun t k => X1.aaload hx (j := (0 : Int32)) (v := (.ref aBOOL)) (by rw [show _ = T1.heap from rfl]; exact A1.1) (State.isArrayOf_alike hZ.alike A1.2.1) rfl A1.2.2 (by show ¬ (_ ∨ clV.slots.size ≤ _); rw [hsz]; decide) el_0 (g := (mkF m 16 #[.val (.ref a1), .val (.ref h0.size), .val (.int (14 : Int32)), .val (.int (0 : Int32)), .unset] [(.int (0 : Int32)), (.ref h0.size)])) rfl rfl (hb hby d2_16) t k) ?_
  show own_Goes _ _ _ _ _ _ _ T1 (mkF m 17 #[.val (.ref a1), .val (.ref h0.size), .val (.int (14 : Int32)), .val (.int (0 : Int32)), .unset] [(.ref aBOOL)])
  refine own_go (fun _ k => XS.astore X1.here hx rfl (hb hby d2_17) rfl rfl (l' := #[.val (.ref a1), .val (.ref h0.size), .val (.int (14 : Int32)), .val (.int (0 : Int32)), .val (.ref aBOOL)]) rfl k) ?_
  show own_Goes _ _ _ _ _ _ _ T1 (mkF m 19 #[.val (.ref a1), .val (.ref h0.size), .val (.int (14 : Int32)), .val (.int (0 : Int32)), .val (.ref aBOOL)] [])
  refine own_go (fun _ k => XS.aload X1.here hx rfl (hb hby d2_19) rfl rfl k) ?_
  show own_Goes _ _ _ _ _ _ _ T1 (mkF m 21 #[.val (.ref a1), .val (.ref h0.size), .val (.int (14 : Int32)), .val (.int (0 : Int32)), .val (.ref aBOOL)] [(.ref aBOOL)])
  obtain ⟨T2, X2, e2, st2⟩ := getF X1 hx hZ hown (host := "") (Or.inl (hw _ (List.mem_of_getElem? (i := 41) rfl))) Via.refl rfl (G_BOOL.ext Od1.2) (g := (mkF m 21 #[.val (.ref a1), .val (.ref h0.size), .val (.int (14 : Int32)), .val (.int (0 : Int32)), .val (.ref aBOOL)] [(.ref aBOOL)])) rfl rfl (hb hby d2_21)
  refine own_go st2 ?_
  show own_Goes _ _ _ _ _ _ _ T2 (mkF m 24 #[.val (.ref a1), .val (.ref h0.size), .val (.int (14 : Int32)), .val (.int (0 : Int32)), .val (.ref aBOOL)] [(.int (0 : Int32))])
  refine own_go (fun _ k => XS.ifNo X2.here hx rfl (hb hby d2_24) rfl ((if0 _ _).trans (teq (by decide : (0 : Int32) = (0 : Int32))).2) k) ?_
  show own_Goes _ _ _ _ _ _ _ T2 (mkF m 27 #[.val (.ref a1), .val (.ref h0.size), .val (.int (14 : Int32)), .val (.int (0 : Int32)), .val (.ref aBOOL)] [])
  refine own_go (fun _ k => XS.aload X2.here hx rfl (hb hby d2_27) rfl rfl k) ?_
  show own_Goes _ _ _ _ _ _ _ T2 (mkF m 29 #[.val (.ref a1), .val (.ref h0.size), .val (.int (14 : Int32)), .val (.int (0 : Int32)), .val (.ref aBOOL)] [(.ref aBOOL)])
  obtain ⟨T3, X3, e3, st3⟩ := getF X2 hx hZ hown (host := "") (Or.inl (hw _ (List.mem_of_getElem? (i := 43) rfl))) Via.refl e2 (R_BOOL.ext Od1.2) (g := (mkF m 29 #[.val (.ref a1), .val (.ref h0.size), .val (.int (14 : Int32)), .val (.int (0 : Int32)), .val (.ref aBOOL)] [(.ref aBOOL)])) rfl rfl (hb hby d2_29)
  refine own_go st3 ?_
  show own_Goes _ _ _ _ _ _ _ T3 (mkF m 32 #[.val (.ref a1), .val (.ref h0.size), .val (.int (14 : Int32)), .val (.int (0 : Int32)), .val (.ref aBOOL)] [(.int (0 : Int32))])
  refine own_go (fun _ k => XS.aloadN X3.here hx rfl (hb hby d2_32) rfl rfl k) ?_
  show own_Goes _ _ _ _ _ _ _ T3 (mkF m 33 #[.val (.ref a1), .val (.ref h0.size), .val (.int (14 : Int32)), .val (.int (0 : Int32)), .val (.ref aBOOL)] [(.ref a1), (.int (0 : Int32))])
  obtain ⟨T4, X4, e4, st4⟩ := getF X3 hx hZ hown (host := "") (Or.inl (hw _ (List.mem_of_getElem? (i := 43) rfl))) Via.refl e3 (R_a1.ext Od1.2) (g := (mkF m 33 #[.val (.ref a1), .val (.ref h0.size), .val (.int (14 : Int32)), .val (.int (0 : Int32)), .val (.ref aBOOL)] [(.ref a1), (.int (0 : Int32))])) rfl rfl (hb hby d2_33)
  refine own_go st4 ?_
  show own_Goes _ _ _ _ _ _ _ T4 (mkF m 36 #[.val (.ref a1), .val (.ref h0.size), .val (.int (14 : Int32)), .val (.int (0 : Int32)), .val (.ref aBOOL)] [(.int (2 : Int32)), (.int (0 : Int32))])
  refine own_go (fun _ k => XS.icmpYes X4.here hx rfl (pc0 := 36) (pc' := 42) rfl (hb hby d2_36) rfl (feq (by decide : ¬ ((0 : Int32) = (2 : Int32)))).2 (by decide) (by decide) k) ?_
  show own_Goes _ _ _ _ _ _ _ T4 (mkF m 42 #[.val (.ref a1), .val (.ref h0.size), .val (.int (14 : Int32)), .val (.int (0 : Int32)), .val (.ref aBOOL)] [])
  refine own_go (fun _ k => XS.iinc X4.here hx rfl (hb hby d2_42) rfl (l' := #[.val (.ref a1), .val (.ref h0.size), .val (.int (14 : Int32)), .val (.int (1 : Int32)), .val (.ref aBOOL)]) rfl k) ?_
  show own_Goes _ _ _ _ _ _ _ T4 (mkF m 45 #[.val (.ref a1), .val (.ref h0.size), .val (.int (14 : Int32)), .val (.int (1 : Int32)), .val (.ref aBOOL)] [])
  refine own_go (fun _ k => XS.goto X4.here hx rfl (pc0 := 45) (pc' := 9) rfl (hb hby d2_45) (by decide) (by decide) k) ?_
  show own_Goes _ _ _ _ _ _ _ T4 (mkF m 9 #[.val (.ref a1), .val (.ref h0.size), .val (.int (14 : Int32)), .val (.int (1 : Int32)), .val (.ref aBOOL)] [])
  refine own_go (fun _ k => XS.iloadN X4.here hx rfl (hb hby d2_9) rfl k) ?_
  show own_Goes _ _ _ _ _ _ _ T4 (mkF m 10 #[.val (.ref a1), .val (.ref h0.size), .val (.int (14 : Int32)), .val (.int (1 : Int32)), .val (.ref aBOOL)] [(.int (1 : Int32))])
  refine own_go (fun _ k => XS.iloadN X4.here hx rfl (hb hby d2_10) rfl k) ?_
  show own_Goes _ _ _ _ _ _ _ T4 (mkF m 11 #[.val (.ref a1), .val (.ref h0.size), .val (.int (14 : Int32)), .val (.int (1 : Int32)), .val (.ref aBOOL)] [(.int (14 : Int32)), (.int (1 : Int32))])
  refine own_go (fun _ k => XS.icmpNo X4.here hx rfl (hb hby d2_11) rfl (tlt (by decide : (1 : Int32) < (14 : Int32))).2.1 k) ?_
  show own_Goes _ _ _ _ _ _ _ T4 (mkF m 14 #[.val (.ref a1), .val (.ref h0.size), .val (.int (14 : Int32)), .val (.int (1 : Int32)), .val (.ref aBOOL)] [])
  refine own_go (fun _ k => XS.aloadN X4.here hx rfl (hb hby d2_14) rfl rfl k) ?_
  show own_Goes _ _ _ _ _ _ _ T4 (mkF m 15 #[.val (.ref a1), .val (.ref h0.size), .val (.int (14 : Int32)), .val (.int (1 : Int32)), .val (.ref aBOOL)] [(.ref h0.size)])
  refine own_go (fun _ k => XS.iloadN X4.here hx rfl (hb hby d2_15) rfl k) ?_
  show own_Goes _ _ _ _ _ _ _ T4 (mkF m 16 #[.val (.ref a1), .val (.ref h0.size), .val (.int (14 : Int32)), .val (.int (1 : Int32)), .val (.ref aBOOL)] [(.int (1 : Int32)), (.ref h0.size)])
  refine own_go (fun t k => X4.aaload hx (j := (1 : Int32)) (v := (.ref aCHAR)) (by rw [e4]; exact A1.1) (State.isArrayOf_alike hZ.alike A1.2.1) rfl A1.2.2 (by show ¬ (_ ∨ clV.slots.size ≤ _); rw [hsz]; decide) el_1 (g := (mkF m 16 #[.val (.ref a1), .val (.ref h0.size), .val (.int (14 : Int32)), .val (.int (1 : Int32)), .val (.ref aBOOL)] [(.int (1 : Int32)), (.ref h0.size)])) rfl rfl (hb hby d2_16) t k) ?_
  show own_Goes _ _ _ _ _ _ _ T4 (mkF m 17 #[.val (.ref a1), .val (.ref h0.size), .val (.int (14 : Int32)), .val (.int (1 : Int32)), .val (.ref aBOOL)] [(.ref aCHAR)])
  refine own_go (fun _ k => XS.astore X4.here hx rfl (hb hby d2_17) rfl rfl (l' := #[.val (.ref a1), .val (.ref h0.size), .val (.int (14 : Int32)), .val (.int (1 : Int32)), .val (.ref aCHAR)]) rfl k) ?_
  show own_Goes _ _ _ _ _ _ _ T4 (mkF m 19 #[.val (.ref a1), .val (.ref h0.size), .val (.int (14 : Int32)), .val (.int (1 : Int32)), .val (.ref aCHAR)] [])
  refine own_go (fun _ k => XS.aload X4.here hx rfl (hb hby d2_19) rfl rfl k) ?_
  show own_Goes _ _ _ _ _ _ _ T4 (mkF m 21 #[.val (.ref a1), .val (.ref h0.size), .val (.int (14 : Int32)), .val (.int (1 : Int32)), .val (.ref aCHAR)] [(.ref aCHAR)])
  obtain ⟨T5, X5, e5, st5⟩ := getF X4 hx hZ hown (host := "") (Or.inl (hw _ (List.mem_of_getElem? (i := 41) rfl))) Via.refl e4 (G_CHAR.ext Od1.2) (g := (mkF m 21 #[.val (.ref a1), .val (.ref h0.size), .val (.int (14 : Int32)), .val (.int (1 : Int32)), .val (.ref aCHAR)] [(.ref aCHAR)])) rfl rfl (hb hby d2_21)
  refine own_go st5 ?_
  show own_Goes _ _ _ _ _ _ _ T5 (mkF m 24 #[.val (.ref a1), .val (.ref h0.size), .val (.int (14 : Int32)), .val (.int (1 : Int32)), .val (.ref aCHAR)] [(.int (1 : Int32))])
  refine own_go (fun _ k => XS.ifYes X5.here hx rfl (pc0 := 24) (pc' := 42) rfl (hb hby d2_24) rfl ((if0 _ _).trans (feq (by decide : ¬ ((1 : Int32) = (0 : Int32)))).2) (by decide) (by decide) k) ?_
  show own_Goes _ _ _ _ _ _ _ T5 (mkF m 42 #[.val (.ref a1), .val (.ref h0.size), .val (.int (14 : Int32)), .val (.int (1 : Int32)), .val (.ref aCHAR)] [])
  refine own_go (fun _ k => XS.iinc X5.here hx rfl (hb hby d2_42) rfl (l' := #[.val (.ref a1), .val (.ref h0.size), .val (.int (14 : Int32)), .val (.int (2 : Int32)), .val (.ref aCHAR)]) rfl k) ?_
  show own_Goes _ _ _ _ _ _ _ T5 (mkF m 45 #[.val (.ref a1), .val (.ref h0.size), .val (.int (14 : Int32)), .val (.int (2 : Int32)), .val (.ref aCHAR)] [])
  refine own_go (fun _ k => XS.goto X5.here hx rfl (pc0 := 45) (pc' := 9) rfl (hb hby d2_45) (by decide) (by decide) k) ?_
  show own_Goes _ _ _ _ _ _ _ T5 (mkF m 9 #[.val (.ref a1), .val (.ref h0.size), .val (.int (14 : Int32)), .val (.int (2 : Int32)), .val (.ref aCHAR)] [])
  refine own_go (fun _ k => XS.iloadN X5.here hx rfl (hb hby d2_9) rfl k) ?_
  show own_Goes _ _ _ _ _ _ _ T5 (mkF m 10 #[.val (.ref a1), .val (.ref h0.size), .val (.int (14 : Int32)), .val (.int (2 : Int32)), .val (.ref aCHAR)] [(.int (2 : Int32))])
  refine own_go (fun _ k => XS.iloadN X5.here hx rfl (hb hby d2_10) rfl k) ?_
  show own_Goes _ _ _ _ _ _ _ T5 (mkF m 11 #[.val (.ref a1), .val (.ref h0.size), .val (.int (14 : Int32)), .val (.int (2 : Int32)), .val (.ref aCHAR)] [(.int (14 : Int32)), (.int (2 : Int32))])
  refine own_go (fun _ k => XS.icmpNo X5.here hx rfl (hb hby d2_11) rfl (tlt (by decide : (2 : Int32) < (14 : Int32))).2.1 k) ?_
  show own_Goes _ _ _ _ _ _ _ T5 (mkF m 14 #[.val (.ref a1), .val (.ref h0.size), .val (.int (14 : Int32)), .val (.int (2 : Int32)), .val (.ref aCHAR)] [])
  refine own_go (fun _ k => XS.aloadN X5.here hx rfl (hb hby d2_14) rfl rfl k) ?_
  show own_Goes _ _ _ _ _ _ _ T5 (mkF m 15 #[.val (.ref a1), .val (.ref h0.size), .val (.int (14 : Int32)), .val (.int (2 : Int32)), .val (.ref aCHAR)] [(.ref h0.size)])
  refine own_go (fun _ k => XS.iloadN X5.here hx rfl (hb hby d2_15) rfl k) ?_
  show own_Goes _ _ _ _ _ _ _ T5 (mkF m 16 #[.val (.ref a1), .val (.ref h0.size), .val (.int (14 : Int32)), .val (.int (2 : Int32)), .val (.ref aCHAR)] [(.int (2 : Int32)), (.ref h0.size)])
  refine own_go (fun t k => X5.aaload hx (j := (2 : Int32)) (v := (.ref aSIGNED_CHAR)) (by rw [e5]; exact A1.1) (State.isArrayOf_alike hZ.alike A1.2.1) rfl A1.2.2 (by show ¬ (_ ∨ clV.slots.size ≤ _); rw [hsz]; decide) el_2 (g := (mkF m 16 #[.val (.ref a1), .val (.ref h0.size), .val (.int (14 : Int32)), .val (.int (2 : Int32)), .val (.ref aCHAR)] [(.int (2 : Int32)), (.ref h0.size)])) rfl rfl (hb hby d2_16) t k) ?_
  show own_Goes _ _ _ _ _ _ _ T5 (mkF m 17 #[.val (.ref a1), .val (.ref h0.size), .val (.int (14 : Int32)), .val (.int (2 : Int32)), .val (.ref aCHAR)] [(.ref aSIGNED_CHAR)])
  refine own_go (fun _ k => XS.astore X5.here hx rfl (hb hby d2_17) rfl rfl (l' := #[.val (.ref a1), .val (.ref h0.size), .val (.int (14 : Int32)), .val (.int (2 : Int32)), .val (.ref aSIGNED_CHAR)]) rfl k) ?_
  show own_Goes _ _ _ _ _ _ _ T5 (mkF m 19 #[.val (.ref a1), .val (.ref h0.size), .val (.int (14 : Int32)), .val (.int (2 : Int32)), .val (.ref aSIGNED_CHAR)] [])
  refine own_go (fun _ k => XS.aload X5.here hx rfl (hb hby d2_19) rfl rfl k) ?_
  show own_Goes _ _ _ _ _ _ _ T5 (mkF m 21 #[.val (.ref a1), .val (.ref h0.size), .val (.int (14 : Int32)), .val (.int (2 : Int32)), .val (.ref aSIGNED_CHAR)] [(.ref aSIGNED_CHAR)])
  obtain ⟨T6, X6, e6, st6⟩ := getF X5 hx hZ hown (host := "") (Or.inl (hw _ (List.mem_of_getElem? (i := 41) rfl))) Via.refl e5 (G_SIGNED_CHAR.ext Od1.2) (g := (mkF m 21 #[.val (.ref a1), .val (.ref h0.size), .val (.int (14 : Int32)), .val (.int (2 : Int32)), .val (.ref aSIGNED_CHAR)] [(.ref aSIGNED_CHAR)])) rfl rfl (hb hby d2_21)
  refine own_go st6 ?_
  show own_Goes _ _ _ _ _ _ _ T6 (mkF m 24 #[.val (.ref a1), .val (.ref h0.size), .val (.int (14 : Int32)), .val (.int (2 : Int32)), .val (.ref aSIGNED_CHAR)] [(.int (1 : Int32))])
  refine own_go (fun _ k => XS.ifYes X6.here hx rfl (pc0 := 24) (pc' := 42) rfl (hb hby d2_24) rfl ((if0 _ _).trans (feq (by decide : ¬ ((1 : Int32) = (0 : Int32)))).2) (by decide) (by decide) k) ?_
  show own_Goes _ _ _ _ _ _ _ T6 (mkF m 42 #[.val (.ref a1), .val (.ref h0.size), .val (.int (14 : Int32)), .val (.int (2 : Int32)), .val (.ref aSIGNED_CHAR)] [])
  refine own_go (fun _ k => XS.iinc X6.here hx rfl (hb hby d2_42) rfl (l' := #[.val (.ref a1), .val (.ref h0.size), .val (.int (14 : Int32)), .val (.int (3 : Int32)), .val (.ref aSIGNED_CHAR)]) rfl k) ?_
  show own_Goes _ _ _ _ _ _ _ T6 (mkF m 45 #[.val (.ref a1), .val (.ref h0.size), .val (.int (14 : Int32)), .val (.int (3 : Int32)), .val (.ref aSIGNED_CHAR)] [])
  refine own_go (fun _ k => XS.goto X6.here hx rfl (pc0 := 45) (pc' := 9) rfl (hb hby d2_45) (by decide) (by decide) k) ?_
  show own_Goes _ _ _ _ _ _ _ T6 (mkF m 9 #[.val (.ref a1), .val (.ref h0.size), .val (.int (14 : Int32)), .val (.int (3 : Int32)), .val (.ref aSIGNED_CHAR)] [])
  refine own_go (fun _ k => XS.iloadN X6.here hx rfl (hb hby d2_9) rfl k) ?_
  show own_Goes _ _ _ _ _ _ _ T6 (mkF m 10 #[.val (.ref a1), .val (.ref h0.size), .val (.int (14 : Int32)), .val (.int (3 : Int32)), .val (.ref aSIGNED_CHAR)] [(.int (3 : Int32))])
  refine own_go (fun _ k => XS.iloadN X6.here hx rfl (hb hby d2_10) rfl k) ?_
  show own_Goes _ _ _ _ _ _ _ T6 (mkF m 11 #[.val (.ref a1), .val (.ref h0.size), .val (.int (14 : Int32)), .val (.int (3 : Int32)), .val (.ref aSIGNED_CHAR)] [(.int (14 : Int32)), (.int (3 : Int32))])
  refine own_go (fun _ k => XS.icmpNo X6.here hx rfl (hb hby d2_11) rfl (tlt (by decide : (3 : Int32) < (14 : Int32))).2.1 k) ?_
  show own_Goes _ _ _ _ _ _ _ T6 (mkF m 14 #[.val (.ref a1), .val (.ref h0.size), .val (.int (14 : Int32)), .val (.int (3 : Int32)), .val (.ref aSIGNED_CHAR)] [])
  refine own_go (fun _ k => XS.aloadN X6.here hx rfl (hb hby d2_14) rfl rfl k) ?_
  show own_Goes _ _ _ _ _ _ _ T6 (mkF m 15 #[.val (.ref a1), .val (.ref h0.size), .val (.int (14 : Int32)), .val (.int (3 : Int32)), .val (.ref aSIGNED_CHAR)] [(.ref h0.size)])
  refine own_go (fun _ k => XS.iloadN X6.here hx rfl (hb hby d2_15) rfl k) ?_
  show own_Goes _ _ _ _ _ _ _ T6 (mkF m 16 #[.val (.ref a1), .val (.ref h0.size), .val (.int (14 : Int32)), .val (.int (3 : Int32)), .val (.ref aSIGNED_CHAR)] [(.int (3 : Int32)), (.ref h0.size)])
  refine own_go (fun t k => X6.aaload hx (j := (3 : Int32)) (v := (.ref aUNSIGNED_CHAR)) (by rw [e6]; exact A1.1) (State.isArrayOf_alike hZ.alike A1.2.1) rfl A1.2.2 (by show ¬ (_ ∨ clV.slots.size ≤ _); rw [hsz]; decide) el_3 (g := (mkF m 16 #[.val (.ref a1), .val (.ref h0.size), .val (.int (14 : Int32)), .val (.int (3 : Int32)), .val (.ref aSIGNED_CHAR)] [(.int (3 : Int32)), (.ref h0.size)])) rfl rfl (hb hby d2_16) t k) ?_
  show own_Goes _ _ _ _ _ _ _ T6 (mkF m 17 #[.val (.ref a1), .val (.ref h0.size), .val (.int (14 : Int32)), .val (.int (3 : Int32)), .val (.ref aSIGNED_CHAR)] [(.ref aUNSIGNED_CHAR)])
  refine own_go (fun _ k => XS.astore X6.here hx rfl (hb hby d2_17) rfl rfl (l' := #[.val (.ref a1), .val (.ref h0.size), .val (.int (14 : Int32)), .val (.int (3 : Int32)), .val (.ref aUNSIGNED_CHAR)]) rfl k) ?_
  show own_Goes _ _ _ _ _ _ _ T6 (mkF m 19 #[.val (.ref a1), .val (.ref h0.size), .val (.int (14 : Int32)), .val (.int (3 : Int32)), .val (.ref aUNSIGNED_CHAR)] [])
  refine own_go (fun _ k => XS.aload X6.here hx rfl (hb hby d2_19) rfl rfl k) ?_
  show own_Goes _ _ _ _ _ _ _ T6 (mkF m 21 #[.val (.ref a1), .val (.ref h0.size), .val (.int (14 : Int32)), .val (.int (3 : Int32)), .val (.ref aUNSIGNED_CHAR)] [(.ref aUNSIGNED_CHAR)])
  obtain ⟨T7, X7, e7, st7⟩ := getF X6 hx hZ hown (host := "") (Or.inl (hw _ (List.mem_of_getElem? (i := 41) rfl))) Via.refl e6 (G_UNSIGNED_CHAR.ext Od1.2) (g := (mkF m 21 #[.val (.ref a1), .val (.ref h0.size), .val (.int (14 : Int32)), .val (.int (3 : Int32)), .val (.ref aUNSIGNED_CHAR)] [(.ref aUNSIGNED_CHAR)])) rfl rfl (hb hby d2_21)
  refine own_go st7 ?_
  show own_Goes _ _ _ _ _ _ _ T7 (mkF m 24 #[.val (.ref a1), .val (.ref h0.size), .val (.int (14 : Int32)), .val (.int (3 : Int32)), .val (.ref aUNSIGNED_CHAR)] [(.int (0 : Int32))])
  refine own_go (fun _ k => XS.ifNo X7.here hx rfl (hb hby d2_24) rfl ((if0 _ _).trans (teq (by decide : (0 : Int32) = (0 : Int32))).2) k) ?_
  show own_Goes _ _ _ _ _ _ _ T7 (mkF m 27 #[.val (.ref a1), .val (.ref h0.size), .val (.int (14 : Int32)), .val (.int (3 : Int32)), .val (.ref aUNSIGNED_CHAR)] [])
  refine own_go (fun _ k => XS.aload X7.here hx rfl (hb hby d2_27) rfl rfl k) ?_
  show own_Goes _ _ _ _ _ _ _ T7 (mkF m 29 #[.val (.ref a1), .val (.ref h0.size), .val (.int (14 : Int32)), .val (.int (3 : Int32)), .val (.ref aUNSIGNED_CHAR)] [(.ref aUNSIGNED_CHAR)])
  obtain ⟨T8, X8, e8, st8⟩ := getF X7 hx hZ hown (host := "") (Or.inl (hw _ (List.mem_of_getElem? (i := 43) rfl))) Via.refl e7 (R_UNSIGNED_CHAR.ext Od1.2) (g := (mkF m 29 #[.val (.ref a1), .val (.ref h0.size), .val (.int (14 : Int32)), .val (.int (3 : Int32)), .val (.ref aUNSIGNED_CHAR)] [(.ref aUNSIGNED_CHAR)])) rfl rfl (hb hby d2_29)
  refine own_go st8 ?_
  show own_Goes _ _ _ _ _ _ _ T8 (mkF m 32 #[.val (.ref a1), .val (.ref h0.size), .val (.int (14 : Int32)), .val (.int (3 : Int32)), .val (.ref aUNSIGNED_CHAR)] [(.int (1 : Int32))])
  refine own_go (fun _ k => XS.aloadN X8.here hx rfl (hb hby d2_32) rfl rfl k) ?_
  show own_Goes _ _ _ _ _ _ _ T8 (mkF m 33 #[.val (.ref a1), .val (.ref h0.size), .val (.int (14 : Int32)), .val (.int (3 : Int32)), .val (.ref aUNSIGNED_CHAR)] [(.ref a1), (.int (1 : Int32))])
  obtain ⟨T9, X9, e9, st9⟩ := getF X8 hx hZ hown (host := "") (Or.inl (hw _ (List.mem_of_getElem? (i := 43) rfl))) Via.refl e8 (R_a1.ext Od1.2) (g := (mkF m 33 #[.val (.ref a1), .val (.ref h0.size), .val (.int (14 : Int32)), .val (.int (3 : Int32)), .val (.ref aUNSIGNED_CHAR)] [(.ref a1), (.int (1 : Int32))])) rfl rfl (hb hby d2_33)
  refine own_go st9 ?_
  show own_Goes _ _ _ _ _ _ _ T9 (mkF m 36 #[.val (.ref a1), .val (.ref h0.size), .val (.int (14 : Int32)), .val (.int (3 : Int32)), .val (.ref aUNSIGNED_CHAR)] [(.int (2 : Int32)), (.int (1 : Int32))])
  refine own_go (fun _ k => XS.icmpYes X9.here hx rfl (pc0 := 36) (pc' := 42) rfl (hb hby d2_36) rfl (feq (by decide : ¬ ((1 : Int32) = (2 : Int32)))).2 (by decide) (by decide) k) ?_
  show own_Goes _ _ _ _ _ _ _ T9 (mkF m 42 #[.val (.ref a1), .val (.ref h0.size), .val (.int (14 : Int32)), .val (.int (3 : Int32)), .val (.ref aUNSIGNED_CHAR)] [])
  refine own_go (fun _ k => XS.iinc X9.here hx rfl (hb hby d2_42) rfl (l' := #[.val (.ref a1), .val (.ref h0.size), .val (.int (14 : Int32)), .val (.int (4 : Int32)), .val (.ref aUNSIGNED_CHAR)]) rfl k) ?_
  show own_Goes _ _ _ _ _ _ _ T9 (mkF m 45 #[.val (.ref a1), .val (.ref h0.size), .val (.int (14 : Int32)), .val (.int (4 : Int32)), .val (.ref aUNSIGNED_CHAR)] [])
  refine own_go (fun _ k => XS.goto X9.here hx rfl (pc0 := 45) (pc' := 9) rfl (hb hby d2_45) (by decide) (by decide) k) ?_
  show own_Goes _ _ _ _ _ _ _ T9 (mkF m 9 #[.val (.ref a1), .val (.ref h0.size), .val (.int (14 : Int32)), .val (.int (4 : Int32)), .val (.ref aUNSIGNED_CHAR)] [])
  refine own_go (fun _ k => XS.iloadN X9.here hx rfl (hb hby d2_9) rfl k) ?_
  show own_Goes _ _ _ _ _ _ _ T9 (mkF m 10 #[.val (.ref a1), .val (.ref h0.size), .val (.int (14 : Int32)), .val (.int (4 : Int32)), .val (.ref aUNSIGNED_CHAR)] [(.int (4 : Int32))])
  refine own_go (fun _ k => XS.iloadN X9.here hx rfl (hb hby d2_10) rfl k) ?_
  show own_Goes _ _ _ _ _ _ _ T9 (mkF m 11 #[.val (.ref a1), .val (.ref h0.size), .val (.int (14 : Int32)), .val (.int (4 : Int32)), .val (.ref aUNSIGNED_CHAR)] [(.int (14 : Int32)), (.int (4 : Int32))])
  refine own_go (fun _ k => XS.icmpNo X9.here hx rfl (hb hby d2_11) rfl (tlt (by decide : (4 : Int32) < (14 : Int32))).2.1 k) ?_
  show own_Goes _ _ _ _ _ _ _ T9 (mkF m 14 #[.val (.ref a1), .val (.ref h0.size), .val (.int (14 : Int32)), .val (.int (4 : Int32)), .val (.ref aUNSIGNED_CHAR)] [])
  refine own_go (fun _ k => XS.aloadN X9.here hx rfl (hb hby d2_14) rfl rfl k) ?_
  show own_Goes _ _ _ _ _ _ _ T9 (mkF m 15 #[.val (.ref a1), .val (.ref h0.size), .val (.int (14 : Int32)), .val (.int (4 : Int32)), .val (.ref aUNSIGNED_CHAR)] [(.ref h0.size)])
  refine own_go (fun _ k => XS.iloadN X9.here hx rfl (hb hby d2_15) rfl k) ?_
  show own_Goes _ _ _ _ _ _ _ T9 (mkF m 16 #[.val (.ref a1), .val (.ref h0.size), .val (.int (14 : Int32)), .val (.int (4 : Int32)), .val (.ref aUNSIGNED_CHAR)] [(.int (4 : Int32)), (.ref h0.size)])
  refine own_go (fun t k => X9.aaload hx (j := (4 : Int32)) (v := (.ref aSHORT)) (by rw [e9]; exact A1.1) (State.isArrayOf_alike hZ.alike A1.2.1) rfl A1.2.2 (by show ¬ (_ ∨ clV.slots.size ≤ _); rw [hsz]; decide) el_4 (g := (mkF m 16 #[.val (.ref a1), .val (.ref h0.size), .val (.int (14 : Int32)), .val (.int (4 : Int32)), .val (.ref aUNSIGNED_CHAR)] [(.int (4 : Int32)), (.ref h0.size)])) rfl rfl (hb hby d2_16) t k) ?_
  show own_Goes _ _ _ _ _ _ _ T9 (mkF m 17 #[.val (.ref a1), .val (.ref h0.size), .val (.int (14 : Int32)), .val (.int (4 : Int32)), .val (.ref aUNSIGNED_CHAR)] [(.ref aSHORT)])
  refine own_go (fun _ k => XS.astore X9.here hx rfl (hb hby d2_17) rfl rfl (l' := #[.val (.ref a1), .val (.ref h0.size), .val (.int (14 : Int32)), .val (.int (4 : Int32)), .val (.ref aSHORT)]) rfl k) ?_
  show own_Goes _ _ _ _ _ _ _ T9 (mkF m 19 #[.val (.ref a1), .val (.ref h0.size), .val (.int (14 : Int32)), .val (.int (4 : Int32)), .val (.ref aSHORT)] [])
  refine own_go (fun _ k => XS.aload X9.here hx rfl (hb hby d2_19) rfl rfl k) ?_
  show own_Goes _ _ _ _ _ _ _ T9 (mkF m 21 #[.val (.ref a1), .val (.ref h0.size), .val (.int (14 : Int32)), .val (.int (4 : Int32)), .val (.ref aSHORT)] [(.ref aSHORT)])
  obtain ⟨T10, X10, e10, st10⟩ := getF X9 hx hZ hown (host := "") (Or.inl (hw _ (List.mem_of_getElem? (i := 41) rfl))) Via.refl e9 (G_SHORT.ext Od1.2) (g := (mkF m 21 #[.val (.ref a1), .val (.ref h0.size), .val (.int (14 : Int32)), .val (.int (4 : Int32)), .val (.ref aSHORT)] [(.ref aSHORT)])) rfl rfl (hb hby d2_21)
  refine own_go st10 ?_
  show own_Goes _ _ _ _ _ _ _ T10 (mkF m 24 #[.val (.ref a1), .val (.ref h0.size), .val (.int (14 : Int32)), .val (.int (4 : Int32)), .val (.ref aSHORT)] [(.int (1 : Int32))])
  refine own_go (fun _ k => XS.ifYes X10.here hx rfl (pc0 := 24) (pc' := 42) rfl (hb hby d2_24) rfl ((if0 _ _).trans (feq (by decide : ¬ ((1 : Int32) = (0 : Int32)))).2) (by decide) (by decide) k) ?_
  show own_Goes _ _ _ _ _ _ _ T10 (mkF m 42 #[.val (.ref a1), .val (.ref h0.size), .val (.int (14 : Int32)), .val (.int (4 : Int32)), .val (.ref aSHORT)] [])
  refine own_go (fun _ k => XS.iinc X10.here hx rfl (hb hby d2_42) rfl (l' := #[.val (.ref a1), .val (.ref h0.size), .val (.int (14 : Int32)), .val (.int (5 : Int32)), .val (.ref aSHORT)]) rfl k) ?_
  show own_Goes _ _ _ _ _ _ _ T10 (mkF m 45 #[.val (.ref a1), .val (.ref h0.size), .val (.int (14 : Int32)), .val (.int (5 : Int32)), .val (.ref aSHORT)] [])
  refine own_go (fun _ k => XS.goto X10.here hx rfl (pc0 := 45) (pc' := 9) rfl (hb hby d2_45) (by decide) (by decide) k) ?_
  show own_Goes _ _ _ _ _ _ _ T10 (mkF m 9 #[.val (.ref a1), .val (.ref h0.size), .val (.int (14 : Int32)), .val (.int (5 : Int32)), .val (.ref aSHORT)] [])
  refine own_go (fun _ k => XS.iloadN X10.here hx rfl (hb hby d2_9) rfl k) ?_
  show own_Goes _ _ _ _ _ _ _ T10 (mkF m 10 #[.val (.ref a1), .val (.ref h0.size), .val (.int (14 : Int32)), .val (.int (5 : Int32)), .val (.ref aSHORT)] [(.int (5 : Int32))])
  refine own_go (fun _ k => XS.iloadN X10.here hx rfl (hb hby d2_10) rfl k) ?_
  show own_Goes _ _ _ _ _ _ _ T10 (mkF m 11 #[.val (.ref a1), .val (.ref h0.size), .val (.int (14 : Int32)), .val (.int (5 : Int32)), .val (.ref aSHORT)] [(.int (14 : Int32)), (.int (5 : Int32))])
  refine own_go (fun _ k => XS.icmpNo X10.here hx rfl (hb hby d2_11) rfl (tlt (by decide : (5 : Int32) < (14 : Int32))).2.1 k) ?_
  show own_Goes _ _ _ _ _ _ _ T10 (mkF m 14 #[.val (.ref a1), .val (.ref h0.size), .val (.int (14 : Int32)), .val (.int (5 : Int32)), .val (.ref aSHORT)] [])
  refine own_go (fun _ k => XS.aloadN X10.here hx rfl (hb hby d2_14) rfl rfl k) ?_
  show own_Goes _ _ _ _ _ _ _ T10 (mkF m 15 #[.val (.ref a1), .val (.ref h0.size), .val (.int (14 : Int32)), .val (.int (5 : Int32)), .val (.ref aSHORT)] [(.ref h0.size)])
  refine own_go (fun _ k => XS.iloadN X10.here hx rfl (hb hby d2_15) rfl k) ?_
  show own_Goes _ _ _ _ _ _ _ T10 (mkF m 16 #[.val (.ref a1), .val (.ref h0.size), .val (.int (14 : Int32)), .val (.int (5 : Int32)), .val (.ref aSHORT)] [(.int (5 : Int32)), (.ref h0.size)])
  refine own_go (fun t k => X10.aaload hx (j := (5 : Int32)) (v := (.ref aUNSIGNED_SHORT)) (by rw [e10]; exact A1.1) (State.isArrayOf_alike hZ.alike A1.2.1) rfl A1.2.2 (by show ¬ (_ ∨ clV.slots.size ≤ _); rw [hsz]; decide) el_5 (g := (mkF m 16 #[.val (.ref a1), .val (.ref h0.size), .val (.int (14 : Int32)), .val (.int (5 : Int32)), .val (.ref aSHORT)] [(.int (5 : Int32)), (.ref h0.size)])) rfl rfl (hb hby d2_16) t k) ?_
  show own_Goes _ _ _ _ _ _ _ T10 (mkF m 17 #[.val (.ref a1), .val (.ref h0.size), .val (.int (14 : Int32)), .val (.int (5 : Int32)), .val (.ref aSHORT)] [(.ref aUNSIGNED_SHORT)])
  refine own_go (fun _ k => XS.astore X10.here hx rfl (hb hby d2_17) rfl rfl (l' := #[.val (.ref a1), .val (.ref h0.size), .val (.int (14 : Int32)), .val (.int (5 : Int32)), .val (.ref aUNSIGNED_SHORT)]) rfl k) ?_
  show own_Goes _ _ _ _ _ _ _ T10 (mkF m 19 #[.val (.ref a1), .val (.ref h0.size), .val (.int (14 : Int32)), .val (.int (5 : Int32)), .val (.ref aUNSIGNED_SHORT)] [])
  refine own_go (fun _ k => XS.aload X10.here hx rfl (hb hby d2_19) rfl rfl k) ?_
  show own_Goes _ _ _ _ _ _ _ T10 (mkF m 21 #[.val (.ref a1), .val (.ref h0.size), .val (.int (14 : Int32)), .val (.int (5 : Int32)), .val (.ref aUNSIGNED_SHORT)] [(.ref aUNSIGNED_SHORT)])
  obtain ⟨T11, X11, e11, st11⟩ := getF X10 hx hZ hown (host := "") (Or.inl (hw _ (List.mem_of_getElem? (i := 41) rfl))) Via.refl e10 (G_UNSIGNED_SHORT.ext Od1.2) (g := (mkF m 21 #[.val (.ref a1), .val (.ref h0.size), .val (.int (14 : Int32)), .val (.int (5 : Int32)), .val (.ref aUNSIGNED_SHORT)] [(.ref aUNSIGNED_SHORT)])) rfl rfl (hb hby d2_21)
  refine own_go st11 ?_
  show own_Goes _ _ _ _ _ _ _ T11 (mkF m 24 #[.val (.ref a1), .val (.ref h0.size), .val (.int (14 : Int32)), .val (.int (5 : Int32)), .val (.ref aUNSIGNED_SHORT)] [(.int (0 : Int32))])
  refine own_go (fun _ k => XS.ifNo X11.here hx rfl (hb hby d2_24) rfl ((if0 _ _).trans (teq (by decide : (0 : Int32) = (0 : Int32))).2) k) ?_
  show own_Goes _ _ _ _ _ _ _ T11 (mkF m 27 #[.val (.ref a1), .val (.ref h0.size), .val (.int (14 : Int32)), .val (.int (5 : Int32)), .val (.ref aUNSIGNED_SHORT)] [])
  refine own_go (fun _ k => XS.aload X11.here hx rfl (hb hby d2_27) rfl rfl k) ?_
  show own_Goes _ _ _ _ _ _ _ T11 (mkF m 29 #[.val (.ref a1), .val (.ref h0.size), .val (.int (14 : Int32)), .val (.int (5 : Int32)), .val (.ref aUNSIGNED_SHORT)] [(.ref aUNSIGNED_SHORT)])
  obtain ⟨T12, X12, e12, st12⟩ := getF X11 hx hZ hown (host := "") (Or.inl (hw _ (List.mem_of_getElem? (i := 43) rfl))) Via.refl e11 (R_UNSIGNED_SHORT.ext Od1.2) (g := (mkF m 29 #[.val (.ref a1), .val (.ref h0.size), .val (.int (14 : Int32)), .val (.int (5 : Int32)), .val (.ref aUNSIGNED_SHORT)] [(.ref aUNSIGNED_SHORT)])) rfl rfl (hb hby d2_29)
  refine own_go st12 ?_
  show own_Goes _ _ _ _ _ _ _ T12 (mkF m 32 #[.val (.ref a1), .val (.ref h0.size), .val (.int (14 : Int32)), .val (.int (5 : Int32)), .val (.ref aUNSIGNED_SHORT)] [(.int (2 : Int32))])
  refine own_go (fun _ k => XS.aloadN X12.here hx rfl (hb hby d2_32) rfl rfl k) ?_
  show own_Goes _ _ _ _ _ _ _ T12 (mkF m 33 #[.val (.ref a1), .val (.ref h0.size), .val (.int (14 : Int32)), .val (.int (5 : Int32)), .val (.ref aUNSIGNED_SHORT)] [(.ref a1), (.int (2 : Int32))])
  obtain ⟨T13, X13, e13, st13⟩ := getF X12 hx hZ hown (host := "") (Or.inl (hw _ (List.mem_of_getElem? (i := 43) rfl))) Via.refl e12 (R_a1.ext Od1.2) (g := (mkF m 33 #[.val (.ref a1), .val (.ref h0.size), .val (.int (14 : Int32)), .val (.int (5 : Int32)), .val (.ref aUNSIGNED_SHORT)] [(.ref a1), (.int (2 : Int32))])) rfl rfl (hb hby d2_33)
  refine own_go st13 ?_
  show own_Goes _ _ _ _ _ _ _ T13 (mkF m 36 #[.val (.ref a1), .val (.ref h0.size), .val (.int (14 : Int32)), .val (.int (5 : Int32)), .val (.ref aUNSIGNED_SHORT)] [(.int (2 : Int32)), (.int (2 : Int32))])
  refine own_go (fun _ k => XS.icmpNo X13.here hx rfl (hb hby d2_36) rfl (teq (by decide : (2 : Int32) = (2 : Int32))).2 k) ?_
  show own_Goes _ _ _ _ _ _ _ T13 (mkF m 39 #[.val (.ref a1), .val (.ref h0.size), .val (.int (14 : Int32)), .val (.int (5 : Int32)), .val (.ref aUNSIGNED_SHORT)] [])
  refine own_go (fun _ k => XS.aload X13.here hx rfl (hb hby d2_39) rfl rfl k) ?_
  show own_Goes _ _ _ _ _ _ _ T13 (mkF m 41 #[.val (.ref a1), .val (.ref h0.size), .val (.int (14 : Int32)), .val (.int (5 : Int32)), .val (.ref aUNSIGNED_SHORT)] [(.ref aUNSIGNED_SHORT)])
  exact own_retA X13 hx hlk hret rfl rfl (hb hby d2_41) (by decide) (by decide) (by rw [e13]; exact ⟨rfl, N1, E1⟩)
def Q_rmU3 (Z : State) (h0 : Heap) (n0 : Nat) (aUNSIGNED_INT : Addr) (v : Option Value) (h : Heap) (L : List Loc) : Prop := v = some (.ref aUNSIGNED_INT) ∧ Fr n0 L ∧ Ext h0 h
set_option maxRecDepth 65536 in
set_option maxHeartbeats 40000000 in
theorem rmU3 (l : Launch) (Z : State) (a0 : Array Value) (hw : ∀ d ∈ tables_1, d.before a0 Z = true) (ws : List Jvm.Cond) (a1 aV : Addr) (clV : Cell) (aBOOL aCHAR aSIGNED_CHAR aUNSIGNED_CHAR aSHORT aUNSIGNED_SHORT aINT aUNSIGNED_INT aLONG aUNSIGNED_LONG aLONG_LONG aUNSIGNED_LONG_LONG aINT128 aUNSIGNED_INT128 : Addr) (h0 : Heap) (n0 : Nat) (Z0 : n0 ≤ h0.size) (VV : own_VV Z aV clV aBOOL aCHAR aSIGNED_CHAR aUNSIGNED_CHAR aSHORT aUNSIGNED_SHORT aINT aUNSIGNED_INT aLONG aUNSIGNED_LONG aLONG_LONG aUNSIGNED_LONG_LONG aINT128 aUNSIGNED_INT128) (FF : own_FF Z aBOOL aCHAR aSIGNED_CHAR aUNSIGNED_CHAR aSHORT aUNSIGNED_SHORT aINT aUNSIGNED_INT aLONG aUNSIGNED_LONG aLONG_LONG aUNSIGNED_LONG_LONG aINT128 aUNSIGNED_INT128) (Od0 : Old Z n0 h0) (R_a1 : Fld Z Z.heap a1 "com/example/treellis/treellis/cfa/IntegerType" "rank" "I" (.int (3 : Int32))) :
    MetFree l (⟨"com/example/treellis/treellis/cfa/IntegerType", "toUnsigned", "()Lcom/example/treellis/treellis/cfa/IntegerType;"⟩ : MethodName) (head1 (Jvm.Cond.code (⟨"com/example/treellis/treellis/cfa/IntegerType", "toUnsigned", "()Lcom/example/treellis/treellis/cfa/IntegerType;"⟩ : MethodName) prog_44_method_6_code 5 (some (.object "com/example/treellis/treellis/cfa/IntegerType")) :: ws) ({ frames := 2, cells := 1, slots := 14, locals := 25 } : Room)) (fun a U => a = #[(.ref a1)] ∧ Z.Warmed39 U.vm ∧ U.heap = h0) (fun _ _ _ _ _ => True) (fun _ U o U' => ∃ rv rL, o = .returned rv ∧ Q_rmU3 Z h0 n0 aUNSIGNED_INT rv U'.heap rL ∧ FrameEnd U o U' rL ({ frames := 2, cells := 1, slots := 14, locals := 25 } : Room).cells ({ frames := 2, cells := 1, slots := 14, locals := 25 } : Room).slots) := by
  refine own_met (y := (⟨"com/example/treellis/treellis/cfa/IntegerType", "toUnsigned", "()Lcom/example/treellis/treellis/cfa/IntegerType;"⟩ : MethodName)) (Q := Q_rmU3 Z h0 n0 aUNSIGNED_INT) (own := "com/example/treellis/treellis/cfa/IntegerType") rfl pn_2 ?_
  intro p e s m below meth c s₁ C e0 X0
  obtain ⟨hx, hby, hml, hown, hnm, hret, hlk, hZ⟩ := C
  have N0 := Fr.nil n0
  rw [ef_2]
  obtain ⟨SV, AV, EV, FV, hsz, el_0, el_1, el_2, el_3, el_4, el_5, el_6, el_7, el_8, el_9, el_10, el_11, el_12, el_13⟩ := VV
  obtain ⟨⟨E_BOOL, R_BOOL, G_BOOL⟩, ⟨E_CHAR, R_CHAR, G_CHAR⟩, ⟨E_SIGNED_CHAR, R_SIGNED_CHAR, G_SIGNED_CHAR⟩, ⟨E_UNSIGNED_CHAR, R_UNSIGNED_CHAR, G_UNSIGNED_CHAR⟩, ⟨E_SHORT, R_SHORT, G_SHORT⟩, ⟨E_UNSIGNED_SHORT, R_UNSIGNED_SHORT, G_UNSIGNED_SHORT⟩, ⟨E_INT, R_INT, G_INT⟩, ⟨E_UNSIGNED_INT, R_UNSIGNED_INT, G_UNSIGNED_INT⟩, ⟨E_LONG, R_LONG, G_LONG⟩, ⟨E_UNSIGNED_LONG, R_UNSIGNED_LONG, G_UNSIGNED_LONG⟩, ⟨E_LONG_LONG, R_LONG_LONG, G_LONG_LONG⟩, ⟨E_UNSIGNED_LONG_LONG, R_UNSIGNED_LONG_LONG, G_UNSIGNED_LONG_LONG⟩, ⟨E_INT128, R_INT128, G_INT128⟩, ⟨E_UNSIGNED_INT128, R_UNSIGNED_INT128, G_UNSIGNED_INT128⟩⟩ := FF
  show own_Goes _ _ _ _ _ _ _ s₁ (mkF m 0 #[.val (.ref a1), .unset, .unset, .unset, .unset] [])
  obtain ⟨_, _, ⟨T1, L1, k1, n1⟩, -, X1, ⟨Lc1, hQ1, l1, y1, z1⟩, st1⟩ := Jvm.LawKit.callS X0 hx (y := (⟨"com/example/treellis/treellis/cfa/IntegerType", "values", "()[Lcom/example/treellis/treellis/cfa/IntegerType;"⟩ : MethodName)) hown (mvT hZ (hw _ (List.mem_of_getElem? (i := 13) rfl))) (mvT hZ (hw _ (List.mem_of_getElem? (i := 14) rfl))) (mvT hZ (hw _ (List.mem_of_getElem? (i := 6) rfl))) (mvT hZ (hw _ (List.mem_of_getElem? (i := 15) rfl))) (by decide) (backOf (W := 0) (rm3 l Z a0 hw [] aV clV aBOOL aCHAR aSIGNED_CHAR aUNSIGNED_CHAR aSHORT aUNSIGNED_SHORT aINT aUNSIGNED_INT aLONG aUNSIGNED_LONG aLONG_LONG aUNSIGNED_LONG_LONG aINT128 aUNSIGNED_INT128 h0 n0 Z0 ⟨SV, AV, EV, FV, hsz, el_0, el_1, el_2, el_3, el_4, el_5, el_6, el_7, el_8, el_9, el_10, el_11, el_12, el_13⟩ Od0) hZ (hw _ (List.mem_of_getElem? (i := 15) rfl)) (hw _ (List.mem_of_getElem? (i := 6) rfl)) (by decide) (by decide)) (g := (mkF m 0 #[.val (.ref a1), .unset, .unset, .unset, .unset] [])) rfl (by rw [hml]; rfl) (argsL := []) (rest := []) (lenOf pd_0 rfl) rfl (by show 2 * 0 + _ ≤ _; exact Nat.le_of_eq rfl) (hb hby d2_0) (fun _ _ => ⟨rfl, e0, (by decide : 0 + 1 ≤ _), (by decide : 0 + 14 ≤ _)⟩)
  dsimp only [Pt.U, Pt.locs, Pt.cells, Pt.slots] at X1 l1 y1 z1 st1 hQ1
  subst l1 y1 z1
  obtain ⟨rfl, N1q, E1, A1⟩ := hQ1
  have N1 := Fr.app N0 N1q
  refine own_go st1 ?_
  show own_Goes _ _ _ _ _ _ _ T1 (mkF m 3 #[.val (.ref a1), .unset, .unset, .unset, .unset] [(.ref h0.size)])
  have Od1 := Od0.ext E1
  refine own_go (fun _ k => XS.astoreN X1.here hx rfl (hb hby d2_3) rfl rfl (l' := #[.val (.ref a1), .val (.ref h0.size), .unset, .unset, .unset]) rfl k) ?_
  show own_Goes _ _ _ _ _ _ _ T1 (mkF m 4 #[.val (.ref a1), .val (.ref h0.size), .unset, .unset, .unset] [])
  refine own_go (fun _ k => XS.aloadN X1.here hx rfl (hb hby d2_4) rfl rfl k) ?_
  show own_Goes _ _ _ _ _ _ _ T1 (mkF m 5 #[.val (.ref a1), .val (.ref h0.size), .unset, .unset, .unset] [(.ref h0.size)])
  refine own_go (fun t k => X1.arraylength hx (by exact A1.1) (State.isArrayOf_alike hZ.alike A1.2.1) (g := (mkF m 5 #[.val (.ref a1), .val (.ref h0.size), .unset, .unset, .unset] [(.ref h0.size)])) rfl rfl (hb hby d2_5) t k) ?_
  rw [show (cloneOf clV).slots.size.toInt32 = (14 : Int32) from by show clV.slots.size.toInt32 = _; rw [hsz]; rfl]
  show own_Goes _ _ _ _ _ _ _ T1 (mkF m 6 #[.val (.ref a1), .val (.ref h0.size), .unset, .unset, .unset] [(.int (14 : Int32))])
  refine own_go (fun _ k => XS.istoreN X1.here hx rfl (hb hby d2_6) rfl (l' := #[.val (.ref a1), .val (.ref h0.size), .val (.int (14 : Int32)), .unset, .unset]) rfl k) ?_
  show own_Goes _ _ _ _ _ _ _ T1 (mkF m 7 #[.val (.ref a1), .val (.ref h0.size), .val (.int (14 : Int32)), .unset, .unset] [])
  refine own_go (fun _ k => XS.iconst X1.here hx rfl (hb hby d2_7) k) ?_
  show own_Goes _ _ _ _ _ _ _ T1 (mkF m 8 #[.val (.ref a1), .val (.ref h0.size), .val (.int (14 : Int32)), .unset, .unset] [(.int (0 : Int32))])
  refine own_go (fun _ k => XS.istoreN X1.here hx rfl (hb hby d2_8) rfl (l' := #[.val (.ref a1), .val (.ref h0.size), .val (.int (14 : Int32)), .val (.int (0 : Int32)), .unset]) rfl k) ?_
  show own_Goes _ _ _ _ _ _ _ T1 (mkF m 9 #[.val (.ref a1), .val (.ref h0.size), .val (.int (14 : Int32)), .val (.int (0 : Int32)), .unset] [])
  refine own_go (fun _ k => XS.iloadN X1.here hx rfl (hb hby d2_9) rfl k) ?_
  show own_Goes _ _ _ _ _ _ _ T1 (mkF m 10 #[.val (.ref a1), .val (.ref h0.size), .val (.int (14 : Int32)), .val (.int (0 : Int32)), .unset] [(.int (0 : Int32))])
  refine own_go (fun _ k => XS.iloadN X1.here hx rfl (hb hby d2_10) rfl k) ?_
  show own_Goes _ _ _ _ _ _ _ T1 (mkF m 11 #[.val (.ref a1), .val (.ref h0.size), .val (.int (14 : Int32)), .val (.int (0 : Int32)), .unset] [(.int (14 : Int32)), (.int (0 : Int32))])
  refine own_go (fun _ k => XS.icmpNo X1.here hx rfl (hb hby d2_11) rfl (tlt (by decide : (0 : Int32) < (14 : Int32))).2.1 k) ?_
  show own_Goes _ _ _ _ _ _ _ T1 (mkF m 14 #[.val (.ref a1), .val (.ref h0.size), .val (.int (14 : Int32)), .val (.int (0 : Int32)), .unset] [])
  refine own_go (fun _ k => XS.aloadN X1.here hx rfl (hb hby d2_14) rfl rfl k) ?_
  show own_Goes _ _ _ _ _ _ _ T1 (mkF m 15 #[.val (.ref a1), .val (.ref h0.size), .val (.int (14 : Int32)), .val (.int (0 : Int32)), .unset] [(.ref h0.size)])
  refine own_go (fun _ k => XS.iloadN X1.here hx rfl (hb hby d2_15) rfl k) ?_
  show own_Goes _ _ _ _ _ _ _ T1 (mkF m 16 #[.val (.ref a1), .val (.ref h0.size), .val (.int (14 : Int32)), .val (.int (0 : Int32)), .unset] [(.int (0 : Int32)), (.ref h0.size)])
  refine own_go (fun t k => X1.aaload hx (j := (0 : Int32)) (v := (.ref aBOOL)) (by rw [show _ = T1.heap from rfl]; exact A1.1) (State.isArrayOf_alike hZ.alike A1.2.1) rfl A1.2.2 (by show ¬ (_ ∨ clV.slots.size ≤ _); rw [hsz]; decide) el_0 (g := (mkF m 16 #[.val (.ref a1), .val (.ref h0.size), .val (.int (14 : Int32)), .val (.int (0 : Int32)), .unset] [(.int (0 : Int32)), (.ref h0.size)])) rfl rfl (hb hby d2_16) t k) ?_
  show own_Goes _ _ _ _ _ _ _ T1 (mkF m 17 #[.val (.ref a1), .val (.ref h0.size), .val (.int (14 : Int32)), .val (.int (0 : Int32)), .unset] [(.ref aBOOL)])
  refine own_go (fun _ k => XS.astore X1.here hx rfl (hb hby d2_17) rfl rfl (l' := #[.val (.ref a1), .val (.ref h0.size), .val (.int (14 : Int32)), .val (.int (0 : Int32)), .val (.ref aBOOL)]) rfl k) ?_
  show own_Goes _ _ _ _ _ _ _ T1 (mkF m 19 #[.val (.ref a1), .val (.ref h0.size), .val (.int (14 : Int32)), .val (.int (0 : Int32)), .val (.ref aBOOL)] [])
  refine own_go (fun _ k => XS.aload X1.here hx rfl (hb hby d2_19) rfl rfl k) ?_
  show own_Goes _ _ _ _ _ _ _ T1 (mkF m 21 #[.val (.ref a1), .val (.ref h0.size), .val (.int (14 : Int32)), .val (.int (0 : Int32)), .val (.ref aBOOL)] [(.ref aBOOL)])
  obtain ⟨T2, X2, e2, st2⟩ := getF X1 hx hZ hown (host := "") (Or.inl (hw _ (List.mem_of_getElem? (i := 41) rfl))) Via.refl rfl (G_BOOL.ext Od1.2) (g := (mkF m 21 #[.val (.ref a1), .val (.ref h0.size), .val (.int (14 : Int32)), .val (.int (0 : Int32)), .val (.ref aBOOL)] [(.ref aBOOL)])) rfl rfl (hb hby d2_21)
  refine own_go st2 ?_
  show own_Goes _ _ _ _ _ _ _ T2 (mkF m 24 #[.val (.ref a1), .val (.ref h0.size), .val (.int (14 : Int32)), .val (.int (0 : Int32)), .val (.ref aBOOL)] [(.int (0 : Int32))])
  refine own_go (fun _ k => XS.ifNo X2.here hx rfl (hb hby d2_24) rfl ((if0 _ _).trans (teq (by decide : (0 : Int32) = (0 : Int32))).2) k) ?_
  show own_Goes _ _ _ _ _ _ _ T2 (mkF m 27 #[.val (.ref a1), .val (.ref h0.size), .val (.int (14 : Int32)), .val (.int (0 : Int32)), .val (.ref aBOOL)] [])
  refine own_go (fun _ k => XS.aload X2.here hx rfl (hb hby d2_27) rfl rfl k) ?_
  show own_Goes _ _ _ _ _ _ _ T2 (mkF m 29 #[.val (.ref a1), .val (.ref h0.size), .val (.int (14 : Int32)), .val (.int (0 : Int32)), .val (.ref aBOOL)] [(.ref aBOOL)])
  obtain ⟨T3, X3, e3, st3⟩ := getF X2 hx hZ hown (host := "") (Or.inl (hw _ (List.mem_of_getElem? (i := 43) rfl))) Via.refl e2 (R_BOOL.ext Od1.2) (g := (mkF m 29 #[.val (.ref a1), .val (.ref h0.size), .val (.int (14 : Int32)), .val (.int (0 : Int32)), .val (.ref aBOOL)] [(.ref aBOOL)])) rfl rfl (hb hby d2_29)
  refine own_go st3 ?_
  show own_Goes _ _ _ _ _ _ _ T3 (mkF m 32 #[.val (.ref a1), .val (.ref h0.size), .val (.int (14 : Int32)), .val (.int (0 : Int32)), .val (.ref aBOOL)] [(.int (0 : Int32))])
  refine own_go (fun _ k => XS.aloadN X3.here hx rfl (hb hby d2_32) rfl rfl k) ?_
  show own_Goes _ _ _ _ _ _ _ T3 (mkF m 33 #[.val (.ref a1), .val (.ref h0.size), .val (.int (14 : Int32)), .val (.int (0 : Int32)), .val (.ref aBOOL)] [(.ref a1), (.int (0 : Int32))])
  obtain ⟨T4, X4, e4, st4⟩ := getF X3 hx hZ hown (host := "") (Or.inl (hw _ (List.mem_of_getElem? (i := 43) rfl))) Via.refl e3 (R_a1.ext Od1.2) (g := (mkF m 33 #[.val (.ref a1), .val (.ref h0.size), .val (.int (14 : Int32)), .val (.int (0 : Int32)), .val (.ref aBOOL)] [(.ref a1), (.int (0 : Int32))])) rfl rfl (hb hby d2_33)
  refine own_go st4 ?_
  show own_Goes _ _ _ _ _ _ _ T4 (mkF m 36 #[.val (.ref a1), .val (.ref h0.size), .val (.int (14 : Int32)), .val (.int (0 : Int32)), .val (.ref aBOOL)] [(.int (3 : Int32)), (.int (0 : Int32))])
  refine own_go (fun _ k => XS.icmpYes X4.here hx rfl (pc0 := 36) (pc' := 42) rfl (hb hby d2_36) rfl (feq (by decide : ¬ ((0 : Int32) = (3 : Int32)))).2 (by decide) (by decide) k) ?_
  show own_Goes _ _ _ _ _ _ _ T4 (mkF m 42 #[.val (.ref a1), .val (.ref h0.size), .val (.int (14 : Int32)), .val (.int (0 : Int32)), .val (.ref aBOOL)] [])
  refine own_go (fun _ k => XS.iinc X4.here hx rfl (hb hby d2_42) rfl (l' := #[.val (.ref a1), .val (.ref h0.size), .val (.int (14 : Int32)), .val (.int (1 : Int32)), .val (.ref aBOOL)]) rfl k) ?_
  show own_Goes _ _ _ _ _ _ _ T4 (mkF m 45 #[.val (.ref a1), .val (.ref h0.size), .val (.int (14 : Int32)), .val (.int (1 : Int32)), .val (.ref aBOOL)] [])
  refine own_go (fun _ k => XS.goto X4.here hx rfl (pc0 := 45) (pc' := 9) rfl (hb hby d2_45) (by decide) (by decide) k) ?_
  show own_Goes _ _ _ _ _ _ _ T4 (mkF m 9 #[.val (.ref a1), .val (.ref h0.size), .val (.int (14 : Int32)), .val (.int (1 : Int32)), .val (.ref aBOOL)] [])
  refine own_go (fun _ k => XS.iloadN X4.here hx rfl (hb hby d2_9) rfl k) ?_
  show own_Goes _ _ _ _ _ _ _ T4 (mkF m 10 #[.val (.ref a1), .val (.ref h0.size), .val (.int (14 : Int32)), .val (.int (1 : Int32)), .val (.ref aBOOL)] [(.int (1 : Int32))])
  refine own_go (fun _ k => XS.iloadN X4.here hx rfl (hb hby d2_10) rfl k) ?_
  show own_Goes _ _ _ _ _ _ _ T4 (mkF m 11 #[.val (.ref a1), .val (.ref h0.size), .val (.int (14 : Int32)), .val (.int (1 : Int32)), .val (.ref aBOOL)] [(.int (14 : Int32)), (.int (1 : Int32))])
  refine own_go (fun _ k => XS.icmpNo X4.here hx rfl (hb hby d2_11) rfl (tlt (by decide : (1 : Int32) < (14 : Int32))).2.1 k) ?_
  show own_Goes _ _ _ _ _ _ _ T4 (mkF m 14 #[.val (.ref a1), .val (.ref h0.size), .val (.int (14 : Int32)), .val (.int (1 : Int32)), .val (.ref aBOOL)] [])
  refine own_go (fun _ k => XS.aloadN X4.here hx rfl (hb hby d2_14) rfl rfl k) ?_
  show own_Goes _ _ _ _ _ _ _ T4 (mkF m 15 #[.val (.ref a1), .val (.ref h0.size), .val (.int (14 : Int32)), .val (.int (1 : Int32)), .val (.ref aBOOL)] [(.ref h0.size)])
  refine own_go (fun _ k => XS.iloadN X4.here hx rfl (hb hby d2_15) rfl k) ?_
  show own_Goes _ _ _ _ _ _ _ T4 (mkF m 16 #[.val (.ref a1), .val (.ref h0.size), .val (.int (14 : Int32)), .val (.int (1 : Int32)), .val (.ref aBOOL)] [(.int (1 : Int32)), (.ref h0.size)])
  refine own_go (fun t k => X4.aaload hx (j := (1 : Int32)) (v := (.ref aCHAR)) (by rw [e4]; exact A1.1) (State.isArrayOf_alike hZ.alike A1.2.1) rfl A1.2.2 (by show ¬ (_ ∨ clV.slots.size ≤ _); rw [hsz]; decide) el_1 (g := (mkF m 16 #[.val (.ref a1), .val (.ref h0.size), .val (.int (14 : Int32)), .val (.int (1 : Int32)), .val (.ref aBOOL)] [(.int (1 : Int32)), (.ref h0.size)])) rfl rfl (hb hby d2_16) t k) ?_
  show own_Goes _ _ _ _ _ _ _ T4 (mkF m 17 #[.val (.ref a1), .val (.ref h0.size), .val (.int (14 : Int32)), .val (.int (1 : Int32)), .val (.ref aBOOL)] [(.ref aCHAR)])
  refine own_go (fun _ k => XS.astore X4.here hx rfl (hb hby d2_17) rfl rfl (l' := #[.val (.ref a1), .val (.ref h0.size), .val (.int (14 : Int32)), .val (.int (1 : Int32)), .val (.ref aCHAR)]) rfl k) ?_
  show own_Goes _ _ _ _ _ _ _ T4 (mkF m 19 #[.val (.ref a1), .val (.ref h0.size), .val (.int (14 : Int32)), .val (.int (1 : Int32)), .val (.ref aCHAR)] [])
  refine own_go (fun _ k => XS.aload X4.here hx rfl (hb hby d2_19) rfl rfl k) ?_
  show own_Goes _ _ _ _ _ _ _ T4 (mkF m 21 #[.val (.ref a1), .val (.ref h0.size), .val (.int (14 : Int32)), .val (.int (1 : Int32)), .val (.ref aCHAR)] [(.ref aCHAR)])
  obtain ⟨T5, X5, e5, st5⟩ := getF X4 hx hZ hown (host := "") (Or.inl (hw _ (List.mem_of_getElem? (i := 41) rfl))) Via.refl e4 (G_CHAR.ext Od1.2) (g := (mkF m 21 #[.val (.ref a1), .val (.ref h0.size), .val (.int (14 : Int32)), .val (.int (1 : Int32)), .val (.ref aCHAR)] [(.ref aCHAR)])) rfl rfl (hb hby d2_21)
  refine own_go st5 ?_
  show own_Goes _ _ _ _ _ _ _ T5 (mkF m 24 #[.val (.ref a1), .val (.ref h0.size), .val (.int (14 : Int32)), .val (.int (1 : Int32)), .val (.ref aCHAR)] [(.int (1 : Int32))])
  refine own_go (fun _ k => XS.ifYes X5.here hx rfl (pc0 := 24) (pc' := 42) rfl (hb hby d2_24) rfl ((if0 _ _).trans (feq (by decide : ¬ ((1 : Int32) = (0 : Int32)))).2) (by decide) (by decide) k) ?_
  show own_Goes _ _ _ _ _ _ _ T5 (mkF m 42 #[.val (.ref a1), .val (.ref h0.size), .val (.int (14 : Int32)), .val (.int (1 : Int32)), .val (.ref aCHAR)] [])
  refine own_go (fun _ k => XS.iinc X5.here hx rfl (hb hby d2_42) rfl (l' := #[.val (.ref a1), .val (.ref h0.size), .val (.int (14 : Int32)), .val (.int (2 : Int32)), .val (.ref aCHAR)]) rfl k) ?_
  show own_Goes _ _ _ _ _ _ _ T5 (mkF m 45 #[.val (.ref a1), .val (.ref h0.size), .val (.int (14 : Int32)), .val (.int (2 : Int32)), .val (.ref aCHAR)] [])
  refine own_go (fun _ k => XS.goto X5.here hx rfl (pc0 := 45) (pc' := 9) rfl (hb hby d2_45) (by decide) (by decide) k) ?_
  show own_Goes _ _ _ _ _ _ _ T5 (mkF m 9 #[.val (.ref a1), .val (.ref h0.size), .val (.int (14 : Int32)), .val (.int (2 : Int32)), .val (.ref aCHAR)] [])
  refine own_go (fun _ k => XS.iloadN X5.here hx rfl (hb hby d2_9) rfl k) ?_
  show own_Goes _ _ _ _ _ _ _ T5 (mkF m 10 #[.val (.ref a1), .val (.ref h0.size), .val (.int (14 : Int32)), .val (.int (2 : Int32)), .val (.ref aCHAR)] [(.int (2 : Int32))])
  refine own_go (fun _ k => XS.iloadN X5.here hx rfl (hb hby d2_10) rfl k) ?_
  show own_Goes _ _ _ _ _ _ _ T5 (mkF m 11 #[.val (.ref a1), .val (.ref h0.size), .val (.int (14 : Int32)), .val (.int (2 : Int32)), .val (.ref aCHAR)] [(.int (14 : Int32)), (.int (2 : Int32))])
  refine own_go (fun _ k => XS.icmpNo X5.here hx rfl (hb hby d2_11) rfl (tlt (by decide : (2 : Int32) < (14 : Int32))).2.1 k) ?_
  show own_Goes _ _ _ _ _ _ _ T5 (mkF m 14 #[.val (.ref a1), .val (.ref h0.size), .val (.int (14 : Int32)), .val (.int (2 : Int32)), .val (.ref aCHAR)] [])
  refine own_go (fun _ k => XS.aloadN X5.here hx rfl (hb hby d2_14) rfl rfl k) ?_
  show own_Goes _ _ _ _ _ _ _ T5 (mkF m 15 #[.val (.ref a1), .val (.ref h0.size), .val (.int (14 : Int32)), .val (.int (2 : Int32)), .val (.ref aCHAR)] [(.ref h0.size)])
  refine own_go (fun _ k => XS.iloadN X5.here hx rfl (hb hby d2_15) rfl k) ?_
  show own_Goes _ _ _ _ _ _ _ T5 (mkF m 16 #[.val (.ref a1), .val (.ref h0.size), .val (.int (14 : Int32)), .val (.int (2 : Int32)), .val (.ref aCHAR)] [(.int (2 : Int32)), (.ref h0.size)])
  refine own_go (fun t k => X5.aaload hx (j := (2 : Int32)) (v := (.ref aSIGNED_CHAR)) (by rw [e5]; exact A1.1) (State.isArrayOf_alike hZ.alike A1.2.1) rfl A1.2.2 (by show ¬ (_ ∨ clV.slots.size ≤ _); rw [hsz]; decide) el_2 (g := (mkF m 16 #[.val (.ref a1), .val (.ref h0.size), .val (.int (14 : Int32)), .val (.int (2 : Int32)), .val (.ref aCHAR)] [(.int (2 : Int32)), (.ref h0.size)])) rfl rfl (hb hby d2_16) t k) ?_
  show own_Goes _ _ _ _ _ _ _ T5 (mkF m 17 #[.val (.ref a1), .val (.ref h0.size), .val (.int (14 : Int32)), .val (.int (2 : Int32)), .val (.ref aCHAR)] [(.ref aSIGNED_CHAR)])
  refine own_go (fun _ k => XS.astore X5.here hx rfl (hb hby d2_17) rfl rfl (l' := #[.val (.ref a1), .val (.ref h0.size), .val (.int (14 : Int32)), .val (.int (2 : Int32)), .val (.ref aSIGNED_CHAR)]) rfl k) ?_
  show own_Goes _ _ _ _ _ _ _ T5 (mkF m 19 #[.val (.ref a1), .val (.ref h0.size), .val (.int (14 : Int32)), .val (.int (2 : Int32)), .val (.ref aSIGNED_CHAR)] [])
  refine own_go (fun _ k => XS.aload X5.here hx rfl (hb hby d2_19) rfl rfl k) ?_
  show own_Goes _ _ _ _ _ _ _ T5 (mkF m 21 #[.val (.ref a1), .val (.ref h0.size), .val (.int (14 : Int32)), .val (.int (2 : Int32)), .val (.ref aSIGNED_CHAR)] [(.ref aSIGNED_CHAR)])
  obtain ⟨T6, X6, e6, st6⟩ := getF X5 hx hZ hown (host := "") (Or.inl (hw _ (List.mem_of_getElem? (i := 41) rfl))) Via.refl e5 (G_SIGNED_CHAR.ext Od1.2) (g := (mkF m 21 #[.val (.ref a1), .val (.ref h0.size), .val (.int (14 : Int32)), .val (.int (2 : Int32)), .val (.ref aSIGNED_CHAR)] [(.ref aSIGNED_CHAR)])) rfl rfl (hb hby d2_21)
  refine own_go st6 ?_
  show own_Goes _ _ _ _ _ _ _ T6 (mkF m 24 #[.val (.ref a1), .val (.ref h0.size), .val (.int (14 : Int32)), .val (.int (2 : Int32)), .val (.ref aSIGNED_CHAR)] [(.int (1 : Int32))])
  refine own_go (fun _ k => XS.ifYes X6.here hx rfl (pc0 := 24) (pc' := 42) rfl (hb hby d2_24) rfl ((if0 _ _).trans (feq (by decide : ¬ ((1 : Int32) = (0 : Int32)))).2) (by decide) (by decide) k) ?_
  show own_Goes _ _ _ _ _ _ _ T6 (mkF m 42 #[.val (.ref a1), .val (.ref h0.size), .val (.int (14 : Int32)), .val (.int (2 : Int32)), .val (.ref aSIGNED_CHAR)] [])
  refine own_go (fun _ k => XS.iinc X6.here hx rfl (hb hby d2_42) rfl (l' := #[.val (.ref a1), .val (.ref h0.size), .val (.int (14 : Int32)), .val (.int (3 : Int32)), .val (.ref aSIGNED_CHAR)]) rfl k) ?_
  show own_Goes _ _ _ _ _ _ _ T6 (mkF m 45 #[.val (.ref a1), .val (.ref h0.size), .val (.int (14 : Int32)), .val (.int (3 : Int32)), .val (.ref aSIGNED_CHAR)] [])
  refine own_go (fun _ k => XS.goto X6.here hx rfl (pc0 := 45) (pc' := 9) rfl (hb hby d2_45) (by decide) (by decide) k) ?_
  show own_Goes _ _ _ _ _ _ _ T6 (mkF m 9 #[.val (.ref a1), .val (.ref h0.size), .val (.int (14 : Int32)), .val (.int (3 : Int32)), .val (.ref aSIGNED_CHAR)] [])
  refine own_go (fun _ k => XS.iloadN X6.here hx rfl (hb hby d2_9) rfl k) ?_
  show own_Goes _ _ _ _ _ _ _ T6 (mkF m 10 #[.val (.ref a1), .val (.ref h0.size), .val (.int (14 : Int32)), .val (.int (3 : Int32)), .val (.ref aSIGNED_CHAR)] [(.int (3 : Int32))])
  refine own_go (fun _ k => XS.iloadN X6.here hx rfl (hb hby d2_10) rfl k) ?_
  show own_Goes _ _ _ _ _ _ _ T6 (mkF m 11 #[.val (.ref a1), .val (.ref h0.size), .val (.int (14 : Int32)), .val (.int (3 : Int32)), .val (.ref aSIGNED_CHAR)] [(.int (14 : Int32)), (.int (3 : Int32))])
  refine own_go (fun _ k => XS.icmpNo X6.here hx rfl (hb hby d2_11) rfl (tlt (by decide : (3 : Int32) < (14 : Int32))).2.1 k) ?_
  show own_Goes _ _ _ _ _ _ _ T6 (mkF m 14 #[.val (.ref a1), .val (.ref h0.size), .val (.int (14 : Int32)), .val (.int (3 : Int32)), .val (.ref aSIGNED_CHAR)] [])
  refine own_go (fun _ k => XS.aloadN X6.here hx rfl (hb hby d2_14) rfl rfl k) ?_
  show own_Goes _ _ _ _ _ _ _ T6 (mkF m 15 #[.val (.ref a1), .val (.ref h0.size), .val (.int (14 : Int32)), .val (.int (3 : Int32)), .val (.ref aSIGNED_CHAR)] [(.ref h0.size)])
  refine own_go (fun _ k => XS.iloadN X6.here hx rfl (hb hby d2_15) rfl k) ?_
  show own_Goes _ _ _ _ _ _ _ T6 (mkF m 16 #[.val (.ref a1), .val (.ref h0.size), .val (.int (14 : Int32)), .val (.int (3 : Int32)), .val (.ref aSIGNED_CHAR)] [(.int (3 : Int32)), (.ref h0.size)])
  refine own_go (fun t k => X6.aaload hx (j := (3 : Int32)) (v := (.ref aUNSIGNED_CHAR)) (by rw [e6]; exact A1.1) (State.isArrayOf_alike hZ.alike A1.2.1) rfl A1.2.2 (by show ¬ (_ ∨ clV.slots.size ≤ _); rw [hsz]; decide) el_3 (g := (mkF m 16 #[.val (.ref a1), .val (.ref h0.size), .val (.int (14 : Int32)), .val (.int (3 : Int32)), .val (.ref aSIGNED_CHAR)] [(.int (3 : Int32)), (.ref h0.size)])) rfl rfl (hb hby d2_16) t k) ?_
  show own_Goes _ _ _ _ _ _ _ T6 (mkF m 17 #[.val (.ref a1), .val (.ref h0.size), .val (.int (14 : Int32)), .val (.int (3 : Int32)), .val (.ref aSIGNED_CHAR)] [(.ref aUNSIGNED_CHAR)])
  refine own_go (fun _ k => XS.astore X6.here hx rfl (hb hby d2_17) rfl rfl (l' := #[.val (.ref a1), .val (.ref h0.size), .val (.int (14 : Int32)), .val (.int (3 : Int32)), .val (.ref aUNSIGNED_CHAR)]) rfl k) ?_
  show own_Goes _ _ _ _ _ _ _ T6 (mkF m 19 #[.val (.ref a1), .val (.ref h0.size), .val (.int (14 : Int32)), .val (.int (3 : Int32)), .val (.ref aUNSIGNED_CHAR)] [])
  refine own_go (fun _ k => XS.aload X6.here hx rfl (hb hby d2_19) rfl rfl k) ?_
  show own_Goes _ _ _ _ _ _ _ T6 (mkF m 21 #[.val (.ref a1), .val (.ref h0.size), .val (.int (14 : Int32)), .val (.int (3 : Int32)), .val (.ref aUNSIGNED_CHAR)] [(.ref aUNSIGNED_CHAR)])
  obtain ⟨T7, X7, e7, st7⟩ := getF X6 hx hZ hown (host := "") (Or.inl (hw _ (List.mem_of_getElem? (i := 41) rfl))) Via.refl e6 (G_UNSIGNED_CHAR.ext Od1.2) (g := (mkF m 21 #[.val (.ref a1), .val (.ref h0.size), .val (.int (14 : Int32)), .val (.int (3 : Int32)), .val (.ref aUNSIGNED_CHAR)] [(.ref aUNSIGNED_CHAR)])) rfl rfl (hb hby d2_21)
  refine own_go st7 ?_
  show own_Goes _ _ _ _ _ _ _ T7 (mkF m 24 #[.val (.ref a1), .val (.ref h0.size), .val (.int (14 : Int32)), .val (.int (3 : Int32)), .val (.ref aUNSIGNED_CHAR)] [(.int (0 : Int32))])
  refine own_go (fun _ k => XS.ifNo X7.here hx rfl (hb hby d2_24) rfl ((if0 _ _).trans (teq (by decide : (0 : Int32) = (0 : Int32))).2) k) ?_
  show own_Goes _ _ _ _ _ _ _ T7 (mkF m 27 #[.val (.ref a1), .val (.ref h0.size), .val (.int (14 : Int32)), .val (.int (3 : Int32)), .val (.ref aUNSIGNED_CHAR)] [])
  refine own_go (fun _ k => XS.aload X7.here hx rfl (hb hby d2_27) rfl rfl k) ?_
  show own_Goes _ _ _ _ _ _ _ T7 (mkF m 29 #[.val (.ref a1), .val (.ref h0.size), .val (.int (14 : Int32)), .val (.int (3 : Int32)), .val (.ref aUNSIGNED_CHAR)] [(.ref aUNSIGNED_CHAR)])
  obtain ⟨T8, X8, e8, st8⟩ := getF X7 hx hZ hown (host := "") (Or.inl (hw _ (List.mem_of_getElem? (i := 43) rfl))) Via.refl e7 (R_UNSIGNED_CHAR.ext Od1.2) (g := (mkF m 29 #[.val (.ref a1), .val (.ref h0.size), .val (.int (14 : Int32)), .val (.int (3 : Int32)), .val (.ref aUNSIGNED_CHAR)] [(.ref aUNSIGNED_CHAR)])) rfl rfl (hb hby d2_29)
  refine own_go st8 ?_
  show own_Goes _ _ _ _ _ _ _ T8 (mkF m 32 #[.val (.ref a1), .val (.ref h0.size), .val (.int (14 : Int32)), .val (.int (3 : Int32)), .val (.ref aUNSIGNED_CHAR)] [(.int (1 : Int32))])
  refine own_go (fun _ k => XS.aloadN X8.here hx rfl (hb hby d2_32) rfl rfl k) ?_
  show own_Goes _ _ _ _ _ _ _ T8 (mkF m 33 #[.val (.ref a1), .val (.ref h0.size), .val (.int (14 : Int32)), .val (.int (3 : Int32)), .val (.ref aUNSIGNED_CHAR)] [(.ref a1), (.int (1 : Int32))])
  obtain ⟨T9, X9, e9, st9⟩ := getF X8 hx hZ hown (host := "") (Or.inl (hw _ (List.mem_of_getElem? (i := 43) rfl))) Via.refl e8 (R_a1.ext Od1.2) (g := (mkF m 33 #[.val (.ref a1), .val (.ref h0.size), .val (.int (14 : Int32)), .val (.int (3 : Int32)), .val (.ref aUNSIGNED_CHAR)] [(.ref a1), (.int (1 : Int32))])) rfl rfl (hb hby d2_33)
  refine own_go st9 ?_
  show own_Goes _ _ _ _ _ _ _ T9 (mkF m 36 #[.val (.ref a1), .val (.ref h0.size), .val (.int (14 : Int32)), .val (.int (3 : Int32)), .val (.ref aUNSIGNED_CHAR)] [(.int (3 : Int32)), (.int (1 : Int32))])
  refine own_go (fun _ k => XS.icmpYes X9.here hx rfl (pc0 := 36) (pc' := 42) rfl (hb hby d2_36) rfl (feq (by decide : ¬ ((1 : Int32) = (3 : Int32)))).2 (by decide) (by decide) k) ?_
  show own_Goes _ _ _ _ _ _ _ T9 (mkF m 42 #[.val (.ref a1), .val (.ref h0.size), .val (.int (14 : Int32)), .val (.int (3 : Int32)), .val (.ref aUNSIGNED_CHAR)] [])
  refine own_go (fun _ k => XS.iinc X9.here hx rfl (hb hby d2_42) rfl (l' := #[.val (.ref a1), .val (.ref h0.size), .val (.int (14 : Int32)), .val (.int (4 : Int32)), .val (.ref aUNSIGNED_CHAR)]) rfl k) ?_
  show own_Goes _ _ _ _ _ _ _ T9 (mkF m 45 #[.val (.ref a1), .val (.ref h0.size), .val (.int (14 : Int32)), .val (.int (4 : Int32)), .val (.ref aUNSIGNED_CHAR)] [])
  refine own_go (fun _ k => XS.goto X9.here hx rfl (pc0 := 45) (pc' := 9) rfl (hb hby d2_45) (by decide) (by decide) k) ?_
  show own_Goes _ _ _ _ _ _ _ T9 (mkF m 9 #[.val (.ref a1), .val (.ref h0.size), .val (.int (14 : Int32)), .val (.int (4 : Int32)), .val (.ref aUNSIGNED_CHAR)] [])
  refine own_go (fun _ k => XS.iloadN X9.here hx rfl (hb hby d2_9) rfl k) ?_
  show own_Goes _ _ _ _ _ _ _ T9 (mkF m 10 #[.val (.ref a1), .val (.ref h0.size), .val (.int (14 : Int32)), .val (.int (4 : Int32)), .val (.ref aUNSIGNED_CHAR)] [(.int (4 : Int32))])
  refine own_go (fun _ k => XS.iloadN X9.here hx rfl (hb hby d2_10) rfl k) ?_
  show own_Goes _ _ _ _ _ _ _ T9 (mkF m 11 #[.val (.ref a1), .val (.ref h0.size), .val (.int (14 : Int32)), .val (.int (4 : Int32)), .val (.ref aUNSIGNED_CHAR)] [(.int (14 : Int32)), (.int (4 : Int32))])
  refine own_go (fun _ k => XS.icmpNo X9.here hx rfl (hb hby d2_11) rfl (tlt (by decide : (4 : Int32) < (14 : Int32))).2.1 k) ?_
  show own_Goes _ _ _ _ _ _ _ T9 (mkF m 14 #[.val (.ref a1), .val (.ref h0.size), .val (.int (14 : Int32)), .val (.int (4 : Int32)), .val (.ref aUNSIGNED_CHAR)] [])
  refine own_go (fun _ k => XS.aloadN X9.here hx rfl (hb hby d2_14) rfl rfl k) ?_
  show own_Goes _ _ _ _ _ _ _ T9 (mkF m 15 #[.val (.ref a1), .val (.ref h0.size), .val (.int (14 : Int32)), .val (.int (4 : Int32)), .val (.ref aUNSIGNED_CHAR)] [(.ref h0.size)])
  refine own_go (fun _ k => XS.iloadN X9.here hx rfl (hb hby d2_15) rfl k) ?_
  show own_Goes _ _ _ _ _ _ _ T9 (mkF m 16 #[.val (.ref a1), .val (.ref h0.size), .val (.int (14 : Int32)), .val (.int (4 : Int32)), .val (.ref aUNSIGNED_CHAR)] [(.int (4 : Int32)), (.ref h0.size)])
  refine own_go (fun t k => X9.aaload hx (j := (4 : Int32)) (v := (.ref aSHORT)) (by rw [e9]; exact A1.1) (State.isArrayOf_alike hZ.alike A1.2.1) rfl A1.2.2 (by show ¬ (_ ∨ clV.slots.size ≤ _); rw [hsz]; decide) el_4 (g := (mkF m 16 #[.val (.ref a1), .val (.ref h0.size), .val (.int (14 : Int32)), .val (.int (4 : Int32)), .val (.ref aUNSIGNED_CHAR)] [(.int (4 : Int32)), (.ref h0.size)])) rfl rfl (hb hby d2_16) t k) ?_
  show own_Goes _ _ _ _ _ _ _ T9 (mkF m 17 #[.val (.ref a1), .val (.ref h0.size), .val (.int (14 : Int32)), .val (.int (4 : Int32)), .val (.ref aUNSIGNED_CHAR)] [(.ref aSHORT)])
  refine own_go (fun _ k => XS.astore X9.here hx rfl (hb hby d2_17) rfl rfl (l' := #[.val (.ref a1), .val (.ref h0.size), .val (.int (14 : Int32)), .val (.int (4 : Int32)), .val (.ref aSHORT)]) rfl k) ?_
  show own_Goes _ _ _ _ _ _ _ T9 (mkF m 19 #[.val (.ref a1), .val (.ref h0.size), .val (.int (14 : Int32)), .val (.int (4 : Int32)), .val (.ref aSHORT)] [])
  refine own_go (fun _ k => XS.aload X9.here hx rfl (hb hby d2_19) rfl rfl k) ?_
  show own_Goes _ _ _ _ _ _ _ T9 (mkF m 21 #[.val (.ref a1), .val (.ref h0.size), .val (.int (14 : Int32)), .val (.int (4 : Int32)), .val (.ref aSHORT)] [(.ref aSHORT)])
  obtain ⟨T10, X10, e10, st10⟩ := getF X9 hx hZ hown (host := "") (Or.inl (hw _ (List.mem_of_getElem? (i := 41) rfl))) Via.refl e9 (G_SHORT.ext Od1.2) (g := (mkF m 21 #[.val (.ref a1), .val (.ref h0.size), .val (.int (14 : Int32)), .val (.int (4 : Int32)), .val (.ref aSHORT)] [(.ref aSHORT)])) rfl rfl (hb hby d2_21)
  refine own_go st10 ?_
  show own_Goes _ _ _ _ _ _ _ T10 (mkF m 24 #[.val (.ref a1), .val (.ref h0.size), .val (.int (14 : Int32)), .val (.int (4 : Int32)), .val (.ref aSHORT)] [(.int (1 : Int32))])
  refine own_go (fun _ k => XS.ifYes X10.here hx rfl (pc0 := 24) (pc' := 42) rfl (hb hby d2_24) rfl ((if0 _ _).trans (feq (by decide : ¬ ((1 : Int32) = (0 : Int32)))).2) (by decide) (by decide) k) ?_
  show own_Goes _ _ _ _ _ _ _ T10 (mkF m 42 #[.val (.ref a1), .val (.ref h0.size), .val (.int (14 : Int32)), .val (.int (4 : Int32)), .val (.ref aSHORT)] [])
  refine own_go (fun _ k => XS.iinc X10.here hx rfl (hb hby d2_42) rfl (l' := #[.val (.ref a1), .val (.ref h0.size), .val (.int (14 : Int32)), .val (.int (5 : Int32)), .val (.ref aSHORT)]) rfl k) ?_
  show own_Goes _ _ _ _ _ _ _ T10 (mkF m 45 #[.val (.ref a1), .val (.ref h0.size), .val (.int (14 : Int32)), .val (.int (5 : Int32)), .val (.ref aSHORT)] [])
  refine own_go (fun _ k => XS.goto X10.here hx rfl (pc0 := 45) (pc' := 9) rfl (hb hby d2_45) (by decide) (by decide) k) ?_
  show own_Goes _ _ _ _ _ _ _ T10 (mkF m 9 #[.val (.ref a1), .val (.ref h0.size), .val (.int (14 : Int32)), .val (.int (5 : Int32)), .val (.ref aSHORT)] [])
  refine own_go (fun _ k => XS.iloadN X10.here hx rfl (hb hby d2_9) rfl k) ?_
  show own_Goes _ _ _ _ _ _ _ T10 (mkF m 10 #[.val (.ref a1), .val (.ref h0.size), .val (.int (14 : Int32)), .val (.int (5 : Int32)), .val (.ref aSHORT)] [(.int (5 : Int32))])
  refine own_go (fun _ k => XS.iloadN X10.here hx rfl (hb hby d2_10) rfl k) ?_
  show own_Goes _ _ _ _ _ _ _ T10 (mkF m 11 #[.val (.ref a1), .val (.ref h0.size), .val (.int (14 : Int32)), .val (.int (5 : Int32)), .val (.ref aSHORT)] [(.int (14 : Int32)), (.int (5 : Int32))])
  refine own_go (fun _ k => XS.icmpNo X10.here hx rfl (hb hby d2_11) rfl (tlt (by decide : (5 : Int32) < (14 : Int32))).2.1 k) ?_
  show own_Goes _ _ _ _ _ _ _ T10 (mkF m 14 #[.val (.ref a1), .val (.ref h0.size), .val (.int (14 : Int32)), .val (.int (5 : Int32)), .val (.ref aSHORT)] [])
  refine own_go (fun _ k => XS.aloadN X10.here hx rfl (hb hby d2_14) rfl rfl k) ?_
  show own_Goes _ _ _ _ _ _ _ T10 (mkF m 15 #[.val (.ref a1), .val (.ref h0.size), .val (.int (14 : Int32)), .val (.int (5 : Int32)), .val (.ref aSHORT)] [(.ref h0.size)])
  refine own_go (fun _ k => XS.iloadN X10.here hx rfl (hb hby d2_15) rfl k) ?_
  show own_Goes _ _ _ _ _ _ _ T10 (mkF m 16 #[.val (.ref a1), .val (.ref h0.size), .val (.int (14 : Int32)), .val (.int (5 : Int32)), .val (.ref aSHORT)] [(.int (5 : Int32)), (.ref h0.size)])
  refine own_go (fun t k => X10.aaload hx (j := (5 : Int32)) (v := (.ref aUNSIGNED_SHORT)) (by rw [e10]; exact A1.1) (State.isArrayOf_alike hZ.alike A1.2.1) rfl A1.2.2 (by show ¬ (_ ∨ clV.slots.size ≤ _); rw [hsz]; decide) el_5 (g := (mkF m 16 #[.val (.ref a1), .val (.ref h0.size), .val (.int (14 : Int32)), .val (.int (5 : Int32)), .val (.ref aSHORT)] [(.int (5 : Int32)), (.ref h0.size)])) rfl rfl (hb hby d2_16) t k) ?_
  show own_Goes _ _ _ _ _ _ _ T10 (mkF m 17 #[.val (.ref a1), .val (.ref h0.size), .val (.int (14 : Int32)), .val (.int (5 : Int32)), .val (.ref aSHORT)] [(.ref aUNSIGNED_SHORT)])
  refine own_go (fun _ k => XS.astore X10.here hx rfl (hb hby d2_17) rfl rfl (l' := #[.val (.ref a1), .val (.ref h0.size), .val (.int (14 : Int32)), .val (.int (5 : Int32)), .val (.ref aUNSIGNED_SHORT)]) rfl k) ?_
  show own_Goes _ _ _ _ _ _ _ T10 (mkF m 19 #[.val (.ref a1), .val (.ref h0.size), .val (.int (14 : Int32)), .val (.int (5 : Int32)), .val (.ref aUNSIGNED_SHORT)] [])
  refine own_go (fun _ k => XS.aload X10.here hx rfl (hb hby d2_19) rfl rfl k) ?_
  show own_Goes _ _ _ _ _ _ _ T10 (mkF m 21 #[.val (.ref a1), .val (.ref h0.size), .val (.int (14 : Int32)), .val (.int (5 : Int32)), .val (.ref aUNSIGNED_SHORT)] [(.ref aUNSIGNED_SHORT)])
  obtain ⟨T11, X11, e11, st11⟩ := getF X10 hx hZ hown (host := "") (Or.inl (hw _ (List.mem_of_getElem? (i := 41) rfl))) Via.refl e10 (G_UNSIGNED_SHORT.ext Od1.2) (g := (mkF m 21 #[.val (.ref a1), .val (.ref h0.size), .val (.int (14 : Int32)), .val (.int (5 : Int32)), .val (.ref aUNSIGNED_SHORT)] [(.ref aUNSIGNED_SHORT)])) rfl rfl (hb hby d2_21)
  refine own_go st11 ?_
  show own_Goes _ _ _ _ _ _ _ T11 (mkF m 24 #[.val (.ref a1), .val (.ref h0.size), .val (.int (14 : Int32)), .val (.int (5 : Int32)), .val (.ref aUNSIGNED_SHORT)] [(.int (0 : Int32))])
  refine own_go (fun _ k => XS.ifNo X11.here hx rfl (hb hby d2_24) rfl ((if0 _ _).trans (teq (by decide : (0 : Int32) = (0 : Int32))).2) k) ?_
  show own_Goes _ _ _ _ _ _ _ T11 (mkF m 27 #[.val (.ref a1), .val (.ref h0.size), .val (.int (14 : Int32)), .val (.int (5 : Int32)), .val (.ref aUNSIGNED_SHORT)] [])
  refine own_go (fun _ k => XS.aload X11.here hx rfl (hb hby d2_27) rfl rfl k) ?_
  show own_Goes _ _ _ _ _ _ _ T11 (mkF m 29 #[.val (.ref a1), .val (.ref h0.size), .val (.int (14 : Int32)), .val (.int (5 : Int32)), .val (.ref aUNSIGNED_SHORT)] [(.ref aUNSIGNED_SHORT)])
  obtain ⟨T12, X12, e12, st12⟩ := getF X11 hx hZ hown (host := "") (Or.inl (hw _ (List.mem_of_getElem? (i := 43) rfl))) Via.refl e11 (R_UNSIGNED_SHORT.ext Od1.2) (g := (mkF m 29 #[.val (.ref a1), .val (.ref h0.size), .val (.int (14 : Int32)), .val (.int (5 : Int32)), .val (.ref aUNSIGNED_SHORT)] [(.ref aUNSIGNED_SHORT)])) rfl rfl (hb hby d2_29)
  refine own_go st12 ?_
  show own_Goes _ _ _ _ _ _ _ T12 (mkF m 32 #[.val (.ref a1), .val (.ref h0.size), .val (.int (14 : Int32)), .val (.int (5 : Int32)), .val (.ref aUNSIGNED_SHORT)] [(.int (2 : Int32))])
  refine own_go (fun _ k => XS.aloadN X12.here hx rfl (hb hby d2_32) rfl rfl k) ?_
  show own_Goes _ _ _ _ _ _ _ T12 (mkF m 33 #[.val (.ref a1), .val (.ref h0.size), .val (.int (14 : Int32)), .val (.int (5 : Int32)), .val (.ref aUNSIGNED_SHORT)] [(.ref a1), (.int (2 : Int32))])
  obtain ⟨T13, X13, e13, st13⟩ := getF X12 hx hZ hown (host := "") (Or.inl (hw _ (List.mem_of_getElem? (i := 43) rfl))) Via.refl e12 (R_a1.ext Od1.2) (g := (mkF m 33 #[.val (.ref a1), .val (.ref h0.size), .val (.int (14 : Int32)), .val (.int (5 : Int32)), .val (.ref aUNSIGNED_SHORT)] [(.ref a1), (.int (2 : Int32))])) rfl rfl (hb hby d2_33)
  refine own_go st13 ?_
  show own_Goes _ _ _ _ _ _ _ T13 (mkF m 36 #[.val (.ref a1), .val (.ref h0.size), .val (.int (14 : Int32)), .val (.int (5 : Int32)), .val (.ref aUNSIGNED_SHORT)] [(.int (3 : Int32)), (.int (2 : Int32))])
  refine own_go (fun _ k => XS.icmpYes X13.here hx rfl (pc0 := 36) (pc' := 42) rfl (hb hby d2_36) rfl (feq (by decide : ¬ ((2 : Int32) = (3 : Int32)))).2 (by decide) (by decide) k) ?_
  show own_Goes _ _ _ _ _ _ _ T13 (mkF m 42 #[.val (.ref a1), .val (.ref h0.size), .val (.int (14 : Int32)), .val (.int (5 : Int32)), .val (.ref aUNSIGNED_SHORT)] [])
  refine own_go (fun _ k => XS.iinc X13.here hx rfl (hb hby d2_42) rfl (l' := #[.val (.ref a1), .val (.ref h0.size), .val (.int (14 : Int32)), .val (.int (6 : Int32)), .val (.ref aUNSIGNED_SHORT)]) rfl k) ?_
  show own_Goes _ _ _ _ _ _ _ T13 (mkF m 45 #[.val (.ref a1), .val (.ref h0.size), .val (.int (14 : Int32)), .val (.int (6 : Int32)), .val (.ref aUNSIGNED_SHORT)] [])
  refine own_go (fun _ k => XS.goto X13.here hx rfl (pc0 := 45) (pc' := 9) rfl (hb hby d2_45) (by decide) (by decide) k) ?_
  show own_Goes _ _ _ _ _ _ _ T13 (mkF m 9 #[.val (.ref a1), .val (.ref h0.size), .val (.int (14 : Int32)), .val (.int (6 : Int32)), .val (.ref aUNSIGNED_SHORT)] [])
  refine own_go (fun _ k => XS.iloadN X13.here hx rfl (hb hby d2_9) rfl k) ?_
  show own_Goes _ _ _ _ _ _ _ T13 (mkF m 10 #[.val (.ref a1), .val (.ref h0.size), .val (.int (14 : Int32)), .val (.int (6 : Int32)), .val (.ref aUNSIGNED_SHORT)] [(.int (6 : Int32))])
  refine own_go (fun _ k => XS.iloadN X13.here hx rfl (hb hby d2_10) rfl k) ?_
  show own_Goes _ _ _ _ _ _ _ T13 (mkF m 11 #[.val (.ref a1), .val (.ref h0.size), .val (.int (14 : Int32)), .val (.int (6 : Int32)), .val (.ref aUNSIGNED_SHORT)] [(.int (14 : Int32)), (.int (6 : Int32))])
  refine own_go (fun _ k => XS.icmpNo X13.here hx rfl (hb hby d2_11) rfl (tlt (by decide : (6 : Int32) < (14 : Int32))).2.1 k) ?_
  show own_Goes _ _ _ _ _ _ _ T13 (mkF m 14 #[.val (.ref a1), .val (.ref h0.size), .val (.int (14 : Int32)), .val (.int (6 : Int32)), .val (.ref aUNSIGNED_SHORT)] [])
  refine own_go (fun _ k => XS.aloadN X13.here hx rfl (hb hby d2_14) rfl rfl k) ?_
  show own_Goes _ _ _ _ _ _ _ T13 (mkF m 15 #[.val (.ref a1), .val (.ref h0.size), .val (.int (14 : Int32)), .val (.int (6 : Int32)), .val (.ref aUNSIGNED_SHORT)] [(.ref h0.size)])
  refine own_go (fun _ k => XS.iloadN X13.here hx rfl (hb hby d2_15) rfl k) ?_
  show own_Goes _ _ _ _ _ _ _ T13 (mkF m 16 #[.val (.ref a1), .val (.ref h0.size), .val (.int (14 : Int32)), .val (.int (6 : Int32)), .val (.ref aUNSIGNED_SHORT)] [(.int (6 : Int32)), (.ref h0.size)])
  refine own_go (fun t k => X13.aaload hx (j := (6 : Int32)) (v := (.ref aINT)) (by rw [e13]; exact A1.1) (State.isArrayOf_alike hZ.alike A1.2.1) rfl A1.2.2 (by show ¬ (_ ∨ clV.slots.size ≤ _); rw [hsz]; decide) el_6 (g := (mkF m 16 #[.val (.ref a1), .val (.ref h0.size), .val (.int (14 : Int32)), .val (.int (6 : Int32)), .val (.ref aUNSIGNED_SHORT)] [(.int (6 : Int32)), (.ref h0.size)])) rfl rfl (hb hby d2_16) t k) ?_
  show own_Goes _ _ _ _ _ _ _ T13 (mkF m 17 #[.val (.ref a1), .val (.ref h0.size), .val (.int (14 : Int32)), .val (.int (6 : Int32)), .val (.ref aUNSIGNED_SHORT)] [(.ref aINT)])
  refine own_go (fun _ k => XS.astore X13.here hx rfl (hb hby d2_17) rfl rfl (l' := #[.val (.ref a1), .val (.ref h0.size), .val (.int (14 : Int32)), .val (.int (6 : Int32)), .val (.ref aINT)]) rfl k) ?_
  show own_Goes _ _ _ _ _ _ _ T13 (mkF m 19 #[.val (.ref a1), .val (.ref h0.size), .val (.int (14 : Int32)), .val (.int (6 : Int32)), .val (.ref aINT)] [])
  refine own_go (fun _ k => XS.aload X13.here hx rfl (hb hby d2_19) rfl rfl k) ?_
  show own_Goes _ _ _ _ _ _ _ T13 (mkF m 21 #[.val (.ref a1), .val (.ref h0.size), .val (.int (14 : Int32)), .val (.int (6 : Int32)), .val (.ref aINT)] [(.ref aINT)])
  obtain ⟨T14, X14, e14, st14⟩ := getF X13 hx hZ hown (host := "") (Or.inl (hw _ (List.mem_of_getElem? (i := 41) rfl))) Via.refl e13 (G_INT.ext Od1.2) (g := (mkF m 21 #[.val (.ref a1), .val (.ref h0.size), .val (.int (14 : Int32)), .val (.int (6 : Int32)), .val (.ref aINT)] [(.ref aINT)])) rfl rfl (hb hby d2_21)
  refine own_go st14 ?_
  show own_Goes _ _ _ _ _ _ _ T14 (mkF m 24 #[.val (.ref a1), .val (.ref h0.size), .val (.int (14 : Int32)), .val (.int (6 : Int32)), .val (.ref aINT)] [(.int (1 : Int32))])
  refine own_go (fun _ k => XS.ifYes X14.here hx rfl (pc0 := 24) (pc' := 42) rfl (hb hby d2_24) rfl ((if0 _ _).trans (feq (by decide : ¬ ((1 : Int32) = (0 : Int32)))).2) (by decide) (by decide) k) ?_
  show own_Goes _ _ _ _ _ _ _ T14 (mkF m 42 #[.val (.ref a1), .val (.ref h0.size), .val (.int (14 : Int32)), .val (.int (6 : Int32)), .val (.ref aINT)] [])
  refine own_go (fun _ k => XS.iinc X14.here hx rfl (hb hby d2_42) rfl (l' := #[.val (.ref a1), .val (.ref h0.size), .val (.int (14 : Int32)), .val (.int (7 : Int32)), .val (.ref aINT)]) rfl k) ?_
  show own_Goes _ _ _ _ _ _ _ T14 (mkF m 45 #[.val (.ref a1), .val (.ref h0.size), .val (.int (14 : Int32)), .val (.int (7 : Int32)), .val (.ref aINT)] [])
  refine own_go (fun _ k => XS.goto X14.here hx rfl (pc0 := 45) (pc' := 9) rfl (hb hby d2_45) (by decide) (by decide) k) ?_
  show own_Goes _ _ _ _ _ _ _ T14 (mkF m 9 #[.val (.ref a1), .val (.ref h0.size), .val (.int (14 : Int32)), .val (.int (7 : Int32)), .val (.ref aINT)] [])
  refine own_go (fun _ k => XS.iloadN X14.here hx rfl (hb hby d2_9) rfl k) ?_
  show own_Goes _ _ _ _ _ _ _ T14 (mkF m 10 #[.val (.ref a1), .val (.ref h0.size), .val (.int (14 : Int32)), .val (.int (7 : Int32)), .val (.ref aINT)] [(.int (7 : Int32))])
  refine own_go (fun _ k => XS.iloadN X14.here hx rfl (hb hby d2_10) rfl k) ?_
  show own_Goes _ _ _ _ _ _ _ T14 (mkF m 11 #[.val (.ref a1), .val (.ref h0.size), .val (.int (14 : Int32)), .val (.int (7 : Int32)), .val (.ref aINT)] [(.int (14 : Int32)), (.int (7 : Int32))])
  refine own_go (fun _ k => XS.icmpNo X14.here hx rfl (hb hby d2_11) rfl (tlt (by decide : (7 : Int32) < (14 : Int32))).2.1 k) ?_
  show own_Goes _ _ _ _ _ _ _ T14 (mkF m 14 #[.val (.ref a1), .val (.ref h0.size), .val (.int (14 : Int32)), .val (.int (7 : Int32)), .val (.ref aINT)] [])
  refine own_go (fun _ k => XS.aloadN X14.here hx rfl (hb hby d2_14) rfl rfl k) ?_
  show own_Goes _ _ _ _ _ _ _ T14 (mkF m 15 #[.val (.ref a1), .val (.ref h0.size), .val (.int (14 : Int32)), .val (.int (7 : Int32)), .val (.ref aINT)] [(.ref h0.size)])
  refine own_go (fun _ k => XS.iloadN X14.here hx rfl (hb hby d2_15) rfl k) ?_
  show own_Goes _ _ _ _ _ _ _ T14 (mkF m 16 #[.val (.ref a1), .val (.ref h0.size), .val (.int (14 : Int32)), .val (.int (7 : Int32)), .val (.ref aINT)] [(.int (7 : Int32)), (.ref h0.size)])
  refine own_go (fun t k => X14.aaload hx (j := (7 : Int32)) (v := (.ref aUNSIGNED_INT)) (by rw [e14]; exact A1.1) (State.isArrayOf_alike hZ.alike A1.2.1) rfl A1.2.2 (by show ¬ (_ ∨ clV.slots.size ≤ _); rw [hsz]; decide) el_7 (g := (mkF m 16 #[.val (.ref a1), .val (.ref h0.size), .val (.int (14 : Int32)), .val (.int (7 : Int32)), .val (.ref aINT)] [(.int (7 : Int32)), (.ref h0.size)])) rfl rfl (hb hby d2_16) t k) ?_
  show own_Goes _ _ _ _ _ _ _ T14 (mkF m 17 #[.val (.ref a1), .val (.ref h0.size), .val (.int (14 : Int32)), .val (.int (7 : Int32)), .val (.ref aINT)] [(.ref aUNSIGNED_INT)])
  refine own_go (fun _ k => XS.astore X14.here hx rfl (hb hby d2_17) rfl rfl (l' := #[.val (.ref a1), .val (.ref h0.size), .val (.int (14 : Int32)), .val (.int (7 : Int32)), .val (.ref aUNSIGNED_INT)]) rfl k) ?_
  show own_Goes _ _ _ _ _ _ _ T14 (mkF m 19 #[.val (.ref a1), .val (.ref h0.size), .val (.int (14 : Int32)), .val (.int (7 : Int32)), .val (.ref aUNSIGNED_INT)] [])
  refine own_go (fun _ k => XS.aload X14.here hx rfl (hb hby d2_19) rfl rfl k) ?_
  show own_Goes _ _ _ _ _ _ _ T14 (mkF m 21 #[.val (.ref a1), .val (.ref h0.size), .val (.int (14 : Int32)), .val (.int (7 : Int32)), .val (.ref aUNSIGNED_INT)] [(.ref aUNSIGNED_INT)])
  obtain ⟨T15, X15, e15, st15⟩ := getF X14 hx hZ hown (host := "") (Or.inl (hw _ (List.mem_of_getElem? (i := 41) rfl))) Via.refl e14 (G_UNSIGNED_INT.ext Od1.2) (g := (mkF m 21 #[.val (.ref a1), .val (.ref h0.size), .val (.int (14 : Int32)), .val (.int (7 : Int32)), .val (.ref aUNSIGNED_INT)] [(.ref aUNSIGNED_INT)])) rfl rfl (hb hby d2_21)
  refine own_go st15 ?_
  show own_Goes _ _ _ _ _ _ _ T15 (mkF m 24 #[.val (.ref a1), .val (.ref h0.size), .val (.int (14 : Int32)), .val (.int (7 : Int32)), .val (.ref aUNSIGNED_INT)] [(.int (0 : Int32))])
  refine own_go (fun _ k => XS.ifNo X15.here hx rfl (hb hby d2_24) rfl ((if0 _ _).trans (teq (by decide : (0 : Int32) = (0 : Int32))).2) k) ?_
  show own_Goes _ _ _ _ _ _ _ T15 (mkF m 27 #[.val (.ref a1), .val (.ref h0.size), .val (.int (14 : Int32)), .val (.int (7 : Int32)), .val (.ref aUNSIGNED_INT)] [])
  refine own_go (fun _ k => XS.aload X15.here hx rfl (hb hby d2_27) rfl rfl k) ?_
  show own_Goes _ _ _ _ _ _ _ T15 (mkF m 29 #[.val (.ref a1), .val (.ref h0.size), .val (.int (14 : Int32)), .val (.int (7 : Int32)), .val (.ref aUNSIGNED_INT)] [(.ref aUNSIGNED_INT)])
  obtain ⟨T16, X16, e16, st16⟩ := getF X15 hx hZ hown (host := "") (Or.inl (hw _ (List.mem_of_getElem? (i := 43) rfl))) Via.refl e15 (R_UNSIGNED_INT.ext Od1.2) (g := (mkF m 29 #[.val (.ref a1), .val (.ref h0.size), .val (.int (14 : Int32)), .val (.int (7 : Int32)), .val (.ref aUNSIGNED_INT)] [(.ref aUNSIGNED_INT)])) rfl rfl (hb hby d2_29)
  refine own_go st16 ?_
  show own_Goes _ _ _ _ _ _ _ T16 (mkF m 32 #[.val (.ref a1), .val (.ref h0.size), .val (.int (14 : Int32)), .val (.int (7 : Int32)), .val (.ref aUNSIGNED_INT)] [(.int (3 : Int32))])
  refine own_go (fun _ k => XS.aloadN X16.here hx rfl (hb hby d2_32) rfl rfl k) ?_
  show own_Goes _ _ _ _ _ _ _ T16 (mkF m 33 #[.val (.ref a1), .val (.ref h0.size), .val (.int (14 : Int32)), .val (.int (7 : Int32)), .val (.ref aUNSIGNED_INT)] [(.ref a1), (.int (3 : Int32))])
  obtain ⟨T17, X17, e17, st17⟩ := getF X16 hx hZ hown (host := "") (Or.inl (hw _ (List.mem_of_getElem? (i := 43) rfl))) Via.refl e16 (R_a1.ext Od1.2) (g := (mkF m 33 #[.val (.ref a1), .val (.ref h0.size), .val (.int (14 : Int32)), .val (.int (7 : Int32)), .val (.ref aUNSIGNED_INT)] [(.ref a1), (.int (3 : Int32))])) rfl rfl (hb hby d2_33)
  refine own_go st17 ?_
  show own_Goes _ _ _ _ _ _ _ T17 (mkF m 36 #[.val (.ref a1), .val (.ref h0.size), .val (.int (14 : Int32)), .val (.int (7 : Int32)), .val (.ref aUNSIGNED_INT)] [(.int (3 : Int32)), (.int (3 : Int32))])
  refine own_go (fun _ k => XS.icmpNo X17.here hx rfl (hb hby d2_36) rfl (teq (by decide : (3 : Int32) = (3 : Int32))).2 k) ?_
  show own_Goes _ _ _ _ _ _ _ T17 (mkF m 39 #[.val (.ref a1), .val (.ref h0.size), .val (.int (14 : Int32)), .val (.int (7 : Int32)), .val (.ref aUNSIGNED_INT)] [])
  refine own_go (fun _ k => XS.aload X17.here hx rfl (hb hby d2_39) rfl rfl k) ?_
  show own_Goes _ _ _ _ _ _ _ T17 (mkF m 41 #[.val (.ref a1), .val (.ref h0.size), .val (.int (14 : Int32)), .val (.int (7 : Int32)), .val (.ref aUNSIGNED_INT)] [(.ref aUNSIGNED_INT)])
  exact own_retA X17 hx hlk hret rfl rfl (hb hby d2_41) (by decide) (by decide) (by rw [e17]; exact ⟨rfl, N1, E1⟩)
def Q_rmU4 (Z : State) (h0 : Heap) (n0 : Nat) (aUNSIGNED_LONG : Addr) (v : Option Value) (h : Heap) (L : List Loc) : Prop := v = some (.ref aUNSIGNED_LONG) ∧ Fr n0 L ∧ Ext h0 h
set_option maxRecDepth 65536 in
set_option maxHeartbeats 40000000 in
theorem rmU4 (l : Launch) (Z : State) (a0 : Array Value) (hw : ∀ d ∈ tables_1, d.before a0 Z = true) (ws : List Jvm.Cond) (a1 aV : Addr) (clV : Cell) (aBOOL aCHAR aSIGNED_CHAR aUNSIGNED_CHAR aSHORT aUNSIGNED_SHORT aINT aUNSIGNED_INT aLONG aUNSIGNED_LONG aLONG_LONG aUNSIGNED_LONG_LONG aINT128 aUNSIGNED_INT128 : Addr) (h0 : Heap) (n0 : Nat) (Z0 : n0 ≤ h0.size) (VV : own_VV Z aV clV aBOOL aCHAR aSIGNED_CHAR aUNSIGNED_CHAR aSHORT aUNSIGNED_SHORT aINT aUNSIGNED_INT aLONG aUNSIGNED_LONG aLONG_LONG aUNSIGNED_LONG_LONG aINT128 aUNSIGNED_INT128) (FF : own_FF Z aBOOL aCHAR aSIGNED_CHAR aUNSIGNED_CHAR aSHORT aUNSIGNED_SHORT aINT aUNSIGNED_INT aLONG aUNSIGNED_LONG aLONG_LONG aUNSIGNED_LONG_LONG aINT128 aUNSIGNED_INT128) (Od0 : Old Z n0 h0) (R_a1 : Fld Z Z.heap a1 "com/example/treellis/treellis/cfa/IntegerType" "rank" "I" (.int (4 : Int32))) :
    MetFree l (⟨"com/example/treellis/treellis/cfa/IntegerType", "toUnsigned", "()Lcom/example/treellis/treellis/cfa/IntegerType;"⟩ : MethodName) (head1 (Jvm.Cond.code (⟨"com/example/treellis/treellis/cfa/IntegerType", "toUnsigned", "()Lcom/example/treellis/treellis/cfa/IntegerType;"⟩ : MethodName) prog_44_method_6_code 5 (some (.object "com/example/treellis/treellis/cfa/IntegerType")) :: ws) ({ frames := 2, cells := 1, slots := 14, locals := 25 } : Room)) (fun a U => a = #[(.ref a1)] ∧ Z.Warmed39 U.vm ∧ U.heap = h0) (fun _ _ _ _ _ => True) (fun _ U o U' => ∃ rv rL, o = .returned rv ∧ Q_rmU4 Z h0 n0 aUNSIGNED_LONG rv U'.heap rL ∧ FrameEnd U o U' rL ({ frames := 2, cells := 1, slots := 14, locals := 25 } : Room).cells ({ frames := 2, cells := 1, slots := 14, locals := 25 } : Room).slots) := by
  refine own_met (y := (⟨"com/example/treellis/treellis/cfa/IntegerType", "toUnsigned", "()Lcom/example/treellis/treellis/cfa/IntegerType;"⟩ : MethodName)) (Q := Q_rmU4 Z h0 n0 aUNSIGNED_LONG) (own := "com/example/treellis/treellis/cfa/IntegerType") rfl pn_2 ?_
  intro p e s m below meth c s₁ C e0 X0
  obtain ⟨hx, hby, hml, hown, hnm, hret, hlk, hZ⟩ := C
  have N0 := Fr.nil n0
  rw [ef_2]
  obtain ⟨SV, AV, EV, FV, hsz, el_0, el_1, el_2, el_3, el_4, el_5, el_6, el_7, el_8, el_9, el_10, el_11, el_12, el_13⟩ := VV
  obtain ⟨⟨E_BOOL, R_BOOL, G_BOOL⟩, ⟨E_CHAR, R_CHAR, G_CHAR⟩, ⟨E_SIGNED_CHAR, R_SIGNED_CHAR, G_SIGNED_CHAR⟩, ⟨E_UNSIGNED_CHAR, R_UNSIGNED_CHAR, G_UNSIGNED_CHAR⟩, ⟨E_SHORT, R_SHORT, G_SHORT⟩, ⟨E_UNSIGNED_SHORT, R_UNSIGNED_SHORT, G_UNSIGNED_SHORT⟩, ⟨E_INT, R_INT, G_INT⟩, ⟨E_UNSIGNED_INT, R_UNSIGNED_INT, G_UNSIGNED_INT⟩, ⟨E_LONG, R_LONG, G_LONG⟩, ⟨E_UNSIGNED_LONG, R_UNSIGNED_LONG, G_UNSIGNED_LONG⟩, ⟨E_LONG_LONG, R_LONG_LONG, G_LONG_LONG⟩, ⟨E_UNSIGNED_LONG_LONG, R_UNSIGNED_LONG_LONG, G_UNSIGNED_LONG_LONG⟩, ⟨E_INT128, R_INT128, G_INT128⟩, ⟨E_UNSIGNED_INT128, R_UNSIGNED_INT128, G_UNSIGNED_INT128⟩⟩ := FF
  show own_Goes _ _ _ _ _ _ _ s₁ (mkF m 0 #[.val (.ref a1), .unset, .unset, .unset, .unset] [])
  obtain ⟨_, _, ⟨T1, L1, k1, n1⟩, -, X1, ⟨Lc1, hQ1, l1, y1, z1⟩, st1⟩ := Jvm.LawKit.callS X0 hx (y := (⟨"com/example/treellis/treellis/cfa/IntegerType", "values", "()[Lcom/example/treellis/treellis/cfa/IntegerType;"⟩ : MethodName)) hown (mvT hZ (hw _ (List.mem_of_getElem? (i := 13) rfl))) (mvT hZ (hw _ (List.mem_of_getElem? (i := 14) rfl))) (mvT hZ (hw _ (List.mem_of_getElem? (i := 6) rfl))) (mvT hZ (hw _ (List.mem_of_getElem? (i := 15) rfl))) (by decide) (backOf (W := 0) (rm3 l Z a0 hw [] aV clV aBOOL aCHAR aSIGNED_CHAR aUNSIGNED_CHAR aSHORT aUNSIGNED_SHORT aINT aUNSIGNED_INT aLONG aUNSIGNED_LONG aLONG_LONG aUNSIGNED_LONG_LONG aINT128 aUNSIGNED_INT128 h0 n0 Z0 ⟨SV, AV, EV, FV, hsz, el_0, el_1, el_2, el_3, el_4, el_5, el_6, el_7, el_8, el_9, el_10, el_11, el_12, el_13⟩ Od0) hZ (hw _ (List.mem_of_getElem? (i := 15) rfl)) (hw _ (List.mem_of_getElem? (i := 6) rfl)) (by decide) (by decide)) (g := (mkF m 0 #[.val (.ref a1), .unset, .unset, .unset, .unset] [])) rfl (by rw [hml]; rfl) (argsL := []) (rest := []) (lenOf pd_0 rfl) rfl (by show 2 * 0 + _ ≤ _; exact Nat.le_of_eq rfl) (hb hby d2_0) (fun _ _ => ⟨rfl, e0, (by decide : 0 + 1 ≤ _), (by decide : 0 + 14 ≤ _)⟩)
  dsimp only [Pt.U, Pt.locs, Pt.cells, Pt.slots] at X1 l1 y1 z1 st1 hQ1
  subst l1 y1 z1
  obtain ⟨rfl, N1q, E1, A1⟩ := hQ1
  have N1 := Fr.app N0 N1q
  refine own_go st1 ?_
  show own_Goes _ _ _ _ _ _ _ T1 (mkF m 3 #[.val (.ref a1), .unset, .unset, .unset, .unset] [(.ref h0.size)])
  have Od1 := Od0.ext E1
  refine own_go (fun _ k => XS.astoreN X1.here hx rfl (hb hby d2_3) rfl rfl (l' := #[.val (.ref a1), .val (.ref h0.size), .unset, .unset, .unset]) rfl k) ?_
  show own_Goes _ _ _ _ _ _ _ T1 (mkF m 4 #[.val (.ref a1), .val (.ref h0.size), .unset, .unset, .unset] [])
  refine own_go (fun _ k => XS.aloadN X1.here hx rfl (hb hby d2_4) rfl rfl k) ?_
  show own_Goes _ _ _ _ _ _ _ T1 (mkF m 5 #[.val (.ref a1), .val (.ref h0.size), .unset, .unset, .unset] [(.ref h0.size)])
  refine own_go (fun t k => X1.arraylength hx (by exact A1.1) (State.isArrayOf_alike hZ.alike A1.2.1) (g := (mkF m 5 #[.val (.ref a1), .val (.ref h0.size), .unset, .unset, .unset] [(.ref h0.size)])) rfl rfl (hb hby d2_5) t k) ?_
  rw [show (cloneOf clV).slots.size.toInt32 = (14 : Int32) from by show clV.slots.size.toInt32 = _; rw [hsz]; rfl]
  show own_Goes _ _ _ _ _ _ _ T1 (mkF m 6 #[.val (.ref a1), .val (.ref h0.size), .unset, .unset, .unset] [(.int (14 : Int32))])
  refine own_go (fun _ k => XS.istoreN X1.here hx rfl (hb hby d2_6) rfl (l' := #[.val (.ref a1), .val (.ref h0.size), .val (.int (14 : Int32)), .unset, .unset]) rfl k) ?_
  show own_Goes _ _ _ _ _ _ _ T1 (mkF m 7 #[.val (.ref a1), .val (.ref h0.size), .val (.int (14 : Int32)), .unset, .unset] [])
  refine own_go (fun _ k => XS.iconst X1.here hx rfl (hb hby d2_7) k) ?_
  show own_Goes _ _ _ _ _ _ _ T1 (mkF m 8 #[.val (.ref a1), .val (.ref h0.size), .val (.int (14 : Int32)), .unset, .unset] [(.int (0 : Int32))])
  refine own_go (fun _ k => XS.istoreN X1.here hx rfl (hb hby d2_8) rfl (l' := #[.val (.ref a1), .val (.ref h0.size), .val (.int (14 : Int32)), .val (.int (0 : Int32)), .unset]) rfl k) ?_
  show own_Goes _ _ _ _ _ _ _ T1 (mkF m 9 #[.val (.ref a1), .val (.ref h0.size), .val (.int (14 : Int32)), .val (.int (0 : Int32)), .unset] [])
  refine own_go (fun _ k => XS.iloadN X1.here hx rfl (hb hby d2_9) rfl k) ?_
  show own_Goes _ _ _ _ _ _ _ T1 (mkF m 10 #[.val (.ref a1), .val (.ref h0.size), .val (.int (14 : Int32)), .val (.int (0 : Int32)), .unset] [(.int (0 : Int32))])
  refine own_go (fun _ k => XS.iloadN X1.here hx rfl (hb hby d2_10) rfl k) ?_
  show own_Goes _ _ _ _ _ _ _ T1 (mkF m 11 #[.val (.ref a1), .val (.ref h0.size), .val (.int (14 : Int32)), .val (.int (0 : Int32)), .unset] [(.int (14 : Int32)), (.int (0 : Int32))])
  refine own_go (fun _ k => XS.icmpNo X1.here hx rfl (hb hby d2_11) rfl (tlt (by decide : (0 : Int32) < (14 : Int32))).2.1 k) ?_
  show own_Goes _ _ _ _ _ _ _ T1 (mkF m 14 #[.val (.ref a1), .val (.ref h0.size), .val (.int (14 : Int32)), .val (.int (0 : Int32)), .unset] [])
  refine own_go (fun _ k => XS.aloadN X1.here hx rfl (hb hby d2_14) rfl rfl k) ?_
  show own_Goes _ _ _ _ _ _ _ T1 (mkF m 15 #[.val (.ref a1), .val (.ref h0.size), .val (.int (14 : Int32)), .val (.int (0 : Int32)), .unset] [(.ref h0.size)])
  refine own_go (fun _ k => XS.iloadN X1.here hx rfl (hb hby d2_15) rfl k) ?_
  show own_Goes _ _ _ _ _ _ _ T1 (mkF m 16 #[.val (.ref a1), .val (.ref h0.size), .val (.int (14 : Int32)), .val (.int (0 : Int32)), .unset] [(.int (0 : Int32)), (.ref h0.size)])
  refine own_go (fun t k => X1.aaload hx (j := (0 : Int32)) (v := (.ref aBOOL)) (by rw [show _ = T1.heap from rfl]; exact A1.1) (State.isArrayOf_alike hZ.alike A1.2.1) rfl A1.2.2 (by show ¬ (_ ∨ clV.slots.size ≤ _); rw [hsz]; decide) el_0 (g := (mkF m 16 #[.val (.ref a1), .val (.ref h0.size), .val (.int (14 : Int32)), .val (.int (0 : Int32)), .unset] [(.int (0 : Int32)), (.ref h0.size)])) rfl rfl (hb hby d2_16) t k) ?_
  show own_Goes _ _ _ _ _ _ _ T1 (mkF m 17 #[.val (.ref a1), .val (.ref h0.size), .val (.int (14 : Int32)), .val (.int (0 : Int32)), .unset] [(.ref aBOOL)])
  refine own_go (fun _ k => XS.astore X1.here hx rfl (hb hby d2_17) rfl rfl (l' := #[.val (.ref a1), .val (.ref h0.size), .val (.int (14 : Int32)), .val (.int (0 : Int32)), .val (.ref aBOOL)]) rfl k) ?_
  show own_Goes _ _ _ _ _ _ _ T1 (mkF m 19 #[.val (.ref a1), .val (.ref h0.size), .val (.int (14 : Int32)), .val (.int (0 : Int32)), .val (.ref aBOOL)] [])
  refine own_go (fun _ k => XS.aload X1.here hx rfl (hb hby d2_19) rfl rfl k) ?_
  show own_Goes _ _ _ _ _ _ _ T1 (mkF m 21 #[.val (.ref a1), .val (.ref h0.size), .val (.int (14 : Int32)), .val (.int (0 : Int32)), .val (.ref aBOOL)] [(.ref aBOOL)])
  obtain ⟨T2, X2, e2, st2⟩ := getF X1 hx hZ hown (host := "") (Or.inl (hw _ (List.mem_of_getElem? (i := 41) rfl))) Via.refl rfl (G_BOOL.ext Od1.2) (g := (mkF m 21 #[.val (.ref a1), .val (.ref h0.size), .val (.int (14 : Int32)), .val (.int (0 : Int32)), .val (.ref aBOOL)] [(.ref aBOOL)])) rfl rfl (hb hby d2_21)
  refine own_go st2 ?_
  show own_Goes _ _ _ _ _ _ _ T2 (mkF m 24 #[.val (.ref a1), .val (.ref h0.size), .val (.int (14 : Int32)), .val (.int (0 : Int32)), .val (.ref aBOOL)] [(.int (0 : Int32))])
  refine own_go (fun _ k => XS.ifNo X2.here hx rfl (hb hby d2_24) rfl ((if0 _ _).trans (teq (by decide : (0 : Int32) = (0 : Int32))).2) k) ?_
  show own_Goes _ _ _ _ _ _ _ T2 (mkF m 27 #[.val (.ref a1), .val (.ref h0.size), .val (.int (14 : Int32)), .val (.int (0 : Int32)), .val (.ref aBOOL)] [])
  refine own_go (fun _ k => XS.aload X2.here hx rfl (hb hby d2_27) rfl rfl k) ?_
  show own_Goes _ _ _ _ _ _ _ T2 (mkF m 29 #[.val (.ref a1), .val (.ref h0.size), .val (.int (14 : Int32)), .val (.int (0 : Int32)), .val (.ref aBOOL)] [(.ref aBOOL)])
  obtain ⟨T3, X3, e3, st3⟩ := getF X2 hx hZ hown (host := "") (Or.inl (hw _ (List.mem_of_getElem? (i := 43) rfl))) Via.refl e2 (R_BOOL.ext Od1.2) (g := (mkF m 29 #[.val (.ref a1), .val (.ref h0.size), .val (.int (14 : Int32)), .val (.int (0 : Int32)), .val (.ref aBOOL)] [(.ref aBOOL)])) rfl rfl (hb hby d2_29)
  refine own_go st3 ?_
  show own_Goes _ _ _ _ _ _ _ T3 (mkF m 32 #[.val (.ref a1), .val (.ref h0.size), .val (.int (14 : Int32)), .val (.int (0 : Int32)), .val (.ref aBOOL)] [(.int (0 : Int32))])
  refine own_go (fun _ k => XS.aloadN X3.here hx rfl (hb hby d2_32) rfl rfl k) ?_
  show own_Goes _ _ _ _ _ _ _ T3 (mkF m 33 #[.val (.ref a1), .val (.ref h0.size), .val (.int (14 : Int32)), .val (.int (0 : Int32)), .val (.ref aBOOL)] [(.ref a1), (.int (0 : Int32))])
  obtain ⟨T4, X4, e4, st4⟩ := getF X3 hx hZ hown (host := "") (Or.inl (hw _ (List.mem_of_getElem? (i := 43) rfl))) Via.refl e3 (R_a1.ext Od1.2) (g := (mkF m 33 #[.val (.ref a1), .val (.ref h0.size), .val (.int (14 : Int32)), .val (.int (0 : Int32)), .val (.ref aBOOL)] [(.ref a1), (.int (0 : Int32))])) rfl rfl (hb hby d2_33)
  refine own_go st4 ?_
  show own_Goes _ _ _ _ _ _ _ T4 (mkF m 36 #[.val (.ref a1), .val (.ref h0.size), .val (.int (14 : Int32)), .val (.int (0 : Int32)), .val (.ref aBOOL)] [(.int (4 : Int32)), (.int (0 : Int32))])
  refine own_go (fun _ k => XS.icmpYes X4.here hx rfl (pc0 := 36) (pc' := 42) rfl (hb hby d2_36) rfl (feq (by decide : ¬ ((0 : Int32) = (4 : Int32)))).2 (by decide) (by decide) k) ?_
  show own_Goes _ _ _ _ _ _ _ T4 (mkF m 42 #[.val (.ref a1), .val (.ref h0.size), .val (.int (14 : Int32)), .val (.int (0 : Int32)), .val (.ref aBOOL)] [])
  refine own_go (fun _ k => XS.iinc X4.here hx rfl (hb hby d2_42) rfl (l' := #[.val (.ref a1), .val (.ref h0.size), .val (.int (14 : Int32)), .val (.int (1 : Int32)), .val (.ref aBOOL)]) rfl k) ?_
  show own_Goes _ _ _ _ _ _ _ T4 (mkF m 45 #[.val (.ref a1), .val (.ref h0.size), .val (.int (14 : Int32)), .val (.int (1 : Int32)), .val (.ref aBOOL)] [])
  refine own_go (fun _ k => XS.goto X4.here hx rfl (pc0 := 45) (pc' := 9) rfl (hb hby d2_45) (by decide) (by decide) k) ?_
  show own_Goes _ _ _ _ _ _ _ T4 (mkF m 9 #[.val (.ref a1), .val (.ref h0.size), .val (.int (14 : Int32)), .val (.int (1 : Int32)), .val (.ref aBOOL)] [])
  refine own_go (fun _ k => XS.iloadN X4.here hx rfl (hb hby d2_9) rfl k) ?_
  show own_Goes _ _ _ _ _ _ _ T4 (mkF m 10 #[.val (.ref a1), .val (.ref h0.size), .val (.int (14 : Int32)), .val (.int (1 : Int32)), .val (.ref aBOOL)] [(.int (1 : Int32))])
  refine own_go (fun _ k => XS.iloadN X4.here hx rfl (hb hby d2_10) rfl k) ?_
  show own_Goes _ _ _ _ _ _ _ T4 (mkF m 11 #[.val (.ref a1), .val (.ref h0.size), .val (.int (14 : Int32)), .val (.int (1 : Int32)), .val (.ref aBOOL)] [(.int (14 : Int32)), (.int (1 : Int32))])
  refine own_go (fun _ k => XS.icmpNo X4.here hx rfl (hb hby d2_11) rfl (tlt (by decide : (1 : Int32) < (14 : Int32))).2.1 k) ?_
  show own_Goes _ _ _ _ _ _ _ T4 (mkF m 14 #[.val (.ref a1), .val (.ref h0.size), .val (.int (14 : Int32)), .val (.int (1 : Int32)), .val (.ref aBOOL)] [])
  refine own_go (fun _ k => XS.aloadN X4.here hx rfl (hb hby d2_14) rfl rfl k) ?_
  show own_Goes _ _ _ _ _ _ _ T4 (mkF m 15 #[.val (.ref a1), .val (.ref h0.size), .val (.int (14 : Int32)), .val (.int (1 : Int32)), .val (.ref aBOOL)] [(.ref h0.size)])
  refine own_go (fun _ k => XS.iloadN X4.here hx rfl (hb hby d2_15) rfl k) ?_
  show own_Goes _ _ _ _ _ _ _ T4 (mkF m 16 #[.val (.ref a1), .val (.ref h0.size), .val (.int (14 : Int32)), .val (.int (1 : Int32)), .val (.ref aBOOL)] [(.int (1 : Int32)), (.ref h0.size)])
  refine own_go (fun t k => X4.aaload hx (j := (1 : Int32)) (v := (.ref aCHAR)) (by rw [e4]; exact A1.1) (State.isArrayOf_alike hZ.alike A1.2.1) rfl A1.2.2 (by show ¬ (_ ∨ clV.slots.size ≤ _); rw [hsz]; decide) el_1 (g := (mkF m 16 #[.val (.ref a1), .val (.ref h0.size), .val (.int (14 : Int32)), .val (.int (1 : Int32)), .val (.ref aBOOL)] [(.int (1 : Int32)), (.ref h0.size)])) rfl rfl (hb hby d2_16) t k) ?_
  show own_Goes _ _ _ _ _ _ _ T4 (mkF m 17 #[.val (.ref a1), .val (.ref h0.size), .val (.int (14 : Int32)), .val (.int (1 : Int32)), .val (.ref aBOOL)] [(.ref aCHAR)])
  refine own_go (fun _ k => XS.astore X4.here hx rfl (hb hby d2_17) rfl rfl (l' := #[.val (.ref a1), .val (.ref h0.size), .val (.int (14 : Int32)), .val (.int (1 : Int32)), .val (.ref aCHAR)]) rfl k) ?_
  show own_Goes _ _ _ _ _ _ _ T4 (mkF m 19 #[.val (.ref a1), .val (.ref h0.size), .val (.int (14 : Int32)), .val (.int (1 : Int32)), .val (.ref aCHAR)] [])
  refine own_go (fun _ k => XS.aload X4.here hx rfl (hb hby d2_19) rfl rfl k) ?_
  show own_Goes _ _ _ _ _ _ _ T4 (mkF m 21 #[.val (.ref a1), .val (.ref h0.size), .val (.int (14 : Int32)), .val (.int (1 : Int32)), .val (.ref aCHAR)] [(.ref aCHAR)])
  obtain ⟨T5, X5, e5, st5⟩ := getF X4 hx hZ hown (host := "") (Or.inl (hw _ (List.mem_of_getElem? (i := 41) rfl))) Via.refl e4 (G_CHAR.ext Od1.2) (g := (mkF m 21 #[.val (.ref a1), .val (.ref h0.size), .val (.int (14 : Int32)), .val (.int (1 : Int32)), .val (.ref aCHAR)] [(.ref aCHAR)])) rfl rfl (hb hby d2_21)
  refine own_go st5 ?_
  show own_Goes _ _ _ _ _ _ _ T5 (mkF m 24 #[.val (.ref a1), .val (.ref h0.size), .val (.int (14 : Int32)), .val (.int (1 : Int32)), .val (.ref aCHAR)] [(.int (1 : Int32))])
  refine own_go (fun _ k => XS.ifYes X5.here hx rfl (pc0 := 24) (pc' := 42) rfl (hb hby d2_24) rfl ((if0 _ _).trans (feq (by decide : ¬ ((1 : Int32) = (0 : Int32)))).2) (by decide) (by decide) k) ?_
  show own_Goes _ _ _ _ _ _ _ T5 (mkF m 42 #[.val (.ref a1), .val (.ref h0.size), .val (.int (14 : Int32)), .val (.int (1 : Int32)), .val (.ref aCHAR)] [])
  refine own_go (fun _ k => XS.iinc X5.here hx rfl (hb hby d2_42) rfl (l' := #[.val (.ref a1), .val (.ref h0.size), .val (.int (14 : Int32)), .val (.int (2 : Int32)), .val (.ref aCHAR)]) rfl k) ?_
  show own_Goes _ _ _ _ _ _ _ T5 (mkF m 45 #[.val (.ref a1), .val (.ref h0.size), .val (.int (14 : Int32)), .val (.int (2 : Int32)), .val (.ref aCHAR)] [])
  refine own_go (fun _ k => XS.goto X5.here hx rfl (pc0 := 45) (pc' := 9) rfl (hb hby d2_45) (by decide) (by decide) k) ?_
  show own_Goes _ _ _ _ _ _ _ T5 (mkF m 9 #[.val (.ref a1), .val (.ref h0.size), .val (.int (14 : Int32)), .val (.int (2 : Int32)), .val (.ref aCHAR)] [])
  refine own_go (fun _ k => XS.iloadN X5.here hx rfl (hb hby d2_9) rfl k) ?_
  show own_Goes _ _ _ _ _ _ _ T5 (mkF m 10 #[.val (.ref a1), .val (.ref h0.size), .val (.int (14 : Int32)), .val (.int (2 : Int32)), .val (.ref aCHAR)] [(.int (2 : Int32))])
  refine own_go (fun _ k => XS.iloadN X5.here hx rfl (hb hby d2_10) rfl k) ?_
  show own_Goes _ _ _ _ _ _ _ T5 (mkF m 11 #[.val (.ref a1), .val (.ref h0.size), .val (.int (14 : Int32)), .val (.int (2 : Int32)), .val (.ref aCHAR)] [(.int (14 : Int32)), (.int (2 : Int32))])
  refine own_go (fun _ k => XS.icmpNo X5.here hx rfl (hb hby d2_11) rfl (tlt (by decide : (2 : Int32) < (14 : Int32))).2.1 k) ?_
  show own_Goes _ _ _ _ _ _ _ T5 (mkF m 14 #[.val (.ref a1), .val (.ref h0.size), .val (.int (14 : Int32)), .val (.int (2 : Int32)), .val (.ref aCHAR)] [])
  refine own_go (fun _ k => XS.aloadN X5.here hx rfl (hb hby d2_14) rfl rfl k) ?_
  show own_Goes _ _ _ _ _ _ _ T5 (mkF m 15 #[.val (.ref a1), .val (.ref h0.size), .val (.int (14 : Int32)), .val (.int (2 : Int32)), .val (.ref aCHAR)] [(.ref h0.size)])
  refine own_go (fun _ k => XS.iloadN X5.here hx rfl (hb hby d2_15) rfl k) ?_
  show own_Goes _ _ _ _ _ _ _ T5 (mkF m 16 #[.val (.ref a1), .val (.ref h0.size), .val (.int (14 : Int32)), .val (.int (2 : Int32)), .val (.ref aCHAR)] [(.int (2 : Int32)), (.ref h0.size)])
  refine own_go (fun t k => X5.aaload hx (j := (2 : Int32)) (v := (.ref aSIGNED_CHAR)) (by rw [e5]; exact A1.1) (State.isArrayOf_alike hZ.alike A1.2.1) rfl A1.2.2 (by show ¬ (_ ∨ clV.slots.size ≤ _); rw [hsz]; decide) el_2 (g := (mkF m 16 #[.val (.ref a1), .val (.ref h0.size), .val (.int (14 : Int32)), .val (.int (2 : Int32)), .val (.ref aCHAR)] [(.int (2 : Int32)), (.ref h0.size)])) rfl rfl (hb hby d2_16) t k) ?_
  show own_Goes _ _ _ _ _ _ _ T5 (mkF m 17 #[.val (.ref a1), .val (.ref h0.size), .val (.int (14 : Int32)), .val (.int (2 : Int32)), .val (.ref aCHAR)] [(.ref aSIGNED_CHAR)])
  refine own_go (fun _ k => XS.astore X5.here hx rfl (hb hby d2_17) rfl rfl (l' := #[.val (.ref a1), .val (.ref h0.size), .val (.int (14 : Int32)), .val (.int (2 : Int32)), .val (.ref aSIGNED_CHAR)]) rfl k) ?_
  show own_Goes _ _ _ _ _ _ _ T5 (mkF m 19 #[.val (.ref a1), .val (.ref h0.size), .val (.int (14 : Int32)), .val (.int (2 : Int32)), .val (.ref aSIGNED_CHAR)] [])
  refine own_go (fun _ k => XS.aload X5.here hx rfl (hb hby d2_19) rfl rfl k) ?_
  show own_Goes _ _ _ _ _ _ _ T5 (mkF m 21 #[.val (.ref a1), .val (.ref h0.size), .val (.int (14 : Int32)), .val (.int (2 : Int32)), .val (.ref aSIGNED_CHAR)] [(.ref aSIGNED_CHAR)])
  obtain ⟨T6, X6, e6, st6⟩ := getF X5 hx hZ hown (host := "") (Or.inl (hw _ (List.mem_of_getElem? (i := 41) rfl))) Via.refl e5 (G_SIGNED_CHAR.ext Od1.2) (g := (mkF m 21 #[.val (.ref a1), .val (.ref h0.size), .val (.int (14 : Int32)), .val (.int (2 : Int32)), .val (.ref aSIGNED_CHAR)] [(.ref aSIGNED_CHAR)])) rfl rfl (hb hby d2_21)
  refine own_go st6 ?_
  show own_Goes _ _ _ _ _ _ _ T6 (mkF m 24 #[.val (.ref a1), .val (.ref h0.size), .val (.int (14 : Int32)), .val (.int (2 : Int32)), .val (.ref aSIGNED_CHAR)] [(.int (1 : Int32))])
  refine own_go (fun _ k => XS.ifYes X6.here hx rfl (pc0 := 24) (pc' := 42) rfl (hb hby d2_24) rfl ((if0 _ _).trans (feq (by decide : ¬ ((1 : Int32) = (0 : Int32)))).2) (by decide) (by decide) k) ?_
  show own_Goes _ _ _ _ _ _ _ T6 (mkF m 42 #[.val (.ref a1), .val (.ref h0.size), .val (.int (14 : Int32)), .val (.int (2 : Int32)), .val (.ref aSIGNED_CHAR)] [])
  refine own_go (fun _ k => XS.iinc X6.here hx rfl (hb hby d2_42) rfl (l' := #[.val (.ref a1), .val (.ref h0.size), .val (.int (14 : Int32)), .val (.int (3 : Int32)), .val (.ref aSIGNED_CHAR)]) rfl k) ?_
  show own_Goes _ _ _ _ _ _ _ T6 (mkF m 45 #[.val (.ref a1), .val (.ref h0.size), .val (.int (14 : Int32)), .val (.int (3 : Int32)), .val (.ref aSIGNED_CHAR)] [])
  refine own_go (fun _ k => XS.goto X6.here hx rfl (pc0 := 45) (pc' := 9) rfl (hb hby d2_45) (by decide) (by decide) k) ?_
  show own_Goes _ _ _ _ _ _ _ T6 (mkF m 9 #[.val (.ref a1), .val (.ref h0.size), .val (.int (14 : Int32)), .val (.int (3 : Int32)), .val (.ref aSIGNED_CHAR)] [])
  refine own_go (fun _ k => XS.iloadN X6.here hx rfl (hb hby d2_9) rfl k) ?_
  show own_Goes _ _ _ _ _ _ _ T6 (mkF m 10 #[.val (.ref a1), .val (.ref h0.size), .val (.int (14 : Int32)), .val (.int (3 : Int32)), .val (.ref aSIGNED_CHAR)] [(.int (3 : Int32))])
  refine own_go (fun _ k => XS.iloadN X6.here hx rfl (hb hby d2_10) rfl k) ?_
  show own_Goes _ _ _ _ _ _ _ T6 (mkF m 11 #[.val (.ref a1), .val (.ref h0.size), .val (.int (14 : Int32)), .val (.int (3 : Int32)), .val (.ref aSIGNED_CHAR)] [(.int (14 : Int32)), (.int (3 : Int32))])
  refine own_go (fun _ k => XS.icmpNo X6.here hx rfl (hb hby d2_11) rfl (tlt (by decide : (3 : Int32) < (14 : Int32))).2.1 k) ?_
  show own_Goes _ _ _ _ _ _ _ T6 (mkF m 14 #[.val (.ref a1), .val (.ref h0.size), .val (.int (14 : Int32)), .val (.int (3 : Int32)), .val (.ref aSIGNED_CHAR)] [])
  refine own_go (fun _ k => XS.aloadN X6.here hx rfl (hb hby d2_14) rfl rfl k) ?_
  show own_Goes _ _ _ _ _ _ _ T6 (mkF m 15 #[.val (.ref a1), .val (.ref h0.size), .val (.int (14 : Int32)), .val (.int (3 : Int32)), .val (.ref aSIGNED_CHAR)] [(.ref h0.size)])
  refine own_go (fun _ k => XS.iloadN X6.here hx rfl (hb hby d2_15) rfl k) ?_
  show own_Goes _ _ _ _ _ _ _ T6 (mkF m 16 #[.val (.ref a1), .val (.ref h0.size), .val (.int (14 : Int32)), .val (.int (3 : Int32)), .val (.ref aSIGNED_CHAR)] [(.int (3 : Int32)), (.ref h0.size)])
  refine own_go (fun t k => X6.aaload hx (j := (3 : Int32)) (v := (.ref aUNSIGNED_CHAR)) (by rw [e6]; exact A1.1) (State.isArrayOf_alike hZ.alike A1.2.1) rfl A1.2.2 (by show ¬ (_ ∨ clV.slots.size ≤ _); rw [hsz]; decide) el_3 (g := (mkF m 16 #[.val (.ref a1), .val (.ref h0.size), .val (.int (14 : Int32)), .val (.int (3 : Int32)), .val (.ref aSIGNED_CHAR)] [(.int (3 : Int32)), (.ref h0.size)])) rfl rfl (hb hby d2_16) t k) ?_
  show own_Goes _ _ _ _ _ _ _ T6 (mkF m 17 #[.val (.ref a1), .val (.ref h0.size), .val (.int (14 : Int32)), .val (.int (3 : Int32)), .val (.ref aSIGNED_CHAR)] [(.ref aUNSIGNED_CHAR)])
  refine own_go (fun _ k => XS.astore X6.here hx rfl (hb hby d2_17) rfl rfl (l' := #[.val (.ref a1), .val (.ref h0.size), .val (.int (14 : Int32)), .val (.int (3 : Int32)), .val (.ref aUNSIGNED_CHAR)]) rfl k) ?_
  show own_Goes _ _ _ _ _ _ _ T6 (mkF m 19 #[.val (.ref a1), .val (.ref h0.size), .val (.int (14 : Int32)), .val (.int (3 : Int32)), .val (.ref aUNSIGNED_CHAR)] [])
  refine own_go (fun _ k => XS.aload X6.here hx rfl (hb hby d2_19) rfl rfl k) ?_
  show own_Goes _ _ _ _ _ _ _ T6 (mkF m 21 #[.val (.ref a1), .val (.ref h0.size), .val (.int (14 : Int32)), .val (.int (3 : Int32)), .val (.ref aUNSIGNED_CHAR)] [(.ref aUNSIGNED_CHAR)])
  obtain ⟨T7, X7, e7, st7⟩ := getF X6 hx hZ hown (host := "") (Or.inl (hw _ (List.mem_of_getElem? (i := 41) rfl))) Via.refl e6 (G_UNSIGNED_CHAR.ext Od1.2) (g := (mkF m 21 #[.val (.ref a1), .val (.ref h0.size), .val (.int (14 : Int32)), .val (.int (3 : Int32)), .val (.ref aUNSIGNED_CHAR)] [(.ref aUNSIGNED_CHAR)])) rfl rfl (hb hby d2_21)
  refine own_go st7 ?_
  show own_Goes _ _ _ _ _ _ _ T7 (mkF m 24 #[.val (.ref a1), .val (.ref h0.size), .val (.int (14 : Int32)), .val (.int (3 : Int32)), .val (.ref aUNSIGNED_CHAR)] [(.int (0 : Int32))])
  refine own_go (fun _ k => XS.ifNo X7.here hx rfl (hb hby d2_24) rfl ((if0 _ _).trans (teq (by decide : (0 : Int32) = (0 : Int32))).2) k) ?_
  show own_Goes _ _ _ _ _ _ _ T7 (mkF m 27 #[.val (.ref a1), .val (.ref h0.size), .val (.int (14 : Int32)), .val (.int (3 : Int32)), .val (.ref aUNSIGNED_CHAR)] [])
  refine own_go (fun _ k => XS.aload X7.here hx rfl (hb hby d2_27) rfl rfl k) ?_
  show own_Goes _ _ _ _ _ _ _ T7 (mkF m 29 #[.val (.ref a1), .val (.ref h0.size), .val (.int (14 : Int32)), .val (.int (3 : Int32)), .val (.ref aUNSIGNED_CHAR)] [(.ref aUNSIGNED_CHAR)])
  obtain ⟨T8, X8, e8, st8⟩ := getF X7 hx hZ hown (host := "") (Or.inl (hw _ (List.mem_of_getElem? (i := 43) rfl))) Via.refl e7 (R_UNSIGNED_CHAR.ext Od1.2) (g := (mkF m 29 #[.val (.ref a1), .val (.ref h0.size), .val (.int (14 : Int32)), .val (.int (3 : Int32)), .val (.ref aUNSIGNED_CHAR)] [(.ref aUNSIGNED_CHAR)])) rfl rfl (hb hby d2_29)
  refine own_go st8 ?_
  show own_Goes _ _ _ _ _ _ _ T8 (mkF m 32 #[.val (.ref a1), .val (.ref h0.size), .val (.int (14 : Int32)), .val (.int (3 : Int32)), .val (.ref aUNSIGNED_CHAR)] [(.int (1 : Int32))])
  refine own_go (fun _ k => XS.aloadN X8.here hx rfl (hb hby d2_32) rfl rfl k) ?_
  show own_Goes _ _ _ _ _ _ _ T8 (mkF m 33 #[.val (.ref a1), .val (.ref h0.size), .val (.int (14 : Int32)), .val (.int (3 : Int32)), .val (.ref aUNSIGNED_CHAR)] [(.ref a1), (.int (1 : Int32))])
  obtain ⟨T9, X9, e9, st9⟩ := getF X8 hx hZ hown (host := "") (Or.inl (hw _ (List.mem_of_getElem? (i := 43) rfl))) Via.refl e8 (R_a1.ext Od1.2) (g := (mkF m 33 #[.val (.ref a1), .val (.ref h0.size), .val (.int (14 : Int32)), .val (.int (3 : Int32)), .val (.ref aUNSIGNED_CHAR)] [(.ref a1), (.int (1 : Int32))])) rfl rfl (hb hby d2_33)
  refine own_go st9 ?_
  show own_Goes _ _ _ _ _ _ _ T9 (mkF m 36 #[.val (.ref a1), .val (.ref h0.size), .val (.int (14 : Int32)), .val (.int (3 : Int32)), .val (.ref aUNSIGNED_CHAR)] [(.int (4 : Int32)), (.int (1 : Int32))])
  refine own_go (fun _ k => XS.icmpYes X9.here hx rfl (pc0 := 36) (pc' := 42) rfl (hb hby d2_36) rfl (feq (by decide : ¬ ((1 : Int32) = (4 : Int32)))).2 (by decide) (by decide) k) ?_
  show own_Goes _ _ _ _ _ _ _ T9 (mkF m 42 #[.val (.ref a1), .val (.ref h0.size), .val (.int (14 : Int32)), .val (.int (3 : Int32)), .val (.ref aUNSIGNED_CHAR)] [])
  refine own_go (fun _ k => XS.iinc X9.here hx rfl (hb hby d2_42) rfl (l' := #[.val (.ref a1), .val (.ref h0.size), .val (.int (14 : Int32)), .val (.int (4 : Int32)), .val (.ref aUNSIGNED_CHAR)]) rfl k) ?_
  show own_Goes _ _ _ _ _ _ _ T9 (mkF m 45 #[.val (.ref a1), .val (.ref h0.size), .val (.int (14 : Int32)), .val (.int (4 : Int32)), .val (.ref aUNSIGNED_CHAR)] [])
  refine own_go (fun _ k => XS.goto X9.here hx rfl (pc0 := 45) (pc' := 9) rfl (hb hby d2_45) (by decide) (by decide) k) ?_
  show own_Goes _ _ _ _ _ _ _ T9 (mkF m 9 #[.val (.ref a1), .val (.ref h0.size), .val (.int (14 : Int32)), .val (.int (4 : Int32)), .val (.ref aUNSIGNED_CHAR)] [])
  refine own_go (fun _ k => XS.iloadN X9.here hx rfl (hb hby d2_9) rfl k) ?_
  show own_Goes _ _ _ _ _ _ _ T9 (mkF m 10 #[.val (.ref a1), .val (.ref h0.size), .val (.int (14 : Int32)), .val (.int (4 : Int32)), .val (.ref aUNSIGNED_CHAR)] [(.int (4 : Int32))])
  refine own_go (fun _ k => XS.iloadN X9.here hx rfl (hb hby d2_10) rfl k) ?_
  show own_Goes _ _ _ _ _ _ _ T9 (mkF m 11 #[.val (.ref a1), .val (.ref h0.size), .val (.int (14 : Int32)), .val (.int (4 : Int32)), .val (.ref aUNSIGNED_CHAR)] [(.int (14 : Int32)), (.int (4 : Int32))])
  refine own_go (fun _ k => XS.icmpNo X9.here hx rfl (hb hby d2_11) rfl (tlt (by decide : (4 : Int32) < (14 : Int32))).2.1 k) ?_
  show own_Goes _ _ _ _ _ _ _ T9 (mkF m 14 #[.val (.ref a1), .val (.ref h0.size), .val (.int (14 : Int32)), .val (.int (4 : Int32)), .val (.ref aUNSIGNED_CHAR)] [])
  refine own_go (fun _ k => XS.aloadN X9.here hx rfl (hb hby d2_14) rfl rfl k) ?_
  show own_Goes _ _ _ _ _ _ _ T9 (mkF m 15 #[.val (.ref a1), .val (.ref h0.size), .val (.int (14 : Int32)), .val (.int (4 : Int32)), .val (.ref aUNSIGNED_CHAR)] [(.ref h0.size)])
  refine own_go (fun _ k => XS.iloadN X9.here hx rfl (hb hby d2_15) rfl k) ?_
  show own_Goes _ _ _ _ _ _ _ T9 (mkF m 16 #[.val (.ref a1), .val (.ref h0.size), .val (.int (14 : Int32)), .val (.int (4 : Int32)), .val (.ref aUNSIGNED_CHAR)] [(.int (4 : Int32)), (.ref h0.size)])
  refine own_go (fun t k => X9.aaload hx (j := (4 : Int32)) (v := (.ref aSHORT)) (by rw [e9]; exact A1.1) (State.isArrayOf_alike hZ.alike A1.2.1) rfl A1.2.2 (by show ¬ (_ ∨ clV.slots.size ≤ _); rw [hsz]; decide) el_4 (g := (mkF m 16 #[.val (.ref a1), .val (.ref h0.size), .val (.int (14 : Int32)), .val (.int (4 : Int32)), .val (.ref aUNSIGNED_CHAR)] [(.int (4 : Int32)), (.ref h0.size)])) rfl rfl (hb hby d2_16) t k) ?_
  show own_Goes _ _ _ _ _ _ _ T9 (mkF m 17 #[.val (.ref a1), .val (.ref h0.size), .val (.int (14 : Int32)), .val (.int (4 : Int32)), .val (.ref aUNSIGNED_CHAR)] [(.ref aSHORT)])
  refine own_go (fun _ k => XS.astore X9.here hx rfl (hb hby d2_17) rfl rfl (l' := #[.val (.ref a1), .val (.ref h0.size), .val (.int (14 : Int32)), .val (.int (4 : Int32)), .val (.ref aSHORT)]) rfl k) ?_
  show own_Goes _ _ _ _ _ _ _ T9 (mkF m 19 #[.val (.ref a1), .val (.ref h0.size), .val (.int (14 : Int32)), .val (.int (4 : Int32)), .val (.ref aSHORT)] [])
  refine own_go (fun _ k => XS.aload X9.here hx rfl (hb hby d2_19) rfl rfl k) ?_
  show own_Goes _ _ _ _ _ _ _ T9 (mkF m 21 #[.val (.ref a1), .val (.ref h0.size), .val (.int (14 : Int32)), .val (.int (4 : Int32)), .val (.ref aSHORT)] [(.ref aSHORT)])
  obtain ⟨T10, X10, e10, st10⟩ := getF X9 hx hZ hown (host := "") (Or.inl (hw _ (List.mem_of_getElem? (i := 41) rfl))) Via.refl e9 (G_SHORT.ext Od1.2) (g := (mkF m 21 #[.val (.ref a1), .val (.ref h0.size), .val (.int (14 : Int32)), .val (.int (4 : Int32)), .val (.ref aSHORT)] [(.ref aSHORT)])) rfl rfl (hb hby d2_21)
  refine own_go st10 ?_
  show own_Goes _ _ _ _ _ _ _ T10 (mkF m 24 #[.val (.ref a1), .val (.ref h0.size), .val (.int (14 : Int32)), .val (.int (4 : Int32)), .val (.ref aSHORT)] [(.int (1 : Int32))])
  refine own_go (fun _ k => XS.ifYes X10.here hx rfl (pc0 := 24) (pc' := 42) rfl (hb hby d2_24) rfl ((if0 _ _).trans (feq (by decide : ¬ ((1 : Int32) = (0 : Int32)))).2) (by decide) (by decide) k) ?_
  show own_Goes _ _ _ _ _ _ _ T10 (mkF m 42 #[.val (.ref a1), .val (.ref h0.size), .val (.int (14 : Int32)), .val (.int (4 : Int32)), .val (.ref aSHORT)] [])
  refine own_go (fun _ k => XS.iinc X10.here hx rfl (hb hby d2_42) rfl (l' := #[.val (.ref a1), .val (.ref h0.size), .val (.int (14 : Int32)), .val (.int (5 : Int32)), .val (.ref aSHORT)]) rfl k) ?_
  show own_Goes _ _ _ _ _ _ _ T10 (mkF m 45 #[.val (.ref a1), .val (.ref h0.size), .val (.int (14 : Int32)), .val (.int (5 : Int32)), .val (.ref aSHORT)] [])
  refine own_go (fun _ k => XS.goto X10.here hx rfl (pc0 := 45) (pc' := 9) rfl (hb hby d2_45) (by decide) (by decide) k) ?_
  show own_Goes _ _ _ _ _ _ _ T10 (mkF m 9 #[.val (.ref a1), .val (.ref h0.size), .val (.int (14 : Int32)), .val (.int (5 : Int32)), .val (.ref aSHORT)] [])
  refine own_go (fun _ k => XS.iloadN X10.here hx rfl (hb hby d2_9) rfl k) ?_
  show own_Goes _ _ _ _ _ _ _ T10 (mkF m 10 #[.val (.ref a1), .val (.ref h0.size), .val (.int (14 : Int32)), .val (.int (5 : Int32)), .val (.ref aSHORT)] [(.int (5 : Int32))])
  refine own_go (fun _ k => XS.iloadN X10.here hx rfl (hb hby d2_10) rfl k) ?_
  show own_Goes _ _ _ _ _ _ _ T10 (mkF m 11 #[.val (.ref a1), .val (.ref h0.size), .val (.int (14 : Int32)), .val (.int (5 : Int32)), .val (.ref aSHORT)] [(.int (14 : Int32)), (.int (5 : Int32))])
  refine own_go (fun _ k => XS.icmpNo X10.here hx rfl (hb hby d2_11) rfl (tlt (by decide : (5 : Int32) < (14 : Int32))).2.1 k) ?_
  show own_Goes _ _ _ _ _ _ _ T10 (mkF m 14 #[.val (.ref a1), .val (.ref h0.size), .val (.int (14 : Int32)), .val (.int (5 : Int32)), .val (.ref aSHORT)] [])
  refine own_go (fun _ k => XS.aloadN X10.here hx rfl (hb hby d2_14) rfl rfl k) ?_
  show own_Goes _ _ _ _ _ _ _ T10 (mkF m 15 #[.val (.ref a1), .val (.ref h0.size), .val (.int (14 : Int32)), .val (.int (5 : Int32)), .val (.ref aSHORT)] [(.ref h0.size)])
  refine own_go (fun _ k => XS.iloadN X10.here hx rfl (hb hby d2_15) rfl k) ?_
  show own_Goes _ _ _ _ _ _ _ T10 (mkF m 16 #[.val (.ref a1), .val (.ref h0.size), .val (.int (14 : Int32)), .val (.int (5 : Int32)), .val (.ref aSHORT)] [(.int (5 : Int32)), (.ref h0.size)])
  refine own_go (fun t k => X10.aaload hx (j := (5 : Int32)) (v := (.ref aUNSIGNED_SHORT)) (by rw [e10]; exact A1.1) (State.isArrayOf_alike hZ.alike A1.2.1) rfl A1.2.2 (by show ¬ (_ ∨ clV.slots.size ≤ _); rw [hsz]; decide) el_5 (g := (mkF m 16 #[.val (.ref a1), .val (.ref h0.size), .val (.int (14 : Int32)), .val (.int (5 : Int32)), .val (.ref aSHORT)] [(.int (5 : Int32)), (.ref h0.size)])) rfl rfl (hb hby d2_16) t k) ?_
  show own_Goes _ _ _ _ _ _ _ T10 (mkF m 17 #[.val (.ref a1), .val (.ref h0.size), .val (.int (14 : Int32)), .val (.int (5 : Int32)), .val (.ref aSHORT)] [(.ref aUNSIGNED_SHORT)])
  refine own_go (fun _ k => XS.astore X10.here hx rfl (hb hby d2_17) rfl rfl (l' := #[.val (.ref a1), .val (.ref h0.size), .val (.int (14 : Int32)), .val (.int (5 : Int32)), .val (.ref aUNSIGNED_SHORT)]) rfl k) ?_
  show own_Goes _ _ _ _ _ _ _ T10 (mkF m 19 #[.val (.ref a1), .val (.ref h0.size), .val (.int (14 : Int32)), .val (.int (5 : Int32)), .val (.ref aUNSIGNED_SHORT)] [])
  refine own_go (fun _ k => XS.aload X10.here hx rfl (hb hby d2_19) rfl rfl k) ?_
  show own_Goes _ _ _ _ _ _ _ T10 (mkF m 21 #[.val (.ref a1), .val (.ref h0.size), .val (.int (14 : Int32)), .val (.int (5 : Int32)), .val (.ref aUNSIGNED_SHORT)] [(.ref aUNSIGNED_SHORT)])
  obtain ⟨T11, X11, e11, st11⟩ := getF X10 hx hZ hown (host := "") (Or.inl (hw _ (List.mem_of_getElem? (i := 41) rfl))) Via.refl e10 (G_UNSIGNED_SHORT.ext Od1.2) (g := (mkF m 21 #[.val (.ref a1), .val (.ref h0.size), .val (.int (14 : Int32)), .val (.int (5 : Int32)), .val (.ref aUNSIGNED_SHORT)] [(.ref aUNSIGNED_SHORT)])) rfl rfl (hb hby d2_21)
  refine own_go st11 ?_
  show own_Goes _ _ _ _ _ _ _ T11 (mkF m 24 #[.val (.ref a1), .val (.ref h0.size), .val (.int (14 : Int32)), .val (.int (5 : Int32)), .val (.ref aUNSIGNED_SHORT)] [(.int (0 : Int32))])
  refine own_go (fun _ k => XS.ifNo X11.here hx rfl (hb hby d2_24) rfl ((if0 _ _).trans (teq (by decide : (0 : Int32) = (0 : Int32))).2) k) ?_
  show own_Goes _ _ _ _ _ _ _ T11 (mkF m 27 #[.val (.ref a1), .val (.ref h0.size), .val (.int (14 : Int32)), .val (.int (5 : Int32)), .val (.ref aUNSIGNED_SHORT)] [])
  refine own_go (fun _ k => XS.aload X11.here hx rfl (hb hby d2_27) rfl rfl k) ?_
  show own_Goes _ _ _ _ _ _ _ T11 (mkF m 29 #[.val (.ref a1), .val (.ref h0.size), .val (.int (14 : Int32)), .val (.int (5 : Int32)), .val (.ref aUNSIGNED_SHORT)] [(.ref aUNSIGNED_SHORT)])
  obtain ⟨T12, X12, e12, st12⟩ := getF X11 hx hZ hown (host := "") (Or.inl (hw _ (List.mem_of_getElem? (i := 43) rfl))) Via.refl e11 (R_UNSIGNED_SHORT.ext Od1.2) (g := (mkF m 29 #[.val (.ref a1), .val (.ref h0.size), .val (.int (14 : Int32)), .val (.int (5 : Int32)), .val (.ref aUNSIGNED_SHORT)] [(.ref aUNSIGNED_SHORT)])) rfl rfl (hb hby d2_29)
  refine own_go st12 ?_
  show own_Goes _ _ _ _ _ _ _ T12 (mkF m 32 #[.val (.ref a1), .val (.ref h0.size), .val (.int (14 : Int32)), .val (.int (5 : Int32)), .val (.ref aUNSIGNED_SHORT)] [(.int (2 : Int32))])
  refine own_go (fun _ k => XS.aloadN X12.here hx rfl (hb hby d2_32) rfl rfl k) ?_
  show own_Goes _ _ _ _ _ _ _ T12 (mkF m 33 #[.val (.ref a1), .val (.ref h0.size), .val (.int (14 : Int32)), .val (.int (5 : Int32)), .val (.ref aUNSIGNED_SHORT)] [(.ref a1), (.int (2 : Int32))])
  obtain ⟨T13, X13, e13, st13⟩ := getF X12 hx hZ hown (host := "") (Or.inl (hw _ (List.mem_of_getElem? (i := 43) rfl))) Via.refl e12 (R_a1.ext Od1.2) (g := (mkF m 33 #[.val (.ref a1), .val (.ref h0.size), .val (.int (14 : Int32)), .val (.int (5 : Int32)), .val (.ref aUNSIGNED_SHORT)] [(.ref a1), (.int (2 : Int32))])) rfl rfl (hb hby d2_33)
  refine own_go st13 ?_
  show own_Goes _ _ _ _ _ _ _ T13 (mkF m 36 #[.val (.ref a1), .val (.ref h0.size), .val (.int (14 : Int32)), .val (.int (5 : Int32)), .val (.ref aUNSIGNED_SHORT)] [(.int (4 : Int32)), (.int (2 : Int32))])
  refine own_go (fun _ k => XS.icmpYes X13.here hx rfl (pc0 := 36) (pc' := 42) rfl (hb hby d2_36) rfl (feq (by decide : ¬ ((2 : Int32) = (4 : Int32)))).2 (by decide) (by decide) k) ?_
  show own_Goes _ _ _ _ _ _ _ T13 (mkF m 42 #[.val (.ref a1), .val (.ref h0.size), .val (.int (14 : Int32)), .val (.int (5 : Int32)), .val (.ref aUNSIGNED_SHORT)] [])
  refine own_go (fun _ k => XS.iinc X13.here hx rfl (hb hby d2_42) rfl (l' := #[.val (.ref a1), .val (.ref h0.size), .val (.int (14 : Int32)), .val (.int (6 : Int32)), .val (.ref aUNSIGNED_SHORT)]) rfl k) ?_
  show own_Goes _ _ _ _ _ _ _ T13 (mkF m 45 #[.val (.ref a1), .val (.ref h0.size), .val (.int (14 : Int32)), .val (.int (6 : Int32)), .val (.ref aUNSIGNED_SHORT)] [])
  refine own_go (fun _ k => XS.goto X13.here hx rfl (pc0 := 45) (pc' := 9) rfl (hb hby d2_45) (by decide) (by decide) k) ?_
  show own_Goes _ _ _ _ _ _ _ T13 (mkF m 9 #[.val (.ref a1), .val (.ref h0.size), .val (.int (14 : Int32)), .val (.int (6 : Int32)), .val (.ref aUNSIGNED_SHORT)] [])
  refine own_go (fun _ k => XS.iloadN X13.here hx rfl (hb hby d2_9) rfl k) ?_
  show own_Goes _ _ _ _ _ _ _ T13 (mkF m 10 #[.val (.ref a1), .val (.ref h0.size), .val (.int (14 : Int32)), .val (.int (6 : Int32)), .val (.ref aUNSIGNED_SHORT)] [(.int (6 : Int32))])
  refine own_go (fun _ k => XS.iloadN X13.here hx rfl (hb hby d2_10) rfl k) ?_
  show own_Goes _ _ _ _ _ _ _ T13 (mkF m 11 #[.val (.ref a1), .val (.ref h0.size), .val (.int (14 : Int32)), .val (.int (6 : Int32)), .val (.ref aUNSIGNED_SHORT)] [(.int (14 : Int32)), (.int (6 : Int32))])
  refine own_go (fun _ k => XS.icmpNo X13.here hx rfl (hb hby d2_11) rfl (tlt (by decide : (6 : Int32) < (14 : Int32))).2.1 k) ?_
  show own_Goes _ _ _ _ _ _ _ T13 (mkF m 14 #[.val (.ref a1), .val (.ref h0.size), .val (.int (14 : Int32)), .val (.int (6 : Int32)), .val (.ref aUNSIGNED_SHORT)] [])
  refine own_go (fun _ k => XS.aloadN X13.here hx rfl (hb hby d2_14) rfl rfl k) ?_
  show own_Goes _ _ _ _ _ _ _ T13 (mkF m 15 #[.val (.ref a1), .val (.ref h0.size), .val (.int (14 : Int32)), .val (.int (6 : Int32)), .val (.ref aUNSIGNED_SHORT)] [(.ref h0.size)])
  refine own_go (fun _ k => XS.iloadN X13.here hx rfl (hb hby d2_15) rfl k) ?_
  show own_Goes _ _ _ _ _ _ _ T13 (mkF m 16 #[.val (.ref a1), .val (.ref h0.size), .val (.int (14 : Int32)), .val (.int (6 : Int32)), .val (.ref aUNSIGNED_SHORT)] [(.int (6 : Int32)), (.ref h0.size)])
  refine own_go (fun t k => X13.aaload hx (j := (6 : Int32)) (v := (.ref aINT)) (by rw [e13]; exact A1.1) (State.isArrayOf_alike hZ.alike A1.2.1) rfl A1.2.2 (by show ¬ (_ ∨ clV.slots.size ≤ _); rw [hsz]; decide) el_6 (g := (mkF m 16 #[.val (.ref a1), .val (.ref h0.size), .val (.int (14 : Int32)), .val (.int (6 : Int32)), .val (.ref aUNSIGNED_SHORT)] [(.int (6 : Int32)), (.ref h0.size)])) rfl rfl (hb hby d2_16) t k) ?_
  show own_Goes _ _ _ _ _ _ _ T13 (mkF m 17 #[.val (.ref a1), .val (.ref h0.size), .val (.int (14 : Int32)), .val (.int (6 : Int32)), .val (.ref aUNSIGNED_SHORT)] [(.ref aINT)])
  refine own_go (fun _ k => XS.astore X13.here hx rfl (hb hby d2_17) rfl rfl (l' := #[.val (.ref a1), .val (.ref h0.size), .val (.int (14 : Int32)), .val (.int (6 : Int32)), .val (.ref aINT)]) rfl k) ?_
  show own_Goes _ _ _ _ _ _ _ T13 (mkF m 19 #[.val (.ref a1), .val (.ref h0.size), .val (.int (14 : Int32)), .val (.int (6 : Int32)), .val (.ref aINT)] [])
  refine own_go (fun _ k => XS.aload X13.here hx rfl (hb hby d2_19) rfl rfl k) ?_
  show own_Goes _ _ _ _ _ _ _ T13 (mkF m 21 #[.val (.ref a1), .val (.ref h0.size), .val (.int (14 : Int32)), .val (.int (6 : Int32)), .val (.ref aINT)] [(.ref aINT)])
  obtain ⟨T14, X14, e14, st14⟩ := getF X13 hx hZ hown (host := "") (Or.inl (hw _ (List.mem_of_getElem? (i := 41) rfl))) Via.refl e13 (G_INT.ext Od1.2) (g := (mkF m 21 #[.val (.ref a1), .val (.ref h0.size), .val (.int (14 : Int32)), .val (.int (6 : Int32)), .val (.ref aINT)] [(.ref aINT)])) rfl rfl (hb hby d2_21)
  refine own_go st14 ?_
  show own_Goes _ _ _ _ _ _ _ T14 (mkF m 24 #[.val (.ref a1), .val (.ref h0.size), .val (.int (14 : Int32)), .val (.int (6 : Int32)), .val (.ref aINT)] [(.int (1 : Int32))])
  refine own_go (fun _ k => XS.ifYes X14.here hx rfl (pc0 := 24) (pc' := 42) rfl (hb hby d2_24) rfl ((if0 _ _).trans (feq (by decide : ¬ ((1 : Int32) = (0 : Int32)))).2) (by decide) (by decide) k) ?_
  show own_Goes _ _ _ _ _ _ _ T14 (mkF m 42 #[.val (.ref a1), .val (.ref h0.size), .val (.int (14 : Int32)), .val (.int (6 : Int32)), .val (.ref aINT)] [])
  refine own_go (fun _ k => XS.iinc X14.here hx rfl (hb hby d2_42) rfl (l' := #[.val (.ref a1), .val (.ref h0.size), .val (.int (14 : Int32)), .val (.int (7 : Int32)), .val (.ref aINT)]) rfl k) ?_
  show own_Goes _ _ _ _ _ _ _ T14 (mkF m 45 #[.val (.ref a1), .val (.ref h0.size), .val (.int (14 : Int32)), .val (.int (7 : Int32)), .val (.ref aINT)] [])
  refine own_go (fun _ k => XS.goto X14.here hx rfl (pc0 := 45) (pc' := 9) rfl (hb hby d2_45) (by decide) (by decide) k) ?_
  show own_Goes _ _ _ _ _ _ _ T14 (mkF m 9 #[.val (.ref a1), .val (.ref h0.size), .val (.int (14 : Int32)), .val (.int (7 : Int32)), .val (.ref aINT)] [])
  refine own_go (fun _ k => XS.iloadN X14.here hx rfl (hb hby d2_9) rfl k) ?_
  show own_Goes _ _ _ _ _ _ _ T14 (mkF m 10 #[.val (.ref a1), .val (.ref h0.size), .val (.int (14 : Int32)), .val (.int (7 : Int32)), .val (.ref aINT)] [(.int (7 : Int32))])
  refine own_go (fun _ k => XS.iloadN X14.here hx rfl (hb hby d2_10) rfl k) ?_
  show own_Goes _ _ _ _ _ _ _ T14 (mkF m 11 #[.val (.ref a1), .val (.ref h0.size), .val (.int (14 : Int32)), .val (.int (7 : Int32)), .val (.ref aINT)] [(.int (14 : Int32)), (.int (7 : Int32))])
  refine own_go (fun _ k => XS.icmpNo X14.here hx rfl (hb hby d2_11) rfl (tlt (by decide : (7 : Int32) < (14 : Int32))).2.1 k) ?_
  show own_Goes _ _ _ _ _ _ _ T14 (mkF m 14 #[.val (.ref a1), .val (.ref h0.size), .val (.int (14 : Int32)), .val (.int (7 : Int32)), .val (.ref aINT)] [])
  refine own_go (fun _ k => XS.aloadN X14.here hx rfl (hb hby d2_14) rfl rfl k) ?_
  show own_Goes _ _ _ _ _ _ _ T14 (mkF m 15 #[.val (.ref a1), .val (.ref h0.size), .val (.int (14 : Int32)), .val (.int (7 : Int32)), .val (.ref aINT)] [(.ref h0.size)])
  refine own_go (fun _ k => XS.iloadN X14.here hx rfl (hb hby d2_15) rfl k) ?_
  show own_Goes _ _ _ _ _ _ _ T14 (mkF m 16 #[.val (.ref a1), .val (.ref h0.size), .val (.int (14 : Int32)), .val (.int (7 : Int32)), .val (.ref aINT)] [(.int (7 : Int32)), (.ref h0.size)])
  refine own_go (fun t k => X14.aaload hx (j := (7 : Int32)) (v := (.ref aUNSIGNED_INT)) (by rw [e14]; exact A1.1) (State.isArrayOf_alike hZ.alike A1.2.1) rfl A1.2.2 (by show ¬ (_ ∨ clV.slots.size ≤ _); rw [hsz]; decide) el_7 (g := (mkF m 16 #[.val (.ref a1), .val (.ref h0.size), .val (.int (14 : Int32)), .val (.int (7 : Int32)), .val (.ref aINT)] [(.int (7 : Int32)), (.ref h0.size)])) rfl rfl (hb hby d2_16) t k) ?_
  show own_Goes _ _ _ _ _ _ _ T14 (mkF m 17 #[.val (.ref a1), .val (.ref h0.size), .val (.int (14 : Int32)), .val (.int (7 : Int32)), .val (.ref aINT)] [(.ref aUNSIGNED_INT)])
  refine own_go (fun _ k => XS.astore X14.here hx rfl (hb hby d2_17) rfl rfl (l' := #[.val (.ref a1), .val (.ref h0.size), .val (.int (14 : Int32)), .val (.int (7 : Int32)), .val (.ref aUNSIGNED_INT)]) rfl k) ?_
  show own_Goes _ _ _ _ _ _ _ T14 (mkF m 19 #[.val (.ref a1), .val (.ref h0.size), .val (.int (14 : Int32)), .val (.int (7 : Int32)), .val (.ref aUNSIGNED_INT)] [])
  refine own_go (fun _ k => XS.aload X14.here hx rfl (hb hby d2_19) rfl rfl k) ?_
  show own_Goes _ _ _ _ _ _ _ T14 (mkF m 21 #[.val (.ref a1), .val (.ref h0.size), .val (.int (14 : Int32)), .val (.int (7 : Int32)), .val (.ref aUNSIGNED_INT)] [(.ref aUNSIGNED_INT)])
  obtain ⟨T15, X15, e15, st15⟩ := getF X14 hx hZ hown (host := "") (Or.inl (hw _ (List.mem_of_getElem? (i := 41) rfl))) Via.refl e14 (G_UNSIGNED_INT.ext Od1.2) (g := (mkF m 21 #[.val (.ref a1), .val (.ref h0.size), .val (.int (14 : Int32)), .val (.int (7 : Int32)), .val (.ref aUNSIGNED_INT)] [(.ref aUNSIGNED_INT)])) rfl rfl (hb hby d2_21)
  refine own_go st15 ?_
  show own_Goes _ _ _ _ _ _ _ T15 (mkF m 24 #[.val (.ref a1), .val (.ref h0.size), .val (.int (14 : Int32)), .val (.int (7 : Int32)), .val (.ref aUNSIGNED_INT)] [(.int (0 : Int32))])
  refine own_go (fun _ k => XS.ifNo X15.here hx rfl (hb hby d2_24) rfl ((if0 _ _).trans (teq (by decide : (0 : Int32) = (0 : Int32))).2) k) ?_
  show own_Goes _ _ _ _ _ _ _ T15 (mkF m 27 #[.val (.ref a1), .val (.ref h0.size), .val (.int (14 : Int32)), .val (.int (7 : Int32)), .val (.ref aUNSIGNED_INT)] [])
  refine own_go (fun _ k => XS.aload X15.here hx rfl (hb hby d2_27) rfl rfl k) ?_
  show own_Goes _ _ _ _ _ _ _ T15 (mkF m 29 #[.val (.ref a1), .val (.ref h0.size), .val (.int (14 : Int32)), .val (.int (7 : Int32)), .val (.ref aUNSIGNED_INT)] [(.ref aUNSIGNED_INT)])
  obtain ⟨T16, X16, e16, st16⟩ := getF X15 hx hZ hown (host := "") (Or.inl (hw _ (List.mem_of_getElem? (i := 43) rfl))) Via.refl e15 (R_UNSIGNED_INT.ext Od1.2) (g := (mkF m 29 #[.val (.ref a1), .val (.ref h0.size), .val (.int (14 : Int32)), .val (.int (7 : Int32)), .val (.ref aUNSIGNED_INT)] [(.ref aUNSIGNED_INT)])) rfl rfl (hb hby d2_29)
  refine own_go st16 ?_
  show own_Goes _ _ _ _ _ _ _ T16 (mkF m 32 #[.val (.ref a1), .val (.ref h0.size), .val (.int (14 : Int32)), .val (.int (7 : Int32)), .val (.ref aUNSIGNED_INT)] [(.int (3 : Int32))])
  refine own_go (fun _ k => XS.aloadN X16.here hx rfl (hb hby d2_32) rfl rfl k) ?_
  show own_Goes _ _ _ _ _ _ _ T16 (mkF m 33 #[.val (.ref a1), .val (.ref h0.size), .val (.int (14 : Int32)), .val (.int (7 : Int32)), .val (.ref aUNSIGNED_INT)] [(.ref a1), (.int (3 : Int32))])
  obtain ⟨T17, X17, e17, st17⟩ := getF X16 hx hZ hown (host := "") (Or.inl (hw _ (List.mem_of_getElem? (i := 43) rfl))) Via.refl e16 (R_a1.ext Od1.2) (g := (mkF m 33 #[.val (.ref a1), .val (.ref h0.size), .val (.int (14 : Int32)), .val (.int (7 : Int32)), .val (.ref aUNSIGNED_INT)] [(.ref a1), (.int (3 : Int32))])) rfl rfl (hb hby d2_33)
  refine own_go st17 ?_
  show own_Goes _ _ _ _ _ _ _ T17 (mkF m 36 #[.val (.ref a1), .val (.ref h0.size), .val (.int (14 : Int32)), .val (.int (7 : Int32)), .val (.ref aUNSIGNED_INT)] [(.int (4 : Int32)), (.int (3 : Int32))])
  refine own_go (fun _ k => XS.icmpYes X17.here hx rfl (pc0 := 36) (pc' := 42) rfl (hb hby d2_36) rfl (feq (by decide : ¬ ((3 : Int32) = (4 : Int32)))).2 (by decide) (by decide) k) ?_
  show own_Goes _ _ _ _ _ _ _ T17 (mkF m 42 #[.val (.ref a1), .val (.ref h0.size), .val (.int (14 : Int32)), .val (.int (7 : Int32)), .val (.ref aUNSIGNED_INT)] [])
  refine own_go (fun _ k => XS.iinc X17.here hx rfl (hb hby d2_42) rfl (l' := #[.val (.ref a1), .val (.ref h0.size), .val (.int (14 : Int32)), .val (.int (8 : Int32)), .val (.ref aUNSIGNED_INT)]) rfl k) ?_
  show own_Goes _ _ _ _ _ _ _ T17 (mkF m 45 #[.val (.ref a1), .val (.ref h0.size), .val (.int (14 : Int32)), .val (.int (8 : Int32)), .val (.ref aUNSIGNED_INT)] [])
  refine own_go (fun _ k => XS.goto X17.here hx rfl (pc0 := 45) (pc' := 9) rfl (hb hby d2_45) (by decide) (by decide) k) ?_
  show own_Goes _ _ _ _ _ _ _ T17 (mkF m 9 #[.val (.ref a1), .val (.ref h0.size), .val (.int (14 : Int32)), .val (.int (8 : Int32)), .val (.ref aUNSIGNED_INT)] [])
  refine own_go (fun _ k => XS.iloadN X17.here hx rfl (hb hby d2_9) rfl k) ?_
  show own_Goes _ _ _ _ _ _ _ T17 (mkF m 10 #[.val (.ref a1), .val (.ref h0.size), .val (.int (14 : Int32)), .val (.int (8 : Int32)), .val (.ref aUNSIGNED_INT)] [(.int (8 : Int32))])
  refine own_go (fun _ k => XS.iloadN X17.here hx rfl (hb hby d2_10) rfl k) ?_
  show own_Goes _ _ _ _ _ _ _ T17 (mkF m 11 #[.val (.ref a1), .val (.ref h0.size), .val (.int (14 : Int32)), .val (.int (8 : Int32)), .val (.ref aUNSIGNED_INT)] [(.int (14 : Int32)), (.int (8 : Int32))])
  refine own_go (fun _ k => XS.icmpNo X17.here hx rfl (hb hby d2_11) rfl (tlt (by decide : (8 : Int32) < (14 : Int32))).2.1 k) ?_
  show own_Goes _ _ _ _ _ _ _ T17 (mkF m 14 #[.val (.ref a1), .val (.ref h0.size), .val (.int (14 : Int32)), .val (.int (8 : Int32)), .val (.ref aUNSIGNED_INT)] [])
  refine own_go (fun _ k => XS.aloadN X17.here hx rfl (hb hby d2_14) rfl rfl k) ?_
  show own_Goes _ _ _ _ _ _ _ T17 (mkF m 15 #[.val (.ref a1), .val (.ref h0.size), .val (.int (14 : Int32)), .val (.int (8 : Int32)), .val (.ref aUNSIGNED_INT)] [(.ref h0.size)])
  refine own_go (fun _ k => XS.iloadN X17.here hx rfl (hb hby d2_15) rfl k) ?_
  show own_Goes _ _ _ _ _ _ _ T17 (mkF m 16 #[.val (.ref a1), .val (.ref h0.size), .val (.int (14 : Int32)), .val (.int (8 : Int32)), .val (.ref aUNSIGNED_INT)] [(.int (8 : Int32)), (.ref h0.size)])
  refine own_go (fun t k => X17.aaload hx (j := (8 : Int32)) (v := (.ref aLONG)) (by rw [e17]; exact A1.1) (State.isArrayOf_alike hZ.alike A1.2.1) rfl A1.2.2 (by show ¬ (_ ∨ clV.slots.size ≤ _); rw [hsz]; decide) el_8 (g := (mkF m 16 #[.val (.ref a1), .val (.ref h0.size), .val (.int (14 : Int32)), .val (.int (8 : Int32)), .val (.ref aUNSIGNED_INT)] [(.int (8 : Int32)), (.ref h0.size)])) rfl rfl (hb hby d2_16) t k) ?_
  show own_Goes _ _ _ _ _ _ _ T17 (mkF m 17 #[.val (.ref a1), .val (.ref h0.size), .val (.int (14 : Int32)), .val (.int (8 : Int32)), .val (.ref aUNSIGNED_INT)] [(.ref aLONG)])
  refine own_go (fun _ k => XS.astore X17.here hx rfl (hb hby d2_17) rfl rfl (l' := #[.val (.ref a1), .val (.ref h0.size), .val (.int (14 : Int32)), .val (.int (8 : Int32)), .val (.ref aLONG)]) rfl k) ?_
  show own_Goes _ _ _ _ _ _ _ T17 (mkF m 19 #[.val (.ref a1), .val (.ref h0.size), .val (.int (14 : Int32)), .val (.int (8 : Int32)), .val (.ref aLONG)] [])
  refine own_go (fun _ k => XS.aload X17.here hx rfl (hb hby d2_19) rfl rfl k) ?_
  show own_Goes _ _ _ _ _ _ _ T17 (mkF m 21 #[.val (.ref a1), .val (.ref h0.size), .val (.int (14 : Int32)), .val (.int (8 : Int32)), .val (.ref aLONG)] [(.ref aLONG)])
  obtain ⟨T18, X18, e18, st18⟩ := getF X17 hx hZ hown (host := "") (Or.inl (hw _ (List.mem_of_getElem? (i := 41) rfl))) Via.refl e17 (G_LONG.ext Od1.2) (g := (mkF m 21 #[.val (.ref a1), .val (.ref h0.size), .val (.int (14 : Int32)), .val (.int (8 : Int32)), .val (.ref aLONG)] [(.ref aLONG)])) rfl rfl (hb hby d2_21)
  refine own_go st18 ?_
  show own_Goes _ _ _ _ _ _ _ T18 (mkF m 24 #[.val (.ref a1), .val (.ref h0.size), .val (.int (14 : Int32)), .val (.int (8 : Int32)), .val (.ref aLONG)] [(.int (1 : Int32))])
  refine own_go (fun _ k => XS.ifYes X18.here hx rfl (pc0 := 24) (pc' := 42) rfl (hb hby d2_24) rfl ((if0 _ _).trans (feq (by decide : ¬ ((1 : Int32) = (0 : Int32)))).2) (by decide) (by decide) k) ?_
  show own_Goes _ _ _ _ _ _ _ T18 (mkF m 42 #[.val (.ref a1), .val (.ref h0.size), .val (.int (14 : Int32)), .val (.int (8 : Int32)), .val (.ref aLONG)] [])
  refine own_go (fun _ k => XS.iinc X18.here hx rfl (hb hby d2_42) rfl (l' := #[.val (.ref a1), .val (.ref h0.size), .val (.int (14 : Int32)), .val (.int (9 : Int32)), .val (.ref aLONG)]) rfl k) ?_
  show own_Goes _ _ _ _ _ _ _ T18 (mkF m 45 #[.val (.ref a1), .val (.ref h0.size), .val (.int (14 : Int32)), .val (.int (9 : Int32)), .val (.ref aLONG)] [])
  refine own_go (fun _ k => XS.goto X18.here hx rfl (pc0 := 45) (pc' := 9) rfl (hb hby d2_45) (by decide) (by decide) k) ?_
  show own_Goes _ _ _ _ _ _ _ T18 (mkF m 9 #[.val (.ref a1), .val (.ref h0.size), .val (.int (14 : Int32)), .val (.int (9 : Int32)), .val (.ref aLONG)] [])
  refine own_go (fun _ k => XS.iloadN X18.here hx rfl (hb hby d2_9) rfl k) ?_
  show own_Goes _ _ _ _ _ _ _ T18 (mkF m 10 #[.val (.ref a1), .val (.ref h0.size), .val (.int (14 : Int32)), .val (.int (9 : Int32)), .val (.ref aLONG)] [(.int (9 : Int32))])
  refine own_go (fun _ k => XS.iloadN X18.here hx rfl (hb hby d2_10) rfl k) ?_
  show own_Goes _ _ _ _ _ _ _ T18 (mkF m 11 #[.val (.ref a1), .val (.ref h0.size), .val (.int (14 : Int32)), .val (.int (9 : Int32)), .val (.ref aLONG)] [(.int (14 : Int32)), (.int (9 : Int32))])
  refine own_go (fun _ k => XS.icmpNo X18.here hx rfl (hb hby d2_11) rfl (tlt (by decide : (9 : Int32) < (14 : Int32))).2.1 k) ?_
  show own_Goes _ _ _ _ _ _ _ T18 (mkF m 14 #[.val (.ref a1), .val (.ref h0.size), .val (.int (14 : Int32)), .val (.int (9 : Int32)), .val (.ref aLONG)] [])
  refine own_go (fun _ k => XS.aloadN X18.here hx rfl (hb hby d2_14) rfl rfl k) ?_
  show own_Goes _ _ _ _ _ _ _ T18 (mkF m 15 #[.val (.ref a1), .val (.ref h0.size), .val (.int (14 : Int32)), .val (.int (9 : Int32)), .val (.ref aLONG)] [(.ref h0.size)])
  refine own_go (fun _ k => XS.iloadN X18.here hx rfl (hb hby d2_15) rfl k) ?_
  show own_Goes _ _ _ _ _ _ _ T18 (mkF m 16 #[.val (.ref a1), .val (.ref h0.size), .val (.int (14 : Int32)), .val (.int (9 : Int32)), .val (.ref aLONG)] [(.int (9 : Int32)), (.ref h0.size)])
  refine own_go (fun t k => X18.aaload hx (j := (9 : Int32)) (v := (.ref aUNSIGNED_LONG)) (by rw [e18]; exact A1.1) (State.isArrayOf_alike hZ.alike A1.2.1) rfl A1.2.2 (by show ¬ (_ ∨ clV.slots.size ≤ _); rw [hsz]; decide) el_9 (g := (mkF m 16 #[.val (.ref a1), .val (.ref h0.size), .val (.int (14 : Int32)), .val (.int (9 : Int32)), .val (.ref aLONG)] [(.int (9 : Int32)), (.ref h0.size)])) rfl rfl (hb hby d2_16) t k) ?_
  show own_Goes _ _ _ _ _ _ _ T18 (mkF m 17 #[.val (.ref a1), .val (.ref h0.size), .val (.int (14 : Int32)), .val (.int (9 : Int32)), .val (.ref aLONG)] [(.ref aUNSIGNED_LONG)])
  refine own_go (fun _ k => XS.astore X18.here hx rfl (hb hby d2_17) rfl rfl (l' := #[.val (.ref a1), .val (.ref h0.size), .val (.int (14 : Int32)), .val (.int (9 : Int32)), .val (.ref aUNSIGNED_LONG)]) rfl k) ?_
  show own_Goes _ _ _ _ _ _ _ T18 (mkF m 19 #[.val (.ref a1), .val (.ref h0.size), .val (.int (14 : Int32)), .val (.int (9 : Int32)), .val (.ref aUNSIGNED_LONG)] [])
  refine own_go (fun _ k => XS.aload X18.here hx rfl (hb hby d2_19) rfl rfl k) ?_
  show own_Goes _ _ _ _ _ _ _ T18 (mkF m 21 #[.val (.ref a1), .val (.ref h0.size), .val (.int (14 : Int32)), .val (.int (9 : Int32)), .val (.ref aUNSIGNED_LONG)] [(.ref aUNSIGNED_LONG)])
  obtain ⟨T19, X19, e19, st19⟩ := getF X18 hx hZ hown (host := "") (Or.inl (hw _ (List.mem_of_getElem? (i := 41) rfl))) Via.refl e18 (G_UNSIGNED_LONG.ext Od1.2) (g := (mkF m 21 #[.val (.ref a1), .val (.ref h0.size), .val (.int (14 : Int32)), .val (.int (9 : Int32)), .val (.ref aUNSIGNED_LONG)] [(.ref aUNSIGNED_LONG)])) rfl rfl (hb hby d2_21)
  refine own_go st19 ?_
  show own_Goes _ _ _ _ _ _ _ T19 (mkF m 24 #[.val (.ref a1), .val (.ref h0.size), .val (.int (14 : Int32)), .val (.int (9 : Int32)), .val (.ref aUNSIGNED_LONG)] [(.int (0 : Int32))])
  refine own_go (fun _ k => XS.ifNo X19.here hx rfl (hb hby d2_24) rfl ((if0 _ _).trans (teq (by decide : (0 : Int32) = (0 : Int32))).2) k) ?_
  show own_Goes _ _ _ _ _ _ _ T19 (mkF m 27 #[.val (.ref a1), .val (.ref h0.size), .val (.int (14 : Int32)), .val (.int (9 : Int32)), .val (.ref aUNSIGNED_LONG)] [])
  refine own_go (fun _ k => XS.aload X19.here hx rfl (hb hby d2_27) rfl rfl k) ?_
  show own_Goes _ _ _ _ _ _ _ T19 (mkF m 29 #[.val (.ref a1), .val (.ref h0.size), .val (.int (14 : Int32)), .val (.int (9 : Int32)), .val (.ref aUNSIGNED_LONG)] [(.ref aUNSIGNED_LONG)])
  obtain ⟨T20, X20, e20, st20⟩ := getF X19 hx hZ hown (host := "") (Or.inl (hw _ (List.mem_of_getElem? (i := 43) rfl))) Via.refl e19 (R_UNSIGNED_LONG.ext Od1.2) (g := (mkF m 29 #[.val (.ref a1), .val (.ref h0.size), .val (.int (14 : Int32)), .val (.int (9 : Int32)), .val (.ref aUNSIGNED_LONG)] [(.ref aUNSIGNED_LONG)])) rfl rfl (hb hby d2_29)
  refine own_go st20 ?_
  show own_Goes _ _ _ _ _ _ _ T20 (mkF m 32 #[.val (.ref a1), .val (.ref h0.size), .val (.int (14 : Int32)), .val (.int (9 : Int32)), .val (.ref aUNSIGNED_LONG)] [(.int (4 : Int32))])
  refine own_go (fun _ k => XS.aloadN X20.here hx rfl (hb hby d2_32) rfl rfl k) ?_
  show own_Goes _ _ _ _ _ _ _ T20 (mkF m 33 #[.val (.ref a1), .val (.ref h0.size), .val (.int (14 : Int32)), .val (.int (9 : Int32)), .val (.ref aUNSIGNED_LONG)] [(.ref a1), (.int (4 : Int32))])
  obtain ⟨T21, X21, e21, st21⟩ := getF X20 hx hZ hown (host := "") (Or.inl (hw _ (List.mem_of_getElem? (i := 43) rfl))) Via.refl e20 (R_a1.ext Od1.2) (g := (mkF m 33 #[.val (.ref a1), .val (.ref h0.size), .val (.int (14 : Int32)), .val (.int (9 : Int32)), .val (.ref aUNSIGNED_LONG)] [(.ref a1), (.int (4 : Int32))])) rfl rfl (hb hby d2_33)
  refine own_go st21 ?_
  show own_Goes _ _ _ _ _ _ _ T21 (mkF m 36 #[.val (.ref a1), .val (.ref h0.size), .val (.int (14 : Int32)), .val (.int (9 : Int32)), .val (.ref aUNSIGNED_LONG)] [(.int (4 : Int32)), (.int (4 : Int32))])
  refine own_go (fun _ k => XS.icmpNo X21.here hx rfl (hb hby d2_36) rfl (teq (by decide : (4 : Int32) = (4 : Int32))).2 k) ?_
  show own_Goes _ _ _ _ _ _ _ T21 (mkF m 39 #[.val (.ref a1), .val (.ref h0.size), .val (.int (14 : Int32)), .val (.int (9 : Int32)), .val (.ref aUNSIGNED_LONG)] [])
  refine own_go (fun _ k => XS.aload X21.here hx rfl (hb hby d2_39) rfl rfl k) ?_
  show own_Goes _ _ _ _ _ _ _ T21 (mkF m 41 #[.val (.ref a1), .val (.ref h0.size), .val (.int (14 : Int32)), .val (.int (9 : Int32)), .val (.ref aUNSIGNED_LONG)] [(.ref aUNSIGNED_LONG)])
  exact own_retA X21 hx hlk hret rfl rfl (hb hby d2_41) (by decide) (by decide) (by rw [e21]; exact ⟨rfl, N1, E1⟩)
def Q_rmU5 (Z : State) (h0 : Heap) (n0 : Nat) (aUNSIGNED_LONG_LONG : Addr) (v : Option Value) (h : Heap) (L : List Loc) : Prop := v = some (.ref aUNSIGNED_LONG_LONG) ∧ Fr n0 L ∧ Ext h0 h
set_option maxRecDepth 65536 in
set_option maxHeartbeats 40000000 in
theorem rmU5 (l : Launch) (Z : State) (a0 : Array Value) (hw : ∀ d ∈ tables_1, d.before a0 Z = true) (ws : List Jvm.Cond) (a1 aV : Addr) (clV : Cell) (aBOOL aCHAR aSIGNED_CHAR aUNSIGNED_CHAR aSHORT aUNSIGNED_SHORT aINT aUNSIGNED_INT aLONG aUNSIGNED_LONG aLONG_LONG aUNSIGNED_LONG_LONG aINT128 aUNSIGNED_INT128 : Addr) (h0 : Heap) (n0 : Nat) (Z0 : n0 ≤ h0.size) (VV : own_VV Z aV clV aBOOL aCHAR aSIGNED_CHAR aUNSIGNED_CHAR aSHORT aUNSIGNED_SHORT aINT aUNSIGNED_INT aLONG aUNSIGNED_LONG aLONG_LONG aUNSIGNED_LONG_LONG aINT128 aUNSIGNED_INT128) (FF : own_FF Z aBOOL aCHAR aSIGNED_CHAR aUNSIGNED_CHAR aSHORT aUNSIGNED_SHORT aINT aUNSIGNED_INT aLONG aUNSIGNED_LONG aLONG_LONG aUNSIGNED_LONG_LONG aINT128 aUNSIGNED_INT128) (Od0 : Old Z n0 h0) (R_a1 : Fld Z Z.heap a1 "com/example/treellis/treellis/cfa/IntegerType" "rank" "I" (.int (5 : Int32))) :
    MetFree l (⟨"com/example/treellis/treellis/cfa/IntegerType", "toUnsigned", "()Lcom/example/treellis/treellis/cfa/IntegerType;"⟩ : MethodName) (head1 (Jvm.Cond.code (⟨"com/example/treellis/treellis/cfa/IntegerType", "toUnsigned", "()Lcom/example/treellis/treellis/cfa/IntegerType;"⟩ : MethodName) prog_44_method_6_code 5 (some (.object "com/example/treellis/treellis/cfa/IntegerType")) :: ws) ({ frames := 2, cells := 1, slots := 14, locals := 25 } : Room)) (fun a U => a = #[(.ref a1)] ∧ Z.Warmed39 U.vm ∧ U.heap = h0) (fun _ _ _ _ _ => True) (fun _ U o U' => ∃ rv rL, o = .returned rv ∧ Q_rmU5 Z h0 n0 aUNSIGNED_LONG_LONG rv U'.heap rL ∧ FrameEnd U o U' rL ({ frames := 2, cells := 1, slots := 14, locals := 25 } : Room).cells ({ frames := 2, cells := 1, slots := 14, locals := 25 } : Room).slots) := by
  refine own_met (y := (⟨"com/example/treellis/treellis/cfa/IntegerType", "toUnsigned", "()Lcom/example/treellis/treellis/cfa/IntegerType;"⟩ : MethodName)) (Q := Q_rmU5 Z h0 n0 aUNSIGNED_LONG_LONG) (own := "com/example/treellis/treellis/cfa/IntegerType") rfl pn_2 ?_
  intro p e s m below meth c s₁ C e0 X0
  obtain ⟨hx, hby, hml, hown, hnm, hret, hlk, hZ⟩ := C
  have N0 := Fr.nil n0
  rw [ef_2]
  obtain ⟨SV, AV, EV, FV, hsz, el_0, el_1, el_2, el_3, el_4, el_5, el_6, el_7, el_8, el_9, el_10, el_11, el_12, el_13⟩ := VV
  obtain ⟨⟨E_BOOL, R_BOOL, G_BOOL⟩, ⟨E_CHAR, R_CHAR, G_CHAR⟩, ⟨E_SIGNED_CHAR, R_SIGNED_CHAR, G_SIGNED_CHAR⟩, ⟨E_UNSIGNED_CHAR, R_UNSIGNED_CHAR, G_UNSIGNED_CHAR⟩, ⟨E_SHORT, R_SHORT, G_SHORT⟩, ⟨E_UNSIGNED_SHORT, R_UNSIGNED_SHORT, G_UNSIGNED_SHORT⟩, ⟨E_INT, R_INT, G_INT⟩, ⟨E_UNSIGNED_INT, R_UNSIGNED_INT, G_UNSIGNED_INT⟩, ⟨E_LONG, R_LONG, G_LONG⟩, ⟨E_UNSIGNED_LONG, R_UNSIGNED_LONG, G_UNSIGNED_LONG⟩, ⟨E_LONG_LONG, R_LONG_LONG, G_LONG_LONG⟩, ⟨E_UNSIGNED_LONG_LONG, R_UNSIGNED_LONG_LONG, G_UNSIGNED_LONG_LONG⟩, ⟨E_INT128, R_INT128, G_INT128⟩, ⟨E_UNSIGNED_INT128, R_UNSIGNED_INT128, G_UNSIGNED_INT128⟩⟩ := FF
  show own_Goes _ _ _ _ _ _ _ s₁ (mkF m 0 #[.val (.ref a1), .unset, .unset, .unset, .unset] [])
  obtain ⟨_, _, ⟨T1, L1, k1, n1⟩, -, X1, ⟨Lc1, hQ1, l1, y1, z1⟩, st1⟩ := Jvm.LawKit.callS X0 hx (y := (⟨"com/example/treellis/treellis/cfa/IntegerType", "values", "()[Lcom/example/treellis/treellis/cfa/IntegerType;"⟩ : MethodName)) hown (mvT hZ (hw _ (List.mem_of_getElem? (i := 13) rfl))) (mvT hZ (hw _ (List.mem_of_getElem? (i := 14) rfl))) (mvT hZ (hw _ (List.mem_of_getElem? (i := 6) rfl))) (mvT hZ (hw _ (List.mem_of_getElem? (i := 15) rfl))) (by decide) (backOf (W := 0) (rm3 l Z a0 hw [] aV clV aBOOL aCHAR aSIGNED_CHAR aUNSIGNED_CHAR aSHORT aUNSIGNED_SHORT aINT aUNSIGNED_INT aLONG aUNSIGNED_LONG aLONG_LONG aUNSIGNED_LONG_LONG aINT128 aUNSIGNED_INT128 h0 n0 Z0 ⟨SV, AV, EV, FV, hsz, el_0, el_1, el_2, el_3, el_4, el_5, el_6, el_7, el_8, el_9, el_10, el_11, el_12, el_13⟩ Od0) hZ (hw _ (List.mem_of_getElem? (i := 15) rfl)) (hw _ (List.mem_of_getElem? (i := 6) rfl)) (by decide) (by decide)) (g := (mkF m 0 #[.val (.ref a1), .unset, .unset, .unset, .unset] [])) rfl (by rw [hml]; rfl) (argsL := []) (rest := []) (lenOf pd_0 rfl) rfl (by show 2 * 0 + _ ≤ _; exact Nat.le_of_eq rfl) (hb hby d2_0) (fun _ _ => ⟨rfl, e0, (by decide : 0 + 1 ≤ _), (by decide : 0 + 14 ≤ _)⟩)
  dsimp only [Pt.U, Pt.locs, Pt.cells, Pt.slots] at X1 l1 y1 z1 st1 hQ1
  subst l1 y1 z1
  obtain ⟨rfl, N1q, E1, A1⟩ := hQ1
  have N1 := Fr.app N0 N1q
  refine own_go st1 ?_
  show own_Goes _ _ _ _ _ _ _ T1 (mkF m 3 #[.val (.ref a1), .unset, .unset, .unset, .unset] [(.ref h0.size)])
  have Od1 := Od0.ext E1
  refine own_go (fun _ k => XS.astoreN X1.here hx rfl (hb hby d2_3) rfl rfl (l' := #[.val (.ref a1), .val (.ref h0.size), .unset, .unset, .unset]) rfl k) ?_
  show own_Goes _ _ _ _ _ _ _ T1 (mkF m 4 #[.val (.ref a1), .val (.ref h0.size), .unset, .unset, .unset] [])
  refine own_go (fun _ k => XS.aloadN X1.here hx rfl (hb hby d2_4) rfl rfl k) ?_
  show own_Goes _ _ _ _ _ _ _ T1 (mkF m 5 #[.val (.ref a1), .val (.ref h0.size), .unset, .unset, .unset] [(.ref h0.size)])
  refine own_go (fun t k => X1.arraylength hx (by exact A1.1) (State.isArrayOf_alike hZ.alike A1.2.1) (g := (mkF m 5 #[.val (.ref a1), .val (.ref h0.size), .unset, .unset, .unset] [(.ref h0.size)])) rfl rfl (hb hby d2_5) t k) ?_
  rw [show (cloneOf clV).slots.size.toInt32 = (14 : Int32) from by show clV.slots.size.toInt32 = _; rw [hsz]; rfl]
  show own_Goes _ _ _ _ _ _ _ T1 (mkF m 6 #[.val (.ref a1), .val (.ref h0.size), .unset, .unset, .unset] [(.int (14 : Int32))])
  refine own_go (fun _ k => XS.istoreN X1.here hx rfl (hb hby d2_6) rfl (l' := #[.val (.ref a1), .val (.ref h0.size), .val (.int (14 : Int32)), .unset, .unset]) rfl k) ?_
  show own_Goes _ _ _ _ _ _ _ T1 (mkF m 7 #[.val (.ref a1), .val (.ref h0.size), .val (.int (14 : Int32)), .unset, .unset] [])
  refine own_go (fun _ k => XS.iconst X1.here hx rfl (hb hby d2_7) k) ?_
  show own_Goes _ _ _ _ _ _ _ T1 (mkF m 8 #[.val (.ref a1), .val (.ref h0.size), .val (.int (14 : Int32)), .unset, .unset] [(.int (0 : Int32))])
  refine own_go (fun _ k => XS.istoreN X1.here hx rfl (hb hby d2_8) rfl (l' := #[.val (.ref a1), .val (.ref h0.size), .val (.int (14 : Int32)), .val (.int (0 : Int32)), .unset]) rfl k) ?_
  show own_Goes _ _ _ _ _ _ _ T1 (mkF m 9 #[.val (.ref a1), .val (.ref h0.size), .val (.int (14 : Int32)), .val (.int (0 : Int32)), .unset] [])
  refine own_go (fun _ k => XS.iloadN X1.here hx rfl (hb hby d2_9) rfl k) ?_
  show own_Goes _ _ _ _ _ _ _ T1 (mkF m 10 #[.val (.ref a1), .val (.ref h0.size), .val (.int (14 : Int32)), .val (.int (0 : Int32)), .unset] [(.int (0 : Int32))])
  refine own_go (fun _ k => XS.iloadN X1.here hx rfl (hb hby d2_10) rfl k) ?_
  show own_Goes _ _ _ _ _ _ _ T1 (mkF m 11 #[.val (.ref a1), .val (.ref h0.size), .val (.int (14 : Int32)), .val (.int (0 : Int32)), .unset] [(.int (14 : Int32)), (.int (0 : Int32))])
  refine own_go (fun _ k => XS.icmpNo X1.here hx rfl (hb hby d2_11) rfl (tlt (by decide : (0 : Int32) < (14 : Int32))).2.1 k) ?_
  show own_Goes _ _ _ _ _ _ _ T1 (mkF m 14 #[.val (.ref a1), .val (.ref h0.size), .val (.int (14 : Int32)), .val (.int (0 : Int32)), .unset] [])
  refine own_go (fun _ k => XS.aloadN X1.here hx rfl (hb hby d2_14) rfl rfl k) ?_
  show own_Goes _ _ _ _ _ _ _ T1 (mkF m 15 #[.val (.ref a1), .val (.ref h0.size), .val (.int (14 : Int32)), .val (.int (0 : Int32)), .unset] [(.ref h0.size)])
  refine own_go (fun _ k => XS.iloadN X1.here hx rfl (hb hby d2_15) rfl k) ?_
  show own_Goes _ _ _ _ _ _ _ T1 (mkF m 16 #[.val (.ref a1), .val (.ref h0.size), .val (.int (14 : Int32)), .val (.int (0 : Int32)), .unset] [(.int (0 : Int32)), (.ref h0.size)])
  refine own_go (fun t k => X1.aaload hx (j := (0 : Int32)) (v := (.ref aBOOL)) (by rw [show _ = T1.heap from rfl]; exact A1.1) (State.isArrayOf_alike hZ.alike A1.2.1) rfl A1.2.2 (by show ¬ (_ ∨ clV.slots.size ≤ _); rw [hsz]; decide) el_0 (g := (mkF m 16 #[.val (.ref a1), .val (.ref h0.size), .val (.int (14 : Int32)), .val (.int (0 : Int32)), .unset] [(.int (0 : Int32)), (.ref h0.size)])) rfl rfl (hb hby d2_16) t k) ?_
  show own_Goes _ _ _ _ _ _ _ T1 (mkF m 17 #[.val (.ref a1), .val (.ref h0.size), .val (.int (14 : Int32)), .val (.int (0 : Int32)), .unset] [(.ref aBOOL)])
  refine own_go (fun _ k => XS.astore X1.here hx rfl (hb hby d2_17) rfl rfl (l' := #[.val (.ref a1), .val (.ref h0.size), .val (.int (14 : Int32)), .val (.int (0 : Int32)), .val (.ref aBOOL)]) rfl k) ?_
  show own_Goes _ _ _ _ _ _ _ T1 (mkF m 19 #[.val (.ref a1), .val (.ref h0.size), .val (.int (14 : Int32)), .val (.int (0 : Int32)), .val (.ref aBOOL)] [])
  refine own_go (fun _ k => XS.aload X1.here hx rfl (hb hby d2_19) rfl rfl k) ?_
  show own_Goes _ _ _ _ _ _ _ T1 (mkF m 21 #[.val (.ref a1), .val (.ref h0.size), .val (.int (14 : Int32)), .val (.int (0 : Int32)), .val (.ref aBOOL)] [(.ref aBOOL)])
  obtain ⟨T2, X2, e2, st2⟩ := getF X1 hx hZ hown (host := "") (Or.inl (hw _ (List.mem_of_getElem? (i := 41) rfl))) Via.refl rfl (G_BOOL.ext Od1.2) (g := (mkF m 21 #[.val (.ref a1), .val (.ref h0.size), .val (.int (14 : Int32)), .val (.int (0 : Int32)), .val (.ref aBOOL)] [(.ref aBOOL)])) rfl rfl (hb hby d2_21)
  refine own_go st2 ?_
  show own_Goes _ _ _ _ _ _ _ T2 (mkF m 24 #[.val (.ref a1), .val (.ref h0.size), .val (.int (14 : Int32)), .val (.int (0 : Int32)), .val (.ref aBOOL)] [(.int (0 : Int32))])
  refine own_go (fun _ k => XS.ifNo X2.here hx rfl (hb hby d2_24) rfl ((if0 _ _).trans (teq (by decide : (0 : Int32) = (0 : Int32))).2) k) ?_
  show own_Goes _ _ _ _ _ _ _ T2 (mkF m 27 #[.val (.ref a1), .val (.ref h0.size), .val (.int (14 : Int32)), .val (.int (0 : Int32)), .val (.ref aBOOL)] [])
  refine own_go (fun _ k => XS.aload X2.here hx rfl (hb hby d2_27) rfl rfl k) ?_
  show own_Goes _ _ _ _ _ _ _ T2 (mkF m 29 #[.val (.ref a1), .val (.ref h0.size), .val (.int (14 : Int32)), .val (.int (0 : Int32)), .val (.ref aBOOL)] [(.ref aBOOL)])
  obtain ⟨T3, X3, e3, st3⟩ := getF X2 hx hZ hown (host := "") (Or.inl (hw _ (List.mem_of_getElem? (i := 43) rfl))) Via.refl e2 (R_BOOL.ext Od1.2) (g := (mkF m 29 #[.val (.ref a1), .val (.ref h0.size), .val (.int (14 : Int32)), .val (.int (0 : Int32)), .val (.ref aBOOL)] [(.ref aBOOL)])) rfl rfl (hb hby d2_29)
  refine own_go st3 ?_
  show own_Goes _ _ _ _ _ _ _ T3 (mkF m 32 #[.val (.ref a1), .val (.ref h0.size), .val (.int (14 : Int32)), .val (.int (0 : Int32)), .val (.ref aBOOL)] [(.int (0 : Int32))])
  refine own_go (fun _ k => XS.aloadN X3.here hx rfl (hb hby d2_32) rfl rfl k) ?_
  show own_Goes _ _ _ _ _ _ _ T3 (mkF m 33 #[.val (.ref a1), .val (.ref h0.size), .val (.int (14 : Int32)), .val (.int (0 : Int32)), .val (.ref aBOOL)] [(.ref a1), (.int (0 : Int32))])
  obtain ⟨T4, X4, e4, st4⟩ := getF X3 hx hZ hown (host := "") (Or.inl (hw _ (List.mem_of_getElem? (i := 43) rfl))) Via.refl e3 (R_a1.ext Od1.2) (g := (mkF m 33 #[.val (.ref a1), .val (.ref h0.size), .val (.int (14 : Int32)), .val (.int (0 : Int32)), .val (.ref aBOOL)] [(.ref a1), (.int (0 : Int32))])) rfl rfl (hb hby d2_33)
  refine own_go st4 ?_
  show own_Goes _ _ _ _ _ _ _ T4 (mkF m 36 #[.val (.ref a1), .val (.ref h0.size), .val (.int (14 : Int32)), .val (.int (0 : Int32)), .val (.ref aBOOL)] [(.int (5 : Int32)), (.int (0 : Int32))])
  refine own_go (fun _ k => XS.icmpYes X4.here hx rfl (pc0 := 36) (pc' := 42) rfl (hb hby d2_36) rfl (feq (by decide : ¬ ((0 : Int32) = (5 : Int32)))).2 (by decide) (by decide) k) ?_
  show own_Goes _ _ _ _ _ _ _ T4 (mkF m 42 #[.val (.ref a1), .val (.ref h0.size), .val (.int (14 : Int32)), .val (.int (0 : Int32)), .val (.ref aBOOL)] [])
  refine own_go (fun _ k => XS.iinc X4.here hx rfl (hb hby d2_42) rfl (l' := #[.val (.ref a1), .val (.ref h0.size), .val (.int (14 : Int32)), .val (.int (1 : Int32)), .val (.ref aBOOL)]) rfl k) ?_
  show own_Goes _ _ _ _ _ _ _ T4 (mkF m 45 #[.val (.ref a1), .val (.ref h0.size), .val (.int (14 : Int32)), .val (.int (1 : Int32)), .val (.ref aBOOL)] [])
  refine own_go (fun _ k => XS.goto X4.here hx rfl (pc0 := 45) (pc' := 9) rfl (hb hby d2_45) (by decide) (by decide) k) ?_
  show own_Goes _ _ _ _ _ _ _ T4 (mkF m 9 #[.val (.ref a1), .val (.ref h0.size), .val (.int (14 : Int32)), .val (.int (1 : Int32)), .val (.ref aBOOL)] [])
  refine own_go (fun _ k => XS.iloadN X4.here hx rfl (hb hby d2_9) rfl k) ?_
  show own_Goes _ _ _ _ _ _ _ T4 (mkF m 10 #[.val (.ref a1), .val (.ref h0.size), .val (.int (14 : Int32)), .val (.int (1 : Int32)), .val (.ref aBOOL)] [(.int (1 : Int32))])
  refine own_go (fun _ k => XS.iloadN X4.here hx rfl (hb hby d2_10) rfl k) ?_
  show own_Goes _ _ _ _ _ _ _ T4 (mkF m 11 #[.val (.ref a1), .val (.ref h0.size), .val (.int (14 : Int32)), .val (.int (1 : Int32)), .val (.ref aBOOL)] [(.int (14 : Int32)), (.int (1 : Int32))])
  refine own_go (fun _ k => XS.icmpNo X4.here hx rfl (hb hby d2_11) rfl (tlt (by decide : (1 : Int32) < (14 : Int32))).2.1 k) ?_
  show own_Goes _ _ _ _ _ _ _ T4 (mkF m 14 #[.val (.ref a1), .val (.ref h0.size), .val (.int (14 : Int32)), .val (.int (1 : Int32)), .val (.ref aBOOL)] [])
  refine own_go (fun _ k => XS.aloadN X4.here hx rfl (hb hby d2_14) rfl rfl k) ?_
  show own_Goes _ _ _ _ _ _ _ T4 (mkF m 15 #[.val (.ref a1), .val (.ref h0.size), .val (.int (14 : Int32)), .val (.int (1 : Int32)), .val (.ref aBOOL)] [(.ref h0.size)])
  refine own_go (fun _ k => XS.iloadN X4.here hx rfl (hb hby d2_15) rfl k) ?_
  show own_Goes _ _ _ _ _ _ _ T4 (mkF m 16 #[.val (.ref a1), .val (.ref h0.size), .val (.int (14 : Int32)), .val (.int (1 : Int32)), .val (.ref aBOOL)] [(.int (1 : Int32)), (.ref h0.size)])
  refine own_go (fun t k => X4.aaload hx (j := (1 : Int32)) (v := (.ref aCHAR)) (by rw [e4]; exact A1.1) (State.isArrayOf_alike hZ.alike A1.2.1) rfl A1.2.2 (by show ¬ (_ ∨ clV.slots.size ≤ _); rw [hsz]; decide) el_1 (g := (mkF m 16 #[.val (.ref a1), .val (.ref h0.size), .val (.int (14 : Int32)), .val (.int (1 : Int32)), .val (.ref aBOOL)] [(.int (1 : Int32)), (.ref h0.size)])) rfl rfl (hb hby d2_16) t k) ?_
  show own_Goes _ _ _ _ _ _ _ T4 (mkF m 17 #[.val (.ref a1), .val (.ref h0.size), .val (.int (14 : Int32)), .val (.int (1 : Int32)), .val (.ref aBOOL)] [(.ref aCHAR)])
  refine own_go (fun _ k => XS.astore X4.here hx rfl (hb hby d2_17) rfl rfl (l' := #[.val (.ref a1), .val (.ref h0.size), .val (.int (14 : Int32)), .val (.int (1 : Int32)), .val (.ref aCHAR)]) rfl k) ?_
  show own_Goes _ _ _ _ _ _ _ T4 (mkF m 19 #[.val (.ref a1), .val (.ref h0.size), .val (.int (14 : Int32)), .val (.int (1 : Int32)), .val (.ref aCHAR)] [])
  refine own_go (fun _ k => XS.aload X4.here hx rfl (hb hby d2_19) rfl rfl k) ?_
  show own_Goes _ _ _ _ _ _ _ T4 (mkF m 21 #[.val (.ref a1), .val (.ref h0.size), .val (.int (14 : Int32)), .val (.int (1 : Int32)), .val (.ref aCHAR)] [(.ref aCHAR)])
  obtain ⟨T5, X5, e5, st5⟩ := getF X4 hx hZ hown (host := "") (Or.inl (hw _ (List.mem_of_getElem? (i := 41) rfl))) Via.refl e4 (G_CHAR.ext Od1.2) (g := (mkF m 21 #[.val (.ref a1), .val (.ref h0.size), .val (.int (14 : Int32)), .val (.int (1 : Int32)), .val (.ref aCHAR)] [(.ref aCHAR)])) rfl rfl (hb hby d2_21)
  refine own_go st5 ?_
  show own_Goes _ _ _ _ _ _ _ T5 (mkF m 24 #[.val (.ref a1), .val (.ref h0.size), .val (.int (14 : Int32)), .val (.int (1 : Int32)), .val (.ref aCHAR)] [(.int (1 : Int32))])
  refine own_go (fun _ k => XS.ifYes X5.here hx rfl (pc0 := 24) (pc' := 42) rfl (hb hby d2_24) rfl ((if0 _ _).trans (feq (by decide : ¬ ((1 : Int32) = (0 : Int32)))).2) (by decide) (by decide) k) ?_
  show own_Goes _ _ _ _ _ _ _ T5 (mkF m 42 #[.val (.ref a1), .val (.ref h0.size), .val (.int (14 : Int32)), .val (.int (1 : Int32)), .val (.ref aCHAR)] [])
  refine own_go (fun _ k => XS.iinc X5.here hx rfl (hb hby d2_42) rfl (l' := #[.val (.ref a1), .val (.ref h0.size), .val (.int (14 : Int32)), .val (.int (2 : Int32)), .val (.ref aCHAR)]) rfl k) ?_
  show own_Goes _ _ _ _ _ _ _ T5 (mkF m 45 #[.val (.ref a1), .val (.ref h0.size), .val (.int (14 : Int32)), .val (.int (2 : Int32)), .val (.ref aCHAR)] [])
  refine own_go (fun _ k => XS.goto X5.here hx rfl (pc0 := 45) (pc' := 9) rfl (hb hby d2_45) (by decide) (by decide) k) ?_
  show own_Goes _ _ _ _ _ _ _ T5 (mkF m 9 #[.val (.ref a1), .val (.ref h0.size), .val (.int (14 : Int32)), .val (.int (2 : Int32)), .val (.ref aCHAR)] [])
  refine own_go (fun _ k => XS.iloadN X5.here hx rfl (hb hby d2_9) rfl k) ?_
  show own_Goes _ _ _ _ _ _ _ T5 (mkF m 10 #[.val (.ref a1), .val (.ref h0.size), .val (.int (14 : Int32)), .val (.int (2 : Int32)), .val (.ref aCHAR)] [(.int (2 : Int32))])
  refine own_go (fun _ k => XS.iloadN X5.here hx rfl (hb hby d2_10) rfl k) ?_
  show own_Goes _ _ _ _ _ _ _ T5 (mkF m 11 #[.val (.ref a1), .val (.ref h0.size), .val (.int (14 : Int32)), .val (.int (2 : Int32)), .val (.ref aCHAR)] [(.int (14 : Int32)), (.int (2 : Int32))])
  refine own_go (fun _ k => XS.icmpNo X5.here hx rfl (hb hby d2_11) rfl (tlt (by decide : (2 : Int32) < (14 : Int32))).2.1 k) ?_
  show own_Goes _ _ _ _ _ _ _ T5 (mkF m 14 #[.val (.ref a1), .val (.ref h0.size), .val (.int (14 : Int32)), .val (.int (2 : Int32)), .val (.ref aCHAR)] [])
  refine own_go (fun _ k => XS.aloadN X5.here hx rfl (hb hby d2_14) rfl rfl k) ?_
  show own_Goes _ _ _ _ _ _ _ T5 (mkF m 15 #[.val (.ref a1), .val (.ref h0.size), .val (.int (14 : Int32)), .val (.int (2 : Int32)), .val (.ref aCHAR)] [(.ref h0.size)])
  refine own_go (fun _ k => XS.iloadN X5.here hx rfl (hb hby d2_15) rfl k) ?_
  show own_Goes _ _ _ _ _ _ _ T5 (mkF m 16 #[.val (.ref a1), .val (.ref h0.size), .val (.int (14 : Int32)), .val (.int (2 : Int32)), .val (.ref aCHAR)] [(.int (2 : Int32)), (.ref h0.size)])
  refine own_go (fun t k => X5.aaload hx (j := (2 : Int32)) (v := (.ref aSIGNED_CHAR)) (by rw [e5]; exact A1.1) (State.isArrayOf_alike hZ.alike A1.2.1) rfl A1.2.2 (by show ¬ (_ ∨ clV.slots.size ≤ _); rw [hsz]; decide) el_2 (g := (mkF m 16 #[.val (.ref a1), .val (.ref h0.size), .val (.int (14 : Int32)), .val (.int (2 : Int32)), .val (.ref aCHAR)] [(.int (2 : Int32)), (.ref h0.size)])) rfl rfl (hb hby d2_16) t k) ?_
  show own_Goes _ _ _ _ _ _ _ T5 (mkF m 17 #[.val (.ref a1), .val (.ref h0.size), .val (.int (14 : Int32)), .val (.int (2 : Int32)), .val (.ref aCHAR)] [(.ref aSIGNED_CHAR)])
  refine own_go (fun _ k => XS.astore X5.here hx rfl (hb hby d2_17) rfl rfl (l' := #[.val (.ref a1), .val (.ref h0.size), .val (.int (14 : Int32)), .val (.int (2 : Int32)), .val (.ref aSIGNED_CHAR)]) rfl k) ?_
  show own_Goes _ _ _ _ _ _ _ T5 (mkF m 19 #[.val (.ref a1), .val (.ref h0.size), .val (.int (14 : Int32)), .val (.int (2 : Int32)), .val (.ref aSIGNED_CHAR)] [])
  refine own_go (fun _ k => XS.aload X5.here hx rfl (hb hby d2_19) rfl rfl k) ?_
  show own_Goes _ _ _ _ _ _ _ T5 (mkF m 21 #[.val (.ref a1), .val (.ref h0.size), .val (.int (14 : Int32)), .val (.int (2 : Int32)), .val (.ref aSIGNED_CHAR)] [(.ref aSIGNED_CHAR)])
  obtain ⟨T6, X6, e6, st6⟩ := getF X5 hx hZ hown (host := "") (Or.inl (hw _ (List.mem_of_getElem? (i := 41) rfl))) Via.refl e5 (G_SIGNED_CHAR.ext Od1.2) (g := (mkF m 21 #[.val (.ref a1), .val (.ref h0.size), .val (.int (14 : Int32)), .val (.int (2 : Int32)), .val (.ref aSIGNED_CHAR)] [(.ref aSIGNED_CHAR)])) rfl rfl (hb hby d2_21)
  refine own_go st6 ?_
  show own_Goes _ _ _ _ _ _ _ T6 (mkF m 24 #[.val (.ref a1), .val (.ref h0.size), .val (.int (14 : Int32)), .val (.int (2 : Int32)), .val (.ref aSIGNED_CHAR)] [(.int (1 : Int32))])
  refine own_go (fun _ k => XS.ifYes X6.here hx rfl (pc0 := 24) (pc' := 42) rfl (hb hby d2_24) rfl ((if0 _ _).trans (feq (by decide : ¬ ((1 : Int32) = (0 : Int32)))).2) (by decide) (by decide) k) ?_
  show own_Goes _ _ _ _ _ _ _ T6 (mkF m 42 #[.val (.ref a1), .val (.ref h0.size), .val (.int (14 : Int32)), .val (.int (2 : Int32)), .val (.ref aSIGNED_CHAR)] [])
  refine own_go (fun _ k => XS.iinc X6.here hx rfl (hb hby d2_42) rfl (l' := #[.val (.ref a1), .val (.ref h0.size), .val (.int (14 : Int32)), .val (.int (3 : Int32)), .val (.ref aSIGNED_CHAR)]) rfl k) ?_
  show own_Goes _ _ _ _ _ _ _ T6 (mkF m 45 #[.val (.ref a1), .val (.ref h0.size), .val (.int (14 : Int32)), .val (.int (3 : Int32)), .val (.ref aSIGNED_CHAR)] [])
  refine own_go (fun _ k => XS.goto X6.here hx rfl (pc0 := 45) (pc' := 9) rfl (hb hby d2_45) (by decide) (by decide) k) ?_
  show own_Goes _ _ _ _ _ _ _ T6 (mkF m 9 #[.val (.ref a1), .val (.ref h0.size), .val (.int (14 : Int32)), .val (.int (3 : Int32)), .val (.ref aSIGNED_CHAR)] [])
  refine own_go (fun _ k => XS.iloadN X6.here hx rfl (hb hby d2_9) rfl k) ?_
  show own_Goes _ _ _ _ _ _ _ T6 (mkF m 10 #[.val (.ref a1), .val (.ref h0.size), .val (.int (14 : Int32)), .val (.int (3 : Int32)), .val (.ref aSIGNED_CHAR)] [(.int (3 : Int32))])
  refine own_go (fun _ k => XS.iloadN X6.here hx rfl (hb hby d2_10) rfl k) ?_
  show own_Goes _ _ _ _ _ _ _ T6 (mkF m 11 #[.val (.ref a1), .val (.ref h0.size), .val (.int (14 : Int32)), .val (.int (3 : Int32)), .val (.ref aSIGNED_CHAR)] [(.int (14 : Int32)), (.int (3 : Int32))])
  refine own_go (fun _ k => XS.icmpNo X6.here hx rfl (hb hby d2_11) rfl (tlt (by decide : (3 : Int32) < (14 : Int32))).2.1 k) ?_
  show own_Goes _ _ _ _ _ _ _ T6 (mkF m 14 #[.val (.ref a1), .val (.ref h0.size), .val (.int (14 : Int32)), .val (.int (3 : Int32)), .val (.ref aSIGNED_CHAR)] [])
  refine own_go (fun _ k => XS.aloadN X6.here hx rfl (hb hby d2_14) rfl rfl k) ?_
  show own_Goes _ _ _ _ _ _ _ T6 (mkF m 15 #[.val (.ref a1), .val (.ref h0.size), .val (.int (14 : Int32)), .val (.int (3 : Int32)), .val (.ref aSIGNED_CHAR)] [(.ref h0.size)])
  refine own_go (fun _ k => XS.iloadN X6.here hx rfl (hb hby d2_15) rfl k) ?_
  show own_Goes _ _ _ _ _ _ _ T6 (mkF m 16 #[.val (.ref a1), .val (.ref h0.size), .val (.int (14 : Int32)), .val (.int (3 : Int32)), .val (.ref aSIGNED_CHAR)] [(.int (3 : Int32)), (.ref h0.size)])
  refine own_go (fun t k => X6.aaload hx (j := (3 : Int32)) (v := (.ref aUNSIGNED_CHAR)) (by rw [e6]; exact A1.1) (State.isArrayOf_alike hZ.alike A1.2.1) rfl A1.2.2 (by show ¬ (_ ∨ clV.slots.size ≤ _); rw [hsz]; decide) el_3 (g := (mkF m 16 #[.val (.ref a1), .val (.ref h0.size), .val (.int (14 : Int32)), .val (.int (3 : Int32)), .val (.ref aSIGNED_CHAR)] [(.int (3 : Int32)), (.ref h0.size)])) rfl rfl (hb hby d2_16) t k) ?_
  show own_Goes _ _ _ _ _ _ _ T6 (mkF m 17 #[.val (.ref a1), .val (.ref h0.size), .val (.int (14 : Int32)), .val (.int (3 : Int32)), .val (.ref aSIGNED_CHAR)] [(.ref aUNSIGNED_CHAR)])
  refine own_go (fun _ k => XS.astore X6.here hx rfl (hb hby d2_17) rfl rfl (l' := #[.val (.ref a1), .val (.ref h0.size), .val (.int (14 : Int32)), .val (.int (3 : Int32)), .val (.ref aUNSIGNED_CHAR)]) rfl k) ?_
  show own_Goes _ _ _ _ _ _ _ T6 (mkF m 19 #[.val (.ref a1), .val (.ref h0.size), .val (.int (14 : Int32)), .val (.int (3 : Int32)), .val (.ref aUNSIGNED_CHAR)] [])
  refine own_go (fun _ k => XS.aload X6.here hx rfl (hb hby d2_19) rfl rfl k) ?_
  show own_Goes _ _ _ _ _ _ _ T6 (mkF m 21 #[.val (.ref a1), .val (.ref h0.size), .val (.int (14 : Int32)), .val (.int (3 : Int32)), .val (.ref aUNSIGNED_CHAR)] [(.ref aUNSIGNED_CHAR)])
  obtain ⟨T7, X7, e7, st7⟩ := getF X6 hx hZ hown (host := "") (Or.inl (hw _ (List.mem_of_getElem? (i := 41) rfl))) Via.refl e6 (G_UNSIGNED_CHAR.ext Od1.2) (g := (mkF m 21 #[.val (.ref a1), .val (.ref h0.size), .val (.int (14 : Int32)), .val (.int (3 : Int32)), .val (.ref aUNSIGNED_CHAR)] [(.ref aUNSIGNED_CHAR)])) rfl rfl (hb hby d2_21)
  refine own_go st7 ?_
  show own_Goes _ _ _ _ _ _ _ T7 (mkF m 24 #[.val (.ref a1), .val (.ref h0.size), .val (.int (14 : Int32)), .val (.int (3 : Int32)), .val (.ref aUNSIGNED_CHAR)] [(.int (0 : Int32))])
  refine own_go (fun _ k => XS.ifNo X7.here hx rfl (hb hby d2_24) rfl ((if0 _ _).trans (teq (by decide : (0 : Int32) = (0 : Int32))).2) k) ?_
  show own_Goes _ _ _ _ _ _ _ T7 (mkF m 27 #[.val (.ref a1), .val (.ref h0.size), .val (.int (14 : Int32)), .val (.int (3 : Int32)), .val (.ref aUNSIGNED_CHAR)] [])
  refine own_go (fun _ k => XS.aload X7.here hx rfl (hb hby d2_27) rfl rfl k) ?_
  show own_Goes _ _ _ _ _ _ _ T7 (mkF m 29 #[.val (.ref a1), .val (.ref h0.size), .val (.int (14 : Int32)), .val (.int (3 : Int32)), .val (.ref aUNSIGNED_CHAR)] [(.ref aUNSIGNED_CHAR)])
  obtain ⟨T8, X8, e8, st8⟩ := getF X7 hx hZ hown (host := "") (Or.inl (hw _ (List.mem_of_getElem? (i := 43) rfl))) Via.refl e7 (R_UNSIGNED_CHAR.ext Od1.2) (g := (mkF m 29 #[.val (.ref a1), .val (.ref h0.size), .val (.int (14 : Int32)), .val (.int (3 : Int32)), .val (.ref aUNSIGNED_CHAR)] [(.ref aUNSIGNED_CHAR)])) rfl rfl (hb hby d2_29)
  refine own_go st8 ?_
  show own_Goes _ _ _ _ _ _ _ T8 (mkF m 32 #[.val (.ref a1), .val (.ref h0.size), .val (.int (14 : Int32)), .val (.int (3 : Int32)), .val (.ref aUNSIGNED_CHAR)] [(.int (1 : Int32))])
  refine own_go (fun _ k => XS.aloadN X8.here hx rfl (hb hby d2_32) rfl rfl k) ?_
  show own_Goes _ _ _ _ _ _ _ T8 (mkF m 33 #[.val (.ref a1), .val (.ref h0.size), .val (.int (14 : Int32)), .val (.int (3 : Int32)), .val (.ref aUNSIGNED_CHAR)] [(.ref a1), (.int (1 : Int32))])
  obtain ⟨T9, X9, e9, st9⟩ := getF X8 hx hZ hown (host := "") (Or.inl (hw _ (List.mem_of_getElem? (i := 43) rfl))) Via.refl e8 (R_a1.ext Od1.2) (g := (mkF m 33 #[.val (.ref a1), .val (.ref h0.size), .val (.int (14 : Int32)), .val (.int (3 : Int32)), .val (.ref aUNSIGNED_CHAR)] [(.ref a1), (.int (1 : Int32))])) rfl rfl (hb hby d2_33)
  refine own_go st9 ?_
  show own_Goes _ _ _ _ _ _ _ T9 (mkF m 36 #[.val (.ref a1), .val (.ref h0.size), .val (.int (14 : Int32)), .val (.int (3 : Int32)), .val (.ref aUNSIGNED_CHAR)] [(.int (5 : Int32)), (.int (1 : Int32))])
  refine own_go (fun _ k => XS.icmpYes X9.here hx rfl (pc0 := 36) (pc' := 42) rfl (hb hby d2_36) rfl (feq (by decide : ¬ ((1 : Int32) = (5 : Int32)))).2 (by decide) (by decide) k) ?_
  show own_Goes _ _ _ _ _ _ _ T9 (mkF m 42 #[.val (.ref a1), .val (.ref h0.size), .val (.int (14 : Int32)), .val (.int (3 : Int32)), .val (.ref aUNSIGNED_CHAR)] [])
  refine own_go (fun _ k => XS.iinc X9.here hx rfl (hb hby d2_42) rfl (l' := #[.val (.ref a1), .val (.ref h0.size), .val (.int (14 : Int32)), .val (.int (4 : Int32)), .val (.ref aUNSIGNED_CHAR)]) rfl k) ?_
  show own_Goes _ _ _ _ _ _ _ T9 (mkF m 45 #[.val (.ref a1), .val (.ref h0.size), .val (.int (14 : Int32)), .val (.int (4 : Int32)), .val (.ref aUNSIGNED_CHAR)] [])
  refine own_go (fun _ k => XS.goto X9.here hx rfl (pc0 := 45) (pc' := 9) rfl (hb hby d2_45) (by decide) (by decide) k) ?_
  show own_Goes _ _ _ _ _ _ _ T9 (mkF m 9 #[.val (.ref a1), .val (.ref h0.size), .val (.int (14 : Int32)), .val (.int (4 : Int32)), .val (.ref aUNSIGNED_CHAR)] [])
  refine own_go (fun _ k => XS.iloadN X9.here hx rfl (hb hby d2_9) rfl k) ?_
  show own_Goes _ _ _ _ _ _ _ T9 (mkF m 10 #[.val (.ref a1), .val (.ref h0.size), .val (.int (14 : Int32)), .val (.int (4 : Int32)), .val (.ref aUNSIGNED_CHAR)] [(.int (4 : Int32))])
  refine own_go (fun _ k => XS.iloadN X9.here hx rfl (hb hby d2_10) rfl k) ?_
  show own_Goes _ _ _ _ _ _ _ T9 (mkF m 11 #[.val (.ref a1), .val (.ref h0.size), .val (.int (14 : Int32)), .val (.int (4 : Int32)), .val (.ref aUNSIGNED_CHAR)] [(.int (14 : Int32)), (.int (4 : Int32))])
  refine own_go (fun _ k => XS.icmpNo X9.here hx rfl (hb hby d2_11) rfl (tlt (by decide : (4 : Int32) < (14 : Int32))).2.1 k) ?_
  show own_Goes _ _ _ _ _ _ _ T9 (mkF m 14 #[.val (.ref a1), .val (.ref h0.size), .val (.int (14 : Int32)), .val (.int (4 : Int32)), .val (.ref aUNSIGNED_CHAR)] [])
  refine own_go (fun _ k => XS.aloadN X9.here hx rfl (hb hby d2_14) rfl rfl k) ?_
  show own_Goes _ _ _ _ _ _ _ T9 (mkF m 15 #[.val (.ref a1), .val (.ref h0.size), .val (.int (14 : Int32)), .val (.int (4 : Int32)), .val (.ref aUNSIGNED_CHAR)] [(.ref h0.size)])
  refine own_go (fun _ k => XS.iloadN X9.here hx rfl (hb hby d2_15) rfl k) ?_
  show own_Goes _ _ _ _ _ _ _ T9 (mkF m 16 #[.val (.ref a1), .val (.ref h0.size), .val (.int (14 : Int32)), .val (.int (4 : Int32)), .val (.ref aUNSIGNED_CHAR)] [(.int (4 : Int32)), (.ref h0.size)])
  refine own_go (fun t k => X9.aaload hx (j := (4 : Int32)) (v := (.ref aSHORT)) (by rw [e9]; exact A1.1) (State.isArrayOf_alike hZ.alike A1.2.1) rfl A1.2.2 (by show ¬ (_ ∨ clV.slots.size ≤ _); rw [hsz]; decide) el_4 (g := (mkF m 16 #[.val (.ref a1), .val (.ref h0.size), .val (.int (14 : Int32)), .val (.int (4 : Int32)), .val (.ref aUNSIGNED_CHAR)] [(.int (4 : Int32)), (.ref h0.size)])) rfl rfl (hb hby d2_16) t k) ?_
  show own_Goes _ _ _ _ _ _ _ T9 (mkF m 17 #[.val (.ref a1), .val (.ref h0.size), .val (.int (14 : Int32)), .val (.int (4 : Int32)), .val (.ref aUNSIGNED_CHAR)] [(.ref aSHORT)])
  refine own_go (fun _ k => XS.astore X9.here hx rfl (hb hby d2_17) rfl rfl (l' := #[.val (.ref a1), .val (.ref h0.size), .val (.int (14 : Int32)), .val (.int (4 : Int32)), .val (.ref aSHORT)]) rfl k) ?_
  show own_Goes _ _ _ _ _ _ _ T9 (mkF m 19 #[.val (.ref a1), .val (.ref h0.size), .val (.int (14 : Int32)), .val (.int (4 : Int32)), .val (.ref aSHORT)] [])
  refine own_go (fun _ k => XS.aload X9.here hx rfl (hb hby d2_19) rfl rfl k) ?_
  show own_Goes _ _ _ _ _ _ _ T9 (mkF m 21 #[.val (.ref a1), .val (.ref h0.size), .val (.int (14 : Int32)), .val (.int (4 : Int32)), .val (.ref aSHORT)] [(.ref aSHORT)])
  obtain ⟨T10, X10, e10, st10⟩ := getF X9 hx hZ hown (host := "") (Or.inl (hw _ (List.mem_of_getElem? (i := 41) rfl))) Via.refl e9 (G_SHORT.ext Od1.2) (g := (mkF m 21 #[.val (.ref a1), .val (.ref h0.size), .val (.int (14 : Int32)), .val (.int (4 : Int32)), .val (.ref aSHORT)] [(.ref aSHORT)])) rfl rfl (hb hby d2_21)
  refine own_go st10 ?_
  show own_Goes _ _ _ _ _ _ _ T10 (mkF m 24 #[.val (.ref a1), .val (.ref h0.size), .val (.int (14 : Int32)), .val (.int (4 : Int32)), .val (.ref aSHORT)] [(.int (1 : Int32))])
  refine own_go (fun _ k => XS.ifYes X10.here hx rfl (pc0 := 24) (pc' := 42) rfl (hb hby d2_24) rfl ((if0 _ _).trans (feq (by decide : ¬ ((1 : Int32) = (0 : Int32)))).2) (by decide) (by decide) k) ?_
  show own_Goes _ _ _ _ _ _ _ T10 (mkF m 42 #[.val (.ref a1), .val (.ref h0.size), .val (.int (14 : Int32)), .val (.int (4 : Int32)), .val (.ref aSHORT)] [])
  refine own_go (fun _ k => XS.iinc X10.here hx rfl (hb hby d2_42) rfl (l' := #[.val (.ref a1), .val (.ref h0.size), .val (.int (14 : Int32)), .val (.int (5 : Int32)), .val (.ref aSHORT)]) rfl k) ?_
  show own_Goes _ _ _ _ _ _ _ T10 (mkF m 45 #[.val (.ref a1), .val (.ref h0.size), .val (.int (14 : Int32)), .val (.int (5 : Int32)), .val (.ref aSHORT)] [])
  refine own_go (fun _ k => XS.goto X10.here hx rfl (pc0 := 45) (pc' := 9) rfl (hb hby d2_45) (by decide) (by decide) k) ?_
  show own_Goes _ _ _ _ _ _ _ T10 (mkF m 9 #[.val (.ref a1), .val (.ref h0.size), .val (.int (14 : Int32)), .val (.int (5 : Int32)), .val (.ref aSHORT)] [])
  refine own_go (fun _ k => XS.iloadN X10.here hx rfl (hb hby d2_9) rfl k) ?_
  show own_Goes _ _ _ _ _ _ _ T10 (mkF m 10 #[.val (.ref a1), .val (.ref h0.size), .val (.int (14 : Int32)), .val (.int (5 : Int32)), .val (.ref aSHORT)] [(.int (5 : Int32))])
  refine own_go (fun _ k => XS.iloadN X10.here hx rfl (hb hby d2_10) rfl k) ?_
  show own_Goes _ _ _ _ _ _ _ T10 (mkF m 11 #[.val (.ref a1), .val (.ref h0.size), .val (.int (14 : Int32)), .val (.int (5 : Int32)), .val (.ref aSHORT)] [(.int (14 : Int32)), (.int (5 : Int32))])
  refine own_go (fun _ k => XS.icmpNo X10.here hx rfl (hb hby d2_11) rfl (tlt (by decide : (5 : Int32) < (14 : Int32))).2.1 k) ?_
  show own_Goes _ _ _ _ _ _ _ T10 (mkF m 14 #[.val (.ref a1), .val (.ref h0.size), .val (.int (14 : Int32)), .val (.int (5 : Int32)), .val (.ref aSHORT)] [])
  refine own_go (fun _ k => XS.aloadN X10.here hx rfl (hb hby d2_14) rfl rfl k) ?_
  show own_Goes _ _ _ _ _ _ _ T10 (mkF m 15 #[.val (.ref a1), .val (.ref h0.size), .val (.int (14 : Int32)), .val (.int (5 : Int32)), .val (.ref aSHORT)] [(.ref h0.size)])
  refine own_go (fun _ k => XS.iloadN X10.here hx rfl (hb hby d2_15) rfl k) ?_
  show own_Goes _ _ _ _ _ _ _ T10 (mkF m 16 #[.val (.ref a1), .val (.ref h0.size), .val (.int (14 : Int32)), .val (.int (5 : Int32)), .val (.ref aSHORT)] [(.int (5 : Int32)), (.ref h0.size)])
  refine own_go (fun t k => X10.aaload hx (j := (5 : Int32)) (v := (.ref aUNSIGNED_SHORT)) (by rw [e10]; exact A1.1) (State.isArrayOf_alike hZ.alike A1.2.1) rfl A1.2.2 (by show ¬ (_ ∨ clV.slots.size ≤ _); rw [hsz]; decide) el_5 (g := (mkF m 16 #[.val (.ref a1), .val (.ref h0.size), .val (.int (14 : Int32)), .val (.int (5 : Int32)), .val (.ref aSHORT)] [(.int (5 : Int32)), (.ref h0.size)])) rfl rfl (hb hby d2_16) t k) ?_
  show own_Goes _ _ _ _ _ _ _ T10 (mkF m 17 #[.val (.ref a1), .val (.ref h0.size), .val (.int (14 : Int32)), .val (.int (5 : Int32)), .val (.ref aSHORT)] [(.ref aUNSIGNED_SHORT)])
  refine own_go (fun _ k => XS.astore X10.here hx rfl (hb hby d2_17) rfl rfl (l' := #[.val (.ref a1), .val (.ref h0.size), .val (.int (14 : Int32)), .val (.int (5 : Int32)), .val (.ref aUNSIGNED_SHORT)]) rfl k) ?_
  show own_Goes _ _ _ _ _ _ _ T10 (mkF m 19 #[.val (.ref a1), .val (.ref h0.size), .val (.int (14 : Int32)), .val (.int (5 : Int32)), .val (.ref aUNSIGNED_SHORT)] [])
  refine own_go (fun _ k => XS.aload X10.here hx rfl (hb hby d2_19) rfl rfl k) ?_
  show own_Goes _ _ _ _ _ _ _ T10 (mkF m 21 #[.val (.ref a1), .val (.ref h0.size), .val (.int (14 : Int32)), .val (.int (5 : Int32)), .val (.ref aUNSIGNED_SHORT)] [(.ref aUNSIGNED_SHORT)])
  obtain ⟨T11, X11, e11, st11⟩ := getF X10 hx hZ hown (host := "") (Or.inl (hw _ (List.mem_of_getElem? (i := 41) rfl))) Via.refl e10 (G_UNSIGNED_SHORT.ext Od1.2) (g := (mkF m 21 #[.val (.ref a1), .val (.ref h0.size), .val (.int (14 : Int32)), .val (.int (5 : Int32)), .val (.ref aUNSIGNED_SHORT)] [(.ref aUNSIGNED_SHORT)])) rfl rfl (hb hby d2_21)
  refine own_go st11 ?_
  show own_Goes _ _ _ _ _ _ _ T11 (mkF m 24 #[.val (.ref a1), .val (.ref h0.size), .val (.int (14 : Int32)), .val (.int (5 : Int32)), .val (.ref aUNSIGNED_SHORT)] [(.int (0 : Int32))])
  refine own_go (fun _ k => XS.ifNo X11.here hx rfl (hb hby d2_24) rfl ((if0 _ _).trans (teq (by decide : (0 : Int32) = (0 : Int32))).2) k) ?_
  show own_Goes _ _ _ _ _ _ _ T11 (mkF m 27 #[.val (.ref a1), .val (.ref h0.size), .val (.int (14 : Int32)), .val (.int (5 : Int32)), .val (.ref aUNSIGNED_SHORT)] [])
  refine own_go (fun _ k => XS.aload X11.here hx rfl (hb hby d2_27) rfl rfl k) ?_
  show own_Goes _ _ _ _ _ _ _ T11 (mkF m 29 #[.val (.ref a1), .val (.ref h0.size), .val (.int (14 : Int32)), .val (.int (5 : Int32)), .val (.ref aUNSIGNED_SHORT)] [(.ref aUNSIGNED_SHORT)])
  obtain ⟨T12, X12, e12, st12⟩ := getF X11 hx hZ hown (host := "") (Or.inl (hw _ (List.mem_of_getElem? (i := 43) rfl))) Via.refl e11 (R_UNSIGNED_SHORT.ext Od1.2) (g := (mkF m 29 #[.val (.ref a1), .val (.ref h0.size), .val (.int (14 : Int32)), .val (.int (5 : Int32)), .val (.ref aUNSIGNED_SHORT)] [(.ref aUNSIGNED_SHORT)])) rfl rfl (hb hby d2_29)
  refine own_go st12 ?_
  show own_Goes _ _ _ _ _ _ _ T12 (mkF m 32 #[.val (.ref a1), .val (.ref h0.size), .val (.int (14 : Int32)), .val (.int (5 : Int32)), .val (.ref aUNSIGNED_SHORT)] [(.int (2 : Int32))])
  refine own_go (fun _ k => XS.aloadN X12.here hx rfl (hb hby d2_32) rfl rfl k) ?_
  show own_Goes _ _ _ _ _ _ _ T12 (mkF m 33 #[.val (.ref a1), .val (.ref h0.size), .val (.int (14 : Int32)), .val (.int (5 : Int32)), .val (.ref aUNSIGNED_SHORT)] [(.ref a1), (.int (2 : Int32))])
  obtain ⟨T13, X13, e13, st13⟩ := getF X12 hx hZ hown (host := "") (Or.inl (hw _ (List.mem_of_getElem? (i := 43) rfl))) Via.refl e12 (R_a1.ext Od1.2) (g := (mkF m 33 #[.val (.ref a1), .val (.ref h0.size), .val (.int (14 : Int32)), .val (.int (5 : Int32)), .val (.ref aUNSIGNED_SHORT)] [(.ref a1), (.int (2 : Int32))])) rfl rfl (hb hby d2_33)
  refine own_go st13 ?_
  show own_Goes _ _ _ _ _ _ _ T13 (mkF m 36 #[.val (.ref a1), .val (.ref h0.size), .val (.int (14 : Int32)), .val (.int (5 : Int32)), .val (.ref aUNSIGNED_SHORT)] [(.int (5 : Int32)), (.int (2 : Int32))])
  refine own_go (fun _ k => XS.icmpYes X13.here hx rfl (pc0 := 36) (pc' := 42) rfl (hb hby d2_36) rfl (feq (by decide : ¬ ((2 : Int32) = (5 : Int32)))).2 (by decide) (by decide) k) ?_
  show own_Goes _ _ _ _ _ _ _ T13 (mkF m 42 #[.val (.ref a1), .val (.ref h0.size), .val (.int (14 : Int32)), .val (.int (5 : Int32)), .val (.ref aUNSIGNED_SHORT)] [])
  refine own_go (fun _ k => XS.iinc X13.here hx rfl (hb hby d2_42) rfl (l' := #[.val (.ref a1), .val (.ref h0.size), .val (.int (14 : Int32)), .val (.int (6 : Int32)), .val (.ref aUNSIGNED_SHORT)]) rfl k) ?_
  show own_Goes _ _ _ _ _ _ _ T13 (mkF m 45 #[.val (.ref a1), .val (.ref h0.size), .val (.int (14 : Int32)), .val (.int (6 : Int32)), .val (.ref aUNSIGNED_SHORT)] [])
  refine own_go (fun _ k => XS.goto X13.here hx rfl (pc0 := 45) (pc' := 9) rfl (hb hby d2_45) (by decide) (by decide) k) ?_
  show own_Goes _ _ _ _ _ _ _ T13 (mkF m 9 #[.val (.ref a1), .val (.ref h0.size), .val (.int (14 : Int32)), .val (.int (6 : Int32)), .val (.ref aUNSIGNED_SHORT)] [])
  refine own_go (fun _ k => XS.iloadN X13.here hx rfl (hb hby d2_9) rfl k) ?_
  show own_Goes _ _ _ _ _ _ _ T13 (mkF m 10 #[.val (.ref a1), .val (.ref h0.size), .val (.int (14 : Int32)), .val (.int (6 : Int32)), .val (.ref aUNSIGNED_SHORT)] [(.int (6 : Int32))])
  refine own_go (fun _ k => XS.iloadN X13.here hx rfl (hb hby d2_10) rfl k) ?_
  show own_Goes _ _ _ _ _ _ _ T13 (mkF m 11 #[.val (.ref a1), .val (.ref h0.size), .val (.int (14 : Int32)), .val (.int (6 : Int32)), .val (.ref aUNSIGNED_SHORT)] [(.int (14 : Int32)), (.int (6 : Int32))])
  refine own_go (fun _ k => XS.icmpNo X13.here hx rfl (hb hby d2_11) rfl (tlt (by decide : (6 : Int32) < (14 : Int32))).2.1 k) ?_
  show own_Goes _ _ _ _ _ _ _ T13 (mkF m 14 #[.val (.ref a1), .val (.ref h0.size), .val (.int (14 : Int32)), .val (.int (6 : Int32)), .val (.ref aUNSIGNED_SHORT)] [])
  refine own_go (fun _ k => XS.aloadN X13.here hx rfl (hb hby d2_14) rfl rfl k) ?_
  show own_Goes _ _ _ _ _ _ _ T13 (mkF m 15 #[.val (.ref a1), .val (.ref h0.size), .val (.int (14 : Int32)), .val (.int (6 : Int32)), .val (.ref aUNSIGNED_SHORT)] [(.ref h0.size)])
  refine own_go (fun _ k => XS.iloadN X13.here hx rfl (hb hby d2_15) rfl k) ?_
  show own_Goes _ _ _ _ _ _ _ T13 (mkF m 16 #[.val (.ref a1), .val (.ref h0.size), .val (.int (14 : Int32)), .val (.int (6 : Int32)), .val (.ref aUNSIGNED_SHORT)] [(.int (6 : Int32)), (.ref h0.size)])
  refine own_go (fun t k => X13.aaload hx (j := (6 : Int32)) (v := (.ref aINT)) (by rw [e13]; exact A1.1) (State.isArrayOf_alike hZ.alike A1.2.1) rfl A1.2.2 (by show ¬ (_ ∨ clV.slots.size ≤ _); rw [hsz]; decide) el_6 (g := (mkF m 16 #[.val (.ref a1), .val (.ref h0.size), .val (.int (14 : Int32)), .val (.int (6 : Int32)), .val (.ref aUNSIGNED_SHORT)] [(.int (6 : Int32)), (.ref h0.size)])) rfl rfl (hb hby d2_16) t k) ?_
  show own_Goes _ _ _ _ _ _ _ T13 (mkF m 17 #[.val (.ref a1), .val (.ref h0.size), .val (.int (14 : Int32)), .val (.int (6 : Int32)), .val (.ref aUNSIGNED_SHORT)] [(.ref aINT)])
  refine own_go (fun _ k => XS.astore X13.here hx rfl (hb hby d2_17) rfl rfl (l' := #[.val (.ref a1), .val (.ref h0.size), .val (.int (14 : Int32)), .val (.int (6 : Int32)), .val (.ref aINT)]) rfl k) ?_
  show own_Goes _ _ _ _ _ _ _ T13 (mkF m 19 #[.val (.ref a1), .val (.ref h0.size), .val (.int (14 : Int32)), .val (.int (6 : Int32)), .val (.ref aINT)] [])
  refine own_go (fun _ k => XS.aload X13.here hx rfl (hb hby d2_19) rfl rfl k) ?_
  show own_Goes _ _ _ _ _ _ _ T13 (mkF m 21 #[.val (.ref a1), .val (.ref h0.size), .val (.int (14 : Int32)), .val (.int (6 : Int32)), .val (.ref aINT)] [(.ref aINT)])
  obtain ⟨T14, X14, e14, st14⟩ := getF X13 hx hZ hown (host := "") (Or.inl (hw _ (List.mem_of_getElem? (i := 41) rfl))) Via.refl e13 (G_INT.ext Od1.2) (g := (mkF m 21 #[.val (.ref a1), .val (.ref h0.size), .val (.int (14 : Int32)), .val (.int (6 : Int32)), .val (.ref aINT)] [(.ref aINT)])) rfl rfl (hb hby d2_21)
  refine own_go st14 ?_
  show own_Goes _ _ _ _ _ _ _ T14 (mkF m 24 #[.val (.ref a1), .val (.ref h0.size), .val (.int (14 : Int32)), .val (.int (6 : Int32)), .val (.ref aINT)] [(.int (1 : Int32))])
  refine own_go (fun _ k => XS.ifYes X14.here hx rfl (pc0 := 24) (pc' := 42) rfl (hb hby d2_24) rfl ((if0 _ _).trans (feq (by decide : ¬ ((1 : Int32) = (0 : Int32)))).2) (by decide) (by decide) k) ?_
  show own_Goes _ _ _ _ _ _ _ T14 (mkF m 42 #[.val (.ref a1), .val (.ref h0.size), .val (.int (14 : Int32)), .val (.int (6 : Int32)), .val (.ref aINT)] [])
  refine own_go (fun _ k => XS.iinc X14.here hx rfl (hb hby d2_42) rfl (l' := #[.val (.ref a1), .val (.ref h0.size), .val (.int (14 : Int32)), .val (.int (7 : Int32)), .val (.ref aINT)]) rfl k) ?_
  show own_Goes _ _ _ _ _ _ _ T14 (mkF m 45 #[.val (.ref a1), .val (.ref h0.size), .val (.int (14 : Int32)), .val (.int (7 : Int32)), .val (.ref aINT)] [])
  refine own_go (fun _ k => XS.goto X14.here hx rfl (pc0 := 45) (pc' := 9) rfl (hb hby d2_45) (by decide) (by decide) k) ?_
  show own_Goes _ _ _ _ _ _ _ T14 (mkF m 9 #[.val (.ref a1), .val (.ref h0.size), .val (.int (14 : Int32)), .val (.int (7 : Int32)), .val (.ref aINT)] [])
  refine own_go (fun _ k => XS.iloadN X14.here hx rfl (hb hby d2_9) rfl k) ?_
  show own_Goes _ _ _ _ _ _ _ T14 (mkF m 10 #[.val (.ref a1), .val (.ref h0.size), .val (.int (14 : Int32)), .val (.int (7 : Int32)), .val (.ref aINT)] [(.int (7 : Int32))])
  refine own_go (fun _ k => XS.iloadN X14.here hx rfl (hb hby d2_10) rfl k) ?_
  show own_Goes _ _ _ _ _ _ _ T14 (mkF m 11 #[.val (.ref a1), .val (.ref h0.size), .val (.int (14 : Int32)), .val (.int (7 : Int32)), .val (.ref aINT)] [(.int (14 : Int32)), (.int (7 : Int32))])
  refine own_go (fun _ k => XS.icmpNo X14.here hx rfl (hb hby d2_11) rfl (tlt (by decide : (7 : Int32) < (14 : Int32))).2.1 k) ?_
  show own_Goes _ _ _ _ _ _ _ T14 (mkF m 14 #[.val (.ref a1), .val (.ref h0.size), .val (.int (14 : Int32)), .val (.int (7 : Int32)), .val (.ref aINT)] [])
  refine own_go (fun _ k => XS.aloadN X14.here hx rfl (hb hby d2_14) rfl rfl k) ?_
  show own_Goes _ _ _ _ _ _ _ T14 (mkF m 15 #[.val (.ref a1), .val (.ref h0.size), .val (.int (14 : Int32)), .val (.int (7 : Int32)), .val (.ref aINT)] [(.ref h0.size)])
  refine own_go (fun _ k => XS.iloadN X14.here hx rfl (hb hby d2_15) rfl k) ?_
  show own_Goes _ _ _ _ _ _ _ T14 (mkF m 16 #[.val (.ref a1), .val (.ref h0.size), .val (.int (14 : Int32)), .val (.int (7 : Int32)), .val (.ref aINT)] [(.int (7 : Int32)), (.ref h0.size)])
  refine own_go (fun t k => X14.aaload hx (j := (7 : Int32)) (v := (.ref aUNSIGNED_INT)) (by rw [e14]; exact A1.1) (State.isArrayOf_alike hZ.alike A1.2.1) rfl A1.2.2 (by show ¬ (_ ∨ clV.slots.size ≤ _); rw [hsz]; decide) el_7 (g := (mkF m 16 #[.val (.ref a1), .val (.ref h0.size), .val (.int (14 : Int32)), .val (.int (7 : Int32)), .val (.ref aINT)] [(.int (7 : Int32)), (.ref h0.size)])) rfl rfl (hb hby d2_16) t k) ?_
  show own_Goes _ _ _ _ _ _ _ T14 (mkF m 17 #[.val (.ref a1), .val (.ref h0.size), .val (.int (14 : Int32)), .val (.int (7 : Int32)), .val (.ref aINT)] [(.ref aUNSIGNED_INT)])
  refine own_go (fun _ k => XS.astore X14.here hx rfl (hb hby d2_17) rfl rfl (l' := #[.val (.ref a1), .val (.ref h0.size), .val (.int (14 : Int32)), .val (.int (7 : Int32)), .val (.ref aUNSIGNED_INT)]) rfl k) ?_
  show own_Goes _ _ _ _ _ _ _ T14 (mkF m 19 #[.val (.ref a1), .val (.ref h0.size), .val (.int (14 : Int32)), .val (.int (7 : Int32)), .val (.ref aUNSIGNED_INT)] [])
  refine own_go (fun _ k => XS.aload X14.here hx rfl (hb hby d2_19) rfl rfl k) ?_
  show own_Goes _ _ _ _ _ _ _ T14 (mkF m 21 #[.val (.ref a1), .val (.ref h0.size), .val (.int (14 : Int32)), .val (.int (7 : Int32)), .val (.ref aUNSIGNED_INT)] [(.ref aUNSIGNED_INT)])
  obtain ⟨T15, X15, e15, st15⟩ := getF X14 hx hZ hown (host := "") (Or.inl (hw _ (List.mem_of_getElem? (i := 41) rfl))) Via.refl e14 (G_UNSIGNED_INT.ext Od1.2) (g := (mkF m 21 #[.val (.ref a1), .val (.ref h0.size), .val (.int (14 : Int32)), .val (.int (7 : Int32)), .val (.ref aUNSIGNED_INT)] [(.ref aUNSIGNED_INT)])) rfl rfl (hb hby d2_21)
  refine own_go st15 ?_
  show own_Goes _ _ _ _ _ _ _ T15 (mkF m 24 #[.val (.ref a1), .val (.ref h0.size), .val (.int (14 : Int32)), .val (.int (7 : Int32)), .val (.ref aUNSIGNED_INT)] [(.int (0 : Int32))])
  refine own_go (fun _ k => XS.ifNo X15.here hx rfl (hb hby d2_24) rfl ((if0 _ _).trans (teq (by decide : (0 : Int32) = (0 : Int32))).2) k) ?_
  show own_Goes _ _ _ _ _ _ _ T15 (mkF m 27 #[.val (.ref a1), .val (.ref h0.size), .val (.int (14 : Int32)), .val (.int (7 : Int32)), .val (.ref aUNSIGNED_INT)] [])
  refine own_go (fun _ k => XS.aload X15.here hx rfl (hb hby d2_27) rfl rfl k) ?_
  show own_Goes _ _ _ _ _ _ _ T15 (mkF m 29 #[.val (.ref a1), .val (.ref h0.size), .val (.int (14 : Int32)), .val (.int (7 : Int32)), .val (.ref aUNSIGNED_INT)] [(.ref aUNSIGNED_INT)])
  obtain ⟨T16, X16, e16, st16⟩ := getF X15 hx hZ hown (host := "") (Or.inl (hw _ (List.mem_of_getElem? (i := 43) rfl))) Via.refl e15 (R_UNSIGNED_INT.ext Od1.2) (g := (mkF m 29 #[.val (.ref a1), .val (.ref h0.size), .val (.int (14 : Int32)), .val (.int (7 : Int32)), .val (.ref aUNSIGNED_INT)] [(.ref aUNSIGNED_INT)])) rfl rfl (hb hby d2_29)
  refine own_go st16 ?_
  show own_Goes _ _ _ _ _ _ _ T16 (mkF m 32 #[.val (.ref a1), .val (.ref h0.size), .val (.int (14 : Int32)), .val (.int (7 : Int32)), .val (.ref aUNSIGNED_INT)] [(.int (3 : Int32))])
  refine own_go (fun _ k => XS.aloadN X16.here hx rfl (hb hby d2_32) rfl rfl k) ?_
  show own_Goes _ _ _ _ _ _ _ T16 (mkF m 33 #[.val (.ref a1), .val (.ref h0.size), .val (.int (14 : Int32)), .val (.int (7 : Int32)), .val (.ref aUNSIGNED_INT)] [(.ref a1), (.int (3 : Int32))])
  obtain ⟨T17, X17, e17, st17⟩ := getF X16 hx hZ hown (host := "") (Or.inl (hw _ (List.mem_of_getElem? (i := 43) rfl))) Via.refl e16 (R_a1.ext Od1.2) (g := (mkF m 33 #[.val (.ref a1), .val (.ref h0.size), .val (.int (14 : Int32)), .val (.int (7 : Int32)), .val (.ref aUNSIGNED_INT)] [(.ref a1), (.int (3 : Int32))])) rfl rfl (hb hby d2_33)
  refine own_go st17 ?_
  show own_Goes _ _ _ _ _ _ _ T17 (mkF m 36 #[.val (.ref a1), .val (.ref h0.size), .val (.int (14 : Int32)), .val (.int (7 : Int32)), .val (.ref aUNSIGNED_INT)] [(.int (5 : Int32)), (.int (3 : Int32))])
  refine own_go (fun _ k => XS.icmpYes X17.here hx rfl (pc0 := 36) (pc' := 42) rfl (hb hby d2_36) rfl (feq (by decide : ¬ ((3 : Int32) = (5 : Int32)))).2 (by decide) (by decide) k) ?_
  show own_Goes _ _ _ _ _ _ _ T17 (mkF m 42 #[.val (.ref a1), .val (.ref h0.size), .val (.int (14 : Int32)), .val (.int (7 : Int32)), .val (.ref aUNSIGNED_INT)] [])
  refine own_go (fun _ k => XS.iinc X17.here hx rfl (hb hby d2_42) rfl (l' := #[.val (.ref a1), .val (.ref h0.size), .val (.int (14 : Int32)), .val (.int (8 : Int32)), .val (.ref aUNSIGNED_INT)]) rfl k) ?_
  show own_Goes _ _ _ _ _ _ _ T17 (mkF m 45 #[.val (.ref a1), .val (.ref h0.size), .val (.int (14 : Int32)), .val (.int (8 : Int32)), .val (.ref aUNSIGNED_INT)] [])
  refine own_go (fun _ k => XS.goto X17.here hx rfl (pc0 := 45) (pc' := 9) rfl (hb hby d2_45) (by decide) (by decide) k) ?_
  show own_Goes _ _ _ _ _ _ _ T17 (mkF m 9 #[.val (.ref a1), .val (.ref h0.size), .val (.int (14 : Int32)), .val (.int (8 : Int32)), .val (.ref aUNSIGNED_INT)] [])
  refine own_go (fun _ k => XS.iloadN X17.here hx rfl (hb hby d2_9) rfl k) ?_
  show own_Goes _ _ _ _ _ _ _ T17 (mkF m 10 #[.val (.ref a1), .val (.ref h0.size), .val (.int (14 : Int32)), .val (.int (8 : Int32)), .val (.ref aUNSIGNED_INT)] [(.int (8 : Int32))])
  refine own_go (fun _ k => XS.iloadN X17.here hx rfl (hb hby d2_10) rfl k) ?_
  show own_Goes _ _ _ _ _ _ _ T17 (mkF m 11 #[.val (.ref a1), .val (.ref h0.size), .val (.int (14 : Int32)), .val (.int (8 : Int32)), .val (.ref aUNSIGNED_INT)] [(.int (14 : Int32)), (.int (8 : Int32))])
  refine own_go (fun _ k => XS.icmpNo X17.here hx rfl (hb hby d2_11) rfl (tlt (by decide : (8 : Int32) < (14 : Int32))).2.1 k) ?_
  show own_Goes _ _ _ _ _ _ _ T17 (mkF m 14 #[.val (.ref a1), .val (.ref h0.size), .val (.int (14 : Int32)), .val (.int (8 : Int32)), .val (.ref aUNSIGNED_INT)] [])
  refine own_go (fun _ k => XS.aloadN X17.here hx rfl (hb hby d2_14) rfl rfl k) ?_
  show own_Goes _ _ _ _ _ _ _ T17 (mkF m 15 #[.val (.ref a1), .val (.ref h0.size), .val (.int (14 : Int32)), .val (.int (8 : Int32)), .val (.ref aUNSIGNED_INT)] [(.ref h0.size)])
  refine own_go (fun _ k => XS.iloadN X17.here hx rfl (hb hby d2_15) rfl k) ?_
  show own_Goes _ _ _ _ _ _ _ T17 (mkF m 16 #[.val (.ref a1), .val (.ref h0.size), .val (.int (14 : Int32)), .val (.int (8 : Int32)), .val (.ref aUNSIGNED_INT)] [(.int (8 : Int32)), (.ref h0.size)])
  refine own_go (fun t k => X17.aaload hx (j := (8 : Int32)) (v := (.ref aLONG)) (by rw [e17]; exact A1.1) (State.isArrayOf_alike hZ.alike A1.2.1) rfl A1.2.2 (by show ¬ (_ ∨ clV.slots.size ≤ _); rw [hsz]; decide) el_8 (g := (mkF m 16 #[.val (.ref a1), .val (.ref h0.size), .val (.int (14 : Int32)), .val (.int (8 : Int32)), .val (.ref aUNSIGNED_INT)] [(.int (8 : Int32)), (.ref h0.size)])) rfl rfl (hb hby d2_16) t k) ?_
  show own_Goes _ _ _ _ _ _ _ T17 (mkF m 17 #[.val (.ref a1), .val (.ref h0.size), .val (.int (14 : Int32)), .val (.int (8 : Int32)), .val (.ref aUNSIGNED_INT)] [(.ref aLONG)])
  refine own_go (fun _ k => XS.astore X17.here hx rfl (hb hby d2_17) rfl rfl (l' := #[.val (.ref a1), .val (.ref h0.size), .val (.int (14 : Int32)), .val (.int (8 : Int32)), .val (.ref aLONG)]) rfl k) ?_
  show own_Goes _ _ _ _ _ _ _ T17 (mkF m 19 #[.val (.ref a1), .val (.ref h0.size), .val (.int (14 : Int32)), .val (.int (8 : Int32)), .val (.ref aLONG)] [])
  refine own_go (fun _ k => XS.aload X17.here hx rfl (hb hby d2_19) rfl rfl k) ?_
  show own_Goes _ _ _ _ _ _ _ T17 (mkF m 21 #[.val (.ref a1), .val (.ref h0.size), .val (.int (14 : Int32)), .val (.int (8 : Int32)), .val (.ref aLONG)] [(.ref aLONG)])
  obtain ⟨T18, X18, e18, st18⟩ := getF X17 hx hZ hown (host := "") (Or.inl (hw _ (List.mem_of_getElem? (i := 41) rfl))) Via.refl e17 (G_LONG.ext Od1.2) (g := (mkF m 21 #[.val (.ref a1), .val (.ref h0.size), .val (.int (14 : Int32)), .val (.int (8 : Int32)), .val (.ref aLONG)] [(.ref aLONG)])) rfl rfl (hb hby d2_21)
  refine own_go st18 ?_
  show own_Goes _ _ _ _ _ _ _ T18 (mkF m 24 #[.val (.ref a1), .val (.ref h0.size), .val (.int (14 : Int32)), .val (.int (8 : Int32)), .val (.ref aLONG)] [(.int (1 : Int32))])
  refine own_go (fun _ k => XS.ifYes X18.here hx rfl (pc0 := 24) (pc' := 42) rfl (hb hby d2_24) rfl ((if0 _ _).trans (feq (by decide : ¬ ((1 : Int32) = (0 : Int32)))).2) (by decide) (by decide) k) ?_
  show own_Goes _ _ _ _ _ _ _ T18 (mkF m 42 #[.val (.ref a1), .val (.ref h0.size), .val (.int (14 : Int32)), .val (.int (8 : Int32)), .val (.ref aLONG)] [])
  refine own_go (fun _ k => XS.iinc X18.here hx rfl (hb hby d2_42) rfl (l' := #[.val (.ref a1), .val (.ref h0.size), .val (.int (14 : Int32)), .val (.int (9 : Int32)), .val (.ref aLONG)]) rfl k) ?_
  show own_Goes _ _ _ _ _ _ _ T18 (mkF m 45 #[.val (.ref a1), .val (.ref h0.size), .val (.int (14 : Int32)), .val (.int (9 : Int32)), .val (.ref aLONG)] [])
  refine own_go (fun _ k => XS.goto X18.here hx rfl (pc0 := 45) (pc' := 9) rfl (hb hby d2_45) (by decide) (by decide) k) ?_
  show own_Goes _ _ _ _ _ _ _ T18 (mkF m 9 #[.val (.ref a1), .val (.ref h0.size), .val (.int (14 : Int32)), .val (.int (9 : Int32)), .val (.ref aLONG)] [])
  refine own_go (fun _ k => XS.iloadN X18.here hx rfl (hb hby d2_9) rfl k) ?_
  show own_Goes _ _ _ _ _ _ _ T18 (mkF m 10 #[.val (.ref a1), .val (.ref h0.size), .val (.int (14 : Int32)), .val (.int (9 : Int32)), .val (.ref aLONG)] [(.int (9 : Int32))])
  refine own_go (fun _ k => XS.iloadN X18.here hx rfl (hb hby d2_10) rfl k) ?_
  show own_Goes _ _ _ _ _ _ _ T18 (mkF m 11 #[.val (.ref a1), .val (.ref h0.size), .val (.int (14 : Int32)), .val (.int (9 : Int32)), .val (.ref aLONG)] [(.int (14 : Int32)), (.int (9 : Int32))])
  refine own_go (fun _ k => XS.icmpNo X18.here hx rfl (hb hby d2_11) rfl (tlt (by decide : (9 : Int32) < (14 : Int32))).2.1 k) ?_
  show own_Goes _ _ _ _ _ _ _ T18 (mkF m 14 #[.val (.ref a1), .val (.ref h0.size), .val (.int (14 : Int32)), .val (.int (9 : Int32)), .val (.ref aLONG)] [])
  refine own_go (fun _ k => XS.aloadN X18.here hx rfl (hb hby d2_14) rfl rfl k) ?_
  show own_Goes _ _ _ _ _ _ _ T18 (mkF m 15 #[.val (.ref a1), .val (.ref h0.size), .val (.int (14 : Int32)), .val (.int (9 : Int32)), .val (.ref aLONG)] [(.ref h0.size)])
  refine own_go (fun _ k => XS.iloadN X18.here hx rfl (hb hby d2_15) rfl k) ?_
  show own_Goes _ _ _ _ _ _ _ T18 (mkF m 16 #[.val (.ref a1), .val (.ref h0.size), .val (.int (14 : Int32)), .val (.int (9 : Int32)), .val (.ref aLONG)] [(.int (9 : Int32)), (.ref h0.size)])
  refine own_go (fun t k => X18.aaload hx (j := (9 : Int32)) (v := (.ref aUNSIGNED_LONG)) (by rw [e18]; exact A1.1) (State.isArrayOf_alike hZ.alike A1.2.1) rfl A1.2.2 (by show ¬ (_ ∨ clV.slots.size ≤ _); rw [hsz]; decide) el_9 (g := (mkF m 16 #[.val (.ref a1), .val (.ref h0.size), .val (.int (14 : Int32)), .val (.int (9 : Int32)), .val (.ref aLONG)] [(.int (9 : Int32)), (.ref h0.size)])) rfl rfl (hb hby d2_16) t k) ?_
  show own_Goes _ _ _ _ _ _ _ T18 (mkF m 17 #[.val (.ref a1), .val (.ref h0.size), .val (.int (14 : Int32)), .val (.int (9 : Int32)), .val (.ref aLONG)] [(.ref aUNSIGNED_LONG)])
  refine own_go (fun _ k => XS.astore X18.here hx rfl (hb hby d2_17) rfl rfl (l' := #[.val (.ref a1), .val (.ref h0.size), .val (.int (14 : Int32)), .val (.int (9 : Int32)), .val (.ref aUNSIGNED_LONG)]) rfl k) ?_
  show own_Goes _ _ _ _ _ _ _ T18 (mkF m 19 #[.val (.ref a1), .val (.ref h0.size), .val (.int (14 : Int32)), .val (.int (9 : Int32)), .val (.ref aUNSIGNED_LONG)] [])
  refine own_go (fun _ k => XS.aload X18.here hx rfl (hb hby d2_19) rfl rfl k) ?_
  show own_Goes _ _ _ _ _ _ _ T18 (mkF m 21 #[.val (.ref a1), .val (.ref h0.size), .val (.int (14 : Int32)), .val (.int (9 : Int32)), .val (.ref aUNSIGNED_LONG)] [(.ref aUNSIGNED_LONG)])
  obtain ⟨T19, X19, e19, st19⟩ := getF X18 hx hZ hown (host := "") (Or.inl (hw _ (List.mem_of_getElem? (i := 41) rfl))) Via.refl e18 (G_UNSIGNED_LONG.ext Od1.2) (g := (mkF m 21 #[.val (.ref a1), .val (.ref h0.size), .val (.int (14 : Int32)), .val (.int (9 : Int32)), .val (.ref aUNSIGNED_LONG)] [(.ref aUNSIGNED_LONG)])) rfl rfl (hb hby d2_21)
  refine own_go st19 ?_
  show own_Goes _ _ _ _ _ _ _ T19 (mkF m 24 #[.val (.ref a1), .val (.ref h0.size), .val (.int (14 : Int32)), .val (.int (9 : Int32)), .val (.ref aUNSIGNED_LONG)] [(.int (0 : Int32))])
  refine own_go (fun _ k => XS.ifNo X19.here hx rfl (hb hby d2_24) rfl ((if0 _ _).trans (teq (by decide : (0 : Int32) = (0 : Int32))).2) k) ?_
  show own_Goes _ _ _ _ _ _ _ T19 (mkF m 27 #[.val (.ref a1), .val (.ref h0.size), .val (.int (14 : Int32)), .val (.int (9 : Int32)), .val (.ref aUNSIGNED_LONG)] [])
  refine own_go (fun _ k => XS.aload X19.here hx rfl (hb hby d2_27) rfl rfl k) ?_
  show own_Goes _ _ _ _ _ _ _ T19 (mkF m 29 #[.val (.ref a1), .val (.ref h0.size), .val (.int (14 : Int32)), .val (.int (9 : Int32)), .val (.ref aUNSIGNED_LONG)] [(.ref aUNSIGNED_LONG)])
  obtain ⟨T20, X20, e20, st20⟩ := getF X19 hx hZ hown (host := "") (Or.inl (hw _ (List.mem_of_getElem? (i := 43) rfl))) Via.refl e19 (R_UNSIGNED_LONG.ext Od1.2) (g := (mkF m 29 #[.val (.ref a1), .val (.ref h0.size), .val (.int (14 : Int32)), .val (.int (9 : Int32)), .val (.ref aUNSIGNED_LONG)] [(.ref aUNSIGNED_LONG)])) rfl rfl (hb hby d2_29)
  refine own_go st20 ?_
  show own_Goes _ _ _ _ _ _ _ T20 (mkF m 32 #[.val (.ref a1), .val (.ref h0.size), .val (.int (14 : Int32)), .val (.int (9 : Int32)), .val (.ref aUNSIGNED_LONG)] [(.int (4 : Int32))])
  refine own_go (fun _ k => XS.aloadN X20.here hx rfl (hb hby d2_32) rfl rfl k) ?_
  show own_Goes _ _ _ _ _ _ _ T20 (mkF m 33 #[.val (.ref a1), .val (.ref h0.size), .val (.int (14 : Int32)), .val (.int (9 : Int32)), .val (.ref aUNSIGNED_LONG)] [(.ref a1), (.int (4 : Int32))])
  obtain ⟨T21, X21, e21, st21⟩ := getF X20 hx hZ hown (host := "") (Or.inl (hw _ (List.mem_of_getElem? (i := 43) rfl))) Via.refl e20 (R_a1.ext Od1.2) (g := (mkF m 33 #[.val (.ref a1), .val (.ref h0.size), .val (.int (14 : Int32)), .val (.int (9 : Int32)), .val (.ref aUNSIGNED_LONG)] [(.ref a1), (.int (4 : Int32))])) rfl rfl (hb hby d2_33)
  refine own_go st21 ?_
  show own_Goes _ _ _ _ _ _ _ T21 (mkF m 36 #[.val (.ref a1), .val (.ref h0.size), .val (.int (14 : Int32)), .val (.int (9 : Int32)), .val (.ref aUNSIGNED_LONG)] [(.int (5 : Int32)), (.int (4 : Int32))])
  refine own_go (fun _ k => XS.icmpYes X21.here hx rfl (pc0 := 36) (pc' := 42) rfl (hb hby d2_36) rfl (feq (by decide : ¬ ((4 : Int32) = (5 : Int32)))).2 (by decide) (by decide) k) ?_
  show own_Goes _ _ _ _ _ _ _ T21 (mkF m 42 #[.val (.ref a1), .val (.ref h0.size), .val (.int (14 : Int32)), .val (.int (9 : Int32)), .val (.ref aUNSIGNED_LONG)] [])
  refine own_go (fun _ k => XS.iinc X21.here hx rfl (hb hby d2_42) rfl (l' := #[.val (.ref a1), .val (.ref h0.size), .val (.int (14 : Int32)), .val (.int (10 : Int32)), .val (.ref aUNSIGNED_LONG)]) rfl k) ?_
  show own_Goes _ _ _ _ _ _ _ T21 (mkF m 45 #[.val (.ref a1), .val (.ref h0.size), .val (.int (14 : Int32)), .val (.int (10 : Int32)), .val (.ref aUNSIGNED_LONG)] [])
  refine own_go (fun _ k => XS.goto X21.here hx rfl (pc0 := 45) (pc' := 9) rfl (hb hby d2_45) (by decide) (by decide) k) ?_
  show own_Goes _ _ _ _ _ _ _ T21 (mkF m 9 #[.val (.ref a1), .val (.ref h0.size), .val (.int (14 : Int32)), .val (.int (10 : Int32)), .val (.ref aUNSIGNED_LONG)] [])
  refine own_go (fun _ k => XS.iloadN X21.here hx rfl (hb hby d2_9) rfl k) ?_
  show own_Goes _ _ _ _ _ _ _ T21 (mkF m 10 #[.val (.ref a1), .val (.ref h0.size), .val (.int (14 : Int32)), .val (.int (10 : Int32)), .val (.ref aUNSIGNED_LONG)] [(.int (10 : Int32))])
  refine own_go (fun _ k => XS.iloadN X21.here hx rfl (hb hby d2_10) rfl k) ?_
  show own_Goes _ _ _ _ _ _ _ T21 (mkF m 11 #[.val (.ref a1), .val (.ref h0.size), .val (.int (14 : Int32)), .val (.int (10 : Int32)), .val (.ref aUNSIGNED_LONG)] [(.int (14 : Int32)), (.int (10 : Int32))])
  refine own_go (fun _ k => XS.icmpNo X21.here hx rfl (hb hby d2_11) rfl (tlt (by decide : (10 : Int32) < (14 : Int32))).2.1 k) ?_
  show own_Goes _ _ _ _ _ _ _ T21 (mkF m 14 #[.val (.ref a1), .val (.ref h0.size), .val (.int (14 : Int32)), .val (.int (10 : Int32)), .val (.ref aUNSIGNED_LONG)] [])
  refine own_go (fun _ k => XS.aloadN X21.here hx rfl (hb hby d2_14) rfl rfl k) ?_
  show own_Goes _ _ _ _ _ _ _ T21 (mkF m 15 #[.val (.ref a1), .val (.ref h0.size), .val (.int (14 : Int32)), .val (.int (10 : Int32)), .val (.ref aUNSIGNED_LONG)] [(.ref h0.size)])
  refine own_go (fun _ k => XS.iloadN X21.here hx rfl (hb hby d2_15) rfl k) ?_
  show own_Goes _ _ _ _ _ _ _ T21 (mkF m 16 #[.val (.ref a1), .val (.ref h0.size), .val (.int (14 : Int32)), .val (.int (10 : Int32)), .val (.ref aUNSIGNED_LONG)] [(.int (10 : Int32)), (.ref h0.size)])
  refine own_go (fun t k => X21.aaload hx (j := (10 : Int32)) (v := (.ref aLONG_LONG)) (by rw [e21]; exact A1.1) (State.isArrayOf_alike hZ.alike A1.2.1) rfl A1.2.2 (by show ¬ (_ ∨ clV.slots.size ≤ _); rw [hsz]; decide) el_10 (g := (mkF m 16 #[.val (.ref a1), .val (.ref h0.size), .val (.int (14 : Int32)), .val (.int (10 : Int32)), .val (.ref aUNSIGNED_LONG)] [(.int (10 : Int32)), (.ref h0.size)])) rfl rfl (hb hby d2_16) t k) ?_
  show own_Goes _ _ _ _ _ _ _ T21 (mkF m 17 #[.val (.ref a1), .val (.ref h0.size), .val (.int (14 : Int32)), .val (.int (10 : Int32)), .val (.ref aUNSIGNED_LONG)] [(.ref aLONG_LONG)])
  refine own_go (fun _ k => XS.astore X21.here hx rfl (hb hby d2_17) rfl rfl (l' := #[.val (.ref a1), .val (.ref h0.size), .val (.int (14 : Int32)), .val (.int (10 : Int32)), .val (.ref aLONG_LONG)]) rfl k) ?_
  show own_Goes _ _ _ _ _ _ _ T21 (mkF m 19 #[.val (.ref a1), .val (.ref h0.size), .val (.int (14 : Int32)), .val (.int (10 : Int32)), .val (.ref aLONG_LONG)] [])
  refine own_go (fun _ k => XS.aload X21.here hx rfl (hb hby d2_19) rfl rfl k) ?_
  show own_Goes _ _ _ _ _ _ _ T21 (mkF m 21 #[.val (.ref a1), .val (.ref h0.size), .val (.int (14 : Int32)), .val (.int (10 : Int32)), .val (.ref aLONG_LONG)] [(.ref aLONG_LONG)])
  obtain ⟨T22, X22, e22, st22⟩ := getF X21 hx hZ hown (host := "") (Or.inl (hw _ (List.mem_of_getElem? (i := 41) rfl))) Via.refl e21 (G_LONG_LONG.ext Od1.2) (g := (mkF m 21 #[.val (.ref a1), .val (.ref h0.size), .val (.int (14 : Int32)), .val (.int (10 : Int32)), .val (.ref aLONG_LONG)] [(.ref aLONG_LONG)])) rfl rfl (hb hby d2_21)
  refine own_go st22 ?_
  show own_Goes _ _ _ _ _ _ _ T22 (mkF m 24 #[.val (.ref a1), .val (.ref h0.size), .val (.int (14 : Int32)), .val (.int (10 : Int32)), .val (.ref aLONG_LONG)] [(.int (1 : Int32))])
  refine own_go (fun _ k => XS.ifYes X22.here hx rfl (pc0 := 24) (pc' := 42) rfl (hb hby d2_24) rfl ((if0 _ _).trans (feq (by decide : ¬ ((1 : Int32) = (0 : Int32)))).2) (by decide) (by decide) k) ?_
  show own_Goes _ _ _ _ _ _ _ T22 (mkF m 42 #[.val (.ref a1), .val (.ref h0.size), .val (.int (14 : Int32)), .val (.int (10 : Int32)), .val (.ref aLONG_LONG)] [])
  refine own_go (fun _ k => XS.iinc X22.here hx rfl (hb hby d2_42) rfl (l' := #[.val (.ref a1), .val (.ref h0.size), .val (.int (14 : Int32)), .val (.int (11 : Int32)), .val (.ref aLONG_LONG)]) rfl k) ?_
  show own_Goes _ _ _ _ _ _ _ T22 (mkF m 45 #[.val (.ref a1), .val (.ref h0.size), .val (.int (14 : Int32)), .val (.int (11 : Int32)), .val (.ref aLONG_LONG)] [])
  refine own_go (fun _ k => XS.goto X22.here hx rfl (pc0 := 45) (pc' := 9) rfl (hb hby d2_45) (by decide) (by decide) k) ?_
  show own_Goes _ _ _ _ _ _ _ T22 (mkF m 9 #[.val (.ref a1), .val (.ref h0.size), .val (.int (14 : Int32)), .val (.int (11 : Int32)), .val (.ref aLONG_LONG)] [])
  refine own_go (fun _ k => XS.iloadN X22.here hx rfl (hb hby d2_9) rfl k) ?_
  show own_Goes _ _ _ _ _ _ _ T22 (mkF m 10 #[.val (.ref a1), .val (.ref h0.size), .val (.int (14 : Int32)), .val (.int (11 : Int32)), .val (.ref aLONG_LONG)] [(.int (11 : Int32))])
  refine own_go (fun _ k => XS.iloadN X22.here hx rfl (hb hby d2_10) rfl k) ?_
  show own_Goes _ _ _ _ _ _ _ T22 (mkF m 11 #[.val (.ref a1), .val (.ref h0.size), .val (.int (14 : Int32)), .val (.int (11 : Int32)), .val (.ref aLONG_LONG)] [(.int (14 : Int32)), (.int (11 : Int32))])
  refine own_go (fun _ k => XS.icmpNo X22.here hx rfl (hb hby d2_11) rfl (tlt (by decide : (11 : Int32) < (14 : Int32))).2.1 k) ?_
  show own_Goes _ _ _ _ _ _ _ T22 (mkF m 14 #[.val (.ref a1), .val (.ref h0.size), .val (.int (14 : Int32)), .val (.int (11 : Int32)), .val (.ref aLONG_LONG)] [])
  refine own_go (fun _ k => XS.aloadN X22.here hx rfl (hb hby d2_14) rfl rfl k) ?_
  show own_Goes _ _ _ _ _ _ _ T22 (mkF m 15 #[.val (.ref a1), .val (.ref h0.size), .val (.int (14 : Int32)), .val (.int (11 : Int32)), .val (.ref aLONG_LONG)] [(.ref h0.size)])
  refine own_go (fun _ k => XS.iloadN X22.here hx rfl (hb hby d2_15) rfl k) ?_
  show own_Goes _ _ _ _ _ _ _ T22 (mkF m 16 #[.val (.ref a1), .val (.ref h0.size), .val (.int (14 : Int32)), .val (.int (11 : Int32)), .val (.ref aLONG_LONG)] [(.int (11 : Int32)), (.ref h0.size)])
  refine own_go (fun t k => X22.aaload hx (j := (11 : Int32)) (v := (.ref aUNSIGNED_LONG_LONG)) (by rw [e22]; exact A1.1) (State.isArrayOf_alike hZ.alike A1.2.1) rfl A1.2.2 (by show ¬ (_ ∨ clV.slots.size ≤ _); rw [hsz]; decide) el_11 (g := (mkF m 16 #[.val (.ref a1), .val (.ref h0.size), .val (.int (14 : Int32)), .val (.int (11 : Int32)), .val (.ref aLONG_LONG)] [(.int (11 : Int32)), (.ref h0.size)])) rfl rfl (hb hby d2_16) t k) ?_
  show own_Goes _ _ _ _ _ _ _ T22 (mkF m 17 #[.val (.ref a1), .val (.ref h0.size), .val (.int (14 : Int32)), .val (.int (11 : Int32)), .val (.ref aLONG_LONG)] [(.ref aUNSIGNED_LONG_LONG)])
  refine own_go (fun _ k => XS.astore X22.here hx rfl (hb hby d2_17) rfl rfl (l' := #[.val (.ref a1), .val (.ref h0.size), .val (.int (14 : Int32)), .val (.int (11 : Int32)), .val (.ref aUNSIGNED_LONG_LONG)]) rfl k) ?_
  show own_Goes _ _ _ _ _ _ _ T22 (mkF m 19 #[.val (.ref a1), .val (.ref h0.size), .val (.int (14 : Int32)), .val (.int (11 : Int32)), .val (.ref aUNSIGNED_LONG_LONG)] [])
  refine own_go (fun _ k => XS.aload X22.here hx rfl (hb hby d2_19) rfl rfl k) ?_
  show own_Goes _ _ _ _ _ _ _ T22 (mkF m 21 #[.val (.ref a1), .val (.ref h0.size), .val (.int (14 : Int32)), .val (.int (11 : Int32)), .val (.ref aUNSIGNED_LONG_LONG)] [(.ref aUNSIGNED_LONG_LONG)])
  obtain ⟨T23, X23, e23, st23⟩ := getF X22 hx hZ hown (host := "") (Or.inl (hw _ (List.mem_of_getElem? (i := 41) rfl))) Via.refl e22 (G_UNSIGNED_LONG_LONG.ext Od1.2) (g := (mkF m 21 #[.val (.ref a1), .val (.ref h0.size), .val (.int (14 : Int32)), .val (.int (11 : Int32)), .val (.ref aUNSIGNED_LONG_LONG)] [(.ref aUNSIGNED_LONG_LONG)])) rfl rfl (hb hby d2_21)
  refine own_go st23 ?_
  show own_Goes _ _ _ _ _ _ _ T23 (mkF m 24 #[.val (.ref a1), .val (.ref h0.size), .val (.int (14 : Int32)), .val (.int (11 : Int32)), .val (.ref aUNSIGNED_LONG_LONG)] [(.int (0 : Int32))])
  refine own_go (fun _ k => XS.ifNo X23.here hx rfl (hb hby d2_24) rfl ((if0 _ _).trans (teq (by decide : (0 : Int32) = (0 : Int32))).2) k) ?_
  show own_Goes _ _ _ _ _ _ _ T23 (mkF m 27 #[.val (.ref a1), .val (.ref h0.size), .val (.int (14 : Int32)), .val (.int (11 : Int32)), .val (.ref aUNSIGNED_LONG_LONG)] [])
  refine own_go (fun _ k => XS.aload X23.here hx rfl (hb hby d2_27) rfl rfl k) ?_
  show own_Goes _ _ _ _ _ _ _ T23 (mkF m 29 #[.val (.ref a1), .val (.ref h0.size), .val (.int (14 : Int32)), .val (.int (11 : Int32)), .val (.ref aUNSIGNED_LONG_LONG)] [(.ref aUNSIGNED_LONG_LONG)])
  obtain ⟨T24, X24, e24, st24⟩ := getF X23 hx hZ hown (host := "") (Or.inl (hw _ (List.mem_of_getElem? (i := 43) rfl))) Via.refl e23 (R_UNSIGNED_LONG_LONG.ext Od1.2) (g := (mkF m 29 #[.val (.ref a1), .val (.ref h0.size), .val (.int (14 : Int32)), .val (.int (11 : Int32)), .val (.ref aUNSIGNED_LONG_LONG)] [(.ref aUNSIGNED_LONG_LONG)])) rfl rfl (hb hby d2_29)
  refine own_go st24 ?_
  show own_Goes _ _ _ _ _ _ _ T24 (mkF m 32 #[.val (.ref a1), .val (.ref h0.size), .val (.int (14 : Int32)), .val (.int (11 : Int32)), .val (.ref aUNSIGNED_LONG_LONG)] [(.int (5 : Int32))])
  refine own_go (fun _ k => XS.aloadN X24.here hx rfl (hb hby d2_32) rfl rfl k) ?_
  show own_Goes _ _ _ _ _ _ _ T24 (mkF m 33 #[.val (.ref a1), .val (.ref h0.size), .val (.int (14 : Int32)), .val (.int (11 : Int32)), .val (.ref aUNSIGNED_LONG_LONG)] [(.ref a1), (.int (5 : Int32))])
  obtain ⟨T25, X25, e25, st25⟩ := getF X24 hx hZ hown (host := "") (Or.inl (hw _ (List.mem_of_getElem? (i := 43) rfl))) Via.refl e24 (R_a1.ext Od1.2) (g := (mkF m 33 #[.val (.ref a1), .val (.ref h0.size), .val (.int (14 : Int32)), .val (.int (11 : Int32)), .val (.ref aUNSIGNED_LONG_LONG)] [(.ref a1), (.int (5 : Int32))])) rfl rfl (hb hby d2_33)
  refine own_go st25 ?_
  show own_Goes _ _ _ _ _ _ _ T25 (mkF m 36 #[.val (.ref a1), .val (.ref h0.size), .val (.int (14 : Int32)), .val (.int (11 : Int32)), .val (.ref aUNSIGNED_LONG_LONG)] [(.int (5 : Int32)), (.int (5 : Int32))])
  refine own_go (fun _ k => XS.icmpNo X25.here hx rfl (hb hby d2_36) rfl (teq (by decide : (5 : Int32) = (5 : Int32))).2 k) ?_
  show own_Goes _ _ _ _ _ _ _ T25 (mkF m 39 #[.val (.ref a1), .val (.ref h0.size), .val (.int (14 : Int32)), .val (.int (11 : Int32)), .val (.ref aUNSIGNED_LONG_LONG)] [])
  refine own_go (fun _ k => XS.aload X25.here hx rfl (hb hby d2_39) rfl rfl k) ?_
  show own_Goes _ _ _ _ _ _ _ T25 (mkF m 41 #[.val (.ref a1), .val (.ref h0.size), .val (.int (14 : Int32)), .val (.int (11 : Int32)), .val (.ref aUNSIGNED_LONG_LONG)] [(.ref aUNSIGNED_LONG_LONG)])
  exact own_retA X25 hx hlk hret rfl rfl (hb hby d2_41) (by decide) (by decide) (by rw [e25]; exact ⟨rfl, N1, E1⟩)
def Q_rmU6 (Z : State) (h0 : Heap) (n0 : Nat) (aUNSIGNED_INT128 : Addr) (v : Option Value) (h : Heap) (L : List Loc) : Prop := v = some (.ref aUNSIGNED_INT128) ∧ Fr n0 L ∧ Ext h0 h
set_option maxRecDepth 65536 in
set_option maxHeartbeats 40000000 in
theorem rmU6 (l : Launch) (Z : State) (a0 : Array Value) (hw : ∀ d ∈ tables_1, d.before a0 Z = true) (ws : List Jvm.Cond) (a1 aV : Addr) (clV : Cell) (aBOOL aCHAR aSIGNED_CHAR aUNSIGNED_CHAR aSHORT aUNSIGNED_SHORT aINT aUNSIGNED_INT aLONG aUNSIGNED_LONG aLONG_LONG aUNSIGNED_LONG_LONG aINT128 aUNSIGNED_INT128 : Addr) (h0 : Heap) (n0 : Nat) (Z0 : n0 ≤ h0.size) (VV : own_VV Z aV clV aBOOL aCHAR aSIGNED_CHAR aUNSIGNED_CHAR aSHORT aUNSIGNED_SHORT aINT aUNSIGNED_INT aLONG aUNSIGNED_LONG aLONG_LONG aUNSIGNED_LONG_LONG aINT128 aUNSIGNED_INT128) (FF : own_FF Z aBOOL aCHAR aSIGNED_CHAR aUNSIGNED_CHAR aSHORT aUNSIGNED_SHORT aINT aUNSIGNED_INT aLONG aUNSIGNED_LONG aLONG_LONG aUNSIGNED_LONG_LONG aINT128 aUNSIGNED_INT128) (Od0 : Old Z n0 h0) (R_a1 : Fld Z Z.heap a1 "com/example/treellis/treellis/cfa/IntegerType" "rank" "I" (.int (6 : Int32))) :
    MetFree l (⟨"com/example/treellis/treellis/cfa/IntegerType", "toUnsigned", "()Lcom/example/treellis/treellis/cfa/IntegerType;"⟩ : MethodName) (head1 (Jvm.Cond.code (⟨"com/example/treellis/treellis/cfa/IntegerType", "toUnsigned", "()Lcom/example/treellis/treellis/cfa/IntegerType;"⟩ : MethodName) prog_44_method_6_code 5 (some (.object "com/example/treellis/treellis/cfa/IntegerType")) :: ws) ({ frames := 2, cells := 1, slots := 14, locals := 25 } : Room)) (fun a U => a = #[(.ref a1)] ∧ Z.Warmed39 U.vm ∧ U.heap = h0) (fun _ _ _ _ _ => True) (fun _ U o U' => ∃ rv rL, o = .returned rv ∧ Q_rmU6 Z h0 n0 aUNSIGNED_INT128 rv U'.heap rL ∧ FrameEnd U o U' rL ({ frames := 2, cells := 1, slots := 14, locals := 25 } : Room).cells ({ frames := 2, cells := 1, slots := 14, locals := 25 } : Room).slots) := by
  refine own_met (y := (⟨"com/example/treellis/treellis/cfa/IntegerType", "toUnsigned", "()Lcom/example/treellis/treellis/cfa/IntegerType;"⟩ : MethodName)) (Q := Q_rmU6 Z h0 n0 aUNSIGNED_INT128) (own := "com/example/treellis/treellis/cfa/IntegerType") rfl pn_2 ?_
  intro p e s m below meth c s₁ C e0 X0
  obtain ⟨hx, hby, hml, hown, hnm, hret, hlk, hZ⟩ := C
  have N0 := Fr.nil n0
  rw [ef_2]
  obtain ⟨SV, AV, EV, FV, hsz, el_0, el_1, el_2, el_3, el_4, el_5, el_6, el_7, el_8, el_9, el_10, el_11, el_12, el_13⟩ := VV
  obtain ⟨⟨E_BOOL, R_BOOL, G_BOOL⟩, ⟨E_CHAR, R_CHAR, G_CHAR⟩, ⟨E_SIGNED_CHAR, R_SIGNED_CHAR, G_SIGNED_CHAR⟩, ⟨E_UNSIGNED_CHAR, R_UNSIGNED_CHAR, G_UNSIGNED_CHAR⟩, ⟨E_SHORT, R_SHORT, G_SHORT⟩, ⟨E_UNSIGNED_SHORT, R_UNSIGNED_SHORT, G_UNSIGNED_SHORT⟩, ⟨E_INT, R_INT, G_INT⟩, ⟨E_UNSIGNED_INT, R_UNSIGNED_INT, G_UNSIGNED_INT⟩, ⟨E_LONG, R_LONG, G_LONG⟩, ⟨E_UNSIGNED_LONG, R_UNSIGNED_LONG, G_UNSIGNED_LONG⟩, ⟨E_LONG_LONG, R_LONG_LONG, G_LONG_LONG⟩, ⟨E_UNSIGNED_LONG_LONG, R_UNSIGNED_LONG_LONG, G_UNSIGNED_LONG_LONG⟩, ⟨E_INT128, R_INT128, G_INT128⟩, ⟨E_UNSIGNED_INT128, R_UNSIGNED_INT128, G_UNSIGNED_INT128⟩⟩ := FF
  show own_Goes _ _ _ _ _ _ _ s₁ (mkF m 0 #[.val (.ref a1), .unset, .unset, .unset, .unset] [])
  obtain ⟨_, _, ⟨T1, L1, k1, n1⟩, -, X1, ⟨Lc1, hQ1, l1, y1, z1⟩, st1⟩ := Jvm.LawKit.callS X0 hx (y := (⟨"com/example/treellis/treellis/cfa/IntegerType", "values", "()[Lcom/example/treellis/treellis/cfa/IntegerType;"⟩ : MethodName)) hown (mvT hZ (hw _ (List.mem_of_getElem? (i := 13) rfl))) (mvT hZ (hw _ (List.mem_of_getElem? (i := 14) rfl))) (mvT hZ (hw _ (List.mem_of_getElem? (i := 6) rfl))) (mvT hZ (hw _ (List.mem_of_getElem? (i := 15) rfl))) (by decide) (backOf (W := 0) (rm3 l Z a0 hw [] aV clV aBOOL aCHAR aSIGNED_CHAR aUNSIGNED_CHAR aSHORT aUNSIGNED_SHORT aINT aUNSIGNED_INT aLONG aUNSIGNED_LONG aLONG_LONG aUNSIGNED_LONG_LONG aINT128 aUNSIGNED_INT128 h0 n0 Z0 ⟨SV, AV, EV, FV, hsz, el_0, el_1, el_2, el_3, el_4, el_5, el_6, el_7, el_8, el_9, el_10, el_11, el_12, el_13⟩ Od0) hZ (hw _ (List.mem_of_getElem? (i := 15) rfl)) (hw _ (List.mem_of_getElem? (i := 6) rfl)) (by decide) (by decide)) (g := (mkF m 0 #[.val (.ref a1), .unset, .unset, .unset, .unset] [])) rfl (by rw [hml]; rfl) (argsL := []) (rest := []) (lenOf pd_0 rfl) rfl (by show 2 * 0 + _ ≤ _; exact Nat.le_of_eq rfl) (hb hby d2_0) (fun _ _ => ⟨rfl, e0, (by decide : 0 + 1 ≤ _), (by decide : 0 + 14 ≤ _)⟩)
  dsimp only [Pt.U, Pt.locs, Pt.cells, Pt.slots] at X1 l1 y1 z1 st1 hQ1
  subst l1 y1 z1
  obtain ⟨rfl, N1q, E1, A1⟩ := hQ1
  have N1 := Fr.app N0 N1q
  refine own_go st1 ?_
  show own_Goes _ _ _ _ _ _ _ T1 (mkF m 3 #[.val (.ref a1), .unset, .unset, .unset, .unset] [(.ref h0.size)])
  have Od1 := Od0.ext E1
  refine own_go (fun _ k => XS.astoreN X1.here hx rfl (hb hby d2_3) rfl rfl (l' := #[.val (.ref a1), .val (.ref h0.size), .unset, .unset, .unset]) rfl k) ?_
  show own_Goes _ _ _ _ _ _ _ T1 (mkF m 4 #[.val (.ref a1), .val (.ref h0.size), .unset, .unset, .unset] [])
  refine own_go (fun _ k => XS.aloadN X1.here hx rfl (hb hby d2_4) rfl rfl k) ?_
  show own_Goes _ _ _ _ _ _ _ T1 (mkF m 5 #[.val (.ref a1), .val (.ref h0.size), .unset, .unset, .unset] [(.ref h0.size)])
  refine own_go (fun t k => X1.arraylength hx (by exact A1.1) (State.isArrayOf_alike hZ.alike A1.2.1) (g := (mkF m 5 #[.val (.ref a1), .val (.ref h0.size), .unset, .unset, .unset] [(.ref h0.size)])) rfl rfl (hb hby d2_5) t k) ?_
  rw [show (cloneOf clV).slots.size.toInt32 = (14 : Int32) from by show clV.slots.size.toInt32 = _; rw [hsz]; rfl]
  show own_Goes _ _ _ _ _ _ _ T1 (mkF m 6 #[.val (.ref a1), .val (.ref h0.size), .unset, .unset, .unset] [(.int (14 : Int32))])
  refine own_go (fun _ k => XS.istoreN X1.here hx rfl (hb hby d2_6) rfl (l' := #[.val (.ref a1), .val (.ref h0.size), .val (.int (14 : Int32)), .unset, .unset]) rfl k) ?_
  show own_Goes _ _ _ _ _ _ _ T1 (mkF m 7 #[.val (.ref a1), .val (.ref h0.size), .val (.int (14 : Int32)), .unset, .unset] [])
  refine own_go (fun _ k => XS.iconst X1.here hx rfl (hb hby d2_7) k) ?_
  show own_Goes _ _ _ _ _ _ _ T1 (mkF m 8 #[.val (.ref a1), .val (.ref h0.size), .val (.int (14 : Int32)), .unset, .unset] [(.int (0 : Int32))])
  refine own_go (fun _ k => XS.istoreN X1.here hx rfl (hb hby d2_8) rfl (l' := #[.val (.ref a1), .val (.ref h0.size), .val (.int (14 : Int32)), .val (.int (0 : Int32)), .unset]) rfl k) ?_
  show own_Goes _ _ _ _ _ _ _ T1 (mkF m 9 #[.val (.ref a1), .val (.ref h0.size), .val (.int (14 : Int32)), .val (.int (0 : Int32)), .unset] [])
  refine own_go (fun _ k => XS.iloadN X1.here hx rfl (hb hby d2_9) rfl k) ?_
  show own_Goes _ _ _ _ _ _ _ T1 (mkF m 10 #[.val (.ref a1), .val (.ref h0.size), .val (.int (14 : Int32)), .val (.int (0 : Int32)), .unset] [(.int (0 : Int32))])
  refine own_go (fun _ k => XS.iloadN X1.here hx rfl (hb hby d2_10) rfl k) ?_
  show own_Goes _ _ _ _ _ _ _ T1 (mkF m 11 #[.val (.ref a1), .val (.ref h0.size), .val (.int (14 : Int32)), .val (.int (0 : Int32)), .unset] [(.int (14 : Int32)), (.int (0 : Int32))])
  refine own_go (fun _ k => XS.icmpNo X1.here hx rfl (hb hby d2_11) rfl (tlt (by decide : (0 : Int32) < (14 : Int32))).2.1 k) ?_
  show own_Goes _ _ _ _ _ _ _ T1 (mkF m 14 #[.val (.ref a1), .val (.ref h0.size), .val (.int (14 : Int32)), .val (.int (0 : Int32)), .unset] [])
  refine own_go (fun _ k => XS.aloadN X1.here hx rfl (hb hby d2_14) rfl rfl k) ?_
  show own_Goes _ _ _ _ _ _ _ T1 (mkF m 15 #[.val (.ref a1), .val (.ref h0.size), .val (.int (14 : Int32)), .val (.int (0 : Int32)), .unset] [(.ref h0.size)])
  refine own_go (fun _ k => XS.iloadN X1.here hx rfl (hb hby d2_15) rfl k) ?_
  show own_Goes _ _ _ _ _ _ _ T1 (mkF m 16 #[.val (.ref a1), .val (.ref h0.size), .val (.int (14 : Int32)), .val (.int (0 : Int32)), .unset] [(.int (0 : Int32)), (.ref h0.size)])
  refine own_go (fun t k => X1.aaload hx (j := (0 : Int32)) (v := (.ref aBOOL)) (by rw [show _ = T1.heap from rfl]; exact A1.1) (State.isArrayOf_alike hZ.alike A1.2.1) rfl A1.2.2 (by show ¬ (_ ∨ clV.slots.size ≤ _); rw [hsz]; decide) el_0 (g := (mkF m 16 #[.val (.ref a1), .val (.ref h0.size), .val (.int (14 : Int32)), .val (.int (0 : Int32)), .unset] [(.int (0 : Int32)), (.ref h0.size)])) rfl rfl (hb hby d2_16) t k) ?_
  show own_Goes _ _ _ _ _ _ _ T1 (mkF m 17 #[.val (.ref a1), .val (.ref h0.size), .val (.int (14 : Int32)), .val (.int (0 : Int32)), .unset] [(.ref aBOOL)])
  refine own_go (fun _ k => XS.astore X1.here hx rfl (hb hby d2_17) rfl rfl (l' := #[.val (.ref a1), .val (.ref h0.size), .val (.int (14 : Int32)), .val (.int (0 : Int32)), .val (.ref aBOOL)]) rfl k) ?_
  show own_Goes _ _ _ _ _ _ _ T1 (mkF m 19 #[.val (.ref a1), .val (.ref h0.size), .val (.int (14 : Int32)), .val (.int (0 : Int32)), .val (.ref aBOOL)] [])
  refine own_go (fun _ k => XS.aload X1.here hx rfl (hb hby d2_19) rfl rfl k) ?_
  show own_Goes _ _ _ _ _ _ _ T1 (mkF m 21 #[.val (.ref a1), .val (.ref h0.size), .val (.int (14 : Int32)), .val (.int (0 : Int32)), .val (.ref aBOOL)] [(.ref aBOOL)])
  obtain ⟨T2, X2, e2, st2⟩ := getF X1 hx hZ hown (host := "") (Or.inl (hw _ (List.mem_of_getElem? (i := 41) rfl))) Via.refl rfl (G_BOOL.ext Od1.2) (g := (mkF m 21 #[.val (.ref a1), .val (.ref h0.size), .val (.int (14 : Int32)), .val (.int (0 : Int32)), .val (.ref aBOOL)] [(.ref aBOOL)])) rfl rfl (hb hby d2_21)
  refine own_go st2 ?_
  show own_Goes _ _ _ _ _ _ _ T2 (mkF m 24 #[.val (.ref a1), .val (.ref h0.size), .val (.int (14 : Int32)), .val (.int (0 : Int32)), .val (.ref aBOOL)] [(.int (0 : Int32))])
  refine own_go (fun _ k => XS.ifNo X2.here hx rfl (hb hby d2_24) rfl ((if0 _ _).trans (teq (by decide : (0 : Int32) = (0 : Int32))).2) k) ?_
  show own_Goes _ _ _ _ _ _ _ T2 (mkF m 27 #[.val (.ref a1), .val (.ref h0.size), .val (.int (14 : Int32)), .val (.int (0 : Int32)), .val (.ref aBOOL)] [])
  refine own_go (fun _ k => XS.aload X2.here hx rfl (hb hby d2_27) rfl rfl k) ?_
  show own_Goes _ _ _ _ _ _ _ T2 (mkF m 29 #[.val (.ref a1), .val (.ref h0.size), .val (.int (14 : Int32)), .val (.int (0 : Int32)), .val (.ref aBOOL)] [(.ref aBOOL)])
  obtain ⟨T3, X3, e3, st3⟩ := getF X2 hx hZ hown (host := "") (Or.inl (hw _ (List.mem_of_getElem? (i := 43) rfl))) Via.refl e2 (R_BOOL.ext Od1.2) (g := (mkF m 29 #[.val (.ref a1), .val (.ref h0.size), .val (.int (14 : Int32)), .val (.int (0 : Int32)), .val (.ref aBOOL)] [(.ref aBOOL)])) rfl rfl (hb hby d2_29)
  refine own_go st3 ?_
  show own_Goes _ _ _ _ _ _ _ T3 (mkF m 32 #[.val (.ref a1), .val (.ref h0.size), .val (.int (14 : Int32)), .val (.int (0 : Int32)), .val (.ref aBOOL)] [(.int (0 : Int32))])
  refine own_go (fun _ k => XS.aloadN X3.here hx rfl (hb hby d2_32) rfl rfl k) ?_
  show own_Goes _ _ _ _ _ _ _ T3 (mkF m 33 #[.val (.ref a1), .val (.ref h0.size), .val (.int (14 : Int32)), .val (.int (0 : Int32)), .val (.ref aBOOL)] [(.ref a1), (.int (0 : Int32))])
  obtain ⟨T4, X4, e4, st4⟩ := getF X3 hx hZ hown (host := "") (Or.inl (hw _ (List.mem_of_getElem? (i := 43) rfl))) Via.refl e3 (R_a1.ext Od1.2) (g := (mkF m 33 #[.val (.ref a1), .val (.ref h0.size), .val (.int (14 : Int32)), .val (.int (0 : Int32)), .val (.ref aBOOL)] [(.ref a1), (.int (0 : Int32))])) rfl rfl (hb hby d2_33)
  refine own_go st4 ?_
  show own_Goes _ _ _ _ _ _ _ T4 (mkF m 36 #[.val (.ref a1), .val (.ref h0.size), .val (.int (14 : Int32)), .val (.int (0 : Int32)), .val (.ref aBOOL)] [(.int (6 : Int32)), (.int (0 : Int32))])
  refine own_go (fun _ k => XS.icmpYes X4.here hx rfl (pc0 := 36) (pc' := 42) rfl (hb hby d2_36) rfl (feq (by decide : ¬ ((0 : Int32) = (6 : Int32)))).2 (by decide) (by decide) k) ?_
  show own_Goes _ _ _ _ _ _ _ T4 (mkF m 42 #[.val (.ref a1), .val (.ref h0.size), .val (.int (14 : Int32)), .val (.int (0 : Int32)), .val (.ref aBOOL)] [])
  refine own_go (fun _ k => XS.iinc X4.here hx rfl (hb hby d2_42) rfl (l' := #[.val (.ref a1), .val (.ref h0.size), .val (.int (14 : Int32)), .val (.int (1 : Int32)), .val (.ref aBOOL)]) rfl k) ?_
  show own_Goes _ _ _ _ _ _ _ T4 (mkF m 45 #[.val (.ref a1), .val (.ref h0.size), .val (.int (14 : Int32)), .val (.int (1 : Int32)), .val (.ref aBOOL)] [])
  refine own_go (fun _ k => XS.goto X4.here hx rfl (pc0 := 45) (pc' := 9) rfl (hb hby d2_45) (by decide) (by decide) k) ?_
  show own_Goes _ _ _ _ _ _ _ T4 (mkF m 9 #[.val (.ref a1), .val (.ref h0.size), .val (.int (14 : Int32)), .val (.int (1 : Int32)), .val (.ref aBOOL)] [])
  refine own_go (fun _ k => XS.iloadN X4.here hx rfl (hb hby d2_9) rfl k) ?_
  show own_Goes _ _ _ _ _ _ _ T4 (mkF m 10 #[.val (.ref a1), .val (.ref h0.size), .val (.int (14 : Int32)), .val (.int (1 : Int32)), .val (.ref aBOOL)] [(.int (1 : Int32))])
  refine own_go (fun _ k => XS.iloadN X4.here hx rfl (hb hby d2_10) rfl k) ?_
  show own_Goes _ _ _ _ _ _ _ T4 (mkF m 11 #[.val (.ref a1), .val (.ref h0.size), .val (.int (14 : Int32)), .val (.int (1 : Int32)), .val (.ref aBOOL)] [(.int (14 : Int32)), (.int (1 : Int32))])
  refine own_go (fun _ k => XS.icmpNo X4.here hx rfl (hb hby d2_11) rfl (tlt (by decide : (1 : Int32) < (14 : Int32))).2.1 k) ?_
  show own_Goes _ _ _ _ _ _ _ T4 (mkF m 14 #[.val (.ref a1), .val (.ref h0.size), .val (.int (14 : Int32)), .val (.int (1 : Int32)), .val (.ref aBOOL)] [])
  refine own_go (fun _ k => XS.aloadN X4.here hx rfl (hb hby d2_14) rfl rfl k) ?_
  show own_Goes _ _ _ _ _ _ _ T4 (mkF m 15 #[.val (.ref a1), .val (.ref h0.size), .val (.int (14 : Int32)), .val (.int (1 : Int32)), .val (.ref aBOOL)] [(.ref h0.size)])
  refine own_go (fun _ k => XS.iloadN X4.here hx rfl (hb hby d2_15) rfl k) ?_
  show own_Goes _ _ _ _ _ _ _ T4 (mkF m 16 #[.val (.ref a1), .val (.ref h0.size), .val (.int (14 : Int32)), .val (.int (1 : Int32)), .val (.ref aBOOL)] [(.int (1 : Int32)), (.ref h0.size)])
  refine own_go (fun t k => X4.aaload hx (j := (1 : Int32)) (v := (.ref aCHAR)) (by rw [e4]; exact A1.1) (State.isArrayOf_alike hZ.alike A1.2.1) rfl A1.2.2 (by show ¬ (_ ∨ clV.slots.size ≤ _); rw [hsz]; decide) el_1 (g := (mkF m 16 #[.val (.ref a1), .val (.ref h0.size), .val (.int (14 : Int32)), .val (.int (1 : Int32)), .val (.ref aBOOL)] [(.int (1 : Int32)), (.ref h0.size)])) rfl rfl (hb hby d2_16) t k) ?_
  show own_Goes _ _ _ _ _ _ _ T4 (mkF m 17 #[.val (.ref a1), .val (.ref h0.size), .val (.int (14 : Int32)), .val (.int (1 : Int32)), .val (.ref aBOOL)] [(.ref aCHAR)])
  refine own_go (fun _ k => XS.astore X4.here hx rfl (hb hby d2_17) rfl rfl (l' := #[.val (.ref a1), .val (.ref h0.size), .val (.int (14 : Int32)), .val (.int (1 : Int32)), .val (.ref aCHAR)]) rfl k) ?_
  show own_Goes _ _ _ _ _ _ _ T4 (mkF m 19 #[.val (.ref a1), .val (.ref h0.size), .val (.int (14 : Int32)), .val (.int (1 : Int32)), .val (.ref aCHAR)] [])
  refine own_go (fun _ k => XS.aload X4.here hx rfl (hb hby d2_19) rfl rfl k) ?_
  show own_Goes _ _ _ _ _ _ _ T4 (mkF m 21 #[.val (.ref a1), .val (.ref h0.size), .val (.int (14 : Int32)), .val (.int (1 : Int32)), .val (.ref aCHAR)] [(.ref aCHAR)])
  obtain ⟨T5, X5, e5, st5⟩ := getF X4 hx hZ hown (host := "") (Or.inl (hw _ (List.mem_of_getElem? (i := 41) rfl))) Via.refl e4 (G_CHAR.ext Od1.2) (g := (mkF m 21 #[.val (.ref a1), .val (.ref h0.size), .val (.int (14 : Int32)), .val (.int (1 : Int32)), .val (.ref aCHAR)] [(.ref aCHAR)])) rfl rfl (hb hby d2_21)
  refine own_go st5 ?_
  show own_Goes _ _ _ _ _ _ _ T5 (mkF m 24 #[.val (.ref a1), .val (.ref h0.size), .val (.int (14 : Int32)), .val (.int (1 : Int32)), .val (.ref aCHAR)] [(.int (1 : Int32))])
  refine own_go (fun _ k => XS.ifYes X5.here hx rfl (pc0 := 24) (pc' := 42) rfl (hb hby d2_24) rfl ((if0 _ _).trans (feq (by decide : ¬ ((1 : Int32) = (0 : Int32)))).2) (by decide) (by decide) k) ?_
  show own_Goes _ _ _ _ _ _ _ T5 (mkF m 42 #[.val (.ref a1), .val (.ref h0.size), .val (.int (14 : Int32)), .val (.int (1 : Int32)), .val (.ref aCHAR)] [])
  refine own_go (fun _ k => XS.iinc X5.here hx rfl (hb hby d2_42) rfl (l' := #[.val (.ref a1), .val (.ref h0.size), .val (.int (14 : Int32)), .val (.int (2 : Int32)), .val (.ref aCHAR)]) rfl k) ?_
  show own_Goes _ _ _ _ _ _ _ T5 (mkF m 45 #[.val (.ref a1), .val (.ref h0.size), .val (.int (14 : Int32)), .val (.int (2 : Int32)), .val (.ref aCHAR)] [])
  refine own_go (fun _ k => XS.goto X5.here hx rfl (pc0 := 45) (pc' := 9) rfl (hb hby d2_45) (by decide) (by decide) k) ?_
  show own_Goes _ _ _ _ _ _ _ T5 (mkF m 9 #[.val (.ref a1), .val (.ref h0.size), .val (.int (14 : Int32)), .val (.int (2 : Int32)), .val (.ref aCHAR)] [])
  refine own_go (fun _ k => XS.iloadN X5.here hx rfl (hb hby d2_9) rfl k) ?_
  show own_Goes _ _ _ _ _ _ _ T5 (mkF m 10 #[.val (.ref a1), .val (.ref h0.size), .val (.int (14 : Int32)), .val (.int (2 : Int32)), .val (.ref aCHAR)] [(.int (2 : Int32))])
  refine own_go (fun _ k => XS.iloadN X5.here hx rfl (hb hby d2_10) rfl k) ?_
  show own_Goes _ _ _ _ _ _ _ T5 (mkF m 11 #[.val (.ref a1), .val (.ref h0.size), .val (.int (14 : Int32)), .val (.int (2 : Int32)), .val (.ref aCHAR)] [(.int (14 : Int32)), (.int (2 : Int32))])
  refine own_go (fun _ k => XS.icmpNo X5.here hx rfl (hb hby d2_11) rfl (tlt (by decide : (2 : Int32) < (14 : Int32))).2.1 k) ?_
  show own_Goes _ _ _ _ _ _ _ T5 (mkF m 14 #[.val (.ref a1), .val (.ref h0.size), .val (.int (14 : Int32)), .val (.int (2 : Int32)), .val (.ref aCHAR)] [])
  refine own_go (fun _ k => XS.aloadN X5.here hx rfl (hb hby d2_14) rfl rfl k) ?_
  show own_Goes _ _ _ _ _ _ _ T5 (mkF m 15 #[.val (.ref a1), .val (.ref h0.size), .val (.int (14 : Int32)), .val (.int (2 : Int32)), .val (.ref aCHAR)] [(.ref h0.size)])
  refine own_go (fun _ k => XS.iloadN X5.here hx rfl (hb hby d2_15) rfl k) ?_
  show own_Goes _ _ _ _ _ _ _ T5 (mkF m 16 #[.val (.ref a1), .val (.ref h0.size), .val (.int (14 : Int32)), .val (.int (2 : Int32)), .val (.ref aCHAR)] [(.int (2 : Int32)), (.ref h0.size)])
  refine own_go (fun t k => X5.aaload hx (j := (2 : Int32)) (v := (.ref aSIGNED_CHAR)) (by rw [e5]; exact A1.1) (State.isArrayOf_alike hZ.alike A1.2.1) rfl A1.2.2 (by show ¬ (_ ∨ clV.slots.size ≤ _); rw [hsz]; decide) el_2 (g := (mkF m 16 #[.val (.ref a1), .val (.ref h0.size), .val (.int (14 : Int32)), .val (.int (2 : Int32)), .val (.ref aCHAR)] [(.int (2 : Int32)), (.ref h0.size)])) rfl rfl (hb hby d2_16) t k) ?_
  show own_Goes _ _ _ _ _ _ _ T5 (mkF m 17 #[.val (.ref a1), .val (.ref h0.size), .val (.int (14 : Int32)), .val (.int (2 : Int32)), .val (.ref aCHAR)] [(.ref aSIGNED_CHAR)])
  refine own_go (fun _ k => XS.astore X5.here hx rfl (hb hby d2_17) rfl rfl (l' := #[.val (.ref a1), .val (.ref h0.size), .val (.int (14 : Int32)), .val (.int (2 : Int32)), .val (.ref aSIGNED_CHAR)]) rfl k) ?_
  show own_Goes _ _ _ _ _ _ _ T5 (mkF m 19 #[.val (.ref a1), .val (.ref h0.size), .val (.int (14 : Int32)), .val (.int (2 : Int32)), .val (.ref aSIGNED_CHAR)] [])
  refine own_go (fun _ k => XS.aload X5.here hx rfl (hb hby d2_19) rfl rfl k) ?_
  show own_Goes _ _ _ _ _ _ _ T5 (mkF m 21 #[.val (.ref a1), .val (.ref h0.size), .val (.int (14 : Int32)), .val (.int (2 : Int32)), .val (.ref aSIGNED_CHAR)] [(.ref aSIGNED_CHAR)])
  obtain ⟨T6, X6, e6, st6⟩ := getF X5 hx hZ hown (host := "") (Or.inl (hw _ (List.mem_of_getElem? (i := 41) rfl))) Via.refl e5 (G_SIGNED_CHAR.ext Od1.2) (g := (mkF m 21 #[.val (.ref a1), .val (.ref h0.size), .val (.int (14 : Int32)), .val (.int (2 : Int32)), .val (.ref aSIGNED_CHAR)] [(.ref aSIGNED_CHAR)])) rfl rfl (hb hby d2_21)
  refine own_go st6 ?_
  show own_Goes _ _ _ _ _ _ _ T6 (mkF m 24 #[.val (.ref a1), .val (.ref h0.size), .val (.int (14 : Int32)), .val (.int (2 : Int32)), .val (.ref aSIGNED_CHAR)] [(.int (1 : Int32))])
  refine own_go (fun _ k => XS.ifYes X6.here hx rfl (pc0 := 24) (pc' := 42) rfl (hb hby d2_24) rfl ((if0 _ _).trans (feq (by decide : ¬ ((1 : Int32) = (0 : Int32)))).2) (by decide) (by decide) k) ?_
  show own_Goes _ _ _ _ _ _ _ T6 (mkF m 42 #[.val (.ref a1), .val (.ref h0.size), .val (.int (14 : Int32)), .val (.int (2 : Int32)), .val (.ref aSIGNED_CHAR)] [])
  refine own_go (fun _ k => XS.iinc X6.here hx rfl (hb hby d2_42) rfl (l' := #[.val (.ref a1), .val (.ref h0.size), .val (.int (14 : Int32)), .val (.int (3 : Int32)), .val (.ref aSIGNED_CHAR)]) rfl k) ?_
  show own_Goes _ _ _ _ _ _ _ T6 (mkF m 45 #[.val (.ref a1), .val (.ref h0.size), .val (.int (14 : Int32)), .val (.int (3 : Int32)), .val (.ref aSIGNED_CHAR)] [])
  refine own_go (fun _ k => XS.goto X6.here hx rfl (pc0 := 45) (pc' := 9) rfl (hb hby d2_45) (by decide) (by decide) k) ?_
  show own_Goes _ _ _ _ _ _ _ T6 (mkF m 9 #[.val (.ref a1), .val (.ref h0.size), .val (.int (14 : Int32)), .val (.int (3 : Int32)), .val (.ref aSIGNED_CHAR)] [])
  refine own_go (fun _ k => XS.iloadN X6.here hx rfl (hb hby d2_9) rfl k) ?_
  show own_Goes _ _ _ _ _ _ _ T6 (mkF m 10 #[.val (.ref a1), .val (.ref h0.size), .val (.int (14 : Int32)), .val (.int (3 : Int32)), .val (.ref aSIGNED_CHAR)] [(.int (3 : Int32))])
  refine own_go (fun _ k => XS.iloadN X6.here hx rfl (hb hby d2_10) rfl k) ?_
  show own_Goes _ _ _ _ _ _ _ T6 (mkF m 11 #[.val (.ref a1), .val (.ref h0.size), .val (.int (14 : Int32)), .val (.int (3 : Int32)), .val (.ref aSIGNED_CHAR)] [(.int (14 : Int32)), (.int (3 : Int32))])
  refine own_go (fun _ k => XS.icmpNo X6.here hx rfl (hb hby d2_11) rfl (tlt (by decide : (3 : Int32) < (14 : Int32))).2.1 k) ?_
  show own_Goes _ _ _ _ _ _ _ T6 (mkF m 14 #[.val (.ref a1), .val (.ref h0.size), .val (.int (14 : Int32)), .val (.int (3 : Int32)), .val (.ref aSIGNED_CHAR)] [])
  refine own_go (fun _ k => XS.aloadN X6.here hx rfl (hb hby d2_14) rfl rfl k) ?_
  show own_Goes _ _ _ _ _ _ _ T6 (mkF m 15 #[.val (.ref a1), .val (.ref h0.size), .val (.int (14 : Int32)), .val (.int (3 : Int32)), .val (.ref aSIGNED_CHAR)] [(.ref h0.size)])
  refine own_go (fun _ k => XS.iloadN X6.here hx rfl (hb hby d2_15) rfl k) ?_
  show own_Goes _ _ _ _ _ _ _ T6 (mkF m 16 #[.val (.ref a1), .val (.ref h0.size), .val (.int (14 : Int32)), .val (.int (3 : Int32)), .val (.ref aSIGNED_CHAR)] [(.int (3 : Int32)), (.ref h0.size)])
  refine own_go (fun t k => X6.aaload hx (j := (3 : Int32)) (v := (.ref aUNSIGNED_CHAR)) (by rw [e6]; exact A1.1) (State.isArrayOf_alike hZ.alike A1.2.1) rfl A1.2.2 (by show ¬ (_ ∨ clV.slots.size ≤ _); rw [hsz]; decide) el_3 (g := (mkF m 16 #[.val (.ref a1), .val (.ref h0.size), .val (.int (14 : Int32)), .val (.int (3 : Int32)), .val (.ref aSIGNED_CHAR)] [(.int (3 : Int32)), (.ref h0.size)])) rfl rfl (hb hby d2_16) t k) ?_
  show own_Goes _ _ _ _ _ _ _ T6 (mkF m 17 #[.val (.ref a1), .val (.ref h0.size), .val (.int (14 : Int32)), .val (.int (3 : Int32)), .val (.ref aSIGNED_CHAR)] [(.ref aUNSIGNED_CHAR)])
  refine own_go (fun _ k => XS.astore X6.here hx rfl (hb hby d2_17) rfl rfl (l' := #[.val (.ref a1), .val (.ref h0.size), .val (.int (14 : Int32)), .val (.int (3 : Int32)), .val (.ref aUNSIGNED_CHAR)]) rfl k) ?_
  show own_Goes _ _ _ _ _ _ _ T6 (mkF m 19 #[.val (.ref a1), .val (.ref h0.size), .val (.int (14 : Int32)), .val (.int (3 : Int32)), .val (.ref aUNSIGNED_CHAR)] [])
  refine own_go (fun _ k => XS.aload X6.here hx rfl (hb hby d2_19) rfl rfl k) ?_
  show own_Goes _ _ _ _ _ _ _ T6 (mkF m 21 #[.val (.ref a1), .val (.ref h0.size), .val (.int (14 : Int32)), .val (.int (3 : Int32)), .val (.ref aUNSIGNED_CHAR)] [(.ref aUNSIGNED_CHAR)])
  obtain ⟨T7, X7, e7, st7⟩ := getF X6 hx hZ hown (host := "") (Or.inl (hw _ (List.mem_of_getElem? (i := 41) rfl))) Via.refl e6 (G_UNSIGNED_CHAR.ext Od1.2) (g := (mkF m 21 #[.val (.ref a1), .val (.ref h0.size), .val (.int (14 : Int32)), .val (.int (3 : Int32)), .val (.ref aUNSIGNED_CHAR)] [(.ref aUNSIGNED_CHAR)])) rfl rfl (hb hby d2_21)
  refine own_go st7 ?_
  show own_Goes _ _ _ _ _ _ _ T7 (mkF m 24 #[.val (.ref a1), .val (.ref h0.size), .val (.int (14 : Int32)), .val (.int (3 : Int32)), .val (.ref aUNSIGNED_CHAR)] [(.int (0 : Int32))])
  refine own_go (fun _ k => XS.ifNo X7.here hx rfl (hb hby d2_24) rfl ((if0 _ _).trans (teq (by decide : (0 : Int32) = (0 : Int32))).2) k) ?_
  show own_Goes _ _ _ _ _ _ _ T7 (mkF m 27 #[.val (.ref a1), .val (.ref h0.size), .val (.int (14 : Int32)), .val (.int (3 : Int32)), .val (.ref aUNSIGNED_CHAR)] [])
  refine own_go (fun _ k => XS.aload X7.here hx rfl (hb hby d2_27) rfl rfl k) ?_
  show own_Goes _ _ _ _ _ _ _ T7 (mkF m 29 #[.val (.ref a1), .val (.ref h0.size), .val (.int (14 : Int32)), .val (.int (3 : Int32)), .val (.ref aUNSIGNED_CHAR)] [(.ref aUNSIGNED_CHAR)])
  obtain ⟨T8, X8, e8, st8⟩ := getF X7 hx hZ hown (host := "") (Or.inl (hw _ (List.mem_of_getElem? (i := 43) rfl))) Via.refl e7 (R_UNSIGNED_CHAR.ext Od1.2) (g := (mkF m 29 #[.val (.ref a1), .val (.ref h0.size), .val (.int (14 : Int32)), .val (.int (3 : Int32)), .val (.ref aUNSIGNED_CHAR)] [(.ref aUNSIGNED_CHAR)])) rfl rfl (hb hby d2_29)
  refine own_go st8 ?_
  show own_Goes _ _ _ _ _ _ _ T8 (mkF m 32 #[.val (.ref a1), .val (.ref h0.size), .val (.int (14 : Int32)), .val (.int (3 : Int32)), .val (.ref aUNSIGNED_CHAR)] [(.int (1 : Int32))])
  refine own_go (fun _ k => XS.aloadN X8.here hx rfl (hb hby d2_32) rfl rfl k) ?_
  show own_Goes _ _ _ _ _ _ _ T8 (mkF m 33 #[.val (.ref a1), .val (.ref h0.size), .val (.int (14 : Int32)), .val (.int (3 : Int32)), .val (.ref aUNSIGNED_CHAR)] [(.ref a1), (.int (1 : Int32))])
  obtain ⟨T9, X9, e9, st9⟩ := getF X8 hx hZ hown (host := "") (Or.inl (hw _ (List.mem_of_getElem? (i := 43) rfl))) Via.refl e8 (R_a1.ext Od1.2) (g := (mkF m 33 #[.val (.ref a1), .val (.ref h0.size), .val (.int (14 : Int32)), .val (.int (3 : Int32)), .val (.ref aUNSIGNED_CHAR)] [(.ref a1), (.int (1 : Int32))])) rfl rfl (hb hby d2_33)
  refine own_go st9 ?_
  show own_Goes _ _ _ _ _ _ _ T9 (mkF m 36 #[.val (.ref a1), .val (.ref h0.size), .val (.int (14 : Int32)), .val (.int (3 : Int32)), .val (.ref aUNSIGNED_CHAR)] [(.int (6 : Int32)), (.int (1 : Int32))])
  refine own_go (fun _ k => XS.icmpYes X9.here hx rfl (pc0 := 36) (pc' := 42) rfl (hb hby d2_36) rfl (feq (by decide : ¬ ((1 : Int32) = (6 : Int32)))).2 (by decide) (by decide) k) ?_
  show own_Goes _ _ _ _ _ _ _ T9 (mkF m 42 #[.val (.ref a1), .val (.ref h0.size), .val (.int (14 : Int32)), .val (.int (3 : Int32)), .val (.ref aUNSIGNED_CHAR)] [])
  refine own_go (fun _ k => XS.iinc X9.here hx rfl (hb hby d2_42) rfl (l' := #[.val (.ref a1), .val (.ref h0.size), .val (.int (14 : Int32)), .val (.int (4 : Int32)), .val (.ref aUNSIGNED_CHAR)]) rfl k) ?_
  show own_Goes _ _ _ _ _ _ _ T9 (mkF m 45 #[.val (.ref a1), .val (.ref h0.size), .val (.int (14 : Int32)), .val (.int (4 : Int32)), .val (.ref aUNSIGNED_CHAR)] [])
  refine own_go (fun _ k => XS.goto X9.here hx rfl (pc0 := 45) (pc' := 9) rfl (hb hby d2_45) (by decide) (by decide) k) ?_
  show own_Goes _ _ _ _ _ _ _ T9 (mkF m 9 #[.val (.ref a1), .val (.ref h0.size), .val (.int (14 : Int32)), .val (.int (4 : Int32)), .val (.ref aUNSIGNED_CHAR)] [])
  refine own_go (fun _ k => XS.iloadN X9.here hx rfl (hb hby d2_9) rfl k) ?_
  show own_Goes _ _ _ _ _ _ _ T9 (mkF m 10 #[.val (.ref a1), .val (.ref h0.size), .val (.int (14 : Int32)), .val (.int (4 : Int32)), .val (.ref aUNSIGNED_CHAR)] [(.int (4 : Int32))])
  refine own_go (fun _ k => XS.iloadN X9.here hx rfl (hb hby d2_10) rfl k) ?_
  show own_Goes _ _ _ _ _ _ _ T9 (mkF m 11 #[.val (.ref a1), .val (.ref h0.size), .val (.int (14 : Int32)), .val (.int (4 : Int32)), .val (.ref aUNSIGNED_CHAR)] [(.int (14 : Int32)), (.int (4 : Int32))])
  refine own_go (fun _ k => XS.icmpNo X9.here hx rfl (hb hby d2_11) rfl (tlt (by decide : (4 : Int32) < (14 : Int32))).2.1 k) ?_
  show own_Goes _ _ _ _ _ _ _ T9 (mkF m 14 #[.val (.ref a1), .val (.ref h0.size), .val (.int (14 : Int32)), .val (.int (4 : Int32)), .val (.ref aUNSIGNED_CHAR)] [])
  refine own_go (fun _ k => XS.aloadN X9.here hx rfl (hb hby d2_14) rfl rfl k) ?_
  show own_Goes _ _ _ _ _ _ _ T9 (mkF m 15 #[.val (.ref a1), .val (.ref h0.size), .val (.int (14 : Int32)), .val (.int (4 : Int32)), .val (.ref aUNSIGNED_CHAR)] [(.ref h0.size)])
  refine own_go (fun _ k => XS.iloadN X9.here hx rfl (hb hby d2_15) rfl k) ?_
  show own_Goes _ _ _ _ _ _ _ T9 (mkF m 16 #[.val (.ref a1), .val (.ref h0.size), .val (.int (14 : Int32)), .val (.int (4 : Int32)), .val (.ref aUNSIGNED_CHAR)] [(.int (4 : Int32)), (.ref h0.size)])
  refine own_go (fun t k => X9.aaload hx (j := (4 : Int32)) (v := (.ref aSHORT)) (by rw [e9]; exact A1.1) (State.isArrayOf_alike hZ.alike A1.2.1) rfl A1.2.2 (by show ¬ (_ ∨ clV.slots.size ≤ _); rw [hsz]; decide) el_4 (g := (mkF m 16 #[.val (.ref a1), .val (.ref h0.size), .val (.int (14 : Int32)), .val (.int (4 : Int32)), .val (.ref aUNSIGNED_CHAR)] [(.int (4 : Int32)), (.ref h0.size)])) rfl rfl (hb hby d2_16) t k) ?_
  show own_Goes _ _ _ _ _ _ _ T9 (mkF m 17 #[.val (.ref a1), .val (.ref h0.size), .val (.int (14 : Int32)), .val (.int (4 : Int32)), .val (.ref aUNSIGNED_CHAR)] [(.ref aSHORT)])
  refine own_go (fun _ k => XS.astore X9.here hx rfl (hb hby d2_17) rfl rfl (l' := #[.val (.ref a1), .val (.ref h0.size), .val (.int (14 : Int32)), .val (.int (4 : Int32)), .val (.ref aSHORT)]) rfl k) ?_
  show own_Goes _ _ _ _ _ _ _ T9 (mkF m 19 #[.val (.ref a1), .val (.ref h0.size), .val (.int (14 : Int32)), .val (.int (4 : Int32)), .val (.ref aSHORT)] [])
  refine own_go (fun _ k => XS.aload X9.here hx rfl (hb hby d2_19) rfl rfl k) ?_
  show own_Goes _ _ _ _ _ _ _ T9 (mkF m 21 #[.val (.ref a1), .val (.ref h0.size), .val (.int (14 : Int32)), .val (.int (4 : Int32)), .val (.ref aSHORT)] [(.ref aSHORT)])
  obtain ⟨T10, X10, e10, st10⟩ := getF X9 hx hZ hown (host := "") (Or.inl (hw _ (List.mem_of_getElem? (i := 41) rfl))) Via.refl e9 (G_SHORT.ext Od1.2) (g := (mkF m 21 #[.val (.ref a1), .val (.ref h0.size), .val (.int (14 : Int32)), .val (.int (4 : Int32)), .val (.ref aSHORT)] [(.ref aSHORT)])) rfl rfl (hb hby d2_21)
  refine own_go st10 ?_
  show own_Goes _ _ _ _ _ _ _ T10 (mkF m 24 #[.val (.ref a1), .val (.ref h0.size), .val (.int (14 : Int32)), .val (.int (4 : Int32)), .val (.ref aSHORT)] [(.int (1 : Int32))])
  refine own_go (fun _ k => XS.ifYes X10.here hx rfl (pc0 := 24) (pc' := 42) rfl (hb hby d2_24) rfl ((if0 _ _).trans (feq (by decide : ¬ ((1 : Int32) = (0 : Int32)))).2) (by decide) (by decide) k) ?_
  show own_Goes _ _ _ _ _ _ _ T10 (mkF m 42 #[.val (.ref a1), .val (.ref h0.size), .val (.int (14 : Int32)), .val (.int (4 : Int32)), .val (.ref aSHORT)] [])
  refine own_go (fun _ k => XS.iinc X10.here hx rfl (hb hby d2_42) rfl (l' := #[.val (.ref a1), .val (.ref h0.size), .val (.int (14 : Int32)), .val (.int (5 : Int32)), .val (.ref aSHORT)]) rfl k) ?_
  show own_Goes _ _ _ _ _ _ _ T10 (mkF m 45 #[.val (.ref a1), .val (.ref h0.size), .val (.int (14 : Int32)), .val (.int (5 : Int32)), .val (.ref aSHORT)] [])
  refine own_go (fun _ k => XS.goto X10.here hx rfl (pc0 := 45) (pc' := 9) rfl (hb hby d2_45) (by decide) (by decide) k) ?_
  show own_Goes _ _ _ _ _ _ _ T10 (mkF m 9 #[.val (.ref a1), .val (.ref h0.size), .val (.int (14 : Int32)), .val (.int (5 : Int32)), .val (.ref aSHORT)] [])
  refine own_go (fun _ k => XS.iloadN X10.here hx rfl (hb hby d2_9) rfl k) ?_
  show own_Goes _ _ _ _ _ _ _ T10 (mkF m 10 #[.val (.ref a1), .val (.ref h0.size), .val (.int (14 : Int32)), .val (.int (5 : Int32)), .val (.ref aSHORT)] [(.int (5 : Int32))])
  refine own_go (fun _ k => XS.iloadN X10.here hx rfl (hb hby d2_10) rfl k) ?_
  show own_Goes _ _ _ _ _ _ _ T10 (mkF m 11 #[.val (.ref a1), .val (.ref h0.size), .val (.int (14 : Int32)), .val (.int (5 : Int32)), .val (.ref aSHORT)] [(.int (14 : Int32)), (.int (5 : Int32))])
  refine own_go (fun _ k => XS.icmpNo X10.here hx rfl (hb hby d2_11) rfl (tlt (by decide : (5 : Int32) < (14 : Int32))).2.1 k) ?_
  show own_Goes _ _ _ _ _ _ _ T10 (mkF m 14 #[.val (.ref a1), .val (.ref h0.size), .val (.int (14 : Int32)), .val (.int (5 : Int32)), .val (.ref aSHORT)] [])
  refine own_go (fun _ k => XS.aloadN X10.here hx rfl (hb hby d2_14) rfl rfl k) ?_
  show own_Goes _ _ _ _ _ _ _ T10 (mkF m 15 #[.val (.ref a1), .val (.ref h0.size), .val (.int (14 : Int32)), .val (.int (5 : Int32)), .val (.ref aSHORT)] [(.ref h0.size)])
  refine own_go (fun _ k => XS.iloadN X10.here hx rfl (hb hby d2_15) rfl k) ?_
  show own_Goes _ _ _ _ _ _ _ T10 (mkF m 16 #[.val (.ref a1), .val (.ref h0.size), .val (.int (14 : Int32)), .val (.int (5 : Int32)), .val (.ref aSHORT)] [(.int (5 : Int32)), (.ref h0.size)])
  refine own_go (fun t k => X10.aaload hx (j := (5 : Int32)) (v := (.ref aUNSIGNED_SHORT)) (by rw [e10]; exact A1.1) (State.isArrayOf_alike hZ.alike A1.2.1) rfl A1.2.2 (by show ¬ (_ ∨ clV.slots.size ≤ _); rw [hsz]; decide) el_5 (g := (mkF m 16 #[.val (.ref a1), .val (.ref h0.size), .val (.int (14 : Int32)), .val (.int (5 : Int32)), .val (.ref aSHORT)] [(.int (5 : Int32)), (.ref h0.size)])) rfl rfl (hb hby d2_16) t k) ?_
  show own_Goes _ _ _ _ _ _ _ T10 (mkF m 17 #[.val (.ref a1), .val (.ref h0.size), .val (.int (14 : Int32)), .val (.int (5 : Int32)), .val (.ref aSHORT)] [(.ref aUNSIGNED_SHORT)])
  refine own_go (fun _ k => XS.astore X10.here hx rfl (hb hby d2_17) rfl rfl (l' := #[.val (.ref a1), .val (.ref h0.size), .val (.int (14 : Int32)), .val (.int (5 : Int32)), .val (.ref aUNSIGNED_SHORT)]) rfl k) ?_
  show own_Goes _ _ _ _ _ _ _ T10 (mkF m 19 #[.val (.ref a1), .val (.ref h0.size), .val (.int (14 : Int32)), .val (.int (5 : Int32)), .val (.ref aUNSIGNED_SHORT)] [])
  refine own_go (fun _ k => XS.aload X10.here hx rfl (hb hby d2_19) rfl rfl k) ?_
  show own_Goes _ _ _ _ _ _ _ T10 (mkF m 21 #[.val (.ref a1), .val (.ref h0.size), .val (.int (14 : Int32)), .val (.int (5 : Int32)), .val (.ref aUNSIGNED_SHORT)] [(.ref aUNSIGNED_SHORT)])
  obtain ⟨T11, X11, e11, st11⟩ := getF X10 hx hZ hown (host := "") (Or.inl (hw _ (List.mem_of_getElem? (i := 41) rfl))) Via.refl e10 (G_UNSIGNED_SHORT.ext Od1.2) (g := (mkF m 21 #[.val (.ref a1), .val (.ref h0.size), .val (.int (14 : Int32)), .val (.int (5 : Int32)), .val (.ref aUNSIGNED_SHORT)] [(.ref aUNSIGNED_SHORT)])) rfl rfl (hb hby d2_21)
  refine own_go st11 ?_
  show own_Goes _ _ _ _ _ _ _ T11 (mkF m 24 #[.val (.ref a1), .val (.ref h0.size), .val (.int (14 : Int32)), .val (.int (5 : Int32)), .val (.ref aUNSIGNED_SHORT)] [(.int (0 : Int32))])
  refine own_go (fun _ k => XS.ifNo X11.here hx rfl (hb hby d2_24) rfl ((if0 _ _).trans (teq (by decide : (0 : Int32) = (0 : Int32))).2) k) ?_
  show own_Goes _ _ _ _ _ _ _ T11 (mkF m 27 #[.val (.ref a1), .val (.ref h0.size), .val (.int (14 : Int32)), .val (.int (5 : Int32)), .val (.ref aUNSIGNED_SHORT)] [])
  refine own_go (fun _ k => XS.aload X11.here hx rfl (hb hby d2_27) rfl rfl k) ?_
  show own_Goes _ _ _ _ _ _ _ T11 (mkF m 29 #[.val (.ref a1), .val (.ref h0.size), .val (.int (14 : Int32)), .val (.int (5 : Int32)), .val (.ref aUNSIGNED_SHORT)] [(.ref aUNSIGNED_SHORT)])
  obtain ⟨T12, X12, e12, st12⟩ := getF X11 hx hZ hown (host := "") (Or.inl (hw _ (List.mem_of_getElem? (i := 43) rfl))) Via.refl e11 (R_UNSIGNED_SHORT.ext Od1.2) (g := (mkF m 29 #[.val (.ref a1), .val (.ref h0.size), .val (.int (14 : Int32)), .val (.int (5 : Int32)), .val (.ref aUNSIGNED_SHORT)] [(.ref aUNSIGNED_SHORT)])) rfl rfl (hb hby d2_29)
  refine own_go st12 ?_
  show own_Goes _ _ _ _ _ _ _ T12 (mkF m 32 #[.val (.ref a1), .val (.ref h0.size), .val (.int (14 : Int32)), .val (.int (5 : Int32)), .val (.ref aUNSIGNED_SHORT)] [(.int (2 : Int32))])
  refine own_go (fun _ k => XS.aloadN X12.here hx rfl (hb hby d2_32) rfl rfl k) ?_
  show own_Goes _ _ _ _ _ _ _ T12 (mkF m 33 #[.val (.ref a1), .val (.ref h0.size), .val (.int (14 : Int32)), .val (.int (5 : Int32)), .val (.ref aUNSIGNED_SHORT)] [(.ref a1), (.int (2 : Int32))])
  obtain ⟨T13, X13, e13, st13⟩ := getF X12 hx hZ hown (host := "") (Or.inl (hw _ (List.mem_of_getElem? (i := 43) rfl))) Via.refl e12 (R_a1.ext Od1.2) (g := (mkF m 33 #[.val (.ref a1), .val (.ref h0.size), .val (.int (14 : Int32)), .val (.int (5 : Int32)), .val (.ref aUNSIGNED_SHORT)] [(.ref a1), (.int (2 : Int32))])) rfl rfl (hb hby d2_33)
  refine own_go st13 ?_
  show own_Goes _ _ _ _ _ _ _ T13 (mkF m 36 #[.val (.ref a1), .val (.ref h0.size), .val (.int (14 : Int32)), .val (.int (5 : Int32)), .val (.ref aUNSIGNED_SHORT)] [(.int (6 : Int32)), (.int (2 : Int32))])
  refine own_go (fun _ k => XS.icmpYes X13.here hx rfl (pc0 := 36) (pc' := 42) rfl (hb hby d2_36) rfl (feq (by decide : ¬ ((2 : Int32) = (6 : Int32)))).2 (by decide) (by decide) k) ?_
  show own_Goes _ _ _ _ _ _ _ T13 (mkF m 42 #[.val (.ref a1), .val (.ref h0.size), .val (.int (14 : Int32)), .val (.int (5 : Int32)), .val (.ref aUNSIGNED_SHORT)] [])
  refine own_go (fun _ k => XS.iinc X13.here hx rfl (hb hby d2_42) rfl (l' := #[.val (.ref a1), .val (.ref h0.size), .val (.int (14 : Int32)), .val (.int (6 : Int32)), .val (.ref aUNSIGNED_SHORT)]) rfl k) ?_
  show own_Goes _ _ _ _ _ _ _ T13 (mkF m 45 #[.val (.ref a1), .val (.ref h0.size), .val (.int (14 : Int32)), .val (.int (6 : Int32)), .val (.ref aUNSIGNED_SHORT)] [])
  refine own_go (fun _ k => XS.goto X13.here hx rfl (pc0 := 45) (pc' := 9) rfl (hb hby d2_45) (by decide) (by decide) k) ?_
  show own_Goes _ _ _ _ _ _ _ T13 (mkF m 9 #[.val (.ref a1), .val (.ref h0.size), .val (.int (14 : Int32)), .val (.int (6 : Int32)), .val (.ref aUNSIGNED_SHORT)] [])
  refine own_go (fun _ k => XS.iloadN X13.here hx rfl (hb hby d2_9) rfl k) ?_
  show own_Goes _ _ _ _ _ _ _ T13 (mkF m 10 #[.val (.ref a1), .val (.ref h0.size), .val (.int (14 : Int32)), .val (.int (6 : Int32)), .val (.ref aUNSIGNED_SHORT)] [(.int (6 : Int32))])
  refine own_go (fun _ k => XS.iloadN X13.here hx rfl (hb hby d2_10) rfl k) ?_
  show own_Goes _ _ _ _ _ _ _ T13 (mkF m 11 #[.val (.ref a1), .val (.ref h0.size), .val (.int (14 : Int32)), .val (.int (6 : Int32)), .val (.ref aUNSIGNED_SHORT)] [(.int (14 : Int32)), (.int (6 : Int32))])
  refine own_go (fun _ k => XS.icmpNo X13.here hx rfl (hb hby d2_11) rfl (tlt (by decide : (6 : Int32) < (14 : Int32))).2.1 k) ?_
  show own_Goes _ _ _ _ _ _ _ T13 (mkF m 14 #[.val (.ref a1), .val (.ref h0.size), .val (.int (14 : Int32)), .val (.int (6 : Int32)), .val (.ref aUNSIGNED_SHORT)] [])
  refine own_go (fun _ k => XS.aloadN X13.here hx rfl (hb hby d2_14) rfl rfl k) ?_
  show own_Goes _ _ _ _ _ _ _ T13 (mkF m 15 #[.val (.ref a1), .val (.ref h0.size), .val (.int (14 : Int32)), .val (.int (6 : Int32)), .val (.ref aUNSIGNED_SHORT)] [(.ref h0.size)])
  refine own_go (fun _ k => XS.iloadN X13.here hx rfl (hb hby d2_15) rfl k) ?_
  show own_Goes _ _ _ _ _ _ _ T13 (mkF m 16 #[.val (.ref a1), .val (.ref h0.size), .val (.int (14 : Int32)), .val (.int (6 : Int32)), .val (.ref aUNSIGNED_SHORT)] [(.int (6 : Int32)), (.ref h0.size)])
  refine own_go (fun t k => X13.aaload hx (j := (6 : Int32)) (v := (.ref aINT)) (by rw [e13]; exact A1.1) (State.isArrayOf_alike hZ.alike A1.2.1) rfl A1.2.2 (by show ¬ (_ ∨ clV.slots.size ≤ _); rw [hsz]; decide) el_6 (g := (mkF m 16 #[.val (.ref a1), .val (.ref h0.size), .val (.int (14 : Int32)), .val (.int (6 : Int32)), .val (.ref aUNSIGNED_SHORT)] [(.int (6 : Int32)), (.ref h0.size)])) rfl rfl (hb hby d2_16) t k) ?_
  show own_Goes _ _ _ _ _ _ _ T13 (mkF m 17 #[.val (.ref a1), .val (.ref h0.size), .val (.int (14 : Int32)), .val (.int (6 : Int32)), .val (.ref aUNSIGNED_SHORT)] [(.ref aINT)])
  refine own_go (fun _ k => XS.astore X13.here hx rfl (hb hby d2_17) rfl rfl (l' := #[.val (.ref a1), .val (.ref h0.size), .val (.int (14 : Int32)), .val (.int (6 : Int32)), .val (.ref aINT)]) rfl k) ?_
  show own_Goes _ _ _ _ _ _ _ T13 (mkF m 19 #[.val (.ref a1), .val (.ref h0.size), .val (.int (14 : Int32)), .val (.int (6 : Int32)), .val (.ref aINT)] [])
  refine own_go (fun _ k => XS.aload X13.here hx rfl (hb hby d2_19) rfl rfl k) ?_
  show own_Goes _ _ _ _ _ _ _ T13 (mkF m 21 #[.val (.ref a1), .val (.ref h0.size), .val (.int (14 : Int32)), .val (.int (6 : Int32)), .val (.ref aINT)] [(.ref aINT)])
  obtain ⟨T14, X14, e14, st14⟩ := getF X13 hx hZ hown (host := "") (Or.inl (hw _ (List.mem_of_getElem? (i := 41) rfl))) Via.refl e13 (G_INT.ext Od1.2) (g := (mkF m 21 #[.val (.ref a1), .val (.ref h0.size), .val (.int (14 : Int32)), .val (.int (6 : Int32)), .val (.ref aINT)] [(.ref aINT)])) rfl rfl (hb hby d2_21)
  refine own_go st14 ?_
  show own_Goes _ _ _ _ _ _ _ T14 (mkF m 24 #[.val (.ref a1), .val (.ref h0.size), .val (.int (14 : Int32)), .val (.int (6 : Int32)), .val (.ref aINT)] [(.int (1 : Int32))])
  refine own_go (fun _ k => XS.ifYes X14.here hx rfl (pc0 := 24) (pc' := 42) rfl (hb hby d2_24) rfl ((if0 _ _).trans (feq (by decide : ¬ ((1 : Int32) = (0 : Int32)))).2) (by decide) (by decide) k) ?_
  show own_Goes _ _ _ _ _ _ _ T14 (mkF m 42 #[.val (.ref a1), .val (.ref h0.size), .val (.int (14 : Int32)), .val (.int (6 : Int32)), .val (.ref aINT)] [])
  refine own_go (fun _ k => XS.iinc X14.here hx rfl (hb hby d2_42) rfl (l' := #[.val (.ref a1), .val (.ref h0.size), .val (.int (14 : Int32)), .val (.int (7 : Int32)), .val (.ref aINT)]) rfl k) ?_
  show own_Goes _ _ _ _ _ _ _ T14 (mkF m 45 #[.val (.ref a1), .val (.ref h0.size), .val (.int (14 : Int32)), .val (.int (7 : Int32)), .val (.ref aINT)] [])
  refine own_go (fun _ k => XS.goto X14.here hx rfl (pc0 := 45) (pc' := 9) rfl (hb hby d2_45) (by decide) (by decide) k) ?_
  show own_Goes _ _ _ _ _ _ _ T14 (mkF m 9 #[.val (.ref a1), .val (.ref h0.size), .val (.int (14 : Int32)), .val (.int (7 : Int32)), .val (.ref aINT)] [])
  refine own_go (fun _ k => XS.iloadN X14.here hx rfl (hb hby d2_9) rfl k) ?_
  show own_Goes _ _ _ _ _ _ _ T14 (mkF m 10 #[.val (.ref a1), .val (.ref h0.size), .val (.int (14 : Int32)), .val (.int (7 : Int32)), .val (.ref aINT)] [(.int (7 : Int32))])
  refine own_go (fun _ k => XS.iloadN X14.here hx rfl (hb hby d2_10) rfl k) ?_
  show own_Goes _ _ _ _ _ _ _ T14 (mkF m 11 #[.val (.ref a1), .val (.ref h0.size), .val (.int (14 : Int32)), .val (.int (7 : Int32)), .val (.ref aINT)] [(.int (14 : Int32)), (.int (7 : Int32))])
  refine own_go (fun _ k => XS.icmpNo X14.here hx rfl (hb hby d2_11) rfl (tlt (by decide : (7 : Int32) < (14 : Int32))).2.1 k) ?_
  show own_Goes _ _ _ _ _ _ _ T14 (mkF m 14 #[.val (.ref a1), .val (.ref h0.size), .val (.int (14 : Int32)), .val (.int (7 : Int32)), .val (.ref aINT)] [])
  refine own_go (fun _ k => XS.aloadN X14.here hx rfl (hb hby d2_14) rfl rfl k) ?_
  show own_Goes _ _ _ _ _ _ _ T14 (mkF m 15 #[.val (.ref a1), .val (.ref h0.size), .val (.int (14 : Int32)), .val (.int (7 : Int32)), .val (.ref aINT)] [(.ref h0.size)])
  refine own_go (fun _ k => XS.iloadN X14.here hx rfl (hb hby d2_15) rfl k) ?_
  show own_Goes _ _ _ _ _ _ _ T14 (mkF m 16 #[.val (.ref a1), .val (.ref h0.size), .val (.int (14 : Int32)), .val (.int (7 : Int32)), .val (.ref aINT)] [(.int (7 : Int32)), (.ref h0.size)])
  refine own_go (fun t k => X14.aaload hx (j := (7 : Int32)) (v := (.ref aUNSIGNED_INT)) (by rw [e14]; exact A1.1) (State.isArrayOf_alike hZ.alike A1.2.1) rfl A1.2.2 (by show ¬ (_ ∨ clV.slots.size ≤ _); rw [hsz]; decide) el_7 (g := (mkF m 16 #[.val (.ref a1), .val (.ref h0.size), .val (.int (14 : Int32)), .val (.int (7 : Int32)), .val (.ref aINT)] [(.int (7 : Int32)), (.ref h0.size)])) rfl rfl (hb hby d2_16) t k) ?_
  show own_Goes _ _ _ _ _ _ _ T14 (mkF m 17 #[.val (.ref a1), .val (.ref h0.size), .val (.int (14 : Int32)), .val (.int (7 : Int32)), .val (.ref aINT)] [(.ref aUNSIGNED_INT)])
  refine own_go (fun _ k => XS.astore X14.here hx rfl (hb hby d2_17) rfl rfl (l' := #[.val (.ref a1), .val (.ref h0.size), .val (.int (14 : Int32)), .val (.int (7 : Int32)), .val (.ref aUNSIGNED_INT)]) rfl k) ?_
  show own_Goes _ _ _ _ _ _ _ T14 (mkF m 19 #[.val (.ref a1), .val (.ref h0.size), .val (.int (14 : Int32)), .val (.int (7 : Int32)), .val (.ref aUNSIGNED_INT)] [])
  refine own_go (fun _ k => XS.aload X14.here hx rfl (hb hby d2_19) rfl rfl k) ?_
  show own_Goes _ _ _ _ _ _ _ T14 (mkF m 21 #[.val (.ref a1), .val (.ref h0.size), .val (.int (14 : Int32)), .val (.int (7 : Int32)), .val (.ref aUNSIGNED_INT)] [(.ref aUNSIGNED_INT)])
  obtain ⟨T15, X15, e15, st15⟩ := getF X14 hx hZ hown (host := "") (Or.inl (hw _ (List.mem_of_getElem? (i := 41) rfl))) Via.refl e14 (G_UNSIGNED_INT.ext Od1.2) (g := (mkF m 21 #[.val (.ref a1), .val (.ref h0.size), .val (.int (14 : Int32)), .val (.int (7 : Int32)), .val (.ref aUNSIGNED_INT)] [(.ref aUNSIGNED_INT)])) rfl rfl (hb hby d2_21)
  refine own_go st15 ?_
  show own_Goes _ _ _ _ _ _ _ T15 (mkF m 24 #[.val (.ref a1), .val (.ref h0.size), .val (.int (14 : Int32)), .val (.int (7 : Int32)), .val (.ref aUNSIGNED_INT)] [(.int (0 : Int32))])
  refine own_go (fun _ k => XS.ifNo X15.here hx rfl (hb hby d2_24) rfl ((if0 _ _).trans (teq (by decide : (0 : Int32) = (0 : Int32))).2) k) ?_
  show own_Goes _ _ _ _ _ _ _ T15 (mkF m 27 #[.val (.ref a1), .val (.ref h0.size), .val (.int (14 : Int32)), .val (.int (7 : Int32)), .val (.ref aUNSIGNED_INT)] [])
  refine own_go (fun _ k => XS.aload X15.here hx rfl (hb hby d2_27) rfl rfl k) ?_
  show own_Goes _ _ _ _ _ _ _ T15 (mkF m 29 #[.val (.ref a1), .val (.ref h0.size), .val (.int (14 : Int32)), .val (.int (7 : Int32)), .val (.ref aUNSIGNED_INT)] [(.ref aUNSIGNED_INT)])
  obtain ⟨T16, X16, e16, st16⟩ := getF X15 hx hZ hown (host := "") (Or.inl (hw _ (List.mem_of_getElem? (i := 43) rfl))) Via.refl e15 (R_UNSIGNED_INT.ext Od1.2) (g := (mkF m 29 #[.val (.ref a1), .val (.ref h0.size), .val (.int (14 : Int32)), .val (.int (7 : Int32)), .val (.ref aUNSIGNED_INT)] [(.ref aUNSIGNED_INT)])) rfl rfl (hb hby d2_29)
  refine own_go st16 ?_
  show own_Goes _ _ _ _ _ _ _ T16 (mkF m 32 #[.val (.ref a1), .val (.ref h0.size), .val (.int (14 : Int32)), .val (.int (7 : Int32)), .val (.ref aUNSIGNED_INT)] [(.int (3 : Int32))])
  refine own_go (fun _ k => XS.aloadN X16.here hx rfl (hb hby d2_32) rfl rfl k) ?_
  show own_Goes _ _ _ _ _ _ _ T16 (mkF m 33 #[.val (.ref a1), .val (.ref h0.size), .val (.int (14 : Int32)), .val (.int (7 : Int32)), .val (.ref aUNSIGNED_INT)] [(.ref a1), (.int (3 : Int32))])
  obtain ⟨T17, X17, e17, st17⟩ := getF X16 hx hZ hown (host := "") (Or.inl (hw _ (List.mem_of_getElem? (i := 43) rfl))) Via.refl e16 (R_a1.ext Od1.2) (g := (mkF m 33 #[.val (.ref a1), .val (.ref h0.size), .val (.int (14 : Int32)), .val (.int (7 : Int32)), .val (.ref aUNSIGNED_INT)] [(.ref a1), (.int (3 : Int32))])) rfl rfl (hb hby d2_33)
  refine own_go st17 ?_
  show own_Goes _ _ _ _ _ _ _ T17 (mkF m 36 #[.val (.ref a1), .val (.ref h0.size), .val (.int (14 : Int32)), .val (.int (7 : Int32)), .val (.ref aUNSIGNED_INT)] [(.int (6 : Int32)), (.int (3 : Int32))])
  refine own_go (fun _ k => XS.icmpYes X17.here hx rfl (pc0 := 36) (pc' := 42) rfl (hb hby d2_36) rfl (feq (by decide : ¬ ((3 : Int32) = (6 : Int32)))).2 (by decide) (by decide) k) ?_
  show own_Goes _ _ _ _ _ _ _ T17 (mkF m 42 #[.val (.ref a1), .val (.ref h0.size), .val (.int (14 : Int32)), .val (.int (7 : Int32)), .val (.ref aUNSIGNED_INT)] [])
  refine own_go (fun _ k => XS.iinc X17.here hx rfl (hb hby d2_42) rfl (l' := #[.val (.ref a1), .val (.ref h0.size), .val (.int (14 : Int32)), .val (.int (8 : Int32)), .val (.ref aUNSIGNED_INT)]) rfl k) ?_
  show own_Goes _ _ _ _ _ _ _ T17 (mkF m 45 #[.val (.ref a1), .val (.ref h0.size), .val (.int (14 : Int32)), .val (.int (8 : Int32)), .val (.ref aUNSIGNED_INT)] [])
  refine own_go (fun _ k => XS.goto X17.here hx rfl (pc0 := 45) (pc' := 9) rfl (hb hby d2_45) (by decide) (by decide) k) ?_
  show own_Goes _ _ _ _ _ _ _ T17 (mkF m 9 #[.val (.ref a1), .val (.ref h0.size), .val (.int (14 : Int32)), .val (.int (8 : Int32)), .val (.ref aUNSIGNED_INT)] [])
  refine own_go (fun _ k => XS.iloadN X17.here hx rfl (hb hby d2_9) rfl k) ?_
  show own_Goes _ _ _ _ _ _ _ T17 (mkF m 10 #[.val (.ref a1), .val (.ref h0.size), .val (.int (14 : Int32)), .val (.int (8 : Int32)), .val (.ref aUNSIGNED_INT)] [(.int (8 : Int32))])
  refine own_go (fun _ k => XS.iloadN X17.here hx rfl (hb hby d2_10) rfl k) ?_
  show own_Goes _ _ _ _ _ _ _ T17 (mkF m 11 #[.val (.ref a1), .val (.ref h0.size), .val (.int (14 : Int32)), .val (.int (8 : Int32)), .val (.ref aUNSIGNED_INT)] [(.int (14 : Int32)), (.int (8 : Int32))])
  refine own_go (fun _ k => XS.icmpNo X17.here hx rfl (hb hby d2_11) rfl (tlt (by decide : (8 : Int32) < (14 : Int32))).2.1 k) ?_
  show own_Goes _ _ _ _ _ _ _ T17 (mkF m 14 #[.val (.ref a1), .val (.ref h0.size), .val (.int (14 : Int32)), .val (.int (8 : Int32)), .val (.ref aUNSIGNED_INT)] [])
  refine own_go (fun _ k => XS.aloadN X17.here hx rfl (hb hby d2_14) rfl rfl k) ?_
  show own_Goes _ _ _ _ _ _ _ T17 (mkF m 15 #[.val (.ref a1), .val (.ref h0.size), .val (.int (14 : Int32)), .val (.int (8 : Int32)), .val (.ref aUNSIGNED_INT)] [(.ref h0.size)])
  refine own_go (fun _ k => XS.iloadN X17.here hx rfl (hb hby d2_15) rfl k) ?_
  show own_Goes _ _ _ _ _ _ _ T17 (mkF m 16 #[.val (.ref a1), .val (.ref h0.size), .val (.int (14 : Int32)), .val (.int (8 : Int32)), .val (.ref aUNSIGNED_INT)] [(.int (8 : Int32)), (.ref h0.size)])
  refine own_go (fun t k => X17.aaload hx (j := (8 : Int32)) (v := (.ref aLONG)) (by rw [e17]; exact A1.1) (State.isArrayOf_alike hZ.alike A1.2.1) rfl A1.2.2 (by show ¬ (_ ∨ clV.slots.size ≤ _); rw [hsz]; decide) el_8 (g := (mkF m 16 #[.val (.ref a1), .val (.ref h0.size), .val (.int (14 : Int32)), .val (.int (8 : Int32)), .val (.ref aUNSIGNED_INT)] [(.int (8 : Int32)), (.ref h0.size)])) rfl rfl (hb hby d2_16) t k) ?_
  show own_Goes _ _ _ _ _ _ _ T17 (mkF m 17 #[.val (.ref a1), .val (.ref h0.size), .val (.int (14 : Int32)), .val (.int (8 : Int32)), .val (.ref aUNSIGNED_INT)] [(.ref aLONG)])
  refine own_go (fun _ k => XS.astore X17.here hx rfl (hb hby d2_17) rfl rfl (l' := #[.val (.ref a1), .val (.ref h0.size), .val (.int (14 : Int32)), .val (.int (8 : Int32)), .val (.ref aLONG)]) rfl k) ?_
  show own_Goes _ _ _ _ _ _ _ T17 (mkF m 19 #[.val (.ref a1), .val (.ref h0.size), .val (.int (14 : Int32)), .val (.int (8 : Int32)), .val (.ref aLONG)] [])
  refine own_go (fun _ k => XS.aload X17.here hx rfl (hb hby d2_19) rfl rfl k) ?_
  show own_Goes _ _ _ _ _ _ _ T17 (mkF m 21 #[.val (.ref a1), .val (.ref h0.size), .val (.int (14 : Int32)), .val (.int (8 : Int32)), .val (.ref aLONG)] [(.ref aLONG)])
  obtain ⟨T18, X18, e18, st18⟩ := getF X17 hx hZ hown (host := "") (Or.inl (hw _ (List.mem_of_getElem? (i := 41) rfl))) Via.refl e17 (G_LONG.ext Od1.2) (g := (mkF m 21 #[.val (.ref a1), .val (.ref h0.size), .val (.int (14 : Int32)), .val (.int (8 : Int32)), .val (.ref aLONG)] [(.ref aLONG)])) rfl rfl (hb hby d2_21)
  refine own_go st18 ?_
  show own_Goes _ _ _ _ _ _ _ T18 (mkF m 24 #[.val (.ref a1), .val (.ref h0.size), .val (.int (14 : Int32)), .val (.int (8 : Int32)), .val (.ref aLONG)] [(.int (1 : Int32))])
  refine own_go (fun _ k => XS.ifYes X18.here hx rfl (pc0 := 24) (pc' := 42) rfl (hb hby d2_24) rfl ((if0 _ _).trans (feq (by decide : ¬ ((1 : Int32) = (0 : Int32)))).2) (by decide) (by decide) k) ?_
  show own_Goes _ _ _ _ _ _ _ T18 (mkF m 42 #[.val (.ref a1), .val (.ref h0.size), .val (.int (14 : Int32)), .val (.int (8 : Int32)), .val (.ref aLONG)] [])
  refine own_go (fun _ k => XS.iinc X18.here hx rfl (hb hby d2_42) rfl (l' := #[.val (.ref a1), .val (.ref h0.size), .val (.int (14 : Int32)), .val (.int (9 : Int32)), .val (.ref aLONG)]) rfl k) ?_
  show own_Goes _ _ _ _ _ _ _ T18 (mkF m 45 #[.val (.ref a1), .val (.ref h0.size), .val (.int (14 : Int32)), .val (.int (9 : Int32)), .val (.ref aLONG)] [])
  refine own_go (fun _ k => XS.goto X18.here hx rfl (pc0 := 45) (pc' := 9) rfl (hb hby d2_45) (by decide) (by decide) k) ?_
  show own_Goes _ _ _ _ _ _ _ T18 (mkF m 9 #[.val (.ref a1), .val (.ref h0.size), .val (.int (14 : Int32)), .val (.int (9 : Int32)), .val (.ref aLONG)] [])
  refine own_go (fun _ k => XS.iloadN X18.here hx rfl (hb hby d2_9) rfl k) ?_
  show own_Goes _ _ _ _ _ _ _ T18 (mkF m 10 #[.val (.ref a1), .val (.ref h0.size), .val (.int (14 : Int32)), .val (.int (9 : Int32)), .val (.ref aLONG)] [(.int (9 : Int32))])
  refine own_go (fun _ k => XS.iloadN X18.here hx rfl (hb hby d2_10) rfl k) ?_
  show own_Goes _ _ _ _ _ _ _ T18 (mkF m 11 #[.val (.ref a1), .val (.ref h0.size), .val (.int (14 : Int32)), .val (.int (9 : Int32)), .val (.ref aLONG)] [(.int (14 : Int32)), (.int (9 : Int32))])
  refine own_go (fun _ k => XS.icmpNo X18.here hx rfl (hb hby d2_11) rfl (tlt (by decide : (9 : Int32) < (14 : Int32))).2.1 k) ?_
  show own_Goes _ _ _ _ _ _ _ T18 (mkF m 14 #[.val (.ref a1), .val (.ref h0.size), .val (.int (14 : Int32)), .val (.int (9 : Int32)), .val (.ref aLONG)] [])
  refine own_go (fun _ k => XS.aloadN X18.here hx rfl (hb hby d2_14) rfl rfl k) ?_
  show own_Goes _ _ _ _ _ _ _ T18 (mkF m 15 #[.val (.ref a1), .val (.ref h0.size), .val (.int (14 : Int32)), .val (.int (9 : Int32)), .val (.ref aLONG)] [(.ref h0.size)])
  refine own_go (fun _ k => XS.iloadN X18.here hx rfl (hb hby d2_15) rfl k) ?_
  show own_Goes _ _ _ _ _ _ _ T18 (mkF m 16 #[.val (.ref a1), .val (.ref h0.size), .val (.int (14 : Int32)), .val (.int (9 : Int32)), .val (.ref aLONG)] [(.int (9 : Int32)), (.ref h0.size)])
  refine own_go (fun t k => X18.aaload hx (j := (9 : Int32)) (v := (.ref aUNSIGNED_LONG)) (by rw [e18]; exact A1.1) (State.isArrayOf_alike hZ.alike A1.2.1) rfl A1.2.2 (by show ¬ (_ ∨ clV.slots.size ≤ _); rw [hsz]; decide) el_9 (g := (mkF m 16 #[.val (.ref a1), .val (.ref h0.size), .val (.int (14 : Int32)), .val (.int (9 : Int32)), .val (.ref aLONG)] [(.int (9 : Int32)), (.ref h0.size)])) rfl rfl (hb hby d2_16) t k) ?_
  show own_Goes _ _ _ _ _ _ _ T18 (mkF m 17 #[.val (.ref a1), .val (.ref h0.size), .val (.int (14 : Int32)), .val (.int (9 : Int32)), .val (.ref aLONG)] [(.ref aUNSIGNED_LONG)])
  refine own_go (fun _ k => XS.astore X18.here hx rfl (hb hby d2_17) rfl rfl (l' := #[.val (.ref a1), .val (.ref h0.size), .val (.int (14 : Int32)), .val (.int (9 : Int32)), .val (.ref aUNSIGNED_LONG)]) rfl k) ?_
  show own_Goes _ _ _ _ _ _ _ T18 (mkF m 19 #[.val (.ref a1), .val (.ref h0.size), .val (.int (14 : Int32)), .val (.int (9 : Int32)), .val (.ref aUNSIGNED_LONG)] [])
  refine own_go (fun _ k => XS.aload X18.here hx rfl (hb hby d2_19) rfl rfl k) ?_
  show own_Goes _ _ _ _ _ _ _ T18 (mkF m 21 #[.val (.ref a1), .val (.ref h0.size), .val (.int (14 : Int32)), .val (.int (9 : Int32)), .val (.ref aUNSIGNED_LONG)] [(.ref aUNSIGNED_LONG)])
  obtain ⟨T19, X19, e19, st19⟩ := getF X18 hx hZ hown (host := "") (Or.inl (hw _ (List.mem_of_getElem? (i := 41) rfl))) Via.refl e18 (G_UNSIGNED_LONG.ext Od1.2) (g := (mkF m 21 #[.val (.ref a1), .val (.ref h0.size), .val (.int (14 : Int32)), .val (.int (9 : Int32)), .val (.ref aUNSIGNED_LONG)] [(.ref aUNSIGNED_LONG)])) rfl rfl (hb hby d2_21)
  refine own_go st19 ?_
  show own_Goes _ _ _ _ _ _ _ T19 (mkF m 24 #[.val (.ref a1), .val (.ref h0.size), .val (.int (14 : Int32)), .val (.int (9 : Int32)), .val (.ref aUNSIGNED_LONG)] [(.int (0 : Int32))])
  refine own_go (fun _ k => XS.ifNo X19.here hx rfl (hb hby d2_24) rfl ((if0 _ _).trans (teq (by decide : (0 : Int32) = (0 : Int32))).2) k) ?_
  show own_Goes _ _ _ _ _ _ _ T19 (mkF m 27 #[.val (.ref a1), .val (.ref h0.size), .val (.int (14 : Int32)), .val (.int (9 : Int32)), .val (.ref aUNSIGNED_LONG)] [])
  refine own_go (fun _ k => XS.aload X19.here hx rfl (hb hby d2_27) rfl rfl k) ?_
  show own_Goes _ _ _ _ _ _ _ T19 (mkF m 29 #[.val (.ref a1), .val (.ref h0.size), .val (.int (14 : Int32)), .val (.int (9 : Int32)), .val (.ref aUNSIGNED_LONG)] [(.ref aUNSIGNED_LONG)])
  obtain ⟨T20, X20, e20, st20⟩ := getF X19 hx hZ hown (host := "") (Or.inl (hw _ (List.mem_of_getElem? (i := 43) rfl))) Via.refl e19 (R_UNSIGNED_LONG.ext Od1.2) (g := (mkF m 29 #[.val (.ref a1), .val (.ref h0.size), .val (.int (14 : Int32)), .val (.int (9 : Int32)), .val (.ref aUNSIGNED_LONG)] [(.ref aUNSIGNED_LONG)])) rfl rfl (hb hby d2_29)
  refine own_go st20 ?_
  show own_Goes _ _ _ _ _ _ _ T20 (mkF m 32 #[.val (.ref a1), .val (.ref h0.size), .val (.int (14 : Int32)), .val (.int (9 : Int32)), .val (.ref aUNSIGNED_LONG)] [(.int (4 : Int32))])
  refine own_go (fun _ k => XS.aloadN X20.here hx rfl (hb hby d2_32) rfl rfl k) ?_
  show own_Goes _ _ _ _ _ _ _ T20 (mkF m 33 #[.val (.ref a1), .val (.ref h0.size), .val (.int (14 : Int32)), .val (.int (9 : Int32)), .val (.ref aUNSIGNED_LONG)] [(.ref a1), (.int (4 : Int32))])
  obtain ⟨T21, X21, e21, st21⟩ := getF X20 hx hZ hown (host := "") (Or.inl (hw _ (List.mem_of_getElem? (i := 43) rfl))) Via.refl e20 (R_a1.ext Od1.2) (g := (mkF m 33 #[.val (.ref a1), .val (.ref h0.size), .val (.int (14 : Int32)), .val (.int (9 : Int32)), .val (.ref aUNSIGNED_LONG)] [(.ref a1), (.int (4 : Int32))])) rfl rfl (hb hby d2_33)
  refine own_go st21 ?_
  show own_Goes _ _ _ _ _ _ _ T21 (mkF m 36 #[.val (.ref a1), .val (.ref h0.size), .val (.int (14 : Int32)), .val (.int (9 : Int32)), .val (.ref aUNSIGNED_LONG)] [(.int (6 : Int32)), (.int (4 : Int32))])
  refine own_go (fun _ k => XS.icmpYes X21.here hx rfl (pc0 := 36) (pc' := 42) rfl (hb hby d2_36) rfl (feq (by decide : ¬ ((4 : Int32) = (6 : Int32)))).2 (by decide) (by decide) k) ?_
  show own_Goes _ _ _ _ _ _ _ T21 (mkF m 42 #[.val (.ref a1), .val (.ref h0.size), .val (.int (14 : Int32)), .val (.int (9 : Int32)), .val (.ref aUNSIGNED_LONG)] [])
  refine own_go (fun _ k => XS.iinc X21.here hx rfl (hb hby d2_42) rfl (l' := #[.val (.ref a1), .val (.ref h0.size), .val (.int (14 : Int32)), .val (.int (10 : Int32)), .val (.ref aUNSIGNED_LONG)]) rfl k) ?_
  show own_Goes _ _ _ _ _ _ _ T21 (mkF m 45 #[.val (.ref a1), .val (.ref h0.size), .val (.int (14 : Int32)), .val (.int (10 : Int32)), .val (.ref aUNSIGNED_LONG)] [])
  refine own_go (fun _ k => XS.goto X21.here hx rfl (pc0 := 45) (pc' := 9) rfl (hb hby d2_45) (by decide) (by decide) k) ?_
  show own_Goes _ _ _ _ _ _ _ T21 (mkF m 9 #[.val (.ref a1), .val (.ref h0.size), .val (.int (14 : Int32)), .val (.int (10 : Int32)), .val (.ref aUNSIGNED_LONG)] [])
  refine own_go (fun _ k => XS.iloadN X21.here hx rfl (hb hby d2_9) rfl k) ?_
  show own_Goes _ _ _ _ _ _ _ T21 (mkF m 10 #[.val (.ref a1), .val (.ref h0.size), .val (.int (14 : Int32)), .val (.int (10 : Int32)), .val (.ref aUNSIGNED_LONG)] [(.int (10 : Int32))])
  refine own_go (fun _ k => XS.iloadN X21.here hx rfl (hb hby d2_10) rfl k) ?_
  show own_Goes _ _ _ _ _ _ _ T21 (mkF m 11 #[.val (.ref a1), .val (.ref h0.size), .val (.int (14 : Int32)), .val (.int (10 : Int32)), .val (.ref aUNSIGNED_LONG)] [(.int (14 : Int32)), (.int (10 : Int32))])
  refine own_go (fun _ k => XS.icmpNo X21.here hx rfl (hb hby d2_11) rfl (tlt (by decide : (10 : Int32) < (14 : Int32))).2.1 k) ?_
  show own_Goes _ _ _ _ _ _ _ T21 (mkF m 14 #[.val (.ref a1), .val (.ref h0.size), .val (.int (14 : Int32)), .val (.int (10 : Int32)), .val (.ref aUNSIGNED_LONG)] [])
  refine own_go (fun _ k => XS.aloadN X21.here hx rfl (hb hby d2_14) rfl rfl k) ?_
  show own_Goes _ _ _ _ _ _ _ T21 (mkF m 15 #[.val (.ref a1), .val (.ref h0.size), .val (.int (14 : Int32)), .val (.int (10 : Int32)), .val (.ref aUNSIGNED_LONG)] [(.ref h0.size)])
  refine own_go (fun _ k => XS.iloadN X21.here hx rfl (hb hby d2_15) rfl k) ?_
  show own_Goes _ _ _ _ _ _ _ T21 (mkF m 16 #[.val (.ref a1), .val (.ref h0.size), .val (.int (14 : Int32)), .val (.int (10 : Int32)), .val (.ref aUNSIGNED_LONG)] [(.int (10 : Int32)), (.ref h0.size)])
  refine own_go (fun t k => X21.aaload hx (j := (10 : Int32)) (v := (.ref aLONG_LONG)) (by rw [e21]; exact A1.1) (State.isArrayOf_alike hZ.alike A1.2.1) rfl A1.2.2 (by show ¬ (_ ∨ clV.slots.size ≤ _); rw [hsz]; decide) el_10 (g := (mkF m 16 #[.val (.ref a1), .val (.ref h0.size), .val (.int (14 : Int32)), .val (.int (10 : Int32)), .val (.ref aUNSIGNED_LONG)] [(.int (10 : Int32)), (.ref h0.size)])) rfl rfl (hb hby d2_16) t k) ?_
  show own_Goes _ _ _ _ _ _ _ T21 (mkF m 17 #[.val (.ref a1), .val (.ref h0.size), .val (.int (14 : Int32)), .val (.int (10 : Int32)), .val (.ref aUNSIGNED_LONG)] [(.ref aLONG_LONG)])
  refine own_go (fun _ k => XS.astore X21.here hx rfl (hb hby d2_17) rfl rfl (l' := #[.val (.ref a1), .val (.ref h0.size), .val (.int (14 : Int32)), .val (.int (10 : Int32)), .val (.ref aLONG_LONG)]) rfl k) ?_
  show own_Goes _ _ _ _ _ _ _ T21 (mkF m 19 #[.val (.ref a1), .val (.ref h0.size), .val (.int (14 : Int32)), .val (.int (10 : Int32)), .val (.ref aLONG_LONG)] [])
  refine own_go (fun _ k => XS.aload X21.here hx rfl (hb hby d2_19) rfl rfl k) ?_
  show own_Goes _ _ _ _ _ _ _ T21 (mkF m 21 #[.val (.ref a1), .val (.ref h0.size), .val (.int (14 : Int32)), .val (.int (10 : Int32)), .val (.ref aLONG_LONG)] [(.ref aLONG_LONG)])
  obtain ⟨T22, X22, e22, st22⟩ := getF X21 hx hZ hown (host := "") (Or.inl (hw _ (List.mem_of_getElem? (i := 41) rfl))) Via.refl e21 (G_LONG_LONG.ext Od1.2) (g := (mkF m 21 #[.val (.ref a1), .val (.ref h0.size), .val (.int (14 : Int32)), .val (.int (10 : Int32)), .val (.ref aLONG_LONG)] [(.ref aLONG_LONG)])) rfl rfl (hb hby d2_21)
  refine own_go st22 ?_
  show own_Goes _ _ _ _ _ _ _ T22 (mkF m 24 #[.val (.ref a1), .val (.ref h0.size), .val (.int (14 : Int32)), .val (.int (10 : Int32)), .val (.ref aLONG_LONG)] [(.int (1 : Int32))])
  refine own_go (fun _ k => XS.ifYes X22.here hx rfl (pc0 := 24) (pc' := 42) rfl (hb hby d2_24) rfl ((if0 _ _).trans (feq (by decide : ¬ ((1 : Int32) = (0 : Int32)))).2) (by decide) (by decide) k) ?_
  show own_Goes _ _ _ _ _ _ _ T22 (mkF m 42 #[.val (.ref a1), .val (.ref h0.size), .val (.int (14 : Int32)), .val (.int (10 : Int32)), .val (.ref aLONG_LONG)] [])
  refine own_go (fun _ k => XS.iinc X22.here hx rfl (hb hby d2_42) rfl (l' := #[.val (.ref a1), .val (.ref h0.size), .val (.int (14 : Int32)), .val (.int (11 : Int32)), .val (.ref aLONG_LONG)]) rfl k) ?_
  show own_Goes _ _ _ _ _ _ _ T22 (mkF m 45 #[.val (.ref a1), .val (.ref h0.size), .val (.int (14 : Int32)), .val (.int (11 : Int32)), .val (.ref aLONG_LONG)] [])
  refine own_go (fun _ k => XS.goto X22.here hx rfl (pc0 := 45) (pc' := 9) rfl (hb hby d2_45) (by decide) (by decide) k) ?_
  show own_Goes _ _ _ _ _ _ _ T22 (mkF m 9 #[.val (.ref a1), .val (.ref h0.size), .val (.int (14 : Int32)), .val (.int (11 : Int32)), .val (.ref aLONG_LONG)] [])
  refine own_go (fun _ k => XS.iloadN X22.here hx rfl (hb hby d2_9) rfl k) ?_
  show own_Goes _ _ _ _ _ _ _ T22 (mkF m 10 #[.val (.ref a1), .val (.ref h0.size), .val (.int (14 : Int32)), .val (.int (11 : Int32)), .val (.ref aLONG_LONG)] [(.int (11 : Int32))])
  refine own_go (fun _ k => XS.iloadN X22.here hx rfl (hb hby d2_10) rfl k) ?_
  show own_Goes _ _ _ _ _ _ _ T22 (mkF m 11 #[.val (.ref a1), .val (.ref h0.size), .val (.int (14 : Int32)), .val (.int (11 : Int32)), .val (.ref aLONG_LONG)] [(.int (14 : Int32)), (.int (11 : Int32))])
  refine own_go (fun _ k => XS.icmpNo X22.here hx rfl (hb hby d2_11) rfl (tlt (by decide : (11 : Int32) < (14 : Int32))).2.1 k) ?_
  show own_Goes _ _ _ _ _ _ _ T22 (mkF m 14 #[.val (.ref a1), .val (.ref h0.size), .val (.int (14 : Int32)), .val (.int (11 : Int32)), .val (.ref aLONG_LONG)] [])
  refine own_go (fun _ k => XS.aloadN X22.here hx rfl (hb hby d2_14) rfl rfl k) ?_
  show own_Goes _ _ _ _ _ _ _ T22 (mkF m 15 #[.val (.ref a1), .val (.ref h0.size), .val (.int (14 : Int32)), .val (.int (11 : Int32)), .val (.ref aLONG_LONG)] [(.ref h0.size)])
  refine own_go (fun _ k => XS.iloadN X22.here hx rfl (hb hby d2_15) rfl k) ?_
  show own_Goes _ _ _ _ _ _ _ T22 (mkF m 16 #[.val (.ref a1), .val (.ref h0.size), .val (.int (14 : Int32)), .val (.int (11 : Int32)), .val (.ref aLONG_LONG)] [(.int (11 : Int32)), (.ref h0.size)])
  refine own_go (fun t k => X22.aaload hx (j := (11 : Int32)) (v := (.ref aUNSIGNED_LONG_LONG)) (by rw [e22]; exact A1.1) (State.isArrayOf_alike hZ.alike A1.2.1) rfl A1.2.2 (by show ¬ (_ ∨ clV.slots.size ≤ _); rw [hsz]; decide) el_11 (g := (mkF m 16 #[.val (.ref a1), .val (.ref h0.size), .val (.int (14 : Int32)), .val (.int (11 : Int32)), .val (.ref aLONG_LONG)] [(.int (11 : Int32)), (.ref h0.size)])) rfl rfl (hb hby d2_16) t k) ?_
  show own_Goes _ _ _ _ _ _ _ T22 (mkF m 17 #[.val (.ref a1), .val (.ref h0.size), .val (.int (14 : Int32)), .val (.int (11 : Int32)), .val (.ref aLONG_LONG)] [(.ref aUNSIGNED_LONG_LONG)])
  refine own_go (fun _ k => XS.astore X22.here hx rfl (hb hby d2_17) rfl rfl (l' := #[.val (.ref a1), .val (.ref h0.size), .val (.int (14 : Int32)), .val (.int (11 : Int32)), .val (.ref aUNSIGNED_LONG_LONG)]) rfl k) ?_
  show own_Goes _ _ _ _ _ _ _ T22 (mkF m 19 #[.val (.ref a1), .val (.ref h0.size), .val (.int (14 : Int32)), .val (.int (11 : Int32)), .val (.ref aUNSIGNED_LONG_LONG)] [])
  refine own_go (fun _ k => XS.aload X22.here hx rfl (hb hby d2_19) rfl rfl k) ?_
  show own_Goes _ _ _ _ _ _ _ T22 (mkF m 21 #[.val (.ref a1), .val (.ref h0.size), .val (.int (14 : Int32)), .val (.int (11 : Int32)), .val (.ref aUNSIGNED_LONG_LONG)] [(.ref aUNSIGNED_LONG_LONG)])
  obtain ⟨T23, X23, e23, st23⟩ := getF X22 hx hZ hown (host := "") (Or.inl (hw _ (List.mem_of_getElem? (i := 41) rfl))) Via.refl e22 (G_UNSIGNED_LONG_LONG.ext Od1.2) (g := (mkF m 21 #[.val (.ref a1), .val (.ref h0.size), .val (.int (14 : Int32)), .val (.int (11 : Int32)), .val (.ref aUNSIGNED_LONG_LONG)] [(.ref aUNSIGNED_LONG_LONG)])) rfl rfl (hb hby d2_21)
  refine own_go st23 ?_
  show own_Goes _ _ _ _ _ _ _ T23 (mkF m 24 #[.val (.ref a1), .val (.ref h0.size), .val (.int (14 : Int32)), .val (.int (11 : Int32)), .val (.ref aUNSIGNED_LONG_LONG)] [(.int (0 : Int32))])
  refine own_go (fun _ k => XS.ifNo X23.here hx rfl (hb hby d2_24) rfl ((if0 _ _).trans (teq (by decide : (0 : Int32) = (0 : Int32))).2) k) ?_
  show own_Goes _ _ _ _ _ _ _ T23 (mkF m 27 #[.val (.ref a1), .val (.ref h0.size), .val (.int (14 : Int32)), .val (.int (11 : Int32)), .val (.ref aUNSIGNED_LONG_LONG)] [])
  refine own_go (fun _ k => XS.aload X23.here hx rfl (hb hby d2_27) rfl rfl k) ?_
  show own_Goes _ _ _ _ _ _ _ T23 (mkF m 29 #[.val (.ref a1), .val (.ref h0.size), .val (.int (14 : Int32)), .val (.int (11 : Int32)), .val (.ref aUNSIGNED_LONG_LONG)] [(.ref aUNSIGNED_LONG_LONG)])
  obtain ⟨T24, X24, e24, st24⟩ := getF X23 hx hZ hown (host := "") (Or.inl (hw _ (List.mem_of_getElem? (i := 43) rfl))) Via.refl e23 (R_UNSIGNED_LONG_LONG.ext Od1.2) (g := (mkF m 29 #[.val (.ref a1), .val (.ref h0.size), .val (.int (14 : Int32)), .val (.int (11 : Int32)), .val (.ref aUNSIGNED_LONG_LONG)] [(.ref aUNSIGNED_LONG_LONG)])) rfl rfl (hb hby d2_29)
  refine own_go st24 ?_
  show own_Goes _ _ _ _ _ _ _ T24 (mkF m 32 #[.val (.ref a1), .val (.ref h0.size), .val (.int (14 : Int32)), .val (.int (11 : Int32)), .val (.ref aUNSIGNED_LONG_LONG)] [(.int (5 : Int32))])
  refine own_go (fun _ k => XS.aloadN X24.here hx rfl (hb hby d2_32) rfl rfl k) ?_
  show own_Goes _ _ _ _ _ _ _ T24 (mkF m 33 #[.val (.ref a1), .val (.ref h0.size), .val (.int (14 : Int32)), .val (.int (11 : Int32)), .val (.ref aUNSIGNED_LONG_LONG)] [(.ref a1), (.int (5 : Int32))])
  obtain ⟨T25, X25, e25, st25⟩ := getF X24 hx hZ hown (host := "") (Or.inl (hw _ (List.mem_of_getElem? (i := 43) rfl))) Via.refl e24 (R_a1.ext Od1.2) (g := (mkF m 33 #[.val (.ref a1), .val (.ref h0.size), .val (.int (14 : Int32)), .val (.int (11 : Int32)), .val (.ref aUNSIGNED_LONG_LONG)] [(.ref a1), (.int (5 : Int32))])) rfl rfl (hb hby d2_33)
  refine own_go st25 ?_
  show own_Goes _ _ _ _ _ _ _ T25 (mkF m 36 #[.val (.ref a1), .val (.ref h0.size), .val (.int (14 : Int32)), .val (.int (11 : Int32)), .val (.ref aUNSIGNED_LONG_LONG)] [(.int (6 : Int32)), (.int (5 : Int32))])
  refine own_go (fun _ k => XS.icmpYes X25.here hx rfl (pc0 := 36) (pc' := 42) rfl (hb hby d2_36) rfl (feq (by decide : ¬ ((5 : Int32) = (6 : Int32)))).2 (by decide) (by decide) k) ?_
  show own_Goes _ _ _ _ _ _ _ T25 (mkF m 42 #[.val (.ref a1), .val (.ref h0.size), .val (.int (14 : Int32)), .val (.int (11 : Int32)), .val (.ref aUNSIGNED_LONG_LONG)] [])
  refine own_go (fun _ k => XS.iinc X25.here hx rfl (hb hby d2_42) rfl (l' := #[.val (.ref a1), .val (.ref h0.size), .val (.int (14 : Int32)), .val (.int (12 : Int32)), .val (.ref aUNSIGNED_LONG_LONG)]) rfl k) ?_
  show own_Goes _ _ _ _ _ _ _ T25 (mkF m 45 #[.val (.ref a1), .val (.ref h0.size), .val (.int (14 : Int32)), .val (.int (12 : Int32)), .val (.ref aUNSIGNED_LONG_LONG)] [])
  refine own_go (fun _ k => XS.goto X25.here hx rfl (pc0 := 45) (pc' := 9) rfl (hb hby d2_45) (by decide) (by decide) k) ?_
  show own_Goes _ _ _ _ _ _ _ T25 (mkF m 9 #[.val (.ref a1), .val (.ref h0.size), .val (.int (14 : Int32)), .val (.int (12 : Int32)), .val (.ref aUNSIGNED_LONG_LONG)] [])
  refine own_go (fun _ k => XS.iloadN X25.here hx rfl (hb hby d2_9) rfl k) ?_
  show own_Goes _ _ _ _ _ _ _ T25 (mkF m 10 #[.val (.ref a1), .val (.ref h0.size), .val (.int (14 : Int32)), .val (.int (12 : Int32)), .val (.ref aUNSIGNED_LONG_LONG)] [(.int (12 : Int32))])
  refine own_go (fun _ k => XS.iloadN X25.here hx rfl (hb hby d2_10) rfl k) ?_
  show own_Goes _ _ _ _ _ _ _ T25 (mkF m 11 #[.val (.ref a1), .val (.ref h0.size), .val (.int (14 : Int32)), .val (.int (12 : Int32)), .val (.ref aUNSIGNED_LONG_LONG)] [(.int (14 : Int32)), (.int (12 : Int32))])
  refine own_go (fun _ k => XS.icmpNo X25.here hx rfl (hb hby d2_11) rfl (tlt (by decide : (12 : Int32) < (14 : Int32))).2.1 k) ?_
  show own_Goes _ _ _ _ _ _ _ T25 (mkF m 14 #[.val (.ref a1), .val (.ref h0.size), .val (.int (14 : Int32)), .val (.int (12 : Int32)), .val (.ref aUNSIGNED_LONG_LONG)] [])
  refine own_go (fun _ k => XS.aloadN X25.here hx rfl (hb hby d2_14) rfl rfl k) ?_
  show own_Goes _ _ _ _ _ _ _ T25 (mkF m 15 #[.val (.ref a1), .val (.ref h0.size), .val (.int (14 : Int32)), .val (.int (12 : Int32)), .val (.ref aUNSIGNED_LONG_LONG)] [(.ref h0.size)])
  refine own_go (fun _ k => XS.iloadN X25.here hx rfl (hb hby d2_15) rfl k) ?_
  show own_Goes _ _ _ _ _ _ _ T25 (mkF m 16 #[.val (.ref a1), .val (.ref h0.size), .val (.int (14 : Int32)), .val (.int (12 : Int32)), .val (.ref aUNSIGNED_LONG_LONG)] [(.int (12 : Int32)), (.ref h0.size)])
  refine own_go (fun t k => X25.aaload hx (j := (12 : Int32)) (v := (.ref aINT128)) (by rw [e25]; exact A1.1) (State.isArrayOf_alike hZ.alike A1.2.1) rfl A1.2.2 (by show ¬ (_ ∨ clV.slots.size ≤ _); rw [hsz]; decide) el_12 (g := (mkF m 16 #[.val (.ref a1), .val (.ref h0.size), .val (.int (14 : Int32)), .val (.int (12 : Int32)), .val (.ref aUNSIGNED_LONG_LONG)] [(.int (12 : Int32)), (.ref h0.size)])) rfl rfl (hb hby d2_16) t k) ?_
  show own_Goes _ _ _ _ _ _ _ T25 (mkF m 17 #[.val (.ref a1), .val (.ref h0.size), .val (.int (14 : Int32)), .val (.int (12 : Int32)), .val (.ref aUNSIGNED_LONG_LONG)] [(.ref aINT128)])
  refine own_go (fun _ k => XS.astore X25.here hx rfl (hb hby d2_17) rfl rfl (l' := #[.val (.ref a1), .val (.ref h0.size), .val (.int (14 : Int32)), .val (.int (12 : Int32)), .val (.ref aINT128)]) rfl k) ?_
  show own_Goes _ _ _ _ _ _ _ T25 (mkF m 19 #[.val (.ref a1), .val (.ref h0.size), .val (.int (14 : Int32)), .val (.int (12 : Int32)), .val (.ref aINT128)] [])
  refine own_go (fun _ k => XS.aload X25.here hx rfl (hb hby d2_19) rfl rfl k) ?_
  show own_Goes _ _ _ _ _ _ _ T25 (mkF m 21 #[.val (.ref a1), .val (.ref h0.size), .val (.int (14 : Int32)), .val (.int (12 : Int32)), .val (.ref aINT128)] [(.ref aINT128)])
  obtain ⟨T26, X26, e26, st26⟩ := getF X25 hx hZ hown (host := "") (Or.inl (hw _ (List.mem_of_getElem? (i := 41) rfl))) Via.refl e25 (G_INT128.ext Od1.2) (g := (mkF m 21 #[.val (.ref a1), .val (.ref h0.size), .val (.int (14 : Int32)), .val (.int (12 : Int32)), .val (.ref aINT128)] [(.ref aINT128)])) rfl rfl (hb hby d2_21)
  refine own_go st26 ?_
  show own_Goes _ _ _ _ _ _ _ T26 (mkF m 24 #[.val (.ref a1), .val (.ref h0.size), .val (.int (14 : Int32)), .val (.int (12 : Int32)), .val (.ref aINT128)] [(.int (1 : Int32))])
  refine own_go (fun _ k => XS.ifYes X26.here hx rfl (pc0 := 24) (pc' := 42) rfl (hb hby d2_24) rfl ((if0 _ _).trans (feq (by decide : ¬ ((1 : Int32) = (0 : Int32)))).2) (by decide) (by decide) k) ?_
  show own_Goes _ _ _ _ _ _ _ T26 (mkF m 42 #[.val (.ref a1), .val (.ref h0.size), .val (.int (14 : Int32)), .val (.int (12 : Int32)), .val (.ref aINT128)] [])
  refine own_go (fun _ k => XS.iinc X26.here hx rfl (hb hby d2_42) rfl (l' := #[.val (.ref a1), .val (.ref h0.size), .val (.int (14 : Int32)), .val (.int (13 : Int32)), .val (.ref aINT128)]) rfl k) ?_
  show own_Goes _ _ _ _ _ _ _ T26 (mkF m 45 #[.val (.ref a1), .val (.ref h0.size), .val (.int (14 : Int32)), .val (.int (13 : Int32)), .val (.ref aINT128)] [])
  refine own_go (fun _ k => XS.goto X26.here hx rfl (pc0 := 45) (pc' := 9) rfl (hb hby d2_45) (by decide) (by decide) k) ?_
  show own_Goes _ _ _ _ _ _ _ T26 (mkF m 9 #[.val (.ref a1), .val (.ref h0.size), .val (.int (14 : Int32)), .val (.int (13 : Int32)), .val (.ref aINT128)] [])
  refine own_go (fun _ k => XS.iloadN X26.here hx rfl (hb hby d2_9) rfl k) ?_
  show own_Goes _ _ _ _ _ _ _ T26 (mkF m 10 #[.val (.ref a1), .val (.ref h0.size), .val (.int (14 : Int32)), .val (.int (13 : Int32)), .val (.ref aINT128)] [(.int (13 : Int32))])
  refine own_go (fun _ k => XS.iloadN X26.here hx rfl (hb hby d2_10) rfl k) ?_
  show own_Goes _ _ _ _ _ _ _ T26 (mkF m 11 #[.val (.ref a1), .val (.ref h0.size), .val (.int (14 : Int32)), .val (.int (13 : Int32)), .val (.ref aINT128)] [(.int (14 : Int32)), (.int (13 : Int32))])
  refine own_go (fun _ k => XS.icmpNo X26.here hx rfl (hb hby d2_11) rfl (tlt (by decide : (13 : Int32) < (14 : Int32))).2.1 k) ?_
  show own_Goes _ _ _ _ _ _ _ T26 (mkF m 14 #[.val (.ref a1), .val (.ref h0.size), .val (.int (14 : Int32)), .val (.int (13 : Int32)), .val (.ref aINT128)] [])
  refine own_go (fun _ k => XS.aloadN X26.here hx rfl (hb hby d2_14) rfl rfl k) ?_
  show own_Goes _ _ _ _ _ _ _ T26 (mkF m 15 #[.val (.ref a1), .val (.ref h0.size), .val (.int (14 : Int32)), .val (.int (13 : Int32)), .val (.ref aINT128)] [(.ref h0.size)])
  refine own_go (fun _ k => XS.iloadN X26.here hx rfl (hb hby d2_15) rfl k) ?_
  show own_Goes _ _ _ _ _ _ _ T26 (mkF m 16 #[.val (.ref a1), .val (.ref h0.size), .val (.int (14 : Int32)), .val (.int (13 : Int32)), .val (.ref aINT128)] [(.int (13 : Int32)), (.ref h0.size)])
  refine own_go (fun t k => X26.aaload hx (j := (13 : Int32)) (v := (.ref aUNSIGNED_INT128)) (by rw [e26]; exact A1.1) (State.isArrayOf_alike hZ.alike A1.2.1) rfl A1.2.2 (by show ¬ (_ ∨ clV.slots.size ≤ _); rw [hsz]; decide) el_13 (g := (mkF m 16 #[.val (.ref a1), .val (.ref h0.size), .val (.int (14 : Int32)), .val (.int (13 : Int32)), .val (.ref aINT128)] [(.int (13 : Int32)), (.ref h0.size)])) rfl rfl (hb hby d2_16) t k) ?_
  show own_Goes _ _ _ _ _ _ _ T26 (mkF m 17 #[.val (.ref a1), .val (.ref h0.size), .val (.int (14 : Int32)), .val (.int (13 : Int32)), .val (.ref aINT128)] [(.ref aUNSIGNED_INT128)])
  refine own_go (fun _ k => XS.astore X26.here hx rfl (hb hby d2_17) rfl rfl (l' := #[.val (.ref a1), .val (.ref h0.size), .val (.int (14 : Int32)), .val (.int (13 : Int32)), .val (.ref aUNSIGNED_INT128)]) rfl k) ?_
  show own_Goes _ _ _ _ _ _ _ T26 (mkF m 19 #[.val (.ref a1), .val (.ref h0.size), .val (.int (14 : Int32)), .val (.int (13 : Int32)), .val (.ref aUNSIGNED_INT128)] [])
  refine own_go (fun _ k => XS.aload X26.here hx rfl (hb hby d2_19) rfl rfl k) ?_
  show own_Goes _ _ _ _ _ _ _ T26 (mkF m 21 #[.val (.ref a1), .val (.ref h0.size), .val (.int (14 : Int32)), .val (.int (13 : Int32)), .val (.ref aUNSIGNED_INT128)] [(.ref aUNSIGNED_INT128)])
  obtain ⟨T27, X27, e27, st27⟩ := getF X26 hx hZ hown (host := "") (Or.inl (hw _ (List.mem_of_getElem? (i := 41) rfl))) Via.refl e26 (G_UNSIGNED_INT128.ext Od1.2) (g := (mkF m 21 #[.val (.ref a1), .val (.ref h0.size), .val (.int (14 : Int32)), .val (.int (13 : Int32)), .val (.ref aUNSIGNED_INT128)] [(.ref aUNSIGNED_INT128)])) rfl rfl (hb hby d2_21)
  refine own_go st27 ?_
  show own_Goes _ _ _ _ _ _ _ T27 (mkF m 24 #[.val (.ref a1), .val (.ref h0.size), .val (.int (14 : Int32)), .val (.int (13 : Int32)), .val (.ref aUNSIGNED_INT128)] [(.int (0 : Int32))])
  refine own_go (fun _ k => XS.ifNo X27.here hx rfl (hb hby d2_24) rfl ((if0 _ _).trans (teq (by decide : (0 : Int32) = (0 : Int32))).2) k) ?_
  show own_Goes _ _ _ _ _ _ _ T27 (mkF m 27 #[.val (.ref a1), .val (.ref h0.size), .val (.int (14 : Int32)), .val (.int (13 : Int32)), .val (.ref aUNSIGNED_INT128)] [])
  refine own_go (fun _ k => XS.aload X27.here hx rfl (hb hby d2_27) rfl rfl k) ?_
  show own_Goes _ _ _ _ _ _ _ T27 (mkF m 29 #[.val (.ref a1), .val (.ref h0.size), .val (.int (14 : Int32)), .val (.int (13 : Int32)), .val (.ref aUNSIGNED_INT128)] [(.ref aUNSIGNED_INT128)])
  obtain ⟨T28, X28, e28, st28⟩ := getF X27 hx hZ hown (host := "") (Or.inl (hw _ (List.mem_of_getElem? (i := 43) rfl))) Via.refl e27 (R_UNSIGNED_INT128.ext Od1.2) (g := (mkF m 29 #[.val (.ref a1), .val (.ref h0.size), .val (.int (14 : Int32)), .val (.int (13 : Int32)), .val (.ref aUNSIGNED_INT128)] [(.ref aUNSIGNED_INT128)])) rfl rfl (hb hby d2_29)
  refine own_go st28 ?_
  show own_Goes _ _ _ _ _ _ _ T28 (mkF m 32 #[.val (.ref a1), .val (.ref h0.size), .val (.int (14 : Int32)), .val (.int (13 : Int32)), .val (.ref aUNSIGNED_INT128)] [(.int (6 : Int32))])
  refine own_go (fun _ k => XS.aloadN X28.here hx rfl (hb hby d2_32) rfl rfl k) ?_
  show own_Goes _ _ _ _ _ _ _ T28 (mkF m 33 #[.val (.ref a1), .val (.ref h0.size), .val (.int (14 : Int32)), .val (.int (13 : Int32)), .val (.ref aUNSIGNED_INT128)] [(.ref a1), (.int (6 : Int32))])
  obtain ⟨T29, X29, e29, st29⟩ := getF X28 hx hZ hown (host := "") (Or.inl (hw _ (List.mem_of_getElem? (i := 43) rfl))) Via.refl e28 (R_a1.ext Od1.2) (g := (mkF m 33 #[.val (.ref a1), .val (.ref h0.size), .val (.int (14 : Int32)), .val (.int (13 : Int32)), .val (.ref aUNSIGNED_INT128)] [(.ref a1), (.int (6 : Int32))])) rfl rfl (hb hby d2_33)
  refine own_go st29 ?_
  show own_Goes _ _ _ _ _ _ _ T29 (mkF m 36 #[.val (.ref a1), .val (.ref h0.size), .val (.int (14 : Int32)), .val (.int (13 : Int32)), .val (.ref aUNSIGNED_INT128)] [(.int (6 : Int32)), (.int (6 : Int32))])
  refine own_go (fun _ k => XS.icmpNo X29.here hx rfl (hb hby d2_36) rfl (teq (by decide : (6 : Int32) = (6 : Int32))).2 k) ?_
  show own_Goes _ _ _ _ _ _ _ T29 (mkF m 39 #[.val (.ref a1), .val (.ref h0.size), .val (.int (14 : Int32)), .val (.int (13 : Int32)), .val (.ref aUNSIGNED_INT128)] [])
  refine own_go (fun _ k => XS.aload X29.here hx rfl (hb hby d2_39) rfl rfl k) ?_
  show own_Goes _ _ _ _ _ _ _ T29 (mkF m 41 #[.val (.ref a1), .val (.ref h0.size), .val (.int (14 : Int32)), .val (.int (13 : Int32)), .val (.ref aUNSIGNED_INT128)] [(.ref aUNSIGNED_INT128)])
  exact own_retA X29 hx hlk hret rfl rfl (hb hby d2_41) (by decide) (by decide) (by rw [e29]; exact ⟨rfl, N1, E1⟩)
set_option maxRecDepth 65536 in
set_option maxHeartbeats 40000000 in
theorem seg8_0 {p : Program} {l : Launch} {e : Env} {s : State} {m : MethodId} {args : Array Value} {below : List Frame} {meth : Method} {c : Code} {s₁ : State} {locs : List Loc} {Z : State} {a0 : Array Value} {h0 : Heap} (p0 : Int32) (aV : Addr) (clV : Cell) (aBOOL aCHAR aSIGNED_CHAR aUNSIGNED_CHAR aSHORT aUNSIGNED_SHORT aINT aUNSIGNED_INT aLONG aUNSIGNED_LONG aLONG_LONG aUNSIGNED_LONG_LONG aINT128 aUNSIGNED_INT128 : Addr)
    (hw : ∀ d ∈ tables_1, d.before a0 Z = true) (C : own_Ctx Z x "com/example/treellis/treellis/cfa/IntegerTypeToUnsignedPinLaw" code maxLocals ret p s m meth c) (X0 : Stand p l e room_1 s m args below meth c s₁ locs 0 0) (e0 : s₁.heap = h0) (n0 : Nat) (Z0 : n0 ≤ h0.size) (N0 : Fr n0 locs) (SS : own_SS Z aBOOL aCHAR aSIGNED_CHAR aUNSIGNED_CHAR aSHORT aUNSIGNED_SHORT aINT aUNSIGNED_INT aLONG aUNSIGNED_LONG aLONG_LONG aUNSIGNED_LONG_LONG aINT128 aUNSIGNED_INT128) (FF : own_FF Z aBOOL aCHAR aSIGNED_CHAR aUNSIGNED_CHAR aSHORT aUNSIGNED_SHORT aINT aUNSIGNED_INT aLONG aUNSIGNED_LONG aLONG_LONG aUNSIGNED_LONG_LONG aINT128 aUNSIGNED_INT128) (VV : own_VV Z aV clV aBOOL aCHAR aSIGNED_CHAR aUNSIGNED_CHAR aSHORT aUNSIGNED_SHORT aINT aUNSIGNED_INT aLONG aUNSIGNED_LONG aLONG_LONG aUNSIGNED_LONG_LONG aINT128 aUNSIGNED_INT128) (Od0 : Old Z n0 h0) :
    own_Goes p e below s (fun v h L => v = some (.int 1) ∧ Fr n0 L) room_1.cells room_1.slots s₁ (mkF m 8 #[.val (.int p0), .val (.int (0 : Int32)), .unset, .unset] []) := by
  obtain ⟨hx, hby, hml, hown, hnm, hret, hlk, hZ⟩ := C
  have FF' := FF
  obtain ⟨⟨E_BOOL, R_BOOL, G_BOOL⟩, ⟨E_CHAR, R_CHAR, G_CHAR⟩, ⟨E_SIGNED_CHAR, R_SIGNED_CHAR, G_SIGNED_CHAR⟩, ⟨E_UNSIGNED_CHAR, R_UNSIGNED_CHAR, G_UNSIGNED_CHAR⟩, ⟨E_SHORT, R_SHORT, G_SHORT⟩, ⟨E_UNSIGNED_SHORT, R_UNSIGNED_SHORT, G_UNSIGNED_SHORT⟩, ⟨E_INT, R_INT, G_INT⟩, ⟨E_UNSIGNED_INT, R_UNSIGNED_INT, G_UNSIGNED_INT⟩, ⟨E_LONG, R_LONG, G_LONG⟩, ⟨E_UNSIGNED_LONG, R_UNSIGNED_LONG, G_UNSIGNED_LONG⟩, ⟨E_LONG_LONG, R_LONG_LONG, G_LONG_LONG⟩, ⟨E_UNSIGNED_LONG_LONG, R_UNSIGNED_LONG_LONG, G_UNSIGNED_LONG_LONG⟩, ⟨E_INT128, R_INT128, G_INT128⟩, ⟨E_UNSIGNED_INT128, R_UNSIGNED_INT128, G_UNSIGNED_INT128⟩⟩ := FF'
  refine own_go (fun _ k => XS.iloadN X0.here hx rfl (hb hby at_8) rfl k) ?_
  show own_Goes _ _ _ _ _ _ _ s₁ (mkF m 9 #[.val (.int p0), .val (.int (0 : Int32)), .unset, .unset] [(.int (0 : Int32))])
  obtain ⟨_, _, ⟨T1, L1, k1, n1⟩, -, X1, ⟨Lc1, hQ1, l1, y1, z1⟩, st1⟩ := Jvm.LawKit.callS X0 hx (y := (⟨"com/example/treellis/treellis/cfa/IntegerTypeToUnsignedPinLaw", "pick", "(I)Lcom/example/treellis/treellis/cfa/IntegerType;"⟩ : MethodName)) hown (mvT hZ (hw _ (List.mem_of_getElem? (i := 1) rfl))) (mvT hZ (hw _ (List.mem_of_getElem? (i := 2) rfl))) (mvT hZ (hw _ (List.mem_of_getElem? (i := 3) rfl))) (mvT hZ (hw _ (List.mem_of_getElem? (i := 4) rfl))) (by decide) (backOf (W := 0) (rm_pick l Z a0 hw [] (0 : Int32) aBOOL aCHAR aSIGNED_CHAR aUNSIGNED_CHAR aSHORT aUNSIGNED_SHORT aINT aUNSIGNED_INT aLONG aUNSIGNED_LONG aLONG_LONG aUNSIGNED_LONG_LONG aINT128 aUNSIGNED_INT128 h0 n0 Z0 SS Od0) hZ (hw _ (List.mem_of_getElem? (i := 4) rfl)) (hw _ (List.mem_of_getElem? (i := 3) rfl)) (by decide) (by decide)) (g := (mkF m 9 #[.val (.int p0), .val (.int (0 : Int32)), .unset, .unset] [(.int (0 : Int32))])) rfl (by rw [hml]; rfl) (argsL := [(.int (0 : Int32))]) (rest := []) (lenOf pd_1 rfl) rfl (by show 2 * 0 + _ ≤ _; exact Nat.le_of_eq rfl) (hb hby at_9) (fun _ _ => ⟨rfl, e0, (by decide : 0 + 0 ≤ _), (by decide : 0 + 0 ≤ _)⟩)
  dsimp only [Pt.U, Pt.locs, Pt.cells, Pt.slots] at X1 l1 y1 z1 st1 hQ1
  subst l1 y1 z1
  obtain ⟨rfl, N1q, e1⟩ := hQ1
  have N1 := Fr.app N0 N1q
  refine own_go st1 ?_
  show own_Goes _ _ _ _ _ _ _ T1 (mkF m 12 #[.val (.int p0), .val (.int (0 : Int32)), .unset, .unset] [(.ref aBOOL)])
  refine own_go (fun _ k => XS.astoreN X1.here hx rfl (hb hby at_12) rfl rfl (l' := #[.val (.int p0), .val (.int (0 : Int32)), .val (.ref aBOOL), .unset]) rfl k) ?_
  show own_Goes _ _ _ _ _ _ _ T1 (mkF m 13 #[.val (.int p0), .val (.int (0 : Int32)), .val (.ref aBOOL), .unset] [])
  refine own_go (fun _ k => XS.aloadN X1.here hx rfl (hb hby at_13) rfl rfl k) ?_
  show own_Goes _ _ _ _ _ _ _ T1 (mkF m 14 #[.val (.int p0), .val (.int (0 : Int32)), .val (.ref aBOOL), .unset] [(.ref aBOOL)])
  obtain ⟨cq2, kq2, zq2a, zq2b, zq2c⟩ := isOf hZ e1 (E_BOOL.ext Od0.2)
  obtain ⟨_, _, ⟨T2, L2, k2, n2⟩, -, X2, ⟨Lc2, hQ2, l2, y2, z2⟩, st2⟩ := X1.virtualBack hx (y := (⟨"com/example/treellis/treellis/cfa/IntegerType", "toUnsigned", "()Lcom/example/treellis/treellis/cfa/IntegerType;"⟩ : MethodName)) (z := (⟨"com/example/treellis/treellis/cfa/IntegerType", "toUnsigned", "()Lcom/example/treellis/treellis/cfa/IntegerType;"⟩ : MethodName)) hown (mvT hZ (hw _ (List.mem_of_getElem? (i := 8) rfl))) (mvT hZ (hw _ (List.mem_of_getElem? (i := 9) rfl))) (notFace_of_selects (args := #[]) (mvT hZ (hw _ (List.mem_of_getElem? (i := 11) rfl)))) (mvT hZ (hw _ (List.mem_of_getElem? (i := 11) rfl))) (mvT hZ (hw _ (List.mem_of_getElem? (i := 10) rfl))) (by decide) (backOf (W := 0) (rmU0 l Z a0 hw [] aBOOL aV clV aBOOL aCHAR aSIGNED_CHAR aUNSIGNED_CHAR aSHORT aUNSIGNED_SHORT aINT aUNSIGNED_INT aLONG aUNSIGNED_LONG aLONG_LONG aUNSIGNED_LONG_LONG aINT128 aUNSIGNED_INT128 h0 n0 Z0 VV FF Od0 R_BOOL) hZ (hw _ (List.mem_of_getElem? (i := 12) rfl)) (hw _ (List.mem_of_getElem? (i := 6) rfl)) (by decide) (by decide)) zq2a zq2c (g := (mkF m 14 #[.val (.int p0), .val (.int (0 : Int32)), .val (.ref aBOOL), .unset] [(.ref aBOOL)])) rfl (by rw [hml]; rfl) (Steps.refl _) (argsL := []) (rest := []) (lenOf pd_2 rfl) rfl (by show 2 * 0 + _ ≤ _; exact Nat.le_of_eq rfl) (hb hby at_14) (fun _ _ => ⟨rfl, e1, (by decide : 0 + 0 + 1 ≤ _), (by decide : 0 + 0 + 14 ≤ _)⟩)
  dsimp only [Pt.U, Pt.locs, Pt.cells, Pt.slots] at X2 l2 y2 z2 st2 hQ2
  subst l2 y2 z2
  obtain ⟨rfl, N2q, E2⟩ := hQ2
  have N2 := Fr.app N1 N2q
  refine own_goS st2 ?_
  show own_Goes _ _ _ _ _ _ _ T2 (mkF m 17 #[.val (.int p0), .val (.int (0 : Int32)), .val (.ref aBOOL), .unset] [(.ref aBOOL)])
  have Zs2 : n0 ≤ T2.heap.size := Nat.le_trans Z0 E2.1
  have Od2 : Old Z n0 T2.heap := Od0.ext E2
  refine own_go (fun _ k => XS.astoreN X2.here hx rfl (hb hby at_17) rfl rfl (l' := #[.val (.int p0), .val (.int (0 : Int32)), .val (.ref aBOOL), .val (.ref aBOOL)]) rfl k) ?_
  show own_Goes _ _ _ _ _ _ _ T2 (mkF m 18 #[.val (.int p0), .val (.int (0 : Int32)), .val (.ref aBOOL), .val (.ref aBOOL)] [])
  refine own_go (fun _ k => XS.aloadN X2.here hx rfl (hb hby at_18) rfl rfl k) ?_
  show own_Goes _ _ _ _ _ _ _ T2 (mkF m 19 #[.val (.int p0), .val (.int (0 : Int32)), .val (.ref aBOOL), .val (.ref aBOOL)] [(.ref aBOOL)])
  refine own_go (fun _ k => XS.iloadN X2.here hx rfl (hb hby at_19) rfl k) ?_
  show own_Goes _ _ _ _ _ _ _ T2 (mkF m 20 #[.val (.int p0), .val (.int (0 : Int32)), .val (.ref aBOOL), .val (.ref aBOOL)] [(.int (0 : Int32)), (.ref aBOOL)])
  obtain ⟨_, _, ⟨T3, L3, k3, n3⟩, -, X3, ⟨Lc3, hQ3, l3, y3, z3⟩, st3⟩ := Jvm.LawKit.callS X2 hx (y := (⟨"com/example/treellis/treellis/cfa/IntegerTypeToUnsignedPinLaw", "expected", "(I)Lcom/example/treellis/treellis/cfa/IntegerType;"⟩ : MethodName)) hown (mvT hZ (hw _ (List.mem_of_getElem? (i := 45) rfl))) (mvT hZ (hw _ (List.mem_of_getElem? (i := 46) rfl))) (mvT hZ (hw _ (List.mem_of_getElem? (i := 3) rfl))) (mvT hZ (hw _ (List.mem_of_getElem? (i := 47) rfl))) (by decide) (backOf (W := 1) (rm_expected l Z a0 hw [] (0 : Int32) aBOOL aCHAR aSIGNED_CHAR aUNSIGNED_CHAR aSHORT aUNSIGNED_SHORT aINT aUNSIGNED_INT aLONG aUNSIGNED_LONG aLONG_LONG aUNSIGNED_LONG_LONG aINT128 aUNSIGNED_INT128 T2.heap n0 Zs2 SS Od2) hZ (hw _ (List.mem_of_getElem? (i := 47) rfl)) (hw _ (List.mem_of_getElem? (i := 3) rfl)) (by decide) (by decide)) (g := (mkF m 20 #[.val (.int p0), .val (.int (0 : Int32)), .val (.ref aBOOL), .val (.ref aBOOL)] [(.int (0 : Int32)), (.ref aBOOL)])) rfl (by rw [hml]; rfl) (argsL := [(.int (0 : Int32))]) (rest := [(.ref aBOOL)]) (lenOf pd_1 rfl) rfl (by show 2 * 0 + _ ≤ _; exact Nat.le_of_eq rfl) (hb hby at_20) (fun _ _ => ⟨rfl, rfl, (by decide : 0 + 0 + 1 + 0 ≤ _), (by decide : 0 + 0 + 14 + 0 ≤ _)⟩)
  dsimp only [Pt.U, Pt.locs, Pt.cells, Pt.slots] at X3 l3 y3 z3 st3 hQ3
  subst l3 y3 z3
  obtain ⟨rfl, N3q, e3⟩ := hQ3
  have N3 := Fr.app N2 N3q
  refine own_go st3 ?_
  show own_Goes _ _ _ _ _ _ _ T3 (mkF m 23 #[.val (.int p0), .val (.int (0 : Int32)), .val (.ref aBOOL), .val (.ref aBOOL)] [(.ref aBOOL), (.ref aBOOL)])
  refine own_go (fun _ k => Jvm.RoadKit.acmp (g := (mkF m 23 #[.val (.int p0), .val (.int (0 : Int32)), .val (.ref aBOOL), .val (.ref aBOOL)] [(.ref aBOOL), (.ref aBOOL)])) X3 hx rfl rfl rfl (pc0 := 23) (pc' := 28) (same := true) rfl (hb hby at_23) rfl (decide_eq_true rfl) (by decide) (by decide) k) ?_
  show own_Goes _ _ _ _ _ _ _ T3 (mkF m 28 #[.val (.int p0), .val (.int (0 : Int32)), .val (.ref aBOOL), .val (.ref aBOOL)] [])
  refine own_go (fun _ k => XS.aloadN X3.here hx rfl (hb hby at_28) rfl rfl k) ?_
  show own_Goes _ _ _ _ _ _ _ T3 (mkF m 29 #[.val (.int p0), .val (.int (0 : Int32)), .val (.ref aBOOL), .val (.ref aBOOL)] [(.ref aBOOL)])
  obtain ⟨cq4, kq4, zq4a, zq4b, zq4c⟩ := isOf hZ e3 (E_BOOL.ext Od2.2)
  obtain ⟨_, _, ⟨T4, L4, k4, n4⟩, -, X4, ⟨Lc4, hQ4, l4, y4, z4⟩, st4⟩ := X3.virtualBack hx (y := (⟨"com/example/treellis/treellis/cfa/IntegerType", "toUnsigned", "()Lcom/example/treellis/treellis/cfa/IntegerType;"⟩ : MethodName)) (z := (⟨"com/example/treellis/treellis/cfa/IntegerType", "toUnsigned", "()Lcom/example/treellis/treellis/cfa/IntegerType;"⟩ : MethodName)) hown (mvT hZ (hw _ (List.mem_of_getElem? (i := 8) rfl))) (mvT hZ (hw _ (List.mem_of_getElem? (i := 9) rfl))) (notFace_of_selects (args := #[]) (mvT hZ (hw _ (List.mem_of_getElem? (i := 11) rfl)))) (mvT hZ (hw _ (List.mem_of_getElem? (i := 11) rfl))) (mvT hZ (hw _ (List.mem_of_getElem? (i := 10) rfl))) (by decide) (backOf (W := 0) (rmU0 l Z a0 hw [] aBOOL aV clV aBOOL aCHAR aSIGNED_CHAR aUNSIGNED_CHAR aSHORT aUNSIGNED_SHORT aINT aUNSIGNED_INT aLONG aUNSIGNED_LONG aLONG_LONG aUNSIGNED_LONG_LONG aINT128 aUNSIGNED_INT128 T2.heap n0 Zs2 VV FF Od2 R_BOOL) hZ (hw _ (List.mem_of_getElem? (i := 12) rfl)) (hw _ (List.mem_of_getElem? (i := 6) rfl)) (by decide) (by decide)) zq4a zq4c (g := (mkF m 29 #[.val (.int p0), .val (.int (0 : Int32)), .val (.ref aBOOL), .val (.ref aBOOL)] [(.ref aBOOL)])) rfl (by rw [hml]; rfl) (Steps.refl _) (argsL := []) (rest := []) (lenOf pd_2 rfl) rfl (by show 2 * 0 + _ ≤ _; exact Nat.le_of_eq rfl) (hb hby at_29) (fun _ _ => ⟨rfl, e3, (by decide : 0 + 0 + 1 + 0 + 1 ≤ _), (by decide : 0 + 0 + 14 + 0 + 14 ≤ _)⟩)
  dsimp only [Pt.U, Pt.locs, Pt.cells, Pt.slots] at X4 l4 y4 z4 st4 hQ4
  subst l4 y4 z4
  obtain ⟨rfl, N4q, E4⟩ := hQ4
  have N4 := Fr.app N3 N4q
  refine own_goS st4 ?_
  show own_Goes _ _ _ _ _ _ _ T4 (mkF m 32 #[.val (.int p0), .val (.int (0 : Int32)), .val (.ref aBOOL), .val (.ref aBOOL)] [(.ref aBOOL)])
  have Zs4 : n0 ≤ T4.heap.size := Nat.le_trans Zs2 E4.1
  have Od4 : Old Z n0 T4.heap := Od2.ext E4
  refine own_go (fun _ k => XS.aloadN X4.here hx rfl (hb hby at_32) rfl rfl k) ?_
  show own_Goes _ _ _ _ _ _ _ T4 (mkF m 33 #[.val (.int p0), .val (.int (0 : Int32)), .val (.ref aBOOL), .val (.ref aBOOL)] [(.ref aBOOL), (.ref aBOOL)])
  refine own_go (fun _ k => Jvm.RoadKit.acmp (g := (mkF m 33 #[.val (.int p0), .val (.int (0 : Int32)), .val (.ref aBOOL), .val (.ref aBOOL)] [(.ref aBOOL), (.ref aBOOL)])) X4 hx rfl rfl rfl (pc0 := 33) (pc' := 36) (same := true) rfl (hb hby at_33) rfl (decide_eq_true rfl) (by decide) (by decide) k) ?_
  show own_Goes _ _ _ _ _ _ _ T4 (mkF m 36 #[.val (.int p0), .val (.int (0 : Int32)), .val (.ref aBOOL), .val (.ref aBOOL)] [])
  refine own_go (fun _ k => XS.iconst X4.here hx rfl (hb hby at_36) k) ?_
  show own_Goes _ _ _ _ _ _ _ T4 (mkF m 37 #[.val (.int p0), .val (.int (0 : Int32)), .val (.ref aBOOL), .val (.ref aBOOL)] [(.int (1 : Int32))])
  refine own_go (fun _ k => XS.goto X4.here hx rfl (pc0 := 37) (pc' := 41) rfl (hb hby at_37) (by decide) (by decide) k) ?_
  show own_Goes _ _ _ _ _ _ _ T4 (mkF m 41 #[.val (.int p0), .val (.int (0 : Int32)), .val (.ref aBOOL), .val (.ref aBOOL)] [(.int (1 : Int32))])
  exact own_retN X4 hx (t := .boolean) hlk hret (by simp) (hb hby at_41) (by decide) (by decide) ⟨rfl, N4⟩
set_option maxRecDepth 65536 in
set_option maxHeartbeats 40000000 in
theorem seg8_1 {p : Program} {l : Launch} {e : Env} {s : State} {m : MethodId} {args : Array Value} {below : List Frame} {meth : Method} {c : Code} {s₁ : State} {locs : List Loc} {Z : State} {a0 : Array Value} {h0 : Heap} (p0 : Int32) (aV : Addr) (clV : Cell) (aBOOL aCHAR aSIGNED_CHAR aUNSIGNED_CHAR aSHORT aUNSIGNED_SHORT aINT aUNSIGNED_INT aLONG aUNSIGNED_LONG aLONG_LONG aUNSIGNED_LONG_LONG aINT128 aUNSIGNED_INT128 : Addr)
    (hw : ∀ d ∈ tables_1, d.before a0 Z = true) (C : own_Ctx Z x "com/example/treellis/treellis/cfa/IntegerTypeToUnsignedPinLaw" code maxLocals ret p s m meth c) (X0 : Stand p l e room_1 s m args below meth c s₁ locs 0 0) (e0 : s₁.heap = h0) (n0 : Nat) (Z0 : n0 ≤ h0.size) (N0 : Fr n0 locs) (SS : own_SS Z aBOOL aCHAR aSIGNED_CHAR aUNSIGNED_CHAR aSHORT aUNSIGNED_SHORT aINT aUNSIGNED_INT aLONG aUNSIGNED_LONG aLONG_LONG aUNSIGNED_LONG_LONG aINT128 aUNSIGNED_INT128) (FF : own_FF Z aBOOL aCHAR aSIGNED_CHAR aUNSIGNED_CHAR aSHORT aUNSIGNED_SHORT aINT aUNSIGNED_INT aLONG aUNSIGNED_LONG aLONG_LONG aUNSIGNED_LONG_LONG aINT128 aUNSIGNED_INT128) (VV : own_VV Z aV clV aBOOL aCHAR aSIGNED_CHAR aUNSIGNED_CHAR aSHORT aUNSIGNED_SHORT aINT aUNSIGNED_INT aLONG aUNSIGNED_LONG aLONG_LONG aUNSIGNED_LONG_LONG aINT128 aUNSIGNED_INT128) (Od0 : Old Z n0 h0) :
    own_Goes p e below s (fun v h L => v = some (.int 1) ∧ Fr n0 L) room_1.cells room_1.slots s₁ (mkF m 8 #[.val (.int p0), .val (.int (1 : Int32)), .unset, .unset] []) := by
  obtain ⟨hx, hby, hml, hown, hnm, hret, hlk, hZ⟩ := C
  have FF' := FF
  obtain ⟨⟨E_BOOL, R_BOOL, G_BOOL⟩, ⟨E_CHAR, R_CHAR, G_CHAR⟩, ⟨E_SIGNED_CHAR, R_SIGNED_CHAR, G_SIGNED_CHAR⟩, ⟨E_UNSIGNED_CHAR, R_UNSIGNED_CHAR, G_UNSIGNED_CHAR⟩, ⟨E_SHORT, R_SHORT, G_SHORT⟩, ⟨E_UNSIGNED_SHORT, R_UNSIGNED_SHORT, G_UNSIGNED_SHORT⟩, ⟨E_INT, R_INT, G_INT⟩, ⟨E_UNSIGNED_INT, R_UNSIGNED_INT, G_UNSIGNED_INT⟩, ⟨E_LONG, R_LONG, G_LONG⟩, ⟨E_UNSIGNED_LONG, R_UNSIGNED_LONG, G_UNSIGNED_LONG⟩, ⟨E_LONG_LONG, R_LONG_LONG, G_LONG_LONG⟩, ⟨E_UNSIGNED_LONG_LONG, R_UNSIGNED_LONG_LONG, G_UNSIGNED_LONG_LONG⟩, ⟨E_INT128, R_INT128, G_INT128⟩, ⟨E_UNSIGNED_INT128, R_UNSIGNED_INT128, G_UNSIGNED_INT128⟩⟩ := FF'
  refine own_go (fun _ k => XS.iloadN X0.here hx rfl (hb hby at_8) rfl k) ?_
  show own_Goes _ _ _ _ _ _ _ s₁ (mkF m 9 #[.val (.int p0), .val (.int (1 : Int32)), .unset, .unset] [(.int (1 : Int32))])
  obtain ⟨_, _, ⟨T1, L1, k1, n1⟩, -, X1, ⟨Lc1, hQ1, l1, y1, z1⟩, st1⟩ := Jvm.LawKit.callS X0 hx (y := (⟨"com/example/treellis/treellis/cfa/IntegerTypeToUnsignedPinLaw", "pick", "(I)Lcom/example/treellis/treellis/cfa/IntegerType;"⟩ : MethodName)) hown (mvT hZ (hw _ (List.mem_of_getElem? (i := 1) rfl))) (mvT hZ (hw _ (List.mem_of_getElem? (i := 2) rfl))) (mvT hZ (hw _ (List.mem_of_getElem? (i := 3) rfl))) (mvT hZ (hw _ (List.mem_of_getElem? (i := 4) rfl))) (by decide) (backOf (W := 0) (rm_pick l Z a0 hw [] (1 : Int32) aBOOL aCHAR aSIGNED_CHAR aUNSIGNED_CHAR aSHORT aUNSIGNED_SHORT aINT aUNSIGNED_INT aLONG aUNSIGNED_LONG aLONG_LONG aUNSIGNED_LONG_LONG aINT128 aUNSIGNED_INT128 h0 n0 Z0 SS Od0) hZ (hw _ (List.mem_of_getElem? (i := 4) rfl)) (hw _ (List.mem_of_getElem? (i := 3) rfl)) (by decide) (by decide)) (g := (mkF m 9 #[.val (.int p0), .val (.int (1 : Int32)), .unset, .unset] [(.int (1 : Int32))])) rfl (by rw [hml]; rfl) (argsL := [(.int (1 : Int32))]) (rest := []) (lenOf pd_1 rfl) rfl (by show 2 * 0 + _ ≤ _; exact Nat.le_of_eq rfl) (hb hby at_9) (fun _ _ => ⟨rfl, e0, (by decide : 0 + 0 ≤ _), (by decide : 0 + 0 ≤ _)⟩)
  dsimp only [Pt.U, Pt.locs, Pt.cells, Pt.slots] at X1 l1 y1 z1 st1 hQ1
  subst l1 y1 z1
  obtain ⟨rfl, N1q, e1⟩ := hQ1
  have N1 := Fr.app N0 N1q
  refine own_go st1 ?_
  show own_Goes _ _ _ _ _ _ _ T1 (mkF m 12 #[.val (.int p0), .val (.int (1 : Int32)), .unset, .unset] [(.ref aCHAR)])
  refine own_go (fun _ k => XS.astoreN X1.here hx rfl (hb hby at_12) rfl rfl (l' := #[.val (.int p0), .val (.int (1 : Int32)), .val (.ref aCHAR), .unset]) rfl k) ?_
  show own_Goes _ _ _ _ _ _ _ T1 (mkF m 13 #[.val (.int p0), .val (.int (1 : Int32)), .val (.ref aCHAR), .unset] [])
  refine own_go (fun _ k => XS.aloadN X1.here hx rfl (hb hby at_13) rfl rfl k) ?_
  show own_Goes _ _ _ _ _ _ _ T1 (mkF m 14 #[.val (.int p0), .val (.int (1 : Int32)), .val (.ref aCHAR), .unset] [(.ref aCHAR)])
  obtain ⟨cq2, kq2, zq2a, zq2b, zq2c⟩ := isOf hZ e1 (E_CHAR.ext Od0.2)
  obtain ⟨_, _, ⟨T2, L2, k2, n2⟩, -, X2, ⟨Lc2, hQ2, l2, y2, z2⟩, st2⟩ := X1.virtualBack hx (y := (⟨"com/example/treellis/treellis/cfa/IntegerType", "toUnsigned", "()Lcom/example/treellis/treellis/cfa/IntegerType;"⟩ : MethodName)) (z := (⟨"com/example/treellis/treellis/cfa/IntegerType", "toUnsigned", "()Lcom/example/treellis/treellis/cfa/IntegerType;"⟩ : MethodName)) hown (mvT hZ (hw _ (List.mem_of_getElem? (i := 8) rfl))) (mvT hZ (hw _ (List.mem_of_getElem? (i := 9) rfl))) (notFace_of_selects (args := #[]) (mvT hZ (hw _ (List.mem_of_getElem? (i := 11) rfl)))) (mvT hZ (hw _ (List.mem_of_getElem? (i := 11) rfl))) (mvT hZ (hw _ (List.mem_of_getElem? (i := 10) rfl))) (by decide) (backOf (W := 0) (rmU1 l Z a0 hw [] aCHAR aV clV aBOOL aCHAR aSIGNED_CHAR aUNSIGNED_CHAR aSHORT aUNSIGNED_SHORT aINT aUNSIGNED_INT aLONG aUNSIGNED_LONG aLONG_LONG aUNSIGNED_LONG_LONG aINT128 aUNSIGNED_INT128 h0 n0 Z0 VV FF Od0 R_CHAR) hZ (hw _ (List.mem_of_getElem? (i := 12) rfl)) (hw _ (List.mem_of_getElem? (i := 6) rfl)) (by decide) (by decide)) zq2a zq2c (g := (mkF m 14 #[.val (.int p0), .val (.int (1 : Int32)), .val (.ref aCHAR), .unset] [(.ref aCHAR)])) rfl (by rw [hml]; rfl) (Steps.refl _) (argsL := []) (rest := []) (lenOf pd_2 rfl) rfl (by show 2 * 0 + _ ≤ _; exact Nat.le_of_eq rfl) (hb hby at_14) (fun _ _ => ⟨rfl, e1, (by decide : 0 + 0 + 1 ≤ _), (by decide : 0 + 0 + 14 ≤ _)⟩)
  dsimp only [Pt.U, Pt.locs, Pt.cells, Pt.slots] at X2 l2 y2 z2 st2 hQ2
  subst l2 y2 z2
  obtain ⟨rfl, N2q, E2⟩ := hQ2
  have N2 := Fr.app N1 N2q
  refine own_goS st2 ?_
  show own_Goes _ _ _ _ _ _ _ T2 (mkF m 17 #[.val (.int p0), .val (.int (1 : Int32)), .val (.ref aCHAR), .unset] [(.ref aUNSIGNED_CHAR)])
  have Zs2 : n0 ≤ T2.heap.size := Nat.le_trans Z0 E2.1
  have Od2 : Old Z n0 T2.heap := Od0.ext E2
  refine own_go (fun _ k => XS.astoreN X2.here hx rfl (hb hby at_17) rfl rfl (l' := #[.val (.int p0), .val (.int (1 : Int32)), .val (.ref aCHAR), .val (.ref aUNSIGNED_CHAR)]) rfl k) ?_
  show own_Goes _ _ _ _ _ _ _ T2 (mkF m 18 #[.val (.int p0), .val (.int (1 : Int32)), .val (.ref aCHAR), .val (.ref aUNSIGNED_CHAR)] [])
  refine own_go (fun _ k => XS.aloadN X2.here hx rfl (hb hby at_18) rfl rfl k) ?_
  show own_Goes _ _ _ _ _ _ _ T2 (mkF m 19 #[.val (.int p0), .val (.int (1 : Int32)), .val (.ref aCHAR), .val (.ref aUNSIGNED_CHAR)] [(.ref aUNSIGNED_CHAR)])
  refine own_go (fun _ k => XS.iloadN X2.here hx rfl (hb hby at_19) rfl k) ?_
  show own_Goes _ _ _ _ _ _ _ T2 (mkF m 20 #[.val (.int p0), .val (.int (1 : Int32)), .val (.ref aCHAR), .val (.ref aUNSIGNED_CHAR)] [(.int (1 : Int32)), (.ref aUNSIGNED_CHAR)])
  obtain ⟨_, _, ⟨T3, L3, k3, n3⟩, -, X3, ⟨Lc3, hQ3, l3, y3, z3⟩, st3⟩ := Jvm.LawKit.callS X2 hx (y := (⟨"com/example/treellis/treellis/cfa/IntegerTypeToUnsignedPinLaw", "expected", "(I)Lcom/example/treellis/treellis/cfa/IntegerType;"⟩ : MethodName)) hown (mvT hZ (hw _ (List.mem_of_getElem? (i := 45) rfl))) (mvT hZ (hw _ (List.mem_of_getElem? (i := 46) rfl))) (mvT hZ (hw _ (List.mem_of_getElem? (i := 3) rfl))) (mvT hZ (hw _ (List.mem_of_getElem? (i := 47) rfl))) (by decide) (backOf (W := 1) (rm_expected l Z a0 hw [] (1 : Int32) aBOOL aCHAR aSIGNED_CHAR aUNSIGNED_CHAR aSHORT aUNSIGNED_SHORT aINT aUNSIGNED_INT aLONG aUNSIGNED_LONG aLONG_LONG aUNSIGNED_LONG_LONG aINT128 aUNSIGNED_INT128 T2.heap n0 Zs2 SS Od2) hZ (hw _ (List.mem_of_getElem? (i := 47) rfl)) (hw _ (List.mem_of_getElem? (i := 3) rfl)) (by decide) (by decide)) (g := (mkF m 20 #[.val (.int p0), .val (.int (1 : Int32)), .val (.ref aCHAR), .val (.ref aUNSIGNED_CHAR)] [(.int (1 : Int32)), (.ref aUNSIGNED_CHAR)])) rfl (by rw [hml]; rfl) (argsL := [(.int (1 : Int32))]) (rest := [(.ref aUNSIGNED_CHAR)]) (lenOf pd_1 rfl) rfl (by show 2 * 0 + _ ≤ _; exact Nat.le_of_eq rfl) (hb hby at_20) (fun _ _ => ⟨rfl, rfl, (by decide : 0 + 0 + 1 + 0 ≤ _), (by decide : 0 + 0 + 14 + 0 ≤ _)⟩)
  dsimp only [Pt.U, Pt.locs, Pt.cells, Pt.slots] at X3 l3 y3 z3 st3 hQ3
  subst l3 y3 z3
  obtain ⟨rfl, N3q, e3⟩ := hQ3
  have N3 := Fr.app N2 N3q
  refine own_go st3 ?_
  show own_Goes _ _ _ _ _ _ _ T3 (mkF m 23 #[.val (.int p0), .val (.int (1 : Int32)), .val (.ref aCHAR), .val (.ref aUNSIGNED_CHAR)] [(.ref aUNSIGNED_CHAR), (.ref aUNSIGNED_CHAR)])
  refine own_go (fun _ k => Jvm.RoadKit.acmp (g := (mkF m 23 #[.val (.int p0), .val (.int (1 : Int32)), .val (.ref aCHAR), .val (.ref aUNSIGNED_CHAR)] [(.ref aUNSIGNED_CHAR), (.ref aUNSIGNED_CHAR)])) X3 hx rfl rfl rfl (pc0 := 23) (pc' := 28) (same := true) rfl (hb hby at_23) rfl (decide_eq_true rfl) (by decide) (by decide) k) ?_
  show own_Goes _ _ _ _ _ _ _ T3 (mkF m 28 #[.val (.int p0), .val (.int (1 : Int32)), .val (.ref aCHAR), .val (.ref aUNSIGNED_CHAR)] [])
  refine own_go (fun _ k => XS.aloadN X3.here hx rfl (hb hby at_28) rfl rfl k) ?_
  show own_Goes _ _ _ _ _ _ _ T3 (mkF m 29 #[.val (.int p0), .val (.int (1 : Int32)), .val (.ref aCHAR), .val (.ref aUNSIGNED_CHAR)] [(.ref aUNSIGNED_CHAR)])
  obtain ⟨cq4, kq4, zq4a, zq4b, zq4c⟩ := isOf hZ e3 (E_UNSIGNED_CHAR.ext Od2.2)
  obtain ⟨_, _, ⟨T4, L4, k4, n4⟩, -, X4, ⟨Lc4, hQ4, l4, y4, z4⟩, st4⟩ := X3.virtualBack hx (y := (⟨"com/example/treellis/treellis/cfa/IntegerType", "toUnsigned", "()Lcom/example/treellis/treellis/cfa/IntegerType;"⟩ : MethodName)) (z := (⟨"com/example/treellis/treellis/cfa/IntegerType", "toUnsigned", "()Lcom/example/treellis/treellis/cfa/IntegerType;"⟩ : MethodName)) hown (mvT hZ (hw _ (List.mem_of_getElem? (i := 8) rfl))) (mvT hZ (hw _ (List.mem_of_getElem? (i := 9) rfl))) (notFace_of_selects (args := #[]) (mvT hZ (hw _ (List.mem_of_getElem? (i := 11) rfl)))) (mvT hZ (hw _ (List.mem_of_getElem? (i := 11) rfl))) (mvT hZ (hw _ (List.mem_of_getElem? (i := 10) rfl))) (by decide) (backOf (W := 0) (rmU1 l Z a0 hw [] aUNSIGNED_CHAR aV clV aBOOL aCHAR aSIGNED_CHAR aUNSIGNED_CHAR aSHORT aUNSIGNED_SHORT aINT aUNSIGNED_INT aLONG aUNSIGNED_LONG aLONG_LONG aUNSIGNED_LONG_LONG aINT128 aUNSIGNED_INT128 T2.heap n0 Zs2 VV FF Od2 R_UNSIGNED_CHAR) hZ (hw _ (List.mem_of_getElem? (i := 12) rfl)) (hw _ (List.mem_of_getElem? (i := 6) rfl)) (by decide) (by decide)) zq4a zq4c (g := (mkF m 29 #[.val (.int p0), .val (.int (1 : Int32)), .val (.ref aCHAR), .val (.ref aUNSIGNED_CHAR)] [(.ref aUNSIGNED_CHAR)])) rfl (by rw [hml]; rfl) (Steps.refl _) (argsL := []) (rest := []) (lenOf pd_2 rfl) rfl (by show 2 * 0 + _ ≤ _; exact Nat.le_of_eq rfl) (hb hby at_29) (fun _ _ => ⟨rfl, e3, (by decide : 0 + 0 + 1 + 0 + 1 ≤ _), (by decide : 0 + 0 + 14 + 0 + 14 ≤ _)⟩)
  dsimp only [Pt.U, Pt.locs, Pt.cells, Pt.slots] at X4 l4 y4 z4 st4 hQ4
  subst l4 y4 z4
  obtain ⟨rfl, N4q, E4⟩ := hQ4
  have N4 := Fr.app N3 N4q
  refine own_goS st4 ?_
  show own_Goes _ _ _ _ _ _ _ T4 (mkF m 32 #[.val (.int p0), .val (.int (1 : Int32)), .val (.ref aCHAR), .val (.ref aUNSIGNED_CHAR)] [(.ref aUNSIGNED_CHAR)])
  have Zs4 : n0 ≤ T4.heap.size := Nat.le_trans Zs2 E4.1
  have Od4 : Old Z n0 T4.heap := Od2.ext E4
  refine own_go (fun _ k => XS.aloadN X4.here hx rfl (hb hby at_32) rfl rfl k) ?_
  show own_Goes _ _ _ _ _ _ _ T4 (mkF m 33 #[.val (.int p0), .val (.int (1 : Int32)), .val (.ref aCHAR), .val (.ref aUNSIGNED_CHAR)] [(.ref aUNSIGNED_CHAR), (.ref aUNSIGNED_CHAR)])
  refine own_go (fun _ k => Jvm.RoadKit.acmp (g := (mkF m 33 #[.val (.int p0), .val (.int (1 : Int32)), .val (.ref aCHAR), .val (.ref aUNSIGNED_CHAR)] [(.ref aUNSIGNED_CHAR), (.ref aUNSIGNED_CHAR)])) X4 hx rfl rfl rfl (pc0 := 33) (pc' := 36) (same := true) rfl (hb hby at_33) rfl (decide_eq_true rfl) (by decide) (by decide) k) ?_
  show own_Goes _ _ _ _ _ _ _ T4 (mkF m 36 #[.val (.int p0), .val (.int (1 : Int32)), .val (.ref aCHAR), .val (.ref aUNSIGNED_CHAR)] [])
  refine own_go (fun _ k => XS.iconst X4.here hx rfl (hb hby at_36) k) ?_
  show own_Goes _ _ _ _ _ _ _ T4 (mkF m 37 #[.val (.int p0), .val (.int (1 : Int32)), .val (.ref aCHAR), .val (.ref aUNSIGNED_CHAR)] [(.int (1 : Int32))])
  refine own_go (fun _ k => XS.goto X4.here hx rfl (pc0 := 37) (pc' := 41) rfl (hb hby at_37) (by decide) (by decide) k) ?_
  show own_Goes _ _ _ _ _ _ _ T4 (mkF m 41 #[.val (.int p0), .val (.int (1 : Int32)), .val (.ref aCHAR), .val (.ref aUNSIGNED_CHAR)] [(.int (1 : Int32))])
  exact own_retN X4 hx (t := .boolean) hlk hret (by simp) (hb hby at_41) (by decide) (by decide) ⟨rfl, N4⟩
set_option maxRecDepth 65536 in
set_option maxHeartbeats 40000000 in
theorem seg8_2 {p : Program} {l : Launch} {e : Env} {s : State} {m : MethodId} {args : Array Value} {below : List Frame} {meth : Method} {c : Code} {s₁ : State} {locs : List Loc} {Z : State} {a0 : Array Value} {h0 : Heap} (p0 : Int32) (aV : Addr) (clV : Cell) (aBOOL aCHAR aSIGNED_CHAR aUNSIGNED_CHAR aSHORT aUNSIGNED_SHORT aINT aUNSIGNED_INT aLONG aUNSIGNED_LONG aLONG_LONG aUNSIGNED_LONG_LONG aINT128 aUNSIGNED_INT128 : Addr)
    (hw : ∀ d ∈ tables_1, d.before a0 Z = true) (C : own_Ctx Z x "com/example/treellis/treellis/cfa/IntegerTypeToUnsignedPinLaw" code maxLocals ret p s m meth c) (X0 : Stand p l e room_1 s m args below meth c s₁ locs 0 0) (e0 : s₁.heap = h0) (n0 : Nat) (Z0 : n0 ≤ h0.size) (N0 : Fr n0 locs) (SS : own_SS Z aBOOL aCHAR aSIGNED_CHAR aUNSIGNED_CHAR aSHORT aUNSIGNED_SHORT aINT aUNSIGNED_INT aLONG aUNSIGNED_LONG aLONG_LONG aUNSIGNED_LONG_LONG aINT128 aUNSIGNED_INT128) (FF : own_FF Z aBOOL aCHAR aSIGNED_CHAR aUNSIGNED_CHAR aSHORT aUNSIGNED_SHORT aINT aUNSIGNED_INT aLONG aUNSIGNED_LONG aLONG_LONG aUNSIGNED_LONG_LONG aINT128 aUNSIGNED_INT128) (VV : own_VV Z aV clV aBOOL aCHAR aSIGNED_CHAR aUNSIGNED_CHAR aSHORT aUNSIGNED_SHORT aINT aUNSIGNED_INT aLONG aUNSIGNED_LONG aLONG_LONG aUNSIGNED_LONG_LONG aINT128 aUNSIGNED_INT128) (Od0 : Old Z n0 h0) :
    own_Goes p e below s (fun v h L => v = some (.int 1) ∧ Fr n0 L) room_1.cells room_1.slots s₁ (mkF m 8 #[.val (.int p0), .val (.int (2 : Int32)), .unset, .unset] []) := by
  obtain ⟨hx, hby, hml, hown, hnm, hret, hlk, hZ⟩ := C
  have FF' := FF
  obtain ⟨⟨E_BOOL, R_BOOL, G_BOOL⟩, ⟨E_CHAR, R_CHAR, G_CHAR⟩, ⟨E_SIGNED_CHAR, R_SIGNED_CHAR, G_SIGNED_CHAR⟩, ⟨E_UNSIGNED_CHAR, R_UNSIGNED_CHAR, G_UNSIGNED_CHAR⟩, ⟨E_SHORT, R_SHORT, G_SHORT⟩, ⟨E_UNSIGNED_SHORT, R_UNSIGNED_SHORT, G_UNSIGNED_SHORT⟩, ⟨E_INT, R_INT, G_INT⟩, ⟨E_UNSIGNED_INT, R_UNSIGNED_INT, G_UNSIGNED_INT⟩, ⟨E_LONG, R_LONG, G_LONG⟩, ⟨E_UNSIGNED_LONG, R_UNSIGNED_LONG, G_UNSIGNED_LONG⟩, ⟨E_LONG_LONG, R_LONG_LONG, G_LONG_LONG⟩, ⟨E_UNSIGNED_LONG_LONG, R_UNSIGNED_LONG_LONG, G_UNSIGNED_LONG_LONG⟩, ⟨E_INT128, R_INT128, G_INT128⟩, ⟨E_UNSIGNED_INT128, R_UNSIGNED_INT128, G_UNSIGNED_INT128⟩⟩ := FF'
  refine own_go (fun _ k => XS.iloadN X0.here hx rfl (hb hby at_8) rfl k) ?_
  show own_Goes _ _ _ _ _ _ _ s₁ (mkF m 9 #[.val (.int p0), .val (.int (2 : Int32)), .unset, .unset] [(.int (2 : Int32))])
  obtain ⟨_, _, ⟨T1, L1, k1, n1⟩, -, X1, ⟨Lc1, hQ1, l1, y1, z1⟩, st1⟩ := Jvm.LawKit.callS X0 hx (y := (⟨"com/example/treellis/treellis/cfa/IntegerTypeToUnsignedPinLaw", "pick", "(I)Lcom/example/treellis/treellis/cfa/IntegerType;"⟩ : MethodName)) hown (mvT hZ (hw _ (List.mem_of_getElem? (i := 1) rfl))) (mvT hZ (hw _ (List.mem_of_getElem? (i := 2) rfl))) (mvT hZ (hw _ (List.mem_of_getElem? (i := 3) rfl))) (mvT hZ (hw _ (List.mem_of_getElem? (i := 4) rfl))) (by decide) (backOf (W := 0) (rm_pick l Z a0 hw [] (2 : Int32) aBOOL aCHAR aSIGNED_CHAR aUNSIGNED_CHAR aSHORT aUNSIGNED_SHORT aINT aUNSIGNED_INT aLONG aUNSIGNED_LONG aLONG_LONG aUNSIGNED_LONG_LONG aINT128 aUNSIGNED_INT128 h0 n0 Z0 SS Od0) hZ (hw _ (List.mem_of_getElem? (i := 4) rfl)) (hw _ (List.mem_of_getElem? (i := 3) rfl)) (by decide) (by decide)) (g := (mkF m 9 #[.val (.int p0), .val (.int (2 : Int32)), .unset, .unset] [(.int (2 : Int32))])) rfl (by rw [hml]; rfl) (argsL := [(.int (2 : Int32))]) (rest := []) (lenOf pd_1 rfl) rfl (by show 2 * 0 + _ ≤ _; exact Nat.le_of_eq rfl) (hb hby at_9) (fun _ _ => ⟨rfl, e0, (by decide : 0 + 0 ≤ _), (by decide : 0 + 0 ≤ _)⟩)
  dsimp only [Pt.U, Pt.locs, Pt.cells, Pt.slots] at X1 l1 y1 z1 st1 hQ1
  subst l1 y1 z1
  obtain ⟨rfl, N1q, e1⟩ := hQ1
  have N1 := Fr.app N0 N1q
  refine own_go st1 ?_
  show own_Goes _ _ _ _ _ _ _ T1 (mkF m 12 #[.val (.int p0), .val (.int (2 : Int32)), .unset, .unset] [(.ref aSIGNED_CHAR)])
  refine own_go (fun _ k => XS.astoreN X1.here hx rfl (hb hby at_12) rfl rfl (l' := #[.val (.int p0), .val (.int (2 : Int32)), .val (.ref aSIGNED_CHAR), .unset]) rfl k) ?_
  show own_Goes _ _ _ _ _ _ _ T1 (mkF m 13 #[.val (.int p0), .val (.int (2 : Int32)), .val (.ref aSIGNED_CHAR), .unset] [])
  refine own_go (fun _ k => XS.aloadN X1.here hx rfl (hb hby at_13) rfl rfl k) ?_
  show own_Goes _ _ _ _ _ _ _ T1 (mkF m 14 #[.val (.int p0), .val (.int (2 : Int32)), .val (.ref aSIGNED_CHAR), .unset] [(.ref aSIGNED_CHAR)])
  obtain ⟨cq2, kq2, zq2a, zq2b, zq2c⟩ := isOf hZ e1 (E_SIGNED_CHAR.ext Od0.2)
  obtain ⟨_, _, ⟨T2, L2, k2, n2⟩, -, X2, ⟨Lc2, hQ2, l2, y2, z2⟩, st2⟩ := X1.virtualBack hx (y := (⟨"com/example/treellis/treellis/cfa/IntegerType", "toUnsigned", "()Lcom/example/treellis/treellis/cfa/IntegerType;"⟩ : MethodName)) (z := (⟨"com/example/treellis/treellis/cfa/IntegerType", "toUnsigned", "()Lcom/example/treellis/treellis/cfa/IntegerType;"⟩ : MethodName)) hown (mvT hZ (hw _ (List.mem_of_getElem? (i := 8) rfl))) (mvT hZ (hw _ (List.mem_of_getElem? (i := 9) rfl))) (notFace_of_selects (args := #[]) (mvT hZ (hw _ (List.mem_of_getElem? (i := 11) rfl)))) (mvT hZ (hw _ (List.mem_of_getElem? (i := 11) rfl))) (mvT hZ (hw _ (List.mem_of_getElem? (i := 10) rfl))) (by decide) (backOf (W := 0) (rmU1 l Z a0 hw [] aSIGNED_CHAR aV clV aBOOL aCHAR aSIGNED_CHAR aUNSIGNED_CHAR aSHORT aUNSIGNED_SHORT aINT aUNSIGNED_INT aLONG aUNSIGNED_LONG aLONG_LONG aUNSIGNED_LONG_LONG aINT128 aUNSIGNED_INT128 h0 n0 Z0 VV FF Od0 R_SIGNED_CHAR) hZ (hw _ (List.mem_of_getElem? (i := 12) rfl)) (hw _ (List.mem_of_getElem? (i := 6) rfl)) (by decide) (by decide)) zq2a zq2c (g := (mkF m 14 #[.val (.int p0), .val (.int (2 : Int32)), .val (.ref aSIGNED_CHAR), .unset] [(.ref aSIGNED_CHAR)])) rfl (by rw [hml]; rfl) (Steps.refl _) (argsL := []) (rest := []) (lenOf pd_2 rfl) rfl (by show 2 * 0 + _ ≤ _; exact Nat.le_of_eq rfl) (hb hby at_14) (fun _ _ => ⟨rfl, e1, (by decide : 0 + 0 + 1 ≤ _), (by decide : 0 + 0 + 14 ≤ _)⟩)
  dsimp only [Pt.U, Pt.locs, Pt.cells, Pt.slots] at X2 l2 y2 z2 st2 hQ2
  subst l2 y2 z2
  obtain ⟨rfl, N2q, E2⟩ := hQ2
  have N2 := Fr.app N1 N2q
  refine own_goS st2 ?_
  show own_Goes _ _ _ _ _ _ _ T2 (mkF m 17 #[.val (.int p0), .val (.int (2 : Int32)), .val (.ref aSIGNED_CHAR), .unset] [(.ref aUNSIGNED_CHAR)])
  have Zs2 : n0 ≤ T2.heap.size := Nat.le_trans Z0 E2.1
  have Od2 : Old Z n0 T2.heap := Od0.ext E2
  refine own_go (fun _ k => XS.astoreN X2.here hx rfl (hb hby at_17) rfl rfl (l' := #[.val (.int p0), .val (.int (2 : Int32)), .val (.ref aSIGNED_CHAR), .val (.ref aUNSIGNED_CHAR)]) rfl k) ?_
  show own_Goes _ _ _ _ _ _ _ T2 (mkF m 18 #[.val (.int p0), .val (.int (2 : Int32)), .val (.ref aSIGNED_CHAR), .val (.ref aUNSIGNED_CHAR)] [])
  refine own_go (fun _ k => XS.aloadN X2.here hx rfl (hb hby at_18) rfl rfl k) ?_
  show own_Goes _ _ _ _ _ _ _ T2 (mkF m 19 #[.val (.int p0), .val (.int (2 : Int32)), .val (.ref aSIGNED_CHAR), .val (.ref aUNSIGNED_CHAR)] [(.ref aUNSIGNED_CHAR)])
  refine own_go (fun _ k => XS.iloadN X2.here hx rfl (hb hby at_19) rfl k) ?_
  show own_Goes _ _ _ _ _ _ _ T2 (mkF m 20 #[.val (.int p0), .val (.int (2 : Int32)), .val (.ref aSIGNED_CHAR), .val (.ref aUNSIGNED_CHAR)] [(.int (2 : Int32)), (.ref aUNSIGNED_CHAR)])
  obtain ⟨_, _, ⟨T3, L3, k3, n3⟩, -, X3, ⟨Lc3, hQ3, l3, y3, z3⟩, st3⟩ := Jvm.LawKit.callS X2 hx (y := (⟨"com/example/treellis/treellis/cfa/IntegerTypeToUnsignedPinLaw", "expected", "(I)Lcom/example/treellis/treellis/cfa/IntegerType;"⟩ : MethodName)) hown (mvT hZ (hw _ (List.mem_of_getElem? (i := 45) rfl))) (mvT hZ (hw _ (List.mem_of_getElem? (i := 46) rfl))) (mvT hZ (hw _ (List.mem_of_getElem? (i := 3) rfl))) (mvT hZ (hw _ (List.mem_of_getElem? (i := 47) rfl))) (by decide) (backOf (W := 1) (rm_expected l Z a0 hw [] (2 : Int32) aBOOL aCHAR aSIGNED_CHAR aUNSIGNED_CHAR aSHORT aUNSIGNED_SHORT aINT aUNSIGNED_INT aLONG aUNSIGNED_LONG aLONG_LONG aUNSIGNED_LONG_LONG aINT128 aUNSIGNED_INT128 T2.heap n0 Zs2 SS Od2) hZ (hw _ (List.mem_of_getElem? (i := 47) rfl)) (hw _ (List.mem_of_getElem? (i := 3) rfl)) (by decide) (by decide)) (g := (mkF m 20 #[.val (.int p0), .val (.int (2 : Int32)), .val (.ref aSIGNED_CHAR), .val (.ref aUNSIGNED_CHAR)] [(.int (2 : Int32)), (.ref aUNSIGNED_CHAR)])) rfl (by rw [hml]; rfl) (argsL := [(.int (2 : Int32))]) (rest := [(.ref aUNSIGNED_CHAR)]) (lenOf pd_1 rfl) rfl (by show 2 * 0 + _ ≤ _; exact Nat.le_of_eq rfl) (hb hby at_20) (fun _ _ => ⟨rfl, rfl, (by decide : 0 + 0 + 1 + 0 ≤ _), (by decide : 0 + 0 + 14 + 0 ≤ _)⟩)
  dsimp only [Pt.U, Pt.locs, Pt.cells, Pt.slots] at X3 l3 y3 z3 st3 hQ3
  subst l3 y3 z3
  obtain ⟨rfl, N3q, e3⟩ := hQ3
  have N3 := Fr.app N2 N3q
  refine own_go st3 ?_
  show own_Goes _ _ _ _ _ _ _ T3 (mkF m 23 #[.val (.int p0), .val (.int (2 : Int32)), .val (.ref aSIGNED_CHAR), .val (.ref aUNSIGNED_CHAR)] [(.ref aUNSIGNED_CHAR), (.ref aUNSIGNED_CHAR)])
  refine own_go (fun _ k => Jvm.RoadKit.acmp (g := (mkF m 23 #[.val (.int p0), .val (.int (2 : Int32)), .val (.ref aSIGNED_CHAR), .val (.ref aUNSIGNED_CHAR)] [(.ref aUNSIGNED_CHAR), (.ref aUNSIGNED_CHAR)])) X3 hx rfl rfl rfl (pc0 := 23) (pc' := 28) (same := true) rfl (hb hby at_23) rfl (decide_eq_true rfl) (by decide) (by decide) k) ?_
  show own_Goes _ _ _ _ _ _ _ T3 (mkF m 28 #[.val (.int p0), .val (.int (2 : Int32)), .val (.ref aSIGNED_CHAR), .val (.ref aUNSIGNED_CHAR)] [])
  refine own_go (fun _ k => XS.aloadN X3.here hx rfl (hb hby at_28) rfl rfl k) ?_
  show own_Goes _ _ _ _ _ _ _ T3 (mkF m 29 #[.val (.int p0), .val (.int (2 : Int32)), .val (.ref aSIGNED_CHAR), .val (.ref aUNSIGNED_CHAR)] [(.ref aUNSIGNED_CHAR)])
  obtain ⟨cq4, kq4, zq4a, zq4b, zq4c⟩ := isOf hZ e3 (E_UNSIGNED_CHAR.ext Od2.2)
  obtain ⟨_, _, ⟨T4, L4, k4, n4⟩, -, X4, ⟨Lc4, hQ4, l4, y4, z4⟩, st4⟩ := X3.virtualBack hx (y := (⟨"com/example/treellis/treellis/cfa/IntegerType", "toUnsigned", "()Lcom/example/treellis/treellis/cfa/IntegerType;"⟩ : MethodName)) (z := (⟨"com/example/treellis/treellis/cfa/IntegerType", "toUnsigned", "()Lcom/example/treellis/treellis/cfa/IntegerType;"⟩ : MethodName)) hown (mvT hZ (hw _ (List.mem_of_getElem? (i := 8) rfl))) (mvT hZ (hw _ (List.mem_of_getElem? (i := 9) rfl))) (notFace_of_selects (args := #[]) (mvT hZ (hw _ (List.mem_of_getElem? (i := 11) rfl)))) (mvT hZ (hw _ (List.mem_of_getElem? (i := 11) rfl))) (mvT hZ (hw _ (List.mem_of_getElem? (i := 10) rfl))) (by decide) (backOf (W := 0) (rmU1 l Z a0 hw [] aUNSIGNED_CHAR aV clV aBOOL aCHAR aSIGNED_CHAR aUNSIGNED_CHAR aSHORT aUNSIGNED_SHORT aINT aUNSIGNED_INT aLONG aUNSIGNED_LONG aLONG_LONG aUNSIGNED_LONG_LONG aINT128 aUNSIGNED_INT128 T2.heap n0 Zs2 VV FF Od2 R_UNSIGNED_CHAR) hZ (hw _ (List.mem_of_getElem? (i := 12) rfl)) (hw _ (List.mem_of_getElem? (i := 6) rfl)) (by decide) (by decide)) zq4a zq4c (g := (mkF m 29 #[.val (.int p0), .val (.int (2 : Int32)), .val (.ref aSIGNED_CHAR), .val (.ref aUNSIGNED_CHAR)] [(.ref aUNSIGNED_CHAR)])) rfl (by rw [hml]; rfl) (Steps.refl _) (argsL := []) (rest := []) (lenOf pd_2 rfl) rfl (by show 2 * 0 + _ ≤ _; exact Nat.le_of_eq rfl) (hb hby at_29) (fun _ _ => ⟨rfl, e3, (by decide : 0 + 0 + 1 + 0 + 1 ≤ _), (by decide : 0 + 0 + 14 + 0 + 14 ≤ _)⟩)
  dsimp only [Pt.U, Pt.locs, Pt.cells, Pt.slots] at X4 l4 y4 z4 st4 hQ4
  subst l4 y4 z4
  obtain ⟨rfl, N4q, E4⟩ := hQ4
  have N4 := Fr.app N3 N4q
  refine own_goS st4 ?_
  show own_Goes _ _ _ _ _ _ _ T4 (mkF m 32 #[.val (.int p0), .val (.int (2 : Int32)), .val (.ref aSIGNED_CHAR), .val (.ref aUNSIGNED_CHAR)] [(.ref aUNSIGNED_CHAR)])
  have Zs4 : n0 ≤ T4.heap.size := Nat.le_trans Zs2 E4.1
  have Od4 : Old Z n0 T4.heap := Od2.ext E4
  refine own_go (fun _ k => XS.aloadN X4.here hx rfl (hb hby at_32) rfl rfl k) ?_
  show own_Goes _ _ _ _ _ _ _ T4 (mkF m 33 #[.val (.int p0), .val (.int (2 : Int32)), .val (.ref aSIGNED_CHAR), .val (.ref aUNSIGNED_CHAR)] [(.ref aUNSIGNED_CHAR), (.ref aUNSIGNED_CHAR)])
  refine own_go (fun _ k => Jvm.RoadKit.acmp (g := (mkF m 33 #[.val (.int p0), .val (.int (2 : Int32)), .val (.ref aSIGNED_CHAR), .val (.ref aUNSIGNED_CHAR)] [(.ref aUNSIGNED_CHAR), (.ref aUNSIGNED_CHAR)])) X4 hx rfl rfl rfl (pc0 := 33) (pc' := 36) (same := true) rfl (hb hby at_33) rfl (decide_eq_true rfl) (by decide) (by decide) k) ?_
  show own_Goes _ _ _ _ _ _ _ T4 (mkF m 36 #[.val (.int p0), .val (.int (2 : Int32)), .val (.ref aSIGNED_CHAR), .val (.ref aUNSIGNED_CHAR)] [])
  refine own_go (fun _ k => XS.iconst X4.here hx rfl (hb hby at_36) k) ?_
  show own_Goes _ _ _ _ _ _ _ T4 (mkF m 37 #[.val (.int p0), .val (.int (2 : Int32)), .val (.ref aSIGNED_CHAR), .val (.ref aUNSIGNED_CHAR)] [(.int (1 : Int32))])
  refine own_go (fun _ k => XS.goto X4.here hx rfl (pc0 := 37) (pc' := 41) rfl (hb hby at_37) (by decide) (by decide) k) ?_
  show own_Goes _ _ _ _ _ _ _ T4 (mkF m 41 #[.val (.int p0), .val (.int (2 : Int32)), .val (.ref aSIGNED_CHAR), .val (.ref aUNSIGNED_CHAR)] [(.int (1 : Int32))])
  exact own_retN X4 hx (t := .boolean) hlk hret (by simp) (hb hby at_41) (by decide) (by decide) ⟨rfl, N4⟩
set_option maxRecDepth 65536 in
set_option maxHeartbeats 40000000 in
theorem seg8_3 {p : Program} {l : Launch} {e : Env} {s : State} {m : MethodId} {args : Array Value} {below : List Frame} {meth : Method} {c : Code} {s₁ : State} {locs : List Loc} {Z : State} {a0 : Array Value} {h0 : Heap} (p0 : Int32) (aV : Addr) (clV : Cell) (aBOOL aCHAR aSIGNED_CHAR aUNSIGNED_CHAR aSHORT aUNSIGNED_SHORT aINT aUNSIGNED_INT aLONG aUNSIGNED_LONG aLONG_LONG aUNSIGNED_LONG_LONG aINT128 aUNSIGNED_INT128 : Addr)
    (hw : ∀ d ∈ tables_1, d.before a0 Z = true) (C : own_Ctx Z x "com/example/treellis/treellis/cfa/IntegerTypeToUnsignedPinLaw" code maxLocals ret p s m meth c) (X0 : Stand p l e room_1 s m args below meth c s₁ locs 0 0) (e0 : s₁.heap = h0) (n0 : Nat) (Z0 : n0 ≤ h0.size) (N0 : Fr n0 locs) (SS : own_SS Z aBOOL aCHAR aSIGNED_CHAR aUNSIGNED_CHAR aSHORT aUNSIGNED_SHORT aINT aUNSIGNED_INT aLONG aUNSIGNED_LONG aLONG_LONG aUNSIGNED_LONG_LONG aINT128 aUNSIGNED_INT128) (FF : own_FF Z aBOOL aCHAR aSIGNED_CHAR aUNSIGNED_CHAR aSHORT aUNSIGNED_SHORT aINT aUNSIGNED_INT aLONG aUNSIGNED_LONG aLONG_LONG aUNSIGNED_LONG_LONG aINT128 aUNSIGNED_INT128) (VV : own_VV Z aV clV aBOOL aCHAR aSIGNED_CHAR aUNSIGNED_CHAR aSHORT aUNSIGNED_SHORT aINT aUNSIGNED_INT aLONG aUNSIGNED_LONG aLONG_LONG aUNSIGNED_LONG_LONG aINT128 aUNSIGNED_INT128) (Od0 : Old Z n0 h0) :
    own_Goes p e below s (fun v h L => v = some (.int 1) ∧ Fr n0 L) room_1.cells room_1.slots s₁ (mkF m 8 #[.val (.int p0), .val (.int (3 : Int32)), .unset, .unset] []) := by
  obtain ⟨hx, hby, hml, hown, hnm, hret, hlk, hZ⟩ := C
  have FF' := FF
  obtain ⟨⟨E_BOOL, R_BOOL, G_BOOL⟩, ⟨E_CHAR, R_CHAR, G_CHAR⟩, ⟨E_SIGNED_CHAR, R_SIGNED_CHAR, G_SIGNED_CHAR⟩, ⟨E_UNSIGNED_CHAR, R_UNSIGNED_CHAR, G_UNSIGNED_CHAR⟩, ⟨E_SHORT, R_SHORT, G_SHORT⟩, ⟨E_UNSIGNED_SHORT, R_UNSIGNED_SHORT, G_UNSIGNED_SHORT⟩, ⟨E_INT, R_INT, G_INT⟩, ⟨E_UNSIGNED_INT, R_UNSIGNED_INT, G_UNSIGNED_INT⟩, ⟨E_LONG, R_LONG, G_LONG⟩, ⟨E_UNSIGNED_LONG, R_UNSIGNED_LONG, G_UNSIGNED_LONG⟩, ⟨E_LONG_LONG, R_LONG_LONG, G_LONG_LONG⟩, ⟨E_UNSIGNED_LONG_LONG, R_UNSIGNED_LONG_LONG, G_UNSIGNED_LONG_LONG⟩, ⟨E_INT128, R_INT128, G_INT128⟩, ⟨E_UNSIGNED_INT128, R_UNSIGNED_INT128, G_UNSIGNED_INT128⟩⟩ := FF'
  refine own_go (fun _ k => XS.iloadN X0.here hx rfl (hb hby at_8) rfl k) ?_
  show own_Goes _ _ _ _ _ _ _ s₁ (mkF m 9 #[.val (.int p0), .val (.int (3 : Int32)), .unset, .unset] [(.int (3 : Int32))])
  obtain ⟨_, _, ⟨T1, L1, k1, n1⟩, -, X1, ⟨Lc1, hQ1, l1, y1, z1⟩, st1⟩ := Jvm.LawKit.callS X0 hx (y := (⟨"com/example/treellis/treellis/cfa/IntegerTypeToUnsignedPinLaw", "pick", "(I)Lcom/example/treellis/treellis/cfa/IntegerType;"⟩ : MethodName)) hown (mvT hZ (hw _ (List.mem_of_getElem? (i := 1) rfl))) (mvT hZ (hw _ (List.mem_of_getElem? (i := 2) rfl))) (mvT hZ (hw _ (List.mem_of_getElem? (i := 3) rfl))) (mvT hZ (hw _ (List.mem_of_getElem? (i := 4) rfl))) (by decide) (backOf (W := 0) (rm_pick l Z a0 hw [] (3 : Int32) aBOOL aCHAR aSIGNED_CHAR aUNSIGNED_CHAR aSHORT aUNSIGNED_SHORT aINT aUNSIGNED_INT aLONG aUNSIGNED_LONG aLONG_LONG aUNSIGNED_LONG_LONG aINT128 aUNSIGNED_INT128 h0 n0 Z0 SS Od0) hZ (hw _ (List.mem_of_getElem? (i := 4) rfl)) (hw _ (List.mem_of_getElem? (i := 3) rfl)) (by decide) (by decide)) (g := (mkF m 9 #[.val (.int p0), .val (.int (3 : Int32)), .unset, .unset] [(.int (3 : Int32))])) rfl (by rw [hml]; rfl) (argsL := [(.int (3 : Int32))]) (rest := []) (lenOf pd_1 rfl) rfl (by show 2 * 0 + _ ≤ _; exact Nat.le_of_eq rfl) (hb hby at_9) (fun _ _ => ⟨rfl, e0, (by decide : 0 + 0 ≤ _), (by decide : 0 + 0 ≤ _)⟩)
  dsimp only [Pt.U, Pt.locs, Pt.cells, Pt.slots] at X1 l1 y1 z1 st1 hQ1
  subst l1 y1 z1
  obtain ⟨rfl, N1q, e1⟩ := hQ1
  have N1 := Fr.app N0 N1q
  refine own_go st1 ?_
  show own_Goes _ _ _ _ _ _ _ T1 (mkF m 12 #[.val (.int p0), .val (.int (3 : Int32)), .unset, .unset] [(.ref aUNSIGNED_CHAR)])
  refine own_go (fun _ k => XS.astoreN X1.here hx rfl (hb hby at_12) rfl rfl (l' := #[.val (.int p0), .val (.int (3 : Int32)), .val (.ref aUNSIGNED_CHAR), .unset]) rfl k) ?_
  show own_Goes _ _ _ _ _ _ _ T1 (mkF m 13 #[.val (.int p0), .val (.int (3 : Int32)), .val (.ref aUNSIGNED_CHAR), .unset] [])
  refine own_go (fun _ k => XS.aloadN X1.here hx rfl (hb hby at_13) rfl rfl k) ?_
  show own_Goes _ _ _ _ _ _ _ T1 (mkF m 14 #[.val (.int p0), .val (.int (3 : Int32)), .val (.ref aUNSIGNED_CHAR), .unset] [(.ref aUNSIGNED_CHAR)])
  obtain ⟨cq2, kq2, zq2a, zq2b, zq2c⟩ := isOf hZ e1 (E_UNSIGNED_CHAR.ext Od0.2)
  obtain ⟨_, _, ⟨T2, L2, k2, n2⟩, -, X2, ⟨Lc2, hQ2, l2, y2, z2⟩, st2⟩ := X1.virtualBack hx (y := (⟨"com/example/treellis/treellis/cfa/IntegerType", "toUnsigned", "()Lcom/example/treellis/treellis/cfa/IntegerType;"⟩ : MethodName)) (z := (⟨"com/example/treellis/treellis/cfa/IntegerType", "toUnsigned", "()Lcom/example/treellis/treellis/cfa/IntegerType;"⟩ : MethodName)) hown (mvT hZ (hw _ (List.mem_of_getElem? (i := 8) rfl))) (mvT hZ (hw _ (List.mem_of_getElem? (i := 9) rfl))) (notFace_of_selects (args := #[]) (mvT hZ (hw _ (List.mem_of_getElem? (i := 11) rfl)))) (mvT hZ (hw _ (List.mem_of_getElem? (i := 11) rfl))) (mvT hZ (hw _ (List.mem_of_getElem? (i := 10) rfl))) (by decide) (backOf (W := 0) (rmU1 l Z a0 hw [] aUNSIGNED_CHAR aV clV aBOOL aCHAR aSIGNED_CHAR aUNSIGNED_CHAR aSHORT aUNSIGNED_SHORT aINT aUNSIGNED_INT aLONG aUNSIGNED_LONG aLONG_LONG aUNSIGNED_LONG_LONG aINT128 aUNSIGNED_INT128 h0 n0 Z0 VV FF Od0 R_UNSIGNED_CHAR) hZ (hw _ (List.mem_of_getElem? (i := 12) rfl)) (hw _ (List.mem_of_getElem? (i := 6) rfl)) (by decide) (by decide)) zq2a zq2c (g := (mkF m 14 #[.val (.int p0), .val (.int (3 : Int32)), .val (.ref aUNSIGNED_CHAR), .unset] [(.ref aUNSIGNED_CHAR)])) rfl (by rw [hml]; rfl) (Steps.refl _) (argsL := []) (rest := []) (lenOf pd_2 rfl) rfl (by show 2 * 0 + _ ≤ _; exact Nat.le_of_eq rfl) (hb hby at_14) (fun _ _ => ⟨rfl, e1, (by decide : 0 + 0 + 1 ≤ _), (by decide : 0 + 0 + 14 ≤ _)⟩)
  dsimp only [Pt.U, Pt.locs, Pt.cells, Pt.slots] at X2 l2 y2 z2 st2 hQ2
  subst l2 y2 z2
  obtain ⟨rfl, N2q, E2⟩ := hQ2
  have N2 := Fr.app N1 N2q
  refine own_goS st2 ?_
  show own_Goes _ _ _ _ _ _ _ T2 (mkF m 17 #[.val (.int p0), .val (.int (3 : Int32)), .val (.ref aUNSIGNED_CHAR), .unset] [(.ref aUNSIGNED_CHAR)])
  have Zs2 : n0 ≤ T2.heap.size := Nat.le_trans Z0 E2.1
  have Od2 : Old Z n0 T2.heap := Od0.ext E2
  refine own_go (fun _ k => XS.astoreN X2.here hx rfl (hb hby at_17) rfl rfl (l' := #[.val (.int p0), .val (.int (3 : Int32)), .val (.ref aUNSIGNED_CHAR), .val (.ref aUNSIGNED_CHAR)]) rfl k) ?_
  show own_Goes _ _ _ _ _ _ _ T2 (mkF m 18 #[.val (.int p0), .val (.int (3 : Int32)), .val (.ref aUNSIGNED_CHAR), .val (.ref aUNSIGNED_CHAR)] [])
  refine own_go (fun _ k => XS.aloadN X2.here hx rfl (hb hby at_18) rfl rfl k) ?_
  show own_Goes _ _ _ _ _ _ _ T2 (mkF m 19 #[.val (.int p0), .val (.int (3 : Int32)), .val (.ref aUNSIGNED_CHAR), .val (.ref aUNSIGNED_CHAR)] [(.ref aUNSIGNED_CHAR)])
  refine own_go (fun _ k => XS.iloadN X2.here hx rfl (hb hby at_19) rfl k) ?_
  show own_Goes _ _ _ _ _ _ _ T2 (mkF m 20 #[.val (.int p0), .val (.int (3 : Int32)), .val (.ref aUNSIGNED_CHAR), .val (.ref aUNSIGNED_CHAR)] [(.int (3 : Int32)), (.ref aUNSIGNED_CHAR)])
  obtain ⟨_, _, ⟨T3, L3, k3, n3⟩, -, X3, ⟨Lc3, hQ3, l3, y3, z3⟩, st3⟩ := Jvm.LawKit.callS X2 hx (y := (⟨"com/example/treellis/treellis/cfa/IntegerTypeToUnsignedPinLaw", "expected", "(I)Lcom/example/treellis/treellis/cfa/IntegerType;"⟩ : MethodName)) hown (mvT hZ (hw _ (List.mem_of_getElem? (i := 45) rfl))) (mvT hZ (hw _ (List.mem_of_getElem? (i := 46) rfl))) (mvT hZ (hw _ (List.mem_of_getElem? (i := 3) rfl))) (mvT hZ (hw _ (List.mem_of_getElem? (i := 47) rfl))) (by decide) (backOf (W := 1) (rm_expected l Z a0 hw [] (3 : Int32) aBOOL aCHAR aSIGNED_CHAR aUNSIGNED_CHAR aSHORT aUNSIGNED_SHORT aINT aUNSIGNED_INT aLONG aUNSIGNED_LONG aLONG_LONG aUNSIGNED_LONG_LONG aINT128 aUNSIGNED_INT128 T2.heap n0 Zs2 SS Od2) hZ (hw _ (List.mem_of_getElem? (i := 47) rfl)) (hw _ (List.mem_of_getElem? (i := 3) rfl)) (by decide) (by decide)) (g := (mkF m 20 #[.val (.int p0), .val (.int (3 : Int32)), .val (.ref aUNSIGNED_CHAR), .val (.ref aUNSIGNED_CHAR)] [(.int (3 : Int32)), (.ref aUNSIGNED_CHAR)])) rfl (by rw [hml]; rfl) (argsL := [(.int (3 : Int32))]) (rest := [(.ref aUNSIGNED_CHAR)]) (lenOf pd_1 rfl) rfl (by show 2 * 0 + _ ≤ _; exact Nat.le_of_eq rfl) (hb hby at_20) (fun _ _ => ⟨rfl, rfl, (by decide : 0 + 0 + 1 + 0 ≤ _), (by decide : 0 + 0 + 14 + 0 ≤ _)⟩)
  dsimp only [Pt.U, Pt.locs, Pt.cells, Pt.slots] at X3 l3 y3 z3 st3 hQ3
  subst l3 y3 z3
  obtain ⟨rfl, N3q, e3⟩ := hQ3
  have N3 := Fr.app N2 N3q
  refine own_go st3 ?_
  show own_Goes _ _ _ _ _ _ _ T3 (mkF m 23 #[.val (.int p0), .val (.int (3 : Int32)), .val (.ref aUNSIGNED_CHAR), .val (.ref aUNSIGNED_CHAR)] [(.ref aUNSIGNED_CHAR), (.ref aUNSIGNED_CHAR)])
  refine own_go (fun _ k => Jvm.RoadKit.acmp (g := (mkF m 23 #[.val (.int p0), .val (.int (3 : Int32)), .val (.ref aUNSIGNED_CHAR), .val (.ref aUNSIGNED_CHAR)] [(.ref aUNSIGNED_CHAR), (.ref aUNSIGNED_CHAR)])) X3 hx rfl rfl rfl (pc0 := 23) (pc' := 28) (same := true) rfl (hb hby at_23) rfl (decide_eq_true rfl) (by decide) (by decide) k) ?_
  show own_Goes _ _ _ _ _ _ _ T3 (mkF m 28 #[.val (.int p0), .val (.int (3 : Int32)), .val (.ref aUNSIGNED_CHAR), .val (.ref aUNSIGNED_CHAR)] [])
  refine own_go (fun _ k => XS.aloadN X3.here hx rfl (hb hby at_28) rfl rfl k) ?_
  show own_Goes _ _ _ _ _ _ _ T3 (mkF m 29 #[.val (.int p0), .val (.int (3 : Int32)), .val (.ref aUNSIGNED_CHAR), .val (.ref aUNSIGNED_CHAR)] [(.ref aUNSIGNED_CHAR)])
  obtain ⟨cq4, kq4, zq4a, zq4b, zq4c⟩ := isOf hZ e3 (E_UNSIGNED_CHAR.ext Od2.2)
  obtain ⟨_, _, ⟨T4, L4, k4, n4⟩, -, X4, ⟨Lc4, hQ4, l4, y4, z4⟩, st4⟩ := X3.virtualBack hx (y := (⟨"com/example/treellis/treellis/cfa/IntegerType", "toUnsigned", "()Lcom/example/treellis/treellis/cfa/IntegerType;"⟩ : MethodName)) (z := (⟨"com/example/treellis/treellis/cfa/IntegerType", "toUnsigned", "()Lcom/example/treellis/treellis/cfa/IntegerType;"⟩ : MethodName)) hown (mvT hZ (hw _ (List.mem_of_getElem? (i := 8) rfl))) (mvT hZ (hw _ (List.mem_of_getElem? (i := 9) rfl))) (notFace_of_selects (args := #[]) (mvT hZ (hw _ (List.mem_of_getElem? (i := 11) rfl)))) (mvT hZ (hw _ (List.mem_of_getElem? (i := 11) rfl))) (mvT hZ (hw _ (List.mem_of_getElem? (i := 10) rfl))) (by decide) (backOf (W := 0) (rmU1 l Z a0 hw [] aUNSIGNED_CHAR aV clV aBOOL aCHAR aSIGNED_CHAR aUNSIGNED_CHAR aSHORT aUNSIGNED_SHORT aINT aUNSIGNED_INT aLONG aUNSIGNED_LONG aLONG_LONG aUNSIGNED_LONG_LONG aINT128 aUNSIGNED_INT128 T2.heap n0 Zs2 VV FF Od2 R_UNSIGNED_CHAR) hZ (hw _ (List.mem_of_getElem? (i := 12) rfl)) (hw _ (List.mem_of_getElem? (i := 6) rfl)) (by decide) (by decide)) zq4a zq4c (g := (mkF m 29 #[.val (.int p0), .val (.int (3 : Int32)), .val (.ref aUNSIGNED_CHAR), .val (.ref aUNSIGNED_CHAR)] [(.ref aUNSIGNED_CHAR)])) rfl (by rw [hml]; rfl) (Steps.refl _) (argsL := []) (rest := []) (lenOf pd_2 rfl) rfl (by show 2 * 0 + _ ≤ _; exact Nat.le_of_eq rfl) (hb hby at_29) (fun _ _ => ⟨rfl, e3, (by decide : 0 + 0 + 1 + 0 + 1 ≤ _), (by decide : 0 + 0 + 14 + 0 + 14 ≤ _)⟩)
  dsimp only [Pt.U, Pt.locs, Pt.cells, Pt.slots] at X4 l4 y4 z4 st4 hQ4
  subst l4 y4 z4
  obtain ⟨rfl, N4q, E4⟩ := hQ4
  have N4 := Fr.app N3 N4q
  refine own_goS st4 ?_
  show own_Goes _ _ _ _ _ _ _ T4 (mkF m 32 #[.val (.int p0), .val (.int (3 : Int32)), .val (.ref aUNSIGNED_CHAR), .val (.ref aUNSIGNED_CHAR)] [(.ref aUNSIGNED_CHAR)])
  have Zs4 : n0 ≤ T4.heap.size := Nat.le_trans Zs2 E4.1
  have Od4 : Old Z n0 T4.heap := Od2.ext E4
  refine own_go (fun _ k => XS.aloadN X4.here hx rfl (hb hby at_32) rfl rfl k) ?_
  show own_Goes _ _ _ _ _ _ _ T4 (mkF m 33 #[.val (.int p0), .val (.int (3 : Int32)), .val (.ref aUNSIGNED_CHAR), .val (.ref aUNSIGNED_CHAR)] [(.ref aUNSIGNED_CHAR), (.ref aUNSIGNED_CHAR)])
  refine own_go (fun _ k => Jvm.RoadKit.acmp (g := (mkF m 33 #[.val (.int p0), .val (.int (3 : Int32)), .val (.ref aUNSIGNED_CHAR), .val (.ref aUNSIGNED_CHAR)] [(.ref aUNSIGNED_CHAR), (.ref aUNSIGNED_CHAR)])) X4 hx rfl rfl rfl (pc0 := 33) (pc' := 36) (same := true) rfl (hb hby at_33) rfl (decide_eq_true rfl) (by decide) (by decide) k) ?_
  show own_Goes _ _ _ _ _ _ _ T4 (mkF m 36 #[.val (.int p0), .val (.int (3 : Int32)), .val (.ref aUNSIGNED_CHAR), .val (.ref aUNSIGNED_CHAR)] [])
  refine own_go (fun _ k => XS.iconst X4.here hx rfl (hb hby at_36) k) ?_
  show own_Goes _ _ _ _ _ _ _ T4 (mkF m 37 #[.val (.int p0), .val (.int (3 : Int32)), .val (.ref aUNSIGNED_CHAR), .val (.ref aUNSIGNED_CHAR)] [(.int (1 : Int32))])
  refine own_go (fun _ k => XS.goto X4.here hx rfl (pc0 := 37) (pc' := 41) rfl (hb hby at_37) (by decide) (by decide) k) ?_
  show own_Goes _ _ _ _ _ _ _ T4 (mkF m 41 #[.val (.int p0), .val (.int (3 : Int32)), .val (.ref aUNSIGNED_CHAR), .val (.ref aUNSIGNED_CHAR)] [(.int (1 : Int32))])
  exact own_retN X4 hx (t := .boolean) hlk hret (by simp) (hb hby at_41) (by decide) (by decide) ⟨rfl, N4⟩
set_option maxRecDepth 65536 in
set_option maxHeartbeats 40000000 in
theorem seg8_4 {p : Program} {l : Launch} {e : Env} {s : State} {m : MethodId} {args : Array Value} {below : List Frame} {meth : Method} {c : Code} {s₁ : State} {locs : List Loc} {Z : State} {a0 : Array Value} {h0 : Heap} (p0 : Int32) (aV : Addr) (clV : Cell) (aBOOL aCHAR aSIGNED_CHAR aUNSIGNED_CHAR aSHORT aUNSIGNED_SHORT aINT aUNSIGNED_INT aLONG aUNSIGNED_LONG aLONG_LONG aUNSIGNED_LONG_LONG aINT128 aUNSIGNED_INT128 : Addr)
    (hw : ∀ d ∈ tables_1, d.before a0 Z = true) (C : own_Ctx Z x "com/example/treellis/treellis/cfa/IntegerTypeToUnsignedPinLaw" code maxLocals ret p s m meth c) (X0 : Stand p l e room_1 s m args below meth c s₁ locs 0 0) (e0 : s₁.heap = h0) (n0 : Nat) (Z0 : n0 ≤ h0.size) (N0 : Fr n0 locs) (SS : own_SS Z aBOOL aCHAR aSIGNED_CHAR aUNSIGNED_CHAR aSHORT aUNSIGNED_SHORT aINT aUNSIGNED_INT aLONG aUNSIGNED_LONG aLONG_LONG aUNSIGNED_LONG_LONG aINT128 aUNSIGNED_INT128) (FF : own_FF Z aBOOL aCHAR aSIGNED_CHAR aUNSIGNED_CHAR aSHORT aUNSIGNED_SHORT aINT aUNSIGNED_INT aLONG aUNSIGNED_LONG aLONG_LONG aUNSIGNED_LONG_LONG aINT128 aUNSIGNED_INT128) (VV : own_VV Z aV clV aBOOL aCHAR aSIGNED_CHAR aUNSIGNED_CHAR aSHORT aUNSIGNED_SHORT aINT aUNSIGNED_INT aLONG aUNSIGNED_LONG aLONG_LONG aUNSIGNED_LONG_LONG aINT128 aUNSIGNED_INT128) (Od0 : Old Z n0 h0) :
    own_Goes p e below s (fun v h L => v = some (.int 1) ∧ Fr n0 L) room_1.cells room_1.slots s₁ (mkF m 8 #[.val (.int p0), .val (.int (4 : Int32)), .unset, .unset] []) := by
  obtain ⟨hx, hby, hml, hown, hnm, hret, hlk, hZ⟩ := C
  have FF' := FF
  obtain ⟨⟨E_BOOL, R_BOOL, G_BOOL⟩, ⟨E_CHAR, R_CHAR, G_CHAR⟩, ⟨E_SIGNED_CHAR, R_SIGNED_CHAR, G_SIGNED_CHAR⟩, ⟨E_UNSIGNED_CHAR, R_UNSIGNED_CHAR, G_UNSIGNED_CHAR⟩, ⟨E_SHORT, R_SHORT, G_SHORT⟩, ⟨E_UNSIGNED_SHORT, R_UNSIGNED_SHORT, G_UNSIGNED_SHORT⟩, ⟨E_INT, R_INT, G_INT⟩, ⟨E_UNSIGNED_INT, R_UNSIGNED_INT, G_UNSIGNED_INT⟩, ⟨E_LONG, R_LONG, G_LONG⟩, ⟨E_UNSIGNED_LONG, R_UNSIGNED_LONG, G_UNSIGNED_LONG⟩, ⟨E_LONG_LONG, R_LONG_LONG, G_LONG_LONG⟩, ⟨E_UNSIGNED_LONG_LONG, R_UNSIGNED_LONG_LONG, G_UNSIGNED_LONG_LONG⟩, ⟨E_INT128, R_INT128, G_INT128⟩, ⟨E_UNSIGNED_INT128, R_UNSIGNED_INT128, G_UNSIGNED_INT128⟩⟩ := FF'
  refine own_go (fun _ k => XS.iloadN X0.here hx rfl (hb hby at_8) rfl k) ?_
  show own_Goes _ _ _ _ _ _ _ s₁ (mkF m 9 #[.val (.int p0), .val (.int (4 : Int32)), .unset, .unset] [(.int (4 : Int32))])
  obtain ⟨_, _, ⟨T1, L1, k1, n1⟩, -, X1, ⟨Lc1, hQ1, l1, y1, z1⟩, st1⟩ := Jvm.LawKit.callS X0 hx (y := (⟨"com/example/treellis/treellis/cfa/IntegerTypeToUnsignedPinLaw", "pick", "(I)Lcom/example/treellis/treellis/cfa/IntegerType;"⟩ : MethodName)) hown (mvT hZ (hw _ (List.mem_of_getElem? (i := 1) rfl))) (mvT hZ (hw _ (List.mem_of_getElem? (i := 2) rfl))) (mvT hZ (hw _ (List.mem_of_getElem? (i := 3) rfl))) (mvT hZ (hw _ (List.mem_of_getElem? (i := 4) rfl))) (by decide) (backOf (W := 0) (rm_pick l Z a0 hw [] (4 : Int32) aBOOL aCHAR aSIGNED_CHAR aUNSIGNED_CHAR aSHORT aUNSIGNED_SHORT aINT aUNSIGNED_INT aLONG aUNSIGNED_LONG aLONG_LONG aUNSIGNED_LONG_LONG aINT128 aUNSIGNED_INT128 h0 n0 Z0 SS Od0) hZ (hw _ (List.mem_of_getElem? (i := 4) rfl)) (hw _ (List.mem_of_getElem? (i := 3) rfl)) (by decide) (by decide)) (g := (mkF m 9 #[.val (.int p0), .val (.int (4 : Int32)), .unset, .unset] [(.int (4 : Int32))])) rfl (by rw [hml]; rfl) (argsL := [(.int (4 : Int32))]) (rest := []) (lenOf pd_1 rfl) rfl (by show 2 * 0 + _ ≤ _; exact Nat.le_of_eq rfl) (hb hby at_9) (fun _ _ => ⟨rfl, e0, (by decide : 0 + 0 ≤ _), (by decide : 0 + 0 ≤ _)⟩)
  dsimp only [Pt.U, Pt.locs, Pt.cells, Pt.slots] at X1 l1 y1 z1 st1 hQ1
  subst l1 y1 z1
  obtain ⟨rfl, N1q, e1⟩ := hQ1
  have N1 := Fr.app N0 N1q
  refine own_go st1 ?_
  show own_Goes _ _ _ _ _ _ _ T1 (mkF m 12 #[.val (.int p0), .val (.int (4 : Int32)), .unset, .unset] [(.ref aSHORT)])
  refine own_go (fun _ k => XS.astoreN X1.here hx rfl (hb hby at_12) rfl rfl (l' := #[.val (.int p0), .val (.int (4 : Int32)), .val (.ref aSHORT), .unset]) rfl k) ?_
  show own_Goes _ _ _ _ _ _ _ T1 (mkF m 13 #[.val (.int p0), .val (.int (4 : Int32)), .val (.ref aSHORT), .unset] [])
  refine own_go (fun _ k => XS.aloadN X1.here hx rfl (hb hby at_13) rfl rfl k) ?_
  show own_Goes _ _ _ _ _ _ _ T1 (mkF m 14 #[.val (.int p0), .val (.int (4 : Int32)), .val (.ref aSHORT), .unset] [(.ref aSHORT)])
  obtain ⟨cq2, kq2, zq2a, zq2b, zq2c⟩ := isOf hZ e1 (E_SHORT.ext Od0.2)
  obtain ⟨_, _, ⟨T2, L2, k2, n2⟩, -, X2, ⟨Lc2, hQ2, l2, y2, z2⟩, st2⟩ := X1.virtualBack hx (y := (⟨"com/example/treellis/treellis/cfa/IntegerType", "toUnsigned", "()Lcom/example/treellis/treellis/cfa/IntegerType;"⟩ : MethodName)) (z := (⟨"com/example/treellis/treellis/cfa/IntegerType", "toUnsigned", "()Lcom/example/treellis/treellis/cfa/IntegerType;"⟩ : MethodName)) hown (mvT hZ (hw _ (List.mem_of_getElem? (i := 8) rfl))) (mvT hZ (hw _ (List.mem_of_getElem? (i := 9) rfl))) (notFace_of_selects (args := #[]) (mvT hZ (hw _ (List.mem_of_getElem? (i := 11) rfl)))) (mvT hZ (hw _ (List.mem_of_getElem? (i := 11) rfl))) (mvT hZ (hw _ (List.mem_of_getElem? (i := 10) rfl))) (by decide) (backOf (W := 0) (rmU2 l Z a0 hw [] aSHORT aV clV aBOOL aCHAR aSIGNED_CHAR aUNSIGNED_CHAR aSHORT aUNSIGNED_SHORT aINT aUNSIGNED_INT aLONG aUNSIGNED_LONG aLONG_LONG aUNSIGNED_LONG_LONG aINT128 aUNSIGNED_INT128 h0 n0 Z0 VV FF Od0 R_SHORT) hZ (hw _ (List.mem_of_getElem? (i := 12) rfl)) (hw _ (List.mem_of_getElem? (i := 6) rfl)) (by decide) (by decide)) zq2a zq2c (g := (mkF m 14 #[.val (.int p0), .val (.int (4 : Int32)), .val (.ref aSHORT), .unset] [(.ref aSHORT)])) rfl (by rw [hml]; rfl) (Steps.refl _) (argsL := []) (rest := []) (lenOf pd_2 rfl) rfl (by show 2 * 0 + _ ≤ _; exact Nat.le_of_eq rfl) (hb hby at_14) (fun _ _ => ⟨rfl, e1, (by decide : 0 + 0 + 1 ≤ _), (by decide : 0 + 0 + 14 ≤ _)⟩)
  dsimp only [Pt.U, Pt.locs, Pt.cells, Pt.slots] at X2 l2 y2 z2 st2 hQ2
  subst l2 y2 z2
  obtain ⟨rfl, N2q, E2⟩ := hQ2
  have N2 := Fr.app N1 N2q
  refine own_goS st2 ?_
  show own_Goes _ _ _ _ _ _ _ T2 (mkF m 17 #[.val (.int p0), .val (.int (4 : Int32)), .val (.ref aSHORT), .unset] [(.ref aUNSIGNED_SHORT)])
  have Zs2 : n0 ≤ T2.heap.size := Nat.le_trans Z0 E2.1
  have Od2 : Old Z n0 T2.heap := Od0.ext E2
  refine own_go (fun _ k => XS.astoreN X2.here hx rfl (hb hby at_17) rfl rfl (l' := #[.val (.int p0), .val (.int (4 : Int32)), .val (.ref aSHORT), .val (.ref aUNSIGNED_SHORT)]) rfl k) ?_
  show own_Goes _ _ _ _ _ _ _ T2 (mkF m 18 #[.val (.int p0), .val (.int (4 : Int32)), .val (.ref aSHORT), .val (.ref aUNSIGNED_SHORT)] [])
  refine own_go (fun _ k => XS.aloadN X2.here hx rfl (hb hby at_18) rfl rfl k) ?_
  show own_Goes _ _ _ _ _ _ _ T2 (mkF m 19 #[.val (.int p0), .val (.int (4 : Int32)), .val (.ref aSHORT), .val (.ref aUNSIGNED_SHORT)] [(.ref aUNSIGNED_SHORT)])
  refine own_go (fun _ k => XS.iloadN X2.here hx rfl (hb hby at_19) rfl k) ?_
  show own_Goes _ _ _ _ _ _ _ T2 (mkF m 20 #[.val (.int p0), .val (.int (4 : Int32)), .val (.ref aSHORT), .val (.ref aUNSIGNED_SHORT)] [(.int (4 : Int32)), (.ref aUNSIGNED_SHORT)])
  obtain ⟨_, _, ⟨T3, L3, k3, n3⟩, -, X3, ⟨Lc3, hQ3, l3, y3, z3⟩, st3⟩ := Jvm.LawKit.callS X2 hx (y := (⟨"com/example/treellis/treellis/cfa/IntegerTypeToUnsignedPinLaw", "expected", "(I)Lcom/example/treellis/treellis/cfa/IntegerType;"⟩ : MethodName)) hown (mvT hZ (hw _ (List.mem_of_getElem? (i := 45) rfl))) (mvT hZ (hw _ (List.mem_of_getElem? (i := 46) rfl))) (mvT hZ (hw _ (List.mem_of_getElem? (i := 3) rfl))) (mvT hZ (hw _ (List.mem_of_getElem? (i := 47) rfl))) (by decide) (backOf (W := 1) (rm_expected l Z a0 hw [] (4 : Int32) aBOOL aCHAR aSIGNED_CHAR aUNSIGNED_CHAR aSHORT aUNSIGNED_SHORT aINT aUNSIGNED_INT aLONG aUNSIGNED_LONG aLONG_LONG aUNSIGNED_LONG_LONG aINT128 aUNSIGNED_INT128 T2.heap n0 Zs2 SS Od2) hZ (hw _ (List.mem_of_getElem? (i := 47) rfl)) (hw _ (List.mem_of_getElem? (i := 3) rfl)) (by decide) (by decide)) (g := (mkF m 20 #[.val (.int p0), .val (.int (4 : Int32)), .val (.ref aSHORT), .val (.ref aUNSIGNED_SHORT)] [(.int (4 : Int32)), (.ref aUNSIGNED_SHORT)])) rfl (by rw [hml]; rfl) (argsL := [(.int (4 : Int32))]) (rest := [(.ref aUNSIGNED_SHORT)]) (lenOf pd_1 rfl) rfl (by show 2 * 0 + _ ≤ _; exact Nat.le_of_eq rfl) (hb hby at_20) (fun _ _ => ⟨rfl, rfl, (by decide : 0 + 0 + 1 + 0 ≤ _), (by decide : 0 + 0 + 14 + 0 ≤ _)⟩)
  dsimp only [Pt.U, Pt.locs, Pt.cells, Pt.slots] at X3 l3 y3 z3 st3 hQ3
  subst l3 y3 z3
  obtain ⟨rfl, N3q, e3⟩ := hQ3
  have N3 := Fr.app N2 N3q
  refine own_go st3 ?_
  show own_Goes _ _ _ _ _ _ _ T3 (mkF m 23 #[.val (.int p0), .val (.int (4 : Int32)), .val (.ref aSHORT), .val (.ref aUNSIGNED_SHORT)] [(.ref aUNSIGNED_SHORT), (.ref aUNSIGNED_SHORT)])
  refine own_go (fun _ k => Jvm.RoadKit.acmp (g := (mkF m 23 #[.val (.int p0), .val (.int (4 : Int32)), .val (.ref aSHORT), .val (.ref aUNSIGNED_SHORT)] [(.ref aUNSIGNED_SHORT), (.ref aUNSIGNED_SHORT)])) X3 hx rfl rfl rfl (pc0 := 23) (pc' := 28) (same := true) rfl (hb hby at_23) rfl (decide_eq_true rfl) (by decide) (by decide) k) ?_
  show own_Goes _ _ _ _ _ _ _ T3 (mkF m 28 #[.val (.int p0), .val (.int (4 : Int32)), .val (.ref aSHORT), .val (.ref aUNSIGNED_SHORT)] [])
  refine own_go (fun _ k => XS.aloadN X3.here hx rfl (hb hby at_28) rfl rfl k) ?_
  show own_Goes _ _ _ _ _ _ _ T3 (mkF m 29 #[.val (.int p0), .val (.int (4 : Int32)), .val (.ref aSHORT), .val (.ref aUNSIGNED_SHORT)] [(.ref aUNSIGNED_SHORT)])
  obtain ⟨cq4, kq4, zq4a, zq4b, zq4c⟩ := isOf hZ e3 (E_UNSIGNED_SHORT.ext Od2.2)
  obtain ⟨_, _, ⟨T4, L4, k4, n4⟩, -, X4, ⟨Lc4, hQ4, l4, y4, z4⟩, st4⟩ := X3.virtualBack hx (y := (⟨"com/example/treellis/treellis/cfa/IntegerType", "toUnsigned", "()Lcom/example/treellis/treellis/cfa/IntegerType;"⟩ : MethodName)) (z := (⟨"com/example/treellis/treellis/cfa/IntegerType", "toUnsigned", "()Lcom/example/treellis/treellis/cfa/IntegerType;"⟩ : MethodName)) hown (mvT hZ (hw _ (List.mem_of_getElem? (i := 8) rfl))) (mvT hZ (hw _ (List.mem_of_getElem? (i := 9) rfl))) (notFace_of_selects (args := #[]) (mvT hZ (hw _ (List.mem_of_getElem? (i := 11) rfl)))) (mvT hZ (hw _ (List.mem_of_getElem? (i := 11) rfl))) (mvT hZ (hw _ (List.mem_of_getElem? (i := 10) rfl))) (by decide) (backOf (W := 0) (rmU2 l Z a0 hw [] aUNSIGNED_SHORT aV clV aBOOL aCHAR aSIGNED_CHAR aUNSIGNED_CHAR aSHORT aUNSIGNED_SHORT aINT aUNSIGNED_INT aLONG aUNSIGNED_LONG aLONG_LONG aUNSIGNED_LONG_LONG aINT128 aUNSIGNED_INT128 T2.heap n0 Zs2 VV FF Od2 R_UNSIGNED_SHORT) hZ (hw _ (List.mem_of_getElem? (i := 12) rfl)) (hw _ (List.mem_of_getElem? (i := 6) rfl)) (by decide) (by decide)) zq4a zq4c (g := (mkF m 29 #[.val (.int p0), .val (.int (4 : Int32)), .val (.ref aSHORT), .val (.ref aUNSIGNED_SHORT)] [(.ref aUNSIGNED_SHORT)])) rfl (by rw [hml]; rfl) (Steps.refl _) (argsL := []) (rest := []) (lenOf pd_2 rfl) rfl (by show 2 * 0 + _ ≤ _; exact Nat.le_of_eq rfl) (hb hby at_29) (fun _ _ => ⟨rfl, e3, (by decide : 0 + 0 + 1 + 0 + 1 ≤ _), (by decide : 0 + 0 + 14 + 0 + 14 ≤ _)⟩)
  dsimp only [Pt.U, Pt.locs, Pt.cells, Pt.slots] at X4 l4 y4 z4 st4 hQ4
  subst l4 y4 z4
  obtain ⟨rfl, N4q, E4⟩ := hQ4
  have N4 := Fr.app N3 N4q
  refine own_goS st4 ?_
  show own_Goes _ _ _ _ _ _ _ T4 (mkF m 32 #[.val (.int p0), .val (.int (4 : Int32)), .val (.ref aSHORT), .val (.ref aUNSIGNED_SHORT)] [(.ref aUNSIGNED_SHORT)])
  have Zs4 : n0 ≤ T4.heap.size := Nat.le_trans Zs2 E4.1
  have Od4 : Old Z n0 T4.heap := Od2.ext E4
  refine own_go (fun _ k => XS.aloadN X4.here hx rfl (hb hby at_32) rfl rfl k) ?_
  show own_Goes _ _ _ _ _ _ _ T4 (mkF m 33 #[.val (.int p0), .val (.int (4 : Int32)), .val (.ref aSHORT), .val (.ref aUNSIGNED_SHORT)] [(.ref aUNSIGNED_SHORT), (.ref aUNSIGNED_SHORT)])
  refine own_go (fun _ k => Jvm.RoadKit.acmp (g := (mkF m 33 #[.val (.int p0), .val (.int (4 : Int32)), .val (.ref aSHORT), .val (.ref aUNSIGNED_SHORT)] [(.ref aUNSIGNED_SHORT), (.ref aUNSIGNED_SHORT)])) X4 hx rfl rfl rfl (pc0 := 33) (pc' := 36) (same := true) rfl (hb hby at_33) rfl (decide_eq_true rfl) (by decide) (by decide) k) ?_
  show own_Goes _ _ _ _ _ _ _ T4 (mkF m 36 #[.val (.int p0), .val (.int (4 : Int32)), .val (.ref aSHORT), .val (.ref aUNSIGNED_SHORT)] [])
  refine own_go (fun _ k => XS.iconst X4.here hx rfl (hb hby at_36) k) ?_
  show own_Goes _ _ _ _ _ _ _ T4 (mkF m 37 #[.val (.int p0), .val (.int (4 : Int32)), .val (.ref aSHORT), .val (.ref aUNSIGNED_SHORT)] [(.int (1 : Int32))])
  refine own_go (fun _ k => XS.goto X4.here hx rfl (pc0 := 37) (pc' := 41) rfl (hb hby at_37) (by decide) (by decide) k) ?_
  show own_Goes _ _ _ _ _ _ _ T4 (mkF m 41 #[.val (.int p0), .val (.int (4 : Int32)), .val (.ref aSHORT), .val (.ref aUNSIGNED_SHORT)] [(.int (1 : Int32))])
  exact own_retN X4 hx (t := .boolean) hlk hret (by simp) (hb hby at_41) (by decide) (by decide) ⟨rfl, N4⟩
set_option maxRecDepth 65536 in
set_option maxHeartbeats 40000000 in
theorem seg8_5 {p : Program} {l : Launch} {e : Env} {s : State} {m : MethodId} {args : Array Value} {below : List Frame} {meth : Method} {c : Code} {s₁ : State} {locs : List Loc} {Z : State} {a0 : Array Value} {h0 : Heap} (p0 : Int32) (aV : Addr) (clV : Cell) (aBOOL aCHAR aSIGNED_CHAR aUNSIGNED_CHAR aSHORT aUNSIGNED_SHORT aINT aUNSIGNED_INT aLONG aUNSIGNED_LONG aLONG_LONG aUNSIGNED_LONG_LONG aINT128 aUNSIGNED_INT128 : Addr)
    (hw : ∀ d ∈ tables_1, d.before a0 Z = true) (C : own_Ctx Z x "com/example/treellis/treellis/cfa/IntegerTypeToUnsignedPinLaw" code maxLocals ret p s m meth c) (X0 : Stand p l e room_1 s m args below meth c s₁ locs 0 0) (e0 : s₁.heap = h0) (n0 : Nat) (Z0 : n0 ≤ h0.size) (N0 : Fr n0 locs) (SS : own_SS Z aBOOL aCHAR aSIGNED_CHAR aUNSIGNED_CHAR aSHORT aUNSIGNED_SHORT aINT aUNSIGNED_INT aLONG aUNSIGNED_LONG aLONG_LONG aUNSIGNED_LONG_LONG aINT128 aUNSIGNED_INT128) (FF : own_FF Z aBOOL aCHAR aSIGNED_CHAR aUNSIGNED_CHAR aSHORT aUNSIGNED_SHORT aINT aUNSIGNED_INT aLONG aUNSIGNED_LONG aLONG_LONG aUNSIGNED_LONG_LONG aINT128 aUNSIGNED_INT128) (VV : own_VV Z aV clV aBOOL aCHAR aSIGNED_CHAR aUNSIGNED_CHAR aSHORT aUNSIGNED_SHORT aINT aUNSIGNED_INT aLONG aUNSIGNED_LONG aLONG_LONG aUNSIGNED_LONG_LONG aINT128 aUNSIGNED_INT128) (Od0 : Old Z n0 h0) :
    own_Goes p e below s (fun v h L => v = some (.int 1) ∧ Fr n0 L) room_1.cells room_1.slots s₁ (mkF m 8 #[.val (.int p0), .val (.int (5 : Int32)), .unset, .unset] []) := by
  obtain ⟨hx, hby, hml, hown, hnm, hret, hlk, hZ⟩ := C
  have FF' := FF
  obtain ⟨⟨E_BOOL, R_BOOL, G_BOOL⟩, ⟨E_CHAR, R_CHAR, G_CHAR⟩, ⟨E_SIGNED_CHAR, R_SIGNED_CHAR, G_SIGNED_CHAR⟩, ⟨E_UNSIGNED_CHAR, R_UNSIGNED_CHAR, G_UNSIGNED_CHAR⟩, ⟨E_SHORT, R_SHORT, G_SHORT⟩, ⟨E_UNSIGNED_SHORT, R_UNSIGNED_SHORT, G_UNSIGNED_SHORT⟩, ⟨E_INT, R_INT, G_INT⟩, ⟨E_UNSIGNED_INT, R_UNSIGNED_INT, G_UNSIGNED_INT⟩, ⟨E_LONG, R_LONG, G_LONG⟩, ⟨E_UNSIGNED_LONG, R_UNSIGNED_LONG, G_UNSIGNED_LONG⟩, ⟨E_LONG_LONG, R_LONG_LONG, G_LONG_LONG⟩, ⟨E_UNSIGNED_LONG_LONG, R_UNSIGNED_LONG_LONG, G_UNSIGNED_LONG_LONG⟩, ⟨E_INT128, R_INT128, G_INT128⟩, ⟨E_UNSIGNED_INT128, R_UNSIGNED_INT128, G_UNSIGNED_INT128⟩⟩ := FF'
  refine own_go (fun _ k => XS.iloadN X0.here hx rfl (hb hby at_8) rfl k) ?_
  show own_Goes _ _ _ _ _ _ _ s₁ (mkF m 9 #[.val (.int p0), .val (.int (5 : Int32)), .unset, .unset] [(.int (5 : Int32))])
  obtain ⟨_, _, ⟨T1, L1, k1, n1⟩, -, X1, ⟨Lc1, hQ1, l1, y1, z1⟩, st1⟩ := Jvm.LawKit.callS X0 hx (y := (⟨"com/example/treellis/treellis/cfa/IntegerTypeToUnsignedPinLaw", "pick", "(I)Lcom/example/treellis/treellis/cfa/IntegerType;"⟩ : MethodName)) hown (mvT hZ (hw _ (List.mem_of_getElem? (i := 1) rfl))) (mvT hZ (hw _ (List.mem_of_getElem? (i := 2) rfl))) (mvT hZ (hw _ (List.mem_of_getElem? (i := 3) rfl))) (mvT hZ (hw _ (List.mem_of_getElem? (i := 4) rfl))) (by decide) (backOf (W := 0) (rm_pick l Z a0 hw [] (5 : Int32) aBOOL aCHAR aSIGNED_CHAR aUNSIGNED_CHAR aSHORT aUNSIGNED_SHORT aINT aUNSIGNED_INT aLONG aUNSIGNED_LONG aLONG_LONG aUNSIGNED_LONG_LONG aINT128 aUNSIGNED_INT128 h0 n0 Z0 SS Od0) hZ (hw _ (List.mem_of_getElem? (i := 4) rfl)) (hw _ (List.mem_of_getElem? (i := 3) rfl)) (by decide) (by decide)) (g := (mkF m 9 #[.val (.int p0), .val (.int (5 : Int32)), .unset, .unset] [(.int (5 : Int32))])) rfl (by rw [hml]; rfl) (argsL := [(.int (5 : Int32))]) (rest := []) (lenOf pd_1 rfl) rfl (by show 2 * 0 + _ ≤ _; exact Nat.le_of_eq rfl) (hb hby at_9) (fun _ _ => ⟨rfl, e0, (by decide : 0 + 0 ≤ _), (by decide : 0 + 0 ≤ _)⟩)
  dsimp only [Pt.U, Pt.locs, Pt.cells, Pt.slots] at X1 l1 y1 z1 st1 hQ1
  subst l1 y1 z1
  obtain ⟨rfl, N1q, e1⟩ := hQ1
  have N1 := Fr.app N0 N1q
  refine own_go st1 ?_
  show own_Goes _ _ _ _ _ _ _ T1 (mkF m 12 #[.val (.int p0), .val (.int (5 : Int32)), .unset, .unset] [(.ref aUNSIGNED_SHORT)])
  refine own_go (fun _ k => XS.astoreN X1.here hx rfl (hb hby at_12) rfl rfl (l' := #[.val (.int p0), .val (.int (5 : Int32)), .val (.ref aUNSIGNED_SHORT), .unset]) rfl k) ?_
  show own_Goes _ _ _ _ _ _ _ T1 (mkF m 13 #[.val (.int p0), .val (.int (5 : Int32)), .val (.ref aUNSIGNED_SHORT), .unset] [])
  refine own_go (fun _ k => XS.aloadN X1.here hx rfl (hb hby at_13) rfl rfl k) ?_
  show own_Goes _ _ _ _ _ _ _ T1 (mkF m 14 #[.val (.int p0), .val (.int (5 : Int32)), .val (.ref aUNSIGNED_SHORT), .unset] [(.ref aUNSIGNED_SHORT)])
  obtain ⟨cq2, kq2, zq2a, zq2b, zq2c⟩ := isOf hZ e1 (E_UNSIGNED_SHORT.ext Od0.2)
  obtain ⟨_, _, ⟨T2, L2, k2, n2⟩, -, X2, ⟨Lc2, hQ2, l2, y2, z2⟩, st2⟩ := X1.virtualBack hx (y := (⟨"com/example/treellis/treellis/cfa/IntegerType", "toUnsigned", "()Lcom/example/treellis/treellis/cfa/IntegerType;"⟩ : MethodName)) (z := (⟨"com/example/treellis/treellis/cfa/IntegerType", "toUnsigned", "()Lcom/example/treellis/treellis/cfa/IntegerType;"⟩ : MethodName)) hown (mvT hZ (hw _ (List.mem_of_getElem? (i := 8) rfl))) (mvT hZ (hw _ (List.mem_of_getElem? (i := 9) rfl))) (notFace_of_selects (args := #[]) (mvT hZ (hw _ (List.mem_of_getElem? (i := 11) rfl)))) (mvT hZ (hw _ (List.mem_of_getElem? (i := 11) rfl))) (mvT hZ (hw _ (List.mem_of_getElem? (i := 10) rfl))) (by decide) (backOf (W := 0) (rmU2 l Z a0 hw [] aUNSIGNED_SHORT aV clV aBOOL aCHAR aSIGNED_CHAR aUNSIGNED_CHAR aSHORT aUNSIGNED_SHORT aINT aUNSIGNED_INT aLONG aUNSIGNED_LONG aLONG_LONG aUNSIGNED_LONG_LONG aINT128 aUNSIGNED_INT128 h0 n0 Z0 VV FF Od0 R_UNSIGNED_SHORT) hZ (hw _ (List.mem_of_getElem? (i := 12) rfl)) (hw _ (List.mem_of_getElem? (i := 6) rfl)) (by decide) (by decide)) zq2a zq2c (g := (mkF m 14 #[.val (.int p0), .val (.int (5 : Int32)), .val (.ref aUNSIGNED_SHORT), .unset] [(.ref aUNSIGNED_SHORT)])) rfl (by rw [hml]; rfl) (Steps.refl _) (argsL := []) (rest := []) (lenOf pd_2 rfl) rfl (by show 2 * 0 + _ ≤ _; exact Nat.le_of_eq rfl) (hb hby at_14) (fun _ _ => ⟨rfl, e1, (by decide : 0 + 0 + 1 ≤ _), (by decide : 0 + 0 + 14 ≤ _)⟩)
  dsimp only [Pt.U, Pt.locs, Pt.cells, Pt.slots] at X2 l2 y2 z2 st2 hQ2
  subst l2 y2 z2
  obtain ⟨rfl, N2q, E2⟩ := hQ2
  have N2 := Fr.app N1 N2q
  refine own_goS st2 ?_
  show own_Goes _ _ _ _ _ _ _ T2 (mkF m 17 #[.val (.int p0), .val (.int (5 : Int32)), .val (.ref aUNSIGNED_SHORT), .unset] [(.ref aUNSIGNED_SHORT)])
  have Zs2 : n0 ≤ T2.heap.size := Nat.le_trans Z0 E2.1
  have Od2 : Old Z n0 T2.heap := Od0.ext E2
  refine own_go (fun _ k => XS.astoreN X2.here hx rfl (hb hby at_17) rfl rfl (l' := #[.val (.int p0), .val (.int (5 : Int32)), .val (.ref aUNSIGNED_SHORT), .val (.ref aUNSIGNED_SHORT)]) rfl k) ?_
  show own_Goes _ _ _ _ _ _ _ T2 (mkF m 18 #[.val (.int p0), .val (.int (5 : Int32)), .val (.ref aUNSIGNED_SHORT), .val (.ref aUNSIGNED_SHORT)] [])
  refine own_go (fun _ k => XS.aloadN X2.here hx rfl (hb hby at_18) rfl rfl k) ?_
  show own_Goes _ _ _ _ _ _ _ T2 (mkF m 19 #[.val (.int p0), .val (.int (5 : Int32)), .val (.ref aUNSIGNED_SHORT), .val (.ref aUNSIGNED_SHORT)] [(.ref aUNSIGNED_SHORT)])
  refine own_go (fun _ k => XS.iloadN X2.here hx rfl (hb hby at_19) rfl k) ?_
  show own_Goes _ _ _ _ _ _ _ T2 (mkF m 20 #[.val (.int p0), .val (.int (5 : Int32)), .val (.ref aUNSIGNED_SHORT), .val (.ref aUNSIGNED_SHORT)] [(.int (5 : Int32)), (.ref aUNSIGNED_SHORT)])
  obtain ⟨_, _, ⟨T3, L3, k3, n3⟩, -, X3, ⟨Lc3, hQ3, l3, y3, z3⟩, st3⟩ := Jvm.LawKit.callS X2 hx (y := (⟨"com/example/treellis/treellis/cfa/IntegerTypeToUnsignedPinLaw", "expected", "(I)Lcom/example/treellis/treellis/cfa/IntegerType;"⟩ : MethodName)) hown (mvT hZ (hw _ (List.mem_of_getElem? (i := 45) rfl))) (mvT hZ (hw _ (List.mem_of_getElem? (i := 46) rfl))) (mvT hZ (hw _ (List.mem_of_getElem? (i := 3) rfl))) (mvT hZ (hw _ (List.mem_of_getElem? (i := 47) rfl))) (by decide) (backOf (W := 1) (rm_expected l Z a0 hw [] (5 : Int32) aBOOL aCHAR aSIGNED_CHAR aUNSIGNED_CHAR aSHORT aUNSIGNED_SHORT aINT aUNSIGNED_INT aLONG aUNSIGNED_LONG aLONG_LONG aUNSIGNED_LONG_LONG aINT128 aUNSIGNED_INT128 T2.heap n0 Zs2 SS Od2) hZ (hw _ (List.mem_of_getElem? (i := 47) rfl)) (hw _ (List.mem_of_getElem? (i := 3) rfl)) (by decide) (by decide)) (g := (mkF m 20 #[.val (.int p0), .val (.int (5 : Int32)), .val (.ref aUNSIGNED_SHORT), .val (.ref aUNSIGNED_SHORT)] [(.int (5 : Int32)), (.ref aUNSIGNED_SHORT)])) rfl (by rw [hml]; rfl) (argsL := [(.int (5 : Int32))]) (rest := [(.ref aUNSIGNED_SHORT)]) (lenOf pd_1 rfl) rfl (by show 2 * 0 + _ ≤ _; exact Nat.le_of_eq rfl) (hb hby at_20) (fun _ _ => ⟨rfl, rfl, (by decide : 0 + 0 + 1 + 0 ≤ _), (by decide : 0 + 0 + 14 + 0 ≤ _)⟩)
  dsimp only [Pt.U, Pt.locs, Pt.cells, Pt.slots] at X3 l3 y3 z3 st3 hQ3
  subst l3 y3 z3
  obtain ⟨rfl, N3q, e3⟩ := hQ3
  have N3 := Fr.app N2 N3q
  refine own_go st3 ?_
  show own_Goes _ _ _ _ _ _ _ T3 (mkF m 23 #[.val (.int p0), .val (.int (5 : Int32)), .val (.ref aUNSIGNED_SHORT), .val (.ref aUNSIGNED_SHORT)] [(.ref aUNSIGNED_SHORT), (.ref aUNSIGNED_SHORT)])
  refine own_go (fun _ k => Jvm.RoadKit.acmp (g := (mkF m 23 #[.val (.int p0), .val (.int (5 : Int32)), .val (.ref aUNSIGNED_SHORT), .val (.ref aUNSIGNED_SHORT)] [(.ref aUNSIGNED_SHORT), (.ref aUNSIGNED_SHORT)])) X3 hx rfl rfl rfl (pc0 := 23) (pc' := 28) (same := true) rfl (hb hby at_23) rfl (decide_eq_true rfl) (by decide) (by decide) k) ?_
  show own_Goes _ _ _ _ _ _ _ T3 (mkF m 28 #[.val (.int p0), .val (.int (5 : Int32)), .val (.ref aUNSIGNED_SHORT), .val (.ref aUNSIGNED_SHORT)] [])
  refine own_go (fun _ k => XS.aloadN X3.here hx rfl (hb hby at_28) rfl rfl k) ?_
  show own_Goes _ _ _ _ _ _ _ T3 (mkF m 29 #[.val (.int p0), .val (.int (5 : Int32)), .val (.ref aUNSIGNED_SHORT), .val (.ref aUNSIGNED_SHORT)] [(.ref aUNSIGNED_SHORT)])
  obtain ⟨cq4, kq4, zq4a, zq4b, zq4c⟩ := isOf hZ e3 (E_UNSIGNED_SHORT.ext Od2.2)
  obtain ⟨_, _, ⟨T4, L4, k4, n4⟩, -, X4, ⟨Lc4, hQ4, l4, y4, z4⟩, st4⟩ := X3.virtualBack hx (y := (⟨"com/example/treellis/treellis/cfa/IntegerType", "toUnsigned", "()Lcom/example/treellis/treellis/cfa/IntegerType;"⟩ : MethodName)) (z := (⟨"com/example/treellis/treellis/cfa/IntegerType", "toUnsigned", "()Lcom/example/treellis/treellis/cfa/IntegerType;"⟩ : MethodName)) hown (mvT hZ (hw _ (List.mem_of_getElem? (i := 8) rfl))) (mvT hZ (hw _ (List.mem_of_getElem? (i := 9) rfl))) (notFace_of_selects (args := #[]) (mvT hZ (hw _ (List.mem_of_getElem? (i := 11) rfl)))) (mvT hZ (hw _ (List.mem_of_getElem? (i := 11) rfl))) (mvT hZ (hw _ (List.mem_of_getElem? (i := 10) rfl))) (by decide) (backOf (W := 0) (rmU2 l Z a0 hw [] aUNSIGNED_SHORT aV clV aBOOL aCHAR aSIGNED_CHAR aUNSIGNED_CHAR aSHORT aUNSIGNED_SHORT aINT aUNSIGNED_INT aLONG aUNSIGNED_LONG aLONG_LONG aUNSIGNED_LONG_LONG aINT128 aUNSIGNED_INT128 T2.heap n0 Zs2 VV FF Od2 R_UNSIGNED_SHORT) hZ (hw _ (List.mem_of_getElem? (i := 12) rfl)) (hw _ (List.mem_of_getElem? (i := 6) rfl)) (by decide) (by decide)) zq4a zq4c (g := (mkF m 29 #[.val (.int p0), .val (.int (5 : Int32)), .val (.ref aUNSIGNED_SHORT), .val (.ref aUNSIGNED_SHORT)] [(.ref aUNSIGNED_SHORT)])) rfl (by rw [hml]; rfl) (Steps.refl _) (argsL := []) (rest := []) (lenOf pd_2 rfl) rfl (by show 2 * 0 + _ ≤ _; exact Nat.le_of_eq rfl) (hb hby at_29) (fun _ _ => ⟨rfl, e3, (by decide : 0 + 0 + 1 + 0 + 1 ≤ _), (by decide : 0 + 0 + 14 + 0 + 14 ≤ _)⟩)
  dsimp only [Pt.U, Pt.locs, Pt.cells, Pt.slots] at X4 l4 y4 z4 st4 hQ4
  subst l4 y4 z4
  obtain ⟨rfl, N4q, E4⟩ := hQ4
  have N4 := Fr.app N3 N4q
  refine own_goS st4 ?_
  show own_Goes _ _ _ _ _ _ _ T4 (mkF m 32 #[.val (.int p0), .val (.int (5 : Int32)), .val (.ref aUNSIGNED_SHORT), .val (.ref aUNSIGNED_SHORT)] [(.ref aUNSIGNED_SHORT)])
  have Zs4 : n0 ≤ T4.heap.size := Nat.le_trans Zs2 E4.1
  have Od4 : Old Z n0 T4.heap := Od2.ext E4
  refine own_go (fun _ k => XS.aloadN X4.here hx rfl (hb hby at_32) rfl rfl k) ?_
  show own_Goes _ _ _ _ _ _ _ T4 (mkF m 33 #[.val (.int p0), .val (.int (5 : Int32)), .val (.ref aUNSIGNED_SHORT), .val (.ref aUNSIGNED_SHORT)] [(.ref aUNSIGNED_SHORT), (.ref aUNSIGNED_SHORT)])
  refine own_go (fun _ k => Jvm.RoadKit.acmp (g := (mkF m 33 #[.val (.int p0), .val (.int (5 : Int32)), .val (.ref aUNSIGNED_SHORT), .val (.ref aUNSIGNED_SHORT)] [(.ref aUNSIGNED_SHORT), (.ref aUNSIGNED_SHORT)])) X4 hx rfl rfl rfl (pc0 := 33) (pc' := 36) (same := true) rfl (hb hby at_33) rfl (decide_eq_true rfl) (by decide) (by decide) k) ?_
  show own_Goes _ _ _ _ _ _ _ T4 (mkF m 36 #[.val (.int p0), .val (.int (5 : Int32)), .val (.ref aUNSIGNED_SHORT), .val (.ref aUNSIGNED_SHORT)] [])
  refine own_go (fun _ k => XS.iconst X4.here hx rfl (hb hby at_36) k) ?_
  show own_Goes _ _ _ _ _ _ _ T4 (mkF m 37 #[.val (.int p0), .val (.int (5 : Int32)), .val (.ref aUNSIGNED_SHORT), .val (.ref aUNSIGNED_SHORT)] [(.int (1 : Int32))])
  refine own_go (fun _ k => XS.goto X4.here hx rfl (pc0 := 37) (pc' := 41) rfl (hb hby at_37) (by decide) (by decide) k) ?_
  show own_Goes _ _ _ _ _ _ _ T4 (mkF m 41 #[.val (.int p0), .val (.int (5 : Int32)), .val (.ref aUNSIGNED_SHORT), .val (.ref aUNSIGNED_SHORT)] [(.int (1 : Int32))])
  exact own_retN X4 hx (t := .boolean) hlk hret (by simp) (hb hby at_41) (by decide) (by decide) ⟨rfl, N4⟩
set_option maxRecDepth 65536 in
set_option maxHeartbeats 40000000 in
theorem seg8_6 {p : Program} {l : Launch} {e : Env} {s : State} {m : MethodId} {args : Array Value} {below : List Frame} {meth : Method} {c : Code} {s₁ : State} {locs : List Loc} {Z : State} {a0 : Array Value} {h0 : Heap} (p0 : Int32) (aV : Addr) (clV : Cell) (aBOOL aCHAR aSIGNED_CHAR aUNSIGNED_CHAR aSHORT aUNSIGNED_SHORT aINT aUNSIGNED_INT aLONG aUNSIGNED_LONG aLONG_LONG aUNSIGNED_LONG_LONG aINT128 aUNSIGNED_INT128 : Addr)
    (hw : ∀ d ∈ tables_1, d.before a0 Z = true) (C : own_Ctx Z x "com/example/treellis/treellis/cfa/IntegerTypeToUnsignedPinLaw" code maxLocals ret p s m meth c) (X0 : Stand p l e room_1 s m args below meth c s₁ locs 0 0) (e0 : s₁.heap = h0) (n0 : Nat) (Z0 : n0 ≤ h0.size) (N0 : Fr n0 locs) (SS : own_SS Z aBOOL aCHAR aSIGNED_CHAR aUNSIGNED_CHAR aSHORT aUNSIGNED_SHORT aINT aUNSIGNED_INT aLONG aUNSIGNED_LONG aLONG_LONG aUNSIGNED_LONG_LONG aINT128 aUNSIGNED_INT128) (FF : own_FF Z aBOOL aCHAR aSIGNED_CHAR aUNSIGNED_CHAR aSHORT aUNSIGNED_SHORT aINT aUNSIGNED_INT aLONG aUNSIGNED_LONG aLONG_LONG aUNSIGNED_LONG_LONG aINT128 aUNSIGNED_INT128) (VV : own_VV Z aV clV aBOOL aCHAR aSIGNED_CHAR aUNSIGNED_CHAR aSHORT aUNSIGNED_SHORT aINT aUNSIGNED_INT aLONG aUNSIGNED_LONG aLONG_LONG aUNSIGNED_LONG_LONG aINT128 aUNSIGNED_INT128) (Od0 : Old Z n0 h0) :
    own_Goes p e below s (fun v h L => v = some (.int 1) ∧ Fr n0 L) room_1.cells room_1.slots s₁ (mkF m 8 #[.val (.int p0), .val (.int (6 : Int32)), .unset, .unset] []) := by
  obtain ⟨hx, hby, hml, hown, hnm, hret, hlk, hZ⟩ := C
  have FF' := FF
  obtain ⟨⟨E_BOOL, R_BOOL, G_BOOL⟩, ⟨E_CHAR, R_CHAR, G_CHAR⟩, ⟨E_SIGNED_CHAR, R_SIGNED_CHAR, G_SIGNED_CHAR⟩, ⟨E_UNSIGNED_CHAR, R_UNSIGNED_CHAR, G_UNSIGNED_CHAR⟩, ⟨E_SHORT, R_SHORT, G_SHORT⟩, ⟨E_UNSIGNED_SHORT, R_UNSIGNED_SHORT, G_UNSIGNED_SHORT⟩, ⟨E_INT, R_INT, G_INT⟩, ⟨E_UNSIGNED_INT, R_UNSIGNED_INT, G_UNSIGNED_INT⟩, ⟨E_LONG, R_LONG, G_LONG⟩, ⟨E_UNSIGNED_LONG, R_UNSIGNED_LONG, G_UNSIGNED_LONG⟩, ⟨E_LONG_LONG, R_LONG_LONG, G_LONG_LONG⟩, ⟨E_UNSIGNED_LONG_LONG, R_UNSIGNED_LONG_LONG, G_UNSIGNED_LONG_LONG⟩, ⟨E_INT128, R_INT128, G_INT128⟩, ⟨E_UNSIGNED_INT128, R_UNSIGNED_INT128, G_UNSIGNED_INT128⟩⟩ := FF'
  refine own_go (fun _ k => XS.iloadN X0.here hx rfl (hb hby at_8) rfl k) ?_
  show own_Goes _ _ _ _ _ _ _ s₁ (mkF m 9 #[.val (.int p0), .val (.int (6 : Int32)), .unset, .unset] [(.int (6 : Int32))])
  obtain ⟨_, _, ⟨T1, L1, k1, n1⟩, -, X1, ⟨Lc1, hQ1, l1, y1, z1⟩, st1⟩ := Jvm.LawKit.callS X0 hx (y := (⟨"com/example/treellis/treellis/cfa/IntegerTypeToUnsignedPinLaw", "pick", "(I)Lcom/example/treellis/treellis/cfa/IntegerType;"⟩ : MethodName)) hown (mvT hZ (hw _ (List.mem_of_getElem? (i := 1) rfl))) (mvT hZ (hw _ (List.mem_of_getElem? (i := 2) rfl))) (mvT hZ (hw _ (List.mem_of_getElem? (i := 3) rfl))) (mvT hZ (hw _ (List.mem_of_getElem? (i := 4) rfl))) (by decide) (backOf (W := 0) (rm_pick l Z a0 hw [] (6 : Int32) aBOOL aCHAR aSIGNED_CHAR aUNSIGNED_CHAR aSHORT aUNSIGNED_SHORT aINT aUNSIGNED_INT aLONG aUNSIGNED_LONG aLONG_LONG aUNSIGNED_LONG_LONG aINT128 aUNSIGNED_INT128 h0 n0 Z0 SS Od0) hZ (hw _ (List.mem_of_getElem? (i := 4) rfl)) (hw _ (List.mem_of_getElem? (i := 3) rfl)) (by decide) (by decide)) (g := (mkF m 9 #[.val (.int p0), .val (.int (6 : Int32)), .unset, .unset] [(.int (6 : Int32))])) rfl (by rw [hml]; rfl) (argsL := [(.int (6 : Int32))]) (rest := []) (lenOf pd_1 rfl) rfl (by show 2 * 0 + _ ≤ _; exact Nat.le_of_eq rfl) (hb hby at_9) (fun _ _ => ⟨rfl, e0, (by decide : 0 + 0 ≤ _), (by decide : 0 + 0 ≤ _)⟩)
  dsimp only [Pt.U, Pt.locs, Pt.cells, Pt.slots] at X1 l1 y1 z1 st1 hQ1
  subst l1 y1 z1
  obtain ⟨rfl, N1q, e1⟩ := hQ1
  have N1 := Fr.app N0 N1q
  refine own_go st1 ?_
  show own_Goes _ _ _ _ _ _ _ T1 (mkF m 12 #[.val (.int p0), .val (.int (6 : Int32)), .unset, .unset] [(.ref aINT)])
  refine own_go (fun _ k => XS.astoreN X1.here hx rfl (hb hby at_12) rfl rfl (l' := #[.val (.int p0), .val (.int (6 : Int32)), .val (.ref aINT), .unset]) rfl k) ?_
  show own_Goes _ _ _ _ _ _ _ T1 (mkF m 13 #[.val (.int p0), .val (.int (6 : Int32)), .val (.ref aINT), .unset] [])
  refine own_go (fun _ k => XS.aloadN X1.here hx rfl (hb hby at_13) rfl rfl k) ?_
  show own_Goes _ _ _ _ _ _ _ T1 (mkF m 14 #[.val (.int p0), .val (.int (6 : Int32)), .val (.ref aINT), .unset] [(.ref aINT)])
  obtain ⟨cq2, kq2, zq2a, zq2b, zq2c⟩ := isOf hZ e1 (E_INT.ext Od0.2)
  obtain ⟨_, _, ⟨T2, L2, k2, n2⟩, -, X2, ⟨Lc2, hQ2, l2, y2, z2⟩, st2⟩ := X1.virtualBack hx (y := (⟨"com/example/treellis/treellis/cfa/IntegerType", "toUnsigned", "()Lcom/example/treellis/treellis/cfa/IntegerType;"⟩ : MethodName)) (z := (⟨"com/example/treellis/treellis/cfa/IntegerType", "toUnsigned", "()Lcom/example/treellis/treellis/cfa/IntegerType;"⟩ : MethodName)) hown (mvT hZ (hw _ (List.mem_of_getElem? (i := 8) rfl))) (mvT hZ (hw _ (List.mem_of_getElem? (i := 9) rfl))) (notFace_of_selects (args := #[]) (mvT hZ (hw _ (List.mem_of_getElem? (i := 11) rfl)))) (mvT hZ (hw _ (List.mem_of_getElem? (i := 11) rfl))) (mvT hZ (hw _ (List.mem_of_getElem? (i := 10) rfl))) (by decide) (backOf (W := 0) (rmU3 l Z a0 hw [] aINT aV clV aBOOL aCHAR aSIGNED_CHAR aUNSIGNED_CHAR aSHORT aUNSIGNED_SHORT aINT aUNSIGNED_INT aLONG aUNSIGNED_LONG aLONG_LONG aUNSIGNED_LONG_LONG aINT128 aUNSIGNED_INT128 h0 n0 Z0 VV FF Od0 R_INT) hZ (hw _ (List.mem_of_getElem? (i := 12) rfl)) (hw _ (List.mem_of_getElem? (i := 6) rfl)) (by decide) (by decide)) zq2a zq2c (g := (mkF m 14 #[.val (.int p0), .val (.int (6 : Int32)), .val (.ref aINT), .unset] [(.ref aINT)])) rfl (by rw [hml]; rfl) (Steps.refl _) (argsL := []) (rest := []) (lenOf pd_2 rfl) rfl (by show 2 * 0 + _ ≤ _; exact Nat.le_of_eq rfl) (hb hby at_14) (fun _ _ => ⟨rfl, e1, (by decide : 0 + 0 + 1 ≤ _), (by decide : 0 + 0 + 14 ≤ _)⟩)
  dsimp only [Pt.U, Pt.locs, Pt.cells, Pt.slots] at X2 l2 y2 z2 st2 hQ2
  subst l2 y2 z2
  obtain ⟨rfl, N2q, E2⟩ := hQ2
  have N2 := Fr.app N1 N2q
  refine own_goS st2 ?_
  show own_Goes _ _ _ _ _ _ _ T2 (mkF m 17 #[.val (.int p0), .val (.int (6 : Int32)), .val (.ref aINT), .unset] [(.ref aUNSIGNED_INT)])
  have Zs2 : n0 ≤ T2.heap.size := Nat.le_trans Z0 E2.1
  have Od2 : Old Z n0 T2.heap := Od0.ext E2
  refine own_go (fun _ k => XS.astoreN X2.here hx rfl (hb hby at_17) rfl rfl (l' := #[.val (.int p0), .val (.int (6 : Int32)), .val (.ref aINT), .val (.ref aUNSIGNED_INT)]) rfl k) ?_
  show own_Goes _ _ _ _ _ _ _ T2 (mkF m 18 #[.val (.int p0), .val (.int (6 : Int32)), .val (.ref aINT), .val (.ref aUNSIGNED_INT)] [])
  refine own_go (fun _ k => XS.aloadN X2.here hx rfl (hb hby at_18) rfl rfl k) ?_
  show own_Goes _ _ _ _ _ _ _ T2 (mkF m 19 #[.val (.int p0), .val (.int (6 : Int32)), .val (.ref aINT), .val (.ref aUNSIGNED_INT)] [(.ref aUNSIGNED_INT)])
  refine own_go (fun _ k => XS.iloadN X2.here hx rfl (hb hby at_19) rfl k) ?_
  show own_Goes _ _ _ _ _ _ _ T2 (mkF m 20 #[.val (.int p0), .val (.int (6 : Int32)), .val (.ref aINT), .val (.ref aUNSIGNED_INT)] [(.int (6 : Int32)), (.ref aUNSIGNED_INT)])
  obtain ⟨_, _, ⟨T3, L3, k3, n3⟩, -, X3, ⟨Lc3, hQ3, l3, y3, z3⟩, st3⟩ := Jvm.LawKit.callS X2 hx (y := (⟨"com/example/treellis/treellis/cfa/IntegerTypeToUnsignedPinLaw", "expected", "(I)Lcom/example/treellis/treellis/cfa/IntegerType;"⟩ : MethodName)) hown (mvT hZ (hw _ (List.mem_of_getElem? (i := 45) rfl))) (mvT hZ (hw _ (List.mem_of_getElem? (i := 46) rfl))) (mvT hZ (hw _ (List.mem_of_getElem? (i := 3) rfl))) (mvT hZ (hw _ (List.mem_of_getElem? (i := 47) rfl))) (by decide) (backOf (W := 1) (rm_expected l Z a0 hw [] (6 : Int32) aBOOL aCHAR aSIGNED_CHAR aUNSIGNED_CHAR aSHORT aUNSIGNED_SHORT aINT aUNSIGNED_INT aLONG aUNSIGNED_LONG aLONG_LONG aUNSIGNED_LONG_LONG aINT128 aUNSIGNED_INT128 T2.heap n0 Zs2 SS Od2) hZ (hw _ (List.mem_of_getElem? (i := 47) rfl)) (hw _ (List.mem_of_getElem? (i := 3) rfl)) (by decide) (by decide)) (g := (mkF m 20 #[.val (.int p0), .val (.int (6 : Int32)), .val (.ref aINT), .val (.ref aUNSIGNED_INT)] [(.int (6 : Int32)), (.ref aUNSIGNED_INT)])) rfl (by rw [hml]; rfl) (argsL := [(.int (6 : Int32))]) (rest := [(.ref aUNSIGNED_INT)]) (lenOf pd_1 rfl) rfl (by show 2 * 0 + _ ≤ _; exact Nat.le_of_eq rfl) (hb hby at_20) (fun _ _ => ⟨rfl, rfl, (by decide : 0 + 0 + 1 + 0 ≤ _), (by decide : 0 + 0 + 14 + 0 ≤ _)⟩)
  dsimp only [Pt.U, Pt.locs, Pt.cells, Pt.slots] at X3 l3 y3 z3 st3 hQ3
  subst l3 y3 z3
  obtain ⟨rfl, N3q, e3⟩ := hQ3
  have N3 := Fr.app N2 N3q
  refine own_go st3 ?_
  show own_Goes _ _ _ _ _ _ _ T3 (mkF m 23 #[.val (.int p0), .val (.int (6 : Int32)), .val (.ref aINT), .val (.ref aUNSIGNED_INT)] [(.ref aUNSIGNED_INT), (.ref aUNSIGNED_INT)])
  refine own_go (fun _ k => Jvm.RoadKit.acmp (g := (mkF m 23 #[.val (.int p0), .val (.int (6 : Int32)), .val (.ref aINT), .val (.ref aUNSIGNED_INT)] [(.ref aUNSIGNED_INT), (.ref aUNSIGNED_INT)])) X3 hx rfl rfl rfl (pc0 := 23) (pc' := 28) (same := true) rfl (hb hby at_23) rfl (decide_eq_true rfl) (by decide) (by decide) k) ?_
  show own_Goes _ _ _ _ _ _ _ T3 (mkF m 28 #[.val (.int p0), .val (.int (6 : Int32)), .val (.ref aINT), .val (.ref aUNSIGNED_INT)] [])
  refine own_go (fun _ k => XS.aloadN X3.here hx rfl (hb hby at_28) rfl rfl k) ?_
  show own_Goes _ _ _ _ _ _ _ T3 (mkF m 29 #[.val (.int p0), .val (.int (6 : Int32)), .val (.ref aINT), .val (.ref aUNSIGNED_INT)] [(.ref aUNSIGNED_INT)])
  obtain ⟨cq4, kq4, zq4a, zq4b, zq4c⟩ := isOf hZ e3 (E_UNSIGNED_INT.ext Od2.2)
  obtain ⟨_, _, ⟨T4, L4, k4, n4⟩, -, X4, ⟨Lc4, hQ4, l4, y4, z4⟩, st4⟩ := X3.virtualBack hx (y := (⟨"com/example/treellis/treellis/cfa/IntegerType", "toUnsigned", "()Lcom/example/treellis/treellis/cfa/IntegerType;"⟩ : MethodName)) (z := (⟨"com/example/treellis/treellis/cfa/IntegerType", "toUnsigned", "()Lcom/example/treellis/treellis/cfa/IntegerType;"⟩ : MethodName)) hown (mvT hZ (hw _ (List.mem_of_getElem? (i := 8) rfl))) (mvT hZ (hw _ (List.mem_of_getElem? (i := 9) rfl))) (notFace_of_selects (args := #[]) (mvT hZ (hw _ (List.mem_of_getElem? (i := 11) rfl)))) (mvT hZ (hw _ (List.mem_of_getElem? (i := 11) rfl))) (mvT hZ (hw _ (List.mem_of_getElem? (i := 10) rfl))) (by decide) (backOf (W := 0) (rmU3 l Z a0 hw [] aUNSIGNED_INT aV clV aBOOL aCHAR aSIGNED_CHAR aUNSIGNED_CHAR aSHORT aUNSIGNED_SHORT aINT aUNSIGNED_INT aLONG aUNSIGNED_LONG aLONG_LONG aUNSIGNED_LONG_LONG aINT128 aUNSIGNED_INT128 T2.heap n0 Zs2 VV FF Od2 R_UNSIGNED_INT) hZ (hw _ (List.mem_of_getElem? (i := 12) rfl)) (hw _ (List.mem_of_getElem? (i := 6) rfl)) (by decide) (by decide)) zq4a zq4c (g := (mkF m 29 #[.val (.int p0), .val (.int (6 : Int32)), .val (.ref aINT), .val (.ref aUNSIGNED_INT)] [(.ref aUNSIGNED_INT)])) rfl (by rw [hml]; rfl) (Steps.refl _) (argsL := []) (rest := []) (lenOf pd_2 rfl) rfl (by show 2 * 0 + _ ≤ _; exact Nat.le_of_eq rfl) (hb hby at_29) (fun _ _ => ⟨rfl, e3, (by decide : 0 + 0 + 1 + 0 + 1 ≤ _), (by decide : 0 + 0 + 14 + 0 + 14 ≤ _)⟩)
  dsimp only [Pt.U, Pt.locs, Pt.cells, Pt.slots] at X4 l4 y4 z4 st4 hQ4
  subst l4 y4 z4
  obtain ⟨rfl, N4q, E4⟩ := hQ4
  have N4 := Fr.app N3 N4q
  refine own_goS st4 ?_
  show own_Goes _ _ _ _ _ _ _ T4 (mkF m 32 #[.val (.int p0), .val (.int (6 : Int32)), .val (.ref aINT), .val (.ref aUNSIGNED_INT)] [(.ref aUNSIGNED_INT)])
  have Zs4 : n0 ≤ T4.heap.size := Nat.le_trans Zs2 E4.1
  have Od4 : Old Z n0 T4.heap := Od2.ext E4
  refine own_go (fun _ k => XS.aloadN X4.here hx rfl (hb hby at_32) rfl rfl k) ?_
  show own_Goes _ _ _ _ _ _ _ T4 (mkF m 33 #[.val (.int p0), .val (.int (6 : Int32)), .val (.ref aINT), .val (.ref aUNSIGNED_INT)] [(.ref aUNSIGNED_INT), (.ref aUNSIGNED_INT)])
  refine own_go (fun _ k => Jvm.RoadKit.acmp (g := (mkF m 33 #[.val (.int p0), .val (.int (6 : Int32)), .val (.ref aINT), .val (.ref aUNSIGNED_INT)] [(.ref aUNSIGNED_INT), (.ref aUNSIGNED_INT)])) X4 hx rfl rfl rfl (pc0 := 33) (pc' := 36) (same := true) rfl (hb hby at_33) rfl (decide_eq_true rfl) (by decide) (by decide) k) ?_
  show own_Goes _ _ _ _ _ _ _ T4 (mkF m 36 #[.val (.int p0), .val (.int (6 : Int32)), .val (.ref aINT), .val (.ref aUNSIGNED_INT)] [])
  refine own_go (fun _ k => XS.iconst X4.here hx rfl (hb hby at_36) k) ?_
  show own_Goes _ _ _ _ _ _ _ T4 (mkF m 37 #[.val (.int p0), .val (.int (6 : Int32)), .val (.ref aINT), .val (.ref aUNSIGNED_INT)] [(.int (1 : Int32))])
  refine own_go (fun _ k => XS.goto X4.here hx rfl (pc0 := 37) (pc' := 41) rfl (hb hby at_37) (by decide) (by decide) k) ?_
  show own_Goes _ _ _ _ _ _ _ T4 (mkF m 41 #[.val (.int p0), .val (.int (6 : Int32)), .val (.ref aINT), .val (.ref aUNSIGNED_INT)] [(.int (1 : Int32))])
  exact own_retN X4 hx (t := .boolean) hlk hret (by simp) (hb hby at_41) (by decide) (by decide) ⟨rfl, N4⟩
set_option maxRecDepth 65536 in
set_option maxHeartbeats 40000000 in
theorem seg8_7 {p : Program} {l : Launch} {e : Env} {s : State} {m : MethodId} {args : Array Value} {below : List Frame} {meth : Method} {c : Code} {s₁ : State} {locs : List Loc} {Z : State} {a0 : Array Value} {h0 : Heap} (p0 : Int32) (aV : Addr) (clV : Cell) (aBOOL aCHAR aSIGNED_CHAR aUNSIGNED_CHAR aSHORT aUNSIGNED_SHORT aINT aUNSIGNED_INT aLONG aUNSIGNED_LONG aLONG_LONG aUNSIGNED_LONG_LONG aINT128 aUNSIGNED_INT128 : Addr)
    (hw : ∀ d ∈ tables_1, d.before a0 Z = true) (C : own_Ctx Z x "com/example/treellis/treellis/cfa/IntegerTypeToUnsignedPinLaw" code maxLocals ret p s m meth c) (X0 : Stand p l e room_1 s m args below meth c s₁ locs 0 0) (e0 : s₁.heap = h0) (n0 : Nat) (Z0 : n0 ≤ h0.size) (N0 : Fr n0 locs) (SS : own_SS Z aBOOL aCHAR aSIGNED_CHAR aUNSIGNED_CHAR aSHORT aUNSIGNED_SHORT aINT aUNSIGNED_INT aLONG aUNSIGNED_LONG aLONG_LONG aUNSIGNED_LONG_LONG aINT128 aUNSIGNED_INT128) (FF : own_FF Z aBOOL aCHAR aSIGNED_CHAR aUNSIGNED_CHAR aSHORT aUNSIGNED_SHORT aINT aUNSIGNED_INT aLONG aUNSIGNED_LONG aLONG_LONG aUNSIGNED_LONG_LONG aINT128 aUNSIGNED_INT128) (VV : own_VV Z aV clV aBOOL aCHAR aSIGNED_CHAR aUNSIGNED_CHAR aSHORT aUNSIGNED_SHORT aINT aUNSIGNED_INT aLONG aUNSIGNED_LONG aLONG_LONG aUNSIGNED_LONG_LONG aINT128 aUNSIGNED_INT128) (Od0 : Old Z n0 h0) :
    own_Goes p e below s (fun v h L => v = some (.int 1) ∧ Fr n0 L) room_1.cells room_1.slots s₁ (mkF m 8 #[.val (.int p0), .val (.int (7 : Int32)), .unset, .unset] []) := by
  obtain ⟨hx, hby, hml, hown, hnm, hret, hlk, hZ⟩ := C
  have FF' := FF
  obtain ⟨⟨E_BOOL, R_BOOL, G_BOOL⟩, ⟨E_CHAR, R_CHAR, G_CHAR⟩, ⟨E_SIGNED_CHAR, R_SIGNED_CHAR, G_SIGNED_CHAR⟩, ⟨E_UNSIGNED_CHAR, R_UNSIGNED_CHAR, G_UNSIGNED_CHAR⟩, ⟨E_SHORT, R_SHORT, G_SHORT⟩, ⟨E_UNSIGNED_SHORT, R_UNSIGNED_SHORT, G_UNSIGNED_SHORT⟩, ⟨E_INT, R_INT, G_INT⟩, ⟨E_UNSIGNED_INT, R_UNSIGNED_INT, G_UNSIGNED_INT⟩, ⟨E_LONG, R_LONG, G_LONG⟩, ⟨E_UNSIGNED_LONG, R_UNSIGNED_LONG, G_UNSIGNED_LONG⟩, ⟨E_LONG_LONG, R_LONG_LONG, G_LONG_LONG⟩, ⟨E_UNSIGNED_LONG_LONG, R_UNSIGNED_LONG_LONG, G_UNSIGNED_LONG_LONG⟩, ⟨E_INT128, R_INT128, G_INT128⟩, ⟨E_UNSIGNED_INT128, R_UNSIGNED_INT128, G_UNSIGNED_INT128⟩⟩ := FF'
  refine own_go (fun _ k => XS.iloadN X0.here hx rfl (hb hby at_8) rfl k) ?_
  show own_Goes _ _ _ _ _ _ _ s₁ (mkF m 9 #[.val (.int p0), .val (.int (7 : Int32)), .unset, .unset] [(.int (7 : Int32))])
  obtain ⟨_, _, ⟨T1, L1, k1, n1⟩, -, X1, ⟨Lc1, hQ1, l1, y1, z1⟩, st1⟩ := Jvm.LawKit.callS X0 hx (y := (⟨"com/example/treellis/treellis/cfa/IntegerTypeToUnsignedPinLaw", "pick", "(I)Lcom/example/treellis/treellis/cfa/IntegerType;"⟩ : MethodName)) hown (mvT hZ (hw _ (List.mem_of_getElem? (i := 1) rfl))) (mvT hZ (hw _ (List.mem_of_getElem? (i := 2) rfl))) (mvT hZ (hw _ (List.mem_of_getElem? (i := 3) rfl))) (mvT hZ (hw _ (List.mem_of_getElem? (i := 4) rfl))) (by decide) (backOf (W := 0) (rm_pick l Z a0 hw [] (7 : Int32) aBOOL aCHAR aSIGNED_CHAR aUNSIGNED_CHAR aSHORT aUNSIGNED_SHORT aINT aUNSIGNED_INT aLONG aUNSIGNED_LONG aLONG_LONG aUNSIGNED_LONG_LONG aINT128 aUNSIGNED_INT128 h0 n0 Z0 SS Od0) hZ (hw _ (List.mem_of_getElem? (i := 4) rfl)) (hw _ (List.mem_of_getElem? (i := 3) rfl)) (by decide) (by decide)) (g := (mkF m 9 #[.val (.int p0), .val (.int (7 : Int32)), .unset, .unset] [(.int (7 : Int32))])) rfl (by rw [hml]; rfl) (argsL := [(.int (7 : Int32))]) (rest := []) (lenOf pd_1 rfl) rfl (by show 2 * 0 + _ ≤ _; exact Nat.le_of_eq rfl) (hb hby at_9) (fun _ _ => ⟨rfl, e0, (by decide : 0 + 0 ≤ _), (by decide : 0 + 0 ≤ _)⟩)
  dsimp only [Pt.U, Pt.locs, Pt.cells, Pt.slots] at X1 l1 y1 z1 st1 hQ1
  subst l1 y1 z1
  obtain ⟨rfl, N1q, e1⟩ := hQ1
  have N1 := Fr.app N0 N1q
  refine own_go st1 ?_
  show own_Goes _ _ _ _ _ _ _ T1 (mkF m 12 #[.val (.int p0), .val (.int (7 : Int32)), .unset, .unset] [(.ref aUNSIGNED_INT)])
  refine own_go (fun _ k => XS.astoreN X1.here hx rfl (hb hby at_12) rfl rfl (l' := #[.val (.int p0), .val (.int (7 : Int32)), .val (.ref aUNSIGNED_INT), .unset]) rfl k) ?_
  show own_Goes _ _ _ _ _ _ _ T1 (mkF m 13 #[.val (.int p0), .val (.int (7 : Int32)), .val (.ref aUNSIGNED_INT), .unset] [])
  refine own_go (fun _ k => XS.aloadN X1.here hx rfl (hb hby at_13) rfl rfl k) ?_
  show own_Goes _ _ _ _ _ _ _ T1 (mkF m 14 #[.val (.int p0), .val (.int (7 : Int32)), .val (.ref aUNSIGNED_INT), .unset] [(.ref aUNSIGNED_INT)])
  obtain ⟨cq2, kq2, zq2a, zq2b, zq2c⟩ := isOf hZ e1 (E_UNSIGNED_INT.ext Od0.2)
  obtain ⟨_, _, ⟨T2, L2, k2, n2⟩, -, X2, ⟨Lc2, hQ2, l2, y2, z2⟩, st2⟩ := X1.virtualBack hx (y := (⟨"com/example/treellis/treellis/cfa/IntegerType", "toUnsigned", "()Lcom/example/treellis/treellis/cfa/IntegerType;"⟩ : MethodName)) (z := (⟨"com/example/treellis/treellis/cfa/IntegerType", "toUnsigned", "()Lcom/example/treellis/treellis/cfa/IntegerType;"⟩ : MethodName)) hown (mvT hZ (hw _ (List.mem_of_getElem? (i := 8) rfl))) (mvT hZ (hw _ (List.mem_of_getElem? (i := 9) rfl))) (notFace_of_selects (args := #[]) (mvT hZ (hw _ (List.mem_of_getElem? (i := 11) rfl)))) (mvT hZ (hw _ (List.mem_of_getElem? (i := 11) rfl))) (mvT hZ (hw _ (List.mem_of_getElem? (i := 10) rfl))) (by decide) (backOf (W := 0) (rmU3 l Z a0 hw [] aUNSIGNED_INT aV clV aBOOL aCHAR aSIGNED_CHAR aUNSIGNED_CHAR aSHORT aUNSIGNED_SHORT aINT aUNSIGNED_INT aLONG aUNSIGNED_LONG aLONG_LONG aUNSIGNED_LONG_LONG aINT128 aUNSIGNED_INT128 h0 n0 Z0 VV FF Od0 R_UNSIGNED_INT) hZ (hw _ (List.mem_of_getElem? (i := 12) rfl)) (hw _ (List.mem_of_getElem? (i := 6) rfl)) (by decide) (by decide)) zq2a zq2c (g := (mkF m 14 #[.val (.int p0), .val (.int (7 : Int32)), .val (.ref aUNSIGNED_INT), .unset] [(.ref aUNSIGNED_INT)])) rfl (by rw [hml]; rfl) (Steps.refl _) (argsL := []) (rest := []) (lenOf pd_2 rfl) rfl (by show 2 * 0 + _ ≤ _; exact Nat.le_of_eq rfl) (hb hby at_14) (fun _ _ => ⟨rfl, e1, (by decide : 0 + 0 + 1 ≤ _), (by decide : 0 + 0 + 14 ≤ _)⟩)
  dsimp only [Pt.U, Pt.locs, Pt.cells, Pt.slots] at X2 l2 y2 z2 st2 hQ2
  subst l2 y2 z2
  obtain ⟨rfl, N2q, E2⟩ := hQ2
  have N2 := Fr.app N1 N2q
  refine own_goS st2 ?_
  show own_Goes _ _ _ _ _ _ _ T2 (mkF m 17 #[.val (.int p0), .val (.int (7 : Int32)), .val (.ref aUNSIGNED_INT), .unset] [(.ref aUNSIGNED_INT)])
  have Zs2 : n0 ≤ T2.heap.size := Nat.le_trans Z0 E2.1
  have Od2 : Old Z n0 T2.heap := Od0.ext E2
  refine own_go (fun _ k => XS.astoreN X2.here hx rfl (hb hby at_17) rfl rfl (l' := #[.val (.int p0), .val (.int (7 : Int32)), .val (.ref aUNSIGNED_INT), .val (.ref aUNSIGNED_INT)]) rfl k) ?_
  show own_Goes _ _ _ _ _ _ _ T2 (mkF m 18 #[.val (.int p0), .val (.int (7 : Int32)), .val (.ref aUNSIGNED_INT), .val (.ref aUNSIGNED_INT)] [])
  refine own_go (fun _ k => XS.aloadN X2.here hx rfl (hb hby at_18) rfl rfl k) ?_
  show own_Goes _ _ _ _ _ _ _ T2 (mkF m 19 #[.val (.int p0), .val (.int (7 : Int32)), .val (.ref aUNSIGNED_INT), .val (.ref aUNSIGNED_INT)] [(.ref aUNSIGNED_INT)])
  refine own_go (fun _ k => XS.iloadN X2.here hx rfl (hb hby at_19) rfl k) ?_
  show own_Goes _ _ _ _ _ _ _ T2 (mkF m 20 #[.val (.int p0), .val (.int (7 : Int32)), .val (.ref aUNSIGNED_INT), .val (.ref aUNSIGNED_INT)] [(.int (7 : Int32)), (.ref aUNSIGNED_INT)])
  obtain ⟨_, _, ⟨T3, L3, k3, n3⟩, -, X3, ⟨Lc3, hQ3, l3, y3, z3⟩, st3⟩ := Jvm.LawKit.callS X2 hx (y := (⟨"com/example/treellis/treellis/cfa/IntegerTypeToUnsignedPinLaw", "expected", "(I)Lcom/example/treellis/treellis/cfa/IntegerType;"⟩ : MethodName)) hown (mvT hZ (hw _ (List.mem_of_getElem? (i := 45) rfl))) (mvT hZ (hw _ (List.mem_of_getElem? (i := 46) rfl))) (mvT hZ (hw _ (List.mem_of_getElem? (i := 3) rfl))) (mvT hZ (hw _ (List.mem_of_getElem? (i := 47) rfl))) (by decide) (backOf (W := 1) (rm_expected l Z a0 hw [] (7 : Int32) aBOOL aCHAR aSIGNED_CHAR aUNSIGNED_CHAR aSHORT aUNSIGNED_SHORT aINT aUNSIGNED_INT aLONG aUNSIGNED_LONG aLONG_LONG aUNSIGNED_LONG_LONG aINT128 aUNSIGNED_INT128 T2.heap n0 Zs2 SS Od2) hZ (hw _ (List.mem_of_getElem? (i := 47) rfl)) (hw _ (List.mem_of_getElem? (i := 3) rfl)) (by decide) (by decide)) (g := (mkF m 20 #[.val (.int p0), .val (.int (7 : Int32)), .val (.ref aUNSIGNED_INT), .val (.ref aUNSIGNED_INT)] [(.int (7 : Int32)), (.ref aUNSIGNED_INT)])) rfl (by rw [hml]; rfl) (argsL := [(.int (7 : Int32))]) (rest := [(.ref aUNSIGNED_INT)]) (lenOf pd_1 rfl) rfl (by show 2 * 0 + _ ≤ _; exact Nat.le_of_eq rfl) (hb hby at_20) (fun _ _ => ⟨rfl, rfl, (by decide : 0 + 0 + 1 + 0 ≤ _), (by decide : 0 + 0 + 14 + 0 ≤ _)⟩)
  dsimp only [Pt.U, Pt.locs, Pt.cells, Pt.slots] at X3 l3 y3 z3 st3 hQ3
  subst l3 y3 z3
  obtain ⟨rfl, N3q, e3⟩ := hQ3
  have N3 := Fr.app N2 N3q
  refine own_go st3 ?_
  show own_Goes _ _ _ _ _ _ _ T3 (mkF m 23 #[.val (.int p0), .val (.int (7 : Int32)), .val (.ref aUNSIGNED_INT), .val (.ref aUNSIGNED_INT)] [(.ref aUNSIGNED_INT), (.ref aUNSIGNED_INT)])
  refine own_go (fun _ k => Jvm.RoadKit.acmp (g := (mkF m 23 #[.val (.int p0), .val (.int (7 : Int32)), .val (.ref aUNSIGNED_INT), .val (.ref aUNSIGNED_INT)] [(.ref aUNSIGNED_INT), (.ref aUNSIGNED_INT)])) X3 hx rfl rfl rfl (pc0 := 23) (pc' := 28) (same := true) rfl (hb hby at_23) rfl (decide_eq_true rfl) (by decide) (by decide) k) ?_
  show own_Goes _ _ _ _ _ _ _ T3 (mkF m 28 #[.val (.int p0), .val (.int (7 : Int32)), .val (.ref aUNSIGNED_INT), .val (.ref aUNSIGNED_INT)] [])
  refine own_go (fun _ k => XS.aloadN X3.here hx rfl (hb hby at_28) rfl rfl k) ?_
  show own_Goes _ _ _ _ _ _ _ T3 (mkF m 29 #[.val (.int p0), .val (.int (7 : Int32)), .val (.ref aUNSIGNED_INT), .val (.ref aUNSIGNED_INT)] [(.ref aUNSIGNED_INT)])
  obtain ⟨cq4, kq4, zq4a, zq4b, zq4c⟩ := isOf hZ e3 (E_UNSIGNED_INT.ext Od2.2)
  obtain ⟨_, _, ⟨T4, L4, k4, n4⟩, -, X4, ⟨Lc4, hQ4, l4, y4, z4⟩, st4⟩ := X3.virtualBack hx (y := (⟨"com/example/treellis/treellis/cfa/IntegerType", "toUnsigned", "()Lcom/example/treellis/treellis/cfa/IntegerType;"⟩ : MethodName)) (z := (⟨"com/example/treellis/treellis/cfa/IntegerType", "toUnsigned", "()Lcom/example/treellis/treellis/cfa/IntegerType;"⟩ : MethodName)) hown (mvT hZ (hw _ (List.mem_of_getElem? (i := 8) rfl))) (mvT hZ (hw _ (List.mem_of_getElem? (i := 9) rfl))) (notFace_of_selects (args := #[]) (mvT hZ (hw _ (List.mem_of_getElem? (i := 11) rfl)))) (mvT hZ (hw _ (List.mem_of_getElem? (i := 11) rfl))) (mvT hZ (hw _ (List.mem_of_getElem? (i := 10) rfl))) (by decide) (backOf (W := 0) (rmU3 l Z a0 hw [] aUNSIGNED_INT aV clV aBOOL aCHAR aSIGNED_CHAR aUNSIGNED_CHAR aSHORT aUNSIGNED_SHORT aINT aUNSIGNED_INT aLONG aUNSIGNED_LONG aLONG_LONG aUNSIGNED_LONG_LONG aINT128 aUNSIGNED_INT128 T2.heap n0 Zs2 VV FF Od2 R_UNSIGNED_INT) hZ (hw _ (List.mem_of_getElem? (i := 12) rfl)) (hw _ (List.mem_of_getElem? (i := 6) rfl)) (by decide) (by decide)) zq4a zq4c (g := (mkF m 29 #[.val (.int p0), .val (.int (7 : Int32)), .val (.ref aUNSIGNED_INT), .val (.ref aUNSIGNED_INT)] [(.ref aUNSIGNED_INT)])) rfl (by rw [hml]; rfl) (Steps.refl _) (argsL := []) (rest := []) (lenOf pd_2 rfl) rfl (by show 2 * 0 + _ ≤ _; exact Nat.le_of_eq rfl) (hb hby at_29) (fun _ _ => ⟨rfl, e3, (by decide : 0 + 0 + 1 + 0 + 1 ≤ _), (by decide : 0 + 0 + 14 + 0 + 14 ≤ _)⟩)
  dsimp only [Pt.U, Pt.locs, Pt.cells, Pt.slots] at X4 l4 y4 z4 st4 hQ4
  subst l4 y4 z4
  obtain ⟨rfl, N4q, E4⟩ := hQ4
  have N4 := Fr.app N3 N4q
  refine own_goS st4 ?_
  show own_Goes _ _ _ _ _ _ _ T4 (mkF m 32 #[.val (.int p0), .val (.int (7 : Int32)), .val (.ref aUNSIGNED_INT), .val (.ref aUNSIGNED_INT)] [(.ref aUNSIGNED_INT)])
  have Zs4 : n0 ≤ T4.heap.size := Nat.le_trans Zs2 E4.1
  have Od4 : Old Z n0 T4.heap := Od2.ext E4
  refine own_go (fun _ k => XS.aloadN X4.here hx rfl (hb hby at_32) rfl rfl k) ?_
  show own_Goes _ _ _ _ _ _ _ T4 (mkF m 33 #[.val (.int p0), .val (.int (7 : Int32)), .val (.ref aUNSIGNED_INT), .val (.ref aUNSIGNED_INT)] [(.ref aUNSIGNED_INT), (.ref aUNSIGNED_INT)])
  refine own_go (fun _ k => Jvm.RoadKit.acmp (g := (mkF m 33 #[.val (.int p0), .val (.int (7 : Int32)), .val (.ref aUNSIGNED_INT), .val (.ref aUNSIGNED_INT)] [(.ref aUNSIGNED_INT), (.ref aUNSIGNED_INT)])) X4 hx rfl rfl rfl (pc0 := 33) (pc' := 36) (same := true) rfl (hb hby at_33) rfl (decide_eq_true rfl) (by decide) (by decide) k) ?_
  show own_Goes _ _ _ _ _ _ _ T4 (mkF m 36 #[.val (.int p0), .val (.int (7 : Int32)), .val (.ref aUNSIGNED_INT), .val (.ref aUNSIGNED_INT)] [])
  refine own_go (fun _ k => XS.iconst X4.here hx rfl (hb hby at_36) k) ?_
  show own_Goes _ _ _ _ _ _ _ T4 (mkF m 37 #[.val (.int p0), .val (.int (7 : Int32)), .val (.ref aUNSIGNED_INT), .val (.ref aUNSIGNED_INT)] [(.int (1 : Int32))])
  refine own_go (fun _ k => XS.goto X4.here hx rfl (pc0 := 37) (pc' := 41) rfl (hb hby at_37) (by decide) (by decide) k) ?_
  show own_Goes _ _ _ _ _ _ _ T4 (mkF m 41 #[.val (.int p0), .val (.int (7 : Int32)), .val (.ref aUNSIGNED_INT), .val (.ref aUNSIGNED_INT)] [(.int (1 : Int32))])
  exact own_retN X4 hx (t := .boolean) hlk hret (by simp) (hb hby at_41) (by decide) (by decide) ⟨rfl, N4⟩
set_option maxRecDepth 65536 in
set_option maxHeartbeats 40000000 in
theorem seg8_8 {p : Program} {l : Launch} {e : Env} {s : State} {m : MethodId} {args : Array Value} {below : List Frame} {meth : Method} {c : Code} {s₁ : State} {locs : List Loc} {Z : State} {a0 : Array Value} {h0 : Heap} (p0 : Int32) (aV : Addr) (clV : Cell) (aBOOL aCHAR aSIGNED_CHAR aUNSIGNED_CHAR aSHORT aUNSIGNED_SHORT aINT aUNSIGNED_INT aLONG aUNSIGNED_LONG aLONG_LONG aUNSIGNED_LONG_LONG aINT128 aUNSIGNED_INT128 : Addr)
    (hw : ∀ d ∈ tables_1, d.before a0 Z = true) (C : own_Ctx Z x "com/example/treellis/treellis/cfa/IntegerTypeToUnsignedPinLaw" code maxLocals ret p s m meth c) (X0 : Stand p l e room_1 s m args below meth c s₁ locs 0 0) (e0 : s₁.heap = h0) (n0 : Nat) (Z0 : n0 ≤ h0.size) (N0 : Fr n0 locs) (SS : own_SS Z aBOOL aCHAR aSIGNED_CHAR aUNSIGNED_CHAR aSHORT aUNSIGNED_SHORT aINT aUNSIGNED_INT aLONG aUNSIGNED_LONG aLONG_LONG aUNSIGNED_LONG_LONG aINT128 aUNSIGNED_INT128) (FF : own_FF Z aBOOL aCHAR aSIGNED_CHAR aUNSIGNED_CHAR aSHORT aUNSIGNED_SHORT aINT aUNSIGNED_INT aLONG aUNSIGNED_LONG aLONG_LONG aUNSIGNED_LONG_LONG aINT128 aUNSIGNED_INT128) (VV : own_VV Z aV clV aBOOL aCHAR aSIGNED_CHAR aUNSIGNED_CHAR aSHORT aUNSIGNED_SHORT aINT aUNSIGNED_INT aLONG aUNSIGNED_LONG aLONG_LONG aUNSIGNED_LONG_LONG aINT128 aUNSIGNED_INT128) (Od0 : Old Z n0 h0) :
    own_Goes p e below s (fun v h L => v = some (.int 1) ∧ Fr n0 L) room_1.cells room_1.slots s₁ (mkF m 8 #[.val (.int p0), .val (.int (8 : Int32)), .unset, .unset] []) := by
  obtain ⟨hx, hby, hml, hown, hnm, hret, hlk, hZ⟩ := C
  have FF' := FF
  obtain ⟨⟨E_BOOL, R_BOOL, G_BOOL⟩, ⟨E_CHAR, R_CHAR, G_CHAR⟩, ⟨E_SIGNED_CHAR, R_SIGNED_CHAR, G_SIGNED_CHAR⟩, ⟨E_UNSIGNED_CHAR, R_UNSIGNED_CHAR, G_UNSIGNED_CHAR⟩, ⟨E_SHORT, R_SHORT, G_SHORT⟩, ⟨E_UNSIGNED_SHORT, R_UNSIGNED_SHORT, G_UNSIGNED_SHORT⟩, ⟨E_INT, R_INT, G_INT⟩, ⟨E_UNSIGNED_INT, R_UNSIGNED_INT, G_UNSIGNED_INT⟩, ⟨E_LONG, R_LONG, G_LONG⟩, ⟨E_UNSIGNED_LONG, R_UNSIGNED_LONG, G_UNSIGNED_LONG⟩, ⟨E_LONG_LONG, R_LONG_LONG, G_LONG_LONG⟩, ⟨E_UNSIGNED_LONG_LONG, R_UNSIGNED_LONG_LONG, G_UNSIGNED_LONG_LONG⟩, ⟨E_INT128, R_INT128, G_INT128⟩, ⟨E_UNSIGNED_INT128, R_UNSIGNED_INT128, G_UNSIGNED_INT128⟩⟩ := FF'
  refine own_go (fun _ k => XS.iloadN X0.here hx rfl (hb hby at_8) rfl k) ?_
  show own_Goes _ _ _ _ _ _ _ s₁ (mkF m 9 #[.val (.int p0), .val (.int (8 : Int32)), .unset, .unset] [(.int (8 : Int32))])
  obtain ⟨_, _, ⟨T1, L1, k1, n1⟩, -, X1, ⟨Lc1, hQ1, l1, y1, z1⟩, st1⟩ := Jvm.LawKit.callS X0 hx (y := (⟨"com/example/treellis/treellis/cfa/IntegerTypeToUnsignedPinLaw", "pick", "(I)Lcom/example/treellis/treellis/cfa/IntegerType;"⟩ : MethodName)) hown (mvT hZ (hw _ (List.mem_of_getElem? (i := 1) rfl))) (mvT hZ (hw _ (List.mem_of_getElem? (i := 2) rfl))) (mvT hZ (hw _ (List.mem_of_getElem? (i := 3) rfl))) (mvT hZ (hw _ (List.mem_of_getElem? (i := 4) rfl))) (by decide) (backOf (W := 0) (rm_pick l Z a0 hw [] (8 : Int32) aBOOL aCHAR aSIGNED_CHAR aUNSIGNED_CHAR aSHORT aUNSIGNED_SHORT aINT aUNSIGNED_INT aLONG aUNSIGNED_LONG aLONG_LONG aUNSIGNED_LONG_LONG aINT128 aUNSIGNED_INT128 h0 n0 Z0 SS Od0) hZ (hw _ (List.mem_of_getElem? (i := 4) rfl)) (hw _ (List.mem_of_getElem? (i := 3) rfl)) (by decide) (by decide)) (g := (mkF m 9 #[.val (.int p0), .val (.int (8 : Int32)), .unset, .unset] [(.int (8 : Int32))])) rfl (by rw [hml]; rfl) (argsL := [(.int (8 : Int32))]) (rest := []) (lenOf pd_1 rfl) rfl (by show 2 * 0 + _ ≤ _; exact Nat.le_of_eq rfl) (hb hby at_9) (fun _ _ => ⟨rfl, e0, (by decide : 0 + 0 ≤ _), (by decide : 0 + 0 ≤ _)⟩)
  dsimp only [Pt.U, Pt.locs, Pt.cells, Pt.slots] at X1 l1 y1 z1 st1 hQ1
  subst l1 y1 z1
  obtain ⟨rfl, N1q, e1⟩ := hQ1
  have N1 := Fr.app N0 N1q
  refine own_go st1 ?_
  show own_Goes _ _ _ _ _ _ _ T1 (mkF m 12 #[.val (.int p0), .val (.int (8 : Int32)), .unset, .unset] [(.ref aLONG)])
  refine own_go (fun _ k => XS.astoreN X1.here hx rfl (hb hby at_12) rfl rfl (l' := #[.val (.int p0), .val (.int (8 : Int32)), .val (.ref aLONG), .unset]) rfl k) ?_
  show own_Goes _ _ _ _ _ _ _ T1 (mkF m 13 #[.val (.int p0), .val (.int (8 : Int32)), .val (.ref aLONG), .unset] [])
  refine own_go (fun _ k => XS.aloadN X1.here hx rfl (hb hby at_13) rfl rfl k) ?_
  show own_Goes _ _ _ _ _ _ _ T1 (mkF m 14 #[.val (.int p0), .val (.int (8 : Int32)), .val (.ref aLONG), .unset] [(.ref aLONG)])
  obtain ⟨cq2, kq2, zq2a, zq2b, zq2c⟩ := isOf hZ e1 (E_LONG.ext Od0.2)
  obtain ⟨_, _, ⟨T2, L2, k2, n2⟩, -, X2, ⟨Lc2, hQ2, l2, y2, z2⟩, st2⟩ := X1.virtualBack hx (y := (⟨"com/example/treellis/treellis/cfa/IntegerType", "toUnsigned", "()Lcom/example/treellis/treellis/cfa/IntegerType;"⟩ : MethodName)) (z := (⟨"com/example/treellis/treellis/cfa/IntegerType", "toUnsigned", "()Lcom/example/treellis/treellis/cfa/IntegerType;"⟩ : MethodName)) hown (mvT hZ (hw _ (List.mem_of_getElem? (i := 8) rfl))) (mvT hZ (hw _ (List.mem_of_getElem? (i := 9) rfl))) (notFace_of_selects (args := #[]) (mvT hZ (hw _ (List.mem_of_getElem? (i := 11) rfl)))) (mvT hZ (hw _ (List.mem_of_getElem? (i := 11) rfl))) (mvT hZ (hw _ (List.mem_of_getElem? (i := 10) rfl))) (by decide) (backOf (W := 0) (rmU4 l Z a0 hw [] aLONG aV clV aBOOL aCHAR aSIGNED_CHAR aUNSIGNED_CHAR aSHORT aUNSIGNED_SHORT aINT aUNSIGNED_INT aLONG aUNSIGNED_LONG aLONG_LONG aUNSIGNED_LONG_LONG aINT128 aUNSIGNED_INT128 h0 n0 Z0 VV FF Od0 R_LONG) hZ (hw _ (List.mem_of_getElem? (i := 12) rfl)) (hw _ (List.mem_of_getElem? (i := 6) rfl)) (by decide) (by decide)) zq2a zq2c (g := (mkF m 14 #[.val (.int p0), .val (.int (8 : Int32)), .val (.ref aLONG), .unset] [(.ref aLONG)])) rfl (by rw [hml]; rfl) (Steps.refl _) (argsL := []) (rest := []) (lenOf pd_2 rfl) rfl (by show 2 * 0 + _ ≤ _; exact Nat.le_of_eq rfl) (hb hby at_14) (fun _ _ => ⟨rfl, e1, (by decide : 0 + 0 + 1 ≤ _), (by decide : 0 + 0 + 14 ≤ _)⟩)
  dsimp only [Pt.U, Pt.locs, Pt.cells, Pt.slots] at X2 l2 y2 z2 st2 hQ2
  subst l2 y2 z2
  obtain ⟨rfl, N2q, E2⟩ := hQ2
  have N2 := Fr.app N1 N2q
  refine own_goS st2 ?_
  show own_Goes _ _ _ _ _ _ _ T2 (mkF m 17 #[.val (.int p0), .val (.int (8 : Int32)), .val (.ref aLONG), .unset] [(.ref aUNSIGNED_LONG)])
  have Zs2 : n0 ≤ T2.heap.size := Nat.le_trans Z0 E2.1
  have Od2 : Old Z n0 T2.heap := Od0.ext E2
  refine own_go (fun _ k => XS.astoreN X2.here hx rfl (hb hby at_17) rfl rfl (l' := #[.val (.int p0), .val (.int (8 : Int32)), .val (.ref aLONG), .val (.ref aUNSIGNED_LONG)]) rfl k) ?_
  show own_Goes _ _ _ _ _ _ _ T2 (mkF m 18 #[.val (.int p0), .val (.int (8 : Int32)), .val (.ref aLONG), .val (.ref aUNSIGNED_LONG)] [])
  refine own_go (fun _ k => XS.aloadN X2.here hx rfl (hb hby at_18) rfl rfl k) ?_
  show own_Goes _ _ _ _ _ _ _ T2 (mkF m 19 #[.val (.int p0), .val (.int (8 : Int32)), .val (.ref aLONG), .val (.ref aUNSIGNED_LONG)] [(.ref aUNSIGNED_LONG)])
  refine own_go (fun _ k => XS.iloadN X2.here hx rfl (hb hby at_19) rfl k) ?_
  show own_Goes _ _ _ _ _ _ _ T2 (mkF m 20 #[.val (.int p0), .val (.int (8 : Int32)), .val (.ref aLONG), .val (.ref aUNSIGNED_LONG)] [(.int (8 : Int32)), (.ref aUNSIGNED_LONG)])
  obtain ⟨_, _, ⟨T3, L3, k3, n3⟩, -, X3, ⟨Lc3, hQ3, l3, y3, z3⟩, st3⟩ := Jvm.LawKit.callS X2 hx (y := (⟨"com/example/treellis/treellis/cfa/IntegerTypeToUnsignedPinLaw", "expected", "(I)Lcom/example/treellis/treellis/cfa/IntegerType;"⟩ : MethodName)) hown (mvT hZ (hw _ (List.mem_of_getElem? (i := 45) rfl))) (mvT hZ (hw _ (List.mem_of_getElem? (i := 46) rfl))) (mvT hZ (hw _ (List.mem_of_getElem? (i := 3) rfl))) (mvT hZ (hw _ (List.mem_of_getElem? (i := 47) rfl))) (by decide) (backOf (W := 1) (rm_expected l Z a0 hw [] (8 : Int32) aBOOL aCHAR aSIGNED_CHAR aUNSIGNED_CHAR aSHORT aUNSIGNED_SHORT aINT aUNSIGNED_INT aLONG aUNSIGNED_LONG aLONG_LONG aUNSIGNED_LONG_LONG aINT128 aUNSIGNED_INT128 T2.heap n0 Zs2 SS Od2) hZ (hw _ (List.mem_of_getElem? (i := 47) rfl)) (hw _ (List.mem_of_getElem? (i := 3) rfl)) (by decide) (by decide)) (g := (mkF m 20 #[.val (.int p0), .val (.int (8 : Int32)), .val (.ref aLONG), .val (.ref aUNSIGNED_LONG)] [(.int (8 : Int32)), (.ref aUNSIGNED_LONG)])) rfl (by rw [hml]; rfl) (argsL := [(.int (8 : Int32))]) (rest := [(.ref aUNSIGNED_LONG)]) (lenOf pd_1 rfl) rfl (by show 2 * 0 + _ ≤ _; exact Nat.le_of_eq rfl) (hb hby at_20) (fun _ _ => ⟨rfl, rfl, (by decide : 0 + 0 + 1 + 0 ≤ _), (by decide : 0 + 0 + 14 + 0 ≤ _)⟩)
  dsimp only [Pt.U, Pt.locs, Pt.cells, Pt.slots] at X3 l3 y3 z3 st3 hQ3
  subst l3 y3 z3
  obtain ⟨rfl, N3q, e3⟩ := hQ3
  have N3 := Fr.app N2 N3q
  refine own_go st3 ?_
  show own_Goes _ _ _ _ _ _ _ T3 (mkF m 23 #[.val (.int p0), .val (.int (8 : Int32)), .val (.ref aLONG), .val (.ref aUNSIGNED_LONG)] [(.ref aUNSIGNED_LONG), (.ref aUNSIGNED_LONG)])
  refine own_go (fun _ k => Jvm.RoadKit.acmp (g := (mkF m 23 #[.val (.int p0), .val (.int (8 : Int32)), .val (.ref aLONG), .val (.ref aUNSIGNED_LONG)] [(.ref aUNSIGNED_LONG), (.ref aUNSIGNED_LONG)])) X3 hx rfl rfl rfl (pc0 := 23) (pc' := 28) (same := true) rfl (hb hby at_23) rfl (decide_eq_true rfl) (by decide) (by decide) k) ?_
  show own_Goes _ _ _ _ _ _ _ T3 (mkF m 28 #[.val (.int p0), .val (.int (8 : Int32)), .val (.ref aLONG), .val (.ref aUNSIGNED_LONG)] [])
  refine own_go (fun _ k => XS.aloadN X3.here hx rfl (hb hby at_28) rfl rfl k) ?_
  show own_Goes _ _ _ _ _ _ _ T3 (mkF m 29 #[.val (.int p0), .val (.int (8 : Int32)), .val (.ref aLONG), .val (.ref aUNSIGNED_LONG)] [(.ref aUNSIGNED_LONG)])
  obtain ⟨cq4, kq4, zq4a, zq4b, zq4c⟩ := isOf hZ e3 (E_UNSIGNED_LONG.ext Od2.2)
  obtain ⟨_, _, ⟨T4, L4, k4, n4⟩, -, X4, ⟨Lc4, hQ4, l4, y4, z4⟩, st4⟩ := X3.virtualBack hx (y := (⟨"com/example/treellis/treellis/cfa/IntegerType", "toUnsigned", "()Lcom/example/treellis/treellis/cfa/IntegerType;"⟩ : MethodName)) (z := (⟨"com/example/treellis/treellis/cfa/IntegerType", "toUnsigned", "()Lcom/example/treellis/treellis/cfa/IntegerType;"⟩ : MethodName)) hown (mvT hZ (hw _ (List.mem_of_getElem? (i := 8) rfl))) (mvT hZ (hw _ (List.mem_of_getElem? (i := 9) rfl))) (notFace_of_selects (args := #[]) (mvT hZ (hw _ (List.mem_of_getElem? (i := 11) rfl)))) (mvT hZ (hw _ (List.mem_of_getElem? (i := 11) rfl))) (mvT hZ (hw _ (List.mem_of_getElem? (i := 10) rfl))) (by decide) (backOf (W := 0) (rmU4 l Z a0 hw [] aUNSIGNED_LONG aV clV aBOOL aCHAR aSIGNED_CHAR aUNSIGNED_CHAR aSHORT aUNSIGNED_SHORT aINT aUNSIGNED_INT aLONG aUNSIGNED_LONG aLONG_LONG aUNSIGNED_LONG_LONG aINT128 aUNSIGNED_INT128 T2.heap n0 Zs2 VV FF Od2 R_UNSIGNED_LONG) hZ (hw _ (List.mem_of_getElem? (i := 12) rfl)) (hw _ (List.mem_of_getElem? (i := 6) rfl)) (by decide) (by decide)) zq4a zq4c (g := (mkF m 29 #[.val (.int p0), .val (.int (8 : Int32)), .val (.ref aLONG), .val (.ref aUNSIGNED_LONG)] [(.ref aUNSIGNED_LONG)])) rfl (by rw [hml]; rfl) (Steps.refl _) (argsL := []) (rest := []) (lenOf pd_2 rfl) rfl (by show 2 * 0 + _ ≤ _; exact Nat.le_of_eq rfl) (hb hby at_29) (fun _ _ => ⟨rfl, e3, (by decide : 0 + 0 + 1 + 0 + 1 ≤ _), (by decide : 0 + 0 + 14 + 0 + 14 ≤ _)⟩)
  dsimp only [Pt.U, Pt.locs, Pt.cells, Pt.slots] at X4 l4 y4 z4 st4 hQ4
  subst l4 y4 z4
  obtain ⟨rfl, N4q, E4⟩ := hQ4
  have N4 := Fr.app N3 N4q
  refine own_goS st4 ?_
  show own_Goes _ _ _ _ _ _ _ T4 (mkF m 32 #[.val (.int p0), .val (.int (8 : Int32)), .val (.ref aLONG), .val (.ref aUNSIGNED_LONG)] [(.ref aUNSIGNED_LONG)])
  have Zs4 : n0 ≤ T4.heap.size := Nat.le_trans Zs2 E4.1
  have Od4 : Old Z n0 T4.heap := Od2.ext E4
  refine own_go (fun _ k => XS.aloadN X4.here hx rfl (hb hby at_32) rfl rfl k) ?_
  show own_Goes _ _ _ _ _ _ _ T4 (mkF m 33 #[.val (.int p0), .val (.int (8 : Int32)), .val (.ref aLONG), .val (.ref aUNSIGNED_LONG)] [(.ref aUNSIGNED_LONG), (.ref aUNSIGNED_LONG)])
  refine own_go (fun _ k => Jvm.RoadKit.acmp (g := (mkF m 33 #[.val (.int p0), .val (.int (8 : Int32)), .val (.ref aLONG), .val (.ref aUNSIGNED_LONG)] [(.ref aUNSIGNED_LONG), (.ref aUNSIGNED_LONG)])) X4 hx rfl rfl rfl (pc0 := 33) (pc' := 36) (same := true) rfl (hb hby at_33) rfl (decide_eq_true rfl) (by decide) (by decide) k) ?_
  show own_Goes _ _ _ _ _ _ _ T4 (mkF m 36 #[.val (.int p0), .val (.int (8 : Int32)), .val (.ref aLONG), .val (.ref aUNSIGNED_LONG)] [])
  refine own_go (fun _ k => XS.iconst X4.here hx rfl (hb hby at_36) k) ?_
  show own_Goes _ _ _ _ _ _ _ T4 (mkF m 37 #[.val (.int p0), .val (.int (8 : Int32)), .val (.ref aLONG), .val (.ref aUNSIGNED_LONG)] [(.int (1 : Int32))])
  refine own_go (fun _ k => XS.goto X4.here hx rfl (pc0 := 37) (pc' := 41) rfl (hb hby at_37) (by decide) (by decide) k) ?_
  show own_Goes _ _ _ _ _ _ _ T4 (mkF m 41 #[.val (.int p0), .val (.int (8 : Int32)), .val (.ref aLONG), .val (.ref aUNSIGNED_LONG)] [(.int (1 : Int32))])
  exact own_retN X4 hx (t := .boolean) hlk hret (by simp) (hb hby at_41) (by decide) (by decide) ⟨rfl, N4⟩
set_option maxRecDepth 65536 in
set_option maxHeartbeats 40000000 in
theorem seg8_9 {p : Program} {l : Launch} {e : Env} {s : State} {m : MethodId} {args : Array Value} {below : List Frame} {meth : Method} {c : Code} {s₁ : State} {locs : List Loc} {Z : State} {a0 : Array Value} {h0 : Heap} (p0 : Int32) (aV : Addr) (clV : Cell) (aBOOL aCHAR aSIGNED_CHAR aUNSIGNED_CHAR aSHORT aUNSIGNED_SHORT aINT aUNSIGNED_INT aLONG aUNSIGNED_LONG aLONG_LONG aUNSIGNED_LONG_LONG aINT128 aUNSIGNED_INT128 : Addr)
    (hw : ∀ d ∈ tables_1, d.before a0 Z = true) (C : own_Ctx Z x "com/example/treellis/treellis/cfa/IntegerTypeToUnsignedPinLaw" code maxLocals ret p s m meth c) (X0 : Stand p l e room_1 s m args below meth c s₁ locs 0 0) (e0 : s₁.heap = h0) (n0 : Nat) (Z0 : n0 ≤ h0.size) (N0 : Fr n0 locs) (SS : own_SS Z aBOOL aCHAR aSIGNED_CHAR aUNSIGNED_CHAR aSHORT aUNSIGNED_SHORT aINT aUNSIGNED_INT aLONG aUNSIGNED_LONG aLONG_LONG aUNSIGNED_LONG_LONG aINT128 aUNSIGNED_INT128) (FF : own_FF Z aBOOL aCHAR aSIGNED_CHAR aUNSIGNED_CHAR aSHORT aUNSIGNED_SHORT aINT aUNSIGNED_INT aLONG aUNSIGNED_LONG aLONG_LONG aUNSIGNED_LONG_LONG aINT128 aUNSIGNED_INT128) (VV : own_VV Z aV clV aBOOL aCHAR aSIGNED_CHAR aUNSIGNED_CHAR aSHORT aUNSIGNED_SHORT aINT aUNSIGNED_INT aLONG aUNSIGNED_LONG aLONG_LONG aUNSIGNED_LONG_LONG aINT128 aUNSIGNED_INT128) (Od0 : Old Z n0 h0) :
    own_Goes p e below s (fun v h L => v = some (.int 1) ∧ Fr n0 L) room_1.cells room_1.slots s₁ (mkF m 8 #[.val (.int p0), .val (.int (9 : Int32)), .unset, .unset] []) := by
  obtain ⟨hx, hby, hml, hown, hnm, hret, hlk, hZ⟩ := C
  have FF' := FF
  obtain ⟨⟨E_BOOL, R_BOOL, G_BOOL⟩, ⟨E_CHAR, R_CHAR, G_CHAR⟩, ⟨E_SIGNED_CHAR, R_SIGNED_CHAR, G_SIGNED_CHAR⟩, ⟨E_UNSIGNED_CHAR, R_UNSIGNED_CHAR, G_UNSIGNED_CHAR⟩, ⟨E_SHORT, R_SHORT, G_SHORT⟩, ⟨E_UNSIGNED_SHORT, R_UNSIGNED_SHORT, G_UNSIGNED_SHORT⟩, ⟨E_INT, R_INT, G_INT⟩, ⟨E_UNSIGNED_INT, R_UNSIGNED_INT, G_UNSIGNED_INT⟩, ⟨E_LONG, R_LONG, G_LONG⟩, ⟨E_UNSIGNED_LONG, R_UNSIGNED_LONG, G_UNSIGNED_LONG⟩, ⟨E_LONG_LONG, R_LONG_LONG, G_LONG_LONG⟩, ⟨E_UNSIGNED_LONG_LONG, R_UNSIGNED_LONG_LONG, G_UNSIGNED_LONG_LONG⟩, ⟨E_INT128, R_INT128, G_INT128⟩, ⟨E_UNSIGNED_INT128, R_UNSIGNED_INT128, G_UNSIGNED_INT128⟩⟩ := FF'
  refine own_go (fun _ k => XS.iloadN X0.here hx rfl (hb hby at_8) rfl k) ?_
  show own_Goes _ _ _ _ _ _ _ s₁ (mkF m 9 #[.val (.int p0), .val (.int (9 : Int32)), .unset, .unset] [(.int (9 : Int32))])
  obtain ⟨_, _, ⟨T1, L1, k1, n1⟩, -, X1, ⟨Lc1, hQ1, l1, y1, z1⟩, st1⟩ := Jvm.LawKit.callS X0 hx (y := (⟨"com/example/treellis/treellis/cfa/IntegerTypeToUnsignedPinLaw", "pick", "(I)Lcom/example/treellis/treellis/cfa/IntegerType;"⟩ : MethodName)) hown (mvT hZ (hw _ (List.mem_of_getElem? (i := 1) rfl))) (mvT hZ (hw _ (List.mem_of_getElem? (i := 2) rfl))) (mvT hZ (hw _ (List.mem_of_getElem? (i := 3) rfl))) (mvT hZ (hw _ (List.mem_of_getElem? (i := 4) rfl))) (by decide) (backOf (W := 0) (rm_pick l Z a0 hw [] (9 : Int32) aBOOL aCHAR aSIGNED_CHAR aUNSIGNED_CHAR aSHORT aUNSIGNED_SHORT aINT aUNSIGNED_INT aLONG aUNSIGNED_LONG aLONG_LONG aUNSIGNED_LONG_LONG aINT128 aUNSIGNED_INT128 h0 n0 Z0 SS Od0) hZ (hw _ (List.mem_of_getElem? (i := 4) rfl)) (hw _ (List.mem_of_getElem? (i := 3) rfl)) (by decide) (by decide)) (g := (mkF m 9 #[.val (.int p0), .val (.int (9 : Int32)), .unset, .unset] [(.int (9 : Int32))])) rfl (by rw [hml]; rfl) (argsL := [(.int (9 : Int32))]) (rest := []) (lenOf pd_1 rfl) rfl (by show 2 * 0 + _ ≤ _; exact Nat.le_of_eq rfl) (hb hby at_9) (fun _ _ => ⟨rfl, e0, (by decide : 0 + 0 ≤ _), (by decide : 0 + 0 ≤ _)⟩)
  dsimp only [Pt.U, Pt.locs, Pt.cells, Pt.slots] at X1 l1 y1 z1 st1 hQ1
  subst l1 y1 z1
  obtain ⟨rfl, N1q, e1⟩ := hQ1
  have N1 := Fr.app N0 N1q
  refine own_go st1 ?_
  show own_Goes _ _ _ _ _ _ _ T1 (mkF m 12 #[.val (.int p0), .val (.int (9 : Int32)), .unset, .unset] [(.ref aUNSIGNED_LONG)])
  refine own_go (fun _ k => XS.astoreN X1.here hx rfl (hb hby at_12) rfl rfl (l' := #[.val (.int p0), .val (.int (9 : Int32)), .val (.ref aUNSIGNED_LONG), .unset]) rfl k) ?_
  show own_Goes _ _ _ _ _ _ _ T1 (mkF m 13 #[.val (.int p0), .val (.int (9 : Int32)), .val (.ref aUNSIGNED_LONG), .unset] [])
  refine own_go (fun _ k => XS.aloadN X1.here hx rfl (hb hby at_13) rfl rfl k) ?_
  show own_Goes _ _ _ _ _ _ _ T1 (mkF m 14 #[.val (.int p0), .val (.int (9 : Int32)), .val (.ref aUNSIGNED_LONG), .unset] [(.ref aUNSIGNED_LONG)])
  obtain ⟨cq2, kq2, zq2a, zq2b, zq2c⟩ := isOf hZ e1 (E_UNSIGNED_LONG.ext Od0.2)
  obtain ⟨_, _, ⟨T2, L2, k2, n2⟩, -, X2, ⟨Lc2, hQ2, l2, y2, z2⟩, st2⟩ := X1.virtualBack hx (y := (⟨"com/example/treellis/treellis/cfa/IntegerType", "toUnsigned", "()Lcom/example/treellis/treellis/cfa/IntegerType;"⟩ : MethodName)) (z := (⟨"com/example/treellis/treellis/cfa/IntegerType", "toUnsigned", "()Lcom/example/treellis/treellis/cfa/IntegerType;"⟩ : MethodName)) hown (mvT hZ (hw _ (List.mem_of_getElem? (i := 8) rfl))) (mvT hZ (hw _ (List.mem_of_getElem? (i := 9) rfl))) (notFace_of_selects (args := #[]) (mvT hZ (hw _ (List.mem_of_getElem? (i := 11) rfl)))) (mvT hZ (hw _ (List.mem_of_getElem? (i := 11) rfl))) (mvT hZ (hw _ (List.mem_of_getElem? (i := 10) rfl))) (by decide) (backOf (W := 0) (rmU4 l Z a0 hw [] aUNSIGNED_LONG aV clV aBOOL aCHAR aSIGNED_CHAR aUNSIGNED_CHAR aSHORT aUNSIGNED_SHORT aINT aUNSIGNED_INT aLONG aUNSIGNED_LONG aLONG_LONG aUNSIGNED_LONG_LONG aINT128 aUNSIGNED_INT128 h0 n0 Z0 VV FF Od0 R_UNSIGNED_LONG) hZ (hw _ (List.mem_of_getElem? (i := 12) rfl)) (hw _ (List.mem_of_getElem? (i := 6) rfl)) (by decide) (by decide)) zq2a zq2c (g := (mkF m 14 #[.val (.int p0), .val (.int (9 : Int32)), .val (.ref aUNSIGNED_LONG), .unset] [(.ref aUNSIGNED_LONG)])) rfl (by rw [hml]; rfl) (Steps.refl _) (argsL := []) (rest := []) (lenOf pd_2 rfl) rfl (by show 2 * 0 + _ ≤ _; exact Nat.le_of_eq rfl) (hb hby at_14) (fun _ _ => ⟨rfl, e1, (by decide : 0 + 0 + 1 ≤ _), (by decide : 0 + 0 + 14 ≤ _)⟩)
  dsimp only [Pt.U, Pt.locs, Pt.cells, Pt.slots] at X2 l2 y2 z2 st2 hQ2
  subst l2 y2 z2
  obtain ⟨rfl, N2q, E2⟩ := hQ2
  have N2 := Fr.app N1 N2q
  refine own_goS st2 ?_
  show own_Goes _ _ _ _ _ _ _ T2 (mkF m 17 #[.val (.int p0), .val (.int (9 : Int32)), .val (.ref aUNSIGNED_LONG), .unset] [(.ref aUNSIGNED_LONG)])
  have Zs2 : n0 ≤ T2.heap.size := Nat.le_trans Z0 E2.1
  have Od2 : Old Z n0 T2.heap := Od0.ext E2
  refine own_go (fun _ k => XS.astoreN X2.here hx rfl (hb hby at_17) rfl rfl (l' := #[.val (.int p0), .val (.int (9 : Int32)), .val (.ref aUNSIGNED_LONG), .val (.ref aUNSIGNED_LONG)]) rfl k) ?_
  show own_Goes _ _ _ _ _ _ _ T2 (mkF m 18 #[.val (.int p0), .val (.int (9 : Int32)), .val (.ref aUNSIGNED_LONG), .val (.ref aUNSIGNED_LONG)] [])
  refine own_go (fun _ k => XS.aloadN X2.here hx rfl (hb hby at_18) rfl rfl k) ?_
  show own_Goes _ _ _ _ _ _ _ T2 (mkF m 19 #[.val (.int p0), .val (.int (9 : Int32)), .val (.ref aUNSIGNED_LONG), .val (.ref aUNSIGNED_LONG)] [(.ref aUNSIGNED_LONG)])
  refine own_go (fun _ k => XS.iloadN X2.here hx rfl (hb hby at_19) rfl k) ?_
  show own_Goes _ _ _ _ _ _ _ T2 (mkF m 20 #[.val (.int p0), .val (.int (9 : Int32)), .val (.ref aUNSIGNED_LONG), .val (.ref aUNSIGNED_LONG)] [(.int (9 : Int32)), (.ref aUNSIGNED_LONG)])
  obtain ⟨_, _, ⟨T3, L3, k3, n3⟩, -, X3, ⟨Lc3, hQ3, l3, y3, z3⟩, st3⟩ := Jvm.LawKit.callS X2 hx (y := (⟨"com/example/treellis/treellis/cfa/IntegerTypeToUnsignedPinLaw", "expected", "(I)Lcom/example/treellis/treellis/cfa/IntegerType;"⟩ : MethodName)) hown (mvT hZ (hw _ (List.mem_of_getElem? (i := 45) rfl))) (mvT hZ (hw _ (List.mem_of_getElem? (i := 46) rfl))) (mvT hZ (hw _ (List.mem_of_getElem? (i := 3) rfl))) (mvT hZ (hw _ (List.mem_of_getElem? (i := 47) rfl))) (by decide) (backOf (W := 1) (rm_expected l Z a0 hw [] (9 : Int32) aBOOL aCHAR aSIGNED_CHAR aUNSIGNED_CHAR aSHORT aUNSIGNED_SHORT aINT aUNSIGNED_INT aLONG aUNSIGNED_LONG aLONG_LONG aUNSIGNED_LONG_LONG aINT128 aUNSIGNED_INT128 T2.heap n0 Zs2 SS Od2) hZ (hw _ (List.mem_of_getElem? (i := 47) rfl)) (hw _ (List.mem_of_getElem? (i := 3) rfl)) (by decide) (by decide)) (g := (mkF m 20 #[.val (.int p0), .val (.int (9 : Int32)), .val (.ref aUNSIGNED_LONG), .val (.ref aUNSIGNED_LONG)] [(.int (9 : Int32)), (.ref aUNSIGNED_LONG)])) rfl (by rw [hml]; rfl) (argsL := [(.int (9 : Int32))]) (rest := [(.ref aUNSIGNED_LONG)]) (lenOf pd_1 rfl) rfl (by show 2 * 0 + _ ≤ _; exact Nat.le_of_eq rfl) (hb hby at_20) (fun _ _ => ⟨rfl, rfl, (by decide : 0 + 0 + 1 + 0 ≤ _), (by decide : 0 + 0 + 14 + 0 ≤ _)⟩)
  dsimp only [Pt.U, Pt.locs, Pt.cells, Pt.slots] at X3 l3 y3 z3 st3 hQ3
  subst l3 y3 z3
  obtain ⟨rfl, N3q, e3⟩ := hQ3
  have N3 := Fr.app N2 N3q
  refine own_go st3 ?_
  show own_Goes _ _ _ _ _ _ _ T3 (mkF m 23 #[.val (.int p0), .val (.int (9 : Int32)), .val (.ref aUNSIGNED_LONG), .val (.ref aUNSIGNED_LONG)] [(.ref aUNSIGNED_LONG), (.ref aUNSIGNED_LONG)])
  refine own_go (fun _ k => Jvm.RoadKit.acmp (g := (mkF m 23 #[.val (.int p0), .val (.int (9 : Int32)), .val (.ref aUNSIGNED_LONG), .val (.ref aUNSIGNED_LONG)] [(.ref aUNSIGNED_LONG), (.ref aUNSIGNED_LONG)])) X3 hx rfl rfl rfl (pc0 := 23) (pc' := 28) (same := true) rfl (hb hby at_23) rfl (decide_eq_true rfl) (by decide) (by decide) k) ?_
  show own_Goes _ _ _ _ _ _ _ T3 (mkF m 28 #[.val (.int p0), .val (.int (9 : Int32)), .val (.ref aUNSIGNED_LONG), .val (.ref aUNSIGNED_LONG)] [])
  refine own_go (fun _ k => XS.aloadN X3.here hx rfl (hb hby at_28) rfl rfl k) ?_
  show own_Goes _ _ _ _ _ _ _ T3 (mkF m 29 #[.val (.int p0), .val (.int (9 : Int32)), .val (.ref aUNSIGNED_LONG), .val (.ref aUNSIGNED_LONG)] [(.ref aUNSIGNED_LONG)])
  obtain ⟨cq4, kq4, zq4a, zq4b, zq4c⟩ := isOf hZ e3 (E_UNSIGNED_LONG.ext Od2.2)
  obtain ⟨_, _, ⟨T4, L4, k4, n4⟩, -, X4, ⟨Lc4, hQ4, l4, y4, z4⟩, st4⟩ := X3.virtualBack hx (y := (⟨"com/example/treellis/treellis/cfa/IntegerType", "toUnsigned", "()Lcom/example/treellis/treellis/cfa/IntegerType;"⟩ : MethodName)) (z := (⟨"com/example/treellis/treellis/cfa/IntegerType", "toUnsigned", "()Lcom/example/treellis/treellis/cfa/IntegerType;"⟩ : MethodName)) hown (mvT hZ (hw _ (List.mem_of_getElem? (i := 8) rfl))) (mvT hZ (hw _ (List.mem_of_getElem? (i := 9) rfl))) (notFace_of_selects (args := #[]) (mvT hZ (hw _ (List.mem_of_getElem? (i := 11) rfl)))) (mvT hZ (hw _ (List.mem_of_getElem? (i := 11) rfl))) (mvT hZ (hw _ (List.mem_of_getElem? (i := 10) rfl))) (by decide) (backOf (W := 0) (rmU4 l Z a0 hw [] aUNSIGNED_LONG aV clV aBOOL aCHAR aSIGNED_CHAR aUNSIGNED_CHAR aSHORT aUNSIGNED_SHORT aINT aUNSIGNED_INT aLONG aUNSIGNED_LONG aLONG_LONG aUNSIGNED_LONG_LONG aINT128 aUNSIGNED_INT128 T2.heap n0 Zs2 VV FF Od2 R_UNSIGNED_LONG) hZ (hw _ (List.mem_of_getElem? (i := 12) rfl)) (hw _ (List.mem_of_getElem? (i := 6) rfl)) (by decide) (by decide)) zq4a zq4c (g := (mkF m 29 #[.val (.int p0), .val (.int (9 : Int32)), .val (.ref aUNSIGNED_LONG), .val (.ref aUNSIGNED_LONG)] [(.ref aUNSIGNED_LONG)])) rfl (by rw [hml]; rfl) (Steps.refl _) (argsL := []) (rest := []) (lenOf pd_2 rfl) rfl (by show 2 * 0 + _ ≤ _; exact Nat.le_of_eq rfl) (hb hby at_29) (fun _ _ => ⟨rfl, e3, (by decide : 0 + 0 + 1 + 0 + 1 ≤ _), (by decide : 0 + 0 + 14 + 0 + 14 ≤ _)⟩)
  dsimp only [Pt.U, Pt.locs, Pt.cells, Pt.slots] at X4 l4 y4 z4 st4 hQ4
  subst l4 y4 z4
  obtain ⟨rfl, N4q, E4⟩ := hQ4
  have N4 := Fr.app N3 N4q
  refine own_goS st4 ?_
  show own_Goes _ _ _ _ _ _ _ T4 (mkF m 32 #[.val (.int p0), .val (.int (9 : Int32)), .val (.ref aUNSIGNED_LONG), .val (.ref aUNSIGNED_LONG)] [(.ref aUNSIGNED_LONG)])
  have Zs4 : n0 ≤ T4.heap.size := Nat.le_trans Zs2 E4.1
  have Od4 : Old Z n0 T4.heap := Od2.ext E4
  refine own_go (fun _ k => XS.aloadN X4.here hx rfl (hb hby at_32) rfl rfl k) ?_
  show own_Goes _ _ _ _ _ _ _ T4 (mkF m 33 #[.val (.int p0), .val (.int (9 : Int32)), .val (.ref aUNSIGNED_LONG), .val (.ref aUNSIGNED_LONG)] [(.ref aUNSIGNED_LONG), (.ref aUNSIGNED_LONG)])
  refine own_go (fun _ k => Jvm.RoadKit.acmp (g := (mkF m 33 #[.val (.int p0), .val (.int (9 : Int32)), .val (.ref aUNSIGNED_LONG), .val (.ref aUNSIGNED_LONG)] [(.ref aUNSIGNED_LONG), (.ref aUNSIGNED_LONG)])) X4 hx rfl rfl rfl (pc0 := 33) (pc' := 36) (same := true) rfl (hb hby at_33) rfl (decide_eq_true rfl) (by decide) (by decide) k) ?_
  show own_Goes _ _ _ _ _ _ _ T4 (mkF m 36 #[.val (.int p0), .val (.int (9 : Int32)), .val (.ref aUNSIGNED_LONG), .val (.ref aUNSIGNED_LONG)] [])
  refine own_go (fun _ k => XS.iconst X4.here hx rfl (hb hby at_36) k) ?_
  show own_Goes _ _ _ _ _ _ _ T4 (mkF m 37 #[.val (.int p0), .val (.int (9 : Int32)), .val (.ref aUNSIGNED_LONG), .val (.ref aUNSIGNED_LONG)] [(.int (1 : Int32))])
  refine own_go (fun _ k => XS.goto X4.here hx rfl (pc0 := 37) (pc' := 41) rfl (hb hby at_37) (by decide) (by decide) k) ?_
  show own_Goes _ _ _ _ _ _ _ T4 (mkF m 41 #[.val (.int p0), .val (.int (9 : Int32)), .val (.ref aUNSIGNED_LONG), .val (.ref aUNSIGNED_LONG)] [(.int (1 : Int32))])
  exact own_retN X4 hx (t := .boolean) hlk hret (by simp) (hb hby at_41) (by decide) (by decide) ⟨rfl, N4⟩
set_option maxRecDepth 65536 in
set_option maxHeartbeats 40000000 in
theorem seg8_10 {p : Program} {l : Launch} {e : Env} {s : State} {m : MethodId} {args : Array Value} {below : List Frame} {meth : Method} {c : Code} {s₁ : State} {locs : List Loc} {Z : State} {a0 : Array Value} {h0 : Heap} (p0 : Int32) (aV : Addr) (clV : Cell) (aBOOL aCHAR aSIGNED_CHAR aUNSIGNED_CHAR aSHORT aUNSIGNED_SHORT aINT aUNSIGNED_INT aLONG aUNSIGNED_LONG aLONG_LONG aUNSIGNED_LONG_LONG aINT128 aUNSIGNED_INT128 : Addr)
    (hw : ∀ d ∈ tables_1, d.before a0 Z = true) (C : own_Ctx Z x "com/example/treellis/treellis/cfa/IntegerTypeToUnsignedPinLaw" code maxLocals ret p s m meth c) (X0 : Stand p l e room_1 s m args below meth c s₁ locs 0 0) (e0 : s₁.heap = h0) (n0 : Nat) (Z0 : n0 ≤ h0.size) (N0 : Fr n0 locs) (SS : own_SS Z aBOOL aCHAR aSIGNED_CHAR aUNSIGNED_CHAR aSHORT aUNSIGNED_SHORT aINT aUNSIGNED_INT aLONG aUNSIGNED_LONG aLONG_LONG aUNSIGNED_LONG_LONG aINT128 aUNSIGNED_INT128) (FF : own_FF Z aBOOL aCHAR aSIGNED_CHAR aUNSIGNED_CHAR aSHORT aUNSIGNED_SHORT aINT aUNSIGNED_INT aLONG aUNSIGNED_LONG aLONG_LONG aUNSIGNED_LONG_LONG aINT128 aUNSIGNED_INT128) (VV : own_VV Z aV clV aBOOL aCHAR aSIGNED_CHAR aUNSIGNED_CHAR aSHORT aUNSIGNED_SHORT aINT aUNSIGNED_INT aLONG aUNSIGNED_LONG aLONG_LONG aUNSIGNED_LONG_LONG aINT128 aUNSIGNED_INT128) (Od0 : Old Z n0 h0) :
    own_Goes p e below s (fun v h L => v = some (.int 1) ∧ Fr n0 L) room_1.cells room_1.slots s₁ (mkF m 8 #[.val (.int p0), .val (.int (10 : Int32)), .unset, .unset] []) := by
  obtain ⟨hx, hby, hml, hown, hnm, hret, hlk, hZ⟩ := C
  have FF' := FF
  obtain ⟨⟨E_BOOL, R_BOOL, G_BOOL⟩, ⟨E_CHAR, R_CHAR, G_CHAR⟩, ⟨E_SIGNED_CHAR, R_SIGNED_CHAR, G_SIGNED_CHAR⟩, ⟨E_UNSIGNED_CHAR, R_UNSIGNED_CHAR, G_UNSIGNED_CHAR⟩, ⟨E_SHORT, R_SHORT, G_SHORT⟩, ⟨E_UNSIGNED_SHORT, R_UNSIGNED_SHORT, G_UNSIGNED_SHORT⟩, ⟨E_INT, R_INT, G_INT⟩, ⟨E_UNSIGNED_INT, R_UNSIGNED_INT, G_UNSIGNED_INT⟩, ⟨E_LONG, R_LONG, G_LONG⟩, ⟨E_UNSIGNED_LONG, R_UNSIGNED_LONG, G_UNSIGNED_LONG⟩, ⟨E_LONG_LONG, R_LONG_LONG, G_LONG_LONG⟩, ⟨E_UNSIGNED_LONG_LONG, R_UNSIGNED_LONG_LONG, G_UNSIGNED_LONG_LONG⟩, ⟨E_INT128, R_INT128, G_INT128⟩, ⟨E_UNSIGNED_INT128, R_UNSIGNED_INT128, G_UNSIGNED_INT128⟩⟩ := FF'
  refine own_go (fun _ k => XS.iloadN X0.here hx rfl (hb hby at_8) rfl k) ?_
  show own_Goes _ _ _ _ _ _ _ s₁ (mkF m 9 #[.val (.int p0), .val (.int (10 : Int32)), .unset, .unset] [(.int (10 : Int32))])
  obtain ⟨_, _, ⟨T1, L1, k1, n1⟩, -, X1, ⟨Lc1, hQ1, l1, y1, z1⟩, st1⟩ := Jvm.LawKit.callS X0 hx (y := (⟨"com/example/treellis/treellis/cfa/IntegerTypeToUnsignedPinLaw", "pick", "(I)Lcom/example/treellis/treellis/cfa/IntegerType;"⟩ : MethodName)) hown (mvT hZ (hw _ (List.mem_of_getElem? (i := 1) rfl))) (mvT hZ (hw _ (List.mem_of_getElem? (i := 2) rfl))) (mvT hZ (hw _ (List.mem_of_getElem? (i := 3) rfl))) (mvT hZ (hw _ (List.mem_of_getElem? (i := 4) rfl))) (by decide) (backOf (W := 0) (rm_pick l Z a0 hw [] (10 : Int32) aBOOL aCHAR aSIGNED_CHAR aUNSIGNED_CHAR aSHORT aUNSIGNED_SHORT aINT aUNSIGNED_INT aLONG aUNSIGNED_LONG aLONG_LONG aUNSIGNED_LONG_LONG aINT128 aUNSIGNED_INT128 h0 n0 Z0 SS Od0) hZ (hw _ (List.mem_of_getElem? (i := 4) rfl)) (hw _ (List.mem_of_getElem? (i := 3) rfl)) (by decide) (by decide)) (g := (mkF m 9 #[.val (.int p0), .val (.int (10 : Int32)), .unset, .unset] [(.int (10 : Int32))])) rfl (by rw [hml]; rfl) (argsL := [(.int (10 : Int32))]) (rest := []) (lenOf pd_1 rfl) rfl (by show 2 * 0 + _ ≤ _; exact Nat.le_of_eq rfl) (hb hby at_9) (fun _ _ => ⟨rfl, e0, (by decide : 0 + 0 ≤ _), (by decide : 0 + 0 ≤ _)⟩)
  dsimp only [Pt.U, Pt.locs, Pt.cells, Pt.slots] at X1 l1 y1 z1 st1 hQ1
  subst l1 y1 z1
  obtain ⟨rfl, N1q, e1⟩ := hQ1
  have N1 := Fr.app N0 N1q
  refine own_go st1 ?_
  show own_Goes _ _ _ _ _ _ _ T1 (mkF m 12 #[.val (.int p0), .val (.int (10 : Int32)), .unset, .unset] [(.ref aLONG_LONG)])
  refine own_go (fun _ k => XS.astoreN X1.here hx rfl (hb hby at_12) rfl rfl (l' := #[.val (.int p0), .val (.int (10 : Int32)), .val (.ref aLONG_LONG), .unset]) rfl k) ?_
  show own_Goes _ _ _ _ _ _ _ T1 (mkF m 13 #[.val (.int p0), .val (.int (10 : Int32)), .val (.ref aLONG_LONG), .unset] [])
  refine own_go (fun _ k => XS.aloadN X1.here hx rfl (hb hby at_13) rfl rfl k) ?_
  show own_Goes _ _ _ _ _ _ _ T1 (mkF m 14 #[.val (.int p0), .val (.int (10 : Int32)), .val (.ref aLONG_LONG), .unset] [(.ref aLONG_LONG)])
  obtain ⟨cq2, kq2, zq2a, zq2b, zq2c⟩ := isOf hZ e1 (E_LONG_LONG.ext Od0.2)
  obtain ⟨_, _, ⟨T2, L2, k2, n2⟩, -, X2, ⟨Lc2, hQ2, l2, y2, z2⟩, st2⟩ := X1.virtualBack hx (y := (⟨"com/example/treellis/treellis/cfa/IntegerType", "toUnsigned", "()Lcom/example/treellis/treellis/cfa/IntegerType;"⟩ : MethodName)) (z := (⟨"com/example/treellis/treellis/cfa/IntegerType", "toUnsigned", "()Lcom/example/treellis/treellis/cfa/IntegerType;"⟩ : MethodName)) hown (mvT hZ (hw _ (List.mem_of_getElem? (i := 8) rfl))) (mvT hZ (hw _ (List.mem_of_getElem? (i := 9) rfl))) (notFace_of_selects (args := #[]) (mvT hZ (hw _ (List.mem_of_getElem? (i := 11) rfl)))) (mvT hZ (hw _ (List.mem_of_getElem? (i := 11) rfl))) (mvT hZ (hw _ (List.mem_of_getElem? (i := 10) rfl))) (by decide) (backOf (W := 0) (rmU5 l Z a0 hw [] aLONG_LONG aV clV aBOOL aCHAR aSIGNED_CHAR aUNSIGNED_CHAR aSHORT aUNSIGNED_SHORT aINT aUNSIGNED_INT aLONG aUNSIGNED_LONG aLONG_LONG aUNSIGNED_LONG_LONG aINT128 aUNSIGNED_INT128 h0 n0 Z0 VV FF Od0 R_LONG_LONG) hZ (hw _ (List.mem_of_getElem? (i := 12) rfl)) (hw _ (List.mem_of_getElem? (i := 6) rfl)) (by decide) (by decide)) zq2a zq2c (g := (mkF m 14 #[.val (.int p0), .val (.int (10 : Int32)), .val (.ref aLONG_LONG), .unset] [(.ref aLONG_LONG)])) rfl (by rw [hml]; rfl) (Steps.refl _) (argsL := []) (rest := []) (lenOf pd_2 rfl) rfl (by show 2 * 0 + _ ≤ _; exact Nat.le_of_eq rfl) (hb hby at_14) (fun _ _ => ⟨rfl, e1, (by decide : 0 + 0 + 1 ≤ _), (by decide : 0 + 0 + 14 ≤ _)⟩)
  dsimp only [Pt.U, Pt.locs, Pt.cells, Pt.slots] at X2 l2 y2 z2 st2 hQ2
  subst l2 y2 z2
  obtain ⟨rfl, N2q, E2⟩ := hQ2
  have N2 := Fr.app N1 N2q
  refine own_goS st2 ?_
  show own_Goes _ _ _ _ _ _ _ T2 (mkF m 17 #[.val (.int p0), .val (.int (10 : Int32)), .val (.ref aLONG_LONG), .unset] [(.ref aUNSIGNED_LONG_LONG)])
  have Zs2 : n0 ≤ T2.heap.size := Nat.le_trans Z0 E2.1
  have Od2 : Old Z n0 T2.heap := Od0.ext E2
  refine own_go (fun _ k => XS.astoreN X2.here hx rfl (hb hby at_17) rfl rfl (l' := #[.val (.int p0), .val (.int (10 : Int32)), .val (.ref aLONG_LONG), .val (.ref aUNSIGNED_LONG_LONG)]) rfl k) ?_
  show own_Goes _ _ _ _ _ _ _ T2 (mkF m 18 #[.val (.int p0), .val (.int (10 : Int32)), .val (.ref aLONG_LONG), .val (.ref aUNSIGNED_LONG_LONG)] [])
  refine own_go (fun _ k => XS.aloadN X2.here hx rfl (hb hby at_18) rfl rfl k) ?_
  show own_Goes _ _ _ _ _ _ _ T2 (mkF m 19 #[.val (.int p0), .val (.int (10 : Int32)), .val (.ref aLONG_LONG), .val (.ref aUNSIGNED_LONG_LONG)] [(.ref aUNSIGNED_LONG_LONG)])
  refine own_go (fun _ k => XS.iloadN X2.here hx rfl (hb hby at_19) rfl k) ?_
  show own_Goes _ _ _ _ _ _ _ T2 (mkF m 20 #[.val (.int p0), .val (.int (10 : Int32)), .val (.ref aLONG_LONG), .val (.ref aUNSIGNED_LONG_LONG)] [(.int (10 : Int32)), (.ref aUNSIGNED_LONG_LONG)])
  obtain ⟨_, _, ⟨T3, L3, k3, n3⟩, -, X3, ⟨Lc3, hQ3, l3, y3, z3⟩, st3⟩ := Jvm.LawKit.callS X2 hx (y := (⟨"com/example/treellis/treellis/cfa/IntegerTypeToUnsignedPinLaw", "expected", "(I)Lcom/example/treellis/treellis/cfa/IntegerType;"⟩ : MethodName)) hown (mvT hZ (hw _ (List.mem_of_getElem? (i := 45) rfl))) (mvT hZ (hw _ (List.mem_of_getElem? (i := 46) rfl))) (mvT hZ (hw _ (List.mem_of_getElem? (i := 3) rfl))) (mvT hZ (hw _ (List.mem_of_getElem? (i := 47) rfl))) (by decide) (backOf (W := 1) (rm_expected l Z a0 hw [] (10 : Int32) aBOOL aCHAR aSIGNED_CHAR aUNSIGNED_CHAR aSHORT aUNSIGNED_SHORT aINT aUNSIGNED_INT aLONG aUNSIGNED_LONG aLONG_LONG aUNSIGNED_LONG_LONG aINT128 aUNSIGNED_INT128 T2.heap n0 Zs2 SS Od2) hZ (hw _ (List.mem_of_getElem? (i := 47) rfl)) (hw _ (List.mem_of_getElem? (i := 3) rfl)) (by decide) (by decide)) (g := (mkF m 20 #[.val (.int p0), .val (.int (10 : Int32)), .val (.ref aLONG_LONG), .val (.ref aUNSIGNED_LONG_LONG)] [(.int (10 : Int32)), (.ref aUNSIGNED_LONG_LONG)])) rfl (by rw [hml]; rfl) (argsL := [(.int (10 : Int32))]) (rest := [(.ref aUNSIGNED_LONG_LONG)]) (lenOf pd_1 rfl) rfl (by show 2 * 0 + _ ≤ _; exact Nat.le_of_eq rfl) (hb hby at_20) (fun _ _ => ⟨rfl, rfl, (by decide : 0 + 0 + 1 + 0 ≤ _), (by decide : 0 + 0 + 14 + 0 ≤ _)⟩)
  dsimp only [Pt.U, Pt.locs, Pt.cells, Pt.slots] at X3 l3 y3 z3 st3 hQ3
  subst l3 y3 z3
  obtain ⟨rfl, N3q, e3⟩ := hQ3
  have N3 := Fr.app N2 N3q
  refine own_go st3 ?_
  show own_Goes _ _ _ _ _ _ _ T3 (mkF m 23 #[.val (.int p0), .val (.int (10 : Int32)), .val (.ref aLONG_LONG), .val (.ref aUNSIGNED_LONG_LONG)] [(.ref aUNSIGNED_LONG_LONG), (.ref aUNSIGNED_LONG_LONG)])
  refine own_go (fun _ k => Jvm.RoadKit.acmp (g := (mkF m 23 #[.val (.int p0), .val (.int (10 : Int32)), .val (.ref aLONG_LONG), .val (.ref aUNSIGNED_LONG_LONG)] [(.ref aUNSIGNED_LONG_LONG), (.ref aUNSIGNED_LONG_LONG)])) X3 hx rfl rfl rfl (pc0 := 23) (pc' := 28) (same := true) rfl (hb hby at_23) rfl (decide_eq_true rfl) (by decide) (by decide) k) ?_
  show own_Goes _ _ _ _ _ _ _ T3 (mkF m 28 #[.val (.int p0), .val (.int (10 : Int32)), .val (.ref aLONG_LONG), .val (.ref aUNSIGNED_LONG_LONG)] [])
  refine own_go (fun _ k => XS.aloadN X3.here hx rfl (hb hby at_28) rfl rfl k) ?_
  show own_Goes _ _ _ _ _ _ _ T3 (mkF m 29 #[.val (.int p0), .val (.int (10 : Int32)), .val (.ref aLONG_LONG), .val (.ref aUNSIGNED_LONG_LONG)] [(.ref aUNSIGNED_LONG_LONG)])
  obtain ⟨cq4, kq4, zq4a, zq4b, zq4c⟩ := isOf hZ e3 (E_UNSIGNED_LONG_LONG.ext Od2.2)
  obtain ⟨_, _, ⟨T4, L4, k4, n4⟩, -, X4, ⟨Lc4, hQ4, l4, y4, z4⟩, st4⟩ := X3.virtualBack hx (y := (⟨"com/example/treellis/treellis/cfa/IntegerType", "toUnsigned", "()Lcom/example/treellis/treellis/cfa/IntegerType;"⟩ : MethodName)) (z := (⟨"com/example/treellis/treellis/cfa/IntegerType", "toUnsigned", "()Lcom/example/treellis/treellis/cfa/IntegerType;"⟩ : MethodName)) hown (mvT hZ (hw _ (List.mem_of_getElem? (i := 8) rfl))) (mvT hZ (hw _ (List.mem_of_getElem? (i := 9) rfl))) (notFace_of_selects (args := #[]) (mvT hZ (hw _ (List.mem_of_getElem? (i := 11) rfl)))) (mvT hZ (hw _ (List.mem_of_getElem? (i := 11) rfl))) (mvT hZ (hw _ (List.mem_of_getElem? (i := 10) rfl))) (by decide) (backOf (W := 0) (rmU5 l Z a0 hw [] aUNSIGNED_LONG_LONG aV clV aBOOL aCHAR aSIGNED_CHAR aUNSIGNED_CHAR aSHORT aUNSIGNED_SHORT aINT aUNSIGNED_INT aLONG aUNSIGNED_LONG aLONG_LONG aUNSIGNED_LONG_LONG aINT128 aUNSIGNED_INT128 T2.heap n0 Zs2 VV FF Od2 R_UNSIGNED_LONG_LONG) hZ (hw _ (List.mem_of_getElem? (i := 12) rfl)) (hw _ (List.mem_of_getElem? (i := 6) rfl)) (by decide) (by decide)) zq4a zq4c (g := (mkF m 29 #[.val (.int p0), .val (.int (10 : Int32)), .val (.ref aLONG_LONG), .val (.ref aUNSIGNED_LONG_LONG)] [(.ref aUNSIGNED_LONG_LONG)])) rfl (by rw [hml]; rfl) (Steps.refl _) (argsL := []) (rest := []) (lenOf pd_2 rfl) rfl (by show 2 * 0 + _ ≤ _; exact Nat.le_of_eq rfl) (hb hby at_29) (fun _ _ => ⟨rfl, e3, (by decide : 0 + 0 + 1 + 0 + 1 ≤ _), (by decide : 0 + 0 + 14 + 0 + 14 ≤ _)⟩)
  dsimp only [Pt.U, Pt.locs, Pt.cells, Pt.slots] at X4 l4 y4 z4 st4 hQ4
  subst l4 y4 z4
  obtain ⟨rfl, N4q, E4⟩ := hQ4
  have N4 := Fr.app N3 N4q
  refine own_goS st4 ?_
  show own_Goes _ _ _ _ _ _ _ T4 (mkF m 32 #[.val (.int p0), .val (.int (10 : Int32)), .val (.ref aLONG_LONG), .val (.ref aUNSIGNED_LONG_LONG)] [(.ref aUNSIGNED_LONG_LONG)])
  have Zs4 : n0 ≤ T4.heap.size := Nat.le_trans Zs2 E4.1
  have Od4 : Old Z n0 T4.heap := Od2.ext E4
  refine own_go (fun _ k => XS.aloadN X4.here hx rfl (hb hby at_32) rfl rfl k) ?_
  show own_Goes _ _ _ _ _ _ _ T4 (mkF m 33 #[.val (.int p0), .val (.int (10 : Int32)), .val (.ref aLONG_LONG), .val (.ref aUNSIGNED_LONG_LONG)] [(.ref aUNSIGNED_LONG_LONG), (.ref aUNSIGNED_LONG_LONG)])
  refine own_go (fun _ k => Jvm.RoadKit.acmp (g := (mkF m 33 #[.val (.int p0), .val (.int (10 : Int32)), .val (.ref aLONG_LONG), .val (.ref aUNSIGNED_LONG_LONG)] [(.ref aUNSIGNED_LONG_LONG), (.ref aUNSIGNED_LONG_LONG)])) X4 hx rfl rfl rfl (pc0 := 33) (pc' := 36) (same := true) rfl (hb hby at_33) rfl (decide_eq_true rfl) (by decide) (by decide) k) ?_
  show own_Goes _ _ _ _ _ _ _ T4 (mkF m 36 #[.val (.int p0), .val (.int (10 : Int32)), .val (.ref aLONG_LONG), .val (.ref aUNSIGNED_LONG_LONG)] [])
  refine own_go (fun _ k => XS.iconst X4.here hx rfl (hb hby at_36) k) ?_
  show own_Goes _ _ _ _ _ _ _ T4 (mkF m 37 #[.val (.int p0), .val (.int (10 : Int32)), .val (.ref aLONG_LONG), .val (.ref aUNSIGNED_LONG_LONG)] [(.int (1 : Int32))])
  refine own_go (fun _ k => XS.goto X4.here hx rfl (pc0 := 37) (pc' := 41) rfl (hb hby at_37) (by decide) (by decide) k) ?_
  show own_Goes _ _ _ _ _ _ _ T4 (mkF m 41 #[.val (.int p0), .val (.int (10 : Int32)), .val (.ref aLONG_LONG), .val (.ref aUNSIGNED_LONG_LONG)] [(.int (1 : Int32))])
  exact own_retN X4 hx (t := .boolean) hlk hret (by simp) (hb hby at_41) (by decide) (by decide) ⟨rfl, N4⟩
set_option maxRecDepth 65536 in
set_option maxHeartbeats 40000000 in
theorem seg8_11 {p : Program} {l : Launch} {e : Env} {s : State} {m : MethodId} {args : Array Value} {below : List Frame} {meth : Method} {c : Code} {s₁ : State} {locs : List Loc} {Z : State} {a0 : Array Value} {h0 : Heap} (p0 : Int32) (aV : Addr) (clV : Cell) (aBOOL aCHAR aSIGNED_CHAR aUNSIGNED_CHAR aSHORT aUNSIGNED_SHORT aINT aUNSIGNED_INT aLONG aUNSIGNED_LONG aLONG_LONG aUNSIGNED_LONG_LONG aINT128 aUNSIGNED_INT128 : Addr)
    (hw : ∀ d ∈ tables_1, d.before a0 Z = true) (C : own_Ctx Z x "com/example/treellis/treellis/cfa/IntegerTypeToUnsignedPinLaw" code maxLocals ret p s m meth c) (X0 : Stand p l e room_1 s m args below meth c s₁ locs 0 0) (e0 : s₁.heap = h0) (n0 : Nat) (Z0 : n0 ≤ h0.size) (N0 : Fr n0 locs) (SS : own_SS Z aBOOL aCHAR aSIGNED_CHAR aUNSIGNED_CHAR aSHORT aUNSIGNED_SHORT aINT aUNSIGNED_INT aLONG aUNSIGNED_LONG aLONG_LONG aUNSIGNED_LONG_LONG aINT128 aUNSIGNED_INT128) (FF : own_FF Z aBOOL aCHAR aSIGNED_CHAR aUNSIGNED_CHAR aSHORT aUNSIGNED_SHORT aINT aUNSIGNED_INT aLONG aUNSIGNED_LONG aLONG_LONG aUNSIGNED_LONG_LONG aINT128 aUNSIGNED_INT128) (VV : own_VV Z aV clV aBOOL aCHAR aSIGNED_CHAR aUNSIGNED_CHAR aSHORT aUNSIGNED_SHORT aINT aUNSIGNED_INT aLONG aUNSIGNED_LONG aLONG_LONG aUNSIGNED_LONG_LONG aINT128 aUNSIGNED_INT128) (Od0 : Old Z n0 h0) :
    own_Goes p e below s (fun v h L => v = some (.int 1) ∧ Fr n0 L) room_1.cells room_1.slots s₁ (mkF m 8 #[.val (.int p0), .val (.int (11 : Int32)), .unset, .unset] []) := by
  obtain ⟨hx, hby, hml, hown, hnm, hret, hlk, hZ⟩ := C
  have FF' := FF
  obtain ⟨⟨E_BOOL, R_BOOL, G_BOOL⟩, ⟨E_CHAR, R_CHAR, G_CHAR⟩, ⟨E_SIGNED_CHAR, R_SIGNED_CHAR, G_SIGNED_CHAR⟩, ⟨E_UNSIGNED_CHAR, R_UNSIGNED_CHAR, G_UNSIGNED_CHAR⟩, ⟨E_SHORT, R_SHORT, G_SHORT⟩, ⟨E_UNSIGNED_SHORT, R_UNSIGNED_SHORT, G_UNSIGNED_SHORT⟩, ⟨E_INT, R_INT, G_INT⟩, ⟨E_UNSIGNED_INT, R_UNSIGNED_INT, G_UNSIGNED_INT⟩, ⟨E_LONG, R_LONG, G_LONG⟩, ⟨E_UNSIGNED_LONG, R_UNSIGNED_LONG, G_UNSIGNED_LONG⟩, ⟨E_LONG_LONG, R_LONG_LONG, G_LONG_LONG⟩, ⟨E_UNSIGNED_LONG_LONG, R_UNSIGNED_LONG_LONG, G_UNSIGNED_LONG_LONG⟩, ⟨E_INT128, R_INT128, G_INT128⟩, ⟨E_UNSIGNED_INT128, R_UNSIGNED_INT128, G_UNSIGNED_INT128⟩⟩ := FF'
  refine own_go (fun _ k => XS.iloadN X0.here hx rfl (hb hby at_8) rfl k) ?_
  show own_Goes _ _ _ _ _ _ _ s₁ (mkF m 9 #[.val (.int p0), .val (.int (11 : Int32)), .unset, .unset] [(.int (11 : Int32))])
  obtain ⟨_, _, ⟨T1, L1, k1, n1⟩, -, X1, ⟨Lc1, hQ1, l1, y1, z1⟩, st1⟩ := Jvm.LawKit.callS X0 hx (y := (⟨"com/example/treellis/treellis/cfa/IntegerTypeToUnsignedPinLaw", "pick", "(I)Lcom/example/treellis/treellis/cfa/IntegerType;"⟩ : MethodName)) hown (mvT hZ (hw _ (List.mem_of_getElem? (i := 1) rfl))) (mvT hZ (hw _ (List.mem_of_getElem? (i := 2) rfl))) (mvT hZ (hw _ (List.mem_of_getElem? (i := 3) rfl))) (mvT hZ (hw _ (List.mem_of_getElem? (i := 4) rfl))) (by decide) (backOf (W := 0) (rm_pick l Z a0 hw [] (11 : Int32) aBOOL aCHAR aSIGNED_CHAR aUNSIGNED_CHAR aSHORT aUNSIGNED_SHORT aINT aUNSIGNED_INT aLONG aUNSIGNED_LONG aLONG_LONG aUNSIGNED_LONG_LONG aINT128 aUNSIGNED_INT128 h0 n0 Z0 SS Od0) hZ (hw _ (List.mem_of_getElem? (i := 4) rfl)) (hw _ (List.mem_of_getElem? (i := 3) rfl)) (by decide) (by decide)) (g := (mkF m 9 #[.val (.int p0), .val (.int (11 : Int32)), .unset, .unset] [(.int (11 : Int32))])) rfl (by rw [hml]; rfl) (argsL := [(.int (11 : Int32))]) (rest := []) (lenOf pd_1 rfl) rfl (by show 2 * 0 + _ ≤ _; exact Nat.le_of_eq rfl) (hb hby at_9) (fun _ _ => ⟨rfl, e0, (by decide : 0 + 0 ≤ _), (by decide : 0 + 0 ≤ _)⟩)
  dsimp only [Pt.U, Pt.locs, Pt.cells, Pt.slots] at X1 l1 y1 z1 st1 hQ1
  subst l1 y1 z1
  obtain ⟨rfl, N1q, e1⟩ := hQ1
  have N1 := Fr.app N0 N1q
  refine own_go st1 ?_
  show own_Goes _ _ _ _ _ _ _ T1 (mkF m 12 #[.val (.int p0), .val (.int (11 : Int32)), .unset, .unset] [(.ref aUNSIGNED_LONG_LONG)])
  refine own_go (fun _ k => XS.astoreN X1.here hx rfl (hb hby at_12) rfl rfl (l' := #[.val (.int p0), .val (.int (11 : Int32)), .val (.ref aUNSIGNED_LONG_LONG), .unset]) rfl k) ?_
  show own_Goes _ _ _ _ _ _ _ T1 (mkF m 13 #[.val (.int p0), .val (.int (11 : Int32)), .val (.ref aUNSIGNED_LONG_LONG), .unset] [])
  refine own_go (fun _ k => XS.aloadN X1.here hx rfl (hb hby at_13) rfl rfl k) ?_
  show own_Goes _ _ _ _ _ _ _ T1 (mkF m 14 #[.val (.int p0), .val (.int (11 : Int32)), .val (.ref aUNSIGNED_LONG_LONG), .unset] [(.ref aUNSIGNED_LONG_LONG)])
  obtain ⟨cq2, kq2, zq2a, zq2b, zq2c⟩ := isOf hZ e1 (E_UNSIGNED_LONG_LONG.ext Od0.2)
  obtain ⟨_, _, ⟨T2, L2, k2, n2⟩, -, X2, ⟨Lc2, hQ2, l2, y2, z2⟩, st2⟩ := X1.virtualBack hx (y := (⟨"com/example/treellis/treellis/cfa/IntegerType", "toUnsigned", "()Lcom/example/treellis/treellis/cfa/IntegerType;"⟩ : MethodName)) (z := (⟨"com/example/treellis/treellis/cfa/IntegerType", "toUnsigned", "()Lcom/example/treellis/treellis/cfa/IntegerType;"⟩ : MethodName)) hown (mvT hZ (hw _ (List.mem_of_getElem? (i := 8) rfl))) (mvT hZ (hw _ (List.mem_of_getElem? (i := 9) rfl))) (notFace_of_selects (args := #[]) (mvT hZ (hw _ (List.mem_of_getElem? (i := 11) rfl)))) (mvT hZ (hw _ (List.mem_of_getElem? (i := 11) rfl))) (mvT hZ (hw _ (List.mem_of_getElem? (i := 10) rfl))) (by decide) (backOf (W := 0) (rmU5 l Z a0 hw [] aUNSIGNED_LONG_LONG aV clV aBOOL aCHAR aSIGNED_CHAR aUNSIGNED_CHAR aSHORT aUNSIGNED_SHORT aINT aUNSIGNED_INT aLONG aUNSIGNED_LONG aLONG_LONG aUNSIGNED_LONG_LONG aINT128 aUNSIGNED_INT128 h0 n0 Z0 VV FF Od0 R_UNSIGNED_LONG_LONG) hZ (hw _ (List.mem_of_getElem? (i := 12) rfl)) (hw _ (List.mem_of_getElem? (i := 6) rfl)) (by decide) (by decide)) zq2a zq2c (g := (mkF m 14 #[.val (.int p0), .val (.int (11 : Int32)), .val (.ref aUNSIGNED_LONG_LONG), .unset] [(.ref aUNSIGNED_LONG_LONG)])) rfl (by rw [hml]; rfl) (Steps.refl _) (argsL := []) (rest := []) (lenOf pd_2 rfl) rfl (by show 2 * 0 + _ ≤ _; exact Nat.le_of_eq rfl) (hb hby at_14) (fun _ _ => ⟨rfl, e1, (by decide : 0 + 0 + 1 ≤ _), (by decide : 0 + 0 + 14 ≤ _)⟩)
  dsimp only [Pt.U, Pt.locs, Pt.cells, Pt.slots] at X2 l2 y2 z2 st2 hQ2
  subst l2 y2 z2
  obtain ⟨rfl, N2q, E2⟩ := hQ2
  have N2 := Fr.app N1 N2q
  refine own_goS st2 ?_
  show own_Goes _ _ _ _ _ _ _ T2 (mkF m 17 #[.val (.int p0), .val (.int (11 : Int32)), .val (.ref aUNSIGNED_LONG_LONG), .unset] [(.ref aUNSIGNED_LONG_LONG)])
  have Zs2 : n0 ≤ T2.heap.size := Nat.le_trans Z0 E2.1
  have Od2 : Old Z n0 T2.heap := Od0.ext E2
  refine own_go (fun _ k => XS.astoreN X2.here hx rfl (hb hby at_17) rfl rfl (l' := #[.val (.int p0), .val (.int (11 : Int32)), .val (.ref aUNSIGNED_LONG_LONG), .val (.ref aUNSIGNED_LONG_LONG)]) rfl k) ?_
  show own_Goes _ _ _ _ _ _ _ T2 (mkF m 18 #[.val (.int p0), .val (.int (11 : Int32)), .val (.ref aUNSIGNED_LONG_LONG), .val (.ref aUNSIGNED_LONG_LONG)] [])
  refine own_go (fun _ k => XS.aloadN X2.here hx rfl (hb hby at_18) rfl rfl k) ?_
  show own_Goes _ _ _ _ _ _ _ T2 (mkF m 19 #[.val (.int p0), .val (.int (11 : Int32)), .val (.ref aUNSIGNED_LONG_LONG), .val (.ref aUNSIGNED_LONG_LONG)] [(.ref aUNSIGNED_LONG_LONG)])
  refine own_go (fun _ k => XS.iloadN X2.here hx rfl (hb hby at_19) rfl k) ?_
  show own_Goes _ _ _ _ _ _ _ T2 (mkF m 20 #[.val (.int p0), .val (.int (11 : Int32)), .val (.ref aUNSIGNED_LONG_LONG), .val (.ref aUNSIGNED_LONG_LONG)] [(.int (11 : Int32)), (.ref aUNSIGNED_LONG_LONG)])
  obtain ⟨_, _, ⟨T3, L3, k3, n3⟩, -, X3, ⟨Lc3, hQ3, l3, y3, z3⟩, st3⟩ := Jvm.LawKit.callS X2 hx (y := (⟨"com/example/treellis/treellis/cfa/IntegerTypeToUnsignedPinLaw", "expected", "(I)Lcom/example/treellis/treellis/cfa/IntegerType;"⟩ : MethodName)) hown (mvT hZ (hw _ (List.mem_of_getElem? (i := 45) rfl))) (mvT hZ (hw _ (List.mem_of_getElem? (i := 46) rfl))) (mvT hZ (hw _ (List.mem_of_getElem? (i := 3) rfl))) (mvT hZ (hw _ (List.mem_of_getElem? (i := 47) rfl))) (by decide) (backOf (W := 1) (rm_expected l Z a0 hw [] (11 : Int32) aBOOL aCHAR aSIGNED_CHAR aUNSIGNED_CHAR aSHORT aUNSIGNED_SHORT aINT aUNSIGNED_INT aLONG aUNSIGNED_LONG aLONG_LONG aUNSIGNED_LONG_LONG aINT128 aUNSIGNED_INT128 T2.heap n0 Zs2 SS Od2) hZ (hw _ (List.mem_of_getElem? (i := 47) rfl)) (hw _ (List.mem_of_getElem? (i := 3) rfl)) (by decide) (by decide)) (g := (mkF m 20 #[.val (.int p0), .val (.int (11 : Int32)), .val (.ref aUNSIGNED_LONG_LONG), .val (.ref aUNSIGNED_LONG_LONG)] [(.int (11 : Int32)), (.ref aUNSIGNED_LONG_LONG)])) rfl (by rw [hml]; rfl) (argsL := [(.int (11 : Int32))]) (rest := [(.ref aUNSIGNED_LONG_LONG)]) (lenOf pd_1 rfl) rfl (by show 2 * 0 + _ ≤ _; exact Nat.le_of_eq rfl) (hb hby at_20) (fun _ _ => ⟨rfl, rfl, (by decide : 0 + 0 + 1 + 0 ≤ _), (by decide : 0 + 0 + 14 + 0 ≤ _)⟩)
  dsimp only [Pt.U, Pt.locs, Pt.cells, Pt.slots] at X3 l3 y3 z3 st3 hQ3
  subst l3 y3 z3
  obtain ⟨rfl, N3q, e3⟩ := hQ3
  have N3 := Fr.app N2 N3q
  refine own_go st3 ?_
  show own_Goes _ _ _ _ _ _ _ T3 (mkF m 23 #[.val (.int p0), .val (.int (11 : Int32)), .val (.ref aUNSIGNED_LONG_LONG), .val (.ref aUNSIGNED_LONG_LONG)] [(.ref aUNSIGNED_LONG_LONG), (.ref aUNSIGNED_LONG_LONG)])
  refine own_go (fun _ k => Jvm.RoadKit.acmp (g := (mkF m 23 #[.val (.int p0), .val (.int (11 : Int32)), .val (.ref aUNSIGNED_LONG_LONG), .val (.ref aUNSIGNED_LONG_LONG)] [(.ref aUNSIGNED_LONG_LONG), (.ref aUNSIGNED_LONG_LONG)])) X3 hx rfl rfl rfl (pc0 := 23) (pc' := 28) (same := true) rfl (hb hby at_23) rfl (decide_eq_true rfl) (by decide) (by decide) k) ?_
  show own_Goes _ _ _ _ _ _ _ T3 (mkF m 28 #[.val (.int p0), .val (.int (11 : Int32)), .val (.ref aUNSIGNED_LONG_LONG), .val (.ref aUNSIGNED_LONG_LONG)] [])
  refine own_go (fun _ k => XS.aloadN X3.here hx rfl (hb hby at_28) rfl rfl k) ?_
  show own_Goes _ _ _ _ _ _ _ T3 (mkF m 29 #[.val (.int p0), .val (.int (11 : Int32)), .val (.ref aUNSIGNED_LONG_LONG), .val (.ref aUNSIGNED_LONG_LONG)] [(.ref aUNSIGNED_LONG_LONG)])
  obtain ⟨cq4, kq4, zq4a, zq4b, zq4c⟩ := isOf hZ e3 (E_UNSIGNED_LONG_LONG.ext Od2.2)
  obtain ⟨_, _, ⟨T4, L4, k4, n4⟩, -, X4, ⟨Lc4, hQ4, l4, y4, z4⟩, st4⟩ := X3.virtualBack hx (y := (⟨"com/example/treellis/treellis/cfa/IntegerType", "toUnsigned", "()Lcom/example/treellis/treellis/cfa/IntegerType;"⟩ : MethodName)) (z := (⟨"com/example/treellis/treellis/cfa/IntegerType", "toUnsigned", "()Lcom/example/treellis/treellis/cfa/IntegerType;"⟩ : MethodName)) hown (mvT hZ (hw _ (List.mem_of_getElem? (i := 8) rfl))) (mvT hZ (hw _ (List.mem_of_getElem? (i := 9) rfl))) (notFace_of_selects (args := #[]) (mvT hZ (hw _ (List.mem_of_getElem? (i := 11) rfl)))) (mvT hZ (hw _ (List.mem_of_getElem? (i := 11) rfl))) (mvT hZ (hw _ (List.mem_of_getElem? (i := 10) rfl))) (by decide) (backOf (W := 0) (rmU5 l Z a0 hw [] aUNSIGNED_LONG_LONG aV clV aBOOL aCHAR aSIGNED_CHAR aUNSIGNED_CHAR aSHORT aUNSIGNED_SHORT aINT aUNSIGNED_INT aLONG aUNSIGNED_LONG aLONG_LONG aUNSIGNED_LONG_LONG aINT128 aUNSIGNED_INT128 T2.heap n0 Zs2 VV FF Od2 R_UNSIGNED_LONG_LONG) hZ (hw _ (List.mem_of_getElem? (i := 12) rfl)) (hw _ (List.mem_of_getElem? (i := 6) rfl)) (by decide) (by decide)) zq4a zq4c (g := (mkF m 29 #[.val (.int p0), .val (.int (11 : Int32)), .val (.ref aUNSIGNED_LONG_LONG), .val (.ref aUNSIGNED_LONG_LONG)] [(.ref aUNSIGNED_LONG_LONG)])) rfl (by rw [hml]; rfl) (Steps.refl _) (argsL := []) (rest := []) (lenOf pd_2 rfl) rfl (by show 2 * 0 + _ ≤ _; exact Nat.le_of_eq rfl) (hb hby at_29) (fun _ _ => ⟨rfl, e3, (by decide : 0 + 0 + 1 + 0 + 1 ≤ _), (by decide : 0 + 0 + 14 + 0 + 14 ≤ _)⟩)
  dsimp only [Pt.U, Pt.locs, Pt.cells, Pt.slots] at X4 l4 y4 z4 st4 hQ4
  subst l4 y4 z4
  obtain ⟨rfl, N4q, E4⟩ := hQ4
  have N4 := Fr.app N3 N4q
  refine own_goS st4 ?_
  show own_Goes _ _ _ _ _ _ _ T4 (mkF m 32 #[.val (.int p0), .val (.int (11 : Int32)), .val (.ref aUNSIGNED_LONG_LONG), .val (.ref aUNSIGNED_LONG_LONG)] [(.ref aUNSIGNED_LONG_LONG)])
  have Zs4 : n0 ≤ T4.heap.size := Nat.le_trans Zs2 E4.1
  have Od4 : Old Z n0 T4.heap := Od2.ext E4
  refine own_go (fun _ k => XS.aloadN X4.here hx rfl (hb hby at_32) rfl rfl k) ?_
  show own_Goes _ _ _ _ _ _ _ T4 (mkF m 33 #[.val (.int p0), .val (.int (11 : Int32)), .val (.ref aUNSIGNED_LONG_LONG), .val (.ref aUNSIGNED_LONG_LONG)] [(.ref aUNSIGNED_LONG_LONG), (.ref aUNSIGNED_LONG_LONG)])
  refine own_go (fun _ k => Jvm.RoadKit.acmp (g := (mkF m 33 #[.val (.int p0), .val (.int (11 : Int32)), .val (.ref aUNSIGNED_LONG_LONG), .val (.ref aUNSIGNED_LONG_LONG)] [(.ref aUNSIGNED_LONG_LONG), (.ref aUNSIGNED_LONG_LONG)])) X4 hx rfl rfl rfl (pc0 := 33) (pc' := 36) (same := true) rfl (hb hby at_33) rfl (decide_eq_true rfl) (by decide) (by decide) k) ?_
  show own_Goes _ _ _ _ _ _ _ T4 (mkF m 36 #[.val (.int p0), .val (.int (11 : Int32)), .val (.ref aUNSIGNED_LONG_LONG), .val (.ref aUNSIGNED_LONG_LONG)] [])
  refine own_go (fun _ k => XS.iconst X4.here hx rfl (hb hby at_36) k) ?_
  show own_Goes _ _ _ _ _ _ _ T4 (mkF m 37 #[.val (.int p0), .val (.int (11 : Int32)), .val (.ref aUNSIGNED_LONG_LONG), .val (.ref aUNSIGNED_LONG_LONG)] [(.int (1 : Int32))])
  refine own_go (fun _ k => XS.goto X4.here hx rfl (pc0 := 37) (pc' := 41) rfl (hb hby at_37) (by decide) (by decide) k) ?_
  show own_Goes _ _ _ _ _ _ _ T4 (mkF m 41 #[.val (.int p0), .val (.int (11 : Int32)), .val (.ref aUNSIGNED_LONG_LONG), .val (.ref aUNSIGNED_LONG_LONG)] [(.int (1 : Int32))])
  exact own_retN X4 hx (t := .boolean) hlk hret (by simp) (hb hby at_41) (by decide) (by decide) ⟨rfl, N4⟩
set_option maxRecDepth 65536 in
set_option maxHeartbeats 40000000 in
theorem seg8_12 {p : Program} {l : Launch} {e : Env} {s : State} {m : MethodId} {args : Array Value} {below : List Frame} {meth : Method} {c : Code} {s₁ : State} {locs : List Loc} {Z : State} {a0 : Array Value} {h0 : Heap} (p0 : Int32) (aV : Addr) (clV : Cell) (aBOOL aCHAR aSIGNED_CHAR aUNSIGNED_CHAR aSHORT aUNSIGNED_SHORT aINT aUNSIGNED_INT aLONG aUNSIGNED_LONG aLONG_LONG aUNSIGNED_LONG_LONG aINT128 aUNSIGNED_INT128 : Addr)
    (hw : ∀ d ∈ tables_1, d.before a0 Z = true) (C : own_Ctx Z x "com/example/treellis/treellis/cfa/IntegerTypeToUnsignedPinLaw" code maxLocals ret p s m meth c) (X0 : Stand p l e room_1 s m args below meth c s₁ locs 0 0) (e0 : s₁.heap = h0) (n0 : Nat) (Z0 : n0 ≤ h0.size) (N0 : Fr n0 locs) (SS : own_SS Z aBOOL aCHAR aSIGNED_CHAR aUNSIGNED_CHAR aSHORT aUNSIGNED_SHORT aINT aUNSIGNED_INT aLONG aUNSIGNED_LONG aLONG_LONG aUNSIGNED_LONG_LONG aINT128 aUNSIGNED_INT128) (FF : own_FF Z aBOOL aCHAR aSIGNED_CHAR aUNSIGNED_CHAR aSHORT aUNSIGNED_SHORT aINT aUNSIGNED_INT aLONG aUNSIGNED_LONG aLONG_LONG aUNSIGNED_LONG_LONG aINT128 aUNSIGNED_INT128) (VV : own_VV Z aV clV aBOOL aCHAR aSIGNED_CHAR aUNSIGNED_CHAR aSHORT aUNSIGNED_SHORT aINT aUNSIGNED_INT aLONG aUNSIGNED_LONG aLONG_LONG aUNSIGNED_LONG_LONG aINT128 aUNSIGNED_INT128) (Od0 : Old Z n0 h0) :
    own_Goes p e below s (fun v h L => v = some (.int 1) ∧ Fr n0 L) room_1.cells room_1.slots s₁ (mkF m 8 #[.val (.int p0), .val (.int (12 : Int32)), .unset, .unset] []) := by
  obtain ⟨hx, hby, hml, hown, hnm, hret, hlk, hZ⟩ := C
  have FF' := FF
  obtain ⟨⟨E_BOOL, R_BOOL, G_BOOL⟩, ⟨E_CHAR, R_CHAR, G_CHAR⟩, ⟨E_SIGNED_CHAR, R_SIGNED_CHAR, G_SIGNED_CHAR⟩, ⟨E_UNSIGNED_CHAR, R_UNSIGNED_CHAR, G_UNSIGNED_CHAR⟩, ⟨E_SHORT, R_SHORT, G_SHORT⟩, ⟨E_UNSIGNED_SHORT, R_UNSIGNED_SHORT, G_UNSIGNED_SHORT⟩, ⟨E_INT, R_INT, G_INT⟩, ⟨E_UNSIGNED_INT, R_UNSIGNED_INT, G_UNSIGNED_INT⟩, ⟨E_LONG, R_LONG, G_LONG⟩, ⟨E_UNSIGNED_LONG, R_UNSIGNED_LONG, G_UNSIGNED_LONG⟩, ⟨E_LONG_LONG, R_LONG_LONG, G_LONG_LONG⟩, ⟨E_UNSIGNED_LONG_LONG, R_UNSIGNED_LONG_LONG, G_UNSIGNED_LONG_LONG⟩, ⟨E_INT128, R_INT128, G_INT128⟩, ⟨E_UNSIGNED_INT128, R_UNSIGNED_INT128, G_UNSIGNED_INT128⟩⟩ := FF'
  refine own_go (fun _ k => XS.iloadN X0.here hx rfl (hb hby at_8) rfl k) ?_
  show own_Goes _ _ _ _ _ _ _ s₁ (mkF m 9 #[.val (.int p0), .val (.int (12 : Int32)), .unset, .unset] [(.int (12 : Int32))])
  obtain ⟨_, _, ⟨T1, L1, k1, n1⟩, -, X1, ⟨Lc1, hQ1, l1, y1, z1⟩, st1⟩ := Jvm.LawKit.callS X0 hx (y := (⟨"com/example/treellis/treellis/cfa/IntegerTypeToUnsignedPinLaw", "pick", "(I)Lcom/example/treellis/treellis/cfa/IntegerType;"⟩ : MethodName)) hown (mvT hZ (hw _ (List.mem_of_getElem? (i := 1) rfl))) (mvT hZ (hw _ (List.mem_of_getElem? (i := 2) rfl))) (mvT hZ (hw _ (List.mem_of_getElem? (i := 3) rfl))) (mvT hZ (hw _ (List.mem_of_getElem? (i := 4) rfl))) (by decide) (backOf (W := 0) (rm_pick l Z a0 hw [] (12 : Int32) aBOOL aCHAR aSIGNED_CHAR aUNSIGNED_CHAR aSHORT aUNSIGNED_SHORT aINT aUNSIGNED_INT aLONG aUNSIGNED_LONG aLONG_LONG aUNSIGNED_LONG_LONG aINT128 aUNSIGNED_INT128 h0 n0 Z0 SS Od0) hZ (hw _ (List.mem_of_getElem? (i := 4) rfl)) (hw _ (List.mem_of_getElem? (i := 3) rfl)) (by decide) (by decide)) (g := (mkF m 9 #[.val (.int p0), .val (.int (12 : Int32)), .unset, .unset] [(.int (12 : Int32))])) rfl (by rw [hml]; rfl) (argsL := [(.int (12 : Int32))]) (rest := []) (lenOf pd_1 rfl) rfl (by show 2 * 0 + _ ≤ _; exact Nat.le_of_eq rfl) (hb hby at_9) (fun _ _ => ⟨rfl, e0, (by decide : 0 + 0 ≤ _), (by decide : 0 + 0 ≤ _)⟩)
  dsimp only [Pt.U, Pt.locs, Pt.cells, Pt.slots] at X1 l1 y1 z1 st1 hQ1
  subst l1 y1 z1
  obtain ⟨rfl, N1q, e1⟩ := hQ1
  have N1 := Fr.app N0 N1q
  refine own_go st1 ?_
  show own_Goes _ _ _ _ _ _ _ T1 (mkF m 12 #[.val (.int p0), .val (.int (12 : Int32)), .unset, .unset] [(.ref aINT128)])
  refine own_go (fun _ k => XS.astoreN X1.here hx rfl (hb hby at_12) rfl rfl (l' := #[.val (.int p0), .val (.int (12 : Int32)), .val (.ref aINT128), .unset]) rfl k) ?_
  show own_Goes _ _ _ _ _ _ _ T1 (mkF m 13 #[.val (.int p0), .val (.int (12 : Int32)), .val (.ref aINT128), .unset] [])
  refine own_go (fun _ k => XS.aloadN X1.here hx rfl (hb hby at_13) rfl rfl k) ?_
  show own_Goes _ _ _ _ _ _ _ T1 (mkF m 14 #[.val (.int p0), .val (.int (12 : Int32)), .val (.ref aINT128), .unset] [(.ref aINT128)])
  obtain ⟨cq2, kq2, zq2a, zq2b, zq2c⟩ := isOf hZ e1 (E_INT128.ext Od0.2)
  obtain ⟨_, _, ⟨T2, L2, k2, n2⟩, -, X2, ⟨Lc2, hQ2, l2, y2, z2⟩, st2⟩ := X1.virtualBack hx (y := (⟨"com/example/treellis/treellis/cfa/IntegerType", "toUnsigned", "()Lcom/example/treellis/treellis/cfa/IntegerType;"⟩ : MethodName)) (z := (⟨"com/example/treellis/treellis/cfa/IntegerType", "toUnsigned", "()Lcom/example/treellis/treellis/cfa/IntegerType;"⟩ : MethodName)) hown (mvT hZ (hw _ (List.mem_of_getElem? (i := 8) rfl))) (mvT hZ (hw _ (List.mem_of_getElem? (i := 9) rfl))) (notFace_of_selects (args := #[]) (mvT hZ (hw _ (List.mem_of_getElem? (i := 11) rfl)))) (mvT hZ (hw _ (List.mem_of_getElem? (i := 11) rfl))) (mvT hZ (hw _ (List.mem_of_getElem? (i := 10) rfl))) (by decide) (backOf (W := 0) (rmU6 l Z a0 hw [] aINT128 aV clV aBOOL aCHAR aSIGNED_CHAR aUNSIGNED_CHAR aSHORT aUNSIGNED_SHORT aINT aUNSIGNED_INT aLONG aUNSIGNED_LONG aLONG_LONG aUNSIGNED_LONG_LONG aINT128 aUNSIGNED_INT128 h0 n0 Z0 VV FF Od0 R_INT128) hZ (hw _ (List.mem_of_getElem? (i := 12) rfl)) (hw _ (List.mem_of_getElem? (i := 6) rfl)) (by decide) (by decide)) zq2a zq2c (g := (mkF m 14 #[.val (.int p0), .val (.int (12 : Int32)), .val (.ref aINT128), .unset] [(.ref aINT128)])) rfl (by rw [hml]; rfl) (Steps.refl _) (argsL := []) (rest := []) (lenOf pd_2 rfl) rfl (by show 2 * 0 + _ ≤ _; exact Nat.le_of_eq rfl) (hb hby at_14) (fun _ _ => ⟨rfl, e1, (by decide : 0 + 0 + 1 ≤ _), (by decide : 0 + 0 + 14 ≤ _)⟩)
  dsimp only [Pt.U, Pt.locs, Pt.cells, Pt.slots] at X2 l2 y2 z2 st2 hQ2
  subst l2 y2 z2
  obtain ⟨rfl, N2q, E2⟩ := hQ2
  have N2 := Fr.app N1 N2q
  refine own_goS st2 ?_
  show own_Goes _ _ _ _ _ _ _ T2 (mkF m 17 #[.val (.int p0), .val (.int (12 : Int32)), .val (.ref aINT128), .unset] [(.ref aUNSIGNED_INT128)])
  have Zs2 : n0 ≤ T2.heap.size := Nat.le_trans Z0 E2.1
  have Od2 : Old Z n0 T2.heap := Od0.ext E2
  refine own_go (fun _ k => XS.astoreN X2.here hx rfl (hb hby at_17) rfl rfl (l' := #[.val (.int p0), .val (.int (12 : Int32)), .val (.ref aINT128), .val (.ref aUNSIGNED_INT128)]) rfl k) ?_
  show own_Goes _ _ _ _ _ _ _ T2 (mkF m 18 #[.val (.int p0), .val (.int (12 : Int32)), .val (.ref aINT128), .val (.ref aUNSIGNED_INT128)] [])
  refine own_go (fun _ k => XS.aloadN X2.here hx rfl (hb hby at_18) rfl rfl k) ?_
  show own_Goes _ _ _ _ _ _ _ T2 (mkF m 19 #[.val (.int p0), .val (.int (12 : Int32)), .val (.ref aINT128), .val (.ref aUNSIGNED_INT128)] [(.ref aUNSIGNED_INT128)])
  refine own_go (fun _ k => XS.iloadN X2.here hx rfl (hb hby at_19) rfl k) ?_
  show own_Goes _ _ _ _ _ _ _ T2 (mkF m 20 #[.val (.int p0), .val (.int (12 : Int32)), .val (.ref aINT128), .val (.ref aUNSIGNED_INT128)] [(.int (12 : Int32)), (.ref aUNSIGNED_INT128)])
  obtain ⟨_, _, ⟨T3, L3, k3, n3⟩, -, X3, ⟨Lc3, hQ3, l3, y3, z3⟩, st3⟩ := Jvm.LawKit.callS X2 hx (y := (⟨"com/example/treellis/treellis/cfa/IntegerTypeToUnsignedPinLaw", "expected", "(I)Lcom/example/treellis/treellis/cfa/IntegerType;"⟩ : MethodName)) hown (mvT hZ (hw _ (List.mem_of_getElem? (i := 45) rfl))) (mvT hZ (hw _ (List.mem_of_getElem? (i := 46) rfl))) (mvT hZ (hw _ (List.mem_of_getElem? (i := 3) rfl))) (mvT hZ (hw _ (List.mem_of_getElem? (i := 47) rfl))) (by decide) (backOf (W := 1) (rm_expected l Z a0 hw [] (12 : Int32) aBOOL aCHAR aSIGNED_CHAR aUNSIGNED_CHAR aSHORT aUNSIGNED_SHORT aINT aUNSIGNED_INT aLONG aUNSIGNED_LONG aLONG_LONG aUNSIGNED_LONG_LONG aINT128 aUNSIGNED_INT128 T2.heap n0 Zs2 SS Od2) hZ (hw _ (List.mem_of_getElem? (i := 47) rfl)) (hw _ (List.mem_of_getElem? (i := 3) rfl)) (by decide) (by decide)) (g := (mkF m 20 #[.val (.int p0), .val (.int (12 : Int32)), .val (.ref aINT128), .val (.ref aUNSIGNED_INT128)] [(.int (12 : Int32)), (.ref aUNSIGNED_INT128)])) rfl (by rw [hml]; rfl) (argsL := [(.int (12 : Int32))]) (rest := [(.ref aUNSIGNED_INT128)]) (lenOf pd_1 rfl) rfl (by show 2 * 0 + _ ≤ _; exact Nat.le_of_eq rfl) (hb hby at_20) (fun _ _ => ⟨rfl, rfl, (by decide : 0 + 0 + 1 + 0 ≤ _), (by decide : 0 + 0 + 14 + 0 ≤ _)⟩)
  dsimp only [Pt.U, Pt.locs, Pt.cells, Pt.slots] at X3 l3 y3 z3 st3 hQ3
  subst l3 y3 z3
  obtain ⟨rfl, N3q, e3⟩ := hQ3
  have N3 := Fr.app N2 N3q
  refine own_go st3 ?_
  show own_Goes _ _ _ _ _ _ _ T3 (mkF m 23 #[.val (.int p0), .val (.int (12 : Int32)), .val (.ref aINT128), .val (.ref aUNSIGNED_INT128)] [(.ref aUNSIGNED_INT128), (.ref aUNSIGNED_INT128)])
  refine own_go (fun _ k => Jvm.RoadKit.acmp (g := (mkF m 23 #[.val (.int p0), .val (.int (12 : Int32)), .val (.ref aINT128), .val (.ref aUNSIGNED_INT128)] [(.ref aUNSIGNED_INT128), (.ref aUNSIGNED_INT128)])) X3 hx rfl rfl rfl (pc0 := 23) (pc' := 28) (same := true) rfl (hb hby at_23) rfl (decide_eq_true rfl) (by decide) (by decide) k) ?_
  show own_Goes _ _ _ _ _ _ _ T3 (mkF m 28 #[.val (.int p0), .val (.int (12 : Int32)), .val (.ref aINT128), .val (.ref aUNSIGNED_INT128)] [])
  refine own_go (fun _ k => XS.aloadN X3.here hx rfl (hb hby at_28) rfl rfl k) ?_
  show own_Goes _ _ _ _ _ _ _ T3 (mkF m 29 #[.val (.int p0), .val (.int (12 : Int32)), .val (.ref aINT128), .val (.ref aUNSIGNED_INT128)] [(.ref aUNSIGNED_INT128)])
  obtain ⟨cq4, kq4, zq4a, zq4b, zq4c⟩ := isOf hZ e3 (E_UNSIGNED_INT128.ext Od2.2)
  obtain ⟨_, _, ⟨T4, L4, k4, n4⟩, -, X4, ⟨Lc4, hQ4, l4, y4, z4⟩, st4⟩ := X3.virtualBack hx (y := (⟨"com/example/treellis/treellis/cfa/IntegerType", "toUnsigned", "()Lcom/example/treellis/treellis/cfa/IntegerType;"⟩ : MethodName)) (z := (⟨"com/example/treellis/treellis/cfa/IntegerType", "toUnsigned", "()Lcom/example/treellis/treellis/cfa/IntegerType;"⟩ : MethodName)) hown (mvT hZ (hw _ (List.mem_of_getElem? (i := 8) rfl))) (mvT hZ (hw _ (List.mem_of_getElem? (i := 9) rfl))) (notFace_of_selects (args := #[]) (mvT hZ (hw _ (List.mem_of_getElem? (i := 11) rfl)))) (mvT hZ (hw _ (List.mem_of_getElem? (i := 11) rfl))) (mvT hZ (hw _ (List.mem_of_getElem? (i := 10) rfl))) (by decide) (backOf (W := 0) (rmU6 l Z a0 hw [] aUNSIGNED_INT128 aV clV aBOOL aCHAR aSIGNED_CHAR aUNSIGNED_CHAR aSHORT aUNSIGNED_SHORT aINT aUNSIGNED_INT aLONG aUNSIGNED_LONG aLONG_LONG aUNSIGNED_LONG_LONG aINT128 aUNSIGNED_INT128 T2.heap n0 Zs2 VV FF Od2 R_UNSIGNED_INT128) hZ (hw _ (List.mem_of_getElem? (i := 12) rfl)) (hw _ (List.mem_of_getElem? (i := 6) rfl)) (by decide) (by decide)) zq4a zq4c (g := (mkF m 29 #[.val (.int p0), .val (.int (12 : Int32)), .val (.ref aINT128), .val (.ref aUNSIGNED_INT128)] [(.ref aUNSIGNED_INT128)])) rfl (by rw [hml]; rfl) (Steps.refl _) (argsL := []) (rest := []) (lenOf pd_2 rfl) rfl (by show 2 * 0 + _ ≤ _; exact Nat.le_of_eq rfl) (hb hby at_29) (fun _ _ => ⟨rfl, e3, (by decide : 0 + 0 + 1 + 0 + 1 ≤ _), (by decide : 0 + 0 + 14 + 0 + 14 ≤ _)⟩)
  dsimp only [Pt.U, Pt.locs, Pt.cells, Pt.slots] at X4 l4 y4 z4 st4 hQ4
  subst l4 y4 z4
  obtain ⟨rfl, N4q, E4⟩ := hQ4
  have N4 := Fr.app N3 N4q
  refine own_goS st4 ?_
  show own_Goes _ _ _ _ _ _ _ T4 (mkF m 32 #[.val (.int p0), .val (.int (12 : Int32)), .val (.ref aINT128), .val (.ref aUNSIGNED_INT128)] [(.ref aUNSIGNED_INT128)])
  have Zs4 : n0 ≤ T4.heap.size := Nat.le_trans Zs2 E4.1
  have Od4 : Old Z n0 T4.heap := Od2.ext E4
  refine own_go (fun _ k => XS.aloadN X4.here hx rfl (hb hby at_32) rfl rfl k) ?_
  show own_Goes _ _ _ _ _ _ _ T4 (mkF m 33 #[.val (.int p0), .val (.int (12 : Int32)), .val (.ref aINT128), .val (.ref aUNSIGNED_INT128)] [(.ref aUNSIGNED_INT128), (.ref aUNSIGNED_INT128)])
  refine own_go (fun _ k => Jvm.RoadKit.acmp (g := (mkF m 33 #[.val (.int p0), .val (.int (12 : Int32)), .val (.ref aINT128), .val (.ref aUNSIGNED_INT128)] [(.ref aUNSIGNED_INT128), (.ref aUNSIGNED_INT128)])) X4 hx rfl rfl rfl (pc0 := 33) (pc' := 36) (same := true) rfl (hb hby at_33) rfl (decide_eq_true rfl) (by decide) (by decide) k) ?_
  show own_Goes _ _ _ _ _ _ _ T4 (mkF m 36 #[.val (.int p0), .val (.int (12 : Int32)), .val (.ref aINT128), .val (.ref aUNSIGNED_INT128)] [])
  refine own_go (fun _ k => XS.iconst X4.here hx rfl (hb hby at_36) k) ?_
  show own_Goes _ _ _ _ _ _ _ T4 (mkF m 37 #[.val (.int p0), .val (.int (12 : Int32)), .val (.ref aINT128), .val (.ref aUNSIGNED_INT128)] [(.int (1 : Int32))])
  refine own_go (fun _ k => XS.goto X4.here hx rfl (pc0 := 37) (pc' := 41) rfl (hb hby at_37) (by decide) (by decide) k) ?_
  show own_Goes _ _ _ _ _ _ _ T4 (mkF m 41 #[.val (.int p0), .val (.int (12 : Int32)), .val (.ref aINT128), .val (.ref aUNSIGNED_INT128)] [(.int (1 : Int32))])
  exact own_retN X4 hx (t := .boolean) hlk hret (by simp) (hb hby at_41) (by decide) (by decide) ⟨rfl, N4⟩
set_option maxRecDepth 65536 in
set_option maxHeartbeats 40000000 in
theorem seg8_13 {p : Program} {l : Launch} {e : Env} {s : State} {m : MethodId} {args : Array Value} {below : List Frame} {meth : Method} {c : Code} {s₁ : State} {locs : List Loc} {Z : State} {a0 : Array Value} {h0 : Heap} (p0 : Int32) (aV : Addr) (clV : Cell) (aBOOL aCHAR aSIGNED_CHAR aUNSIGNED_CHAR aSHORT aUNSIGNED_SHORT aINT aUNSIGNED_INT aLONG aUNSIGNED_LONG aLONG_LONG aUNSIGNED_LONG_LONG aINT128 aUNSIGNED_INT128 : Addr)
    (hw : ∀ d ∈ tables_1, d.before a0 Z = true) (C : own_Ctx Z x "com/example/treellis/treellis/cfa/IntegerTypeToUnsignedPinLaw" code maxLocals ret p s m meth c) (X0 : Stand p l e room_1 s m args below meth c s₁ locs 0 0) (e0 : s₁.heap = h0) (n0 : Nat) (Z0 : n0 ≤ h0.size) (N0 : Fr n0 locs) (SS : own_SS Z aBOOL aCHAR aSIGNED_CHAR aUNSIGNED_CHAR aSHORT aUNSIGNED_SHORT aINT aUNSIGNED_INT aLONG aUNSIGNED_LONG aLONG_LONG aUNSIGNED_LONG_LONG aINT128 aUNSIGNED_INT128) (FF : own_FF Z aBOOL aCHAR aSIGNED_CHAR aUNSIGNED_CHAR aSHORT aUNSIGNED_SHORT aINT aUNSIGNED_INT aLONG aUNSIGNED_LONG aLONG_LONG aUNSIGNED_LONG_LONG aINT128 aUNSIGNED_INT128) (VV : own_VV Z aV clV aBOOL aCHAR aSIGNED_CHAR aUNSIGNED_CHAR aSHORT aUNSIGNED_SHORT aINT aUNSIGNED_INT aLONG aUNSIGNED_LONG aLONG_LONG aUNSIGNED_LONG_LONG aINT128 aUNSIGNED_INT128) (Od0 : Old Z n0 h0) :
    own_Goes p e below s (fun v h L => v = some (.int 1) ∧ Fr n0 L) room_1.cells room_1.slots s₁ (mkF m 8 #[.val (.int p0), .val (.int (13 : Int32)), .unset, .unset] []) := by
  obtain ⟨hx, hby, hml, hown, hnm, hret, hlk, hZ⟩ := C
  have FF' := FF
  obtain ⟨⟨E_BOOL, R_BOOL, G_BOOL⟩, ⟨E_CHAR, R_CHAR, G_CHAR⟩, ⟨E_SIGNED_CHAR, R_SIGNED_CHAR, G_SIGNED_CHAR⟩, ⟨E_UNSIGNED_CHAR, R_UNSIGNED_CHAR, G_UNSIGNED_CHAR⟩, ⟨E_SHORT, R_SHORT, G_SHORT⟩, ⟨E_UNSIGNED_SHORT, R_UNSIGNED_SHORT, G_UNSIGNED_SHORT⟩, ⟨E_INT, R_INT, G_INT⟩, ⟨E_UNSIGNED_INT, R_UNSIGNED_INT, G_UNSIGNED_INT⟩, ⟨E_LONG, R_LONG, G_LONG⟩, ⟨E_UNSIGNED_LONG, R_UNSIGNED_LONG, G_UNSIGNED_LONG⟩, ⟨E_LONG_LONG, R_LONG_LONG, G_LONG_LONG⟩, ⟨E_UNSIGNED_LONG_LONG, R_UNSIGNED_LONG_LONG, G_UNSIGNED_LONG_LONG⟩, ⟨E_INT128, R_INT128, G_INT128⟩, ⟨E_UNSIGNED_INT128, R_UNSIGNED_INT128, G_UNSIGNED_INT128⟩⟩ := FF'
  refine own_go (fun _ k => XS.iloadN X0.here hx rfl (hb hby at_8) rfl k) ?_
  show own_Goes _ _ _ _ _ _ _ s₁ (mkF m 9 #[.val (.int p0), .val (.int (13 : Int32)), .unset, .unset] [(.int (13 : Int32))])
  obtain ⟨_, _, ⟨T1, L1, k1, n1⟩, -, X1, ⟨Lc1, hQ1, l1, y1, z1⟩, st1⟩ := Jvm.LawKit.callS X0 hx (y := (⟨"com/example/treellis/treellis/cfa/IntegerTypeToUnsignedPinLaw", "pick", "(I)Lcom/example/treellis/treellis/cfa/IntegerType;"⟩ : MethodName)) hown (mvT hZ (hw _ (List.mem_of_getElem? (i := 1) rfl))) (mvT hZ (hw _ (List.mem_of_getElem? (i := 2) rfl))) (mvT hZ (hw _ (List.mem_of_getElem? (i := 3) rfl))) (mvT hZ (hw _ (List.mem_of_getElem? (i := 4) rfl))) (by decide) (backOf (W := 0) (rm_pick l Z a0 hw [] (13 : Int32) aBOOL aCHAR aSIGNED_CHAR aUNSIGNED_CHAR aSHORT aUNSIGNED_SHORT aINT aUNSIGNED_INT aLONG aUNSIGNED_LONG aLONG_LONG aUNSIGNED_LONG_LONG aINT128 aUNSIGNED_INT128 h0 n0 Z0 SS Od0) hZ (hw _ (List.mem_of_getElem? (i := 4) rfl)) (hw _ (List.mem_of_getElem? (i := 3) rfl)) (by decide) (by decide)) (g := (mkF m 9 #[.val (.int p0), .val (.int (13 : Int32)), .unset, .unset] [(.int (13 : Int32))])) rfl (by rw [hml]; rfl) (argsL := [(.int (13 : Int32))]) (rest := []) (lenOf pd_1 rfl) rfl (by show 2 * 0 + _ ≤ _; exact Nat.le_of_eq rfl) (hb hby at_9) (fun _ _ => ⟨rfl, e0, (by decide : 0 + 0 ≤ _), (by decide : 0 + 0 ≤ _)⟩)
  dsimp only [Pt.U, Pt.locs, Pt.cells, Pt.slots] at X1 l1 y1 z1 st1 hQ1
  subst l1 y1 z1
  obtain ⟨rfl, N1q, e1⟩ := hQ1
  have N1 := Fr.app N0 N1q
  refine own_go st1 ?_
  show own_Goes _ _ _ _ _ _ _ T1 (mkF m 12 #[.val (.int p0), .val (.int (13 : Int32)), .unset, .unset] [(.ref aUNSIGNED_INT128)])
  refine own_go (fun _ k => XS.astoreN X1.here hx rfl (hb hby at_12) rfl rfl (l' := #[.val (.int p0), .val (.int (13 : Int32)), .val (.ref aUNSIGNED_INT128), .unset]) rfl k) ?_
  show own_Goes _ _ _ _ _ _ _ T1 (mkF m 13 #[.val (.int p0), .val (.int (13 : Int32)), .val (.ref aUNSIGNED_INT128), .unset] [])
  refine own_go (fun _ k => XS.aloadN X1.here hx rfl (hb hby at_13) rfl rfl k) ?_
  show own_Goes _ _ _ _ _ _ _ T1 (mkF m 14 #[.val (.int p0), .val (.int (13 : Int32)), .val (.ref aUNSIGNED_INT128), .unset] [(.ref aUNSIGNED_INT128)])
  obtain ⟨cq2, kq2, zq2a, zq2b, zq2c⟩ := isOf hZ e1 (E_UNSIGNED_INT128.ext Od0.2)
  obtain ⟨_, _, ⟨T2, L2, k2, n2⟩, -, X2, ⟨Lc2, hQ2, l2, y2, z2⟩, st2⟩ := X1.virtualBack hx (y := (⟨"com/example/treellis/treellis/cfa/IntegerType", "toUnsigned", "()Lcom/example/treellis/treellis/cfa/IntegerType;"⟩ : MethodName)) (z := (⟨"com/example/treellis/treellis/cfa/IntegerType", "toUnsigned", "()Lcom/example/treellis/treellis/cfa/IntegerType;"⟩ : MethodName)) hown (mvT hZ (hw _ (List.mem_of_getElem? (i := 8) rfl))) (mvT hZ (hw _ (List.mem_of_getElem? (i := 9) rfl))) (notFace_of_selects (args := #[]) (mvT hZ (hw _ (List.mem_of_getElem? (i := 11) rfl)))) (mvT hZ (hw _ (List.mem_of_getElem? (i := 11) rfl))) (mvT hZ (hw _ (List.mem_of_getElem? (i := 10) rfl))) (by decide) (backOf (W := 0) (rmU6 l Z a0 hw [] aUNSIGNED_INT128 aV clV aBOOL aCHAR aSIGNED_CHAR aUNSIGNED_CHAR aSHORT aUNSIGNED_SHORT aINT aUNSIGNED_INT aLONG aUNSIGNED_LONG aLONG_LONG aUNSIGNED_LONG_LONG aINT128 aUNSIGNED_INT128 h0 n0 Z0 VV FF Od0 R_UNSIGNED_INT128) hZ (hw _ (List.mem_of_getElem? (i := 12) rfl)) (hw _ (List.mem_of_getElem? (i := 6) rfl)) (by decide) (by decide)) zq2a zq2c (g := (mkF m 14 #[.val (.int p0), .val (.int (13 : Int32)), .val (.ref aUNSIGNED_INT128), .unset] [(.ref aUNSIGNED_INT128)])) rfl (by rw [hml]; rfl) (Steps.refl _) (argsL := []) (rest := []) (lenOf pd_2 rfl) rfl (by show 2 * 0 + _ ≤ _; exact Nat.le_of_eq rfl) (hb hby at_14) (fun _ _ => ⟨rfl, e1, (by decide : 0 + 0 + 1 ≤ _), (by decide : 0 + 0 + 14 ≤ _)⟩)
  dsimp only [Pt.U, Pt.locs, Pt.cells, Pt.slots] at X2 l2 y2 z2 st2 hQ2
  subst l2 y2 z2
  obtain ⟨rfl, N2q, E2⟩ := hQ2
  have N2 := Fr.app N1 N2q
  refine own_goS st2 ?_
  show own_Goes _ _ _ _ _ _ _ T2 (mkF m 17 #[.val (.int p0), .val (.int (13 : Int32)), .val (.ref aUNSIGNED_INT128), .unset] [(.ref aUNSIGNED_INT128)])
  have Zs2 : n0 ≤ T2.heap.size := Nat.le_trans Z0 E2.1
  have Od2 : Old Z n0 T2.heap := Od0.ext E2
  refine own_go (fun _ k => XS.astoreN X2.here hx rfl (hb hby at_17) rfl rfl (l' := #[.val (.int p0), .val (.int (13 : Int32)), .val (.ref aUNSIGNED_INT128), .val (.ref aUNSIGNED_INT128)]) rfl k) ?_
  show own_Goes _ _ _ _ _ _ _ T2 (mkF m 18 #[.val (.int p0), .val (.int (13 : Int32)), .val (.ref aUNSIGNED_INT128), .val (.ref aUNSIGNED_INT128)] [])
  refine own_go (fun _ k => XS.aloadN X2.here hx rfl (hb hby at_18) rfl rfl k) ?_
  show own_Goes _ _ _ _ _ _ _ T2 (mkF m 19 #[.val (.int p0), .val (.int (13 : Int32)), .val (.ref aUNSIGNED_INT128), .val (.ref aUNSIGNED_INT128)] [(.ref aUNSIGNED_INT128)])
  refine own_go (fun _ k => XS.iloadN X2.here hx rfl (hb hby at_19) rfl k) ?_
  show own_Goes _ _ _ _ _ _ _ T2 (mkF m 20 #[.val (.int p0), .val (.int (13 : Int32)), .val (.ref aUNSIGNED_INT128), .val (.ref aUNSIGNED_INT128)] [(.int (13 : Int32)), (.ref aUNSIGNED_INT128)])
  obtain ⟨_, _, ⟨T3, L3, k3, n3⟩, -, X3, ⟨Lc3, hQ3, l3, y3, z3⟩, st3⟩ := Jvm.LawKit.callS X2 hx (y := (⟨"com/example/treellis/treellis/cfa/IntegerTypeToUnsignedPinLaw", "expected", "(I)Lcom/example/treellis/treellis/cfa/IntegerType;"⟩ : MethodName)) hown (mvT hZ (hw _ (List.mem_of_getElem? (i := 45) rfl))) (mvT hZ (hw _ (List.mem_of_getElem? (i := 46) rfl))) (mvT hZ (hw _ (List.mem_of_getElem? (i := 3) rfl))) (mvT hZ (hw _ (List.mem_of_getElem? (i := 47) rfl))) (by decide) (backOf (W := 1) (rm_expected l Z a0 hw [] (13 : Int32) aBOOL aCHAR aSIGNED_CHAR aUNSIGNED_CHAR aSHORT aUNSIGNED_SHORT aINT aUNSIGNED_INT aLONG aUNSIGNED_LONG aLONG_LONG aUNSIGNED_LONG_LONG aINT128 aUNSIGNED_INT128 T2.heap n0 Zs2 SS Od2) hZ (hw _ (List.mem_of_getElem? (i := 47) rfl)) (hw _ (List.mem_of_getElem? (i := 3) rfl)) (by decide) (by decide)) (g := (mkF m 20 #[.val (.int p0), .val (.int (13 : Int32)), .val (.ref aUNSIGNED_INT128), .val (.ref aUNSIGNED_INT128)] [(.int (13 : Int32)), (.ref aUNSIGNED_INT128)])) rfl (by rw [hml]; rfl) (argsL := [(.int (13 : Int32))]) (rest := [(.ref aUNSIGNED_INT128)]) (lenOf pd_1 rfl) rfl (by show 2 * 0 + _ ≤ _; exact Nat.le_of_eq rfl) (hb hby at_20) (fun _ _ => ⟨rfl, rfl, (by decide : 0 + 0 + 1 + 0 ≤ _), (by decide : 0 + 0 + 14 + 0 ≤ _)⟩)
  dsimp only [Pt.U, Pt.locs, Pt.cells, Pt.slots] at X3 l3 y3 z3 st3 hQ3
  subst l3 y3 z3
  obtain ⟨rfl, N3q, e3⟩ := hQ3
  have N3 := Fr.app N2 N3q
  refine own_go st3 ?_
  show own_Goes _ _ _ _ _ _ _ T3 (mkF m 23 #[.val (.int p0), .val (.int (13 : Int32)), .val (.ref aUNSIGNED_INT128), .val (.ref aUNSIGNED_INT128)] [(.ref aUNSIGNED_INT128), (.ref aUNSIGNED_INT128)])
  refine own_go (fun _ k => Jvm.RoadKit.acmp (g := (mkF m 23 #[.val (.int p0), .val (.int (13 : Int32)), .val (.ref aUNSIGNED_INT128), .val (.ref aUNSIGNED_INT128)] [(.ref aUNSIGNED_INT128), (.ref aUNSIGNED_INT128)])) X3 hx rfl rfl rfl (pc0 := 23) (pc' := 28) (same := true) rfl (hb hby at_23) rfl (decide_eq_true rfl) (by decide) (by decide) k) ?_
  show own_Goes _ _ _ _ _ _ _ T3 (mkF m 28 #[.val (.int p0), .val (.int (13 : Int32)), .val (.ref aUNSIGNED_INT128), .val (.ref aUNSIGNED_INT128)] [])
  refine own_go (fun _ k => XS.aloadN X3.here hx rfl (hb hby at_28) rfl rfl k) ?_
  show own_Goes _ _ _ _ _ _ _ T3 (mkF m 29 #[.val (.int p0), .val (.int (13 : Int32)), .val (.ref aUNSIGNED_INT128), .val (.ref aUNSIGNED_INT128)] [(.ref aUNSIGNED_INT128)])
  obtain ⟨cq4, kq4, zq4a, zq4b, zq4c⟩ := isOf hZ e3 (E_UNSIGNED_INT128.ext Od2.2)
  obtain ⟨_, _, ⟨T4, L4, k4, n4⟩, -, X4, ⟨Lc4, hQ4, l4, y4, z4⟩, st4⟩ := X3.virtualBack hx (y := (⟨"com/example/treellis/treellis/cfa/IntegerType", "toUnsigned", "()Lcom/example/treellis/treellis/cfa/IntegerType;"⟩ : MethodName)) (z := (⟨"com/example/treellis/treellis/cfa/IntegerType", "toUnsigned", "()Lcom/example/treellis/treellis/cfa/IntegerType;"⟩ : MethodName)) hown (mvT hZ (hw _ (List.mem_of_getElem? (i := 8) rfl))) (mvT hZ (hw _ (List.mem_of_getElem? (i := 9) rfl))) (notFace_of_selects (args := #[]) (mvT hZ (hw _ (List.mem_of_getElem? (i := 11) rfl)))) (mvT hZ (hw _ (List.mem_of_getElem? (i := 11) rfl))) (mvT hZ (hw _ (List.mem_of_getElem? (i := 10) rfl))) (by decide) (backOf (W := 0) (rmU6 l Z a0 hw [] aUNSIGNED_INT128 aV clV aBOOL aCHAR aSIGNED_CHAR aUNSIGNED_CHAR aSHORT aUNSIGNED_SHORT aINT aUNSIGNED_INT aLONG aUNSIGNED_LONG aLONG_LONG aUNSIGNED_LONG_LONG aINT128 aUNSIGNED_INT128 T2.heap n0 Zs2 VV FF Od2 R_UNSIGNED_INT128) hZ (hw _ (List.mem_of_getElem? (i := 12) rfl)) (hw _ (List.mem_of_getElem? (i := 6) rfl)) (by decide) (by decide)) zq4a zq4c (g := (mkF m 29 #[.val (.int p0), .val (.int (13 : Int32)), .val (.ref aUNSIGNED_INT128), .val (.ref aUNSIGNED_INT128)] [(.ref aUNSIGNED_INT128)])) rfl (by rw [hml]; rfl) (Steps.refl _) (argsL := []) (rest := []) (lenOf pd_2 rfl) rfl (by show 2 * 0 + _ ≤ _; exact Nat.le_of_eq rfl) (hb hby at_29) (fun _ _ => ⟨rfl, e3, (by decide : 0 + 0 + 1 + 0 + 1 ≤ _), (by decide : 0 + 0 + 14 + 0 + 14 ≤ _)⟩)
  dsimp only [Pt.U, Pt.locs, Pt.cells, Pt.slots] at X4 l4 y4 z4 st4 hQ4
  subst l4 y4 z4
  obtain ⟨rfl, N4q, E4⟩ := hQ4
  have N4 := Fr.app N3 N4q
  refine own_goS st4 ?_
  show own_Goes _ _ _ _ _ _ _ T4 (mkF m 32 #[.val (.int p0), .val (.int (13 : Int32)), .val (.ref aUNSIGNED_INT128), .val (.ref aUNSIGNED_INT128)] [(.ref aUNSIGNED_INT128)])
  have Zs4 : n0 ≤ T4.heap.size := Nat.le_trans Zs2 E4.1
  have Od4 : Old Z n0 T4.heap := Od2.ext E4
  refine own_go (fun _ k => XS.aloadN X4.here hx rfl (hb hby at_32) rfl rfl k) ?_
  show own_Goes _ _ _ _ _ _ _ T4 (mkF m 33 #[.val (.int p0), .val (.int (13 : Int32)), .val (.ref aUNSIGNED_INT128), .val (.ref aUNSIGNED_INT128)] [(.ref aUNSIGNED_INT128), (.ref aUNSIGNED_INT128)])
  refine own_go (fun _ k => Jvm.RoadKit.acmp (g := (mkF m 33 #[.val (.int p0), .val (.int (13 : Int32)), .val (.ref aUNSIGNED_INT128), .val (.ref aUNSIGNED_INT128)] [(.ref aUNSIGNED_INT128), (.ref aUNSIGNED_INT128)])) X4 hx rfl rfl rfl (pc0 := 33) (pc' := 36) (same := true) rfl (hb hby at_33) rfl (decide_eq_true rfl) (by decide) (by decide) k) ?_
  show own_Goes _ _ _ _ _ _ _ T4 (mkF m 36 #[.val (.int p0), .val (.int (13 : Int32)), .val (.ref aUNSIGNED_INT128), .val (.ref aUNSIGNED_INT128)] [])
  refine own_go (fun _ k => XS.iconst X4.here hx rfl (hb hby at_36) k) ?_
  show own_Goes _ _ _ _ _ _ _ T4 (mkF m 37 #[.val (.int p0), .val (.int (13 : Int32)), .val (.ref aUNSIGNED_INT128), .val (.ref aUNSIGNED_INT128)] [(.int (1 : Int32))])
  refine own_go (fun _ k => XS.goto X4.here hx rfl (pc0 := 37) (pc' := 41) rfl (hb hby at_37) (by decide) (by decide) k) ?_
  show own_Goes _ _ _ _ _ _ _ T4 (mkF m 41 #[.val (.int p0), .val (.int (13 : Int32)), .val (.ref aUNSIGNED_INT128), .val (.ref aUNSIGNED_INT128)] [(.int (1 : Int32))])
  exact own_retN X4 hx (t := .boolean) hlk hret (by simp) (hb hby at_41) (by decide) (by decide) ⟨rfl, N4⟩
def Q_rm0 (Z : State) (h0 : Heap) (n0 : Nat)  (v : Option Value) (h : Heap) (L : List Loc) : Prop := v = some (.int 1) ∧ Fr n0 L
set_option maxRecDepth 65536 in
set_option maxHeartbeats 40000000 in
theorem rm0 (l : Launch) (Z : State) (a0 : Array Value) (hw : ∀ d ∈ tables_1, d.before a0 Z = true) (ws : List Jvm.Cond) (p0 : Int32) (aV : Addr) (clV : Cell) (aBOOL aCHAR aSIGNED_CHAR aUNSIGNED_CHAR aSHORT aUNSIGNED_SHORT aINT aUNSIGNED_INT aLONG aUNSIGNED_LONG aLONG_LONG aUNSIGNED_LONG_LONG aINT128 aUNSIGNED_INT128 : Addr) (h0 : Heap) (n0 : Nat) (Z0 : n0 ≤ h0.size) (SS : own_SS Z aBOOL aCHAR aSIGNED_CHAR aUNSIGNED_CHAR aSHORT aUNSIGNED_SHORT aINT aUNSIGNED_INT aLONG aUNSIGNED_LONG aLONG_LONG aUNSIGNED_LONG_LONG aINT128 aUNSIGNED_INT128) (FF : own_FF Z aBOOL aCHAR aSIGNED_CHAR aUNSIGNED_CHAR aSHORT aUNSIGNED_SHORT aINT aUNSIGNED_INT aLONG aUNSIGNED_LONG aLONG_LONG aUNSIGNED_LONG_LONG aINT128 aUNSIGNED_INT128) (VV : own_VV Z aV clV aBOOL aCHAR aSIGNED_CHAR aUNSIGNED_CHAR aSHORT aUNSIGNED_SHORT aINT aUNSIGNED_INT aLONG aUNSIGNED_LONG aLONG_LONG aUNSIGNED_LONG_LONG aINT128 aUNSIGNED_INT128) (Od0 : Old Z n0 h0) :
    MetFree l x (head1 (Jvm.Cond.code x code maxLocals ret :: ws) room_1) (fun a U => a = #[(.int p0)] ∧ Z.Warmed39 U.vm ∧ U.heap = h0) (fun _ _ _ _ _ => True) (fun _ U o U' => ∃ rv rL, o = .returned rv ∧ Q_rm0 Z h0 n0  rv U'.heap rL ∧ FrameEnd U o U' rL room_1.cells room_1.slots) := by
  refine own_met (y := x) (Q := Q_rm0 Z h0 n0 ) (own := "com/example/treellis/treellis/cfa/IntegerTypeToUnsignedPinLaw") rfl pn_0 ?_
  intro p e s m below meth c s₁ C e0 X0
  obtain ⟨hx, hby, hml, hown, hnm, hret, hlk, hZ⟩ := C
  have N0 := Fr.nil n0
  rw [ef_0]
  show own_Goes _ _ _ _ _ _ _ s₁ (mkF m 0 #[.val (.int p0), .unset, .unset, .unset] [])
  refine own_go (fun _ k => XS.iloadN X0.here hx rfl (hb hby at_0) rfl k) ?_
  show own_Goes _ _ _ _ _ _ _ s₁ (mkF m 1 #[.val (.int p0), .unset, .unset, .unset] [(.int p0)])
  refine own_go (fun t k => X0.ldcInt hx hown (mvT hZ (hw _ (List.mem_of_getElem? (i := 0) rfl))) (g := (mkF m 1 #[.val (.int p0), .unset, .unset, .unset] [(.int p0)])) rfl (hb hby at_1) t k) ?_
  show own_Goes _ _ _ _ _ _ _ s₁ (mkF m 3 #[.val (.int p0), .unset, .unset, .unset] [(.int (2147483647 : Int32)), (.int p0)])
  refine own_go (fun _ k => XS.iand X0.here hx rfl (hb hby at_3) rfl k) ?_
  show own_Goes _ _ _ _ _ _ _ s₁ (mkF m 4 #[.val (.int p0), .unset, .unset, .unset] [(.int (p0 &&& (2147483647 : Int32)))])
  refine own_go (fun _ k => XS.bipush X0.here hx rfl (hb hby at_4) k) ?_
  show own_Goes _ _ _ _ _ _ _ s₁ (mkF m 6 #[.val (.int p0), .unset, .unset, .unset] [(.int (14 : Int32)), (.int (p0 &&& (2147483647 : Int32)))])
  refine own_go (fun _ k => iremM (g := (mkF m 6 #[.val (.int p0), .unset, .unset, .unset] [(.int (14 : Int32)), (.int (p0 &&& (2147483647 : Int32)))])) X0 hx rfl (hb hby at_6) rfl (by decide) k) ?_
  show own_Goes _ _ _ _ _ _ _ s₁ (mkF m 7 #[.val (.int p0), .unset, .unset, .unset] [(.int ((p0 &&& (2147483647 : Int32)) % (14 : Int32)))])
  refine own_go (fun _ k => XS.istoreN X0.here hx rfl (hb hby at_7) rfl (l' := #[.val (.int p0), .val (.int ((p0 &&& (2147483647 : Int32)) % (14 : Int32))), .unset, .unset]) rfl k) ?_
  show own_Goes _ _ _ _ _ _ _ s₁ (mkF m 8 #[.val (.int p0), .val (.int ((p0 &&& (2147483647 : Int32)) % (14 : Int32))), .unset, .unset] [])
  have hr := own_rem p0
  generalize ((p0 &&& (2147483647 : Int32)) % (14 : Int32)) = r at hr ⊢
  rcases hr with rfl | rfl | rfl | rfl | rfl | rfl | rfl | rfl | rfl | rfl | rfl | rfl | rfl | rfl
  · exact seg8_0 p0 aV clV aBOOL aCHAR aSIGNED_CHAR aUNSIGNED_CHAR aSHORT aUNSIGNED_SHORT aINT aUNSIGNED_INT aLONG aUNSIGNED_LONG aLONG_LONG aUNSIGNED_LONG_LONG aINT128 aUNSIGNED_INT128 hw ⟨hx, hby, hml, hown, hnm, hret, hlk, hZ⟩ X0 e0 n0 Z0 N0 SS FF VV Od0
  · exact seg8_1 p0 aV clV aBOOL aCHAR aSIGNED_CHAR aUNSIGNED_CHAR aSHORT aUNSIGNED_SHORT aINT aUNSIGNED_INT aLONG aUNSIGNED_LONG aLONG_LONG aUNSIGNED_LONG_LONG aINT128 aUNSIGNED_INT128 hw ⟨hx, hby, hml, hown, hnm, hret, hlk, hZ⟩ X0 e0 n0 Z0 N0 SS FF VV Od0
  · exact seg8_2 p0 aV clV aBOOL aCHAR aSIGNED_CHAR aUNSIGNED_CHAR aSHORT aUNSIGNED_SHORT aINT aUNSIGNED_INT aLONG aUNSIGNED_LONG aLONG_LONG aUNSIGNED_LONG_LONG aINT128 aUNSIGNED_INT128 hw ⟨hx, hby, hml, hown, hnm, hret, hlk, hZ⟩ X0 e0 n0 Z0 N0 SS FF VV Od0
  · exact seg8_3 p0 aV clV aBOOL aCHAR aSIGNED_CHAR aUNSIGNED_CHAR aSHORT aUNSIGNED_SHORT aINT aUNSIGNED_INT aLONG aUNSIGNED_LONG aLONG_LONG aUNSIGNED_LONG_LONG aINT128 aUNSIGNED_INT128 hw ⟨hx, hby, hml, hown, hnm, hret, hlk, hZ⟩ X0 e0 n0 Z0 N0 SS FF VV Od0
  · exact seg8_4 p0 aV clV aBOOL aCHAR aSIGNED_CHAR aUNSIGNED_CHAR aSHORT aUNSIGNED_SHORT aINT aUNSIGNED_INT aLONG aUNSIGNED_LONG aLONG_LONG aUNSIGNED_LONG_LONG aINT128 aUNSIGNED_INT128 hw ⟨hx, hby, hml, hown, hnm, hret, hlk, hZ⟩ X0 e0 n0 Z0 N0 SS FF VV Od0
  · exact seg8_5 p0 aV clV aBOOL aCHAR aSIGNED_CHAR aUNSIGNED_CHAR aSHORT aUNSIGNED_SHORT aINT aUNSIGNED_INT aLONG aUNSIGNED_LONG aLONG_LONG aUNSIGNED_LONG_LONG aINT128 aUNSIGNED_INT128 hw ⟨hx, hby, hml, hown, hnm, hret, hlk, hZ⟩ X0 e0 n0 Z0 N0 SS FF VV Od0
  · exact seg8_6 p0 aV clV aBOOL aCHAR aSIGNED_CHAR aUNSIGNED_CHAR aSHORT aUNSIGNED_SHORT aINT aUNSIGNED_INT aLONG aUNSIGNED_LONG aLONG_LONG aUNSIGNED_LONG_LONG aINT128 aUNSIGNED_INT128 hw ⟨hx, hby, hml, hown, hnm, hret, hlk, hZ⟩ X0 e0 n0 Z0 N0 SS FF VV Od0
  · exact seg8_7 p0 aV clV aBOOL aCHAR aSIGNED_CHAR aUNSIGNED_CHAR aSHORT aUNSIGNED_SHORT aINT aUNSIGNED_INT aLONG aUNSIGNED_LONG aLONG_LONG aUNSIGNED_LONG_LONG aINT128 aUNSIGNED_INT128 hw ⟨hx, hby, hml, hown, hnm, hret, hlk, hZ⟩ X0 e0 n0 Z0 N0 SS FF VV Od0
  · exact seg8_8 p0 aV clV aBOOL aCHAR aSIGNED_CHAR aUNSIGNED_CHAR aSHORT aUNSIGNED_SHORT aINT aUNSIGNED_INT aLONG aUNSIGNED_LONG aLONG_LONG aUNSIGNED_LONG_LONG aINT128 aUNSIGNED_INT128 hw ⟨hx, hby, hml, hown, hnm, hret, hlk, hZ⟩ X0 e0 n0 Z0 N0 SS FF VV Od0
  · exact seg8_9 p0 aV clV aBOOL aCHAR aSIGNED_CHAR aUNSIGNED_CHAR aSHORT aUNSIGNED_SHORT aINT aUNSIGNED_INT aLONG aUNSIGNED_LONG aLONG_LONG aUNSIGNED_LONG_LONG aINT128 aUNSIGNED_INT128 hw ⟨hx, hby, hml, hown, hnm, hret, hlk, hZ⟩ X0 e0 n0 Z0 N0 SS FF VV Od0
  · exact seg8_10 p0 aV clV aBOOL aCHAR aSIGNED_CHAR aUNSIGNED_CHAR aSHORT aUNSIGNED_SHORT aINT aUNSIGNED_INT aLONG aUNSIGNED_LONG aLONG_LONG aUNSIGNED_LONG_LONG aINT128 aUNSIGNED_INT128 hw ⟨hx, hby, hml, hown, hnm, hret, hlk, hZ⟩ X0 e0 n0 Z0 N0 SS FF VV Od0
  · exact seg8_11 p0 aV clV aBOOL aCHAR aSIGNED_CHAR aUNSIGNED_CHAR aSHORT aUNSIGNED_SHORT aINT aUNSIGNED_INT aLONG aUNSIGNED_LONG aLONG_LONG aUNSIGNED_LONG_LONG aINT128 aUNSIGNED_INT128 hw ⟨hx, hby, hml, hown, hnm, hret, hlk, hZ⟩ X0 e0 n0 Z0 N0 SS FF VV Od0
  · exact seg8_12 p0 aV clV aBOOL aCHAR aSIGNED_CHAR aUNSIGNED_CHAR aSHORT aUNSIGNED_SHORT aINT aUNSIGNED_INT aLONG aUNSIGNED_LONG aLONG_LONG aUNSIGNED_LONG_LONG aINT128 aUNSIGNED_INT128 hw ⟨hx, hby, hml, hown, hnm, hret, hlk, hZ⟩ X0 e0 n0 Z0 N0 SS FF VV Od0
  · exact seg8_13 p0 aV clV aBOOL aCHAR aSIGNED_CHAR aUNSIGNED_CHAR aSHORT aUNSIGNED_SHORT aINT aUNSIGNED_INT aLONG aUNSIGNED_LONG aLONG_LONG aUNSIGNED_LONG_LONG aINT128 aUNSIGNED_INT128 hw ⟨hx, hby, hml, hown, hnm, hret, hlk, hZ⟩ X0 e0 n0 Z0 N0 SS FF VV Od0
set_option maxRecDepth 65536 in
set_option maxHeartbeats 40000000 in
theorem comes_1 {Post : Tables → Env → Array Value → State → Outcome → State → Prop} (hpost : ∀ tb e args s v u, (limb_1_1.after args s (.returned v) u = true ∧ limb_1_2.after args s (.returned v) u = true ∧ True) → FrameEnd s (.returned v) u (Jvm.fieldLocs frame_1_writes args s ++ Jvm.arrayLocs frame_1_arrays args s ++ Jvm.staticLocs frame_1_statics s) 16 128 → Post tb e args s (.returned v) u) :
    ArmFor flags0 classFile x code maxLocals ret World_1 tables_1 room_1 Calls_1 rest_1 Pre_1 Post := by
  intro l hfl _ _ p e ha hc hk s m args below hf hA hF happ hP
  obtain ⟨hcalls, hrest, hpre⟩ := hP
  obtain ⟨-, -, -, hnamed, -, -, -, hat⟩ := (Spec.applies_iff hf).mp happ
  obtain ⟨hg, hn⟩ := and_e (Cond.before_iff.mp (show (Jvm.Cond.and given_1 narrow_1).before args s = true from hpre))
  obtain ⟨g0, gr0⟩ := and_e hg
  have ga0 := gr0
  obtain ⟨w0, rfl⟩ : ∃ w0 : Value, args = #[w0] := by
    have hs : args.size = 1 := by simpa [Cond.value, given_1] using g0
    obtain ⟨L⟩ := args
    match L, hs with
    | [w0], _ => exact ⟨w0, rfl⟩
  have hw := fun d (hd : d ∈ tables_1) => atoms_spec (ws := Jvm.Cond.code x code maxLocals ret :: tables_1) hat d (List.mem_cons_of_mem _ hd)
  have hfit : Fit s := fun {y c} hc i hi => by
    obtain ⟨ha, rfl⟩ := Array.getElem?_eq_some_iff.mp hc
    have q := List.all_eq_true.mp ((Array.all_eq_true_iff_forall_mem.mp hF) _ (Array.getElem_mem ha)) i (List.mem_range.mpr hi)
    simpa [Array.getElem?_eq_getElem hi] using q
  obtain ⟨i0, ei0⟩ := is_v ga0
  obtain rfl : w0 = (.int i0) := Option.some.inj ei0
  obtain ⟨c0, r0⟩ := and_e hn
  obtain ⟨c1, r1⟩ := and_e r0
  obtain ⟨c2, r2⟩ := and_e r1
  obtain ⟨c3, r3⟩ := and_e r2
  obtain ⟨c4, r4⟩ := and_e r3
  obtain ⟨c5, r5⟩ := and_e r4
  obtain ⟨c6, r6⟩ := and_e r5
  obtain ⟨c7, r7⟩ := and_e r6
  obtain ⟨c8, r8⟩ := and_e r7
  obtain ⟨c9, r9⟩ := and_e r8
  obtain ⟨c10, r10⟩ := and_e r9
  obtain ⟨c11, r11⟩ := and_e r10
  obtain ⟨c12, r12⟩ := and_e r11
  obtain ⟨c13, r13⟩ := and_e r12
  obtain ⟨c14, r14⟩ := and_e r13
  obtain ⟨c15, r15⟩ := and_e r14
  obtain ⟨c16, r16⟩ := and_e r15
  obtain ⟨c17, r17⟩ := and_e r16
  obtain ⟨c18, r18⟩ := and_e r17
  obtain ⟨c19, r19⟩ := and_e r18
  obtain ⟨c20, r20⟩ := and_e r19
  obtain ⟨c21, r21⟩ := and_e r20
  obtain ⟨c22, r22⟩ := and_e r21
  obtain ⟨c23, r23⟩ := and_e r22
  obtain ⟨c24, r24⟩ := and_e r23
  obtain ⟨c25, r25⟩ := and_e r24
  obtain ⟨c26, r26⟩ := and_e r25
  obtain ⟨c27, r27⟩ := and_e r26
  obtain ⟨c28, r28⟩ := and_e r27
  obtain ⟨c29, r29⟩ := and_e r28
  obtain ⟨c30, r30⟩ := and_e r29
  obtain ⟨c31, r31⟩ := and_e r30
  obtain ⟨c32, r32⟩ := and_e r31
  obtain ⟨c33, r33⟩ := and_e r32
  obtain ⟨c34, r34⟩ := and_e r33
  obtain ⟨c35, r35⟩ := and_e r34
  obtain ⟨c36, r36⟩ := and_e r35
  obtain ⟨c37, r37⟩ := and_e r36
  obtain ⟨c38, r38⟩ := and_e r37
  obtain ⟨c39, r39⟩ := and_e r38
  obtain ⟨c40, r40⟩ := and_e r39
  obtain ⟨c41, r41⟩ := and_e r40
  obtain ⟨c42, r42⟩ := and_e r41
  obtain ⟨c43, r43⟩ := and_e r42
  obtain ⟨c44, r44⟩ := and_e r43
  obtain ⟨c45, r45⟩ := and_e r44
  obtain ⟨c46, r46⟩ := and_e r45
  obtain ⟨c47, r47⟩ := and_e r46
  obtain ⟨c48, r48⟩ := and_e r47
  obtain ⟨c49, r49⟩ := and_e r48
  obtain ⟨c50, r50⟩ := and_e r49
  obtain ⟨c51, r51⟩ := and_e r50
  obtain ⟨c52, r52⟩ := and_e r51
  obtain ⟨c53, r53⟩ := and_e r52
  obtain ⟨c54, r54⟩ := and_e r53
  obtain ⟨c55, r55⟩ := and_e r54
  obtain ⟨c56, r56⟩ := and_e r55
  obtain ⟨c57, r57⟩ := and_e r56
  have c58 := r57
  obtain ⟨aBOOL, v_BOOL⟩ := exa_v c0
  have E_BOOL := Exa.start v_BOOL c0
  have S_BOOL := Sta.start v_BOOL (Or.inr ⟨(hw _ (List.mem_of_getElem? (i := 6) rfl)), (hw _ (List.mem_of_getElem? (i := 7) rfl))⟩)
  have R_BOOL := own_ord v_BOOL c32
  have G_BOOL := own_ord v_BOOL c31
  obtain ⟨aCHAR, v_CHAR⟩ := exa_v c5
  have E_CHAR := Exa.start v_CHAR c5
  have S_CHAR := Sta.start v_CHAR (Or.inr ⟨(hw _ (List.mem_of_getElem? (i := 6) rfl)), (hw _ (List.mem_of_getElem? (i := 25) rfl))⟩)
  have R_CHAR := own_ord v_CHAR c57
  have G_CHAR := own_ord v_CHAR c34
  obtain ⟨aSIGNED_CHAR, v_SIGNED_CHAR⟩ := exa_v c7
  have E_SIGNED_CHAR := Exa.start v_SIGNED_CHAR c7
  have S_SIGNED_CHAR := Sta.start v_SIGNED_CHAR (Or.inr ⟨(hw _ (List.mem_of_getElem? (i := 6) rfl)), (hw _ (List.mem_of_getElem? (i := 26) rfl))⟩)
  have R_SIGNED_CHAR := own_ord v_SIGNED_CHAR c54
  have G_SIGNED_CHAR := own_ord v_SIGNED_CHAR c35
  obtain ⟨aUNSIGNED_CHAR, v_UNSIGNED_CHAR⟩ := exa_v c9
  have E_UNSIGNED_CHAR := Exa.start v_UNSIGNED_CHAR c9
  have S_UNSIGNED_CHAR := Sta.start v_UNSIGNED_CHAR (Or.inr ⟨(hw _ (List.mem_of_getElem? (i := 6) rfl)), (hw _ (List.mem_of_getElem? (i := 27) rfl))⟩)
  have R_UNSIGNED_CHAR := own_ord v_UNSIGNED_CHAR c33
  have G_UNSIGNED_CHAR := own_ord v_UNSIGNED_CHAR c36
  obtain ⟨aSHORT, v_SHORT⟩ := exa_v c11
  have E_SHORT := Exa.start v_SHORT c11
  have S_SHORT := Sta.start v_SHORT (Or.inr ⟨(hw _ (List.mem_of_getElem? (i := 6) rfl)), (hw _ (List.mem_of_getElem? (i := 28) rfl))⟩)
  have R_SHORT := own_ord v_SHORT c53
  have G_SHORT := own_ord v_SHORT c38
  obtain ⟨aUNSIGNED_SHORT, v_UNSIGNED_SHORT⟩ := exa_v c13
  have E_UNSIGNED_SHORT := Exa.start v_UNSIGNED_SHORT c13
  have S_UNSIGNED_SHORT := Sta.start v_UNSIGNED_SHORT (Or.inr ⟨(hw _ (List.mem_of_getElem? (i := 6) rfl)), (hw _ (List.mem_of_getElem? (i := 29) rfl))⟩)
  have R_UNSIGNED_SHORT := own_ord v_UNSIGNED_SHORT c40
  have G_UNSIGNED_SHORT := own_ord v_UNSIGNED_SHORT c39
  obtain ⟨aINT, v_INT⟩ := exa_v c15
  have E_INT := Exa.start v_INT c15
  have S_INT := Sta.start v_INT (Or.inr ⟨(hw _ (List.mem_of_getElem? (i := 6) rfl)), (hw _ (List.mem_of_getElem? (i := 30) rfl))⟩)
  have R_INT := own_ord v_INT c58
  have G_INT := own_ord v_INT c41
  obtain ⟨aUNSIGNED_INT, v_UNSIGNED_INT⟩ := exa_v c17
  have E_UNSIGNED_INT := Exa.start v_UNSIGNED_INT c17
  have S_UNSIGNED_INT := Sta.start v_UNSIGNED_INT (Or.inr ⟨(hw _ (List.mem_of_getElem? (i := 6) rfl)), (hw _ (List.mem_of_getElem? (i := 31) rfl))⟩)
  have R_UNSIGNED_INT := own_ord v_UNSIGNED_INT c43
  have G_UNSIGNED_INT := own_ord v_UNSIGNED_INT c42
  obtain ⟨aLONG, v_LONG⟩ := exa_v c19
  have E_LONG := Exa.start v_LONG c19
  have S_LONG := Sta.start v_LONG (Or.inr ⟨(hw _ (List.mem_of_getElem? (i := 6) rfl)), (hw _ (List.mem_of_getElem? (i := 32) rfl))⟩)
  have R_LONG := own_ord v_LONG c56
  have G_LONG := own_ord v_LONG c44
  obtain ⟨aUNSIGNED_LONG, v_UNSIGNED_LONG⟩ := exa_v c21
  have E_UNSIGNED_LONG := Exa.start v_UNSIGNED_LONG c21
  have S_UNSIGNED_LONG := Sta.start v_UNSIGNED_LONG (Or.inr ⟨(hw _ (List.mem_of_getElem? (i := 6) rfl)), (hw _ (List.mem_of_getElem? (i := 33) rfl))⟩)
  have R_UNSIGNED_LONG := own_ord v_UNSIGNED_LONG c46
  have G_UNSIGNED_LONG := own_ord v_UNSIGNED_LONG c45
  obtain ⟨aLONG_LONG, v_LONG_LONG⟩ := exa_v c23
  have E_LONG_LONG := Exa.start v_LONG_LONG c23
  have S_LONG_LONG := Sta.start v_LONG_LONG (Or.inr ⟨(hw _ (List.mem_of_getElem? (i := 6) rfl)), (hw _ (List.mem_of_getElem? (i := 34) rfl))⟩)
  have R_LONG_LONG := own_ord v_LONG_LONG c55
  have G_LONG_LONG := own_ord v_LONG_LONG c47
  obtain ⟨aUNSIGNED_LONG_LONG, v_UNSIGNED_LONG_LONG⟩ := exa_v c25
  have E_UNSIGNED_LONG_LONG := Exa.start v_UNSIGNED_LONG_LONG c25
  have S_UNSIGNED_LONG_LONG := Sta.start v_UNSIGNED_LONG_LONG (Or.inr ⟨(hw _ (List.mem_of_getElem? (i := 6) rfl)), (hw _ (List.mem_of_getElem? (i := 35) rfl))⟩)
  have R_UNSIGNED_LONG_LONG := own_ord v_UNSIGNED_LONG_LONG c49
  have G_UNSIGNED_LONG_LONG := own_ord v_UNSIGNED_LONG_LONG c48
  obtain ⟨aINT128, v_INT128⟩ := exa_v c27
  have E_INT128 := Exa.start v_INT128 c27
  have S_INT128 := Sta.start v_INT128 (Or.inr ⟨(hw _ (List.mem_of_getElem? (i := 6) rfl)), (hw _ (List.mem_of_getElem? (i := 36) rfl))⟩)
  have R_INT128 := own_ord v_INT128 c37
  have G_INT128 := own_ord v_INT128 c50
  obtain ⟨aUNSIGNED_INT128, v_UNSIGNED_INT128⟩ := exa_v c29
  have E_UNSIGNED_INT128 := Exa.start v_UNSIGNED_INT128 c29
  have S_UNSIGNED_INT128 := Sta.start v_UNSIGNED_INT128 (Or.inr ⟨(hw _ (List.mem_of_getElem? (i := 6) rfl)), (hw _ (List.mem_of_getElem? (i := 37) rfl))⟩)
  have R_UNSIGNED_INT128 := own_ord v_UNSIGNED_INT128 c52
  have G_UNSIGNED_INT128 := own_ord v_UNSIGNED_INT128 c51
  obtain ⟨aV, vV⟩ := exa_v c2
  have EV := Exa.start vV c2
  have SV := Sta.start vV (Or.inl (hw _ (List.mem_of_getElem? (i := 38) rfl)))
  obtain ⟨clV, AV⟩ := Arr.start vV c1
  have FV := FitC.start hfit AV
  have hsz := own_len (n := 14) vV AV c3 (by decide)
  have el_0 := own_elem vV AV c4 v_BOOL
  have el_1 := own_elem vV AV c6 v_CHAR
  have el_2 := own_elem vV AV c8 v_SIGNED_CHAR
  have el_3 := own_elem vV AV c10 v_UNSIGNED_CHAR
  have el_4 := own_elem vV AV c12 v_SHORT
  have el_5 := own_elem vV AV c14 v_UNSIGNED_SHORT
  have el_6 := own_elem vV AV c16 v_INT
  have el_7 := own_elem vV AV c18 v_UNSIGNED_INT
  have el_8 := own_elem vV AV c20 v_LONG
  have el_9 := own_elem vV AV c22 v_UNSIGNED_LONG
  have el_10 := own_elem vV AV c24 v_LONG_LONG
  have el_11 := own_elem vV AV c26 v_UNSIGNED_LONG_LONG
  have el_12 := own_elem vV AV c28 v_INT128
  have el_13 := own_elem vV AV c30 v_UNSIGNED_INT128
  obtain ⟨n, o, h1, h2, h3, _, L, rfl, ⟨rfl, N⟩, hq⟩ := rm0 l s _ hw tables_1 i0 aV clV aBOOL aCHAR aSIGNED_CHAR aUNSIGNED_CHAR aSHORT aUNSIGNED_SHORT aINT aUNSIGNED_INT aLONG aUNSIGNED_LONG aLONG_LONG aUNSIGNED_LONG_LONG aINT128 aUNSIGNED_INT128 s.heap s.heap.size (Nat.le_refl _) ⟨S_BOOL, S_CHAR, S_SIGNED_CHAR, S_UNSIGNED_CHAR, S_SHORT, S_UNSIGNED_SHORT, S_INT, S_UNSIGNED_INT, S_LONG, S_UNSIGNED_LONG, S_LONG_LONG, S_UNSIGNED_LONG_LONG, S_INT128, S_UNSIGNED_INT128⟩ ⟨⟨E_BOOL, R_BOOL, G_BOOL⟩, ⟨E_CHAR, R_CHAR, G_CHAR⟩, ⟨E_SIGNED_CHAR, R_SIGNED_CHAR, G_SIGNED_CHAR⟩, ⟨E_UNSIGNED_CHAR, R_UNSIGNED_CHAR, G_UNSIGNED_CHAR⟩, ⟨E_SHORT, R_SHORT, G_SHORT⟩, ⟨E_UNSIGNED_SHORT, R_UNSIGNED_SHORT, G_UNSIGNED_SHORT⟩, ⟨E_INT, R_INT, G_INT⟩, ⟨E_UNSIGNED_INT, R_UNSIGNED_INT, G_UNSIGNED_INT⟩, ⟨E_LONG, R_LONG, G_LONG⟩, ⟨E_UNSIGNED_LONG, R_UNSIGNED_LONG, G_UNSIGNED_LONG⟩, ⟨E_LONG_LONG, R_LONG_LONG, G_LONG_LONG⟩, ⟨E_UNSIGNED_LONG_LONG, R_UNSIGNED_LONG_LONG, G_UNSIGNED_LONG_LONG⟩, ⟨E_INT128, R_INT128, G_INT128⟩, ⟨E_UNSIGNED_INT128, R_UNSIGNED_INT128, G_UNSIGNED_INT128⟩⟩ ⟨SV, AV, EV, FV, hsz, el_0, el_1, el_2, el_3, el_4, el_5, el_6, el_7, el_8, el_9, el_10, el_11, el_12, el_13⟩ (Old.start s) p e ha hc hk s m _ below hf ((Spec.applies_iff_loose hf).mp happ).1 ⟨rfl, State.Warmed39.refl s, rfl⟩ trivial
  refine ⟨n, _, h1, h2, h3, hpost _ _ _ _ _ _ ⟨Cond.after_iff.mpr rfl, Cond.after_iff.mpr (eq_i res_at (Term.int_eval (1)) rfl), trivial⟩ ⟨hq.1, hq.2.1, (hq.2.2.sift fun y hy => Or.inr (N y hy)).mono (by decide) (by decide)⟩⟩
theorem main_1_1 : Claimed_1_1 := comes_1 fun _ _ _ _ _ _ h hF => ⟨h.1, hF⟩
theorem main_1_2 : Claimed_1_2 := comes_1 fun _ _ _ _ _ _ h hF => ⟨h.2.1, hF⟩
end Jvm.Pilot.@@N@@
namespace Jvm.Pilot.@@N@@
open Jvm Jvm.ClassFile Sem Op Lib Jvm.Free Jvm.Stand Jvm.Pilot.@@N@@.Jvm.D
/-! MADE BY PROGRAM (witnessworld.py) out of the Statement's table words and the real class files: 14 classes; the members and pool entries that the words name. The judged class is class 1, her method 3. -/
namespace start1
open Jvm.ClassFile
def u (s : String) : CpInfo := .utf8 (stringToUtf16 s)
/-- a pool by its gaps: so many unusable entries, then the entry; so many at the end -/
def gap : Nat → List CpInfo → List CpInfo
  | 0, r => r
  | n + 1, r => .unusable :: gap n r
def poolList (es : List (Nat × CpInfo)) (last : Nat) : List CpInfo := es.foldr (fun e r => gap e.1 (e.2 :: r)) (gap last [])
def pool (es : List (Nat × CpInfo)) (last : Nat) : Array CpInfo := ⟨poolList es last⟩
def fileOf (pool : Array CpInfo) (this : Nat) (attrs : Array Attribute := #[]) (ms : Array MethodInfo := #[]) (fl : Nat := 33) (sup : Nat := 0) (ifs : Array Nat := #[]) (fds : Array FieldInfo := #[]) : ClassFile where
  minorVersion := 0
  majorVersion := 65
  constantPool := pool
  accessFlags := fl
  thisClass := this
  superClass := sup
  interfaces := ifs
  fields := fds
  methods := ms
  attributes := attrs
def plain (name : String) (sup : Option ClassId) : Class where
  name := name
  kind := .ordinary
  loader := none
  accessFlags := 33
  super := sup
  interfaces := #[]
  cf := none
  fields := #[]
  methods := #[]
  instanceTypes := #[]
  staticTypes := #[]
  resolved := #[]
  callSites := []
  init := .initialized
  statics := none
  mirror := none

def pool0 : Array CpInfo := pool [(5, u "<init>"), (0, u "()V"), (1, .class_ 10), (1, u "java/lang/Object"), (85, u "clone"), (0, u "()Ljava/lang/Object;")] 26

def k0m0 : Method := { name := "<init>", desc := "()V", sig := { parameters := [], returnType := none }, accessFlags := 1, code := none }
def k0m1 : Method := { name := "clone", desc := "()Ljava/lang/Object;", sig := { parameters := [], returnType := some (.object "java/lang/Object") }, accessFlags := 260, code := none }
/-- java/lang/Object -/
def k0 : Class := { plain "java/lang/Object" none with
  accessFlags := 33
  interfaces := #[]
  cf := some (fileOf pool0 8 #[] #[{ accessFlags := 1, nameIndex := 5, descriptorIndex := 6, attributes := #[] }, { accessFlags := 260, nameIndex := 96, descriptorIndex := 97, attributes := #[] }] 33 0 #[] #[])
  fields := #[]
  methods := #[k0m0, k0m1]
  instanceTypes := #[]
  staticTypes := #[]
  resolved := Array.replicate 124 none
  statics := none }

def pool1 : Array CpInfo := pool [(2, .class_ 4), (1, u "java/lang/Object"), (0, u "<init>"), (0, u "()V"), (0, .fieldref 8 9), (0, .class_ 10), (0, .nameAndType 11 12), (0, u "com/example/treellis/treellis/cfa/IntegerType"), (0, u "BOOL"), (0, u "Lcom/example/treellis/treellis/cfa/IntegerType;"), (0, .fieldref 8 14), (0, .nameAndType 15 12), (0, u "CHAR"), (0, .fieldref 8 17), (0, .nameAndType 18 12), (0, u "SIGNED_CHAR"), (0, .fieldref 8 20), (0, .nameAndType 21 12), (0, u "UNSIGNED_CHAR"), (0, .fieldref 8 23), (0, .nameAndType 24 12), (0, u "SHORT"), (0, .fieldref 8 26), (0, .nameAndType 27 12), (0, u "UNSIGNED_SHORT"), (0, .fieldref 8 29), (0, .nameAndType 30 12), (0, u "INT"), (0, .fieldref 8 32), (0, .nameAndType 33 12), (0, u "UNSIGNED_INT"), (0, .fieldref 8 35), (0, .nameAndType 36 12), (0, u "LONG"), (0, .fieldref 8 38), (0, .nameAndType 39 12), (0, u "UNSIGNED_LONG"), (0, .fieldref 8 41), (0, .nameAndType 42 12), (0, u "LONG_LONG"), (0, .fieldref 8 44), (0, .nameAndType 45 12), (0, u "UNSIGNED_LONG_LONG"), (0, .fieldref 8 47), (0, .nameAndType 48 12), (0, u "INT128"), (0, .fieldref 8 50), (0, .nameAndType 51 12), (0, u "UNSIGNED_INT128"), (0, .integer 2147483647), (0, .methodref 54 55), (0, .class_ 56), (0, .nameAndType 57 58), (0, u "com/example/treellis/treellis/cfa/IntegerTypeToUnsignedPinLaw"), (0, u "pick"), (0, u "(I)Lcom/example/treellis/treellis/cfa/IntegerType;"), (0, .methodref 8 60), (0, .nameAndType 61 62), (0, u "toUnsigned"), (0, u "()Lcom/example/treellis/treellis/cfa/IntegerType;"), (0, .methodref 54 64), (0, .nameAndType 65 58), (0, u "expected"), (3, u "law"), (0, u "(I)Z")] 2

def k1m0 : Method := { name := "<init>", desc := "()V", sig := { parameters := [], returnType := none }, accessFlags := 2, code := none }
def k1c1 : Code := { maxStack := 2, maxLocals := 1, code := method_2_code, exceptionTable := #[], attributes := #[] }
def k1m1 : Method := { name := "pick", desc := "(I)Lcom/example/treellis/treellis/cfa/IntegerType;", sig := { parameters := [.int], returnType := some (.object "com/example/treellis/treellis/cfa/IntegerType") }, accessFlags := 10, code := some k1c1 }
def k1c2 : Code := { maxStack := 2, maxLocals := 1, code := method_3_code, exceptionTable := #[], attributes := #[] }
def k1m2 : Method := { name := "expected", desc := "(I)Lcom/example/treellis/treellis/cfa/IntegerType;", sig := { parameters := [.int], returnType := some (.object "com/example/treellis/treellis/cfa/IntegerType") }, accessFlags := 10, code := some k1c2 }
def k1c3 : Code := { maxStack := 2, maxLocals := 4, code := code, exceptionTable := #[], attributes := #[] }
def k1m3 : Method := { name := "law", desc := "(I)Z", sig := { parameters := [.int], returnType := some .boolean }, accessFlags := 9, code := some k1c3 }
/-- com/example/treellis/treellis/cfa/IntegerTypeToUnsignedPinLaw -/
def k1 : Class := { plain "com/example/treellis/treellis/cfa/IntegerTypeToUnsignedPinLaw" (some 0) with
  accessFlags := 49
  interfaces := #[]
  cf := some (fileOf pool1 54 #[] #[{ accessFlags := 2, nameIndex := 5, descriptorIndex := 6, attributes := #[] }, { accessFlags := 10, nameIndex := 57, descriptorIndex := 58, attributes := #[] }, { accessFlags := 10, nameIndex := 65, descriptorIndex := 58, attributes := #[] }, { accessFlags := 9, nameIndex := 69, descriptorIndex := 70, attributes := #[] }] 49 2 #[] #[])
  fields := #[]
  methods := #[k1m0, k1m1, k1m2, k1m3]
  instanceTypes := #[]
  staticTypes := #[]
  resolved := Array.replicate 73 none
  statics := none }

def pool2 : Array CpInfo := pool [(1, .class_ 2), (0, u "java/lang/constant/Constable"), (0, .class_ 4), (0, u "java/lang/Object")] 6

/-- java/lang/constant/Constable -/
def k2 : Class := { plain "java/lang/constant/Constable" (some 0) with
  accessFlags := 1537
  interfaces := #[]
  cf := some (fileOf pool2 1 #[] #[] 1537 3 #[] #[])
  fields := #[]
  methods := #[]
  instanceTypes := #[]
  staticTypes := #[]
  resolved := Array.replicate 11 none
  statics := none }

def pool3 : Array CpInfo := pool [(1, .class_ 2), (0, u "java/lang/Comparable"), (0, .class_ 4), (0, u "java/lang/Object")] 7

/-- java/lang/Comparable -/
def k3 : Class := { plain "java/lang/Comparable" (some 0) with
  accessFlags := 1537
  interfaces := #[]
  cf := some (fileOf pool3 1 #[] #[] 1537 3 #[] #[])
  fields := #[]
  methods := #[]
  instanceTypes := #[]
  staticTypes := #[]
  resolved := Array.replicate 12 none
  statics := none }

def pool4 : Array CpInfo := pool [(1, .class_ 2), (0, u "java/io/Serializable"), (0, .class_ 4), (0, u "java/lang/Object")] 2

/-- java/io/Serializable -/
def k4 : Class := { plain "java/io/Serializable" (some 0) with
  accessFlags := 1537
  interfaces := #[]
  cf := some (fileOf pool4 1 #[] #[] 1537 3 #[] #[])
  fields := #[]
  methods := #[]
  instanceTypes := #[]
  staticTypes := #[]
  resolved := Array.replicate 7 none
  statics := none }

def pool5 : Array CpInfo := pool [(2, .class_ 4), (1, u "java/lang/Enum"), (0, u "name"), (0, u "Ljava/lang/String;"), (2, u "ordinal"), (0, u "I"), (1, .class_ 14), (1, u "java/lang/Object"), (4, u "hash"), (86, .class_ 108), (1, u "java/lang/Enum$EnumDesc"), (2, .class_ 112), (0, u "java/lang/constant/Constable"), (0, .class_ 114), (0, u "java/lang/Comparable"), (0, .class_ 116), (0, u "java/io/Serializable")] 87

/-- java/lang/Enum -/
def k5 : Class := { plain "java/lang/Enum" (some 0) with
  accessFlags := 1057
  interfaces := #[2, 3, 4]
  cf := some (fileOf pool5 2 #[.nestMembers #[106]] #[] 1057 12 #[111, 113, 115] #[{ accessFlags := 18, nameIndex := 5, descriptorIndex := 6, attributes := #[] }, { accessFlags := 18, nameIndex := 9, descriptorIndex := 10, attributes := #[] }, { accessFlags := 2, nameIndex := 19, descriptorIndex := 10, attributes := #[] }])
  fields := #[{ name := "name", type := (.object "java/lang/String"), accessFlags := 18, slot := 0, constantValue := 0 }, { name := "ordinal", type := .int, accessFlags := 18, slot := 1, constantValue := 0 }, { name := "hash", type := .int, accessFlags := 2, slot := 2, constantValue := 0 }]
  methods := #[]
  instanceTypes := #[(.object "java/lang/String"), .int, .int]
  staticTypes := #[]
  resolved := Array.replicate 204 none
  statics := none }

def pool6 : Array CpInfo := pool [(7, .class_ 8), (0, u "com/example/treellis/treellis/cfa/Type"), (0, .class_ 10), (0, u "java/lang/Object")] 17

/-- com/example/treellis/treellis/cfa/Type -/
def k6 : Class := { plain "com/example/treellis/treellis/cfa/Type" (some 0) with
  accessFlags := 1537
  interfaces := #[]
  cf := some (fileOf pool6 7 #[] #[] 1537 9 #[] #[])
  fields := #[]
  methods := #[]
  instanceTypes := #[]
  staticTypes := #[]
  resolved := Array.replicate 28 none
  statics := none }

def pool7 : Array CpInfo := pool [(1, .class_ 2), (0, u "com/example/treellis/treellis/cfa/IntegerType"), (2, u "BOOL"), (0, u "Lcom/example/treellis/treellis/cfa/IntegerType;"), (2, u "CHAR"), (2, u "SIGNED_CHAR"), (2, u "UNSIGNED_CHAR"), (2, u "SHORT"), (2, u "UNSIGNED_SHORT"), (2, u "INT"), (2, u "UNSIGNED_INT"), (2, u "LONG"), (2, u "UNSIGNED_LONG"), (2, u "LONG_LONG"), (2, u "UNSIGNED_LONG_LONG"), (2, u "INT128"), (2, u "UNSIGNED_INT128"), (0, .fieldref 1 47), (0, .nameAndType 48 49), (0, u "$VALUES"), (0, u "[Lcom/example/treellis/treellis/cfa/IntegerType;"), (0, .methodref 51 52), (0, .class_ 49), (0, .nameAndType 53 54), (0, u "clone"), (0, u "()Ljava/lang/Object;"), (1, .class_ 58), (1, u "java/lang/Enum"), (8, u "spelling"), (0, u "Ljava/lang/String;"), (0, .fieldref 1 70), (0, .nameAndType 71 72), (0, u "rank"), (0, u "I"), (0, .fieldref 1 74), (0, .nameAndType 75 76), (0, u "signed"), (0, u "Z"), (0, .methodref 1 78), (0, .nameAndType 79 80), (0, u "values"), (0, u "()[Lcom/example/treellis/treellis/cfa/IntegerType;"), (18, u "LONG_LONG_MIN"), (0, u "Ljava/math/BigInteger;"), (74, .class_ 176), (0, u "com/example/treellis/treellis/cfa/Type"), (9, u "toUnsigned"), (0, u "()Lcom/example/treellis/treellis/cfa/IntegerType;")] 25

def k7c0 : Code := { maxStack := 1, maxLocals := 0, code := prog_44_method_1_code, exceptionTable := #[], attributes := #[] }
def k7m0 : Method := { name := "values", desc := "()[Lcom/example/treellis/treellis/cfa/IntegerType;", sig := { parameters := [], returnType := some (.array (.object "com/example/treellis/treellis/cfa/IntegerType")) }, accessFlags := 9, code := some k7c0 }
def k7c1 : Code := { maxStack := 3, maxLocals := 5, code := prog_44_method_6_code, exceptionTable := #[], attributes := #[] }
def k7m1 : Method := { name := "toUnsigned", desc := "()Lcom/example/treellis/treellis/cfa/IntegerType;", sig := { parameters := [], returnType := some (.object "com/example/treellis/treellis/cfa/IntegerType") }, accessFlags := 1, code := some k7c1 }
/-- com/example/treellis/treellis/cfa/IntegerType -/
def k7 : Class := { plain "com/example/treellis/treellis/cfa/IntegerType" (some 5) with
  accessFlags := 16433
  interfaces := #[6]
  cf := some (fileOf pool7 1 #[] #[{ accessFlags := 9, nameIndex := 79, descriptorIndex := 80, attributes := #[] }, { accessFlags := 1, nameIndex := 186, descriptorIndex := 187, attributes := #[] }] 16433 56 #[175] #[{ accessFlags := 16409, nameIndex := 5, descriptorIndex := 6, attributes := #[] }, { accessFlags := 16409, nameIndex := 9, descriptorIndex := 6, attributes := #[] }, { accessFlags := 16409, nameIndex := 12, descriptorIndex := 6, attributes := #[] }, { accessFlags := 16409, nameIndex := 15, descriptorIndex := 6, attributes := #[] }, { accessFlags := 16409, nameIndex := 18, descriptorIndex := 6, attributes := #[] }, { accessFlags := 16409, nameIndex := 21, descriptorIndex := 6, attributes := #[] }, { accessFlags := 16409, nameIndex := 24, descriptorIndex := 6, attributes := #[] }, { accessFlags := 16409, nameIndex := 27, descriptorIndex := 6, attributes := #[] }, { accessFlags := 16409, nameIndex := 30, descriptorIndex := 6, attributes := #[] }, { accessFlags := 16409, nameIndex := 33, descriptorIndex := 6, attributes := #[] }, { accessFlags := 16409, nameIndex := 36, descriptorIndex := 6, attributes := #[] }, { accessFlags := 16409, nameIndex := 39, descriptorIndex := 6, attributes := #[] }, { accessFlags := 16409, nameIndex := 42, descriptorIndex := 6, attributes := #[] }, { accessFlags := 16409, nameIndex := 45, descriptorIndex := 6, attributes := #[] }, { accessFlags := 26, nameIndex := 99, descriptorIndex := 100, attributes := #[] }, { accessFlags := 18, nameIndex := 67, descriptorIndex := 68, attributes := #[] }, { accessFlags := 18, nameIndex := 71, descriptorIndex := 72, attributes := #[] }, { accessFlags := 18, nameIndex := 75, descriptorIndex := 76, attributes := #[] }, { accessFlags := 4122, nameIndex := 48, descriptorIndex := 49, attributes := #[] }])
  fields := #[{ name := "BOOL", type := (.object "com/example/treellis/treellis/cfa/IntegerType"), accessFlags := 16409, slot := 0, constantValue := 0 }, { name := "CHAR", type := (.object "com/example/treellis/treellis/cfa/IntegerType"), accessFlags := 16409, slot := 1, constantValue := 0 }, { name := "SIGNED_CHAR", type := (.object "com/example/treellis/treellis/cfa/IntegerType"), accessFlags := 16409, slot := 2, constantValue := 0 }, { name := "UNSIGNED_CHAR", type := (.object "com/example/treellis/treellis/cfa/IntegerType"), accessFlags := 16409, slot := 3, constantValue := 0 }, { name := "SHORT", type := (.object "com/example/treellis/treellis/cfa/IntegerType"), accessFlags := 16409, slot := 4, constantValue := 0 }, { name := "UNSIGNED_SHORT", type := (.object "com/example/treellis/treellis/cfa/IntegerType"), accessFlags := 16409, slot := 5, constantValue := 0 }, { name := "INT", type := (.object "com/example/treellis/treellis/cfa/IntegerType"), accessFlags := 16409, slot := 6, constantValue := 0 }, { name := "UNSIGNED_INT", type := (.object "com/example/treellis/treellis/cfa/IntegerType"), accessFlags := 16409, slot := 7, constantValue := 0 }, { name := "LONG", type := (.object "com/example/treellis/treellis/cfa/IntegerType"), accessFlags := 16409, slot := 8, constantValue := 0 }, { name := "UNSIGNED_LONG", type := (.object "com/example/treellis/treellis/cfa/IntegerType"), accessFlags := 16409, slot := 9, constantValue := 0 }, { name := "LONG_LONG", type := (.object "com/example/treellis/treellis/cfa/IntegerType"), accessFlags := 16409, slot := 10, constantValue := 0 }, { name := "UNSIGNED_LONG_LONG", type := (.object "com/example/treellis/treellis/cfa/IntegerType"), accessFlags := 16409, slot := 11, constantValue := 0 }, { name := "INT128", type := (.object "com/example/treellis/treellis/cfa/IntegerType"), accessFlags := 16409, slot := 12, constantValue := 0 }, { name := "UNSIGNED_INT128", type := (.object "com/example/treellis/treellis/cfa/IntegerType"), accessFlags := 16409, slot := 13, constantValue := 0 }, { name := "LONG_LONG_MIN", type := (.object "java/math/BigInteger"), accessFlags := 26, slot := 14, constantValue := 0 }, { name := "spelling", type := (.object "java/lang/String"), accessFlags := 18, slot := 3, constantValue := 0 }, { name := "rank", type := .int, accessFlags := 18, slot := 4, constantValue := 0 }, { name := "signed", type := .boolean, accessFlags := 18, slot := 5, constantValue := 0 }, { name := "$VALUES", type := (.array (.object "com/example/treellis/treellis/cfa/IntegerType")), accessFlags := 4122, slot := 15, constantValue := 0 }]
  methods := #[k7m0, k7m1]
  instanceTypes := #[(.object "java/lang/String"), .int, .int, (.object "java/lang/String"), .int, .boolean]
  staticTypes := #[(.object "com/example/treellis/treellis/cfa/IntegerType"), (.object "com/example/treellis/treellis/cfa/IntegerType"), (.object "com/example/treellis/treellis/cfa/IntegerType"), (.object "com/example/treellis/treellis/cfa/IntegerType"), (.object "com/example/treellis/treellis/cfa/IntegerType"), (.object "com/example/treellis/treellis/cfa/IntegerType"), (.object "com/example/treellis/treellis/cfa/IntegerType"), (.object "com/example/treellis/treellis/cfa/IntegerType"), (.object "com/example/treellis/treellis/cfa/IntegerType"), (.object "com/example/treellis/treellis/cfa/IntegerType"), (.object "com/example/treellis/treellis/cfa/IntegerType"), (.object "com/example/treellis/treellis/cfa/IntegerType"), (.object "com/example/treellis/treellis/cfa/IntegerType"), (.object "com/example/treellis/treellis/cfa/IntegerType"), (.object "java/math/BigInteger"), (.array (.object "com/example/treellis/treellis/cfa/IntegerType"))]
  resolved := Array.replicate 213 none
  statics := some 0 }

def pool8 : Array CpInfo := pool [(1, .class_ 2), (0, u "java/lang/Cloneable"), (0, .class_ 4), (0, u "java/lang/Object")] 2

/-- java/lang/Cloneable -/
def k8 : Class := { plain "java/lang/Cloneable" (some 0) with
  accessFlags := 1537
  interfaces := #[]
  cf := some (fileOf pool8 1 #[] #[] 1537 3 #[] #[])
  fields := #[]
  methods := #[]
  instanceTypes := #[]
  staticTypes := #[]
  resolved := Array.replicate 7 none
  statics := none }

/-- the primitive byte -/
def k9 : Class := { plain "byte" none with kind := .primitive 'B', accessFlags := 0x411 }
/-- [B -/
def k10 : Class := { plain "[B" (some 0) with kind := .array 9 .byte, interfaces := #[8, 4], accessFlags := 1041 }

/-- the primitive int -/
def k11 : Class := { plain "int" none with kind := .primitive 'I', accessFlags := 0x411 }
/-- [I -/
def k12 : Class := { plain "[I" (some 0) with kind := .array 11 .int, interfaces := #[8, 4], accessFlags := 1041 }

/-- [Lcom/example/treellis/treellis/cfa/IntegerType; -/
def k13 : Class := { plain "[Lcom/example/treellis/treellis/cfa/IntegerType;" (some 0) with kind := .array 7 (.object "com/example/treellis/treellis/cfa/IntegerType"), interfaces := #[8, 4], accessFlags := 1041 }

def heap : Heap := #[{ cls := 7, slots := #[.ref 2, .ref 3, .ref 4, .ref 5, .ref 6, .ref 7, .ref 8, .ref 9, .ref 10, .ref 11, .ref 12, .ref 13, .ref 14, .ref 15, .null, .ref 1], vm := .statics 7 },
  { cls := 13, slots := #[.ref 2, .ref 3, .ref 4, .ref 5, .ref 6, .ref 7, .ref 8, .ref 9, .ref 10, .ref 11, .ref 12, .ref 13, .ref 14, .ref 15], vm := .none },
  { cls := 7, slots := #[.null, .int 0, .int 0, .null, .int 0, .int 0], vm := .none },
  { cls := 7, slots := #[.null, .int 0, .int 0, .null, .int 1, .int 1], vm := .none },
  { cls := 7, slots := #[.null, .int 0, .int 0, .null, .int 1, .int 1], vm := .none },
  { cls := 7, slots := #[.null, .int 0, .int 0, .null, .int 1, .int 0], vm := .none },
  { cls := 7, slots := #[.null, .int 0, .int 0, .null, .int 2, .int 1], vm := .none },
  { cls := 7, slots := #[.null, .int 0, .int 0, .null, .int 2, .int 0], vm := .none },
  { cls := 7, slots := #[.null, .int 0, .int 0, .null, .int 3, .int 1], vm := .none },
  { cls := 7, slots := #[.null, .int 0, .int 0, .null, .int 3, .int 0], vm := .none },
  { cls := 7, slots := #[.null, .int 0, .int 0, .null, .int 4, .int 1], vm := .none },
  { cls := 7, slots := #[.null, .int 0, .int 0, .null, .int 4, .int 0], vm := .none },
  { cls := 7, slots := #[.null, .int 0, .int 0, .null, .int 5, .int 1], vm := .none },
  { cls := 7, slots := #[.null, .int 0, .int 0, .null, .int 5, .int 0], vm := .none },
  { cls := 7, slots := #[.null, .int 0, .int 0, .null, .int 6, .int 1], vm := .none },
  { cls := 7, slots := #[.null, .int 0, .int 0, .null, .int 6, .int 0], vm := .none }]
def classes : Array Class := #[k0, k1, k2, k3, k4, k5, k6, k7, k8, k9, k10, k11, k12, k13]
def interned : List (Array UInt16 × Addr) := []
def slotsUsed : Nat := 114
def theMethod : MethodId := ⟨1, 3⟩
def args0 : Array Value := #[.int 5]
def aboutOver (below : List Frame) : State where
  vm := { classes := classes, interned := interned.toArray }
  heap := heap
  slotsUsed := slotsUsed
  threads := #[{ frames := .invoking theMethod args0 :: below }]
def below0 : List Frame := [.native { method := ⟨0, 0⟩, args := #[] }]
def about1 : State := aboutOver below0
def p0 : Program := .bare "" "" ""
def e0 : Env := launch0.env 0 0 0
theorem w_frames : about1.frames = Frame.invoking theMethod args0 :: below0 := rfl
set_option maxRecDepth 65536 in
theorem w_args : argsFit about1.vm theMethod args0 = true := by decide +kernel
set_option maxRecDepth 65536 in
theorem w_heap : heapFits about1 = true := by decide +kernel
set_option maxRecDepth 65536 in
theorem w_runnable : about1.curStatus? = some .runnable := by decide +kernel
set_option maxRecDepth 65536 in
theorem w_alone : about1.alone = true := by decide +kernel
set_option maxRecDepth 65536 in
theorem w_named : about1.methodNamed? x = some theMethod := by decide +kernel
set_option maxRecDepth 65536 in
theorem w_hears : about1.hears theMethod below0 = true := by decide +kernel
set_option maxRecDepth 65536 in
theorem w_ripe : about1.ripe theMethod args0 below0 = true := by decide +kernel
theorem w_running : about1.status = .running := rfl
set_option maxRecDepth 65536 in
theorem w_room : about1.hasRoom e0.platform room_1 = true :=
  launch0.hasRoom_least _ room_1 (by decide +kernel) (by decide +kernel) (by decide +kernel) (by decide +kernel) (by decide +kernel) (by decide +kernel)
theorem allAtoms_all (ts : List Jvm.Cond) (a : Array Jvm.Value) (st : Jvm.State) : (allAtoms ts).before a st = ts.all (fun c => c.before a st) := by
  induction ts with
  | nil => rfl
  | cons c t ih =>
    show (Jvm.Cond.and c (allAtoms t)).before a st = _
    rw [Jvm.Cond.before_and, ih, List.all_cons]
def words1 : List Jvm.Cond := Jvm.Cond.code x code maxLocals ret :: tables_1
/-- a 'code' word, met by the world's own term for the bytes: nothing is compared byte by byte -/
theorem code_word {y : MethodName} {bytes : ByteArray} {mx : Nat} {rt : Option FieldType} {a : Array Value} {s : State} {m : MethodId} {meth : Method} {c : Code} (h1 : s.methodNamed? y = some m) (h2 : s.vm.method? m = some meth) (h3 : meth.code = some c) (h4 : c.code = bytes)
    (h5 : (c.maxLocals == mx && c.exceptionTable.isEmpty && decide (c.maxStack ≤ mostOperands) && decide (meth.sig.returnType = rt) && !meth.locks && decide (parseMethodDescriptor y.desc = some meth.sig)) = true) : (Jvm.Cond.code y bytes mx rt).before a s = true := by
  simp only [Bool.and_eq_true, beq_iff_eq, Bool.not_eq_true', decide_eq_true_eq] at h5
  obtain ⟨⟨⟨⟨⟨g1, g2⟩, g3⟩, g4⟩, g5⟩, g6⟩ := h5
  simp [Cond.before, Cond.holds, Cond.value, h1, h2, h3, h4, g1, g2, g3, g4, g5, g6]
def isCode : Jvm.Cond → Bool
  | .code _ _ _ _ => true
  | _ => false
theorem all_split {L : List Jvm.Cond} {P : Jvm.Cond → Bool} (h1 : L.all (fun c => isCode c || P c) = true) (h2 : ∀ c ∈ L.filter isCode, P c = true) : L.all P = true := by
  refine List.all_eq_true.mpr fun c hc => ?_
  have h := List.all_eq_true.mp h1 c hc
  rcases Bool.eq_false_or_eq_true (isCode c) with hi | hi
  · exact h2 c (List.mem_filter.mpr ⟨hc, hi⟩)
  · simpa [hi] using h
set_option maxRecDepth 65536 in
theorem w_c0 : (Jvm.Cond.code x code maxLocals ret).before args0 about1 = true := code_word (m := ⟨1, 3⟩) (meth := k1m3) (c := k1c3) (by decide +kernel) rfl rfl rfl (by decide +kernel)
set_option maxRecDepth 65536 in
theorem w_c1 : (Jvm.Cond.code ({ cls := "com/example/treellis/treellis/cfa/IntegerTypeToUnsignedPinLaw", name := "pick", desc := "(I)Lcom/example/treellis/treellis/cfa/IntegerType;" } : Jvm.MethodName) method_2_code (1 : Nat) (Option.some (Jvm.ClassFile.FieldType.object "com/example/treellis/treellis/cfa/IntegerType"))).before args0 about1 = true := code_word (m := ⟨1, 1⟩) (meth := k1m1) (c := k1c1) (by decide +kernel) rfl rfl rfl (by decide +kernel)
set_option maxRecDepth 65536 in
theorem w_c2 : (Jvm.Cond.code ({ cls := "com/example/treellis/treellis/cfa/IntegerType", name := "toUnsigned", desc := "()Lcom/example/treellis/treellis/cfa/IntegerType;" } : Jvm.MethodName) prog_44_method_6_code (5 : Nat) (Option.some (Jvm.ClassFile.FieldType.object "com/example/treellis/treellis/cfa/IntegerType"))).before args0 about1 = true := code_word (m := ⟨7, 1⟩) (meth := k7m1) (c := k7c1) (by decide +kernel) rfl rfl rfl (by decide +kernel)
set_option maxRecDepth 65536 in
theorem w_c3 : (Jvm.Cond.code ({ cls := "com/example/treellis/treellis/cfa/IntegerType", name := "values", desc := "()[Lcom/example/treellis/treellis/cfa/IntegerType;" } : Jvm.MethodName) prog_44_method_1_code (0 : Nat) (Option.some (Jvm.ClassFile.FieldType.array (Jvm.ClassFile.FieldType.object "com/example/treellis/treellis/cfa/IntegerType")))).before args0 about1 = true := code_word (m := ⟨7, 0⟩) (meth := k7m0) (c := k7c0) (by decide +kernel) rfl rfl rfl (by decide +kernel)
set_option maxRecDepth 65536 in
theorem w_c4 : (Jvm.Cond.code ({ cls := "com/example/treellis/treellis/cfa/IntegerTypeToUnsignedPinLaw", name := "expected", desc := "(I)Lcom/example/treellis/treellis/cfa/IntegerType;" } : Jvm.MethodName) method_3_code (1 : Nat) (Option.some (Jvm.ClassFile.FieldType.object "com/example/treellis/treellis/cfa/IntegerType"))).before args0 about1 = true := code_word (m := ⟨1, 2⟩) (meth := k1m2) (c := k1c2) (by decide +kernel) rfl rfl rfl (by decide +kernel)
def codes1 : List Jvm.Cond := [Jvm.Cond.code x code maxLocals ret, Jvm.Cond.code ({ cls := "com/example/treellis/treellis/cfa/IntegerTypeToUnsignedPinLaw", name := "pick", desc := "(I)Lcom/example/treellis/treellis/cfa/IntegerType;" } : Jvm.MethodName) method_2_code (1 : Nat) (Option.some (Jvm.ClassFile.FieldType.object "com/example/treellis/treellis/cfa/IntegerType")), Jvm.Cond.code ({ cls := "com/example/treellis/treellis/cfa/IntegerType", name := "toUnsigned", desc := "()Lcom/example/treellis/treellis/cfa/IntegerType;" } : Jvm.MethodName) prog_44_method_6_code (5 : Nat) (Option.some (Jvm.ClassFile.FieldType.object "com/example/treellis/treellis/cfa/IntegerType")), Jvm.Cond.code ({ cls := "com/example/treellis/treellis/cfa/IntegerType", name := "values", desc := "()[Lcom/example/treellis/treellis/cfa/IntegerType;" } : Jvm.MethodName) prog_44_method_1_code (0 : Nat) (Option.some (Jvm.ClassFile.FieldType.array (Jvm.ClassFile.FieldType.object "com/example/treellis/treellis/cfa/IntegerType"))), Jvm.Cond.code ({ cls := "com/example/treellis/treellis/cfa/IntegerTypeToUnsignedPinLaw", name := "expected", desc := "(I)Lcom/example/treellis/treellis/cfa/IntegerType;" } : Jvm.MethodName) method_3_code (1 : Nat) (Option.some (Jvm.ClassFile.FieldType.object "com/example/treellis/treellis/cfa/IntegerType"))]
set_option maxRecDepth 65536 in
theorem codes_eq : words1.filter isCode = codes1 := rfl
theorem w_codes : ∀ c ∈ words1.filter isCode, c.before args0 about1 = true := by
  rw [codes_eq]
  intro c hc
  simp only [codes1, List.mem_cons, List.not_mem_nil, or_false] at hc
  rcases hc with rfl | rfl | rfl | rfl | rfl
  · exact w_c0
  · exact w_c1
  · exact w_c2
  · exact w_c3
  · exact w_c4
set_option maxRecDepth 65536 in
theorem w_t1 : (words1.take 24).all (fun c => isCode c || c.before args0 about1) = true := by decide +kernel
set_option maxRecDepth 65536 in
theorem w_t2 : ((words1.drop 24).take 24).all (fun c => isCode c || c.before args0 about1) = true := by decide +kernel
set_option maxRecDepth 65536 in
theorem w_t3 : ((words1.drop 24).drop 24).all (fun c => isCode c || c.before args0 about1) = true := by decide +kernel
theorem w_tables : (allAtoms (Jvm.Cond.code x code maxLocals ret :: tables_1)).before args0 about1 = true := by
  rw [allAtoms_all]
  show words1.all (fun c => c.before args0 about1) = true
  refine all_split ?_ w_codes
  rw [← List.take_append_drop 24 words1, List.all_append, w_t1, ← List.take_append_drop 24 (words1.drop 24), List.all_append, w_t2, w_t3]
  rfl
set_option maxRecDepth 65536 in
theorem w_case : (Jvm.Cond.and given_1 narrow_1).before args0 about1 = true := by decide +kernel
theorem w_applies : (headSpec (Jvm.Cond.code x code maxLocals ret :: tables_1) room_1).applies x e0.platform about1 = true :=
  (Spec.applies_iff w_frames).mpr ⟨w_running, w_runnable, w_alone, w_named, w_hears, w_ripe, w_room, w_tables⟩
theorem atStart : AtStart classFile x code maxLocals ret World_1 tables_1 room_1 Calls_1 rest_1 Pre_1 launch0 p0 e0 about1 theMethod args0 below0 :=
  ⟨lists_1, trivial, launch0.admits_env _ _ _, launch0.least_env, fairChoices_fair.cas, fairChoices_fair.clock, w_frames, w_args, w_heap, w_applies, trivial, trivial, w_case⟩
end start1
theorem witness_1 : WitnessClaimed_1 := ⟨start1.p0, start1.e0, start1.about1, start1.theMethod, start1.args0, start1.below0, start1.atStart⟩
end Jvm.Pilot.@@N@@
