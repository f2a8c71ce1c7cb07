import JvmDerived
import JvmDerived.Pilot.@@N@@Statement
import JvmDerived.Pilot.@@N@@Code
set_option linter.unusedVariables false
set_option linter.unusedSimpArgs false
namespace Jvm.RoadKit
open Sem ClassFile Op Lib Jvm.Stand Jvm.Free Jvm.LawKit
section Own
variable {p : Program} {l : Launch} {e : Env} {R : Room} {s : State} {m : MethodId} {args : Array Value} {below : List Frame} {meth : Method} {c : Code} {T T1 : State} {locs : List Loc} {cells slots cs ss : Nat} {Q : Option Value → Heap → List Loc → Prop} {g g1 : JFrame}
/-- from the frame g over T the body comes to its end, and what it leaves is as Q says -/
def own_Goes (p : Program) (e : Env) (below : List Frame) (s : State) (Q : Option Value → Heap → List Loc → Prop) (cs ss : Nat) (T : State) (g : JFrame) : Prop :=
  ∃ s₂ o, Steps p.tables e below (T.setTop g) s₂ ∧ s₂.status = .running ∧ Ended s₂ below o ∧ ∃ v L, o = .returned v ∧ Q v s₂.heap L ∧ FrameEnd s o s₂ L cs ss
theorem own_go (st : ∀ target, Steps p.tables e below (T1.setTop g1) target → Steps p.tables e below (T.setTop g) target) (k : own_Goes p e below s Q cs ss T1 g1) : own_Goes p e below s Q cs ss T g := by
  obtain ⟨s₂, o, h, r⟩ := k
  exact ⟨s₂, o, st _ h, r⟩
theorem own_goS (st : Steps p.tables e below (T.setTop g) (T1.setTop g1)) (k : own_Goes p e below s Q cs ss T1 g1) : own_Goes p e below s Q cs ss T g := own_go (fun _ h => st.trans h) k
/-- the ends -/
theorem own_retN (X : Stand p l e R s m args below meth c T locs cells slots) (hx : p.tables.exec = Jvm.exec) {pc : Nat} {Ls : Array Slot} {z : Int32} {t : FieldType} {rest : List Value} (hlk : meth.locks = false) (hret : meth.sig.returnType = some t) (ht : t = .boolean ∨ t = .byte ∨ t = .char ∨ t = .short)
    (hd : decode c.code pc = .ok (.ireturn, 1)) (hc : cells ≤ cs) (hs : slots ≤ ss) (hQ : Q (some (.int (nar t z))) T.heap locs) : own_Goes p e below s Q cs ss T (mkF m pc Ls (.int z :: rest)) := by
  obtain ⟨fs, hr, hrun, hended, hW, hsame⟩ := X.leave (v := some (.int (nar t z))) (fun h => by rw [hret] at h; cases h) hlk
  exact ⟨_, _, retN X hx hret ht hd hr, hrun, hended, _, _, rfl, hQ, ⟨_, rfl⟩, hW, hsame.mono hc hs⟩
theorem own_ret (X : Stand p l e R s m args below meth c T locs cells slots) (hx : p.tables.exec = Jvm.exec) {pc : Nat} {Ls : Array Slot} {w : Value} {t : FieldType} {i : Instr} {rest : List Value} (hlk : meth.locks = false) (hret : meth.sig.returnType = some t) (hn : narrow t w = w)
    (hi : (i = .ireturn ∧ (t = .int ∨ t = .boolean ∨ t = .byte ∨ t = .char ∨ t = .short) ∧ ∃ z, w = .int z) ∨ (i = .lreturn ∧ t = .long ∧ ∃ z, w = .long z) ∨ (i = .dreturn ∧ t = .double ∧ ∃ z, w = .double z) ∨ (i = .freturn ∧ t = .float ∧ ∃ z, w = .float z) ∨ (i = .areturn ∧ t.isReference = true ∧ w.isRef = true))
    (hd : decode c.code pc = .ok (i, 1)) (hc : cells ≤ cs) (hs : slots ≤ ss) (hQ : Q (some w) T.heap locs) : own_Goes p e below s Q cs ss T (mkF m pc Ls (w :: rest)) := by
  obtain ⟨fs, hr, hrun, hended, hW, hsame⟩ := X.leave (v := some w) (fun h => by rw [hret] at h; cases h) hlk
  exact ⟨_, _, retOut X hx hret hn hi hd hr, hrun, hended, _, _, rfl, hQ, ⟨_, rfl⟩, hW, hsame.mono hc hs⟩
theorem own_retI (X : Stand p l e R s m args below meth c T locs cells slots) (hx : p.tables.exec = Jvm.exec) {pc : Nat} {Ls : Array Slot} {z : Int32} {rest : List Value} (hlk : meth.locks = false) (hret : meth.sig.returnType = some .int)
    (hd : decode c.code pc = .ok (.ireturn, 1)) (hc : cells ≤ cs) (hs : slots ≤ ss) (hQ : Q (some (.int z)) T.heap locs) : own_Goes p e below s Q cs ss T (mkF m pc Ls (.int z :: rest)) :=
  own_ret X hx hlk hret rfl (Or.inl ⟨rfl, Or.inl rfl, _, rfl⟩) hd hc hs hQ
theorem own_retA (X : Stand p l e R s m args below meth c T locs cells slots) (hx : p.tables.exec = Jvm.exec) {pc : Nat} {Ls : Array Slot} {w : Value} {t : FieldType} {rest : List Value} (hlk : meth.locks = false) (hret : meth.sig.returnType = some t) (ht : t.isReference = true) (hw : w.isRef = true)
    (hd : decode c.code pc = .ok (.areturn, 1)) (hc : cells ≤ cs) (hs : slots ≤ ss) (hQ : Q (some w) T.heap locs) : own_Goes p e below s Q cs ss T (mkF m pc Ls (w :: rest)) :=
  own_ret X hx hlk hret (by rcases ref_cases hw with rfl | ⟨a, rfl⟩ <;> cases t <;> simp [FieldType.isReference] at ht <;> rfl) (Or.inr (Or.inr (Or.inr (Or.inr ⟨rfl, ht, hw⟩)))) hd hc hs hQ
theorem own_more (X : Stand p l e R s m args below meth c T locs cells slots) {cells' slots' : Nat} (h1 : cells ≤ cells') (h2 : slots ≤ slots') : Stand p l e R s m args below meth c T locs cells' slots' := X.more h1 h2
theorem own_retV (X : Stand p l e R s m args below meth c T locs cells slots) (hx : p.tables.exec = Jvm.exec) {pc : Nat} {Ls : Array Slot} (hlk : meth.locks = false) (hret : meth.sig.returnType = none)
    (hd : decode c.code pc = .ok (.return_, 1)) (hc : cells ≤ cs) (hs : slots ≤ ss) (hQ : Q none T.heap locs) : own_Goes p e below s Q cs ss T (mkF m pc Ls []) := by
  obtain ⟨fs, hr, hrun, hended, hW, hsame⟩ := X.leave (v := none) (fun _ => rfl) hlk
  exact ⟨_, _, X.returnOut hx hret hd hr, hrun, hended, _, _, rfl, hQ, ⟨_, rfl⟩, hW, hsame.mono hc hs⟩
/-- what holds throughout a body's walk -/
def own_Ctx (Z : State) (y : MethodName) (own : String) (bytes : ByteArray) (maxL : Nat) (ret : Option FieldType) (p : Program) (s : State) (m : MethodId) (meth : Method) (c : Code) : Prop :=
  p.tables.exec = Jvm.exec ∧ c.code = bytes ∧ c.maxLocals = maxL ∧ s.vm.findClass own = some m.cls ∧ meth.name = y.name ∧ meth.sig.returnType = ret ∧ meth.locks = false ∧ Z.Warmed39 s.vm
theorem own_met {Z : State} {y : MethodName} {own : String} {bytes : ByteArray} {maxL : Nat} {ret : Option FieldType} {ws : List Cond} {rm : Room} {as' : Array Value} {h0 : Heap} (hy : y.cls = own) (hpn : plainFor y = true)
    (body : ∀ (p : Program) (e : Env) (s : State) (m : MethodId) (below : List Frame) (meth : Method) (c : Code) (s₁ : State), own_Ctx Z y own bytes maxL ret p s m meth c → s₁.heap = h0 → Stand p l e rm s m as' below meth c s₁ [] 0 0 → own_Goes p e below s Q cs ss s₁ (entryFrame m as' maxL)) :
    MetFree l y (head1 (Cond.code y bytes maxL ret :: ws) rm) (fun a U => a = as' ∧ Z.Warmed39 U.vm ∧ U.heap = h0) (fun _ _ _ _ _ => True) (fun _ U o U' => ∃ v L, o = .returned v ∧ Q v U'.heap L ∧ FrameEnd U o U' L cs ss) := by
  subst hy
  refine MetFree.of_bodySF hpn hisR ?_
  intro p e s m args below meth c s₁ Bd hml0 hP hK
  obtain ⟨rfl, hZ, hh⟩ := hP
  exact body p e s m below meth c s₁ ⟨Bd.exec, Bd.bytes, hml0, findClass_of_methodNamed Bd.named, (name_of_methodNamed Bd.named Bd.method).1, Bd.returns, Bd.notSynchronized, hZ⟩ (by rw [← hh, Bd.state]; rfl) (Stand.of_body Bd)
end Own
end Jvm.RoadKit
namespace Jvm.Free.XS
open Sem ClassFile Op Lib
theorem own_i2d {tb : Tables} [Ours tb] {e : Env} {below : List Frame} {T target : State} {m : MethodId} {c : Code} {g : JFrame} (h : At T m c below) (hx : tb.exec = Jvm.exec) (hg : g.method = m) {x : Int32} {rest : List Value} (hd : decode c.code g.pc = .ok (.i2d, 1)) (hs : g.stack = .int x :: rest)
    (hr : Steps tb e below (T.setTop { g with pc := g.pc + 1, stack := .double (FP.i2d x) :: rest }) target) : Steps tb e below (T.setTop g) target := by
  subst hg
  jvm_step h [h.top, hx, hd, hs]
  exact hr
theorem own_ddiv {tb : Tables} [Ours tb] {e : Env} {below : List Frame} {T target : State} {m : MethodId} {c : Code} {g : JFrame} (h : At T m c below) (hx : tb.exec = Jvm.exec) (hg : g.method = m) {x y : UInt64} {rest : List Value} (hd : decode c.code g.pc = .ok (.ddiv, 1)) (hs : g.stack = .double y :: .double x :: rest) (hn : FP.ddiv x y &&& 0x7fffffffffffffff ≤ 0x7ff0000000000000)
    (hr : Steps tb e below (T.setTop { g with pc := g.pc + 1, stack := .double (FP.ddiv x y) :: rest }) target) : Steps tb e below (T.setTop g) target := by
  subst hg
  jvm_step h [h.top, hx, hd, hs, ddiv.sem, anyNaN64, hn]
  exact hr
theorem own_dcmpl {tb : Tables} [Ours tb] {e : Env} {below : List Frame} {T target : State} {m : MethodId} {c : Code} {g : JFrame} (h : At T m c below) (hx : tb.exec = Jvm.exec) (hg : g.method = m) {x y : UInt64} {rest : List Value} (hd : decode c.code g.pc = .ok (.dcmp .l, 1)) (hs : g.stack = .double y :: .double x :: rest)
    (hr : Steps tb e below (T.setTop { g with pc := g.pc + 1, stack := .int (cmpValue (FP.dcmp x y) .l) :: rest }) target) : Steps tb e below (T.setTop g) target := by
  subst hg
  jvm_step h [h.top, hx, hd, hs]
  exact hr
end Jvm.Free.XS
namespace Jvm.FP.Core
theorem own_nn (a : UInt64) (h : dIsNaN a = false) : a &&& 0x7fffffffffffffff ≤ 0x7ff0000000000000 := by
  rw [UInt64.le_iff_toNat_le, UInt64.toNat_and, show (0x7fffffffffffffff : UInt64).toNat = 2 ^ 63 - 1 from rfl, Nat.and_two_pow_sub_one_eq_mod, show (0x7ff0000000000000 : UInt64).toNat = 9218868437227405312 from rfl]
  refine Nat.not_lt.mp fun q => ?_
  rw [(isNaN_bits a).mpr q] at h; cases h
theorem own_v8 : val64 4620693217682128896 = .fin false 4503599627370496 (-49) := by decide +kernel
theorem own_v12 : val64 4622945017495814144 = .fin false 6755399441055744 (-49) := by decide +kernel
theorem own_shift (s t : Bool) (c d : Nat) (q : Int) : order (.fin s c (q - 3)) (.fin t d (-49)) = order (.fin s c q) (.fin t d (-46)) := by
  have e1 : q - 3 - min (q - 3) (-49) = q - min q (-46) := by omega
  have e2 : -49 - min (q - 3) (-49) = -46 - min q (-46) := by omega
  simp only [order, inUnits, e1, e2]
theorem own_dc (a : Int32) : dcmp (ddiv (i2d a) 4620693217682128896) 4622945017495814144 = some (compare a.toInt 96) := by
  have hw : Whole a.toInt (val64 (i2d a)) := i2d_int a
  have hf : fits b64 (val64 (i2d a)) := by rw [val64_i2d]; exact round_fits good_b64 _
  show order (val64 (ddiv (i2d a) 4620693217682128896)) (val64 4622945017495814144) = _
  rw [val64_ddiv, own_v8, own_v12]
  generalize val64 (i2d a) = x at hw hf
  generalize a.toInt = i at *
  cases x with
  | nan => exact hw.elim
  | inf => exact hw.elim
  | fin s c q =>
    have hn := whole_natAbs hw
    by_cases hc : c = 0
    · subst hc
      have hi : i = 0 := by
        have p := Nat.two_pow_pos (-q).toNat
        rw [Nat.zero_mul] at hn
        rcases Nat.mul_eq_zero.mp hn.symm with r | r <;> omega
      subst hi
      have e : quotient b64 (.fin s 0 q) (.fin false 4503599627370496 (-49)) = .fin (s != false) 0 b64.qmin := by simp [quotient, roundRatio]
      rw [e, order_whole (i := 0) (j := 12) (by show signed _ (0 * _) = 0 * _; cases s <;> simp [signed]) (by show signed false (6755399441055744 * 2 ^ (-49 : Int).toNat) = 12 * ((2 ^ (-(-49 : Int)).toNat : Nat) : Int); decide)]
      rfl
    · obtain ⟨h1, h2, h3, h4⟩ := hf
      have hp : b64.p = 53 := rfl
      have hq0 : b64.qmin = -1074 := by decide
      have hq1 : b64.qmax = 971 := by decide
      rw [hp] at h1; rw [hq0] at h2 h4; rw [hq1] at h3
      have hi : 1 ≤ i.natAbs := by
        rcases Nat.eq_zero_or_pos i.natAbs with z | z
        · rw [z, Nat.zero_mul] at hn
          have p := Nat.two_pow_pos q.toNat
          rcases Nat.mul_eq_zero.mp hn with r | r <;> omega
        · exact z
      have hq : -60 < q := by
        refine Int.not_le.mp fun r => ?_
        have z : q.toNat = 0 := by omega
        rw [z, Nat.pow_zero, Nat.mul_one] at hn
        have w : 2 ^ 60 ≤ 2 ^ (-q).toNat := Nat.pow_le_pow_right (by decide) (by omega)
        have v := Nat.mul_le_mul hi w
        rw [← hn] at v
        have : (2 : Nat) ^ 60 = 1152921504606846976 := rfl
        have : (2 : Nat) ^ 53 = 9007199254740992 := rfl
        omega
      have e : quotient b64 (.fin s c q) (.fin false 4503599627370496 (-49)) = .fin s c (q - 3) := by
        have z : (s != false) = s := by cases s <;> rfl
        simp only [quotient, z]
        rw [if_neg (by decide)]
        refine roundRatio_exact good_b64 (by decide) ⟨by rw [hp]; exact h1, by rw [hq0]; omega, by rw [hq1]; omega, Or.inr (h4.resolve_left (by omega))⟩ ?_
        rw [show (q - -49 - (q - 3)).toNat = 52 from by omega, show (q - 3 - (q - -49)).toNat = 0 from by omega, Nat.pow_zero, Nat.mul_one]
      rw [e, own_shift]
      exact order_whole hw (by show signed false (6755399441055744 * 2 ^ (-46 : Int).toNat) = 96 * ((2 ^ (-(-46 : Int)).toNat : Nat) : Int); decide)
theorem own_dn (a : Int32) : FP.ddiv (FP.i2d a) 4620693217682128896 &&& 0x7fffffffffffffff ≤ 0x7ff0000000000000 :=
  own_nn _ (ddiv_out (i2d_fin a).notNaN ⟨_, _, _, own_v8⟩ (fun ⟨s, q, h⟩ => by rw [own_v8] at h; cases h))
end Jvm.FP.Core
namespace Jvm.Pilot.@@N@@
open Jvm Jvm.ClassFile Sem Op Lib Jvm.Free Jvm.Stand Jvm.LawKit Jvm.RoadKit Bundle Jvm.Pilot.@@N@@.Jvm.D
def own_pos (q2 : UInt64) : Int32 := if (cmpValue (FP.dcmp q2 (4622945017495814144 : UInt64)) .l) < (0 : Int32) then 0 else 1
theorem own_posT {p : Int32} (h : p < (96 : Int32)) : own_pos (FP.ddiv (FP.i2d p) (4620693217682128896 : UInt64)) = 0 := by
  have e : FP.dcmp (FP.ddiv (FP.i2d p) (4620693217682128896 : UInt64)) (4622945017495814144 : UInt64) = some (compare p.toInt 96) := FP.Core.own_dc p
  have l : p.toInt < 96 := by rw [Int32.lt_iff_toInt_lt] at h; exact h
  have k : compare p.toInt 96 = .lt := by simp only [compare, compareOfLessAndEq, l, if_true]
  unfold own_pos; rw [e, k]; rfl
theorem own_posF {p : Int32} (h : ¬ p < (96 : Int32)) : own_pos (FP.ddiv (FP.i2d p) (4620693217682128896 : UInt64)) = 1 := by
  have e : FP.dcmp (FP.ddiv (FP.i2d p) (4620693217682128896 : UInt64)) (4622945017495814144 : UInt64) = some (compare p.toInt 96) := FP.Core.own_dc p
  have l : ¬ p.toInt < 96 := by rw [Int32.lt_iff_toInt_lt] at h; exact h
  have k : compare p.toInt 96 = .eq ∨ compare p.toInt 96 = .gt := by
    by_cases q : p.toInt = 96
    · left; simp [compare, compareOfLessAndEq, q]
    · right; simp [compare, compareOfLessAndEq, l, q]
  unfold own_pos; rw [e]
  rcases k with k | k <;> rw [k] <;> rfl
theorem d1_0 : decode prog_96_method_1_code 0 = .ok (.aload_n 0, 1) := by decide +kernel
theorem d1_1 : decode prog_96_method_1_code 1 = .ok (.invokespecial 1, 3) := by decide +kernel
theorem d1_4 : decode prog_96_method_1_code 4 = .ok (.aload_n 0, 1) := by decide +kernel
theorem d1_5 : decode prog_96_method_1_code 5 = .ok (.dload_n 1, 1) := by decide +kernel
theorem d1_6 : decode prog_96_method_1_code 6 = .ok (.putfield 7, 3) := by decide +kernel
theorem d1_9 : decode prog_96_method_1_code 9 = .ok (.aload_n 0, 1) := by decide +kernel
theorem d1_10 : decode prog_96_method_1_code 10 = .ok (.iload_n 3, 1) := by decide +kernel
theorem d1_11 : decode prog_96_method_1_code 11 = .ok (.putfield 13, 3) := by decide +kernel
theorem d1_14 : decode prog_96_method_1_code 14 = .ok (.aload_n 0, 1) := by decide +kernel
theorem d1_15 : decode prog_96_method_1_code 15 = .ok (.iload 4, 2) := by decide +kernel
theorem d1_17 : decode prog_96_method_1_code 17 = .ok (.putfield 17, 3) := by decide +kernel
theorem d1_20 : decode prog_96_method_1_code 20 = .ok (.return_, 1) := by decide +kernel
theorem d2_0 : decode jdk_30_method_1_code 0 = .ok (.aload_n 0, 1) := by decide +kernel
theorem d2_1 : decode jdk_30_method_1_code 1 = .ok (.invokespecial 1, 3) := by decide +kernel
theorem d2_4 : decode jdk_30_method_1_code 4 = .ok (.return_, 1) := by decide +kernel
theorem d4_0 : decode prog_96_method_4_code 0 = .ok (.aload_n 0, 1) := by decide +kernel
theorem d4_1 : decode prog_96_method_4_code 1 = .ok (.getfield 7, 3) := by decide +kernel
theorem d4_4 : decode prog_96_method_4_code 4 = .ok (.ldc2_w 144, 3) := by decide +kernel
theorem d4_7 : decode prog_96_method_4_code 7 = .ok (.dcmp .l, 1) := by decide +kernel
theorem d4_8 : decode prog_96_method_4_code 8 = .ok (.ifCond .lt 7, 3) := by decide +kernel
theorem d4_11 : decode prog_96_method_4_code 11 = .ok (.iconst 1, 1) := by decide +kernel
theorem d4_12 : decode prog_96_method_4_code 12 = .ok (.goto 4, 3) := by decide +kernel
theorem d4_15 : decode prog_96_method_4_code 15 = .ok (.iconst 0, 1) := by decide +kernel
theorem d4_16 : decode prog_96_method_4_code 16 = .ok (.ireturn, 1) := by decide +kernel
theorem pn_0 : plainName "com/example/vaxwire/vaxwire/records/MatchIsPossiblePinLaw" = true := by first | (simp [plainName, overriddenIn]; done) | decide +kernel
theorem pn_1 : plainName "com/example/vaxwire/vaxwire/records/Match" = true := by first | (simp [plainName, overriddenIn]; done) | decide +kernel
theorem pn_2 : plainName "java/lang/Record" = true := by first | (simp [plainName, overriddenIn]; done) | decide +kernel
theorem pn_4 : plainName "com/example/vaxwire/vaxwire/records/Match" = true := by first | (simp [plainName, overriddenIn]; done) | decide +kernel
theorem pd_0 : parseMethodDescriptor "()V" = some ⟨[], none⟩ := by decide +kernel
theorem pd_1 : parseMethodDescriptor "(DZZ)V" = some ⟨[.double, .boolean, .boolean], none⟩ := by decide +kernel
theorem pd_2 : parseMethodDescriptor "()Z" = some ⟨[], some .boolean⟩ := by decide +kernel
theorem ef_2 (m : MethodId) (x0 : Addr) : entryFrame m #[(.ref x0)] 1 = mkF m 0 #[.val (.ref x0)] [] := by first | (simp [entryFrame, mkF, argsToLocals, Value.category]; done) | rfl
theorem ef_1 (m : MethodId) (x0 : Addr) (x1 : UInt64) (x2 : Int32) (x3 : Int32) : entryFrame m #[(.ref x0), (.double x1), (.int x2), (.int x3)] 5 = mkF m 0 #[.val (.ref x0), .val (.double x1), .second, .val (.int x2), .val (.int x3)] [] := by first | (simp [entryFrame, mkF, argsToLocals, Value.category]; done) | rfl
theorem ef_4 (m : MethodId) (x0 : Addr) : entryFrame m #[(.ref x0)] 1 = mkF m 0 #[.val (.ref x0)] [] := by first | (simp [entryFrame, mkF, argsToLocals, Value.category]; done) | rfl
theorem ef_0 (m : MethodId) (x0 : Int32) (x1 : Int32) : entryFrame m #[(.int x0), (.int x1)] maxLocals = mkF m 0 #[.val (.int x0), .val (.int x1), .unset, .unset, .unset, .unset, .unset, .unset] [] := by first | (simp [entryFrame, mkF, argsToLocals, Value.category, maxLocals]; done) | rfl
def Q_rm_rec (Z : State) (h0 : Heap) (n0 : Nat)  (v : Option Value) (h : Heap) (L : List Loc) : Prop := v = none ∧ Fr n0 L ∧ h = h0
set_option maxRecDepth 65536 in
set_option maxHeartbeats 40000000 in
theorem rm_rec (l : Launch) (Z : State) (a0 : Array Value) (hw : ∀ d ∈ tables_1, d.before a0 Z = true) (ws : List Jvm.Cond) (a1 : Addr) (h0 : Heap) (n0 : Nat) (Z0 : n0 ≤ h0.size) :
    MetFree l (⟨"java/lang/Record", "<init>", "()V"⟩ : MethodName) (head1 (Jvm.Cond.code (⟨"java/lang/Record", "<init>", "()V"⟩ : MethodName) jdk_30_method_1_code 1 none :: ws) ({ frames := 1, cells := 0, slots := 0, locals := 12 } : Room)) (fun a U => a = #[(.ref a1)] ∧ Z.Warmed39 U.vm ∧ U.heap = h0) (fun _ _ _ _ _ => True) (fun _ U o U' => ∃ rv rL, o = .returned rv ∧ Q_rm_rec Z h0 n0  rv U'.heap rL ∧ FrameEnd U o U' rL ({ frames := 1, cells := 0, slots := 0, locals := 12 } : Room).cells ({ frames := 1, cells := 0, slots := 0, locals := 12 } : Room).slots) := by
  refine own_met (y := (⟨"java/lang/Record", "<init>", "()V"⟩ : MethodName)) (Q := Q_rm_rec Z h0 n0 ) (own := "java/lang/Record") rfl (plainFor_of_name pn_2) ?_
  intro p e s m below meth c s₁ C e0 X0
  obtain ⟨hx, hby, hml, hown, hnm, hret, hlk, hZ⟩ := C
  have N0 := Fr.nil n0
  rw [ef_2]
  show own_Goes _ _ _ _ _ _ _ s₁ (mkF m 0 #[.val (.ref a1)] [])
  refine own_go (fun _ k => XS.aloadN X0.here hx rfl (hb hby d2_0) rfl rfl k) ?_
  show own_Goes _ _ _ _ _ _ _ s₁ (mkF m 1 #[.val (.ref a1)] [(.ref a1)])
  obtain ⟨T1, X1, e1, st1⟩ := initO X0 hx hZ hown (hw _ (List.mem_of_getElem? (i := 12) rfl)) (hw _ (List.mem_of_getElem? (i := 13) rfl)) (hw _ (List.mem_of_getElem? (i := 14) rfl)) e0 (g := (mkF m 1 #[.val (.ref a1)] [(.ref a1)])) rfl (by rw [hml]; rfl) rfl (hb hby d2_1) (by decide) (W := 0) (by show 2 * 0 + _ ≤ _; exact Nat.le_of_eq rfl) (by decide)
  refine own_go st1 ?_
  show own_Goes _ _ _ _ _ _ _ T1 (mkF m 4 #[.val (.ref a1)] [])
  exact own_retV X1 hx hlk hret (hb hby d2_4) (by decide) (by decide) (by rw [e1]; exact ⟨rfl, N0, rfl⟩)
def Q_rm_init (Z : State) (h0 : Heap) (n0 : Nat) (a1 : Addr) (q2 : UInt64) (v : Option Value) (h : Heap) (L : List Loc) : Prop := v = none ∧ Fr n0 L ∧ n0 ≤ h.size ∧ Keep h0 h [a1] ∧ Fld Z h a1 "com/example/vaxwire/vaxwire/records/Match" "weight" "D" (.double q2)
set_option maxRecDepth 65536 in
set_option maxHeartbeats 40000000 in
theorem rm_init (l : Launch) (Z : State) (a0 : Array Value) (hw : ∀ d ∈ tables_1, d.before a0 Z = true) (ws : List Jvm.Cond) (a1 : Addr) (q2 : UInt64) (p3 p4 : Int32) (h0 : Heap) (n0 : Nat) (Z0 : n0 ≤ h0.size) (E_a1 : Exa Z h0 a1 "com/example/vaxwire/vaxwire/records/Match") (F_w : Fld Z h0 a1 "com/example/vaxwire/vaxwire/records/Match" "weight" "D" (.double 0)) (F_s : Fld Z h0 a1 "com/example/vaxwire/vaxwire/records/Match" "sure" "Z" (.int (0 : Int32))) (F_j : Fld Z h0 a1 "com/example/vaxwire/vaxwire/records/Match" "joins" "Z" (.int (0 : Int32))) (lo_a1 : n0 ≤ a1) :
    MetFree l (⟨"com/example/vaxwire/vaxwire/records/Match", "<init>", "(DZZ)V"⟩ : MethodName) (head1 (Jvm.Cond.code (⟨"com/example/vaxwire/vaxwire/records/Match", "<init>", "(DZZ)V"⟩ : MethodName) prog_96_method_1_code 5 none :: ws) ({ frames := 2, cells := 0, slots := 0, locals := 24 } : Room)) (fun a U => a = #[(.ref a1), (.double q2), (.int p3), (.int p4)] ∧ Z.Warmed39 U.vm ∧ U.heap = h0) (fun _ _ _ _ _ => True) (fun _ U o U' => ∃ rv rL, o = .returned rv ∧ Q_rm_init Z h0 n0 a1 q2 rv U'.heap rL ∧ FrameEnd U o U' rL ({ frames := 2, cells := 0, slots := 0, locals := 24 } : Room).cells ({ frames := 2, cells := 0, slots := 0, locals := 24 } : Room).slots) := by
  refine own_met (y := (⟨"com/example/vaxwire/vaxwire/records/Match", "<init>", "(DZZ)V"⟩ : MethodName)) (Q := Q_rm_init Z h0 n0 a1 q2) (own := "com/example/vaxwire/vaxwire/records/Match") rfl (plainFor_of_name pn_1) ?_
  intro p e s m below meth c s₁ C e0 X0
  obtain ⟨hx, hby, hml, hown, hnm, hret, hlk, hZ⟩ := C
  have N0 := Fr.nil n0
  rw [ef_1]
  have Kp0 : Keep h0 h0 [a1] := Keep.refl h0 _
  show own_Goes _ _ _ _ _ _ _ s₁ (mkF m 0 #[.val (.ref a1), .val (.double q2), .second, .val (.int p3), .val (.int p4)] [])
  refine own_go (fun _ k => XS.aloadN X0.here hx rfl (hb hby d1_0) rfl rfl k) ?_
  show own_Goes _ _ _ _ _ _ _ s₁ (mkF m 1 #[.val (.ref a1), .val (.double q2), .second, .val (.int p3), .val (.int p4)] [(.ref a1)])
  obtain ⟨_, _, ⟨T1, L1, k1, n1⟩, -, X1, ⟨Lc1, hQ1, l1, y1, z1⟩, st1⟩ := X0.specialBack hx (y := (⟨"java/lang/Record", "<init>", "()V"⟩ : MethodName)) rfl hown (mvT hZ (hw _ (List.mem_of_getElem? (i := 7) rfl))) (mvT hZ (hw _ (List.mem_of_getElem? (i := 8) rfl))) (mvT hZ (hw _ (List.mem_of_getElem? (i := 11) rfl))) (by decide) (backOf (W := 0) (rm_rec l Z a0 hw [] a1 h0 n0 Z0) hZ (hw _ (List.mem_of_getElem? (i := 11) rfl)) (hw _ (List.mem_of_getElem? (i := 10) rfl)) (by decide) (by decide)) (g := (mkF m 1 #[.val (.ref a1), .val (.double q2), .second, .val (.int p3), .val (.int p4)] [(.ref a1)])) rfl (by rw [hml]; rfl) (Steps.refl _) (a := a1) (argsL := []) (rest := []) (lenOf pd_0 rfl) rfl (by show 2 * 0 + _ ≤ _; exact Nat.le_of_eq rfl) (hb hby d1_1) (fun _ _ => ⟨rfl, e0, (by decide : 0 + 0 ≤ _), (by decide : 0 + 0 ≤ _)⟩)
  dsimp only [Pt.U, Pt.locs, Pt.cells, Pt.slots] at X1 l1 y1 z1 st1 hQ1
  subst l1 y1 z1
  obtain ⟨rfl, N1q, e1⟩ := hQ1
  have N1 := Fr.app N0 N1q
  refine own_goS st1 ?_
  show own_Goes _ _ _ _ _ _ _ T1 (mkF m 4 #[.val (.ref a1), .val (.double q2), .second, .val (.int p3), .val (.int p4)] [])
  refine own_go (fun _ k => XS.aloadN X1.here hx rfl (hb hby d1_4) rfl rfl k) ?_
  show own_Goes _ _ _ _ _ _ _ T1 (mkF m 5 #[.val (.ref a1), .val (.double q2), .second, .val (.int p3), .val (.int p4)] [(.ref a1)])
  refine own_go (fun _ k => XS.dloadN X1.here hx rfl (hb hby d1_5) rfl k) ?_
  show own_Goes _ _ _ _ _ _ _ T1 (mkF m 6 #[.val (.ref a1), .val (.double q2), .second, .val (.int p3), .val (.int p4)] [(.double q2), (.ref a1)])
  obtain ⟨T2, h2, X2, e2, W2, st2⟩ := putF X1 hx hZ hown (host := "") (Or.inl (hw _ (List.mem_of_getElem? (i := 15) rfl))) Via.refl e1 F_w E_a1 (Or.inr ⟨(hw _ (List.mem_of_getElem? (i := 16) rfl)), rfl, hnm⟩) (hw _ (List.mem_of_getElem? (i := 2) rfl)) (ty := .double) (by decide) rfl rfl (g := (mkF m 6 #[.val (.ref a1), .val (.double q2), .second, .val (.int p3), .val (.int p4)] [(.double q2), (.ref a1)])) rfl rfl (hb hby d1_6)
  have F_w_2 : Fld Z h2 a1 "com/example/vaxwire/vaxwire/records/Match" "weight" "D" (.double q2) := F_w.same W2
  have N2 := Fr.snoc X2 N1 lo_a1
  have E_a1_2 : Exa Z h2 a1 "com/example/vaxwire/vaxwire/records/Match" := E_a1.wr W2
  have F_s_2 : Fld Z h2 a1 "com/example/vaxwire/vaxwire/records/Match" "sure" "Z" (.int (0 : Int32)) := F_s.other W2 (Or.inr (slot_ne (Or.inr (hw _ (List.mem_of_getElem? (i := 18) rfl))) (Or.inr (hw _ (List.mem_of_getElem? (i := 16) rfl))) (by decide) (t := .boolean) (t' := .double) (by decide) (by decide)))
  have F_j_2 : Fld Z h2 a1 "com/example/vaxwire/vaxwire/records/Match" "joins" "Z" (.int (0 : Int32)) := F_j.other W2 (Or.inr (slot_ne (Or.inr (hw _ (List.mem_of_getElem? (i := 20) rfl))) (Or.inr (hw _ (List.mem_of_getElem? (i := 16) rfl))) (by decide) (t := .boolean) (t' := .double) (by decide) (by decide)))
  have Zs2 : n0 ≤ h2.size := Nat.le_trans Z0 (Keep.of_wr W2).1
  have Kp2 : Keep h0 h2 [a1] := Kp0.wr W2 (Or.inl (by simp))
  refine own_go st2 ?_
  show own_Goes _ _ _ _ _ _ _ T2 (mkF m 9 #[.val (.ref a1), .val (.double q2), .second, .val (.int p3), .val (.int p4)] [])
  refine own_go (fun _ k => XS.aloadN X2.here hx rfl (hb hby d1_9) rfl rfl k) ?_
  show own_Goes _ _ _ _ _ _ _ T2 (mkF m 10 #[.val (.ref a1), .val (.double q2), .second, .val (.int p3), .val (.int p4)] [(.ref a1)])
  refine own_go (fun _ k => XS.iloadN X2.here hx rfl (hb hby d1_10) rfl k) ?_
  show own_Goes _ _ _ _ _ _ _ T2 (mkF m 11 #[.val (.ref a1), .val (.double q2), .second, .val (.int p3), .val (.int p4)] [(.int p3), (.ref a1)])
  obtain ⟨T3, h3, X3, e3, W3, st3⟩ := putFN X2 hx hZ hown (hw _ (List.mem_of_getElem? (i := 17) rfl)) Via.refl e2 F_s_2 E_a1_2 (Or.inr ⟨(hw _ (List.mem_of_getElem? (i := 18) rfl)), rfl, hnm⟩) (hw _ (List.mem_of_getElem? (i := 2) rfl)) (ty := .boolean) (v' := (.int (nar .boolean p3))) (by decide) rfl (fits_nar_bool _) (g := (mkF m 11 #[.val (.ref a1), .val (.double q2), .second, .val (.int p3), .val (.int p4)] [(.int p3), (.ref a1)])) rfl rfl (hb hby d1_11)
  have F_s_3 : Fld Z h3 a1 "com/example/vaxwire/vaxwire/records/Match" "sure" "Z" (.int (nar .boolean p3)) := F_s_2.same W3
  have N3 := Fr.snoc X3 N2 lo_a1
  have E_a1_3 : Exa Z h3 a1 "com/example/vaxwire/vaxwire/records/Match" := E_a1_2.wr W3
  have F_j_3 : Fld Z h3 a1 "com/example/vaxwire/vaxwire/records/Match" "joins" "Z" (.int (0 : Int32)) := F_j_2.other W3 (Or.inr (slot_ne (Or.inr (hw _ (List.mem_of_getElem? (i := 20) rfl))) (Or.inr (hw _ (List.mem_of_getElem? (i := 18) rfl))) (by decide) (t := .boolean) (t' := .boolean) (by decide) (by decide)))
  have F_w_3 : Fld Z h3 a1 "com/example/vaxwire/vaxwire/records/Match" "weight" "D" (.double q2) := F_w_2.other W3 (Or.inr (slot_ne (Or.inr (hw _ (List.mem_of_getElem? (i := 16) rfl))) (Or.inr (hw _ (List.mem_of_getElem? (i := 18) rfl))) (by decide) (t := .double) (t' := .boolean) (by decide) (by decide)))
  have Zs3 : n0 ≤ h3.size := Nat.le_trans Zs2 (Keep.of_wr W3).1
  have Kp3 : Keep h0 h3 [a1] := Kp2.wr W3 (Or.inl (by simp))
  refine own_go st3 ?_
  show own_Goes _ _ _ _ _ _ _ T3 (mkF m 14 #[.val (.ref a1), .val (.double q2), .second, .val (.int p3), .val (.int p4)] [])
  refine own_go (fun _ k => XS.aloadN X3.here hx rfl (hb hby d1_14) rfl rfl k) ?_
  show own_Goes _ _ _ _ _ _ _ T3 (mkF m 15 #[.val (.ref a1), .val (.double q2), .second, .val (.int p3), .val (.int p4)] [(.ref a1)])
  refine own_go (fun _ k => XS.iload X3.here hx rfl (hb hby d1_15) rfl k) ?_
  show own_Goes _ _ _ _ _ _ _ T3 (mkF m 17 #[.val (.ref a1), .val (.double q2), .second, .val (.int p3), .val (.int p4)] [(.int p4), (.ref a1)])
  obtain ⟨T4, h4, X4, e4, W4, st4⟩ := putFN X3 hx hZ hown (hw _ (List.mem_of_getElem? (i := 19) rfl)) Via.refl e3 F_j_3 E_a1_3 (Or.inr ⟨(hw _ (List.mem_of_getElem? (i := 20) rfl)), rfl, hnm⟩) (hw _ (List.mem_of_getElem? (i := 2) rfl)) (ty := .boolean) (v' := (.int (nar .boolean p4))) (by decide) rfl (fits_nar_bool _) (g := (mkF m 17 #[.val (.ref a1), .val (.double q2), .second, .val (.int p3), .val (.int p4)] [(.int p4), (.ref a1)])) rfl rfl (hb hby d1_17)
  have F_j_4 : Fld Z h4 a1 "com/example/vaxwire/vaxwire/records/Match" "joins" "Z" (.int (nar .boolean p4)) := F_j_3.same W4
  have N4 := Fr.snoc X4 N3 lo_a1
  have E_a1_4 : Exa Z h4 a1 "com/example/vaxwire/vaxwire/records/Match" := E_a1_3.wr W4
  have F_w_4 : Fld Z h4 a1 "com/example/vaxwire/vaxwire/records/Match" "weight" "D" (.double q2) := F_w_3.other W4 (Or.inr (slot_ne (Or.inr (hw _ (List.mem_of_getElem? (i := 16) rfl))) (Or.inr (hw _ (List.mem_of_getElem? (i := 20) rfl))) (by decide) (t := .double) (t' := .boolean) (by decide) (by decide)))
  have F_s_4 : Fld Z h4 a1 "com/example/vaxwire/vaxwire/records/Match" "sure" "Z" (.int (nar .boolean p3)) := F_s_3.other W4 (Or.inr (slot_ne (Or.inr (hw _ (List.mem_of_getElem? (i := 18) rfl))) (Or.inr (hw _ (List.mem_of_getElem? (i := 20) rfl))) (by decide) (t := .boolean) (t' := .boolean) (by decide) (by decide)))
  have Zs4 : n0 ≤ h4.size := Nat.le_trans Zs3 (Keep.of_wr W4).1
  have Kp4 : Keep h0 h4 [a1] := Kp3.wr W4 (Or.inl (by simp))
  refine own_go st4 ?_
  show own_Goes _ _ _ _ _ _ _ T4 (mkF m 20 #[.val (.ref a1), .val (.double q2), .second, .val (.int p3), .val (.int p4)] [])
  exact own_retV X4 hx hlk hret (hb hby d1_20) (by decide) (by decide) (by rw [e4]; exact ⟨rfl, N4, Zs4, Kp4, F_w_4⟩)
def Q_rm_pos (Z : State) (h0 : Heap) (n0 : Nat) (q2 : UInt64) (v : Option Value) (h : Heap) (L : List Loc) : Prop := v = some (.int (own_pos q2)) ∧ Fr n0 L ∧ h = h0
set_option maxRecDepth 65536 in
set_option maxHeartbeats 40000000 in
theorem rm_pos (l : Launch) (Z : State) (a0 : Array Value) (hw : ∀ d ∈ tables_1, d.before a0 Z = true) (ws : List Jvm.Cond) (a1 : Addr) (q2 : UInt64) (h0 : Heap) (n0 : Nat) (Z0 : n0 ≤ h0.size) (F_w : Fld Z h0 a1 "com/example/vaxwire/vaxwire/records/Match" "weight" "D" (.double q2)) :
    MetFree l (⟨"com/example/vaxwire/vaxwire/records/Match", "isPossible", "()Z"⟩ : MethodName) (head1 (Jvm.Cond.code (⟨"com/example/vaxwire/vaxwire/records/Match", "isPossible", "()Z"⟩ : MethodName) prog_96_method_4_code 1 (some .boolean) :: ws) ({ frames := 0, cells := 0, slots := 0, locals := 0 } : Room)) (fun a U => a = #[(.ref a1)] ∧ Z.Warmed39 U.vm ∧ U.heap = h0) (fun _ _ _ _ _ => True) (fun _ U o U' => ∃ rv rL, o = .returned rv ∧ Q_rm_pos Z h0 n0 q2 rv U'.heap rL ∧ FrameEnd U o U' rL ({ frames := 0, cells := 0, slots := 0, locals := 0 } : Room).cells ({ frames := 0, cells := 0, slots := 0, locals := 0 } : Room).slots) := by
  refine own_met (y := (⟨"com/example/vaxwire/vaxwire/records/Match", "isPossible", "()Z"⟩ : MethodName)) (Q := Q_rm_pos Z h0 n0 q2) (own := "com/example/vaxwire/vaxwire/records/Match") rfl (plainFor_of_name pn_4) ?_
  intro p e s m below meth c s₁ C e0 X0
  obtain ⟨hx, hby, hml, hown, hnm, hret, hlk, hZ⟩ := C
  have N0 := Fr.nil n0
  rw [ef_4]
  show own_Goes _ _ _ _ _ _ _ s₁ (mkF m 0 #[.val (.ref a1)] [])
  refine own_go (fun _ k => XS.aloadN X0.here hx rfl (hb hby d4_0) rfl rfl k) ?_
  show own_Goes _ _ _ _ _ _ _ s₁ (mkF m 1 #[.val (.ref a1)] [(.ref a1)])
  obtain ⟨T1, X1, e1, st1⟩ := getF X0 hx hZ hown (host := "") (Or.inl (hw _ (List.mem_of_getElem? (i := 15) rfl))) Via.refl e0 F_w (g := (mkF m 1 #[.val (.ref a1)] [(.ref a1)])) rfl rfl (hb hby d4_1)
  refine own_go st1 ?_
  show own_Goes _ _ _ _ _ _ _ T1 (mkF m 4 #[.val (.ref a1)] [(.double q2)])
  refine own_go (fun t k => X1.ldc2DoubleC hx hown (mvT hZ (hw _ (List.mem_of_getElem? (i := 26) rfl))) (g := (mkF m 4 #[.val (.ref a1)] [(.double q2)])) rfl (hb hby d4_4) t k) ?_
  show own_Goes _ _ _ _ _ _ _ T1 (mkF m 7 #[.val (.ref a1)] [(.double (4622945017495814144 : UInt64)), (.double q2)])
  refine own_go (fun _ k => XS.own_dcmpl X1.here hx rfl (hb hby d4_7) rfl k) ?_
  show own_Goes _ _ _ _ _ _ _ T1 (mkF m 8 #[.val (.ref a1)] [(.int (cmpValue (FP.dcmp q2 (4622945017495814144 : UInt64)) .l))])
  by_cases hc8 : (cmpValue (FP.dcmp q2 (4622945017495814144 : UInt64)) .l) < (0 : Int32)
  · refine own_go (fun _ k => XS.ifYes X1.here hx rfl (pc0 := 8) (pc' := 15) rfl (hb hby d4_8) rfl ((if0 _ _).trans (tlt hc8).1) (by decide) (by decide) k) ?_
    show own_Goes _ _ _ _ _ _ _ T1 (mkF m 15 #[.val (.ref a1)] [])
    refine own_go (fun _ k => XS.iconst X1.here hx rfl (hb hby d4_15) k) ?_
    show own_Goes _ _ _ _ _ _ _ T1 (mkF m 16 #[.val (.ref a1)] [(.int (0 : Int32))])
    exact own_retN X1 hx (t := .boolean) hlk hret (by simp) (hb hby d4_16) (by decide) (by decide) (by rw [e1]; exact ⟨by rw [own_pos, if_pos hc8] <;> rfl, N0, rfl⟩)
  · refine own_go (fun _ k => XS.ifNo X1.here hx rfl (hb hby d4_8) rfl ((if0 _ _).trans (flt hc8).1) k) ?_
    show own_Goes _ _ _ _ _ _ _ T1 (mkF m 11 #[.val (.ref a1)] [])
    refine own_go (fun _ k => XS.iconst X1.here hx rfl (hb hby d4_11) k) ?_
    show own_Goes _ _ _ _ _ _ _ T1 (mkF m 12 #[.val (.ref a1)] [(.int (1 : Int32))])
    refine own_go (fun _ k => XS.goto X1.here hx rfl (pc0 := 12) (pc' := 16) rfl (hb hby d4_12) (by decide) (by decide) k) ?_
    show own_Goes _ _ _ _ _ _ _ T1 (mkF m 16 #[.val (.ref a1)] [(.int (1 : Int32))])
    exact own_retN X1 hx (t := .boolean) hlk hret (by simp) (hb hby d4_16) (by decide) (by decide) (by rw [e1]; exact ⟨by rw [own_pos, if_neg hc8] <;> rfl, N0, rfl⟩)
def Q_rm0 (Z : State) (h0 : Heap) (n0 : Nat)  (v : Option Value) (h : Heap) (L : List Loc) : Prop := v = some (.int 1) ∧ Fr n0 L
set_option maxRecDepth 65536 in
set_option maxHeartbeats 40000000 in
theorem rm0 (l : Launch) (Z : State) (a0 : Array Value) (hw : ∀ d ∈ tables_1, d.before a0 Z = true) (ws : List Jvm.Cond) (p0 p1 : Int32) (h0 : Heap) (n0 : Nat) (Z0 : n0 ≤ h0.size) :
    MetFree l x (head1 (Jvm.Cond.code x code maxLocals ret :: ws) room_1) (fun a U => a = #[(.int p0), (.int p1)] ∧ Z.Warmed39 U.vm ∧ U.heap = h0) (fun _ _ _ _ _ => True) (fun _ U o U' => ∃ rv rL, o = .returned rv ∧ Q_rm0 Z h0 n0  rv U'.heap rL ∧ FrameEnd U o U' rL room_1.cells room_1.slots) := by
  refine own_met (y := x) (Q := Q_rm0 Z h0 n0 ) (own := "com/example/vaxwire/vaxwire/records/MatchIsPossiblePinLaw") rfl (plainFor_of_name pn_0) ?_
  intro p e s m below meth c s₁ C e0 X0
  obtain ⟨hx, hby, hml, hown, hnm, hret, hlk, hZ⟩ := C
  have N0 := Fr.nil n0
  rw [ef_0]
  show own_Goes _ _ _ _ _ _ _ s₁ (mkF m 0 #[.val (.int p0), .val (.int p1), .unset, .unset, .unset, .unset, .unset, .unset] [])
  refine own_go (fun _ k => XS.iloadN X0.here hx rfl (hb hby at_0) rfl k) ?_
  show own_Goes _ _ _ _ _ _ _ s₁ (mkF m 1 #[.val (.int p0), .val (.int p1), .unset, .unset, .unset, .unset, .unset, .unset] [(.int p1)])
  refine own_go (fun _ k => XS.iconst X0.here hx rfl (hb hby at_1) k) ?_
  show own_Goes _ _ _ _ _ _ _ s₁ (mkF m 2 #[.val (.int p0), .val (.int p1), .unset, .unset, .unset, .unset, .unset, .unset] [(.int (1 : Int32)), (.int p1)])
  refine own_go (fun _ k => XS.iand X0.here hx rfl (hb hby at_2) rfl k) ?_
  show own_Goes _ _ _ _ _ _ _ s₁ (mkF m 3 #[.val (.int p0), .val (.int p1), .unset, .unset, .unset, .unset, .unset, .unset] [(.int (p1 &&& (1 : Int32)))])
  by_cases hc3 : (p1 &&& (1 : Int32)) = (0 : Int32)
  · refine own_go (fun _ k => XS.ifYes X0.here hx rfl (pc0 := 3) (pc' := 10) rfl (hb hby at_3) rfl ((if0 _ _).trans (teq hc3).1) (by decide) (by decide) k) ?_
    show own_Goes _ _ _ _ _ _ _ s₁ (mkF m 10 #[.val (.int p0), .val (.int p1), .unset, .unset, .unset, .unset, .unset, .unset] [])
    refine own_go (fun _ k => XS.iconst X0.here hx rfl (hb hby at_10) k) ?_
    show own_Goes _ _ _ _ _ _ _ s₁ (mkF m 11 #[.val (.int p0), .val (.int p1), .unset, .unset, .unset, .unset, .unset, .unset] [(.int (0 : Int32))])
    refine own_go (fun _ k => XS.istoreN X0.here hx rfl (hb hby at_11) rfl (l' := #[.val (.int p0), .val (.int p1), .val (.int (0 : Int32)), .unset, .unset, .unset, .unset, .unset]) rfl k) ?_
    show own_Goes _ _ _ _ _ _ _ s₁ (mkF m 12 #[.val (.int p0), .val (.int p1), .val (.int (0 : Int32)), .unset, .unset, .unset, .unset, .unset] [])
    refine own_go (fun _ k => XS.iloadN X0.here hx rfl (hb hby at_12) rfl k) ?_
    show own_Goes _ _ _ _ _ _ _ s₁ (mkF m 13 #[.val (.int p0), .val (.int p1), .val (.int (0 : Int32)), .unset, .unset, .unset, .unset, .unset] [(.int p1)])
    refine own_go (fun _ k => XS.iconst X0.here hx rfl (hb hby at_13) k) ?_
    show own_Goes _ _ _ _ _ _ _ s₁ (mkF m 14 #[.val (.int p0), .val (.int p1), .val (.int (0 : Int32)), .unset, .unset, .unset, .unset, .unset] [(.int (2 : Int32)), (.int p1)])
    refine own_go (fun _ k => XS.iand X0.here hx rfl (hb hby at_14) rfl k) ?_
    show own_Goes _ _ _ _ _ _ _ s₁ (mkF m 15 #[.val (.int p0), .val (.int p1), .val (.int (0 : Int32)), .unset, .unset, .unset, .unset, .unset] [(.int (p1 &&& (2 : Int32)))])
    by_cases hc15 : (p1 &&& (2 : Int32)) = (0 : Int32)
    · refine own_go (fun _ k => XS.ifYes X0.here hx rfl (pc0 := 15) (pc' := 22) rfl (hb hby at_15) rfl ((if0 _ _).trans (teq hc15).1) (by decide) (by decide) k) ?_
      show own_Goes _ _ _ _ _ _ _ s₁ (mkF m 22 #[.val (.int p0), .val (.int p1), .val (.int (0 : Int32)), .unset, .unset, .unset, .unset, .unset] [])
      refine own_go (fun _ k => XS.iconst X0.here hx rfl (hb hby at_22) k) ?_
      show own_Goes _ _ _ _ _ _ _ s₁ (mkF m 23 #[.val (.int p0), .val (.int p1), .val (.int (0 : Int32)), .unset, .unset, .unset, .unset, .unset] [(.int (0 : Int32))])
      refine own_go (fun _ k => XS.istoreN X0.here hx rfl (hb hby at_23) rfl (l' := #[.val (.int p0), .val (.int p1), .val (.int (0 : Int32)), .val (.int (0 : Int32)), .unset, .unset, .unset, .unset]) rfl k) ?_
      show own_Goes _ _ _ _ _ _ _ s₁ (mkF m 24 #[.val (.int p0), .val (.int p1), .val (.int (0 : Int32)), .val (.int (0 : Int32)), .unset, .unset, .unset, .unset] [])
      refine own_go (fun _ k => XS.iloadN X0.here hx rfl (hb hby at_24) rfl k) ?_
      show own_Goes _ _ _ _ _ _ _ s₁ (mkF m 25 #[.val (.int p0), .val (.int p1), .val (.int (0 : Int32)), .val (.int (0 : Int32)), .unset, .unset, .unset, .unset] [(.int p0)])
      refine own_go (fun _ k => XS.own_i2d X0.here hx rfl (hb hby at_25) rfl k) ?_
      show own_Goes _ _ _ _ _ _ _ s₁ (mkF m 26 #[.val (.int p0), .val (.int p1), .val (.int (0 : Int32)), .val (.int (0 : Int32)), .unset, .unset, .unset, .unset] [(.double (FP.i2d p0))])
      refine own_go (fun t k => X0.ldc2DoubleC hx hown (mvT hZ (hw _ (List.mem_of_getElem? (i := 0) rfl))) (g := (mkF m 26 #[.val (.int p0), .val (.int p1), .val (.int (0 : Int32)), .val (.int (0 : Int32)), .unset, .unset, .unset, .unset] [(.double (FP.i2d p0))])) rfl (hb hby at_26) t k) ?_
      show own_Goes _ _ _ _ _ _ _ s₁ (mkF m 29 #[.val (.int p0), .val (.int p1), .val (.int (0 : Int32)), .val (.int (0 : Int32)), .unset, .unset, .unset, .unset] [(.double (4620693217682128896 : UInt64)), (.double (FP.i2d p0))])
      refine own_go (fun _ k => XS.own_ddiv X0.here hx rfl (hb hby at_29) rfl (FP.Core.own_dn p0) k) ?_
      show own_Goes _ _ _ _ _ _ _ s₁ (mkF m 30 #[.val (.int p0), .val (.int p1), .val (.int (0 : Int32)), .val (.int (0 : Int32)), .unset, .unset, .unset, .unset] [(.double (FP.ddiv (FP.i2d p0) (4620693217682128896 : UInt64)))])
      refine own_go (fun _ k => XS.dstore X0.here hx rfl (hb hby at_30) rfl (l' := #[.val (.int p0), .val (.int p1), .val (.int (0 : Int32)), .val (.int (0 : Int32)), .val (.double (FP.ddiv (FP.i2d p0) (4620693217682128896 : UInt64))), .second, .unset, .unset]) rfl k) ?_
      show own_Goes _ _ _ _ _ _ _ s₁ (mkF m 32 #[.val (.int p0), .val (.int p1), .val (.int (0 : Int32)), .val (.int (0 : Int32)), .val (.double (FP.ddiv (FP.i2d p0) (4620693217682128896 : UInt64))), .second, .unset, .unset] [])
      obtain ⟨T1, h1, X1, e1, E1, A1, D1, -, st1⟩ := newO X0 hx hZ hown (hw _ (List.mem_of_getElem? (i := 1) rfl)) (hw _ (List.mem_of_getElem? (i := 2) rfl)) (hw _ (List.mem_of_getElem? (i := 3) rfl)) e0 (g := (mkF m 32 #[.val (.int p0), .val (.int p1), .val (.int (0 : Int32)), .val (.int (0 : Int32)), .val (.double (FP.ddiv (FP.i2d p0) (4620693217682128896 : UInt64))), .second, .unset, .unset] [])) rfl (hb hby at_32) (by decide) (by decide)
      obtain ⟨b1, g1⟩ : ∃ z, z = h0.size := ⟨_, rfl⟩
      rw [← g1] at A1 D1 st1
      have lo_b1 : n0 ≤ b1 := Nat.le_trans Z0 (Nat.le_of_eq g1.symm)
      have Zs1 : n0 ≤ h1.size := Nat.le_trans Z0 E1.1
      have F_weight_b1 : Fld Z h1 b1 "com/example/vaxwire/vaxwire/records/Match" "weight" "D" (.double 0) := D1 (Or.inr (hw _ (List.mem_of_getElem? (i := 16) rfl))) (ty := .double) (by decide)
      have F_sure_b1 : Fld Z h1 b1 "com/example/vaxwire/vaxwire/records/Match" "sure" "Z" (.int (0 : Int32)) := D1 (Or.inr (hw _ (List.mem_of_getElem? (i := 18) rfl))) (ty := .boolean) (by decide)
      have F_joins_b1 : Fld Z h1 b1 "com/example/vaxwire/vaxwire/records/Match" "joins" "Z" (.int (0 : Int32)) := D1 (Or.inr (hw _ (List.mem_of_getElem? (i := 20) rfl))) (ty := .boolean) (by decide)
      refine own_go st1 ?_
      show own_Goes _ _ _ _ _ _ _ T1 (mkF m 35 #[.val (.int p0), .val (.int p1), .val (.int (0 : Int32)), .val (.int (0 : Int32)), .val (.double (FP.ddiv (FP.i2d p0) (4620693217682128896 : UInt64))), .second, .unset, .unset] [(.ref b1)])
      refine own_go (fun _ k => XS.dup X1.here hx rfl (hb hby at_35) rfl rfl k) ?_
      show own_Goes _ _ _ _ _ _ _ T1 (mkF m 36 #[.val (.int p0), .val (.int p1), .val (.int (0 : Int32)), .val (.int (0 : Int32)), .val (.double (FP.ddiv (FP.i2d p0) (4620693217682128896 : UInt64))), .second, .unset, .unset] [(.ref b1), (.ref b1)])
      refine own_go (fun _ k => XS.dload X1.here hx rfl (hb hby at_36) rfl k) ?_
      show own_Goes _ _ _ _ _ _ _ T1 (mkF m 38 #[.val (.int p0), .val (.int p1), .val (.int (0 : Int32)), .val (.int (0 : Int32)), .val (.double (FP.ddiv (FP.i2d p0) (4620693217682128896 : UInt64))), .second, .unset, .unset] [(.double (FP.ddiv (FP.i2d p0) (4620693217682128896 : UInt64))), (.ref b1), (.ref b1)])
      refine own_go (fun _ k => XS.iloadN X1.here hx rfl (hb hby at_38) rfl k) ?_
      show own_Goes _ _ _ _ _ _ _ T1 (mkF m 39 #[.val (.int p0), .val (.int p1), .val (.int (0 : Int32)), .val (.int (0 : Int32)), .val (.double (FP.ddiv (FP.i2d p0) (4620693217682128896 : UInt64))), .second, .unset, .unset] [(.int (0 : Int32)), (.double (FP.ddiv (FP.i2d p0) (4620693217682128896 : UInt64))), (.ref b1), (.ref b1)])
      refine own_go (fun _ k => XS.iloadN X1.here hx rfl (hb hby at_39) rfl k) ?_
      show own_Goes _ _ _ _ _ _ _ T1 (mkF m 40 #[.val (.int p0), .val (.int p1), .val (.int (0 : Int32)), .val (.int (0 : Int32)), .val (.double (FP.ddiv (FP.i2d p0) (4620693217682128896 : UInt64))), .second, .unset, .unset] [(.int (0 : Int32)), (.int (0 : Int32)), (.double (FP.ddiv (FP.i2d p0) (4620693217682128896 : UInt64))), (.ref b1), (.ref b1)])
      obtain ⟨_, _, ⟨T2, L2, k2, n2⟩, -, X2, ⟨Lc2, hQ2, l2, y2, z2⟩, st2⟩ := X1.specialBack hx (y := (⟨"com/example/vaxwire/vaxwire/records/Match", "<init>", "(DZZ)V"⟩ : MethodName)) rfl hown (mvT hZ (hw _ (List.mem_of_getElem? (i := 4) rfl))) (mvT hZ (hw _ (List.mem_of_getElem? (i := 5) rfl))) (mvT hZ (hw _ (List.mem_of_getElem? (i := 6) rfl))) (by decide) (backOf (W := 1) (rm_init l Z a0 hw [] b1 (FP.ddiv (FP.i2d p0) (4620693217682128896 : UInt64)) (0 : Int32) (0 : Int32) h1 n0 Zs1 A1 F_weight_b1 F_sure_b1 F_joins_b1 lo_b1) hZ (hw _ (List.mem_of_getElem? (i := 6) rfl)) (hw _ (List.mem_of_getElem? (i := 3) rfl)) (by decide) (by decide)) (g := (mkF m 40 #[.val (.int p0), .val (.int p1), .val (.int (0 : Int32)), .val (.int (0 : Int32)), .val (.double (FP.ddiv (FP.i2d p0) (4620693217682128896 : UInt64))), .second, .unset, .unset] [(.int (0 : Int32)), (.int (0 : Int32)), (.double (FP.ddiv (FP.i2d p0) (4620693217682128896 : UInt64))), (.ref b1), (.ref b1)])) rfl (by rw [hml]; rfl) (Steps.refl _) (a := b1) (argsL := [(.double (FP.ddiv (FP.i2d p0) (4620693217682128896 : UInt64))), (.int (0 : Int32)), (.int (0 : Int32))]) (rest := [(.ref b1)]) (lenOf pd_1 rfl) rfl (by show 2 * 0 + _ ≤ _; exact Nat.le_of_eq rfl) (hb hby at_40) (fun _ _ => ⟨rfl, e1, (by decide : 0 + 1 + 0 ≤ _), (by decide : 0 + 3 + 0 ≤ _)⟩)
      dsimp only [Pt.U, Pt.locs, Pt.cells, Pt.slots] at X2 l2 y2 z2 st2 hQ2
      subst l2 y2 z2
      obtain ⟨rfl, N2q, Zs2, K2, Fw2⟩ := hQ2
      have N2 := Fr.app N0 N2q
      refine own_goS st2 ?_
      show own_Goes _ _ _ _ _ _ _ T2 (mkF m 43 #[.val (.int p0), .val (.int p1), .val (.int (0 : Int32)), .val (.int (0 : Int32)), .val (.double (FP.ddiv (FP.i2d p0) (4620693217682128896 : UInt64))), .second, .unset, .unset] [(.ref b1)])
      have E_b1_2 : Exa Z T2.heap b1 "com/example/vaxwire/vaxwire/records/Match" := A1.keep K2
      have Zs2 : n0 ≤ T2.heap.size := Nat.le_trans Zs1 K2.1
      refine own_go (fun _ k => XS.astore X2.here hx rfl (hb hby at_43) rfl rfl (l' := #[.val (.int p0), .val (.int p1), .val (.int (0 : Int32)), .val (.int (0 : Int32)), .val (.double (FP.ddiv (FP.i2d p0) (4620693217682128896 : UInt64))), .second, .val (.ref b1), .unset]) rfl k) ?_
      show own_Goes _ _ _ _ _ _ _ T2 (mkF m 45 #[.val (.int p0), .val (.int p1), .val (.int (0 : Int32)), .val (.int (0 : Int32)), .val (.double (FP.ddiv (FP.i2d p0) (4620693217682128896 : UInt64))), .second, .val (.ref b1), .unset] [])
      refine own_go (fun _ k => XS.iloadN X2.here hx rfl (hb hby at_45) rfl k) ?_
      show own_Goes _ _ _ _ _ _ _ T2 (mkF m 46 #[.val (.int p0), .val (.int p1), .val (.int (0 : Int32)), .val (.int (0 : Int32)), .val (.double (FP.ddiv (FP.i2d p0) (4620693217682128896 : UInt64))), .second, .val (.ref b1), .unset] [(.int p0)])
      refine own_go (fun _ k => XS.bipush X2.here hx rfl (hb hby at_46) k) ?_
      show own_Goes _ _ _ _ _ _ _ T2 (mkF m 48 #[.val (.int p0), .val (.int p1), .val (.int (0 : Int32)), .val (.int (0 : Int32)), .val (.double (FP.ddiv (FP.i2d p0) (4620693217682128896 : UInt64))), .second, .val (.ref b1), .unset] [(.int (96 : Int32)), (.int p0)])
      by_cases hc48 : p0 < (96 : Int32)
      · refine own_go (fun _ k => XS.icmpYes X2.here hx rfl (pc0 := 48) (pc' := 55) rfl (hb hby at_48) rfl (tlt hc48).1 (by decide) (by decide) k) ?_
        show own_Goes _ _ _ _ _ _ _ T2 (mkF m 55 #[.val (.int p0), .val (.int p1), .val (.int (0 : Int32)), .val (.int (0 : Int32)), .val (.double (FP.ddiv (FP.i2d p0) (4620693217682128896 : UInt64))), .second, .val (.ref b1), .unset] [])
        refine own_go (fun _ k => XS.iconst X2.here hx rfl (hb hby at_55) k) ?_
        show own_Goes _ _ _ _ _ _ _ T2 (mkF m 56 #[.val (.int p0), .val (.int p1), .val (.int (0 : Int32)), .val (.int (0 : Int32)), .val (.double (FP.ddiv (FP.i2d p0) (4620693217682128896 : UInt64))), .second, .val (.ref b1), .unset] [(.int (0 : Int32))])
        refine own_go (fun _ k => XS.istore X2.here hx rfl (hb hby at_56) rfl (l' := #[.val (.int p0), .val (.int p1), .val (.int (0 : Int32)), .val (.int (0 : Int32)), .val (.double (FP.ddiv (FP.i2d p0) (4620693217682128896 : UInt64))), .second, .val (.ref b1), .val (.int (0 : Int32))]) rfl k) ?_
        show own_Goes _ _ _ _ _ _ _ T2 (mkF m 58 #[.val (.int p0), .val (.int p1), .val (.int (0 : Int32)), .val (.int (0 : Int32)), .val (.double (FP.ddiv (FP.i2d p0) (4620693217682128896 : UInt64))), .second, .val (.ref b1), .val (.int (0 : Int32))] [])
        refine own_go (fun _ k => XS.aload X2.here hx rfl (hb hby at_58) rfl rfl k) ?_
        show own_Goes _ _ _ _ _ _ _ T2 (mkF m 60 #[.val (.int p0), .val (.int p1), .val (.int (0 : Int32)), .val (.int (0 : Int32)), .val (.double (FP.ddiv (FP.i2d p0) (4620693217682128896 : UInt64))), .second, .val (.ref b1), .val (.int (0 : Int32))] [(.ref b1)])
        obtain ⟨cq3, kq3, zq3a, zq3b, zq3c⟩ := isOf hZ rfl E_b1_2
        obtain ⟨_, _, ⟨T3, L3, k3, n3⟩, -, X3, ⟨Lc3, hQ3, l3, y3, z3⟩, st3⟩ := X2.virtualBack hx (y := (⟨"com/example/vaxwire/vaxwire/records/Match", "isPossible", "()Z"⟩ : MethodName)) (z := (⟨"com/example/vaxwire/vaxwire/records/Match", "isPossible", "()Z"⟩ : MethodName)) hown (mvT hZ (hw _ (List.mem_of_getElem? (i := 21) rfl))) (mvT hZ (hw _ (List.mem_of_getElem? (i := 22) rfl))) (notFace_of_selects (args := #[]) (mvT hZ (hw _ (List.mem_of_getElem? (i := 24) rfl)))) (mvT hZ (hw _ (List.mem_of_getElem? (i := 24) rfl))) (mvT hZ (hw _ (List.mem_of_getElem? (i := 23) rfl))) (by decide) (backOf (W := 0) (rm_pos l Z a0 hw [] b1 (FP.ddiv (FP.i2d p0) (4620693217682128896 : UInt64)) T2.heap n0 Zs2 Fw2) hZ (hw _ (List.mem_of_getElem? (i := 25) rfl)) (hw _ (List.mem_of_getElem? (i := 3) rfl)) (by decide) (by decide)) zq3a zq3c (g := (mkF m 60 #[.val (.int p0), .val (.int p1), .val (.int (0 : Int32)), .val (.int (0 : Int32)), .val (.double (FP.ddiv (FP.i2d p0) (4620693217682128896 : UInt64))), .second, .val (.ref b1), .val (.int (0 : Int32))] [(.ref b1)])) rfl (by rw [hml]; rfl) (Steps.refl _) (argsL := []) (rest := []) (lenOf pd_2 rfl) rfl (by show 2 * 0 + _ ≤ _; exact Nat.le_of_eq rfl) (hb hby at_60) (fun _ _ => ⟨rfl, rfl, (by decide : 0 + 1 + 0 + 0 ≤ _), (by decide : 0 + 3 + 0 + 0 ≤ _)⟩)
        dsimp only [Pt.U, Pt.locs, Pt.cells, Pt.slots] at X3 l3 y3 z3 st3 hQ3
        subst l3 y3 z3
        obtain ⟨rfl, N3q, e3⟩ := hQ3
        have N3 := Fr.app N2 N3q
        refine own_goS st3 ?_
        show own_Goes _ _ _ _ _ _ _ T3 (mkF m 63 #[.val (.int p0), .val (.int p1), .val (.int (0 : Int32)), .val (.int (0 : Int32)), .val (.double (FP.ddiv (FP.i2d p0) (4620693217682128896 : UInt64))), .second, .val (.ref b1), .val (.int (0 : Int32))] [(.int (own_pos (FP.ddiv (FP.i2d p0) (4620693217682128896 : UInt64))))])
        refine own_go (fun _ k => XS.iload X3.here hx rfl (hb hby at_63) rfl k) ?_
        show own_Goes _ _ _ _ _ _ _ T3 (mkF m 65 #[.val (.int p0), .val (.int p1), .val (.int (0 : Int32)), .val (.int (0 : Int32)), .val (.double (FP.ddiv (FP.i2d p0) (4620693217682128896 : UInt64))), .second, .val (.ref b1), .val (.int (0 : Int32))] [(.int (0 : Int32)), (.int (own_pos (FP.ddiv (FP.i2d p0) (4620693217682128896 : UInt64))))])
        refine own_go (fun _ k => XS.icmpNo X3.here hx rfl (hb hby at_65) rfl (teq (own_posT hc48 : (own_pos (FP.ddiv (FP.i2d p0) (4620693217682128896 : UInt64))) = (0 : Int32))).2 k) ?_
        show own_Goes _ _ _ _ _ _ _ T3 (mkF m 68 #[.val (.int p0), .val (.int p1), .val (.int (0 : Int32)), .val (.int (0 : Int32)), .val (.double (FP.ddiv (FP.i2d p0) (4620693217682128896 : UInt64))), .second, .val (.ref b1), .val (.int (0 : Int32))] [])
        refine own_go (fun _ k => XS.iconst X3.here hx rfl (hb hby at_68) k) ?_
        show own_Goes _ _ _ _ _ _ _ T3 (mkF m 69 #[.val (.int p0), .val (.int p1), .val (.int (0 : Int32)), .val (.int (0 : Int32)), .val (.double (FP.ddiv (FP.i2d p0) (4620693217682128896 : UInt64))), .second, .val (.ref b1), .val (.int (0 : Int32))] [(.int (1 : Int32))])
        refine own_go (fun _ k => XS.goto X3.here hx rfl (pc0 := 69) (pc' := 73) rfl (hb hby at_69) (by decide) (by decide) k) ?_
        show own_Goes _ _ _ _ _ _ _ T3 (mkF m 73 #[.val (.int p0), .val (.int p1), .val (.int (0 : Int32)), .val (.int (0 : Int32)), .val (.double (FP.ddiv (FP.i2d p0) (4620693217682128896 : UInt64))), .second, .val (.ref b1), .val (.int (0 : Int32))] [(.int (1 : Int32))])
        exact own_retN X3 hx (t := .boolean) hlk hret (by simp) (hb hby at_73) (by decide) (by decide) ⟨rfl, N3⟩
      · refine own_go (fun _ k => XS.icmpNo X2.here hx rfl (hb hby at_48) rfl (flt hc48).1 k) ?_
        show own_Goes _ _ _ _ _ _ _ T2 (mkF m 51 #[.val (.int p0), .val (.int p1), .val (.int (0 : Int32)), .val (.int (0 : Int32)), .val (.double (FP.ddiv (FP.i2d p0) (4620693217682128896 : UInt64))), .second, .val (.ref b1), .unset] [])
        refine own_go (fun _ k => XS.iconst X2.here hx rfl (hb hby at_51) k) ?_
        show own_Goes _ _ _ _ _ _ _ T2 (mkF m 52 #[.val (.int p0), .val (.int p1), .val (.int (0 : Int32)), .val (.int (0 : Int32)), .val (.double (FP.ddiv (FP.i2d p0) (4620693217682128896 : UInt64))), .second, .val (.ref b1), .unset] [(.int (1 : Int32))])
        refine own_go (fun _ k => XS.goto X2.here hx rfl (pc0 := 52) (pc' := 56) rfl (hb hby at_52) (by decide) (by decide) k) ?_
        show own_Goes _ _ _ _ _ _ _ T2 (mkF m 56 #[.val (.int p0), .val (.int p1), .val (.int (0 : Int32)), .val (.int (0 : Int32)), .val (.double (FP.ddiv (FP.i2d p0) (4620693217682128896 : UInt64))), .second, .val (.ref b1), .unset] [(.int (1 : Int32))])
        refine own_go (fun _ k => XS.istore X2.here hx rfl (hb hby at_56) rfl (l' := #[.val (.int p0), .val (.int p1), .val (.int (0 : Int32)), .val (.int (0 : Int32)), .val (.double (FP.ddiv (FP.i2d p0) (4620693217682128896 : UInt64))), .second, .val (.ref b1), .val (.int (1 : Int32))]) rfl k) ?_
        show own_Goes _ _ _ _ _ _ _ T2 (mkF m 58 #[.val (.int p0), .val (.int p1), .val (.int (0 : Int32)), .val (.int (0 : Int32)), .val (.double (FP.ddiv (FP.i2d p0) (4620693217682128896 : UInt64))), .second, .val (.ref b1), .val (.int (1 : Int32))] [])
        refine own_go (fun _ k => XS.aload X2.here hx rfl (hb hby at_58) rfl rfl k) ?_
        show own_Goes _ _ _ _ _ _ _ T2 (mkF m 60 #[.val (.int p0), .val (.int p1), .val (.int (0 : Int32)), .val (.int (0 : Int32)), .val (.double (FP.ddiv (FP.i2d p0) (4620693217682128896 : UInt64))), .second, .val (.ref b1), .val (.int (1 : Int32))] [(.ref b1)])
        obtain ⟨cq4, kq4, zq4a, zq4b, zq4c⟩ := isOf hZ rfl E_b1_2
        obtain ⟨_, _, ⟨T4, L4, k4, n4⟩, -, X4, ⟨Lc4, hQ4, l4, y4, z4⟩, st4⟩ := X2.virtualBack hx (y := (⟨"com/example/vaxwire/vaxwire/records/Match", "isPossible", "()Z"⟩ : MethodName)) (z := (⟨"com/example/vaxwire/vaxwire/records/Match", "isPossible", "()Z"⟩ : MethodName)) hown (mvT hZ (hw _ (List.mem_of_getElem? (i := 21) rfl))) (mvT hZ (hw _ (List.mem_of_getElem? (i := 22) rfl))) (notFace_of_selects (args := #[]) (mvT hZ (hw _ (List.mem_of_getElem? (i := 24) rfl)))) (mvT hZ (hw _ (List.mem_of_getElem? (i := 24) rfl))) (mvT hZ (hw _ (List.mem_of_getElem? (i := 23) rfl))) (by decide) (backOf (W := 0) (rm_pos l Z a0 hw [] b1 (FP.ddiv (FP.i2d p0) (4620693217682128896 : UInt64)) T2.heap n0 Zs2 Fw2) hZ (hw _ (List.mem_of_getElem? (i := 25) rfl)) (hw _ (List.mem_of_getElem? (i := 3) rfl)) (by decide) (by decide)) zq4a zq4c (g := (mkF m 60 #[.val (.int p0), .val (.int p1), .val (.int (0 : Int32)), .val (.int (0 : Int32)), .val (.double (FP.ddiv (FP.i2d p0) (4620693217682128896 : UInt64))), .second, .val (.ref b1), .val (.int (1 : Int32))] [(.ref b1)])) rfl (by rw [hml]; rfl) (Steps.refl _) (argsL := []) (rest := []) (lenOf pd_2 rfl) rfl (by show 2 * 0 + _ ≤ _; exact Nat.le_of_eq rfl) (hb hby at_60) (fun _ _ => ⟨rfl, rfl, (by decide : 0 + 1 + 0 + 0 ≤ _), (by decide : 0 + 3 + 0 + 0 ≤ _)⟩)
        dsimp only [Pt.U, Pt.locs, Pt.cells, Pt.slots] at X4 l4 y4 z4 st4 hQ4
        subst l4 y4 z4
        obtain ⟨rfl, N4q, e4⟩ := hQ4
        have N4 := Fr.app N2 N4q
        refine own_goS st4 ?_
        show own_Goes _ _ _ _ _ _ _ T4 (mkF m 63 #[.val (.int p0), .val (.int p1), .val (.int (0 : Int32)), .val (.int (0 : Int32)), .val (.double (FP.ddiv (FP.i2d p0) (4620693217682128896 : UInt64))), .second, .val (.ref b1), .val (.int (1 : Int32))] [(.int (own_pos (FP.ddiv (FP.i2d p0) (4620693217682128896 : UInt64))))])
        refine own_go (fun _ k => XS.iload X4.here hx rfl (hb hby at_63) rfl k) ?_
        show own_Goes _ _ _ _ _ _ _ T4 (mkF m 65 #[.val (.int p0), .val (.int p1), .val (.int (0 : Int32)), .val (.int (0 : Int32)), .val (.double (FP.ddiv (FP.i2d p0) (4620693217682128896 : UInt64))), .second, .val (.ref b1), .val (.int (1 : Int32))] [(.int (1 : Int32)), (.int (own_pos (FP.ddiv (FP.i2d p0) (4620693217682128896 : UInt64))))])
        refine own_go (fun _ k => XS.icmpNo X4.here hx rfl (hb hby at_65) rfl (teq (own_posF hc48 : (own_pos (FP.ddiv (FP.i2d p0) (4620693217682128896 : UInt64))) = (1 : Int32))).2 k) ?_
        show own_Goes _ _ _ _ _ _ _ T4 (mkF m 68 #[.val (.int p0), .val (.int p1), .val (.int (0 : Int32)), .val (.int (0 : Int32)), .val (.double (FP.ddiv (FP.i2d p0) (4620693217682128896 : UInt64))), .second, .val (.ref b1), .val (.int (1 : Int32))] [])
        refine own_go (fun _ k => XS.iconst X4.here hx rfl (hb hby at_68) k) ?_
        show own_Goes _ _ _ _ _ _ _ T4 (mkF m 69 #[.val (.int p0), .val (.int p1), .val (.int (0 : Int32)), .val (.int (0 : Int32)), .val (.double (FP.ddiv (FP.i2d p0) (4620693217682128896 : UInt64))), .second, .val (.ref b1), .val (.int (1 : Int32))] [(.int (1 : Int32))])
        refine own_go (fun _ k => XS.goto X4.here hx rfl (pc0 := 69) (pc' := 73) rfl (hb hby at_69) (by decide) (by decide) k) ?_
        show own_Goes _ _ _ _ _ _ _ T4 (mkF m 73 #[.val (.int p0), .val (.int p1), .val (.int (0 : Int32)), .val (.int (0 : Int32)), .val (.double (FP.ddiv (FP.i2d p0) (4620693217682128896 : UInt64))), .second, .val (.ref b1), .val (.int (1 : Int32))] [(.int (1 : Int32))])
        exact own_retN X4 hx (t := .boolean) hlk hret (by simp) (hb hby at_73) (by decide) (by decide) ⟨rfl, N4⟩
    · refine own_go (fun _ k => XS.ifNo X0.here hx rfl (hb hby at_15) rfl ((if0 _ _).trans (feq hc15).1) k) ?_
      show own_Goes _ _ _ _ _ _ _ s₁ (mkF m 18 #[.val (.int p0), .val (.int p1), .val (.int (0 : Int32)), .unset, .unset, .unset, .unset, .unset] [])
      refine own_go (fun _ k => XS.iconst X0.here hx rfl (hb hby at_18) k) ?_
      show own_Goes _ _ _ _ _ _ _ s₁ (mkF m 19 #[.val (.int p0), .val (.int p1), .val (.int (0 : Int32)), .unset, .unset, .unset, .unset, .unset] [(.int (1 : Int32))])
      refine own_go (fun _ k => XS.goto X0.here hx rfl (pc0 := 19) (pc' := 23) rfl (hb hby at_19) (by decide) (by decide) k) ?_
      show own_Goes _ _ _ _ _ _ _ s₁ (mkF m 23 #[.val (.int p0), .val (.int p1), .val (.int (0 : Int32)), .unset, .unset, .unset, .unset, .unset] [(.int (1 : Int32))])
      refine own_go (fun _ k => XS.istoreN X0.here hx rfl (hb hby at_23) rfl (l' := #[.val (.int p0), .val (.int p1), .val (.int (0 : Int32)), .val (.int (1 : Int32)), .unset, .unset, .unset, .unset]) rfl k) ?_
      show own_Goes _ _ _ _ _ _ _ s₁ (mkF m 24 #[.val (.int p0), .val (.int p1), .val (.int (0 : Int32)), .val (.int (1 : Int32)), .unset, .unset, .unset, .unset] [])
      refine own_go (fun _ k => XS.iloadN X0.here hx rfl (hb hby at_24) rfl k) ?_
      show own_Goes _ _ _ _ _ _ _ s₁ (mkF m 25 #[.val (.int p0), .val (.int p1), .val (.int (0 : Int32)), .val (.int (1 : Int32)), .unset, .unset, .unset, .unset] [(.int p0)])
      refine own_go (fun _ k => XS.own_i2d X0.here hx rfl (hb hby at_25) rfl k) ?_
      show own_Goes _ _ _ _ _ _ _ s₁ (mkF m 26 #[.val (.int p0), .val (.int p1), .val (.int (0 : Int32)), .val (.int (1 : Int32)), .unset, .unset, .unset, .unset] [(.double (FP.i2d p0))])
      refine own_go (fun t k => X0.ldc2DoubleC hx hown (mvT hZ (hw _ (List.mem_of_getElem? (i := 0) rfl))) (g := (mkF m 26 #[.val (.int p0), .val (.int p1), .val (.int (0 : Int32)), .val (.int (1 : Int32)), .unset, .unset, .unset, .unset] [(.double (FP.i2d p0))])) rfl (hb hby at_26) t k) ?_
      show own_Goes _ _ _ _ _ _ _ s₁ (mkF m 29 #[.val (.int p0), .val (.int p1), .val (.int (0 : Int32)), .val (.int (1 : Int32)), .unset, .unset, .unset, .unset] [(.double (4620693217682128896 : UInt64)), (.double (FP.i2d p0))])
      refine own_go (fun _ k => XS.own_ddiv X0.here hx rfl (hb hby at_29) rfl (FP.Core.own_dn p0) k) ?_
      show own_Goes _ _ _ _ _ _ _ s₁ (mkF m 30 #[.val (.int p0), .val (.int p1), .val (.int (0 : Int32)), .val (.int (1 : Int32)), .unset, .unset, .unset, .unset] [(.double (FP.ddiv (FP.i2d p0) (4620693217682128896 : UInt64)))])
      refine own_go (fun _ k => XS.dstore X0.here hx rfl (hb hby at_30) rfl (l' := #[.val (.int p0), .val (.int p1), .val (.int (0 : Int32)), .val (.int (1 : Int32)), .val (.double (FP.ddiv (FP.i2d p0) (4620693217682128896 : UInt64))), .second, .unset, .unset]) rfl k) ?_
      show own_Goes _ _ _ _ _ _ _ s₁ (mkF m 32 #[.val (.int p0), .val (.int p1), .val (.int (0 : Int32)), .val (.int (1 : Int32)), .val (.double (FP.ddiv (FP.i2d p0) (4620693217682128896 : UInt64))), .second, .unset, .unset] [])
      obtain ⟨T5, h5, X5, e5, E5, A5, D5, -, st5⟩ := newO X0 hx hZ hown (hw _ (List.mem_of_getElem? (i := 1) rfl)) (hw _ (List.mem_of_getElem? (i := 2) rfl)) (hw _ (List.mem_of_getElem? (i := 3) rfl)) e0 (g := (mkF m 32 #[.val (.int p0), .val (.int p1), .val (.int (0 : Int32)), .val (.int (1 : Int32)), .val (.double (FP.ddiv (FP.i2d p0) (4620693217682128896 : UInt64))), .second, .unset, .unset] [])) rfl (hb hby at_32) (by decide) (by decide)
      obtain ⟨b5, g5⟩ : ∃ z, z = h0.size := ⟨_, rfl⟩
      rw [← g5] at A5 D5 st5
      have lo_b5 : n0 ≤ b5 := Nat.le_trans Z0 (Nat.le_of_eq g5.symm)
      have Zs5 : n0 ≤ h5.size := Nat.le_trans Z0 E5.1
      have F_weight_b5 : Fld Z h5 b5 "com/example/vaxwire/vaxwire/records/Match" "weight" "D" (.double 0) := D5 (Or.inr (hw _ (List.mem_of_getElem? (i := 16) rfl))) (ty := .double) (by decide)
      have F_sure_b5 : Fld Z h5 b5 "com/example/vaxwire/vaxwire/records/Match" "sure" "Z" (.int (0 : Int32)) := D5 (Or.inr (hw _ (List.mem_of_getElem? (i := 18) rfl))) (ty := .boolean) (by decide)
      have F_joins_b5 : Fld Z h5 b5 "com/example/vaxwire/vaxwire/records/Match" "joins" "Z" (.int (0 : Int32)) := D5 (Or.inr (hw _ (List.mem_of_getElem? (i := 20) rfl))) (ty := .boolean) (by decide)
      refine own_go st5 ?_
      show own_Goes _ _ _ _ _ _ _ T5 (mkF m 35 #[.val (.int p0), .val (.int p1), .val (.int (0 : Int32)), .val (.int (1 : Int32)), .val (.double (FP.ddiv (FP.i2d p0) (4620693217682128896 : UInt64))), .second, .unset, .unset] [(.ref b5)])
      refine own_go (fun _ k => XS.dup X5.here hx rfl (hb hby at_35) rfl rfl k) ?_
      show own_Goes _ _ _ _ _ _ _ T5 (mkF m 36 #[.val (.int p0), .val (.int p1), .val (.int (0 : Int32)), .val (.int (1 : Int32)), .val (.double (FP.ddiv (FP.i2d p0) (4620693217682128896 : UInt64))), .second, .unset, .unset] [(.ref b5), (.ref b5)])
      refine own_go (fun _ k => XS.dload X5.here hx rfl (hb hby at_36) rfl k) ?_
      show own_Goes _ _ _ _ _ _ _ T5 (mkF m 38 #[.val (.int p0), .val (.int p1), .val (.int (0 : Int32)), .val (.int (1 : Int32)), .val (.double (FP.ddiv (FP.i2d p0) (4620693217682128896 : UInt64))), .second, .unset, .unset] [(.double (FP.ddiv (FP.i2d p0) (4620693217682128896 : UInt64))), (.ref b5), (.ref b5)])
      refine own_go (fun _ k => XS.iloadN X5.here hx rfl (hb hby at_38) rfl k) ?_
      show own_Goes _ _ _ _ _ _ _ T5 (mkF m 39 #[.val (.int p0), .val (.int p1), .val (.int (0 : Int32)), .val (.int (1 : Int32)), .val (.double (FP.ddiv (FP.i2d p0) (4620693217682128896 : UInt64))), .second, .unset, .unset] [(.int (0 : Int32)), (.double (FP.ddiv (FP.i2d p0) (4620693217682128896 : UInt64))), (.ref b5), (.ref b5)])
      refine own_go (fun _ k => XS.iloadN X5.here hx rfl (hb hby at_39) rfl k) ?_
      show own_Goes _ _ _ _ _ _ _ T5 (mkF m 40 #[.val (.int p0), .val (.int p1), .val (.int (0 : Int32)), .val (.int (1 : Int32)), .val (.double (FP.ddiv (FP.i2d p0) (4620693217682128896 : UInt64))), .second, .unset, .unset] [(.int (1 : Int32)), (.int (0 : Int32)), (.double (FP.ddiv (FP.i2d p0) (4620693217682128896 : UInt64))), (.ref b5), (.ref b5)])
      obtain ⟨_, _, ⟨T6, L6, k6, n6⟩, -, X6, ⟨Lc6, hQ6, l6, y6, z6⟩, st6⟩ := X5.specialBack hx (y := (⟨"com/example/vaxwire/vaxwire/records/Match", "<init>", "(DZZ)V"⟩ : MethodName)) rfl hown (mvT hZ (hw _ (List.mem_of_getElem? (i := 4) rfl))) (mvT hZ (hw _ (List.mem_of_getElem? (i := 5) rfl))) (mvT hZ (hw _ (List.mem_of_getElem? (i := 6) rfl))) (by decide) (backOf (W := 1) (rm_init l Z a0 hw [] b5 (FP.ddiv (FP.i2d p0) (4620693217682128896 : UInt64)) (0 : Int32) (1 : Int32) h5 n0 Zs5 A5 F_weight_b5 F_sure_b5 F_joins_b5 lo_b5) hZ (hw _ (List.mem_of_getElem? (i := 6) rfl)) (hw _ (List.mem_of_getElem? (i := 3) rfl)) (by decide) (by decide)) (g := (mkF m 40 #[.val (.int p0), .val (.int p1), .val (.int (0 : Int32)), .val (.int (1 : Int32)), .val (.double (FP.ddiv (FP.i2d p0) (4620693217682128896 : UInt64))), .second, .unset, .unset] [(.int (1 : Int32)), (.int (0 : Int32)), (.double (FP.ddiv (FP.i2d p0) (4620693217682128896 : UInt64))), (.ref b5), (.ref b5)])) rfl (by rw [hml]; rfl) (Steps.refl _) (a := b5) (argsL := [(.double (FP.ddiv (FP.i2d p0) (4620693217682128896 : UInt64))), (.int (0 : Int32)), (.int (1 : Int32))]) (rest := [(.ref b5)]) (lenOf pd_1 rfl) rfl (by show 2 * 0 + _ ≤ _; exact Nat.le_of_eq rfl) (hb hby at_40) (fun _ _ => ⟨rfl, e5, (by decide : 0 + 1 + 0 ≤ _), (by decide : 0 + 3 + 0 ≤ _)⟩)
      dsimp only [Pt.U, Pt.locs, Pt.cells, Pt.slots] at X6 l6 y6 z6 st6 hQ6
      subst l6 y6 z6
      obtain ⟨rfl, N6q, Zs6, K6, Fw6⟩ := hQ6
      have N6 := Fr.app N0 N6q
      refine own_goS st6 ?_
      show own_Goes _ _ _ _ _ _ _ T6 (mkF m 43 #[.val (.int p0), .val (.int p1), .val (.int (0 : Int32)), .val (.int (1 : Int32)), .val (.double (FP.ddiv (FP.i2d p0) (4620693217682128896 : UInt64))), .second, .unset, .unset] [(.ref b5)])
      have E_b5_6 : Exa Z T6.heap b5 "com/example/vaxwire/vaxwire/records/Match" := A5.keep K6
      have Zs6 : n0 ≤ T6.heap.size := Nat.le_trans Zs5 K6.1
      refine own_go (fun _ k => XS.astore X6.here hx rfl (hb hby at_43) rfl rfl (l' := #[.val (.int p0), .val (.int p1), .val (.int (0 : Int32)), .val (.int (1 : Int32)), .val (.double (FP.ddiv (FP.i2d p0) (4620693217682128896 : UInt64))), .second, .val (.ref b5), .unset]) rfl k) ?_
      show own_Goes _ _ _ _ _ _ _ T6 (mkF m 45 #[.val (.int p0), .val (.int p1), .val (.int (0 : Int32)), .val (.int (1 : Int32)), .val (.double (FP.ddiv (FP.i2d p0) (4620693217682128896 : UInt64))), .second, .val (.ref b5), .unset] [])
      refine own_go (fun _ k => XS.iloadN X6.here hx rfl (hb hby at_45) rfl k) ?_
      show own_Goes _ _ _ _ _ _ _ T6 (mkF m 46 #[.val (.int p0), .val (.int p1), .val (.int (0 : Int32)), .val (.int (1 : Int32)), .val (.double (FP.ddiv (FP.i2d p0) (4620693217682128896 : UInt64))), .second, .val (.ref b5), .unset] [(.int p0)])
      refine own_go (fun _ k => XS.bipush X6.here hx rfl (hb hby at_46) k) ?_
      show own_Goes _ _ _ _ _ _ _ T6 (mkF m 48 #[.val (.int p0), .val (.int p1), .val (.int (0 : Int32)), .val (.int (1 : Int32)), .val (.double (FP.ddiv (FP.i2d p0) (4620693217682128896 : UInt64))), .second, .val (.ref b5), .unset] [(.int (96 : Int32)), (.int p0)])
      by_cases hc48 : p0 < (96 : Int32)
      · refine own_go (fun _ k => XS.icmpYes X6.here hx rfl (pc0 := 48) (pc' := 55) rfl (hb hby at_48) rfl (tlt hc48).1 (by decide) (by decide) k) ?_
        show own_Goes _ _ _ _ _ _ _ T6 (mkF m 55 #[.val (.int p0), .val (.int p1), .val (.int (0 : Int32)), .val (.int (1 : Int32)), .val (.double (FP.ddiv (FP.i2d p0) (4620693217682128896 : UInt64))), .second, .val (.ref b5), .unset] [])
        refine own_go (fun _ k => XS.iconst X6.here hx rfl (hb hby at_55) k) ?_
        show own_Goes _ _ _ _ _ _ _ T6 (mkF m 56 #[.val (.int p0), .val (.int p1), .val (.int (0 : Int32)), .val (.int (1 : Int32)), .val (.double (FP.ddiv (FP.i2d p0) (4620693217682128896 : UInt64))), .second, .val (.ref b5), .unset] [(.int (0 : Int32))])
        refine own_go (fun _ k => XS.istore X6.here hx rfl (hb hby at_56) rfl (l' := #[.val (.int p0), .val (.int p1), .val (.int (0 : Int32)), .val (.int (1 : Int32)), .val (.double (FP.ddiv (FP.i2d p0) (4620693217682128896 : UInt64))), .second, .val (.ref b5), .val (.int (0 : Int32))]) rfl k) ?_
        show own_Goes _ _ _ _ _ _ _ T6 (mkF m 58 #[.val (.int p0), .val (.int p1), .val (.int (0 : Int32)), .val (.int (1 : Int32)), .val (.double (FP.ddiv (FP.i2d p0) (4620693217682128896 : UInt64))), .second, .val (.ref b5), .val (.int (0 : Int32))] [])
        refine own_go (fun _ k => XS.aload X6.here hx rfl (hb hby at_58) rfl rfl k) ?_
        show own_Goes _ _ _ _ _ _ _ T6 (mkF m 60 #[.val (.int p0), .val (.int p1), .val (.int (0 : Int32)), .val (.int (1 : Int32)), .val (.double (FP.ddiv (FP.i2d p0) (4620693217682128896 : UInt64))), .second, .val (.ref b5), .val (.int (0 : Int32))] [(.ref b5)])
        obtain ⟨cq7, kq7, zq7a, zq7b, zq7c⟩ := isOf hZ rfl E_b5_6
        obtain ⟨_, _, ⟨T7, L7, k7, n7⟩, -, X7, ⟨Lc7, hQ7, l7, y7, z7⟩, st7⟩ := X6.virtualBack hx (y := (⟨"com/example/vaxwire/vaxwire/records/Match", "isPossible", "()Z"⟩ : MethodName)) (z := (⟨"com/example/vaxwire/vaxwire/records/Match", "isPossible", "()Z"⟩ : MethodName)) hown (mvT hZ (hw _ (List.mem_of_getElem? (i := 21) rfl))) (mvT hZ (hw _ (List.mem_of_getElem? (i := 22) rfl))) (notFace_of_selects (args := #[]) (mvT hZ (hw _ (List.mem_of_getElem? (i := 24) rfl)))) (mvT hZ (hw _ (List.mem_of_getElem? (i := 24) rfl))) (mvT hZ (hw _ (List.mem_of_getElem? (i := 23) rfl))) (by decide) (backOf (W := 0) (rm_pos l Z a0 hw [] b5 (FP.ddiv (FP.i2d p0) (4620693217682128896 : UInt64)) T6.heap n0 Zs6 Fw6) hZ (hw _ (List.mem_of_getElem? (i := 25) rfl)) (hw _ (List.mem_of_getElem? (i := 3) rfl)) (by decide) (by decide)) zq7a zq7c (g := (mkF m 60 #[.val (.int p0), .val (.int p1), .val (.int (0 : Int32)), .val (.int (1 : Int32)), .val (.double (FP.ddiv (FP.i2d p0) (4620693217682128896 : UInt64))), .second, .val (.ref b5), .val (.int (0 : Int32))] [(.ref b5)])) rfl (by rw [hml]; rfl) (Steps.refl _) (argsL := []) (rest := []) (lenOf pd_2 rfl) rfl (by show 2 * 0 + _ ≤ _; exact Nat.le_of_eq rfl) (hb hby at_60) (fun _ _ => ⟨rfl, rfl, (by decide : 0 + 1 + 0 + 0 ≤ _), (by decide : 0 + 3 + 0 + 0 ≤ _)⟩)
        dsimp only [Pt.U, Pt.locs, Pt.cells, Pt.slots] at X7 l7 y7 z7 st7 hQ7
        subst l7 y7 z7
        obtain ⟨rfl, N7q, e7⟩ := hQ7
        have N7 := Fr.app N6 N7q
        refine own_goS st7 ?_
        show own_Goes _ _ _ _ _ _ _ T7 (mkF m 63 #[.val (.int p0), .val (.int p1), .val (.int (0 : Int32)), .val (.int (1 : Int32)), .val (.double (FP.ddiv (FP.i2d p0) (4620693217682128896 : UInt64))), .second, .val (.ref b5), .val (.int (0 : Int32))] [(.int (own_pos (FP.ddiv (FP.i2d p0) (4620693217682128896 : UInt64))))])
        refine own_go (fun _ k => XS.iload X7.here hx rfl (hb hby at_63) rfl k) ?_
        show own_Goes _ _ _ _ _ _ _ T7 (mkF m 65 #[.val (.int p0), .val (.int p1), .val (.int (0 : Int32)), .val (.int (1 : Int32)), .val (.double (FP.ddiv (FP.i2d p0) (4620693217682128896 : UInt64))), .second, .val (.ref b5), .val (.int (0 : Int32))] [(.int (0 : Int32)), (.int (own_pos (FP.ddiv (FP.i2d p0) (4620693217682128896 : UInt64))))])
        refine own_go (fun _ k => XS.icmpNo X7.here hx rfl (hb hby at_65) rfl (teq (own_posT hc48 : (own_pos (FP.ddiv (FP.i2d p0) (4620693217682128896 : UInt64))) = (0 : Int32))).2 k) ?_
        show own_Goes _ _ _ _ _ _ _ T7 (mkF m 68 #[.val (.int p0), .val (.int p1), .val (.int (0 : Int32)), .val (.int (1 : Int32)), .val (.double (FP.ddiv (FP.i2d p0) (4620693217682128896 : UInt64))), .second, .val (.ref b5), .val (.int (0 : Int32))] [])
        refine own_go (fun _ k => XS.iconst X7.here hx rfl (hb hby at_68) k) ?_
        show own_Goes _ _ _ _ _ _ _ T7 (mkF m 69 #[.val (.int p0), .val (.int p1), .val (.int (0 : Int32)), .val (.int (1 : Int32)), .val (.double (FP.ddiv (FP.i2d p0) (4620693217682128896 : UInt64))), .second, .val (.ref b5), .val (.int (0 : Int32))] [(.int (1 : Int32))])
        refine own_go (fun _ k => XS.goto X7.here hx rfl (pc0 := 69) (pc' := 73) rfl (hb hby at_69) (by decide) (by decide) k) ?_
        show own_Goes _ _ _ _ _ _ _ T7 (mkF m 73 #[.val (.int p0), .val (.int p1), .val (.int (0 : Int32)), .val (.int (1 : Int32)), .val (.double (FP.ddiv (FP.i2d p0) (4620693217682128896 : UInt64))), .second, .val (.ref b5), .val (.int (0 : Int32))] [(.int (1 : Int32))])
        exact own_retN X7 hx (t := .boolean) hlk hret (by simp) (hb hby at_73) (by decide) (by decide) ⟨rfl, N7⟩
      · refine own_go (fun _ k => XS.icmpNo X6.here hx rfl (hb hby at_48) rfl (flt hc48).1 k) ?_
        show own_Goes _ _ _ _ _ _ _ T6 (mkF m 51 #[.val (.int p0), .val (.int p1), .val (.int (0 : Int32)), .val (.int (1 : Int32)), .val (.double (FP.ddiv (FP.i2d p0) (4620693217682128896 : UInt64))), .second, .val (.ref b5), .unset] [])
        refine own_go (fun _ k => XS.iconst X6.here hx rfl (hb hby at_51) k) ?_
        show own_Goes _ _ _ _ _ _ _ T6 (mkF m 52 #[.val (.int p0), .val (.int p1), .val (.int (0 : Int32)), .val (.int (1 : Int32)), .val (.double (FP.ddiv (FP.i2d p0) (4620693217682128896 : UInt64))), .second, .val (.ref b5), .unset] [(.int (1 : Int32))])
        refine own_go (fun _ k => XS.goto X6.here hx rfl (pc0 := 52) (pc' := 56) rfl (hb hby at_52) (by decide) (by decide) k) ?_
        show own_Goes _ _ _ _ _ _ _ T6 (mkF m 56 #[.val (.int p0), .val (.int p1), .val (.int (0 : Int32)), .val (.int (1 : Int32)), .val (.double (FP.ddiv (FP.i2d p0) (4620693217682128896 : UInt64))), .second, .val (.ref b5), .unset] [(.int (1 : Int32))])
        refine own_go (fun _ k => XS.istore X6.here hx rfl (hb hby at_56) rfl (l' := #[.val (.int p0), .val (.int p1), .val (.int (0 : Int32)), .val (.int (1 : Int32)), .val (.double (FP.ddiv (FP.i2d p0) (4620693217682128896 : UInt64))), .second, .val (.ref b5), .val (.int (1 : Int32))]) rfl k) ?_
        show own_Goes _ _ _ _ _ _ _ T6 (mkF m 58 #[.val (.int p0), .val (.int p1), .val (.int (0 : Int32)), .val (.int (1 : Int32)), .val (.double (FP.ddiv (FP.i2d p0) (4620693217682128896 : UInt64))), .second, .val (.ref b5), .val (.int (1 : Int32))] [])
        refine own_go (fun _ k => XS.aload X6.here hx rfl (hb hby at_58) rfl rfl k) ?_
        show own_Goes _ _ _ _ _ _ _ T6 (mkF m 60 #[.val (.int p0), .val (.int p1), .val (.int (0 : Int32)), .val (.int (1 : Int32)), .val (.double (FP.ddiv (FP.i2d p0) (4620693217682128896 : UInt64))), .second, .val (.ref b5), .val (.int (1 : Int32))] [(.ref b5)])
        obtain ⟨cq8, kq8, zq8a, zq8b, zq8c⟩ := isOf hZ rfl E_b5_6
        obtain ⟨_, _, ⟨T8, L8, k8, n8⟩, -, X8, ⟨Lc8, hQ8, l8, y8, z8⟩, st8⟩ := X6.virtualBack hx (y := (⟨"com/example/vaxwire/vaxwire/records/Match", "isPossible", "()Z"⟩ : MethodName)) (z := (⟨"com/example/vaxwire/vaxwire/records/Match", "isPossible", "()Z"⟩ : MethodName)) hown (mvT hZ (hw _ (List.mem_of_getElem? (i := 21) rfl))) (mvT hZ (hw _ (List.mem_of_getElem? (i := 22) rfl))) (notFace_of_selects (args := #[]) (mvT hZ (hw _ (List.mem_of_getElem? (i := 24) rfl)))) (mvT hZ (hw _ (List.mem_of_getElem? (i := 24) rfl))) (mvT hZ (hw _ (List.mem_of_getElem? (i := 23) rfl))) (by decide) (backOf (W := 0) (rm_pos l Z a0 hw [] b5 (FP.ddiv (FP.i2d p0) (4620693217682128896 : UInt64)) T6.heap n0 Zs6 Fw6) hZ (hw _ (List.mem_of_getElem? (i := 25) rfl)) (hw _ (List.mem_of_getElem? (i := 3) rfl)) (by decide) (by decide)) zq8a zq8c (g := (mkF m 60 #[.val (.int p0), .val (.int p1), .val (.int (0 : Int32)), .val (.int (1 : Int32)), .val (.double (FP.ddiv (FP.i2d p0) (4620693217682128896 : UInt64))), .second, .val (.ref b5), .val (.int (1 : Int32))] [(.ref b5)])) rfl (by rw [hml]; rfl) (Steps.refl _) (argsL := []) (rest := []) (lenOf pd_2 rfl) rfl (by show 2 * 0 + _ ≤ _; exact Nat.le_of_eq rfl) (hb hby at_60) (fun _ _ => ⟨rfl, rfl, (by decide : 0 + 1 + 0 + 0 ≤ _), (by decide : 0 + 3 + 0 + 0 ≤ _)⟩)
        dsimp only [Pt.U, Pt.locs, Pt.cells, Pt.slots] at X8 l8 y8 z8 st8 hQ8
        subst l8 y8 z8
        obtain ⟨rfl, N8q, e8⟩ := hQ8
        have N8 := Fr.app N6 N8q
        refine own_goS st8 ?_
        show own_Goes _ _ _ _ _ _ _ T8 (mkF m 63 #[.val (.int p0), .val (.int p1), .val (.int (0 : Int32)), .val (.int (1 : Int32)), .val (.double (FP.ddiv (FP.i2d p0) (4620693217682128896 : UInt64))), .second, .val (.ref b5), .val (.int (1 : Int32))] [(.int (own_pos (FP.ddiv (FP.i2d p0) (4620693217682128896 : UInt64))))])
        refine own_go (fun _ k => XS.iload X8.here hx rfl (hb hby at_63) rfl k) ?_
        show own_Goes _ _ _ _ _ _ _ T8 (mkF m 65 #[.val (.int p0), .val (.int p1), .val (.int (0 : Int32)), .val (.int (1 : Int32)), .val (.double (FP.ddiv (FP.i2d p0) (4620693217682128896 : UInt64))), .second, .val (.ref b5), .val (.int (1 : Int32))] [(.int (1 : Int32)), (.int (own_pos (FP.ddiv (FP.i2d p0) (4620693217682128896 : UInt64))))])
        refine own_go (fun _ k => XS.icmpNo X8.here hx rfl (hb hby at_65) rfl (teq (own_posF hc48 : (own_pos (FP.ddiv (FP.i2d p0) (4620693217682128896 : UInt64))) = (1 : Int32))).2 k) ?_
        show own_Goes _ _ _ _ _ _ _ T8 (mkF m 68 #[.val (.int p0), .val (.int p1), .val (.int (0 : Int32)), .val (.int (1 : Int32)), .val (.double (FP.ddiv (FP.i2d p0) (4620693217682128896 : UInt64))), .second, .val (.ref b5), .val (.int (1 : Int32))] [])
        refine own_go (fun _ k => XS.iconst X8.here hx rfl (hb hby at_68) k) ?_
        show own_Goes _ _ _ _ _ _ _ T8 (mkF m 69 #[.val (.int p0), .val (.int p1), .val (.int (0 : Int32)), .val (.int (1 : Int32)), .val (.double (FP.ddiv (FP.i2d p0) (4620693217682128896 : UInt64))), .second, .val (.ref b5), .val (.int (1 : Int32))] [(.int (1 : Int32))])
        refine own_go (fun _ k => XS.goto X8.here hx rfl (pc0 := 69) (pc' := 73) rfl (hb hby at_69) (by decide) (by decide) k) ?_
        show own_Goes _ _ _ _ _ _ _ T8 (mkF m 73 #[.val (.int p0), .val (.int p1), .val (.int (0 : Int32)), .val (.int (1 : Int32)), .val (.double (FP.ddiv (FP.i2d p0) (4620693217682128896 : UInt64))), .second, .val (.ref b5), .val (.int (1 : Int32))] [(.int (1 : Int32))])
        exact own_retN X8 hx (t := .boolean) hlk hret (by simp) (hb hby at_73) (by decide) (by decide) ⟨rfl, N8⟩
  · refine own_go (fun _ k => XS.ifNo X0.here hx rfl (hb hby at_3) rfl ((if0 _ _).trans (feq hc3).1) k) ?_
    show own_Goes _ _ _ _ _ _ _ s₁ (mkF m 6 #[.val (.int p0), .val (.int p1), .unset, .unset, .unset, .unset, .unset, .unset] [])
    refine own_go (fun _ k => XS.iconst X0.here hx rfl (hb hby at_6) k) ?_
    show own_Goes _ _ _ _ _ _ _ s₁ (mkF m 7 #[.val (.int p0), .val (.int p1), .unset, .unset, .unset, .unset, .unset, .unset] [(.int (1 : Int32))])
    refine own_go (fun _ k => XS.goto X0.here hx rfl (pc0 := 7) (pc' := 11) rfl (hb hby at_7) (by decide) (by decide) k) ?_
    show own_Goes _ _ _ _ _ _ _ s₁ (mkF m 11 #[.val (.int p0), .val (.int p1), .unset, .unset, .unset, .unset, .unset, .unset] [(.int (1 : Int32))])
    refine own_go (fun _ k => XS.istoreN X0.here hx rfl (hb hby at_11) rfl (l' := #[.val (.int p0), .val (.int p1), .val (.int (1 : Int32)), .unset, .unset, .unset, .unset, .unset]) rfl k) ?_
    show own_Goes _ _ _ _ _ _ _ s₁ (mkF m 12 #[.val (.int p0), .val (.int p1), .val (.int (1 : Int32)), .unset, .unset, .unset, .unset, .unset] [])
    refine own_go (fun _ k => XS.iloadN X0.here hx rfl (hb hby at_12) rfl k) ?_
    show own_Goes _ _ _ _ _ _ _ s₁ (mkF m 13 #[.val (.int p0), .val (.int p1), .val (.int (1 : Int32)), .unset, .unset, .unset, .unset, .unset] [(.int p1)])
    refine own_go (fun _ k => XS.iconst X0.here hx rfl (hb hby at_13) k) ?_
    show own_Goes _ _ _ _ _ _ _ s₁ (mkF m 14 #[.val (.int p0), .val (.int p1), .val (.int (1 : Int32)), .unset, .unset, .unset, .unset, .unset] [(.int (2 : Int32)), (.int p1)])
    refine own_go (fun _ k => XS.iand X0.here hx rfl (hb hby at_14) rfl k) ?_
    show own_Goes _ _ _ _ _ _ _ s₁ (mkF m 15 #[.val (.int p0), .val (.int p1), .val (.int (1 : Int32)), .unset, .unset, .unset, .unset, .unset] [(.int (p1 &&& (2 : Int32)))])
    by_cases hc15 : (p1 &&& (2 : Int32)) = (0 : Int32)
    · refine own_go (fun _ k => XS.ifYes X0.here hx rfl (pc0 := 15) (pc' := 22) rfl (hb hby at_15) rfl ((if0 _ _).trans (teq hc15).1) (by decide) (by decide) k) ?_
      show own_Goes _ _ _ _ _ _ _ s₁ (mkF m 22 #[.val (.int p0), .val (.int p1), .val (.int (1 : Int32)), .unset, .unset, .unset, .unset, .unset] [])
      refine own_go (fun _ k => XS.iconst X0.here hx rfl (hb hby at_22) k) ?_
      show own_Goes _ _ _ _ _ _ _ s₁ (mkF m 23 #[.val (.int p0), .val (.int p1), .val (.int (1 : Int32)), .unset, .unset, .unset, .unset, .unset] [(.int (0 : Int32))])
      refine own_go (fun _ k => XS.istoreN X0.here hx rfl (hb hby at_23) rfl (l' := #[.val (.int p0), .val (.int p1), .val (.int (1 : Int32)), .val (.int (0 : Int32)), .unset, .unset, .unset, .unset]) rfl k) ?_
      show own_Goes _ _ _ _ _ _ _ s₁ (mkF m 24 #[.val (.int p0), .val (.int p1), .val (.int (1 : Int32)), .val (.int (0 : Int32)), .unset, .unset, .unset, .unset] [])
      refine own_go (fun _ k => XS.iloadN X0.here hx rfl (hb hby at_24) rfl k) ?_
      show own_Goes _ _ _ _ _ _ _ s₁ (mkF m 25 #[.val (.int p0), .val (.int p1), .val (.int (1 : Int32)), .val (.int (0 : Int32)), .unset, .unset, .unset, .unset] [(.int p0)])
      refine own_go (fun _ k => XS.own_i2d X0.here hx rfl (hb hby at_25) rfl k) ?_
      show own_Goes _ _ _ _ _ _ _ s₁ (mkF m 26 #[.val (.int p0), .val (.int p1), .val (.int (1 : Int32)), .val (.int (0 : Int32)), .unset, .unset, .unset, .unset] [(.double (FP.i2d p0))])
      refine own_go (fun t k => X0.ldc2DoubleC hx hown (mvT hZ (hw _ (List.mem_of_getElem? (i := 0) rfl))) (g := (mkF m 26 #[.val (.int p0), .val (.int p1), .val (.int (1 : Int32)), .val (.int (0 : Int32)), .unset, .unset, .unset, .unset] [(.double (FP.i2d p0))])) rfl (hb hby at_26) t k) ?_
      show own_Goes _ _ _ _ _ _ _ s₁ (mkF m 29 #[.val (.int p0), .val (.int p1), .val (.int (1 : Int32)), .val (.int (0 : Int32)), .unset, .unset, .unset, .unset] [(.double (4620693217682128896 : UInt64)), (.double (FP.i2d p0))])
      refine own_go (fun _ k => XS.own_ddiv X0.here hx rfl (hb hby at_29) rfl (FP.Core.own_dn p0) k) ?_
      show own_Goes _ _ _ _ _ _ _ s₁ (mkF m 30 #[.val (.int p0), .val (.int p1), .val (.int (1 : Int32)), .val (.int (0 : Int32)), .unset, .unset, .unset, .unset] [(.double (FP.ddiv (FP.i2d p0) (4620693217682128896 : UInt64)))])
      refine own_go (fun _ k => XS.dstore X0.here hx rfl (hb hby at_30) rfl (l' := #[.val (.int p0), .val (.int p1), .val (.int (1 : Int32)), .val (.int (0 : Int32)), .val (.double (FP.ddiv (FP.i2d p0) (4620693217682128896 : UInt64))), .second, .unset, .unset]) rfl k) ?_
      show own_Goes _ _ _ _ _ _ _ s₁ (mkF m 32 #[.val (.int p0), .val (.int p1), .val (.int (1 : Int32)), .val (.int (0 : Int32)), .val (.double (FP.ddiv (FP.i2d p0) (4620693217682128896 : UInt64))), .second, .unset, .unset] [])
      obtain ⟨T9, h9, X9, e9, E9, A9, D9, -, st9⟩ := newO X0 hx hZ hown (hw _ (List.mem_of_getElem? (i := 1) rfl)) (hw _ (List.mem_of_getElem? (i := 2) rfl)) (hw _ (List.mem_of_getElem? (i := 3) rfl)) e0 (g := (mkF m 32 #[.val (.int p0), .val (.int p1), .val (.int (1 : Int32)), .val (.int (0 : Int32)), .val (.double (FP.ddiv (FP.i2d p0) (4620693217682128896 : UInt64))), .second, .unset, .unset] [])) rfl (hb hby at_32) (by decide) (by decide)
      obtain ⟨b9, g9⟩ : ∃ z, z = h0.size := ⟨_, rfl⟩
      rw [← g9] at A9 D9 st9
      have lo_b9 : n0 ≤ b9 := Nat.le_trans Z0 (Nat.le_of_eq g9.symm)
      have Zs9 : n0 ≤ h9.size := Nat.le_trans Z0 E9.1
      have F_weight_b9 : Fld Z h9 b9 "com/example/vaxwire/vaxwire/records/Match" "weight" "D" (.double 0) := D9 (Or.inr (hw _ (List.mem_of_getElem? (i := 16) rfl))) (ty := .double) (by decide)
      have F_sure_b9 : Fld Z h9 b9 "com/example/vaxwire/vaxwire/records/Match" "sure" "Z" (.int (0 : Int32)) := D9 (Or.inr (hw _ (List.mem_of_getElem? (i := 18) rfl))) (ty := .boolean) (by decide)
      have F_joins_b9 : Fld Z h9 b9 "com/example/vaxwire/vaxwire/records/Match" "joins" "Z" (.int (0 : Int32)) := D9 (Or.inr (hw _ (List.mem_of_getElem? (i := 20) rfl))) (ty := .boolean) (by decide)
      refine own_go st9 ?_
      show own_Goes _ _ _ _ _ _ _ T9 (mkF m 35 #[.val (.int p0), .val (.int p1), .val (.int (1 : Int32)), .val (.int (0 : Int32)), .val (.double (FP.ddiv (FP.i2d p0) (4620693217682128896 : UInt64))), .second, .unset, .unset] [(.ref b9)])
      refine own_go (fun _ k => XS.dup X9.here hx rfl (hb hby at_35) rfl rfl k) ?_
      show own_Goes _ _ _ _ _ _ _ T9 (mkF m 36 #[.val (.int p0), .val (.int p1), .val (.int (1 : Int32)), .val (.int (0 : Int32)), .val (.double (FP.ddiv (FP.i2d p0) (4620693217682128896 : UInt64))), .second, .unset, .unset] [(.ref b9), (.ref b9)])
      refine own_go (fun _ k => XS.dload X9.here hx rfl (hb hby at_36) rfl k) ?_
      show own_Goes _ _ _ _ _ _ _ T9 (mkF m 38 #[.val (.int p0), .val (.int p1), .val (.int (1 : Int32)), .val (.int (0 : Int32)), .val (.double (FP.ddiv (FP.i2d p0) (4620693217682128896 : UInt64))), .second, .unset, .unset] [(.double (FP.ddiv (FP.i2d p0) (4620693217682128896 : UInt64))), (.ref b9), (.ref b9)])
      refine own_go (fun _ k => XS.iloadN X9.here hx rfl (hb hby at_38) rfl k) ?_
      show own_Goes _ _ _ _ _ _ _ T9 (mkF m 39 #[.val (.int p0), .val (.int p1), .val (.int (1 : Int32)), .val (.int (0 : Int32)), .val (.double (FP.ddiv (FP.i2d p0) (4620693217682128896 : UInt64))), .second, .unset, .unset] [(.int (1 : Int32)), (.double (FP.ddiv (FP.i2d p0) (4620693217682128896 : UInt64))), (.ref b9), (.ref b9)])
      refine own_go (fun _ k => XS.iloadN X9.here hx rfl (hb hby at_39) rfl k) ?_
      show own_Goes _ _ _ _ _ _ _ T9 (mkF m 40 #[.val (.int p0), .val (.int p1), .val (.int (1 : Int32)), .val (.int (0 : Int32)), .val (.double (FP.ddiv (FP.i2d p0) (4620693217682128896 : UInt64))), .second, .unset, .unset] [(.int (0 : Int32)), (.int (1 : Int32)), (.double (FP.ddiv (FP.i2d p0) (4620693217682128896 : UInt64))), (.ref b9), (.ref b9)])
      obtain ⟨_, _, ⟨T10, L10, k10, n10⟩, -, X10, ⟨Lc10, hQ10, l10, y10, z10⟩, st10⟩ := X9.specialBack hx (y := (⟨"com/example/vaxwire/vaxwire/records/Match", "<init>", "(DZZ)V"⟩ : MethodName)) rfl hown (mvT hZ (hw _ (List.mem_of_getElem? (i := 4) rfl))) (mvT hZ (hw _ (List.mem_of_getElem? (i := 5) rfl))) (mvT hZ (hw _ (List.mem_of_getElem? (i := 6) rfl))) (by decide) (backOf (W := 1) (rm_init l Z a0 hw [] b9 (FP.ddiv (FP.i2d p0) (4620693217682128896 : UInt64)) (1 : Int32) (0 : Int32) h9 n0 Zs9 A9 F_weight_b9 F_sure_b9 F_joins_b9 lo_b9) hZ (hw _ (List.mem_of_getElem? (i := 6) rfl)) (hw _ (List.mem_of_getElem? (i := 3) rfl)) (by decide) (by decide)) (g := (mkF m 40 #[.val (.int p0), .val (.int p1), .val (.int (1 : Int32)), .val (.int (0 : Int32)), .val (.double (FP.ddiv (FP.i2d p0) (4620693217682128896 : UInt64))), .second, .unset, .unset] [(.int (0 : Int32)), (.int (1 : Int32)), (.double (FP.ddiv (FP.i2d p0) (4620693217682128896 : UInt64))), (.ref b9), (.ref b9)])) rfl (by rw [hml]; rfl) (Steps.refl _) (a := b9) (argsL := [(.double (FP.ddiv (FP.i2d p0) (4620693217682128896 : UInt64))), (.int (1 : Int32)), (.int (0 : Int32))]) (rest := [(.ref b9)]) (lenOf pd_1 rfl) rfl (by show 2 * 0 + _ ≤ _; exact Nat.le_of_eq rfl) (hb hby at_40) (fun _ _ => ⟨rfl, e9, (by decide : 0 + 1 + 0 ≤ _), (by decide : 0 + 3 + 0 ≤ _)⟩)
      dsimp only [Pt.U, Pt.locs, Pt.cells, Pt.slots] at X10 l10 y10 z10 st10 hQ10
      subst l10 y10 z10
      obtain ⟨rfl, N10q, Zs10, K10, Fw10⟩ := hQ10
      have N10 := Fr.app N0 N10q
      refine own_goS st10 ?_
      show own_Goes _ _ _ _ _ _ _ T10 (mkF m 43 #[.val (.int p0), .val (.int p1), .val (.int (1 : Int32)), .val (.int (0 : Int32)), .val (.double (FP.ddiv (FP.i2d p0) (4620693217682128896 : UInt64))), .second, .unset, .unset] [(.ref b9)])
      have E_b9_10 : Exa Z T10.heap b9 "com/example/vaxwire/vaxwire/records/Match" := A9.keep K10
      have Zs10 : n0 ≤ T10.heap.size := Nat.le_trans Zs9 K10.1
      refine own_go (fun _ k => XS.astore X10.here hx rfl (hb hby at_43) rfl rfl (l' := #[.val (.int p0), .val (.int p1), .val (.int (1 : Int32)), .val (.int (0 : Int32)), .val (.double (FP.ddiv (FP.i2d p0) (4620693217682128896 : UInt64))), .second, .val (.ref b9), .unset]) rfl k) ?_
      show own_Goes _ _ _ _ _ _ _ T10 (mkF m 45 #[.val (.int p0), .val (.int p1), .val (.int (1 : Int32)), .val (.int (0 : Int32)), .val (.double (FP.ddiv (FP.i2d p0) (4620693217682128896 : UInt64))), .second, .val (.ref b9), .unset] [])
      refine own_go (fun _ k => XS.iloadN X10.here hx rfl (hb hby at_45) rfl k) ?_
      show own_Goes _ _ _ _ _ _ _ T10 (mkF m 46 #[.val (.int p0), .val (.int p1), .val (.int (1 : Int32)), .val (.int (0 : Int32)), .val (.double (FP.ddiv (FP.i2d p0) (4620693217682128896 : UInt64))), .second, .val (.ref b9), .unset] [(.int p0)])
      refine own_go (fun _ k => XS.bipush X10.here hx rfl (hb hby at_46) k) ?_
      show own_Goes _ _ _ _ _ _ _ T10 (mkF m 48 #[.val (.int p0), .val (.int p1), .val (.int (1 : Int32)), .val (.int (0 : Int32)), .val (.double (FP.ddiv (FP.i2d p0) (4620693217682128896 : UInt64))), .second, .val (.ref b9), .unset] [(.int (96 : Int32)), (.int p0)])
      by_cases hc48 : p0 < (96 : Int32)
      · refine own_go (fun _ k => XS.icmpYes X10.here hx rfl (pc0 := 48) (pc' := 55) rfl (hb hby at_48) rfl (tlt hc48).1 (by decide) (by decide) k) ?_
        show own_Goes _ _ _ _ _ _ _ T10 (mkF m 55 #[.val (.int p0), .val (.int p1), .val (.int (1 : Int32)), .val (.int (0 : Int32)), .val (.double (FP.ddiv (FP.i2d p0) (4620693217682128896 : UInt64))), .second, .val (.ref b9), .unset] [])
        refine own_go (fun _ k => XS.iconst X10.here hx rfl (hb hby at_55) k) ?_
        show own_Goes _ _ _ _ _ _ _ T10 (mkF m 56 #[.val (.int p0), .val (.int p1), .val (.int (1 : Int32)), .val (.int (0 : Int32)), .val (.double (FP.ddiv (FP.i2d p0) (4620693217682128896 : UInt64))), .second, .val (.ref b9), .unset] [(.int (0 : Int32))])
        refine own_go (fun _ k => XS.istore X10.here hx rfl (hb hby at_56) rfl (l' := #[.val (.int p0), .val (.int p1), .val (.int (1 : Int32)), .val (.int (0 : Int32)), .val (.double (FP.ddiv (FP.i2d p0) (4620693217682128896 : UInt64))), .second, .val (.ref b9), .val (.int (0 : Int32))]) rfl k) ?_
        show own_Goes _ _ _ _ _ _ _ T10 (mkF m 58 #[.val (.int p0), .val (.int p1), .val (.int (1 : Int32)), .val (.int (0 : Int32)), .val (.double (FP.ddiv (FP.i2d p0) (4620693217682128896 : UInt64))), .second, .val (.ref b9), .val (.int (0 : Int32))] [])
        refine own_go (fun _ k => XS.aload X10.here hx rfl (hb hby at_58) rfl rfl k) ?_
        show own_Goes _ _ _ _ _ _ _ T10 (mkF m 60 #[.val (.int p0), .val (.int p1), .val (.int (1 : Int32)), .val (.int (0 : Int32)), .val (.double (FP.ddiv (FP.i2d p0) (4620693217682128896 : UInt64))), .second, .val (.ref b9), .val (.int (0 : Int32))] [(.ref b9)])
        obtain ⟨cq11, kq11, zq11a, zq11b, zq11c⟩ := isOf hZ rfl E_b9_10
        obtain ⟨_, _, ⟨T11, L11, k11, n11⟩, -, X11, ⟨Lc11, hQ11, l11, y11, z11⟩, st11⟩ := X10.virtualBack hx (y := (⟨"com/example/vaxwire/vaxwire/records/Match", "isPossible", "()Z"⟩ : MethodName)) (z := (⟨"com/example/vaxwire/vaxwire/records/Match", "isPossible", "()Z"⟩ : MethodName)) hown (mvT hZ (hw _ (List.mem_of_getElem? (i := 21) rfl))) (mvT hZ (hw _ (List.mem_of_getElem? (i := 22) rfl))) (notFace_of_selects (args := #[]) (mvT hZ (hw _ (List.mem_of_getElem? (i := 24) rfl)))) (mvT hZ (hw _ (List.mem_of_getElem? (i := 24) rfl))) (mvT hZ (hw _ (List.mem_of_getElem? (i := 23) rfl))) (by decide) (backOf (W := 0) (rm_pos l Z a0 hw [] b9 (FP.ddiv (FP.i2d p0) (4620693217682128896 : UInt64)) T10.heap n0 Zs10 Fw10) hZ (hw _ (List.mem_of_getElem? (i := 25) rfl)) (hw _ (List.mem_of_getElem? (i := 3) rfl)) (by decide) (by decide)) zq11a zq11c (g := (mkF m 60 #[.val (.int p0), .val (.int p1), .val (.int (1 : Int32)), .val (.int (0 : Int32)), .val (.double (FP.ddiv (FP.i2d p0) (4620693217682128896 : UInt64))), .second, .val (.ref b9), .val (.int (0 : Int32))] [(.ref b9)])) rfl (by rw [hml]; rfl) (Steps.refl _) (argsL := []) (rest := []) (lenOf pd_2 rfl) rfl (by show 2 * 0 + _ ≤ _; exact Nat.le_of_eq rfl) (hb hby at_60) (fun _ _ => ⟨rfl, rfl, (by decide : 0 + 1 + 0 + 0 ≤ _), (by decide : 0 + 3 + 0 + 0 ≤ _)⟩)
        dsimp only [Pt.U, Pt.locs, Pt.cells, Pt.slots] at X11 l11 y11 z11 st11 hQ11
        subst l11 y11 z11
        obtain ⟨rfl, N11q, e11⟩ := hQ11
        have N11 := Fr.app N10 N11q
        refine own_goS st11 ?_
        show own_Goes _ _ _ _ _ _ _ T11 (mkF m 63 #[.val (.int p0), .val (.int p1), .val (.int (1 : Int32)), .val (.int (0 : Int32)), .val (.double (FP.ddiv (FP.i2d p0) (4620693217682128896 : UInt64))), .second, .val (.ref b9), .val (.int (0 : Int32))] [(.int (own_pos (FP.ddiv (FP.i2d p0) (4620693217682128896 : UInt64))))])
        refine own_go (fun _ k => XS.iload X11.here hx rfl (hb hby at_63) rfl k) ?_
        show own_Goes _ _ _ _ _ _ _ T11 (mkF m 65 #[.val (.int p0), .val (.int p1), .val (.int (1 : Int32)), .val (.int (0 : Int32)), .val (.double (FP.ddiv (FP.i2d p0) (4620693217682128896 : UInt64))), .second, .val (.ref b9), .val (.int (0 : Int32))] [(.int (0 : Int32)), (.int (own_pos (FP.ddiv (FP.i2d p0) (4620693217682128896 : UInt64))))])
        refine own_go (fun _ k => XS.icmpNo X11.here hx rfl (hb hby at_65) rfl (teq (own_posT hc48 : (own_pos (FP.ddiv (FP.i2d p0) (4620693217682128896 : UInt64))) = (0 : Int32))).2 k) ?_
        show own_Goes _ _ _ _ _ _ _ T11 (mkF m 68 #[.val (.int p0), .val (.int p1), .val (.int (1 : Int32)), .val (.int (0 : Int32)), .val (.double (FP.ddiv (FP.i2d p0) (4620693217682128896 : UInt64))), .second, .val (.ref b9), .val (.int (0 : Int32))] [])
        refine own_go (fun _ k => XS.iconst X11.here hx rfl (hb hby at_68) k) ?_
        show own_Goes _ _ _ _ _ _ _ T11 (mkF m 69 #[.val (.int p0), .val (.int p1), .val (.int (1 : Int32)), .val (.int (0 : Int32)), .val (.double (FP.ddiv (FP.i2d p0) (4620693217682128896 : UInt64))), .second, .val (.ref b9), .val (.int (0 : Int32))] [(.int (1 : Int32))])
        refine own_go (fun _ k => XS.goto X11.here hx rfl (pc0 := 69) (pc' := 73) rfl (hb hby at_69) (by decide) (by decide) k) ?_
        show own_Goes _ _ _ _ _ _ _ T11 (mkF m 73 #[.val (.int p0), .val (.int p1), .val (.int (1 : Int32)), .val (.int (0 : Int32)), .val (.double (FP.ddiv (FP.i2d p0) (4620693217682128896 : UInt64))), .second, .val (.ref b9), .val (.int (0 : Int32))] [(.int (1 : Int32))])
        exact own_retN X11 hx (t := .boolean) hlk hret (by simp) (hb hby at_73) (by decide) (by decide) ⟨rfl, N11⟩
      · refine own_go (fun _ k => XS.icmpNo X10.here hx rfl (hb hby at_48) rfl (flt hc48).1 k) ?_
        show own_Goes _ _ _ _ _ _ _ T10 (mkF m 51 #[.val (.int p0), .val (.int p1), .val (.int (1 : Int32)), .val (.int (0 : Int32)), .val (.double (FP.ddiv (FP.i2d p0) (4620693217682128896 : UInt64))), .second, .val (.ref b9), .unset] [])
        refine own_go (fun _ k => XS.iconst X10.here hx rfl (hb hby at_51) k) ?_
        show own_Goes _ _ _ _ _ _ _ T10 (mkF m 52 #[.val (.int p0), .val (.int p1), .val (.int (1 : Int32)), .val (.int (0 : Int32)), .val (.double (FP.ddiv (FP.i2d p0) (4620693217682128896 : UInt64))), .second, .val (.ref b9), .unset] [(.int (1 : Int32))])
        refine own_go (fun _ k => XS.goto X10.here hx rfl (pc0 := 52) (pc' := 56) rfl (hb hby at_52) (by decide) (by decide) k) ?_
        show own_Goes _ _ _ _ _ _ _ T10 (mkF m 56 #[.val (.int p0), .val (.int p1), .val (.int (1 : Int32)), .val (.int (0 : Int32)), .val (.double (FP.ddiv (FP.i2d p0) (4620693217682128896 : UInt64))), .second, .val (.ref b9), .unset] [(.int (1 : Int32))])
        refine own_go (fun _ k => XS.istore X10.here hx rfl (hb hby at_56) rfl (l' := #[.val (.int p0), .val (.int p1), .val (.int (1 : Int32)), .val (.int (0 : Int32)), .val (.double (FP.ddiv (FP.i2d p0) (4620693217682128896 : UInt64))), .second, .val (.ref b9), .val (.int (1 : Int32))]) rfl k) ?_
        show own_Goes _ _ _ _ _ _ _ T10 (mkF m 58 #[.val (.int p0), .val (.int p1), .val (.int (1 : Int32)), .val (.int (0 : Int32)), .val (.double (FP.ddiv (FP.i2d p0) (4620693217682128896 : UInt64))), .second, .val (.ref b9), .val (.int (1 : Int32))] [])
        refine own_go (fun _ k => XS.aload X10.here hx rfl (hb hby at_58) rfl rfl k) ?_
        show own_Goes _ _ _ _ _ _ _ T10 (mkF m 60 #[.val (.int p0), .val (.int p1), .val (.int (1 : Int32)), .val (.int (0 : Int32)), .val (.double (FP.ddiv (FP.i2d p0) (4620693217682128896 : UInt64))), .second, .val (.ref b9), .val (.int (1 : Int32))] [(.ref b9)])
        obtain ⟨cq12, kq12, zq12a, zq12b, zq12c⟩ := isOf hZ rfl E_b9_10
        obtain ⟨_, _, ⟨T12, L12, k12, n12⟩, -, X12, ⟨Lc12, hQ12, l12, y12, z12⟩, st12⟩ := X10.virtualBack hx (y := (⟨"com/example/vaxwire/vaxwire/records/Match", "isPossible", "()Z"⟩ : MethodName)) (z := (⟨"com/example/vaxwire/vaxwire/records/Match", "isPossible", "()Z"⟩ : MethodName)) hown (mvT hZ (hw _ (List.mem_of_getElem? (i := 21) rfl))) (mvT hZ (hw _ (List.mem_of_getElem? (i := 22) rfl))) (notFace_of_selects (args := #[]) (mvT hZ (hw _ (List.mem_of_getElem? (i := 24) rfl)))) (mvT hZ (hw _ (List.mem_of_getElem? (i := 24) rfl))) (mvT hZ (hw _ (List.mem_of_getElem? (i := 23) rfl))) (by decide) (backOf (W := 0) (rm_pos l Z a0 hw [] b9 (FP.ddiv (FP.i2d p0) (4620693217682128896 : UInt64)) T10.heap n0 Zs10 Fw10) hZ (hw _ (List.mem_of_getElem? (i := 25) rfl)) (hw _ (List.mem_of_getElem? (i := 3) rfl)) (by decide) (by decide)) zq12a zq12c (g := (mkF m 60 #[.val (.int p0), .val (.int p1), .val (.int (1 : Int32)), .val (.int (0 : Int32)), .val (.double (FP.ddiv (FP.i2d p0) (4620693217682128896 : UInt64))), .second, .val (.ref b9), .val (.int (1 : Int32))] [(.ref b9)])) rfl (by rw [hml]; rfl) (Steps.refl _) (argsL := []) (rest := []) (lenOf pd_2 rfl) rfl (by show 2 * 0 + _ ≤ _; exact Nat.le_of_eq rfl) (hb hby at_60) (fun _ _ => ⟨rfl, rfl, (by decide : 0 + 1 + 0 + 0 ≤ _), (by decide : 0 + 3 + 0 + 0 ≤ _)⟩)
        dsimp only [Pt.U, Pt.locs, Pt.cells, Pt.slots] at X12 l12 y12 z12 st12 hQ12
        subst l12 y12 z12
        obtain ⟨rfl, N12q, e12⟩ := hQ12
        have N12 := Fr.app N10 N12q
        refine own_goS st12 ?_
        show own_Goes _ _ _ _ _ _ _ T12 (mkF m 63 #[.val (.int p0), .val (.int p1), .val (.int (1 : Int32)), .val (.int (0 : Int32)), .val (.double (FP.ddiv (FP.i2d p0) (4620693217682128896 : UInt64))), .second, .val (.ref b9), .val (.int (1 : Int32))] [(.int (own_pos (FP.ddiv (FP.i2d p0) (4620693217682128896 : UInt64))))])
        refine own_go (fun _ k => XS.iload X12.here hx rfl (hb hby at_63) rfl k) ?_
        show own_Goes _ _ _ _ _ _ _ T12 (mkF m 65 #[.val (.int p0), .val (.int p1), .val (.int (1 : Int32)), .val (.int (0 : Int32)), .val (.double (FP.ddiv (FP.i2d p0) (4620693217682128896 : UInt64))), .second, .val (.ref b9), .val (.int (1 : Int32))] [(.int (1 : Int32)), (.int (own_pos (FP.ddiv (FP.i2d p0) (4620693217682128896 : UInt64))))])
        refine own_go (fun _ k => XS.icmpNo X12.here hx rfl (hb hby at_65) rfl (teq (own_posF hc48 : (own_pos (FP.ddiv (FP.i2d p0) (4620693217682128896 : UInt64))) = (1 : Int32))).2 k) ?_
        show own_Goes _ _ _ _ _ _ _ T12 (mkF m 68 #[.val (.int p0), .val (.int p1), .val (.int (1 : Int32)), .val (.int (0 : Int32)), .val (.double (FP.ddiv (FP.i2d p0) (4620693217682128896 : UInt64))), .second, .val (.ref b9), .val (.int (1 : Int32))] [])
        refine own_go (fun _ k => XS.iconst X12.here hx rfl (hb hby at_68) k) ?_
        show own_Goes _ _ _ _ _ _ _ T12 (mkF m 69 #[.val (.int p0), .val (.int p1), .val (.int (1 : Int32)), .val (.int (0 : Int32)), .val (.double (FP.ddiv (FP.i2d p0) (4620693217682128896 : UInt64))), .second, .val (.ref b9), .val (.int (1 : Int32))] [(.int (1 : Int32))])
        refine own_go (fun _ k => XS.goto X12.here hx rfl (pc0 := 69) (pc' := 73) rfl (hb hby at_69) (by decide) (by decide) k) ?_
        show own_Goes _ _ _ _ _ _ _ T12 (mkF m 73 #[.val (.int p0), .val (.int p1), .val (.int (1 : Int32)), .val (.int (0 : Int32)), .val (.double (FP.ddiv (FP.i2d p0) (4620693217682128896 : UInt64))), .second, .val (.ref b9), .val (.int (1 : Int32))] [(.int (1 : Int32))])
        exact own_retN X12 hx (t := .boolean) hlk hret (by simp) (hb hby at_73) (by decide) (by decide) ⟨rfl, N12⟩
    · refine own_go (fun _ k => XS.ifNo X0.here hx rfl (hb hby at_15) rfl ((if0 _ _).trans (feq hc15).1) k) ?_
      show own_Goes _ _ _ _ _ _ _ s₁ (mkF m 18 #[.val (.int p0), .val (.int p1), .val (.int (1 : Int32)), .unset, .unset, .unset, .unset, .unset] [])
      refine own_go (fun _ k => XS.iconst X0.here hx rfl (hb hby at_18) k) ?_
      show own_Goes _ _ _ _ _ _ _ s₁ (mkF m 19 #[.val (.int p0), .val (.int p1), .val (.int (1 : Int32)), .unset, .unset, .unset, .unset, .unset] [(.int (1 : Int32))])
      refine own_go (fun _ k => XS.goto X0.here hx rfl (pc0 := 19) (pc' := 23) rfl (hb hby at_19) (by decide) (by decide) k) ?_
      show own_Goes _ _ _ _ _ _ _ s₁ (mkF m 23 #[.val (.int p0), .val (.int p1), .val (.int (1 : Int32)), .unset, .unset, .unset, .unset, .unset] [(.int (1 : Int32))])
      refine own_go (fun _ k => XS.istoreN X0.here hx rfl (hb hby at_23) rfl (l' := #[.val (.int p0), .val (.int p1), .val (.int (1 : Int32)), .val (.int (1 : Int32)), .unset, .unset, .unset, .unset]) rfl k) ?_
      show own_Goes _ _ _ _ _ _ _ s₁ (mkF m 24 #[.val (.int p0), .val (.int p1), .val (.int (1 : Int32)), .val (.int (1 : Int32)), .unset, .unset, .unset, .unset] [])
      refine own_go (fun _ k => XS.iloadN X0.here hx rfl (hb hby at_24) rfl k) ?_
      show own_Goes _ _ _ _ _ _ _ s₁ (mkF m 25 #[.val (.int p0), .val (.int p1), .val (.int (1 : Int32)), .val (.int (1 : Int32)), .unset, .unset, .unset, .unset] [(.int p0)])
      refine own_go (fun _ k => XS.own_i2d X0.here hx rfl (hb hby at_25) rfl k) ?_
      show own_Goes _ _ _ _ _ _ _ s₁ (mkF m 26 #[.val (.int p0), .val (.int p1), .val (.int (1 : Int32)), .val (.int (1 : Int32)), .unset, .unset, .unset, .unset] [(.double (FP.i2d p0))])
      refine own_go (fun t k => X0.ldc2DoubleC hx hown (mvT hZ (hw _ (List.mem_of_getElem? (i := 0) rfl))) (g := (mkF m 26 #[.val (.int p0), .val (.int p1), .val (.int (1 : Int32)), .val (.int (1 : Int32)), .unset, .unset, .unset, .unset] [(.double (FP.i2d p0))])) rfl (hb hby at_26) t k) ?_
      show own_Goes _ _ _ _ _ _ _ s₁ (mkF m 29 #[.val (.int p0), .val (.int p1), .val (.int (1 : Int32)), .val (.int (1 : Int32)), .unset, .unset, .unset, .unset] [(.double (4620693217682128896 : UInt64)), (.double (FP.i2d p0))])
      refine own_go (fun _ k => XS.own_ddiv X0.here hx rfl (hb hby at_29) rfl (FP.Core.own_dn p0) k) ?_
      show own_Goes _ _ _ _ _ _ _ s₁ (mkF m 30 #[.val (.int p0), .val (.int p1), .val (.int (1 : Int32)), .val (.int (1 : Int32)), .unset, .unset, .unset, .unset] [(.double (FP.ddiv (FP.i2d p0) (4620693217682128896 : UInt64)))])
      refine own_go (fun _ k => XS.dstore X0.here hx rfl (hb hby at_30) rfl (l' := #[.val (.int p0), .val (.int p1), .val (.int (1 : Int32)), .val (.int (1 : Int32)), .val (.double (FP.ddiv (FP.i2d p0) (4620693217682128896 : UInt64))), .second, .unset, .unset]) rfl k) ?_
      show own_Goes _ _ _ _ _ _ _ s₁ (mkF m 32 #[.val (.int p0), .val (.int p1), .val (.int (1 : Int32)), .val (.int (1 : Int32)), .val (.double (FP.ddiv (FP.i2d p0) (4620693217682128896 : UInt64))), .second, .unset, .unset] [])
      obtain ⟨T13, h13, X13, e13, E13, A13, D13, -, st13⟩ := newO X0 hx hZ hown (hw _ (List.mem_of_getElem? (i := 1) rfl)) (hw _ (List.mem_of_getElem? (i := 2) rfl)) (hw _ (List.mem_of_getElem? (i := 3) rfl)) e0 (g := (mkF m 32 #[.val (.int p0), .val (.int p1), .val (.int (1 : Int32)), .val (.int (1 : Int32)), .val (.double (FP.ddiv (FP.i2d p0) (4620693217682128896 : UInt64))), .second, .unset, .unset] [])) rfl (hb hby at_32) (by decide) (by decide)
      obtain ⟨b13, g13⟩ : ∃ z, z = h0.size := ⟨_, rfl⟩
      rw [← g13] at A13 D13 st13
      have lo_b13 : n0 ≤ b13 := Nat.le_trans Z0 (Nat.le_of_eq g13.symm)
      have Zs13 : n0 ≤ h13.size := Nat.le_trans Z0 E13.1
      have F_weight_b13 : Fld Z h13 b13 "com/example/vaxwire/vaxwire/records/Match" "weight" "D" (.double 0) := D13 (Or.inr (hw _ (List.mem_of_getElem? (i := 16) rfl))) (ty := .double) (by decide)
      have F_sure_b13 : Fld Z h13 b13 "com/example/vaxwire/vaxwire/records/Match" "sure" "Z" (.int (0 : Int32)) := D13 (Or.inr (hw _ (List.mem_of_getElem? (i := 18) rfl))) (ty := .boolean) (by decide)
      have F_joins_b13 : Fld Z h13 b13 "com/example/vaxwire/vaxwire/records/Match" "joins" "Z" (.int (0 : Int32)) := D13 (Or.inr (hw _ (List.mem_of_getElem? (i := 20) rfl))) (ty := .boolean) (by decide)
      refine own_go st13 ?_
      show own_Goes _ _ _ _ _ _ _ T13 (mkF m 35 #[.val (.int p0), .val (.int p1), .val (.int (1 : Int32)), .val (.int (1 : Int32)), .val (.double (FP.ddiv (FP.i2d p0) (4620693217682128896 : UInt64))), .second, .unset, .unset] [(.ref b13)])
      refine own_go (fun _ k => XS.dup X13.here hx rfl (hb hby at_35) rfl rfl k) ?_
      show own_Goes _ _ _ _ _ _ _ T13 (mkF m 36 #[.val (.int p0), .val (.int p1), .val (.int (1 : Int32)), .val (.int (1 : Int32)), .val (.double (FP.ddiv (FP.i2d p0) (4620693217682128896 : UInt64))), .second, .unset, .unset] [(.ref b13), (.ref b13)])
      refine own_go (fun _ k => XS.dload X13.here hx rfl (hb hby at_36) rfl k) ?_
      show own_Goes _ _ _ _ _ _ _ T13 (mkF m 38 #[.val (.int p0), .val (.int p1), .val (.int (1 : Int32)), .val (.int (1 : Int32)), .val (.double (FP.ddiv (FP.i2d p0) (4620693217682128896 : UInt64))), .second, .unset, .unset] [(.double (FP.ddiv (FP.i2d p0) (4620693217682128896 : UInt64))), (.ref b13), (.ref b13)])
      refine own_go (fun _ k => XS.iloadN X13.here hx rfl (hb hby at_38) rfl k) ?_
      show own_Goes _ _ _ _ _ _ _ T13 (mkF m 39 #[.val (.int p0), .val (.int p1), .val (.int (1 : Int32)), .val (.int (1 : Int32)), .val (.double (FP.ddiv (FP.i2d p0) (4620693217682128896 : UInt64))), .second, .unset, .unset] [(.int (1 : Int32)), (.double (FP.ddiv (FP.i2d p0) (4620693217682128896 : UInt64))), (.ref b13), (.ref b13)])
      refine own_go (fun _ k => XS.iloadN X13.here hx rfl (hb hby at_39) rfl k) ?_
      show own_Goes _ _ _ _ _ _ _ T13 (mkF m 40 #[.val (.int p0), .val (.int p1), .val (.int (1 : Int32)), .val (.int (1 : Int32)), .val (.double (FP.ddiv (FP.i2d p0) (4620693217682128896 : UInt64))), .second, .unset, .unset] [(.int (1 : Int32)), (.int (1 : Int32)), (.double (FP.ddiv (FP.i2d p0) (4620693217682128896 : UInt64))), (.ref b13), (.ref b13)])
      obtain ⟨_, _, ⟨T14, L14, k14, n14⟩, -, X14, ⟨Lc14, hQ14, l14, y14, z14⟩, st14⟩ := X13.specialBack hx (y := (⟨"com/example/vaxwire/vaxwire/records/Match", "<init>", "(DZZ)V"⟩ : MethodName)) rfl hown (mvT hZ (hw _ (List.mem_of_getElem? (i := 4) rfl))) (mvT hZ (hw _ (List.mem_of_getElem? (i := 5) rfl))) (mvT hZ (hw _ (List.mem_of_getElem? (i := 6) rfl))) (by decide) (backOf (W := 1) (rm_init l Z a0 hw [] b13 (FP.ddiv (FP.i2d p0) (4620693217682128896 : UInt64)) (1 : Int32) (1 : Int32) h13 n0 Zs13 A13 F_weight_b13 F_sure_b13 F_joins_b13 lo_b13) hZ (hw _ (List.mem_of_getElem? (i := 6) rfl)) (hw _ (List.mem_of_getElem? (i := 3) rfl)) (by decide) (by decide)) (g := (mkF m 40 #[.val (.int p0), .val (.int p1), .val (.int (1 : Int32)), .val (.int (1 : Int32)), .val (.double (FP.ddiv (FP.i2d p0) (4620693217682128896 : UInt64))), .second, .unset, .unset] [(.int (1 : Int32)), (.int (1 : Int32)), (.double (FP.ddiv (FP.i2d p0) (4620693217682128896 : UInt64))), (.ref b13), (.ref b13)])) rfl (by rw [hml]; rfl) (Steps.refl _) (a := b13) (argsL := [(.double (FP.ddiv (FP.i2d p0) (4620693217682128896 : UInt64))), (.int (1 : Int32)), (.int (1 : Int32))]) (rest := [(.ref b13)]) (lenOf pd_1 rfl) rfl (by show 2 * 0 + _ ≤ _; exact Nat.le_of_eq rfl) (hb hby at_40) (fun _ _ => ⟨rfl, e13, (by decide : 0 + 1 + 0 ≤ _), (by decide : 0 + 3 + 0 ≤ _)⟩)
      dsimp only [Pt.U, Pt.locs, Pt.cells, Pt.slots] at X14 l14 y14 z14 st14 hQ14
      subst l14 y14 z14
      obtain ⟨rfl, N14q, Zs14, K14, Fw14⟩ := hQ14
      have N14 := Fr.app N0 N14q
      refine own_goS st14 ?_
      show own_Goes _ _ _ _ _ _ _ T14 (mkF m 43 #[.val (.int p0), .val (.int p1), .val (.int (1 : Int32)), .val (.int (1 : Int32)), .val (.double (FP.ddiv (FP.i2d p0) (4620693217682128896 : UInt64))), .second, .unset, .unset] [(.ref b13)])
      have E_b13_14 : Exa Z T14.heap b13 "com/example/vaxwire/vaxwire/records/Match" := A13.keep K14
      have Zs14 : n0 ≤ T14.heap.size := Nat.le_trans Zs13 K14.1
      refine own_go (fun _ k => XS.astore X14.here hx rfl (hb hby at_43) rfl rfl (l' := #[.val (.int p0), .val (.int p1), .val (.int (1 : Int32)), .val (.int (1 : Int32)), .val (.double (FP.ddiv (FP.i2d p0) (4620693217682128896 : UInt64))), .second, .val (.ref b13), .unset]) rfl k) ?_
      show own_Goes _ _ _ _ _ _ _ T14 (mkF m 45 #[.val (.int p0), .val (.int p1), .val (.int (1 : Int32)), .val (.int (1 : Int32)), .val (.double (FP.ddiv (FP.i2d p0) (4620693217682128896 : UInt64))), .second, .val (.ref b13), .unset] [])
      refine own_go (fun _ k => XS.iloadN X14.here hx rfl (hb hby at_45) rfl k) ?_
      show own_Goes _ _ _ _ _ _ _ T14 (mkF m 46 #[.val (.int p0), .val (.int p1), .val (.int (1 : Int32)), .val (.int (1 : Int32)), .val (.double (FP.ddiv (FP.i2d p0) (4620693217682128896 : UInt64))), .second, .val (.ref b13), .unset] [(.int p0)])
      refine own_go (fun _ k => XS.bipush X14.here hx rfl (hb hby at_46) k) ?_
      show own_Goes _ _ _ _ _ _ _ T14 (mkF m 48 #[.val (.int p0), .val (.int p1), .val (.int (1 : Int32)), .val (.int (1 : Int32)), .val (.double (FP.ddiv (FP.i2d p0) (4620693217682128896 : UInt64))), .second, .val (.ref b13), .unset] [(.int (96 : Int32)), (.int p0)])
      by_cases hc48 : p0 < (96 : Int32)
      · refine own_go (fun _ k => XS.icmpYes X14.here hx rfl (pc0 := 48) (pc' := 55) rfl (hb hby at_48) rfl (tlt hc48).1 (by decide) (by decide) k) ?_
        show own_Goes _ _ _ _ _ _ _ T14 (mkF m 55 #[.val (.int p0), .val (.int p1), .val (.int (1 : Int32)), .val (.int (1 : Int32)), .val (.double (FP.ddiv (FP.i2d p0) (4620693217682128896 : UInt64))), .second, .val (.ref b13), .unset] [])
        refine own_go (fun _ k => XS.iconst X14.here hx rfl (hb hby at_55) k) ?_
        show own_Goes _ _ _ _ _ _ _ T14 (mkF m 56 #[.val (.int p0), .val (.int p1), .val (.int (1 : Int32)), .val (.int (1 : Int32)), .val (.double (FP.ddiv (FP.i2d p0) (4620693217682128896 : UInt64))), .second, .val (.ref b13), .unset] [(.int (0 : Int32))])
        refine own_go (fun _ k => XS.istore X14.here hx rfl (hb hby at_56) rfl (l' := #[.val (.int p0), .val (.int p1), .val (.int (1 : Int32)), .val (.int (1 : Int32)), .val (.double (FP.ddiv (FP.i2d p0) (4620693217682128896 : UInt64))), .second, .val (.ref b13), .val (.int (0 : Int32))]) rfl k) ?_
        show own_Goes _ _ _ _ _ _ _ T14 (mkF m 58 #[.val (.int p0), .val (.int p1), .val (.int (1 : Int32)), .val (.int (1 : Int32)), .val (.double (FP.ddiv (FP.i2d p0) (4620693217682128896 : UInt64))), .second, .val (.ref b13), .val (.int (0 : Int32))] [])
        refine own_go (fun _ k => XS.aload X14.here hx rfl (hb hby at_58) rfl rfl k) ?_
        show own_Goes _ _ _ _ _ _ _ T14 (mkF m 60 #[.val (.int p0), .val (.int p1), .val (.int (1 : Int32)), .val (.int (1 : Int32)), .val (.double (FP.ddiv (FP.i2d p0) (4620693217682128896 : UInt64))), .second, .val (.ref b13), .val (.int (0 : Int32))] [(.ref b13)])
        obtain ⟨cq15, kq15, zq15a, zq15b, zq15c⟩ := isOf hZ rfl E_b13_14
        obtain ⟨_, _, ⟨T15, L15, k15, n15⟩, -, X15, ⟨Lc15, hQ15, l15, y15, z15⟩, st15⟩ := X14.virtualBack hx (y := (⟨"com/example/vaxwire/vaxwire/records/Match", "isPossible", "()Z"⟩ : MethodName)) (z := (⟨"com/example/vaxwire/vaxwire/records/Match", "isPossible", "()Z"⟩ : MethodName)) hown (mvT hZ (hw _ (List.mem_of_getElem? (i := 21) rfl))) (mvT hZ (hw _ (List.mem_of_getElem? (i := 22) rfl))) (notFace_of_selects (args := #[]) (mvT hZ (hw _ (List.mem_of_getElem? (i := 24) rfl)))) (mvT hZ (hw _ (List.mem_of_getElem? (i := 24) rfl))) (mvT hZ (hw _ (List.mem_of_getElem? (i := 23) rfl))) (by decide) (backOf (W := 0) (rm_pos l Z a0 hw [] b13 (FP.ddiv (FP.i2d p0) (4620693217682128896 : UInt64)) T14.heap n0 Zs14 Fw14) hZ (hw _ (List.mem_of_getElem? (i := 25) rfl)) (hw _ (List.mem_of_getElem? (i := 3) rfl)) (by decide) (by decide)) zq15a zq15c (g := (mkF m 60 #[.val (.int p0), .val (.int p1), .val (.int (1 : Int32)), .val (.int (1 : Int32)), .val (.double (FP.ddiv (FP.i2d p0) (4620693217682128896 : UInt64))), .second, .val (.ref b13), .val (.int (0 : Int32))] [(.ref b13)])) rfl (by rw [hml]; rfl) (Steps.refl _) (argsL := []) (rest := []) (lenOf pd_2 rfl) rfl (by show 2 * 0 + _ ≤ _; exact Nat.le_of_eq rfl) (hb hby at_60) (fun _ _ => ⟨rfl, rfl, (by decide : 0 + 1 + 0 + 0 ≤ _), (by decide : 0 + 3 + 0 + 0 ≤ _)⟩)
        dsimp only [Pt.U, Pt.locs, Pt.cells, Pt.slots] at X15 l15 y15 z15 st15 hQ15
        subst l15 y15 z15
        obtain ⟨rfl, N15q, e15⟩ := hQ15
        have N15 := Fr.app N14 N15q
        refine own_goS st15 ?_
        show own_Goes _ _ _ _ _ _ _ T15 (mkF m 63 #[.val (.int p0), .val (.int p1), .val (.int (1 : Int32)), .val (.int (1 : Int32)), .val (.double (FP.ddiv (FP.i2d p0) (4620693217682128896 : UInt64))), .second, .val (.ref b13), .val (.int (0 : Int32))] [(.int (own_pos (FP.ddiv (FP.i2d p0) (4620693217682128896 : UInt64))))])
        refine own_go (fun _ k => XS.iload X15.here hx rfl (hb hby at_63) rfl k) ?_
        show own_Goes _ _ _ _ _ _ _ T15 (mkF m 65 #[.val (.int p0), .val (.int p1), .val (.int (1 : Int32)), .val (.int (1 : Int32)), .val (.double (FP.ddiv (FP.i2d p0) (4620693217682128896 : UInt64))), .second, .val (.ref b13), .val (.int (0 : Int32))] [(.int (0 : Int32)), (.int (own_pos (FP.ddiv (FP.i2d p0) (4620693217682128896 : UInt64))))])
        refine own_go (fun _ k => XS.icmpNo X15.here hx rfl (hb hby at_65) rfl (teq (own_posT hc48 : (own_pos (FP.ddiv (FP.i2d p0) (4620693217682128896 : UInt64))) = (0 : Int32))).2 k) ?_
        show own_Goes _ _ _ _ _ _ _ T15 (mkF m 68 #[.val (.int p0), .val (.int p1), .val (.int (1 : Int32)), .val (.int (1 : Int32)), .val (.double (FP.ddiv (FP.i2d p0) (4620693217682128896 : UInt64))), .second, .val (.ref b13), .val (.int (0 : Int32))] [])
        refine own_go (fun _ k => XS.iconst X15.here hx rfl (hb hby at_68) k) ?_
        show own_Goes _ _ _ _ _ _ _ T15 (mkF m 69 #[.val (.int p0), .val (.int p1), .val (.int (1 : Int32)), .val (.int (1 : Int32)), .val (.double (FP.ddiv (FP.i2d p0) (4620693217682128896 : UInt64))), .second, .val (.ref b13), .val (.int (0 : Int32))] [(.int (1 : Int32))])
        refine own_go (fun _ k => XS.goto X15.here hx rfl (pc0 := 69) (pc' := 73) rfl (hb hby at_69) (by decide) (by decide) k) ?_
        show own_Goes _ _ _ _ _ _ _ T15 (mkF m 73 #[.val (.int p0), .val (.int p1), .val (.int (1 : Int32)), .val (.int (1 : Int32)), .val (.double (FP.ddiv (FP.i2d p0) (4620693217682128896 : UInt64))), .second, .val (.ref b13), .val (.int (0 : Int32))] [(.int (1 : Int32))])
        exact own_retN X15 hx (t := .boolean) hlk hret (by simp) (hb hby at_73) (by decide) (by decide) ⟨rfl, N15⟩
      · refine own_go (fun _ k => XS.icmpNo X14.here hx rfl (hb hby at_48) rfl (flt hc48).1 k) ?_
        show own_Goes _ _ _ _ _ _ _ T14 (mkF m 51 #[.val (.int p0), .val (.int p1), .val (.int (1 : Int32)), .val (.int (1 : Int32)), .val (.double (FP.ddiv (FP.i2d p0) (4620693217682128896 : UInt64))), .second, .val (.ref b13), .unset] [])
        refine own_go (fun _ k => XS.iconst X14.here hx rfl (hb hby at_51) k) ?_
        show own_Goes _ _ _ _ _ _ _ T14 (mkF m 52 #[.val (.int p0), .val (.int p1), .val (.int (1 : Int32)), .val (.int (1 : Int32)), .val (.double (FP.ddiv (FP.i2d p0) (4620693217682128896 : UInt64))), .second, .val (.ref b13), .unset] [(.int (1 : Int32))])
        refine own_go (fun _ k => XS.goto X14.here hx rfl (pc0 := 52) (pc' := 56) rfl (hb hby at_52) (by decide) (by decide) k) ?_
        show own_Goes _ _ _ _ _ _ _ T14 (mkF m 56 #[.val (.int p0), .val (.int p1), .val (.int (1 : Int32)), .val (.int (1 : Int32)), .val (.double (FP.ddiv (FP.i2d p0) (4620693217682128896 : UInt64))), .second, .val (.ref b13), .unset] [(.int (1 : Int32))])
        refine own_go (fun _ k => XS.istore X14.here hx rfl (hb hby at_56) rfl (l' := #[.val (.int p0), .val (.int p1), .val (.int (1 : Int32)), .val (.int (1 : Int32)), .val (.double (FP.ddiv (FP.i2d p0) (4620693217682128896 : UInt64))), .second, .val (.ref b13), .val (.int (1 : Int32))]) rfl k) ?_
        show own_Goes _ _ _ _ _ _ _ T14 (mkF m 58 #[.val (.int p0), .val (.int p1), .val (.int (1 : Int32)), .val (.int (1 : Int32)), .val (.double (FP.ddiv (FP.i2d p0) (4620693217682128896 : UInt64))), .second, .val (.ref b13), .val (.int (1 : Int32))] [])
        refine own_go (fun _ k => XS.aload X14.here hx rfl (hb hby at_58) rfl rfl k) ?_
        show own_Goes _ _ _ _ _ _ _ T14 (mkF m 60 #[.val (.int p0), .val (.int p1), .val (.int (1 : Int32)), .val (.int (1 : Int32)), .val (.double (FP.ddiv (FP.i2d p0) (4620693217682128896 : UInt64))), .second, .val (.ref b13), .val (.int (1 : Int32))] [(.ref b13)])
        obtain ⟨cq16, kq16, zq16a, zq16b, zq16c⟩ := isOf hZ rfl E_b13_14
        obtain ⟨_, _, ⟨T16, L16, k16, n16⟩, -, X16, ⟨Lc16, hQ16, l16, y16, z16⟩, st16⟩ := X14.virtualBack hx (y := (⟨"com/example/vaxwire/vaxwire/records/Match", "isPossible", "()Z"⟩ : MethodName)) (z := (⟨"com/example/vaxwire/vaxwire/records/Match", "isPossible", "()Z"⟩ : MethodName)) hown (mvT hZ (hw _ (List.mem_of_getElem? (i := 21) rfl))) (mvT hZ (hw _ (List.mem_of_getElem? (i := 22) rfl))) (notFace_of_selects (args := #[]) (mvT hZ (hw _ (List.mem_of_getElem? (i := 24) rfl)))) (mvT hZ (hw _ (List.mem_of_getElem? (i := 24) rfl))) (mvT hZ (hw _ (List.mem_of_getElem? (i := 23) rfl))) (by decide) (backOf (W := 0) (rm_pos l Z a0 hw [] b13 (FP.ddiv (FP.i2d p0) (4620693217682128896 : UInt64)) T14.heap n0 Zs14 Fw14) hZ (hw _ (List.mem_of_getElem? (i := 25) rfl)) (hw _ (List.mem_of_getElem? (i := 3) rfl)) (by decide) (by decide)) zq16a zq16c (g := (mkF m 60 #[.val (.int p0), .val (.int p1), .val (.int (1 : Int32)), .val (.int (1 : Int32)), .val (.double (FP.ddiv (FP.i2d p0) (4620693217682128896 : UInt64))), .second, .val (.ref b13), .val (.int (1 : Int32))] [(.ref b13)])) rfl (by rw [hml]; rfl) (Steps.refl _) (argsL := []) (rest := []) (lenOf pd_2 rfl) rfl (by show 2 * 0 + _ ≤ _; exact Nat.le_of_eq rfl) (hb hby at_60) (fun _ _ => ⟨rfl, rfl, (by decide : 0 + 1 + 0 + 0 ≤ _), (by decide : 0 + 3 + 0 + 0 ≤ _)⟩)
        dsimp only [Pt.U, Pt.locs, Pt.cells, Pt.slots] at X16 l16 y16 z16 st16 hQ16
        subst l16 y16 z16
        obtain ⟨rfl, N16q, e16⟩ := hQ16
        have N16 := Fr.app N14 N16q
        refine own_goS st16 ?_
        show own_Goes _ _ _ _ _ _ _ T16 (mkF m 63 #[.val (.int p0), .val (.int p1), .val (.int (1 : Int32)), .val (.int (1 : Int32)), .val (.double (FP.ddiv (FP.i2d p0) (4620693217682128896 : UInt64))), .second, .val (.ref b13), .val (.int (1 : Int32))] [(.int (own_pos (FP.ddiv (FP.i2d p0) (4620693217682128896 : UInt64))))])
        refine own_go (fun _ k => XS.iload X16.here hx rfl (hb hby at_63) rfl k) ?_
        show own_Goes _ _ _ _ _ _ _ T16 (mkF m 65 #[.val (.int p0), .val (.int p1), .val (.int (1 : Int32)), .val (.int (1 : Int32)), .val (.double (FP.ddiv (FP.i2d p0) (4620693217682128896 : UInt64))), .second, .val (.ref b13), .val (.int (1 : Int32))] [(.int (1 : Int32)), (.int (own_pos (FP.ddiv (FP.i2d p0) (4620693217682128896 : UInt64))))])
        refine own_go (fun _ k => XS.icmpNo X16.here hx rfl (hb hby at_65) rfl (teq (own_posF hc48 : (own_pos (FP.ddiv (FP.i2d p0) (4620693217682128896 : UInt64))) = (1 : Int32))).2 k) ?_
        show own_Goes _ _ _ _ _ _ _ T16 (mkF m 68 #[.val (.int p0), .val (.int p1), .val (.int (1 : Int32)), .val (.int (1 : Int32)), .val (.double (FP.ddiv (FP.i2d p0) (4620693217682128896 : UInt64))), .second, .val (.ref b13), .val (.int (1 : Int32))] [])
        refine own_go (fun _ k => XS.iconst X16.here hx rfl (hb hby at_68) k) ?_
        show own_Goes _ _ _ _ _ _ _ T16 (mkF m 69 #[.val (.int p0), .val (.int p1), .val (.int (1 : Int32)), .val (.int (1 : Int32)), .val (.double (FP.ddiv (FP.i2d p0) (4620693217682128896 : UInt64))), .second, .val (.ref b13), .val (.int (1 : Int32))] [(.int (1 : Int32))])
        refine own_go (fun _ k => XS.goto X16.here hx rfl (pc0 := 69) (pc' := 73) rfl (hb hby at_69) (by decide) (by decide) k) ?_
        show own_Goes _ _ _ _ _ _ _ T16 (mkF m 73 #[.val (.int p0), .val (.int p1), .val (.int (1 : Int32)), .val (.int (1 : Int32)), .val (.double (FP.ddiv (FP.i2d p0) (4620693217682128896 : UInt64))), .second, .val (.ref b13), .val (.int (1 : Int32))] [(.int (1 : Int32))])
        exact own_retN X16 hx (t := .boolean) hlk hret (by simp) (hb hby at_73) (by decide) (by decide) ⟨rfl, N16⟩
set_option maxRecDepth 65536 in
set_option maxHeartbeats 40000000 in
theorem comes_1 {Post : Tables → Env → Array Value → State → Outcome → State → Prop} (hpost : ∀ tb e args s v u, (limb_1_1.after args s (.returned v) u = true ∧ limb_1_2.after args s (.returned v) u = true ∧ True) → FrameEnd s (.returned v) u (Jvm.fieldLocs frame_1_writes args s ++ Jvm.arrayLocs frame_1_arrays args s ++ Jvm.staticLocs frame_1_statics s) 16 128 → Post tb e args s (.returned v) u) :
    ArmFor flags0 classFile x code maxLocals ret World_1 tables_1 room_1 Calls_1 rest_1 Pre_1 Post := by
  intro l hfl _ _ p e ha hc hk s m args below hf hA hF happ hP
  obtain ⟨hcalls, hrest, hpre⟩ := hP
  obtain ⟨-, -, -, hnamed, -, -, -, hat⟩ := (Spec.applies_iff hf).mp happ
  obtain ⟨hg, hn⟩ := and_e (Cond.before_iff.mp (show (Jvm.Cond.and given_1 narrow_1).before args s = true from hpre))
  obtain ⟨g0, gr0⟩ := and_e hg
  obtain ⟨ga0, gr1⟩ := and_e gr0
  have ga1 := gr1
  obtain ⟨w0, w1, rfl⟩ : ∃ w0 w1 : Value, args = #[w0, w1] := by
    have hs : args.size = 2 := by simpa [Cond.value, given_1] using g0
    obtain ⟨L⟩ := args
    match L, hs with
    | [w0, w1], _ => exact ⟨w0, w1, rfl⟩
  have hw := fun d (hd : d ∈ tables_1) => atoms_spec (ws := Jvm.Cond.code x code maxLocals ret :: tables_1) hat d (List.mem_cons_of_mem _ hd)
  have hfit : Fit s := fun {y c} hc i hi => by
    obtain ⟨ha, rfl⟩ := Array.getElem?_eq_some_iff.mp hc
    have q := List.all_eq_true.mp ((Array.all_eq_true_iff_forall_mem.mp hF) _ (Array.getElem_mem ha)) i (List.mem_range.mpr hi)
    simpa [Array.getElem?_eq_getElem hi] using q
  obtain ⟨i0, ei0⟩ := is_v ga0
  obtain rfl : w0 = (.int i0) := Option.some.inj ei0
  obtain ⟨i1, ei1⟩ := is_v ga1
  obtain rfl : w1 = (.int i1) := Option.some.inj ei1
  obtain ⟨n, o, h1, h2, h3, _, L, rfl, ⟨rfl, N⟩, hq⟩ := rm0 l s _ hw tables_1 i0 i1 s.heap s.heap.size (Nat.le_refl _)  p e ha hc hk s m _ below hf ((Spec.applies_iff_loose hf).mp happ).1 ⟨rfl, State.Warmed39.refl s, rfl⟩ trivial
  refine ⟨n, _, h1, h2, h3, hpost _ _ _ _ _ _ ⟨Cond.after_iff.mpr rfl, Cond.after_iff.mpr (eq_i res_at (Term.int_eval (1)) rfl), trivial⟩ ⟨hq.1, hq.2.1, (hq.2.2.sift fun y hy => Or.inr (N y hy)).mono (by decide) (by decide)⟩⟩
theorem main_1_1 : Claimed_1_1 := comes_1 fun _ _ _ _ _ _ h hF => ⟨h.1, hF⟩
theorem main_1_2 : Claimed_1_2 := comes_1 fun _ _ _ _ _ _ h hF => ⟨h.2.1, hF⟩
end Jvm.Pilot.@@N@@
namespace Jvm.Pilot.@@N@@
open Jvm Jvm.ClassFile Sem Op Lib Jvm.Free Jvm.Stand Jvm.Pilot.@@N@@.Jvm.D
/-! MADE BY PROGRAM (witnessworld.py) out of the Statement's table words and the real class files: 10 classes; the members and pool entries that the words name. The judged class is class 1, her method 1. -/
namespace start1
open Jvm.ClassFile
def u (s : String) : CpInfo := .utf8 (stringToUtf16 s)
/-- a pool by its gaps: so many unusable entries, then the entry; so many at the end -/
def gap : Nat → List CpInfo → List CpInfo
  | 0, r => r
  | n + 1, r => .unusable :: gap n r
def poolList (es : List (Nat × CpInfo)) (last : Nat) : List CpInfo := es.foldr (fun e r => gap e.1 (e.2 :: r)) (gap last [])
def pool (es : List (Nat × CpInfo)) (last : Nat) : Array CpInfo := ⟨poolList es last⟩
def fileOf (pool : Array CpInfo) (this : Nat) (attrs : Array Attribute := #[]) (ms : Array MethodInfo := #[]) (fl : Nat := 33) (sup : Nat := 0) (ifs : Array Nat := #[]) (fds : Array FieldInfo := #[]) : ClassFile where
  minorVersion := 0
  majorVersion := 65
  constantPool := pool
  accessFlags := fl
  thisClass := this
  superClass := sup
  interfaces := ifs
  fields := fds
  methods := ms
  attributes := attrs
def plain (name : String) (sup : Option ClassId) : Class where
  name := name
  kind := .ordinary
  loader := none
  accessFlags := 33
  super := sup
  interfaces := #[]
  cf := none
  fields := #[]
  methods := #[]
  instanceTypes := #[]
  staticTypes := #[]
  resolved := #[]
  callSites := []
  init := .initialized
  statics := none
  mirror := none

def pool0 : Array CpInfo := pool [(5, u "<init>"), (0, u "()V"), (1, .class_ 10), (1, u "java/lang/Object")] 113

def k0c0 : Code := { maxStack := 0, maxLocals := 1, code := object_method_1_code, exceptionTable := #[], attributes := #[] }
def k0m0 : Method := { name := "<init>", desc := "()V", sig := { parameters := [], returnType := none }, accessFlags := 1, code := some k0c0 }
/-- java/lang/Object -/
def k0 : Class := { plain "java/lang/Object" none with
  accessFlags := 33
  interfaces := #[]
  cf := some (fileOf pool0 8 #[] #[{ accessFlags := 1, nameIndex := 5, descriptorIndex := 6, attributes := #[] }] 33 0 #[] #[])
  fields := #[]
  methods := #[k0m0]
  instanceTypes := #[]
  staticTypes := #[]
  resolved := Array.replicate 124 none
  statics := none }

def pool1 : Array CpInfo := pool [(2, .class_ 4), (1, u "java/lang/Object"), (0, u "<init>"), (0, u "()V"), (0, .double 4620693217682128896), (1, .class_ 10), (0, u "com/example/vaxwire/vaxwire/records/Match"), (0, .methodref 9 12), (0, .nameAndType 5 13), (0, u "(DZZ)V"), (0, .methodref 9 15), (0, .nameAndType 16 17), (0, u "isPossible"), (0, u "()Z"), (0, .class_ 19), (0, u "com/example/vaxwire/vaxwire/records/MatchIsPossiblePinLaw"), (2, u "law"), (0, u "(II)Z")] 3

def k1m0 : Method := { name := "<init>", desc := "()V", sig := { parameters := [], returnType := none }, accessFlags := 2, code := none }
def k1c1 : Code := { maxStack := 6, maxLocals := 8, code := code, exceptionTable := #[], attributes := #[] }
def k1m1 : Method := { name := "law", desc := "(II)Z", sig := { parameters := [.int, .int], returnType := some .boolean }, accessFlags := 9, code := some k1c1 }
/-- com/example/vaxwire/vaxwire/records/MatchIsPossiblePinLaw -/
def k1 : Class := { plain "com/example/vaxwire/vaxwire/records/MatchIsPossiblePinLaw" (some 0) with
  accessFlags := 49
  interfaces := #[]
  cf := some (fileOf pool1 18 #[] #[{ accessFlags := 2, nameIndex := 5, descriptorIndex := 6, attributes := #[] }, { accessFlags := 9, nameIndex := 22, descriptorIndex := 23, attributes := #[] }] 49 2 #[] #[])
  fields := #[]
  methods := #[k1m0, k1m1]
  instanceTypes := #[]
  staticTypes := #[]
  resolved := Array.replicate 27 none
  statics := none }

def pool2 : Array CpInfo := pool [(1, .methodref 2 3), (0, .class_ 4), (0, .nameAndType 5 6), (0, u "java/lang/Object"), (0, u "<init>"), (0, u "()V"), (0, .class_ 8), (0, u "java/lang/Record")] 13

def k2c0 : Code := { maxStack := 1, maxLocals := 1, code := jdk_30_method_1_code, exceptionTable := #[], attributes := #[] }
def k2m0 : Method := { name := "<init>", desc := "()V", sig := { parameters := [], returnType := none }, accessFlags := 4, code := some k2c0 }
/-- java/lang/Record -/
def k2 : Class := { plain "java/lang/Record" (some 0) with
  accessFlags := 1057
  interfaces := #[]
  cf := some (fileOf pool2 7 #[] #[{ accessFlags := 4, nameIndex := 5, descriptorIndex := 6, attributes := #[] }] 1057 2 #[] #[])
  fields := #[]
  methods := #[k2m0]
  instanceTypes := #[]
  staticTypes := #[]
  resolved := Array.replicate 22 none
  statics := none }

def pool3 : Array CpInfo := pool [(1, .methodref 2 3), (0, .class_ 4), (0, .nameAndType 5 6), (0, u "java/lang/Record"), (0, u "<init>"), (0, u "()V"), (0, .fieldref 8 9), (0, .class_ 10), (0, .nameAndType 11 12), (0, u "com/example/vaxwire/vaxwire/records/Match"), (0, u "weight"), (0, u "D"), (0, .fieldref 8 14), (0, .nameAndType 15 16), (0, u "sure"), (0, u "Z"), (0, .fieldref 8 18), (0, .nameAndType 19 16), (0, u "joins"), (11, .class_ 33), (1, u "com/example/vaxwire/vaxwire/records/Match$Agreement"), (4, u "NONE"), (0, u "Lcom/example/vaxwire/vaxwire/records/Match;"), (11, u "FAMILY_NAME"), (0, u "Lcom/example/vaxwire/vaxwire/records/Match$Weights;"), (1, .class_ 56), (1, u "com/example/vaxwire/vaxwire/records/Match$Weights"), (4, u "GIVEN_NAME"), (14, u "BIRTH_DATE"), (2, u "SEX"), (2, u "MAIDEN_NAME"), (5, u "STREET"), (5, u "LOCALITY"), (6, u "PHONE"), (19, u "(DZZ)V"), (22, .double 4622945017495814144), (3, u "ALIKE"), (5, u "()Z"), (93, u "POSSIBLE"), (1, u "SURE"), (0, u "JOINS"), (0, u "SWAPPED_NAMES"), (2, u "DATE_LENGTH"), (0, u "I"), (1, u "ZIP_AREA_LENGTH"), (9, u "isPossible")] 48

def k3c0 : Code := { maxStack := 3, maxLocals := 5, code := prog_96_method_1_code, exceptionTable := #[], attributes := #[] }
def k3m0 : Method := { name := "<init>", desc := "(DZZ)V", sig := { parameters := [.double, .boolean, .boolean], returnType := none }, accessFlags := 1, code := some k3c0 }
def k3c1 : Code := { maxStack := 4, maxLocals := 1, code := prog_96_method_4_code, exceptionTable := #[], attributes := #[] }
def k3m1 : Method := { name := "isPossible", desc := "()Z", sig := { parameters := [], returnType := some .boolean }, accessFlags := 1, code := some k3c1 }
/-- com/example/vaxwire/vaxwire/records/Match -/
def k3 : Class := { plain "com/example/vaxwire/vaxwire/records/Match" (some 2) with
  accessFlags := 49
  interfaces := #[]
  cf := some (fileOf pool3 8 #[.nestMembers #[54, 31]] #[{ accessFlags := 1, nameIndex := 5, descriptorIndex := 121, attributes := #[] }, { accessFlags := 1, nameIndex := 268, descriptorIndex := 154, attributes := #[] }] 49 2 #[] #[{ accessFlags := 18, nameIndex := 11, descriptorIndex := 12, attributes := #[] }, { accessFlags := 18, nameIndex := 15, descriptorIndex := 16, attributes := #[] }, { accessFlags := 18, nameIndex := 19, descriptorIndex := 16, attributes := #[] }, { accessFlags := 26, nameIndex := 248, descriptorIndex := 12, attributes := #[] }, { accessFlags := 26, nameIndex := 250, descriptorIndex := 12, attributes := #[] }, { accessFlags := 26, nameIndex := 251, descriptorIndex := 12, attributes := #[] }, { accessFlags := 26, nameIndex := 38, descriptorIndex := 39, attributes := #[] }, { accessFlags := 26, nameIndex := 148, descriptorIndex := 12, attributes := #[] }, { accessFlags := 26, nameIndex := 252, descriptorIndex := 12, attributes := #[] }, { accessFlags := 26, nameIndex := 255, descriptorIndex := 256, attributes := #[] }, { accessFlags := 26, nameIndex := 258, descriptorIndex := 256, attributes := #[] }, { accessFlags := 26, nameIndex := 51, descriptorIndex := 52, attributes := #[] }, { accessFlags := 26, nameIndex := 61, descriptorIndex := 52, attributes := #[] }, { accessFlags := 26, nameIndex := 76, descriptorIndex := 52, attributes := #[] }, { accessFlags := 26, nameIndex := 82, descriptorIndex := 52, attributes := #[] }, { accessFlags := 26, nameIndex := 88, descriptorIndex := 52, attributes := #[] }, { accessFlags := 26, nameIndex := 94, descriptorIndex := 52, attributes := #[] }, { accessFlags := 26, nameIndex := 101, descriptorIndex := 52, attributes := #[] }, { accessFlags := 26, nameIndex := 79, descriptorIndex := 52, attributes := #[] }])
  fields := #[{ name := "weight", type := .double, accessFlags := 18, slot := 0, constantValue := 0 }, { name := "sure", type := .boolean, accessFlags := 18, slot := 1, constantValue := 0 }, { name := "joins", type := .boolean, accessFlags := 18, slot := 2, constantValue := 0 }, { name := "POSSIBLE", type := .double, accessFlags := 26, slot := 0, constantValue := 0 }, { name := "SURE", type := .double, accessFlags := 26, slot := 1, constantValue := 0 }, { name := "JOINS", type := .double, accessFlags := 26, slot := 2, constantValue := 0 }, { name := "NONE", type := (.object "com/example/vaxwire/vaxwire/records/Match"), accessFlags := 26, slot := 3, constantValue := 0 }, { name := "ALIKE", type := .double, accessFlags := 26, slot := 4, constantValue := 0 }, { name := "SWAPPED_NAMES", type := .double, accessFlags := 26, slot := 5, constantValue := 0 }, { name := "DATE_LENGTH", type := .int, accessFlags := 26, slot := 6, constantValue := 0 }, { name := "ZIP_AREA_LENGTH", type := .int, accessFlags := 26, slot := 7, constantValue := 0 }, { name := "FAMILY_NAME", type := (.object "com/example/vaxwire/vaxwire/records/Match$Weights"), accessFlags := 26, slot := 8, constantValue := 0 }, { name := "GIVEN_NAME", type := (.object "com/example/vaxwire/vaxwire/records/Match$Weights"), accessFlags := 26, slot := 9, constantValue := 0 }, { name := "BIRTH_DATE", type := (.object "com/example/vaxwire/vaxwire/records/Match$Weights"), accessFlags := 26, slot := 10, constantValue := 0 }, { name := "MAIDEN_NAME", type := (.object "com/example/vaxwire/vaxwire/records/Match$Weights"), accessFlags := 26, slot := 11, constantValue := 0 }, { name := "STREET", type := (.object "com/example/vaxwire/vaxwire/records/Match$Weights"), accessFlags := 26, slot := 12, constantValue := 0 }, { name := "LOCALITY", type := (.object "com/example/vaxwire/vaxwire/records/Match$Weights"), accessFlags := 26, slot := 13, constantValue := 0 }, { name := "PHONE", type := (.object "com/example/vaxwire/vaxwire/records/Match$Weights"), accessFlags := 26, slot := 14, constantValue := 0 }, { name := "SEX", type := (.object "com/example/vaxwire/vaxwire/records/Match$Weights"), accessFlags := 26, slot := 15, constantValue := 0 }]
  methods := #[k3m0, k3m1]
  instanceTypes := #[.double, .boolean, .boolean]
  staticTypes := #[.double, .double, .double, (.object "com/example/vaxwire/vaxwire/records/Match"), .double, .double, .int, .int, (.object "com/example/vaxwire/vaxwire/records/Match$Weights"), (.object "com/example/vaxwire/vaxwire/records/Match$Weights"), (.object "com/example/vaxwire/vaxwire/records/Match$Weights"), (.object "com/example/vaxwire/vaxwire/records/Match$Weights"), (.object "com/example/vaxwire/vaxwire/records/Match$Weights"), (.object "com/example/vaxwire/vaxwire/records/Match$Weights"), (.object "com/example/vaxwire/vaxwire/records/Match$Weights"), (.object "com/example/vaxwire/vaxwire/records/Match$Weights")]
  resolved := Array.replicate 317 none
  statics := none }

def pool4 : Array CpInfo := pool [(1, u "java/lang/Cloneable"), (0, .class_ 1), (0, u "java/lang/Object"), (0, .class_ 3)] 3

/-- java/lang/Cloneable -/
def k4 : Class := { plain "java/lang/Cloneable" (some 0) with
  accessFlags := 1537
  interfaces := #[]
  cf := some (fileOf pool4 2 #[] #[] 1537 4 #[] #[])
  fields := #[]
  methods := #[]
  instanceTypes := #[]
  staticTypes := #[]
  resolved := Array.replicate 8 none
  statics := none }

def pool5 : Array CpInfo := pool [(1, u "java/io/Serializable"), (0, .class_ 1), (0, u "java/lang/Object"), (0, .class_ 3)] 3

/-- java/io/Serializable -/
def k5 : Class := { plain "java/io/Serializable" (some 0) with
  accessFlags := 1537
  interfaces := #[]
  cf := some (fileOf pool5 2 #[] #[] 1537 4 #[] #[])
  fields := #[]
  methods := #[]
  instanceTypes := #[]
  staticTypes := #[]
  resolved := Array.replicate 8 none
  statics := none }

/-- the primitive byte -/
def k6 : Class := { plain "byte" none with kind := .primitive 'B', accessFlags := 0x411 }
/-- [B -/
def k7 : Class := { plain "[B" (some 0) with kind := .array 6 .byte, interfaces := #[4, 5], accessFlags := 1041 }

/-- the primitive int -/
def k8 : Class := { plain "int" none with kind := .primitive 'I', accessFlags := 0x411 }
/-- [I -/
def k9 : Class := { plain "[I" (some 0) with kind := .array 8 .int, interfaces := #[4, 5], accessFlags := 1041 }

def heap : Heap := #[]
def classes : Array Class := #[k0, k1, k2, k3, k4, k5, k6, k7, k8, k9]
def interned : List (Array UInt16 × Addr) := []
def slotsUsed : Nat := 0
def theMethod : MethodId := ⟨1, 1⟩
def args0 : Array Value := #[.int 5, .int 3]
def aboutOver (below : List Frame) : State where
  vm := { classes := classes, interned := interned.toArray }
  heap := heap
  slotsUsed := slotsUsed
  threads := #[{ frames := .invoking theMethod args0 :: below }]
def below0 : List Frame := [.native { method := ⟨0, 0⟩, args := #[] }]
def about1 : State := aboutOver below0
def p0 : Program := .bare "" "" ""
def e0 : Env := launch0.env 0 0 0
theorem w_frames : about1.frames = Frame.invoking theMethod args0 :: below0 := rfl
set_option maxRecDepth 65536 in
theorem w_args : argsFit about1.vm theMethod args0 = true := by decide +kernel
set_option maxRecDepth 65536 in
theorem w_heap : heapFits about1 = true := by decide +kernel
set_option maxRecDepth 65536 in
theorem w_runnable : about1.curStatus? = some .runnable := by decide +kernel
set_option maxRecDepth 65536 in
theorem w_alone : about1.alone = true := by decide +kernel
set_option maxRecDepth 65536 in
theorem w_named : about1.methodNamed? x = some theMethod := by decide +kernel
set_option maxRecDepth 65536 in
theorem w_hears : about1.hears theMethod below0 = true := by decide +kernel
set_option maxRecDepth 65536 in
theorem w_ripe : about1.ripe theMethod args0 below0 = true := by decide +kernel
theorem w_running : about1.status = .running := rfl
set_option maxRecDepth 65536 in
theorem w_room : about1.hasRoom e0.platform room_1 = true :=
  launch0.hasRoom_least _ room_1 (by decide +kernel) (by decide +kernel) (by decide +kernel) (by decide +kernel) (by decide +kernel) (by decide +kernel)
theorem allAtoms_all (ts : List Jvm.Cond) (a : Array Jvm.Value) (st : Jvm.State) : (allAtoms ts).before a st = ts.all (fun c => c.before a st) := by
  induction ts with
  | nil => rfl
  | cons c t ih =>
    show (Jvm.Cond.and c (allAtoms t)).before a st = _
    rw [Jvm.Cond.before_and, ih, List.all_cons]
def words1 : List Jvm.Cond := Jvm.Cond.code x code maxLocals ret :: tables_1
/-- a 'code' word, met by the world's own term for the bytes: nothing is compared byte by byte -/
theorem code_word {y : MethodName} {bytes : ByteArray} {mx : Nat} {rt : Option FieldType} {a : Array Value} {s : State} {m : MethodId} {meth : Method} {c : Code} (h1 : s.methodNamed? y = some m) (h2 : s.vm.method? m = some meth) (h3 : meth.code = some c) (h4 : c.code = bytes)
    (h5 : (c.maxLocals == mx && c.exceptionTable.isEmpty && decide (c.maxStack ≤ mostOperands) && decide (meth.sig.returnType = rt) && !meth.locks && decide (parseMethodDescriptor y.desc = some meth.sig)) = true) : (Jvm.Cond.code y bytes mx rt).before a s = true := by
  simp only [Bool.and_eq_true, beq_iff_eq, Bool.not_eq_true', decide_eq_true_eq] at h5
  obtain ⟨⟨⟨⟨⟨g1, g2⟩, g3⟩, g4⟩, g5⟩, g6⟩ := h5
  simp [Cond.before, Cond.holds, Cond.value, h1, h2, h3, h4, g1, g2, g3, g4, g5, g6]
def isCode : Jvm.Cond → Bool
  | .code _ _ _ _ => true
  | _ => false
theorem all_split {L : List Jvm.Cond} {P : Jvm.Cond → Bool} (h1 : L.all (fun c => isCode c || P c) = true) (h2 : ∀ c ∈ L.filter isCode, P c = true) : L.all P = true := by
  refine List.all_eq_true.mpr fun c hc => ?_
  have h := List.all_eq_true.mp h1 c hc
  rcases Bool.eq_false_or_eq_true (isCode c) with hi | hi
  · exact h2 c (List.mem_filter.mpr ⟨hc, hi⟩)
  · simpa [hi] using h
set_option maxRecDepth 65536 in
theorem w_c0 : (Jvm.Cond.code x code maxLocals ret).before args0 about1 = true := code_word (m := ⟨1, 1⟩) (meth := k1m1) (c := k1c1) (by decide +kernel) rfl rfl rfl (by decide +kernel)
set_option maxRecDepth 65536 in
theorem w_c1 : (Jvm.Cond.code ({ cls := "com/example/vaxwire/vaxwire/records/Match", name := "<init>", desc := "(DZZ)V" } : Jvm.MethodName) prog_96_method_1_code (5 : Nat) (Option.none : Option Jvm.ClassFile.FieldType)).before args0 about1 = true := code_word (m := ⟨3, 0⟩) (meth := k3m0) (c := k3c0) (by decide +kernel) rfl rfl rfl (by decide +kernel)
set_option maxRecDepth 65536 in
theorem w_c2 : (Jvm.Cond.code ({ cls := "java/lang/Record", name := "<init>", desc := "()V" } : Jvm.MethodName) jdk_30_method_1_code (1 : Nat) (Option.none : Option Jvm.ClassFile.FieldType)).before args0 about1 = true := code_word (m := ⟨2, 0⟩) (meth := k2m0) (c := k2c0) (by decide +kernel) rfl rfl rfl (by decide +kernel)
set_option maxRecDepth 65536 in
theorem w_c3 : (Jvm.Cond.code ({ cls := "java/lang/Object", name := "<init>", desc := "()V" } : Jvm.MethodName) object_method_1_code (1 : Nat) (Option.none : Option Jvm.ClassFile.FieldType)).before args0 about1 = true := code_word (m := ⟨0, 0⟩) (meth := k0m0) (c := k0c0) (by decide +kernel) rfl rfl rfl (by decide +kernel)
set_option maxRecDepth 65536 in
theorem w_c4 : (Jvm.Cond.code ({ cls := "com/example/vaxwire/vaxwire/records/Match", name := "isPossible", desc := "()Z" } : Jvm.MethodName) prog_96_method_4_code (1 : Nat) (Option.some Jvm.ClassFile.FieldType.boolean)).before args0 about1 = true := code_word (m := ⟨3, 1⟩) (meth := k3m1) (c := k3c1) (by decide +kernel) rfl rfl rfl (by decide +kernel)
def codes1 : List Jvm.Cond := [Jvm.Cond.code x code maxLocals ret, Jvm.Cond.code ({ cls := "com/example/vaxwire/vaxwire/records/Match", name := "<init>", desc := "(DZZ)V" } : Jvm.MethodName) prog_96_method_1_code (5 : Nat) (Option.none : Option Jvm.ClassFile.FieldType), Jvm.Cond.code ({ cls := "java/lang/Record", name := "<init>", desc := "()V" } : Jvm.MethodName) jdk_30_method_1_code (1 : Nat) (Option.none : Option Jvm.ClassFile.FieldType), Jvm.Cond.code ({ cls := "java/lang/Object", name := "<init>", desc := "()V" } : Jvm.MethodName) object_method_1_code (1 : Nat) (Option.none : Option Jvm.ClassFile.FieldType), Jvm.Cond.code ({ cls := "com/example/vaxwire/vaxwire/records/Match", name := "isPossible", desc := "()Z" } : Jvm.MethodName) prog_96_method_4_code (1 : Nat) (Option.some Jvm.ClassFile.FieldType.boolean)]
set_option maxRecDepth 65536 in
theorem codes_eq : words1.filter isCode = codes1 := rfl
theorem w_codes : ∀ c ∈ words1.filter isCode, c.before args0 about1 = true := by
  rw [codes_eq]
  intro c hc
  simp only [codes1, List.mem_cons, List.not_mem_nil, or_false] at hc
  rcases hc with rfl | rfl | rfl | rfl | rfl
  · exact w_c0
  · exact w_c1
  · exact w_c2
  · exact w_c3
  · exact w_c4
set_option maxRecDepth 65536 in
theorem w_t1 : (words1.take 24).all (fun c => isCode c || c.before args0 about1) = true := by decide +kernel
set_option maxRecDepth 65536 in
theorem w_t2 : (words1.drop 24).all (fun c => isCode c || c.before args0 about1) = true := by decide +kernel
theorem w_tables : (allAtoms (Jvm.Cond.code x code maxLocals ret :: tables_1)).before args0 about1 = true := by
  rw [allAtoms_all]
  show words1.all (fun c => c.before args0 about1) = true
  refine all_split ?_ w_codes
  rw [← List.take_append_drop 24 words1, List.all_append, w_t1, w_t2]
  rfl
set_option maxRecDepth 65536 in
theorem w_case : (Jvm.Cond.and given_1 narrow_1).before args0 about1 = true := by decide +kernel
theorem w_applies : (headSpec (Jvm.Cond.code x code maxLocals ret :: tables_1) room_1).applies x e0.platform about1 = true :=
  (Spec.applies_iff w_frames).mpr ⟨w_running, w_runnable, w_alone, w_named, w_hears, w_ripe, w_room, w_tables⟩
theorem atStart : AtStart classFile x code maxLocals ret World_1 tables_1 room_1 Calls_1 rest_1 Pre_1 launch0 p0 e0 about1 theMethod args0 below0 :=
  ⟨lists_1, trivial, launch0.admits_env _ _ _, launch0.least_env, fairChoices_fair.cas, fairChoices_fair.clock, w_frames, w_args, w_heap, w_applies, trivial, trivial, w_case⟩
end start1
theorem witness_1 : WitnessClaimed_1 := ⟨start1.p0, start1.e0, start1.about1, start1.theMethod, start1.args0, start1.below0, start1.atStart⟩
end Jvm.Pilot.@@N@@
