import JvmDerived
import JvmDerived.Pilot.@@N@@Statement
import JvmDerived.Pilot.@@N@@Code
set_option linter.unusedVariables false
set_option linter.unusedSimpArgs false
namespace Jvm.RoadKit
open Sem ClassFile Op Lib Jvm.Stand Jvm.Free Jvm.LawKit
section Own
variable {p : Program} {l : Launch} {e : Env} {R : Room} {s : State} {m : MethodId} {args : Array Value} {below : List Frame} {meth : Method} {c : Code} {T T1 : State} {locs : List Loc} {cells slots cs ss : Nat} {Q : Option Value → Heap → List Loc → Prop} {g g1 : JFrame}
/-- from the frame g over T the body comes to its end, and what it leaves is as Q says -/
def own_Goes (p : Program) (e : Env) (below : List Frame) (s : State) (Q : Option Value → Heap → List Loc → Prop) (cs ss : Nat) (T : State) (g : JFrame) : Prop :=
  ∃ s₂ o, Steps p.tables e below (T.setTop g) s₂ ∧ s₂.status = .running ∧ Ended s₂ below o ∧ ∃ v L, o = .returned v ∧ Q v s₂.heap L ∧ FrameEnd s o s₂ L cs ss
theorem own_go (st : ∀ target, Steps p.tables e below (T1.setTop g1) target → Steps p.tables e below (T.setTop g) target) (k : own_Goes p e below s Q cs ss T1 g1) : own_Goes p e below s Q cs ss T g := by
  obtain ⟨s₂, o, h, r⟩ := k
  exact ⟨s₂, o, st _ h, r⟩
theorem own_goS (st : Steps p.tables e below (T.setTop g) (T1.setTop g1)) (k : own_Goes p e below s Q cs ss T1 g1) : own_Goes p e below s Q cs ss T g := own_go (fun _ h => st.trans h) k
/-- the ends -/
theorem own_retN (X : Stand p l e R s m args below meth c T locs cells slots) (hx : p.tables.exec = Jvm.exec) {pc : Nat} {Ls : Array Slot} {z : Int32} {t : FieldType} {rest : List Value} (hlk : meth.locks = false) (hret : meth.sig.returnType = some t) (ht : t = .boolean ∨ t = .byte ∨ t = .char ∨ t = .short)
    (hd : decode c.code pc = .ok (.ireturn, 1)) (hc : cells ≤ cs) (hs : slots ≤ ss) (hQ : Q (some (.int (nar t z))) T.heap locs) : own_Goes p e below s Q cs ss T (mkF m pc Ls (.int z :: rest)) := by
  obtain ⟨fs, hr, hrun, hended, hW, hsame⟩ := X.leave (v := some (.int (nar t z))) (fun h => by rw [hret] at h; cases h) hlk
  exact ⟨_, _, retN X hx hret ht hd hr, hrun, hended, _, _, rfl, hQ, ⟨_, rfl⟩, hW, hsame.mono hc hs⟩
theorem own_ret (X : Stand p l e R s m args below meth c T locs cells slots) (hx : p.tables.exec = Jvm.exec) {pc : Nat} {Ls : Array Slot} {w : Value} {t : FieldType} {i : Instr} {rest : List Value} (hlk : meth.locks = false) (hret : meth.sig.returnType = some t) (hn : narrow t w = w)
    (hi : (i = .ireturn ∧ (t = .int ∨ t = .boolean ∨ t = .byte ∨ t = .char ∨ t = .short) ∧ ∃ z, w = .int z) ∨ (i = .lreturn ∧ t = .long ∧ ∃ z, w = .long z) ∨ (i = .dreturn ∧ t = .double ∧ ∃ z, w = .double z) ∨ (i = .freturn ∧ t = .float ∧ ∃ z, w = .float z) ∨ (i = .areturn ∧ t.isReference = true ∧ w.isRef = true))
    (hd : decode c.code pc = .ok (i, 1)) (hc : cells ≤ cs) (hs : slots ≤ ss) (hQ : Q (some w) T.heap locs) : own_Goes p e below s Q cs ss T (mkF m pc Ls (w :: rest)) := by
  obtain ⟨fs, hr, hrun, hended, hW, hsame⟩ := X.leave (v := some w) (fun h => by rw [hret] at h; cases h) hlk
  exact ⟨_, _, retOut X hx hret hn hi hd hr, hrun, hended, _, _, rfl, hQ, ⟨_, rfl⟩, hW, hsame.mono hc hs⟩
theorem own_retI (X : Stand p l e R s m args below meth c T locs cells slots) (hx : p.tables.exec = Jvm.exec) {pc : Nat} {Ls : Array Slot} {z : Int32} {rest : List Value} (hlk : meth.locks = false) (hret : meth.sig.returnType = some .int)
    (hd : decode c.code pc = .ok (.ireturn, 1)) (hc : cells ≤ cs) (hs : slots ≤ ss) (hQ : Q (some (.int z)) T.heap locs) : own_Goes p e below s Q cs ss T (mkF m pc Ls (.int z :: rest)) :=
  own_ret X hx hlk hret rfl (Or.inl ⟨rfl, Or.inl rfl, _, rfl⟩) hd hc hs hQ
theorem own_retA (X : Stand p l e R s m args below meth c T locs cells slots) (hx : p.tables.exec = Jvm.exec) {pc : Nat} {Ls : Array Slot} {w : Value} {t : FieldType} {rest : List Value} (hlk : meth.locks = false) (hret : meth.sig.returnType = some t) (ht : t.isReference = true) (hw : w.isRef = true)
    (hd : decode c.code pc = .ok (.areturn, 1)) (hc : cells ≤ cs) (hs : slots ≤ ss) (hQ : Q (some w) T.heap locs) : own_Goes p e below s Q cs ss T (mkF m pc Ls (w :: rest)) :=
  own_ret X hx hlk hret (by rcases ref_cases hw with rfl | ⟨a, rfl⟩ <;> cases t <;> simp [FieldType.isReference] at ht <;> rfl) (Or.inr (Or.inr (Or.inr (Or.inr ⟨rfl, ht, hw⟩)))) hd hc hs hQ
theorem own_retV (X : Stand p l e R s m args below meth c T locs cells slots) (hx : p.tables.exec = Jvm.exec) {pc : Nat} {Ls : Array Slot} (hlk : meth.locks = false) (hret : meth.sig.returnType = none)
    (hd : decode c.code pc = .ok (.return_, 1)) (hc : cells ≤ cs) (hs : slots ≤ ss) (hQ : Q none T.heap locs) : own_Goes p e below s Q cs ss T (mkF m pc Ls []) := by
  obtain ⟨fs, hr, hrun, hended, hW, hsame⟩ := X.leave (v := none) (fun _ => rfl) hlk
  exact ⟨_, _, X.returnOut hx hret hd hr, hrun, hended, _, _, rfl, hQ, ⟨_, rfl⟩, hW, hsame.mono hc hs⟩
/-- what holds throughout a body's walk -/
def own_Ctx (Z : State) (y : MethodName) (own : String) (bytes : ByteArray) (maxL : Nat) (ret : Option FieldType) (p : Program) (s : State) (m : MethodId) (meth : Method) (c : Code) : Prop :=
  p.tables.exec = Jvm.exec ∧ c.code = bytes ∧ c.maxLocals = maxL ∧ s.vm.findClass own = some m.cls ∧ meth.name = y.name ∧ meth.sig.returnType = ret ∧ meth.locks = false ∧ Z.Warmed39 s.vm
theorem own_met {Z : State} {y : MethodName} {own : String} {bytes : ByteArray} {maxL : Nat} {ret : Option FieldType} {ws : List Cond} {rm : Room} {as' : Array Value} {h0 : Heap} (hy : y.cls = own) (hpn : plainName own = true)
    (body : ∀ (p : Program) (e : Env) (s : State) (m : MethodId) (below : List Frame) (meth : Method) (c : Code) (s₁ : State), own_Ctx Z y own bytes maxL ret p s m meth c → s₁.heap = h0 → Stand p l e rm s m as' below meth c s₁ [] 0 0 → own_Goes p e below s Q cs ss s₁ (entryFrame m as' maxL)) :
    MetFree l y (head1 (Cond.code y bytes maxL ret :: ws) rm) (fun a U => a = as' ∧ Z.Warmed39 U.vm ∧ U.heap = h0) (fun _ _ _ _ _ => True) (fun _ U o U' => ∃ v L, o = .returned v ∧ Q v U'.heap L ∧ FrameEnd U o U' L cs ss) := by
  subst hy
  refine MetFree.of_bodySF (plainFor_of_name hpn) hisR ?_
  intro p e s m args below meth c s₁ Bd hml0 hP hK
  obtain ⟨rfl, hZ, hh⟩ := hP
  exact body p e s m below meth c s₁ ⟨Bd.exec, Bd.bytes, hml0, findClass_of_methodNamed Bd.named, (name_of_methodNamed Bd.named Bd.method).1, Bd.returns, Bd.notSynchronized, hZ⟩ (by rw [← hh, Bd.state]; rfl) (Stand.of_body Bd)
end Own
end Jvm.RoadKit
namespace Jvm.Pilot.@@N@@
open Jvm Jvm.ClassFile Sem Op Lib Jvm.Free Jvm.Stand Jvm.LawKit Jvm.RoadKit Bundle Jvm.Pilot.@@N@@.Jvm.D
/-- the object at a: up to u, moves v; its two tables are arrays of 2048 places; all of it lies at n0 or above -/
def own_K (Z : State) (h : Heap) (n0 : Nat) (a : Addr) (u v : Int64) : Prop := Exa Z h a "com/example/vaxwire/vaxwire/store/OwnKeyChanges" ∧ Fld Z h a "com/example/vaxwire/vaxwire/store/OwnKeyChanges" "upTo" "J" (.long u) ∧ Fld Z h a "com/example/vaxwire/vaxwire/store/OwnKeyChanges" "moves" "J" (.long v) ∧ n0 ≤ a ∧
  ∃ (q : Int32) (al ak : Addr) (cl ck : Cell), Fld Z h a "com/example/vaxwire/vaxwire/store/OwnKeyChanges" "count" "I" (.int q) ∧ Fld Z h a "com/example/vaxwire/vaxwire/store/OwnKeyChanges" "last" "[I" (.ref al) ∧ Fld Z h a "com/example/vaxwire/vaxwire/store/OwnKeyChanges" "takesOut" "[Z" (.ref ak) ∧ Arr Z h al cl .int ∧ cl.slots.size = 2048 ∧ Arr Z h ak ck .boolean ∧ ck.slots.size = 2048 ∧ n0 ≤ al ∧ n0 ≤ ak ∧ a ≠ al ∧ a ≠ ak ∧ al ≠ ak
theorem own_selP {s : State} {args : Array Value} {y : MethodName} {C : String} {n : Nat} (hy0 : y.cls = C) (wi : (Jvm.Cond.instantiable C n).before args s = true) (hinst : (Jvm.Cond.instanceMethod y).before args s = true) (hp : s.PrivateAt y) (hy : y.cls ≠ "java/lang/invoke/MethodHandle" ∧ y.cls ≠ "java/lang/invoke/VarHandle") : (Jvm.Cond.selects C y y).before args s = true := by
  subst hy0
  obtain ⟨c, k, h1, h2, -, h4, -, -⟩ := Cond.instantiable_spec wi
  exact selects_self_of_private h1 h2 (Bool.or_eq_false_iff.mp h4).1 hp hinst hy
def own_c (u c : Int64) : Int64 := if u < 0 then u else c
def own_acc (u v x y : Int64) : Int32 := if u < 0 then 0 else if u = x then (if v = y then 1 else 0) else 0
theorem own_at {Z : State} {h : Heap} {n0 : Nat} {a : Addr} {u u' v : Int64} (e : u = u') (k : own_K Z h n0 a u v) : own_K Z h n0 a u' v := e ▸ k
theorem own_one (i : Nat) : Int32.ofNat i + (1 : Int32) = Int32.ofNat (i + 1) := (Int32.ofNat_add i 1).symm
theorem own_lt {i k : Nat} (h : i + (k + 1) = 2048) : Int32.ofNat i < (2048 : Int32) := by
  rw [Int32.lt_iff_toInt_lt, Int32.toInt_ofNat_of_lt (by omega)]
  show (i : Int) < 2048; omega
theorem own_nlt {i : Nat} (h : i + 0 = 2048) : ¬ Int32.ofNat i < (2048 : Int32) := by
  obtain rfl : i = 2048 := h
  decide
theorem own_in {i k n : Nat} (h : i + (k + 1) = 2048) (S : n = 2048) : ¬ (Int32.ofNat i < 0 ∨ n ≤ (Int32.ofNat i).toNatClampNeg) := by
  have q : (Int32.ofNat i).toInt = i := Int32.toInt_ofNat_of_lt (by omega)
  rw [Int32.lt_iff_toInt_lt, Int32.toNatClampNeg, q, show (0 : Int32).toInt = 0 from rfl]
  omega
theorem d1_0 : decode prog_159_method_1_code 0 = .ok (.aload_n 0, 1) := by decide +kernel
theorem d1_1 : decode prog_159_method_1_code 1 = .ok (.invokespecial 1, 3) := by decide +kernel
theorem d1_4 : decode prog_159_method_1_code 4 = .ok (.aload_n 0, 1) := by decide +kernel
theorem d1_5 : decode prog_159_method_1_code 5 = .ok (.ldc2_w 7, 3) := by decide +kernel
theorem d1_8 : decode prog_159_method_1_code 8 = .ok (.putfield 9, 3) := by decide +kernel
theorem d1_11 : decode prog_159_method_1_code 11 = .ok (.aload_n 0, 1) := by decide +kernel
theorem d1_12 : decode prog_159_method_1_code 12 = .ok (.ldc2_w 7, 3) := by decide +kernel
theorem d1_15 : decode prog_159_method_1_code 15 = .ok (.putfield 15, 3) := by decide +kernel
theorem d1_18 : decode prog_159_method_1_code 18 = .ok (.aload_n 0, 1) := by decide +kernel
theorem d1_19 : decode prog_159_method_1_code 19 = .ok (.sipush 1024, 3) := by decide +kernel
theorem d1_22 : decode prog_159_method_1_code 22 = .ok (.newarray .long, 2) := by decide +kernel
theorem d1_24 : decode prog_159_method_1_code 24 = .ok (.putfield 18, 3) := by decide +kernel
theorem d1_27 : decode prog_159_method_1_code 27 = .ok (.aload_n 0, 1) := by decide +kernel
theorem d1_28 : decode prog_159_method_1_code 28 = .ok (.sipush 1024, 3) := by decide +kernel
theorem d1_31 : decode prog_159_method_1_code 31 = .ok (.newarray .long, 2) := by decide +kernel
theorem d1_33 : decode prog_159_method_1_code 33 = .ok (.putfield 22, 3) := by decide +kernel
theorem d1_36 : decode prog_159_method_1_code 36 = .ok (.aload_n 0, 1) := by decide +kernel
theorem d1_37 : decode prog_159_method_1_code 37 = .ok (.sipush 1024, 3) := by decide +kernel
theorem d1_40 : decode prog_159_method_1_code 40 = .ok (.newarray .boolean, 2) := by decide +kernel
theorem d1_42 : decode prog_159_method_1_code 42 = .ok (.putfield 25, 3) := by decide +kernel
theorem d1_45 : decode prog_159_method_1_code 45 = .ok (.aload_n 0, 1) := by decide +kernel
theorem d1_46 : decode prog_159_method_1_code 46 = .ok (.sipush 1024, 3) := by decide +kernel
theorem d1_49 : decode prog_159_method_1_code 49 = .ok (.newarray .int, 2) := by decide +kernel
theorem d1_51 : decode prog_159_method_1_code 51 = .ok (.putfield 29, 3) := by decide +kernel
theorem d1_54 : decode prog_159_method_1_code 54 = .ok (.aload_n 0, 1) := by decide +kernel
theorem d1_55 : decode prog_159_method_1_code 55 = .ok (.sipush 2048, 3) := by decide +kernel
theorem d1_58 : decode prog_159_method_1_code 58 = .ok (.newarray .int, 2) := by decide +kernel
theorem d1_60 : decode prog_159_method_1_code 60 = .ok (.putfield 33, 3) := by decide +kernel
theorem d1_63 : decode prog_159_method_1_code 63 = .ok (.aload_n 0, 1) := by decide +kernel
theorem d1_64 : decode prog_159_method_1_code 64 = .ok (.sipush 2048, 3) := by decide +kernel
theorem d1_67 : decode prog_159_method_1_code 67 = .ok (.newarray .boolean, 2) := by decide +kernel
theorem d1_69 : decode prog_159_method_1_code 69 = .ok (.putfield 36, 3) := by decide +kernel
theorem d1_72 : decode prog_159_method_1_code 72 = .ok (.return_, 1) := by decide +kernel
theorem d3_0 : decode prog_159_method_2_code 0 = .ok (.aload_n 0, 1) := by decide +kernel
theorem d3_1 : decode prog_159_method_2_code 1 = .ok (.invokevirtual 39, 3) := by decide +kernel
theorem d3_4 : decode prog_159_method_2_code 4 = .ok (.aload_n 0, 1) := by decide +kernel
theorem d3_5 : decode prog_159_method_2_code 5 = .ok (.lload_n 1, 1) := by decide +kernel
theorem d3_6 : decode prog_159_method_2_code 6 = .ok (.putfield 9, 3) := by decide +kernel
theorem d3_9 : decode prog_159_method_2_code 9 = .ok (.aload_n 0, 1) := by decide +kernel
theorem d3_10 : decode prog_159_method_2_code 10 = .ok (.lload_n 3, 1) := by decide +kernel
theorem d3_11 : decode prog_159_method_2_code 11 = .ok (.putfield 15, 3) := by decide +kernel
theorem d3_14 : decode prog_159_method_2_code 14 = .ok (.return_, 1) := by decide +kernel
theorem d4_0 : decode prog_159_method_12_code 0 = .ok (.aload_n 0, 1) := by decide +kernel
theorem d4_1 : decode prog_159_method_12_code 1 = .ok (.getfield 33, 3) := by decide +kernel
theorem d4_4 : decode prog_159_method_12_code 4 = .ok (.iconst 0, 1) := by decide +kernel
theorem d4_5 : decode prog_159_method_12_code 5 = .ok (.invokestatic 72, 3) := by decide +kernel
theorem d4_8 : decode prog_159_method_12_code 8 = .ok (.aload_n 0, 1) := by decide +kernel
theorem d4_9 : decode prog_159_method_12_code 9 = .ok (.getfield 36, 3) := by decide +kernel
theorem d4_12 : decode prog_159_method_12_code 12 = .ok (.iconst 0, 1) := by decide +kernel
theorem d4_13 : decode prog_159_method_12_code 13 = .ok (.invokestatic 76, 3) := by decide +kernel
theorem d4_16 : decode prog_159_method_12_code 16 = .ok (.aload_n 0, 1) := by decide +kernel
theorem d4_17 : decode prog_159_method_12_code 17 = .ok (.iconst 0, 1) := by decide +kernel
theorem d4_18 : decode prog_159_method_12_code 18 = .ok (.putfield 42, 3) := by decide +kernel
theorem d4_21 : decode prog_159_method_12_code 21 = .ok (.return_, 1) := by decide +kernel
theorem d5_0 : decode jdk_65_method_103_code 0 = .ok (.iconst 0, 1) := by decide +kernel
theorem d5_1 : decode jdk_65_method_103_code 1 = .ok (.istore_n 2, 1) := by decide +kernel
theorem d5_2 : decode jdk_65_method_103_code 2 = .ok (.aload_n 0, 1) := by decide +kernel
theorem d5_3 : decode jdk_65_method_103_code 3 = .ok (.arraylength, 1) := by decide +kernel
theorem d5_4 : decode jdk_65_method_103_code 4 = .ok (.istore_n 3, 1) := by decide +kernel
theorem d5_5 : decode jdk_65_method_103_code 5 = .ok (.iload_n 2, 1) := by decide +kernel
theorem d5_6 : decode jdk_65_method_103_code 6 = .ok (.iload_n 3, 1) := by decide +kernel
theorem d5_7 : decode jdk_65_method_103_code 7 = .ok (.if_icmp .ge 13, 3) := by decide +kernel
theorem d5_10 : decode jdk_65_method_103_code 10 = .ok (.aload_n 0, 1) := by decide +kernel
theorem d5_11 : decode jdk_65_method_103_code 11 = .ok (.iload_n 2, 1) := by decide +kernel
theorem d5_12 : decode jdk_65_method_103_code 12 = .ok (.iload_n 1, 1) := by decide +kernel
theorem d5_13 : decode jdk_65_method_103_code 13 = .ok (.iastore, 1) := by decide +kernel
theorem d5_14 : decode jdk_65_method_103_code 14 = .ok (.iinc 2 1, 3) := by decide +kernel
theorem d5_17 : decode jdk_65_method_103_code 17 = .ok (.goto (-12), 3) := by decide +kernel
theorem d5_20 : decode jdk_65_method_103_code 20 = .ok (.return_, 1) := by decide +kernel
theorem d6_0 : decode jdk_65_method_111_code 0 = .ok (.iconst 0, 1) := by decide +kernel
theorem d6_1 : decode jdk_65_method_111_code 1 = .ok (.istore_n 2, 1) := by decide +kernel
theorem d6_2 : decode jdk_65_method_111_code 2 = .ok (.aload_n 0, 1) := by decide +kernel
theorem d6_3 : decode jdk_65_method_111_code 3 = .ok (.arraylength, 1) := by decide +kernel
theorem d6_4 : decode jdk_65_method_111_code 4 = .ok (.istore_n 3, 1) := by decide +kernel
theorem d6_5 : decode jdk_65_method_111_code 5 = .ok (.iload_n 2, 1) := by decide +kernel
theorem d6_6 : decode jdk_65_method_111_code 6 = .ok (.iload_n 3, 1) := by decide +kernel
theorem d6_7 : decode jdk_65_method_111_code 7 = .ok (.if_icmp .ge 13, 3) := by decide +kernel
theorem d6_10 : decode jdk_65_method_111_code 10 = .ok (.aload_n 0, 1) := by decide +kernel
theorem d6_11 : decode jdk_65_method_111_code 11 = .ok (.iload_n 2, 1) := by decide +kernel
theorem d6_12 : decode jdk_65_method_111_code 12 = .ok (.iload_n 1, 1) := by decide +kernel
theorem d6_13 : decode jdk_65_method_111_code 13 = .ok (.bastore, 1) := by decide +kernel
theorem d6_14 : decode jdk_65_method_111_code 14 = .ok (.iinc 2 1, 3) := by decide +kernel
theorem d6_17 : decode jdk_65_method_111_code 17 = .ok (.goto (-12), 3) := by decide +kernel
theorem d6_20 : decode jdk_65_method_111_code 20 = .ok (.return_, 1) := by decide +kernel
theorem d7_0 : decode prog_159_method_3_code 0 = .ok (.aload_n 0, 1) := by decide +kernel
theorem d7_1 : decode prog_159_method_3_code 1 = .ok (.invokevirtual 39, 3) := by decide +kernel
theorem d7_4 : decode prog_159_method_3_code 4 = .ok (.aload_n 0, 1) := by decide +kernel
theorem d7_5 : decode prog_159_method_3_code 5 = .ok (.ldc2_w 7, 3) := by decide +kernel
theorem d7_8 : decode prog_159_method_3_code 8 = .ok (.putfield 9, 3) := by decide +kernel
theorem d7_11 : decode prog_159_method_3_code 11 = .ok (.return_, 1) := by decide +kernel
theorem d8_0 : decode prog_159_method_4_code 0 = .ok (.aload_n 0, 1) := by decide +kernel
theorem d8_1 : decode prog_159_method_4_code 1 = .ok (.getfield 9, 3) := by decide +kernel
theorem d8_4 : decode prog_159_method_4_code 4 = .ok (.lconst 0, 1) := by decide +kernel
theorem d8_5 : decode prog_159_method_4_code 5 = .ok (.lcmp, 1) := by decide +kernel
theorem d8_6 : decode prog_159_method_4_code 6 = .ok (.ifCond .lt 25, 3) := by decide +kernel
theorem d8_9 : decode prog_159_method_4_code 9 = .ok (.aload_n 0, 1) := by decide +kernel
theorem d8_10 : decode prog_159_method_4_code 10 = .ok (.getfield 9, 3) := by decide +kernel
theorem d8_13 : decode prog_159_method_4_code 13 = .ok (.lload_n 1, 1) := by decide +kernel
theorem d8_14 : decode prog_159_method_4_code 14 = .ok (.lcmp, 1) := by decide +kernel
theorem d8_15 : decode prog_159_method_4_code 15 = .ok (.ifCond .ne 16, 3) := by decide +kernel
theorem d8_18 : decode prog_159_method_4_code 18 = .ok (.aload_n 0, 1) := by decide +kernel
theorem d8_19 : decode prog_159_method_4_code 19 = .ok (.getfield 15, 3) := by decide +kernel
theorem d8_22 : decode prog_159_method_4_code 22 = .ok (.lload_n 3, 1) := by decide +kernel
theorem d8_23 : decode prog_159_method_4_code 23 = .ok (.lcmp, 1) := by decide +kernel
theorem d8_24 : decode prog_159_method_4_code 24 = .ok (.ifCond .ne 7, 3) := by decide +kernel
theorem d8_27 : decode prog_159_method_4_code 27 = .ok (.iconst 1, 1) := by decide +kernel
theorem d8_28 : decode prog_159_method_4_code 28 = .ok (.goto 4, 3) := by decide +kernel
theorem d8_31 : decode prog_159_method_4_code 31 = .ok (.iconst 0, 1) := by decide +kernel
theorem d8_32 : decode prog_159_method_4_code 32 = .ok (.ireturn, 1) := by decide +kernel
theorem d9_0 : decode prog_159_method_6_code 0 = .ok (.aload_n 0, 1) := by decide +kernel
theorem d9_1 : decode prog_159_method_6_code 1 = .ok (.getfield 9, 3) := by decide +kernel
theorem d9_4 : decode prog_159_method_6_code 4 = .ok (.lconst 0, 1) := by decide +kernel
theorem d9_5 : decode prog_159_method_6_code 5 = .ok (.lcmp, 1) := by decide +kernel
theorem d9_6 : decode prog_159_method_6_code 6 = .ok (.ifCond .lt 8, 3) := by decide +kernel
theorem d9_9 : decode prog_159_method_6_code 9 = .ok (.aload_n 0, 1) := by decide +kernel
theorem d9_10 : decode prog_159_method_6_code 10 = .ok (.lload_n 1, 1) := by decide +kernel
theorem d9_11 : decode prog_159_method_6_code 11 = .ok (.putfield 9, 3) := by decide +kernel
theorem d9_14 : decode prog_159_method_6_code 14 = .ok (.return_, 1) := by decide +kernel
theorem pn_0 : plainName "com/example/vaxwire/vaxwire/store/OwnKeyChangesAccountsForPinLaw" = true := by first | (simp [plainName, overriddenIn]; done) | decide +kernel
theorem pn_1 : plainName "com/example/vaxwire/vaxwire/store/OwnKeyChanges" = true := by first | (simp [plainName, overriddenIn]; done) | decide +kernel
theorem pn_3 : plainName "com/example/vaxwire/vaxwire/store/OwnKeyChanges" = true := by first | (simp [plainName, overriddenIn]; done) | decide +kernel
theorem pn_4 : plainName "com/example/vaxwire/vaxwire/store/OwnKeyChanges" = true := by first | (simp [plainName, overriddenIn]; done) | decide +kernel
theorem pn_5 : plainName "java/util/Arrays" = true := by first | (simp [plainName, overriddenIn]; done) | decide +kernel
theorem pn_6 : plainName "java/util/Arrays" = true := by first | (simp [plainName, overriddenIn]; done) | decide +kernel
theorem pn_7 : plainName "com/example/vaxwire/vaxwire/store/OwnKeyChanges" = true := by first | (simp [plainName, overriddenIn]; done) | decide +kernel
theorem pn_8 : plainName "com/example/vaxwire/vaxwire/store/OwnKeyChanges" = true := by first | (simp [plainName, overriddenIn]; done) | decide +kernel
theorem pn_9 : plainName "com/example/vaxwire/vaxwire/store/OwnKeyChanges" = true := by first | (simp [plainName, overriddenIn]; done) | decide +kernel
theorem pd_0 : parseMethodDescriptor "([II)V" = some ⟨[(.array .int), .int], none⟩ := by decide +kernel
theorem pd_1 : parseMethodDescriptor "([ZZ)V" = some ⟨[(.array .boolean), .boolean], none⟩ := by decide +kernel
theorem pd_2 : parseMethodDescriptor "()V" = some ⟨[], none⟩ := by decide +kernel
theorem pd_3 : parseMethodDescriptor "(JJ)Z" = some ⟨[.long, .long], some .boolean⟩ := by decide +kernel
theorem pd_4 : parseMethodDescriptor "(JJ)V" = some ⟨[.long, .long], none⟩ := by decide +kernel
theorem pd_5 : parseMethodDescriptor "(J)V" = some ⟨[.long], none⟩ := by decide +kernel
theorem ef_1 (m : MethodId) (a1 : Addr) : entryFrame m #[(.ref a1)] 1 = mkF m 0 #[.val (.ref a1)] [] := by first | (simp [entryFrame, mkF, argsToLocals, Value.category]; done) | rfl
theorem ef_5 (m : MethodId) (a1 : Addr) (p2 : Int32) : entryFrame m #[(.ref a1), (.int p2)] 4 = mkF m 0 #[.val (.ref a1), .val (.int p2), .unset, .unset] [] := by first | (simp [entryFrame, mkF, argsToLocals, Value.category]; done) | rfl
theorem ef_6 (m : MethodId) (a1 : Addr) (p2 : Int32) : entryFrame m #[(.ref a1), (.int p2)] 4 = mkF m 0 #[.val (.ref a1), .val (.int p2), .unset, .unset] [] := by first | (simp [entryFrame, mkF, argsToLocals, Value.category]; done) | rfl
theorem ef_4 (m : MethodId) (a1 : Addr) : entryFrame m #[(.ref a1)] 1 = mkF m 0 #[.val (.ref a1)] [] := by first | (simp [entryFrame, mkF, argsToLocals, Value.category]; done) | rfl
theorem ef_3 (m : MethodId) (a1 : Addr) (q1 : Int64) (q2 : Int64) : entryFrame m #[(.ref a1), (.long q1), (.long q2)] 5 = mkF m 0 #[.val (.ref a1), .val (.long q1), .second, .val (.long q2), .second] [] := by first | (simp [entryFrame, mkF, argsToLocals, Value.category]; done) | rfl
theorem ef_7 (m : MethodId) (a1 : Addr) : entryFrame m #[(.ref a1)] 1 = mkF m 0 #[.val (.ref a1)] [] := by first | (simp [entryFrame, mkF, argsToLocals, Value.category]; done) | rfl
theorem ef_9 (m : MethodId) (a1 : Addr) (q1 : Int64) : entryFrame m #[(.ref a1), (.long q1)] 3 = mkF m 0 #[.val (.ref a1), .val (.long q1), .second] [] := by first | (simp [entryFrame, mkF, argsToLocals, Value.category]; done) | rfl
theorem ef_8 (m : MethodId) (a1 : Addr) (q1 : Int64) (q2 : Int64) : entryFrame m #[(.ref a1), (.long q1), (.long q2)] 5 = mkF m 0 #[.val (.ref a1), .val (.long q1), .second, .val (.long q2), .second] [] := by first | (simp [entryFrame, mkF, argsToLocals, Value.category]; done) | rfl
theorem ef_0 (m : MethodId) (q0 : Int64) (q2 : Int64) (q4 : Int64) (q6 : Int64) (q8 : Int64) (p10 : Int32) : entryFrame m #[(.long q0), (.long q2), (.long q4), (.long q6), (.long q8), (.int p10)] maxLocals = mkF m 0 #[.val (.long q0), .second, .val (.long q2), .second, .val (.long q4), .second, .val (.long q6), .second, .val (.long q8), .second, .val (.int p10), .unset, .unset, .unset, .unset, .unset, .unset, .unset, .unset, .unset, .unset, .unset] [] := by first | (simp [entryFrame, mkF, argsToLocals, Value.category, maxLocals]; done) | rfl
def Q_rm1 (Z : State) (h0 : Heap) (n0 : Nat) (a1 : Addr) (v : Option Value) (h : Heap) (L : List Loc) : Prop := v = none ∧ Fr n0 L ∧ n0 ≤ h.size ∧ own_K Z h n0 a1 (-1) (-1)
set_option maxRecDepth 65536 in
set_option maxHeartbeats 40000000 in
theorem rm1 (l : Launch) (Z : State) (a0 : Array Value) (hw : ∀ d ∈ tables_1, d.before a0 Z = true) (ws : List Jvm.Cond) (a1 : Addr) (h0 : Heap) (n0 : Nat) (Z0 : n0 ≤ h0.size) (E_a1 : Exa Z h0 a1 "com/example/vaxwire/vaxwire/store/OwnKeyChanges") (F_upTo : Fld Z h0 a1 "com/example/vaxwire/vaxwire/store/OwnKeyChanges" "upTo" "J" (.long (0 : Int64))) (F_moves : Fld Z h0 a1 "com/example/vaxwire/vaxwire/store/OwnKeyChanges" "moves" "J" (.long (0 : Int64))) (F_numbers : Fld Z h0 a1 "com/example/vaxwire/vaxwire/store/OwnKeyChanges" "numbers" "[J" .null) (F_patients : Fld Z h0 a1 "com/example/vaxwire/vaxwire/store/OwnKeyChanges" "patients" "[J" .null) (F_files : Fld Z h0 a1 "com/example/vaxwire/vaxwire/store/OwnKeyChanges" "files" "[Z" .null) (F_before : Fld Z h0 a1 "com/example/vaxwire/vaxwire/store/OwnKeyChanges" "before" "[I" .null) (F_last : Fld Z h0 a1 "com/example/vaxwire/vaxwire/store/OwnKeyChanges" "last" "[I" .null) (F_takesOut : Fld Z h0 a1 "com/example/vaxwire/vaxwire/store/OwnKeyChanges" "takesOut" "[Z" .null) (F_count : Fld Z h0 a1 "com/example/vaxwire/vaxwire/store/OwnKeyChanges" "count" "I" (.int (0 : Int32))) (lo_a1 : n0 ≤ a1) :
    MetFree l (⟨"com/example/vaxwire/vaxwire/store/OwnKeyChanges", "<init>", "()V"⟩ : MethodName) (head1 (Jvm.Cond.code (⟨"com/example/vaxwire/vaxwire/store/OwnKeyChanges", "<init>", "()V"⟩ : MethodName) prog_159_method_1_code 1 none :: ws) ({ frames := 1, cells := 6, slots := 8192, locals := 12 } : Room)) (fun a U => a = #[(.ref a1)] ∧ Z.Warmed39 U.vm ∧ U.heap = h0) (fun _ _ _ _ _ => True) (fun _ U o U' => ∃ rv rL, o = .returned rv ∧ Q_rm1 Z h0 n0 a1 rv U'.heap rL ∧ FrameEnd U o U' rL ({ frames := 1, cells := 6, slots := 8192, locals := 12 } : Room).cells ({ frames := 1, cells := 6, slots := 8192, locals := 12 } : Room).slots) := by
  refine own_met (y := (⟨"com/example/vaxwire/vaxwire/store/OwnKeyChanges", "<init>", "()V"⟩ : MethodName)) (Q := Q_rm1 Z h0 n0 a1) (own := "com/example/vaxwire/vaxwire/store/OwnKeyChanges") rfl pn_1 ?_
  intro p e s m below meth c s₁ C e0 X0
  obtain ⟨hx, hby, hml, hown, hnm, hret, hlk, hZ⟩ := C
  have N0 := Fr.nil n0
  rw [ef_1]
  show own_Goes _ _ _ _ _ _ _ s₁ (mkF m 0 #[.val (.ref a1)] [])
  refine own_go (fun _ k => XS.aloadN X0.here hx rfl (hb hby d1_0) rfl rfl k) ?_
  show own_Goes _ _ _ _ _ _ _ s₁ (mkF m 1 #[.val (.ref a1)] [(.ref a1)])
  obtain ⟨T1, X1, e1, st1⟩ := initO X0 hx hZ hown (hw _ (List.mem_of_getElem? (i := 6) rfl)) (hw _ (List.mem_of_getElem? (i := 7) rfl)) (hw _ (List.mem_of_getElem? (i := 8) rfl)) e0 (g := (mkF m 1 #[.val (.ref a1)] [(.ref a1)])) rfl (by rw [hml]; rfl) rfl (hb hby d1_1) (by decide) (W := 0) (by show 2 * 0 + _ ≤ _; exact Nat.le_of_eq rfl) (by decide)
  refine own_go st1 ?_
  show own_Goes _ _ _ _ _ _ _ T1 (mkF m 4 #[.val (.ref a1)] [])
  refine own_go (fun _ k => XS.aloadN X1.here hx rfl (hb hby d1_4) rfl rfl k) ?_
  show own_Goes _ _ _ _ _ _ _ T1 (mkF m 5 #[.val (.ref a1)] [(.ref a1)])
  refine own_go (fun t k => X1.ldc2Long hx hown (mvT hZ (hw _ (List.mem_of_getElem? (i := 9) rfl))) (g := (mkF m 5 #[.val (.ref a1)] [(.ref a1)])) rfl (hb hby d1_5) t k) ?_
  show own_Goes _ _ _ _ _ _ _ T1 (mkF m 8 #[.val (.ref a1)] [(.long (-1 : Int64)), (.ref a1)])
  obtain ⟨T2, h2, X2, e2, W2, st2⟩ := putF X1 hx hZ hown (host := "") (Or.inl (hw _ (List.mem_of_getElem? (i := 10) rfl))) Via.refl e1 F_upTo E_a1 (Or.inl (hw _ (List.mem_of_getElem? (i := 11) rfl))) (hw _ (List.mem_of_getElem? (i := 1) rfl)) (ty := .long) (by decide) rfl rfl (g := (mkF m 8 #[.val (.ref a1)] [(.long (-1 : Int64)), (.ref a1)])) rfl rfl (hb hby d1_8)
  have F_upTo_2 : Fld Z h2 a1 "com/example/vaxwire/vaxwire/store/OwnKeyChanges" "upTo" "J" (.long (-1 : Int64)) := F_upTo.same W2
  have N2 := Fr.snoc X2 N0 lo_a1
  have E_a1_2 : Exa Z h2 a1 "com/example/vaxwire/vaxwire/store/OwnKeyChanges" := E_a1.wr W2
  have F_moves_2 : Fld Z h2 a1 "com/example/vaxwire/vaxwire/store/OwnKeyChanges" "moves" "J" (.long (0 : Int64)) := F_moves.other W2 (Or.inr (slot_ne (Or.inl (hw _ (List.mem_of_getElem? (i := 13) rfl))) (Or.inl (hw _ (List.mem_of_getElem? (i := 11) rfl))) (by decide) (t := .long) (t' := .long) (by decide) (by decide)))
  have F_numbers_2 : Fld Z h2 a1 "com/example/vaxwire/vaxwire/store/OwnKeyChanges" "numbers" "[J" .null := F_numbers.other W2 (Or.inr (slot_ne (Or.inl (hw _ (List.mem_of_getElem? (i := 16) rfl))) (Or.inl (hw _ (List.mem_of_getElem? (i := 11) rfl))) (by decide) (t := (.array .long)) (t' := .long) (by decide) (by decide)))
  have F_patients_2 : Fld Z h2 a1 "com/example/vaxwire/vaxwire/store/OwnKeyChanges" "patients" "[J" .null := F_patients.other W2 (Or.inr (slot_ne (Or.inl (hw _ (List.mem_of_getElem? (i := 18) rfl))) (Or.inl (hw _ (List.mem_of_getElem? (i := 11) rfl))) (by decide) (t := (.array .long)) (t' := .long) (by decide) (by decide)))
  have F_files_2 : Fld Z h2 a1 "com/example/vaxwire/vaxwire/store/OwnKeyChanges" "files" "[Z" .null := F_files.other W2 (Or.inr (slot_ne (Or.inl (hw _ (List.mem_of_getElem? (i := 21) rfl))) (Or.inl (hw _ (List.mem_of_getElem? (i := 11) rfl))) (by decide) (t := (.array .boolean)) (t' := .long) (by decide) (by decide)))
  have F_before_2 : Fld Z h2 a1 "com/example/vaxwire/vaxwire/store/OwnKeyChanges" "before" "[I" .null := F_before.other W2 (Or.inr (slot_ne (Or.inl (hw _ (List.mem_of_getElem? (i := 24) rfl))) (Or.inl (hw _ (List.mem_of_getElem? (i := 11) rfl))) (by decide) (t := (.array .int)) (t' := .long) (by decide) (by decide)))
  have F_last_2 : Fld Z h2 a1 "com/example/vaxwire/vaxwire/store/OwnKeyChanges" "last" "[I" .null := F_last.other W2 (Or.inr (slot_ne (Or.inl (hw _ (List.mem_of_getElem? (i := 26) rfl))) (Or.inl (hw _ (List.mem_of_getElem? (i := 11) rfl))) (by decide) (t := (.array .int)) (t' := .long) (by decide) (by decide)))
  have F_takesOut_2 : Fld Z h2 a1 "com/example/vaxwire/vaxwire/store/OwnKeyChanges" "takesOut" "[Z" .null := F_takesOut.other W2 (Or.inr (slot_ne (Or.inl (hw _ (List.mem_of_getElem? (i := 28) rfl))) (Or.inl (hw _ (List.mem_of_getElem? (i := 11) rfl))) (by decide) (t := (.array .boolean)) (t' := .long) (by decide) (by decide)))
  have F_count_2 : Fld Z h2 a1 "com/example/vaxwire/vaxwire/store/OwnKeyChanges" "count" "I" (.int (0 : Int32)) := F_count.other W2 (Or.inr (slot_ne (Or.inl (hw _ (List.mem_of_getElem? (i := 47) rfl))) (Or.inl (hw _ (List.mem_of_getElem? (i := 11) rfl))) (by decide) (t := .int) (t' := .long) (by decide) (by decide)))
  have Zs2 : n0 ≤ h2.size := Nat.le_trans Z0 (Keep.of_wr W2).1
  refine own_go st2 ?_
  show own_Goes _ _ _ _ _ _ _ T2 (mkF m 11 #[.val (.ref a1)] [])
  refine own_go (fun _ k => XS.aloadN X2.here hx rfl (hb hby d1_11) rfl rfl k) ?_
  show own_Goes _ _ _ _ _ _ _ T2 (mkF m 12 #[.val (.ref a1)] [(.ref a1)])
  refine own_go (fun t k => X2.ldc2Long hx hown (mvT hZ (hw _ (List.mem_of_getElem? (i := 9) rfl))) (g := (mkF m 12 #[.val (.ref a1)] [(.ref a1)])) rfl (hb hby d1_12) t k) ?_
  show own_Goes _ _ _ _ _ _ _ T2 (mkF m 15 #[.val (.ref a1)] [(.long (-1 : Int64)), (.ref a1)])
  obtain ⟨T3, h3, X3, e3, W3, st3⟩ := putF X2 hx hZ hown (host := "") (Or.inl (hw _ (List.mem_of_getElem? (i := 12) rfl))) Via.refl e2 F_moves_2 E_a1_2 (Or.inl (hw _ (List.mem_of_getElem? (i := 13) rfl))) (hw _ (List.mem_of_getElem? (i := 1) rfl)) (ty := .long) (by decide) rfl rfl (g := (mkF m 15 #[.val (.ref a1)] [(.long (-1 : Int64)), (.ref a1)])) rfl rfl (hb hby d1_15)
  have F_moves_3 : Fld Z h3 a1 "com/example/vaxwire/vaxwire/store/OwnKeyChanges" "moves" "J" (.long (-1 : Int64)) := F_moves_2.same W3
  have N3 := Fr.snoc X3 N2 lo_a1
  have E_a1_3 : Exa Z h3 a1 "com/example/vaxwire/vaxwire/store/OwnKeyChanges" := E_a1_2.wr W3
  have F_numbers_3 : Fld Z h3 a1 "com/example/vaxwire/vaxwire/store/OwnKeyChanges" "numbers" "[J" .null := F_numbers_2.other W3 (Or.inr (slot_ne (Or.inl (hw _ (List.mem_of_getElem? (i := 16) rfl))) (Or.inl (hw _ (List.mem_of_getElem? (i := 13) rfl))) (by decide) (t := (.array .long)) (t' := .long) (by decide) (by decide)))
  have F_patients_3 : Fld Z h3 a1 "com/example/vaxwire/vaxwire/store/OwnKeyChanges" "patients" "[J" .null := F_patients_2.other W3 (Or.inr (slot_ne (Or.inl (hw _ (List.mem_of_getElem? (i := 18) rfl))) (Or.inl (hw _ (List.mem_of_getElem? (i := 13) rfl))) (by decide) (t := (.array .long)) (t' := .long) (by decide) (by decide)))
  have F_files_3 : Fld Z h3 a1 "com/example/vaxwire/vaxwire/store/OwnKeyChanges" "files" "[Z" .null := F_files_2.other W3 (Or.inr (slot_ne (Or.inl (hw _ (List.mem_of_getElem? (i := 21) rfl))) (Or.inl (hw _ (List.mem_of_getElem? (i := 13) rfl))) (by decide) (t := (.array .boolean)) (t' := .long) (by decide) (by decide)))
  have F_before_3 : Fld Z h3 a1 "com/example/vaxwire/vaxwire/store/OwnKeyChanges" "before" "[I" .null := F_before_2.other W3 (Or.inr (slot_ne (Or.inl (hw _ (List.mem_of_getElem? (i := 24) rfl))) (Or.inl (hw _ (List.mem_of_getElem? (i := 13) rfl))) (by decide) (t := (.array .int)) (t' := .long) (by decide) (by decide)))
  have F_last_3 : Fld Z h3 a1 "com/example/vaxwire/vaxwire/store/OwnKeyChanges" "last" "[I" .null := F_last_2.other W3 (Or.inr (slot_ne (Or.inl (hw _ (List.mem_of_getElem? (i := 26) rfl))) (Or.inl (hw _ (List.mem_of_getElem? (i := 13) rfl))) (by decide) (t := (.array .int)) (t' := .long) (by decide) (by decide)))
  have F_takesOut_3 : Fld Z h3 a1 "com/example/vaxwire/vaxwire/store/OwnKeyChanges" "takesOut" "[Z" .null := F_takesOut_2.other W3 (Or.inr (slot_ne (Or.inl (hw _ (List.mem_of_getElem? (i := 28) rfl))) (Or.inl (hw _ (List.mem_of_getElem? (i := 13) rfl))) (by decide) (t := (.array .boolean)) (t' := .long) (by decide) (by decide)))
  have F_count_3 : Fld Z h3 a1 "com/example/vaxwire/vaxwire/store/OwnKeyChanges" "count" "I" (.int (0 : Int32)) := F_count_2.other W3 (Or.inr (slot_ne (Or.inl (hw _ (List.mem_of_getElem? (i := 47) rfl))) (Or.inl (hw _ (List.mem_of_getElem? (i := 13) rfl))) (by decide) (t := .int) (t' := .long) (by decide) (by decide)))
  have F_upTo_3 : Fld Z h3 a1 "com/example/vaxwire/vaxwire/store/OwnKeyChanges" "upTo" "J" (.long (-1 : Int64)) := F_upTo_2.other W3 (Or.inr (slot_ne (Or.inl (hw _ (List.mem_of_getElem? (i := 11) rfl))) (Or.inl (hw _ (List.mem_of_getElem? (i := 13) rfl))) (by decide) (t := .long) (t' := .long) (by decide) (by decide)))
  have Zs3 : n0 ≤ h3.size := Nat.le_trans Zs2 (Keep.of_wr W3).1
  refine own_go st3 ?_
  show own_Goes _ _ _ _ _ _ _ T3 (mkF m 18 #[.val (.ref a1)] [])
  refine own_go (fun _ k => XS.aloadN X3.here hx rfl (hb hby d1_18) rfl rfl k) ?_
  show own_Goes _ _ _ _ _ _ _ T3 (mkF m 19 #[.val (.ref a1)] [(.ref a1)])
  refine own_go (fun _ k => XS.sipush X3.here hx rfl (hb hby d1_19) k) ?_
  show own_Goes _ _ _ _ _ _ _ T3 (mkF m 22 #[.val (.ref a1)] [(.int (1024 : Int32)), (.ref a1)])
  obtain ⟨T4, h4, k4, X4, e4, E4, A4, st4⟩ := newP X3 hx hZ (hw _ (List.mem_of_getElem? (i := 14) rfl)) e3 (g := (mkF m 22 #[.val (.ref a1)] [(.int (1024 : Int32)), (.ref a1)])) rfl (hb hby d1_22) rfl (by decide) (cap := 1024) (by decide) (by decide) (by decide) (by decide)
  obtain ⟨b4, g4⟩ : ∃ z, z = h3.size := ⟨_, rfl⟩
  rw [← g4] at A4 st4
  have lo_b4 : n0 ≤ b4 := Nat.le_trans Zs3 (Nat.le_of_eq g4.symm)
  have ne_a1_b4 : a1 ≠ b4 := Nat.ne_of_lt (Nat.lt_of_lt_of_le E_a1_3.lt (Nat.le_of_eq g4.symm))
  have E_a1_4 : Exa Z h4 a1 "com/example/vaxwire/vaxwire/store/OwnKeyChanges" := E_a1_3.ext E4
  have F_numbers_4 : Fld Z h4 a1 "com/example/vaxwire/vaxwire/store/OwnKeyChanges" "numbers" "[J" .null := F_numbers_3.ext E4
  have F_patients_4 : Fld Z h4 a1 "com/example/vaxwire/vaxwire/store/OwnKeyChanges" "patients" "[J" .null := F_patients_3.ext E4
  have F_files_4 : Fld Z h4 a1 "com/example/vaxwire/vaxwire/store/OwnKeyChanges" "files" "[Z" .null := F_files_3.ext E4
  have F_before_4 : Fld Z h4 a1 "com/example/vaxwire/vaxwire/store/OwnKeyChanges" "before" "[I" .null := F_before_3.ext E4
  have F_last_4 : Fld Z h4 a1 "com/example/vaxwire/vaxwire/store/OwnKeyChanges" "last" "[I" .null := F_last_3.ext E4
  have F_takesOut_4 : Fld Z h4 a1 "com/example/vaxwire/vaxwire/store/OwnKeyChanges" "takesOut" "[Z" .null := F_takesOut_3.ext E4
  have F_count_4 : Fld Z h4 a1 "com/example/vaxwire/vaxwire/store/OwnKeyChanges" "count" "I" (.int (0 : Int32)) := F_count_3.ext E4
  have F_upTo_4 : Fld Z h4 a1 "com/example/vaxwire/vaxwire/store/OwnKeyChanges" "upTo" "J" (.long (-1 : Int64)) := F_upTo_3.ext E4
  have F_moves_4 : Fld Z h4 a1 "com/example/vaxwire/vaxwire/store/OwnKeyChanges" "moves" "J" (.long (-1 : Int64)) := F_moves_3.ext E4
  have Zs4 : n0 ≤ h4.size := Nat.le_trans Zs3 E4.1
  refine own_go st4 ?_
  show own_Goes _ _ _ _ _ _ _ T4 (mkF m 24 #[.val (.ref a1)] [(.ref b4), (.ref a1)])
  obtain ⟨T5, h5, X5, e5, W5, st5⟩ := putF X4 hx hZ hown (host := "") (Or.inl (hw _ (List.mem_of_getElem? (i := 15) rfl))) Via.refl e4 F_numbers_4 E_a1_4 (Or.inl (hw _ (List.mem_of_getElem? (i := 16) rfl))) (hw _ (List.mem_of_getElem? (i := 1) rfl)) (ty := (.array .long)) (by decide) rfl rfl (g := (mkF m 24 #[.val (.ref a1)] [(.ref b4), (.ref a1)])) rfl rfl (hb hby d1_24)
  have F_numbers_5 : Fld Z h5 a1 "com/example/vaxwire/vaxwire/store/OwnKeyChanges" "numbers" "[J" (.ref b4) := F_numbers_4.same W5
  have N5 := Fr.snoc X5 N3 lo_a1
  have E_a1_5 : Exa Z h5 a1 "com/example/vaxwire/vaxwire/store/OwnKeyChanges" := E_a1_4.wr W5
  have F_patients_5 : Fld Z h5 a1 "com/example/vaxwire/vaxwire/store/OwnKeyChanges" "patients" "[J" .null := F_patients_4.other W5 (Or.inr (slot_ne (Or.inl (hw _ (List.mem_of_getElem? (i := 18) rfl))) (Or.inl (hw _ (List.mem_of_getElem? (i := 16) rfl))) (by decide) (t := (.array .long)) (t' := (.array .long)) (by decide) (by decide)))
  have F_files_5 : Fld Z h5 a1 "com/example/vaxwire/vaxwire/store/OwnKeyChanges" "files" "[Z" .null := F_files_4.other W5 (Or.inr (slot_ne (Or.inl (hw _ (List.mem_of_getElem? (i := 21) rfl))) (Or.inl (hw _ (List.mem_of_getElem? (i := 16) rfl))) (by decide) (t := (.array .boolean)) (t' := (.array .long)) (by decide) (by decide)))
  have F_before_5 : Fld Z h5 a1 "com/example/vaxwire/vaxwire/store/OwnKeyChanges" "before" "[I" .null := F_before_4.other W5 (Or.inr (slot_ne (Or.inl (hw _ (List.mem_of_getElem? (i := 24) rfl))) (Or.inl (hw _ (List.mem_of_getElem? (i := 16) rfl))) (by decide) (t := (.array .int)) (t' := (.array .long)) (by decide) (by decide)))
  have F_last_5 : Fld Z h5 a1 "com/example/vaxwire/vaxwire/store/OwnKeyChanges" "last" "[I" .null := F_last_4.other W5 (Or.inr (slot_ne (Or.inl (hw _ (List.mem_of_getElem? (i := 26) rfl))) (Or.inl (hw _ (List.mem_of_getElem? (i := 16) rfl))) (by decide) (t := (.array .int)) (t' := (.array .long)) (by decide) (by decide)))
  have F_takesOut_5 : Fld Z h5 a1 "com/example/vaxwire/vaxwire/store/OwnKeyChanges" "takesOut" "[Z" .null := F_takesOut_4.other W5 (Or.inr (slot_ne (Or.inl (hw _ (List.mem_of_getElem? (i := 28) rfl))) (Or.inl (hw _ (List.mem_of_getElem? (i := 16) rfl))) (by decide) (t := (.array .boolean)) (t' := (.array .long)) (by decide) (by decide)))
  have F_count_5 : Fld Z h5 a1 "com/example/vaxwire/vaxwire/store/OwnKeyChanges" "count" "I" (.int (0 : Int32)) := F_count_4.other W5 (Or.inr (slot_ne (Or.inl (hw _ (List.mem_of_getElem? (i := 47) rfl))) (Or.inl (hw _ (List.mem_of_getElem? (i := 16) rfl))) (by decide) (t := .int) (t' := (.array .long)) (by decide) (by decide)))
  have F_upTo_5 : Fld Z h5 a1 "com/example/vaxwire/vaxwire/store/OwnKeyChanges" "upTo" "J" (.long (-1 : Int64)) := F_upTo_4.other W5 (Or.inr (slot_ne (Or.inl (hw _ (List.mem_of_getElem? (i := 11) rfl))) (Or.inl (hw _ (List.mem_of_getElem? (i := 16) rfl))) (by decide) (t := .long) (t' := (.array .long)) (by decide) (by decide)))
  have F_moves_5 : Fld Z h5 a1 "com/example/vaxwire/vaxwire/store/OwnKeyChanges" "moves" "J" (.long (-1 : Int64)) := F_moves_4.other W5 (Or.inr (slot_ne (Or.inl (hw _ (List.mem_of_getElem? (i := 13) rfl))) (Or.inl (hw _ (List.mem_of_getElem? (i := 16) rfl))) (by decide) (t := .long) (t' := (.array .long)) (by decide) (by decide)))
  have V_b4_5 : Arr Z h5 b4 (newA k4 .long (1024 : Int32)) .long := A4.other W5 (Ne.symm ne_a1_b4)
  have Zs5 : n0 ≤ h5.size := Nat.le_trans Zs4 (Keep.of_wr W5).1
  refine own_go st5 ?_
  show own_Goes _ _ _ _ _ _ _ T5 (mkF m 27 #[.val (.ref a1)] [])
  refine own_go (fun _ k => XS.aloadN X5.here hx rfl (hb hby d1_27) rfl rfl k) ?_
  show own_Goes _ _ _ _ _ _ _ T5 (mkF m 28 #[.val (.ref a1)] [(.ref a1)])
  refine own_go (fun _ k => XS.sipush X5.here hx rfl (hb hby d1_28) k) ?_
  show own_Goes _ _ _ _ _ _ _ T5 (mkF m 31 #[.val (.ref a1)] [(.int (1024 : Int32)), (.ref a1)])
  obtain ⟨T6, h6, k6, X6, e6, E6, A6, st6⟩ := newP X5 hx hZ (hw _ (List.mem_of_getElem? (i := 14) rfl)) e5 (g := (mkF m 31 #[.val (.ref a1)] [(.int (1024 : Int32)), (.ref a1)])) rfl (hb hby d1_31) rfl (by decide) (cap := 1024) (by decide) (by decide) (by decide) (by decide)
  obtain ⟨b6, g6⟩ : ∃ z, z = h5.size := ⟨_, rfl⟩
  rw [← g6] at A6 st6
  have lo_b6 : n0 ≤ b6 := Nat.le_trans Zs5 (Nat.le_of_eq g6.symm)
  have ne_a1_b6 : a1 ≠ b6 := Nat.ne_of_lt (Nat.lt_of_lt_of_le E_a1_5.lt (Nat.le_of_eq g6.symm))
  have ne_b4_b6 : b4 ≠ b6 := Nat.ne_of_lt (Nat.lt_of_lt_of_le V_b4_5.lt (Nat.le_of_eq g6.symm))
  have E_a1_6 : Exa Z h6 a1 "com/example/vaxwire/vaxwire/store/OwnKeyChanges" := E_a1_5.ext E6
  have F_patients_6 : Fld Z h6 a1 "com/example/vaxwire/vaxwire/store/OwnKeyChanges" "patients" "[J" .null := F_patients_5.ext E6
  have F_files_6 : Fld Z h6 a1 "com/example/vaxwire/vaxwire/store/OwnKeyChanges" "files" "[Z" .null := F_files_5.ext E6
  have F_before_6 : Fld Z h6 a1 "com/example/vaxwire/vaxwire/store/OwnKeyChanges" "before" "[I" .null := F_before_5.ext E6
  have F_last_6 : Fld Z h6 a1 "com/example/vaxwire/vaxwire/store/OwnKeyChanges" "last" "[I" .null := F_last_5.ext E6
  have F_takesOut_6 : Fld Z h6 a1 "com/example/vaxwire/vaxwire/store/OwnKeyChanges" "takesOut" "[Z" .null := F_takesOut_5.ext E6
  have F_count_6 : Fld Z h6 a1 "com/example/vaxwire/vaxwire/store/OwnKeyChanges" "count" "I" (.int (0 : Int32)) := F_count_5.ext E6
  have F_upTo_6 : Fld Z h6 a1 "com/example/vaxwire/vaxwire/store/OwnKeyChanges" "upTo" "J" (.long (-1 : Int64)) := F_upTo_5.ext E6
  have F_moves_6 : Fld Z h6 a1 "com/example/vaxwire/vaxwire/store/OwnKeyChanges" "moves" "J" (.long (-1 : Int64)) := F_moves_5.ext E6
  have V_b4_6 : Arr Z h6 b4 (newA k4 .long (1024 : Int32)) .long := V_b4_5.ext E6
  have F_numbers_6 : Fld Z h6 a1 "com/example/vaxwire/vaxwire/store/OwnKeyChanges" "numbers" "[J" (.ref b4) := F_numbers_5.ext E6
  have Zs6 : n0 ≤ h6.size := Nat.le_trans Zs5 E6.1
  refine own_go st6 ?_
  show own_Goes _ _ _ _ _ _ _ T6 (mkF m 33 #[.val (.ref a1)] [(.ref b6), (.ref a1)])
  obtain ⟨T7, h7, X7, e7, W7, st7⟩ := putF X6 hx hZ hown (host := "") (Or.inl (hw _ (List.mem_of_getElem? (i := 17) rfl))) Via.refl e6 F_patients_6 E_a1_6 (Or.inl (hw _ (List.mem_of_getElem? (i := 18) rfl))) (hw _ (List.mem_of_getElem? (i := 1) rfl)) (ty := (.array .long)) (by decide) rfl rfl (g := (mkF m 33 #[.val (.ref a1)] [(.ref b6), (.ref a1)])) rfl rfl (hb hby d1_33)
  have F_patients_7 : Fld Z h7 a1 "com/example/vaxwire/vaxwire/store/OwnKeyChanges" "patients" "[J" (.ref b6) := F_patients_6.same W7
  have N7 := Fr.snoc X7 N5 lo_a1
  have E_a1_7 : Exa Z h7 a1 "com/example/vaxwire/vaxwire/store/OwnKeyChanges" := E_a1_6.wr W7
  have F_files_7 : Fld Z h7 a1 "com/example/vaxwire/vaxwire/store/OwnKeyChanges" "files" "[Z" .null := F_files_6.other W7 (Or.inr (slot_ne (Or.inl (hw _ (List.mem_of_getElem? (i := 21) rfl))) (Or.inl (hw _ (List.mem_of_getElem? (i := 18) rfl))) (by decide) (t := (.array .boolean)) (t' := (.array .long)) (by decide) (by decide)))
  have F_before_7 : Fld Z h7 a1 "com/example/vaxwire/vaxwire/store/OwnKeyChanges" "before" "[I" .null := F_before_6.other W7 (Or.inr (slot_ne (Or.inl (hw _ (List.mem_of_getElem? (i := 24) rfl))) (Or.inl (hw _ (List.mem_of_getElem? (i := 18) rfl))) (by decide) (t := (.array .int)) (t' := (.array .long)) (by decide) (by decide)))
  have F_last_7 : Fld Z h7 a1 "com/example/vaxwire/vaxwire/store/OwnKeyChanges" "last" "[I" .null := F_last_6.other W7 (Or.inr (slot_ne (Or.inl (hw _ (List.mem_of_getElem? (i := 26) rfl))) (Or.inl (hw _ (List.mem_of_getElem? (i := 18) rfl))) (by decide) (t := (.array .int)) (t' := (.array .long)) (by decide) (by decide)))
  have F_takesOut_7 : Fld Z h7 a1 "com/example/vaxwire/vaxwire/store/OwnKeyChanges" "takesOut" "[Z" .null := F_takesOut_6.other W7 (Or.inr (slot_ne (Or.inl (hw _ (List.mem_of_getElem? (i := 28) rfl))) (Or.inl (hw _ (List.mem_of_getElem? (i := 18) rfl))) (by decide) (t := (.array .boolean)) (t' := (.array .long)) (by decide) (by decide)))
  have F_count_7 : Fld Z h7 a1 "com/example/vaxwire/vaxwire/store/OwnKeyChanges" "count" "I" (.int (0 : Int32)) := F_count_6.other W7 (Or.inr (slot_ne (Or.inl (hw _ (List.mem_of_getElem? (i := 47) rfl))) (Or.inl (hw _ (List.mem_of_getElem? (i := 18) rfl))) (by decide) (t := .int) (t' := (.array .long)) (by decide) (by decide)))
  have F_upTo_7 : Fld Z h7 a1 "com/example/vaxwire/vaxwire/store/OwnKeyChanges" "upTo" "J" (.long (-1 : Int64)) := F_upTo_6.other W7 (Or.inr (slot_ne (Or.inl (hw _ (List.mem_of_getElem? (i := 11) rfl))) (Or.inl (hw _ (List.mem_of_getElem? (i := 18) rfl))) (by decide) (t := .long) (t' := (.array .long)) (by decide) (by decide)))
  have F_moves_7 : Fld Z h7 a1 "com/example/vaxwire/vaxwire/store/OwnKeyChanges" "moves" "J" (.long (-1 : Int64)) := F_moves_6.other W7 (Or.inr (slot_ne (Or.inl (hw _ (List.mem_of_getElem? (i := 13) rfl))) (Or.inl (hw _ (List.mem_of_getElem? (i := 18) rfl))) (by decide) (t := .long) (t' := (.array .long)) (by decide) (by decide)))
  have V_b4_7 : Arr Z h7 b4 (newA k4 .long (1024 : Int32)) .long := V_b4_6.other W7 (Ne.symm ne_a1_b4)
  have F_numbers_7 : Fld Z h7 a1 "com/example/vaxwire/vaxwire/store/OwnKeyChanges" "numbers" "[J" (.ref b4) := F_numbers_6.other W7 (Or.inr (slot_ne (Or.inl (hw _ (List.mem_of_getElem? (i := 16) rfl))) (Or.inl (hw _ (List.mem_of_getElem? (i := 18) rfl))) (by decide) (t := (.array .long)) (t' := (.array .long)) (by decide) (by decide)))
  have V_b6_7 : Arr Z h7 b6 (newA k6 .long (1024 : Int32)) .long := A6.other W7 (Ne.symm ne_a1_b6)
  have Zs7 : n0 ≤ h7.size := Nat.le_trans Zs6 (Keep.of_wr W7).1
  refine own_go st7 ?_
  show own_Goes _ _ _ _ _ _ _ T7 (mkF m 36 #[.val (.ref a1)] [])
  refine own_go (fun _ k => XS.aloadN X7.here hx rfl (hb hby d1_36) rfl rfl k) ?_
  show own_Goes _ _ _ _ _ _ _ T7 (mkF m 37 #[.val (.ref a1)] [(.ref a1)])
  refine own_go (fun _ k => XS.sipush X7.here hx rfl (hb hby d1_37) k) ?_
  show own_Goes _ _ _ _ _ _ _ T7 (mkF m 40 #[.val (.ref a1)] [(.int (1024 : Int32)), (.ref a1)])
  obtain ⟨T8, h8, k8, X8, e8, E8, A8, st8⟩ := newP X7 hx hZ (hw _ (List.mem_of_getElem? (i := 19) rfl)) e7 (g := (mkF m 40 #[.val (.ref a1)] [(.int (1024 : Int32)), (.ref a1)])) rfl (hb hby d1_40) rfl (by decide) (cap := 1024) (by decide) (by decide) (by decide) (by decide)
  obtain ⟨b8, g8⟩ : ∃ z, z = h7.size := ⟨_, rfl⟩
  rw [← g8] at A8 st8
  have lo_b8 : n0 ≤ b8 := Nat.le_trans Zs7 (Nat.le_of_eq g8.symm)
  have ne_a1_b8 : a1 ≠ b8 := Nat.ne_of_lt (Nat.lt_of_lt_of_le E_a1_7.lt (Nat.le_of_eq g8.symm))
  have ne_b4_b8 : b4 ≠ b8 := Nat.ne_of_lt (Nat.lt_of_lt_of_le V_b4_7.lt (Nat.le_of_eq g8.symm))
  have ne_b6_b8 : b6 ≠ b8 := Nat.ne_of_lt (Nat.lt_of_lt_of_le V_b6_7.lt (Nat.le_of_eq g8.symm))
  have E_a1_8 : Exa Z h8 a1 "com/example/vaxwire/vaxwire/store/OwnKeyChanges" := E_a1_7.ext E8
  have F_files_8 : Fld Z h8 a1 "com/example/vaxwire/vaxwire/store/OwnKeyChanges" "files" "[Z" .null := F_files_7.ext E8
  have F_before_8 : Fld Z h8 a1 "com/example/vaxwire/vaxwire/store/OwnKeyChanges" "before" "[I" .null := F_before_7.ext E8
  have F_last_8 : Fld Z h8 a1 "com/example/vaxwire/vaxwire/store/OwnKeyChanges" "last" "[I" .null := F_last_7.ext E8
  have F_takesOut_8 : Fld Z h8 a1 "com/example/vaxwire/vaxwire/store/OwnKeyChanges" "takesOut" "[Z" .null := F_takesOut_7.ext E8
  have F_count_8 : Fld Z h8 a1 "com/example/vaxwire/vaxwire/store/OwnKeyChanges" "count" "I" (.int (0 : Int32)) := F_count_7.ext E8
  have F_upTo_8 : Fld Z h8 a1 "com/example/vaxwire/vaxwire/store/OwnKeyChanges" "upTo" "J" (.long (-1 : Int64)) := F_upTo_7.ext E8
  have F_moves_8 : Fld Z h8 a1 "com/example/vaxwire/vaxwire/store/OwnKeyChanges" "moves" "J" (.long (-1 : Int64)) := F_moves_7.ext E8
  have V_b4_8 : Arr Z h8 b4 (newA k4 .long (1024 : Int32)) .long := V_b4_7.ext E8
  have F_numbers_8 : Fld Z h8 a1 "com/example/vaxwire/vaxwire/store/OwnKeyChanges" "numbers" "[J" (.ref b4) := F_numbers_7.ext E8
  have V_b6_8 : Arr Z h8 b6 (newA k6 .long (1024 : Int32)) .long := V_b6_7.ext E8
  have F_patients_8 : Fld Z h8 a1 "com/example/vaxwire/vaxwire/store/OwnKeyChanges" "patients" "[J" (.ref b6) := F_patients_7.ext E8
  have Zs8 : n0 ≤ h8.size := Nat.le_trans Zs7 E8.1
  refine own_go st8 ?_
  show own_Goes _ _ _ _ _ _ _ T8 (mkF m 42 #[.val (.ref a1)] [(.ref b8), (.ref a1)])
  obtain ⟨T9, h9, X9, e9, W9, st9⟩ := putF X8 hx hZ hown (host := "") (Or.inl (hw _ (List.mem_of_getElem? (i := 20) rfl))) Via.refl e8 F_files_8 E_a1_8 (Or.inl (hw _ (List.mem_of_getElem? (i := 21) rfl))) (hw _ (List.mem_of_getElem? (i := 1) rfl)) (ty := (.array .boolean)) (by decide) rfl rfl (g := (mkF m 42 #[.val (.ref a1)] [(.ref b8), (.ref a1)])) rfl rfl (hb hby d1_42)
  have F_files_9 : Fld Z h9 a1 "com/example/vaxwire/vaxwire/store/OwnKeyChanges" "files" "[Z" (.ref b8) := F_files_8.same W9
  have N9 := Fr.snoc X9 N7 lo_a1
  have E_a1_9 : Exa Z h9 a1 "com/example/vaxwire/vaxwire/store/OwnKeyChanges" := E_a1_8.wr W9
  have F_before_9 : Fld Z h9 a1 "com/example/vaxwire/vaxwire/store/OwnKeyChanges" "before" "[I" .null := F_before_8.other W9 (Or.inr (slot_ne (Or.inl (hw _ (List.mem_of_getElem? (i := 24) rfl))) (Or.inl (hw _ (List.mem_of_getElem? (i := 21) rfl))) (by decide) (t := (.array .int)) (t' := (.array .boolean)) (by decide) (by decide)))
  have F_last_9 : Fld Z h9 a1 "com/example/vaxwire/vaxwire/store/OwnKeyChanges" "last" "[I" .null := F_last_8.other W9 (Or.inr (slot_ne (Or.inl (hw _ (List.mem_of_getElem? (i := 26) rfl))) (Or.inl (hw _ (List.mem_of_getElem? (i := 21) rfl))) (by decide) (t := (.array .int)) (t' := (.array .boolean)) (by decide) (by decide)))
  have F_takesOut_9 : Fld Z h9 a1 "com/example/vaxwire/vaxwire/store/OwnKeyChanges" "takesOut" "[Z" .null := F_takesOut_8.other W9 (Or.inr (slot_ne (Or.inl (hw _ (List.mem_of_getElem? (i := 28) rfl))) (Or.inl (hw _ (List.mem_of_getElem? (i := 21) rfl))) (by decide) (t := (.array .boolean)) (t' := (.array .boolean)) (by decide) (by decide)))
  have F_count_9 : Fld Z h9 a1 "com/example/vaxwire/vaxwire/store/OwnKeyChanges" "count" "I" (.int (0 : Int32)) := F_count_8.other W9 (Or.inr (slot_ne (Or.inl (hw _ (List.mem_of_getElem? (i := 47) rfl))) (Or.inl (hw _ (List.mem_of_getElem? (i := 21) rfl))) (by decide) (t := .int) (t' := (.array .boolean)) (by decide) (by decide)))
  have F_upTo_9 : Fld Z h9 a1 "com/example/vaxwire/vaxwire/store/OwnKeyChanges" "upTo" "J" (.long (-1 : Int64)) := F_upTo_8.other W9 (Or.inr (slot_ne (Or.inl (hw _ (List.mem_of_getElem? (i := 11) rfl))) (Or.inl (hw _ (List.mem_of_getElem? (i := 21) rfl))) (by decide) (t := .long) (t' := (.array .boolean)) (by decide) (by decide)))
  have F_moves_9 : Fld Z h9 a1 "com/example/vaxwire/vaxwire/store/OwnKeyChanges" "moves" "J" (.long (-1 : Int64)) := F_moves_8.other W9 (Or.inr (slot_ne (Or.inl (hw _ (List.mem_of_getElem? (i := 13) rfl))) (Or.inl (hw _ (List.mem_of_getElem? (i := 21) rfl))) (by decide) (t := .long) (t' := (.array .boolean)) (by decide) (by decide)))
  have V_b4_9 : Arr Z h9 b4 (newA k4 .long (1024 : Int32)) .long := V_b4_8.other W9 (Ne.symm ne_a1_b4)
  have F_numbers_9 : Fld Z h9 a1 "com/example/vaxwire/vaxwire/store/OwnKeyChanges" "numbers" "[J" (.ref b4) := F_numbers_8.other W9 (Or.inr (slot_ne (Or.inl (hw _ (List.mem_of_getElem? (i := 16) rfl))) (Or.inl (hw _ (List.mem_of_getElem? (i := 21) rfl))) (by decide) (t := (.array .long)) (t' := (.array .boolean)) (by decide) (by decide)))
  have V_b6_9 : Arr Z h9 b6 (newA k6 .long (1024 : Int32)) .long := V_b6_8.other W9 (Ne.symm ne_a1_b6)
  have F_patients_9 : Fld Z h9 a1 "com/example/vaxwire/vaxwire/store/OwnKeyChanges" "patients" "[J" (.ref b6) := F_patients_8.other W9 (Or.inr (slot_ne (Or.inl (hw _ (List.mem_of_getElem? (i := 18) rfl))) (Or.inl (hw _ (List.mem_of_getElem? (i := 21) rfl))) (by decide) (t := (.array .long)) (t' := (.array .boolean)) (by decide) (by decide)))
  have V_b8_9 : Arr Z h9 b8 (newA k8 .boolean (1024 : Int32)) .boolean := A8.other W9 (Ne.symm ne_a1_b8)
  have Zs9 : n0 ≤ h9.size := Nat.le_trans Zs8 (Keep.of_wr W9).1
  refine own_go st9 ?_
  show own_Goes _ _ _ _ _ _ _ T9 (mkF m 45 #[.val (.ref a1)] [])
  refine own_go (fun _ k => XS.aloadN X9.here hx rfl (hb hby d1_45) rfl rfl k) ?_
  show own_Goes _ _ _ _ _ _ _ T9 (mkF m 46 #[.val (.ref a1)] [(.ref a1)])
  refine own_go (fun _ k => XS.sipush X9.here hx rfl (hb hby d1_46) k) ?_
  show own_Goes _ _ _ _ _ _ _ T9 (mkF m 49 #[.val (.ref a1)] [(.int (1024 : Int32)), (.ref a1)])
  obtain ⟨T10, h10, k10, X10, e10, E10, A10, st10⟩ := newP X9 hx hZ (hw _ (List.mem_of_getElem? (i := 22) rfl)) e9 (g := (mkF m 49 #[.val (.ref a1)] [(.int (1024 : Int32)), (.ref a1)])) rfl (hb hby d1_49) rfl (by decide) (cap := 1024) (by decide) (by decide) (by decide) (by decide)
  obtain ⟨b10, g10⟩ : ∃ z, z = h9.size := ⟨_, rfl⟩
  rw [← g10] at A10 st10
  have lo_b10 : n0 ≤ b10 := Nat.le_trans Zs9 (Nat.le_of_eq g10.symm)
  have ne_a1_b10 : a1 ≠ b10 := Nat.ne_of_lt (Nat.lt_of_lt_of_le E_a1_9.lt (Nat.le_of_eq g10.symm))
  have ne_b4_b10 : b4 ≠ b10 := Nat.ne_of_lt (Nat.lt_of_lt_of_le V_b4_9.lt (Nat.le_of_eq g10.symm))
  have ne_b6_b10 : b6 ≠ b10 := Nat.ne_of_lt (Nat.lt_of_lt_of_le V_b6_9.lt (Nat.le_of_eq g10.symm))
  have ne_b8_b10 : b8 ≠ b10 := Nat.ne_of_lt (Nat.lt_of_lt_of_le V_b8_9.lt (Nat.le_of_eq g10.symm))
  have E_a1_10 : Exa Z h10 a1 "com/example/vaxwire/vaxwire/store/OwnKeyChanges" := E_a1_9.ext E10
  have F_before_10 : Fld Z h10 a1 "com/example/vaxwire/vaxwire/store/OwnKeyChanges" "before" "[I" .null := F_before_9.ext E10
  have F_last_10 : Fld Z h10 a1 "com/example/vaxwire/vaxwire/store/OwnKeyChanges" "last" "[I" .null := F_last_9.ext E10
  have F_takesOut_10 : Fld Z h10 a1 "com/example/vaxwire/vaxwire/store/OwnKeyChanges" "takesOut" "[Z" .null := F_takesOut_9.ext E10
  have F_count_10 : Fld Z h10 a1 "com/example/vaxwire/vaxwire/store/OwnKeyChanges" "count" "I" (.int (0 : Int32)) := F_count_9.ext E10
  have F_upTo_10 : Fld Z h10 a1 "com/example/vaxwire/vaxwire/store/OwnKeyChanges" "upTo" "J" (.long (-1 : Int64)) := F_upTo_9.ext E10
  have F_moves_10 : Fld Z h10 a1 "com/example/vaxwire/vaxwire/store/OwnKeyChanges" "moves" "J" (.long (-1 : Int64)) := F_moves_9.ext E10
  have V_b4_10 : Arr Z h10 b4 (newA k4 .long (1024 : Int32)) .long := V_b4_9.ext E10
  have F_numbers_10 : Fld Z h10 a1 "com/example/vaxwire/vaxwire/store/OwnKeyChanges" "numbers" "[J" (.ref b4) := F_numbers_9.ext E10
  have V_b6_10 : Arr Z h10 b6 (newA k6 .long (1024 : Int32)) .long := V_b6_9.ext E10
  have F_patients_10 : Fld Z h10 a1 "com/example/vaxwire/vaxwire/store/OwnKeyChanges" "patients" "[J" (.ref b6) := F_patients_9.ext E10
  have V_b8_10 : Arr Z h10 b8 (newA k8 .boolean (1024 : Int32)) .boolean := V_b8_9.ext E10
  have F_files_10 : Fld Z h10 a1 "com/example/vaxwire/vaxwire/store/OwnKeyChanges" "files" "[Z" (.ref b8) := F_files_9.ext E10
  have Zs10 : n0 ≤ h10.size := Nat.le_trans Zs9 E10.1
  refine own_go st10 ?_
  show own_Goes _ _ _ _ _ _ _ T10 (mkF m 51 #[.val (.ref a1)] [(.ref b10), (.ref a1)])
  obtain ⟨T11, h11, X11, e11, W11, st11⟩ := putF X10 hx hZ hown (host := "") (Or.inl (hw _ (List.mem_of_getElem? (i := 23) rfl))) Via.refl e10 F_before_10 E_a1_10 (Or.inl (hw _ (List.mem_of_getElem? (i := 24) rfl))) (hw _ (List.mem_of_getElem? (i := 1) rfl)) (ty := (.array .int)) (by decide) rfl rfl (g := (mkF m 51 #[.val (.ref a1)] [(.ref b10), (.ref a1)])) rfl rfl (hb hby d1_51)
  have F_before_11 : Fld Z h11 a1 "com/example/vaxwire/vaxwire/store/OwnKeyChanges" "before" "[I" (.ref b10) := F_before_10.same W11
  have N11 := Fr.snoc X11 N9 lo_a1
  have E_a1_11 : Exa Z h11 a1 "com/example/vaxwire/vaxwire/store/OwnKeyChanges" := E_a1_10.wr W11
  have F_last_11 : Fld Z h11 a1 "com/example/vaxwire/vaxwire/store/OwnKeyChanges" "last" "[I" .null := F_last_10.other W11 (Or.inr (slot_ne (Or.inl (hw _ (List.mem_of_getElem? (i := 26) rfl))) (Or.inl (hw _ (List.mem_of_getElem? (i := 24) rfl))) (by decide) (t := (.array .int)) (t' := (.array .int)) (by decide) (by decide)))
  have F_takesOut_11 : Fld Z h11 a1 "com/example/vaxwire/vaxwire/store/OwnKeyChanges" "takesOut" "[Z" .null := F_takesOut_10.other W11 (Or.inr (slot_ne (Or.inl (hw _ (List.mem_of_getElem? (i := 28) rfl))) (Or.inl (hw _ (List.mem_of_getElem? (i := 24) rfl))) (by decide) (t := (.array .boolean)) (t' := (.array .int)) (by decide) (by decide)))
  have F_count_11 : Fld Z h11 a1 "com/example/vaxwire/vaxwire/store/OwnKeyChanges" "count" "I" (.int (0 : Int32)) := F_count_10.other W11 (Or.inr (slot_ne (Or.inl (hw _ (List.mem_of_getElem? (i := 47) rfl))) (Or.inl (hw _ (List.mem_of_getElem? (i := 24) rfl))) (by decide) (t := .int) (t' := (.array .int)) (by decide) (by decide)))
  have F_upTo_11 : Fld Z h11 a1 "com/example/vaxwire/vaxwire/store/OwnKeyChanges" "upTo" "J" (.long (-1 : Int64)) := F_upTo_10.other W11 (Or.inr (slot_ne (Or.inl (hw _ (List.mem_of_getElem? (i := 11) rfl))) (Or.inl (hw _ (List.mem_of_getElem? (i := 24) rfl))) (by decide) (t := .long) (t' := (.array .int)) (by decide) (by decide)))
  have F_moves_11 : Fld Z h11 a1 "com/example/vaxwire/vaxwire/store/OwnKeyChanges" "moves" "J" (.long (-1 : Int64)) := F_moves_10.other W11 (Or.inr (slot_ne (Or.inl (hw _ (List.mem_of_getElem? (i := 13) rfl))) (Or.inl (hw _ (List.mem_of_getElem? (i := 24) rfl))) (by decide) (t := .long) (t' := (.array .int)) (by decide) (by decide)))
  have V_b4_11 : Arr Z h11 b4 (newA k4 .long (1024 : Int32)) .long := V_b4_10.other W11 (Ne.symm ne_a1_b4)
  have F_numbers_11 : Fld Z h11 a1 "com/example/vaxwire/vaxwire/store/OwnKeyChanges" "numbers" "[J" (.ref b4) := F_numbers_10.other W11 (Or.inr (slot_ne (Or.inl (hw _ (List.mem_of_getElem? (i := 16) rfl))) (Or.inl (hw _ (List.mem_of_getElem? (i := 24) rfl))) (by decide) (t := (.array .long)) (t' := (.array .int)) (by decide) (by decide)))
  have V_b6_11 : Arr Z h11 b6 (newA k6 .long (1024 : Int32)) .long := V_b6_10.other W11 (Ne.symm ne_a1_b6)
  have F_patients_11 : Fld Z h11 a1 "com/example/vaxwire/vaxwire/store/OwnKeyChanges" "patients" "[J" (.ref b6) := F_patients_10.other W11 (Or.inr (slot_ne (Or.inl (hw _ (List.mem_of_getElem? (i := 18) rfl))) (Or.inl (hw _ (List.mem_of_getElem? (i := 24) rfl))) (by decide) (t := (.array .long)) (t' := (.array .int)) (by decide) (by decide)))
  have V_b8_11 : Arr Z h11 b8 (newA k8 .boolean (1024 : Int32)) .boolean := V_b8_10.other W11 (Ne.symm ne_a1_b8)
  have F_files_11 : Fld Z h11 a1 "com/example/vaxwire/vaxwire/store/OwnKeyChanges" "files" "[Z" (.ref b8) := F_files_10.other W11 (Or.inr (slot_ne (Or.inl (hw _ (List.mem_of_getElem? (i := 21) rfl))) (Or.inl (hw _ (List.mem_of_getElem? (i := 24) rfl))) (by decide) (t := (.array .boolean)) (t' := (.array .int)) (by decide) (by decide)))
  have V_b10_11 : Arr Z h11 b10 (newA k10 .int (1024 : Int32)) .int := A10.other W11 (Ne.symm ne_a1_b10)
  have Zs11 : n0 ≤ h11.size := Nat.le_trans Zs10 (Keep.of_wr W11).1
  refine own_go st11 ?_
  show own_Goes _ _ _ _ _ _ _ T11 (mkF m 54 #[.val (.ref a1)] [])
  refine own_go (fun _ k => XS.aloadN X11.here hx rfl (hb hby d1_54) rfl rfl k) ?_
  show own_Goes _ _ _ _ _ _ _ T11 (mkF m 55 #[.val (.ref a1)] [(.ref a1)])
  refine own_go (fun _ k => XS.sipush X11.here hx rfl (hb hby d1_55) k) ?_
  show own_Goes _ _ _ _ _ _ _ T11 (mkF m 58 #[.val (.ref a1)] [(.int (2048 : Int32)), (.ref a1)])
  obtain ⟨T12, h12, k12, X12, e12, E12, A12, st12⟩ := newP X11 hx hZ (hw _ (List.mem_of_getElem? (i := 22) rfl)) e11 (g := (mkF m 58 #[.val (.ref a1)] [(.int (2048 : Int32)), (.ref a1)])) rfl (hb hby d1_58) rfl (by decide) (cap := 2048) (by decide) (by decide) (by decide) (by decide)
  obtain ⟨b12, g12⟩ : ∃ z, z = h11.size := ⟨_, rfl⟩
  rw [← g12] at A12 st12
  have lo_b12 : n0 ≤ b12 := Nat.le_trans Zs11 (Nat.le_of_eq g12.symm)
  have ne_a1_b12 : a1 ≠ b12 := Nat.ne_of_lt (Nat.lt_of_lt_of_le E_a1_11.lt (Nat.le_of_eq g12.symm))
  have ne_b4_b12 : b4 ≠ b12 := Nat.ne_of_lt (Nat.lt_of_lt_of_le V_b4_11.lt (Nat.le_of_eq g12.symm))
  have ne_b6_b12 : b6 ≠ b12 := Nat.ne_of_lt (Nat.lt_of_lt_of_le V_b6_11.lt (Nat.le_of_eq g12.symm))
  have ne_b8_b12 : b8 ≠ b12 := Nat.ne_of_lt (Nat.lt_of_lt_of_le V_b8_11.lt (Nat.le_of_eq g12.symm))
  have ne_b10_b12 : b10 ≠ b12 := Nat.ne_of_lt (Nat.lt_of_lt_of_le V_b10_11.lt (Nat.le_of_eq g12.symm))
  have E_a1_12 : Exa Z h12 a1 "com/example/vaxwire/vaxwire/store/OwnKeyChanges" := E_a1_11.ext E12
  have F_last_12 : Fld Z h12 a1 "com/example/vaxwire/vaxwire/store/OwnKeyChanges" "last" "[I" .null := F_last_11.ext E12
  have F_takesOut_12 : Fld Z h12 a1 "com/example/vaxwire/vaxwire/store/OwnKeyChanges" "takesOut" "[Z" .null := F_takesOut_11.ext E12
  have F_count_12 : Fld Z h12 a1 "com/example/vaxwire/vaxwire/store/OwnKeyChanges" "count" "I" (.int (0 : Int32)) := F_count_11.ext E12
  have F_upTo_12 : Fld Z h12 a1 "com/example/vaxwire/vaxwire/store/OwnKeyChanges" "upTo" "J" (.long (-1 : Int64)) := F_upTo_11.ext E12
  have F_moves_12 : Fld Z h12 a1 "com/example/vaxwire/vaxwire/store/OwnKeyChanges" "moves" "J" (.long (-1 : Int64)) := F_moves_11.ext E12
  have V_b4_12 : Arr Z h12 b4 (newA k4 .long (1024 : Int32)) .long := V_b4_11.ext E12
  have F_numbers_12 : Fld Z h12 a1 "com/example/vaxwire/vaxwire/store/OwnKeyChanges" "numbers" "[J" (.ref b4) := F_numbers_11.ext E12
  have V_b6_12 : Arr Z h12 b6 (newA k6 .long (1024 : Int32)) .long := V_b6_11.ext E12
  have F_patients_12 : Fld Z h12 a1 "com/example/vaxwire/vaxwire/store/OwnKeyChanges" "patients" "[J" (.ref b6) := F_patients_11.ext E12
  have V_b8_12 : Arr Z h12 b8 (newA k8 .boolean (1024 : Int32)) .boolean := V_b8_11.ext E12
  have F_files_12 : Fld Z h12 a1 "com/example/vaxwire/vaxwire/store/OwnKeyChanges" "files" "[Z" (.ref b8) := F_files_11.ext E12
  have V_b10_12 : Arr Z h12 b10 (newA k10 .int (1024 : Int32)) .int := V_b10_11.ext E12
  have F_before_12 : Fld Z h12 a1 "com/example/vaxwire/vaxwire/store/OwnKeyChanges" "before" "[I" (.ref b10) := F_before_11.ext E12
  have Zs12 : n0 ≤ h12.size := Nat.le_trans Zs11 E12.1
  refine own_go st12 ?_
  show own_Goes _ _ _ _ _ _ _ T12 (mkF m 60 #[.val (.ref a1)] [(.ref b12), (.ref a1)])
  obtain ⟨T13, h13, X13, e13, W13, st13⟩ := putF X12 hx hZ hown (host := "") (Or.inl (hw _ (List.mem_of_getElem? (i := 25) rfl))) Via.refl e12 F_last_12 E_a1_12 (Or.inl (hw _ (List.mem_of_getElem? (i := 26) rfl))) (hw _ (List.mem_of_getElem? (i := 1) rfl)) (ty := (.array .int)) (by decide) rfl rfl (g := (mkF m 60 #[.val (.ref a1)] [(.ref b12), (.ref a1)])) rfl rfl (hb hby d1_60)
  have F_last_13 : Fld Z h13 a1 "com/example/vaxwire/vaxwire/store/OwnKeyChanges" "last" "[I" (.ref b12) := F_last_12.same W13
  have N13 := Fr.snoc X13 N11 lo_a1
  have E_a1_13 : Exa Z h13 a1 "com/example/vaxwire/vaxwire/store/OwnKeyChanges" := E_a1_12.wr W13
  have F_takesOut_13 : Fld Z h13 a1 "com/example/vaxwire/vaxwire/store/OwnKeyChanges" "takesOut" "[Z" .null := F_takesOut_12.other W13 (Or.inr (slot_ne (Or.inl (hw _ (List.mem_of_getElem? (i := 28) rfl))) (Or.inl (hw _ (List.mem_of_getElem? (i := 26) rfl))) (by decide) (t := (.array .boolean)) (t' := (.array .int)) (by decide) (by decide)))
  have F_count_13 : Fld Z h13 a1 "com/example/vaxwire/vaxwire/store/OwnKeyChanges" "count" "I" (.int (0 : Int32)) := F_count_12.other W13 (Or.inr (slot_ne (Or.inl (hw _ (List.mem_of_getElem? (i := 47) rfl))) (Or.inl (hw _ (List.mem_of_getElem? (i := 26) rfl))) (by decide) (t := .int) (t' := (.array .int)) (by decide) (by decide)))
  have F_upTo_13 : Fld Z h13 a1 "com/example/vaxwire/vaxwire/store/OwnKeyChanges" "upTo" "J" (.long (-1 : Int64)) := F_upTo_12.other W13 (Or.inr (slot_ne (Or.inl (hw _ (List.mem_of_getElem? (i := 11) rfl))) (Or.inl (hw _ (List.mem_of_getElem? (i := 26) rfl))) (by decide) (t := .long) (t' := (.array .int)) (by decide) (by decide)))
  have F_moves_13 : Fld Z h13 a1 "com/example/vaxwire/vaxwire/store/OwnKeyChanges" "moves" "J" (.long (-1 : Int64)) := F_moves_12.other W13 (Or.inr (slot_ne (Or.inl (hw _ (List.mem_of_getElem? (i := 13) rfl))) (Or.inl (hw _ (List.mem_of_getElem? (i := 26) rfl))) (by decide) (t := .long) (t' := (.array .int)) (by decide) (by decide)))
  have V_b4_13 : Arr Z h13 b4 (newA k4 .long (1024 : Int32)) .long := V_b4_12.other W13 (Ne.symm ne_a1_b4)
  have F_numbers_13 : Fld Z h13 a1 "com/example/vaxwire/vaxwire/store/OwnKeyChanges" "numbers" "[J" (.ref b4) := F_numbers_12.other W13 (Or.inr (slot_ne (Or.inl (hw _ (List.mem_of_getElem? (i := 16) rfl))) (Or.inl (hw _ (List.mem_of_getElem? (i := 26) rfl))) (by decide) (t := (.array .long)) (t' := (.array .int)) (by decide) (by decide)))
  have V_b6_13 : Arr Z h13 b6 (newA k6 .long (1024 : Int32)) .long := V_b6_12.other W13 (Ne.symm ne_a1_b6)
  have F_patients_13 : Fld Z h13 a1 "com/example/vaxwire/vaxwire/store/OwnKeyChanges" "patients" "[J" (.ref b6) := F_patients_12.other W13 (Or.inr (slot_ne (Or.inl (hw _ (List.mem_of_getElem? (i := 18) rfl))) (Or.inl (hw _ (List.mem_of_getElem? (i := 26) rfl))) (by decide) (t := (.array .long)) (t' := (.array .int)) (by decide) (by decide)))
  have V_b8_13 : Arr Z h13 b8 (newA k8 .boolean (1024 : Int32)) .boolean := V_b8_12.other W13 (Ne.symm ne_a1_b8)
  have F_files_13 : Fld Z h13 a1 "com/example/vaxwire/vaxwire/store/OwnKeyChanges" "files" "[Z" (.ref b8) := F_files_12.other W13 (Or.inr (slot_ne (Or.inl (hw _ (List.mem_of_getElem? (i := 21) rfl))) (Or.inl (hw _ (List.mem_of_getElem? (i := 26) rfl))) (by decide) (t := (.array .boolean)) (t' := (.array .int)) (by decide) (by decide)))
  have V_b10_13 : Arr Z h13 b10 (newA k10 .int (1024 : Int32)) .int := V_b10_12.other W13 (Ne.symm ne_a1_b10)
  have F_before_13 : Fld Z h13 a1 "com/example/vaxwire/vaxwire/store/OwnKeyChanges" "before" "[I" (.ref b10) := F_before_12.other W13 (Or.inr (slot_ne (Or.inl (hw _ (List.mem_of_getElem? (i := 24) rfl))) (Or.inl (hw _ (List.mem_of_getElem? (i := 26) rfl))) (by decide) (t := (.array .int)) (t' := (.array .int)) (by decide) (by decide)))
  have V_b12_13 : Arr Z h13 b12 (newA k12 .int (2048 : Int32)) .int := A12.other W13 (Ne.symm ne_a1_b12)
  have Zs13 : n0 ≤ h13.size := Nat.le_trans Zs12 (Keep.of_wr W13).1
  refine own_go st13 ?_
  show own_Goes _ _ _ _ _ _ _ T13 (mkF m 63 #[.val (.ref a1)] [])
  refine own_go (fun _ k => XS.aloadN X13.here hx rfl (hb hby d1_63) rfl rfl k) ?_
  show own_Goes _ _ _ _ _ _ _ T13 (mkF m 64 #[.val (.ref a1)] [(.ref a1)])
  refine own_go (fun _ k => XS.sipush X13.here hx rfl (hb hby d1_64) k) ?_
  show own_Goes _ _ _ _ _ _ _ T13 (mkF m 67 #[.val (.ref a1)] [(.int (2048 : Int32)), (.ref a1)])
  obtain ⟨T14, h14, k14, X14, e14, E14, A14, st14⟩ := newP X13 hx hZ (hw _ (List.mem_of_getElem? (i := 19) rfl)) e13 (g := (mkF m 67 #[.val (.ref a1)] [(.int (2048 : Int32)), (.ref a1)])) rfl (hb hby d1_67) rfl (by decide) (cap := 2048) (by decide) (by decide) (by decide) (by decide)
  obtain ⟨b14, g14⟩ : ∃ z, z = h13.size := ⟨_, rfl⟩
  rw [← g14] at A14 st14
  have lo_b14 : n0 ≤ b14 := Nat.le_trans Zs13 (Nat.le_of_eq g14.symm)
  have ne_a1_b14 : a1 ≠ b14 := Nat.ne_of_lt (Nat.lt_of_lt_of_le E_a1_13.lt (Nat.le_of_eq g14.symm))
  have ne_b4_b14 : b4 ≠ b14 := Nat.ne_of_lt (Nat.lt_of_lt_of_le V_b4_13.lt (Nat.le_of_eq g14.symm))
  have ne_b6_b14 : b6 ≠ b14 := Nat.ne_of_lt (Nat.lt_of_lt_of_le V_b6_13.lt (Nat.le_of_eq g14.symm))
  have ne_b8_b14 : b8 ≠ b14 := Nat.ne_of_lt (Nat.lt_of_lt_of_le V_b8_13.lt (Nat.le_of_eq g14.symm))
  have ne_b10_b14 : b10 ≠ b14 := Nat.ne_of_lt (Nat.lt_of_lt_of_le V_b10_13.lt (Nat.le_of_eq g14.symm))
  have ne_b12_b14 : b12 ≠ b14 := Nat.ne_of_lt (Nat.lt_of_lt_of_le V_b12_13.lt (Nat.le_of_eq g14.symm))
  have E_a1_14 : Exa Z h14 a1 "com/example/vaxwire/vaxwire/store/OwnKeyChanges" := E_a1_13.ext E14
  have F_takesOut_14 : Fld Z h14 a1 "com/example/vaxwire/vaxwire/store/OwnKeyChanges" "takesOut" "[Z" .null := F_takesOut_13.ext E14
  have F_count_14 : Fld Z h14 a1 "com/example/vaxwire/vaxwire/store/OwnKeyChanges" "count" "I" (.int (0 : Int32)) := F_count_13.ext E14
  have F_upTo_14 : Fld Z h14 a1 "com/example/vaxwire/vaxwire/store/OwnKeyChanges" "upTo" "J" (.long (-1 : Int64)) := F_upTo_13.ext E14
  have F_moves_14 : Fld Z h14 a1 "com/example/vaxwire/vaxwire/store/OwnKeyChanges" "moves" "J" (.long (-1 : Int64)) := F_moves_13.ext E14
  have V_b4_14 : Arr Z h14 b4 (newA k4 .long (1024 : Int32)) .long := V_b4_13.ext E14
  have F_numbers_14 : Fld Z h14 a1 "com/example/vaxwire/vaxwire/store/OwnKeyChanges" "numbers" "[J" (.ref b4) := F_numbers_13.ext E14
  have V_b6_14 : Arr Z h14 b6 (newA k6 .long (1024 : Int32)) .long := V_b6_13.ext E14
  have F_patients_14 : Fld Z h14 a1 "com/example/vaxwire/vaxwire/store/OwnKeyChanges" "patients" "[J" (.ref b6) := F_patients_13.ext E14
  have V_b8_14 : Arr Z h14 b8 (newA k8 .boolean (1024 : Int32)) .boolean := V_b8_13.ext E14
  have F_files_14 : Fld Z h14 a1 "com/example/vaxwire/vaxwire/store/OwnKeyChanges" "files" "[Z" (.ref b8) := F_files_13.ext E14
  have V_b10_14 : Arr Z h14 b10 (newA k10 .int (1024 : Int32)) .int := V_b10_13.ext E14
  have F_before_14 : Fld Z h14 a1 "com/example/vaxwire/vaxwire/store/OwnKeyChanges" "before" "[I" (.ref b10) := F_before_13.ext E14
  have V_b12_14 : Arr Z h14 b12 (newA k12 .int (2048 : Int32)) .int := V_b12_13.ext E14
  have F_last_14 : Fld Z h14 a1 "com/example/vaxwire/vaxwire/store/OwnKeyChanges" "last" "[I" (.ref b12) := F_last_13.ext E14
  have Zs14 : n0 ≤ h14.size := Nat.le_trans Zs13 E14.1
  refine own_go st14 ?_
  show own_Goes _ _ _ _ _ _ _ T14 (mkF m 69 #[.val (.ref a1)] [(.ref b14), (.ref a1)])
  obtain ⟨T15, h15, X15, e15, W15, st15⟩ := putF X14 hx hZ hown (host := "") (Or.inl (hw _ (List.mem_of_getElem? (i := 27) rfl))) Via.refl e14 F_takesOut_14 E_a1_14 (Or.inl (hw _ (List.mem_of_getElem? (i := 28) rfl))) (hw _ (List.mem_of_getElem? (i := 1) rfl)) (ty := (.array .boolean)) (by decide) rfl rfl (g := (mkF m 69 #[.val (.ref a1)] [(.ref b14), (.ref a1)])) rfl rfl (hb hby d1_69)
  have F_takesOut_15 : Fld Z h15 a1 "com/example/vaxwire/vaxwire/store/OwnKeyChanges" "takesOut" "[Z" (.ref b14) := F_takesOut_14.same W15
  have N15 := Fr.snoc X15 N13 lo_a1
  have E_a1_15 : Exa Z h15 a1 "com/example/vaxwire/vaxwire/store/OwnKeyChanges" := E_a1_14.wr W15
  have F_count_15 : Fld Z h15 a1 "com/example/vaxwire/vaxwire/store/OwnKeyChanges" "count" "I" (.int (0 : Int32)) := F_count_14.other W15 (Or.inr (slot_ne (Or.inl (hw _ (List.mem_of_getElem? (i := 47) rfl))) (Or.inl (hw _ (List.mem_of_getElem? (i := 28) rfl))) (by decide) (t := .int) (t' := (.array .boolean)) (by decide) (by decide)))
  have F_upTo_15 : Fld Z h15 a1 "com/example/vaxwire/vaxwire/store/OwnKeyChanges" "upTo" "J" (.long (-1 : Int64)) := F_upTo_14.other W15 (Or.inr (slot_ne (Or.inl (hw _ (List.mem_of_getElem? (i := 11) rfl))) (Or.inl (hw _ (List.mem_of_getElem? (i := 28) rfl))) (by decide) (t := .long) (t' := (.array .boolean)) (by decide) (by decide)))
  have F_moves_15 : Fld Z h15 a1 "com/example/vaxwire/vaxwire/store/OwnKeyChanges" "moves" "J" (.long (-1 : Int64)) := F_moves_14.other W15 (Or.inr (slot_ne (Or.inl (hw _ (List.mem_of_getElem? (i := 13) rfl))) (Or.inl (hw _ (List.mem_of_getElem? (i := 28) rfl))) (by decide) (t := .long) (t' := (.array .boolean)) (by decide) (by decide)))
  have V_b4_15 : Arr Z h15 b4 (newA k4 .long (1024 : Int32)) .long := V_b4_14.other W15 (Ne.symm ne_a1_b4)
  have F_numbers_15 : Fld Z h15 a1 "com/example/vaxwire/vaxwire/store/OwnKeyChanges" "numbers" "[J" (.ref b4) := F_numbers_14.other W15 (Or.inr (slot_ne (Or.inl (hw _ (List.mem_of_getElem? (i := 16) rfl))) (Or.inl (hw _ (List.mem_of_getElem? (i := 28) rfl))) (by decide) (t := (.array .long)) (t' := (.array .boolean)) (by decide) (by decide)))
  have V_b6_15 : Arr Z h15 b6 (newA k6 .long (1024 : Int32)) .long := V_b6_14.other W15 (Ne.symm ne_a1_b6)
  have F_patients_15 : Fld Z h15 a1 "com/example/vaxwire/vaxwire/store/OwnKeyChanges" "patients" "[J" (.ref b6) := F_patients_14.other W15 (Or.inr (slot_ne (Or.inl (hw _ (List.mem_of_getElem? (i := 18) rfl))) (Or.inl (hw _ (List.mem_of_getElem? (i := 28) rfl))) (by decide) (t := (.array .long)) (t' := (.array .boolean)) (by decide) (by decide)))
  have V_b8_15 : Arr Z h15 b8 (newA k8 .boolean (1024 : Int32)) .boolean := V_b8_14.other W15 (Ne.symm ne_a1_b8)
  have F_files_15 : Fld Z h15 a1 "com/example/vaxwire/vaxwire/store/OwnKeyChanges" "files" "[Z" (.ref b8) := F_files_14.other W15 (Or.inr (slot_ne (Or.inl (hw _ (List.mem_of_getElem? (i := 21) rfl))) (Or.inl (hw _ (List.mem_of_getElem? (i := 28) rfl))) (by decide) (t := (.array .boolean)) (t' := (.array .boolean)) (by decide) (by decide)))
  have V_b10_15 : Arr Z h15 b10 (newA k10 .int (1024 : Int32)) .int := V_b10_14.other W15 (Ne.symm ne_a1_b10)
  have F_before_15 : Fld Z h15 a1 "com/example/vaxwire/vaxwire/store/OwnKeyChanges" "before" "[I" (.ref b10) := F_before_14.other W15 (Or.inr (slot_ne (Or.inl (hw _ (List.mem_of_getElem? (i := 24) rfl))) (Or.inl (hw _ (List.mem_of_getElem? (i := 28) rfl))) (by decide) (t := (.array .int)) (t' := (.array .boolean)) (by decide) (by decide)))
  have V_b12_15 : Arr Z h15 b12 (newA k12 .int (2048 : Int32)) .int := V_b12_14.other W15 (Ne.symm ne_a1_b12)
  have F_last_15 : Fld Z h15 a1 "com/example/vaxwire/vaxwire/store/OwnKeyChanges" "last" "[I" (.ref b12) := F_last_14.other W15 (Or.inr (slot_ne (Or.inl (hw _ (List.mem_of_getElem? (i := 26) rfl))) (Or.inl (hw _ (List.mem_of_getElem? (i := 28) rfl))) (by decide) (t := (.array .int)) (t' := (.array .boolean)) (by decide) (by decide)))
  have V_b14_15 : Arr Z h15 b14 (newA k14 .boolean (2048 : Int32)) .boolean := A14.other W15 (Ne.symm ne_a1_b14)
  have Zs15 : n0 ≤ h15.size := Nat.le_trans Zs14 (Keep.of_wr W15).1
  refine own_go st15 ?_
  show own_Goes _ _ _ _ _ _ _ T15 (mkF m 72 #[.val (.ref a1)] [])
  exact own_retV X15 hx hlk hret (hb hby d1_72) (by decide) (by decide) (by rw [e15]; exact ⟨rfl, N15, Zs15, ⟨E_a1_15, F_upTo_15, F_moves_15, lo_a1, _, b12, b14, _, _, F_count_15, F_last_15, F_takesOut_15, V_b12_15, by simp [newA], V_b14_15, by simp [newA], lo_b12, lo_b14, ne_a1_b12, ne_a1_b14, ne_b12_b14⟩⟩)
set_option maxRecDepth 65536 in
set_option maxHeartbeats 40000000 in
theorem loop5 {p : Program} {l : Launch} {e : Env} {s : State} {m : MethodId} {args : Array Value} {below : List Frame} {meth : Method} {c : Code} {Z : State} {h0 : Heap} (a1 : Addr) (p2 : Int32) (n0 : Nat) (lo_a1 : n0 ≤ a1) (C : own_Ctx Z (⟨"java/util/Arrays", "fill", "([II)V"⟩ : MethodName) "java/util/Arrays" jdk_65_method_103_code 4 none p s m meth c) :
    ∀ (k i : Nat) (T : State) (h : Heap) (locs : List Loc) (cl : Cell), i + k = 2048 → Stand p l e ({ frames := 0, cells := 0, slots := 0, locals := 0 } : Room) s m args below meth c T locs 0 0 → T.heap = h → Fr n0 locs → Arr Z h a1 cl .int → cl.slots.size = 2048 → Keep h0 h [a1] →
      own_Goes p e below s (fun v h L => v = none ∧ Fr n0 L ∧ Keep h0 h [a1] ∧ ∃ cl' : Cell, Arr Z h a1 cl' .int ∧ cl'.slots.size = 2048) 0 0 T (mkF m 5 #[.val (.ref a1), .val (.int p2), .val (.int (Int32.ofNat i)), .val (.int (2048 : Int32))] []) := by
  obtain ⟨hx, hby, hml, hown, hnm, hret, hlk, hZ⟩ := C
  intro k
  induction k with
  | zero =>
    intro i T h locs cl hik X0 e0 N0 A S Kp
    refine own_go (fun _ k => XS.iloadN X0.here hx rfl (hb hby d5_5) rfl k) ?_
    show own_Goes _ _ _ _ _ _ _ T (mkF m 6 #[.val (.ref a1), .val (.int p2), .val (.int (Int32.ofNat i)), .val (.int (2048 : Int32))] [(.int (Int32.ofNat i))])
    refine own_go (fun _ k => XS.iloadN X0.here hx rfl (hb hby d5_6) rfl k) ?_
    show own_Goes _ _ _ _ _ _ _ T (mkF m 7 #[.val (.ref a1), .val (.int p2), .val (.int (Int32.ofNat i)), .val (.int (2048 : Int32))] [(.int (2048 : Int32)), (.int (Int32.ofNat i))])
    refine own_go (fun _ k => XS.icmpYes X0.here hx rfl (pc0 := 7) (pc' := 20) rfl (hb hby d5_7) rfl (flt (own_nlt hik)).2.1 (by decide) (by decide) k) ?_
    show own_Goes _ _ _ _ _ _ _ T (mkF m 20 #[.val (.ref a1), .val (.int p2), .val (.int (Int32.ofNat i)), .val (.int (2048 : Int32))] [])
    exact own_retV X0 hx hlk hret (hb hby d5_20) (by decide) (by decide) (by rw [e0]; exact ⟨rfl, N0, Kp, cl, A, S⟩)
  | succ k ih =>
    intro i T h locs cl hik X0 e0 N0 A S Kp
    refine own_go (fun _ k => XS.iloadN X0.here hx rfl (hb hby d5_5) rfl k) ?_
    show own_Goes _ _ _ _ _ _ _ T (mkF m 6 #[.val (.ref a1), .val (.int p2), .val (.int (Int32.ofNat i)), .val (.int (2048 : Int32))] [(.int (Int32.ofNat i))])
    refine own_go (fun _ k => XS.iloadN X0.here hx rfl (hb hby d5_6) rfl k) ?_
    show own_Goes _ _ _ _ _ _ _ T (mkF m 7 #[.val (.ref a1), .val (.int p2), .val (.int (Int32.ofNat i)), .val (.int (2048 : Int32))] [(.int (2048 : Int32)), (.int (Int32.ofNat i))])
    refine own_go (fun _ k => XS.icmpNo X0.here hx rfl (hb hby d5_7) rfl (tlt (own_lt hik)).2.1 k) ?_
    show own_Goes _ _ _ _ _ _ _ T (mkF m 10 #[.val (.ref a1), .val (.int p2), .val (.int (Int32.ofNat i)), .val (.int (2048 : Int32))] [])
    refine own_go (fun _ k => XS.aloadN X0.here hx rfl (hb hby d5_10) rfl rfl k) ?_
    show own_Goes _ _ _ _ _ _ _ T (mkF m 11 #[.val (.ref a1), .val (.int p2), .val (.int (Int32.ofNat i)), .val (.int (2048 : Int32))] [(.ref a1)])
    refine own_go (fun _ k => XS.iloadN X0.here hx rfl (hb hby d5_11) rfl k) ?_
    show own_Goes _ _ _ _ _ _ _ T (mkF m 12 #[.val (.ref a1), .val (.int p2), .val (.int (Int32.ofNat i)), .val (.int (2048 : Int32))] [(.int (Int32.ofNat i)), (.ref a1)])
    refine own_go (fun _ k => XS.iloadN X0.here hx rfl (hb hby d5_12) rfl k) ?_
    show own_Goes _ _ _ _ _ _ _ T (mkF m 13 #[.val (.ref a1), .val (.int p2), .val (.int (Int32.ofNat i)), .val (.int (2048 : Int32))] [(.int p2), (.int (Int32.ofNat i)), (.ref a1)])
    obtain ⟨T1, h1, X1, e1, W1, st1⟩ := stI X0 hx hZ e0 A (j := Int32.ofNat i) (own_in hik S) (g := (mkF m 13 #[.val (.ref a1), .val (.int p2), .val (.int (Int32.ofNat i)), .val (.int (2048 : Int32))] [(.int p2), (.int (Int32.ofNat i)), (.ref a1)])) rfl rfl (hb hby d5_13)
    have N1 := Fr.snoc X1 N0 lo_a1
    refine own_go st1 ?_
    show own_Goes _ _ _ _ _ _ _ T1 (mkF m 14 #[.val (.ref a1), .val (.int p2), .val (.int (Int32.ofNat i)), .val (.int (2048 : Int32))] [])
    refine own_go (fun _ k => XS.iinc X1.here hx rfl (hb hby d5_14) rfl (l' := #[.val (.ref a1), .val (.int p2), .val (.int (Int32.ofNat (i + 1))), .val (.int (2048 : Int32))]) (by rw [← own_one]; rfl) k) ?_
    show own_Goes _ _ _ _ _ _ _ T1 (mkF m 17 #[.val (.ref a1), .val (.int p2), .val (.int (Int32.ofNat (i + 1))), .val (.int (2048 : Int32))] [])
    refine own_go (fun _ k => XS.goto X1.here hx rfl (pc0 := 17) (pc' := 5) rfl (hb hby d5_17) (by decide) (by decide) k) ?_
    show own_Goes _ _ _ _ _ _ _ T1 (mkF m 5 #[.val (.ref a1), .val (.int p2), .val (.int (Int32.ofNat (i + 1))), .val (.int (2048 : Int32))] [])
    exact ih (i + 1) T1 h1 _ _ (by omega) X1 e1 N1 (A.same W1) ((sz_set _ _ _).trans S) (Kp.wr W1 (Or.inl (List.mem_singleton.mpr rfl)))
def Q_rm5 (Z : State) (h0 : Heap) (n0 : Nat) (a1 : Addr) (v : Option Value) (h : Heap) (L : List Loc) : Prop := v = none ∧ Fr n0 L ∧ Keep h0 h [a1] ∧ ∃ cl' : Cell, Arr Z h a1 cl' .int ∧ cl'.slots.size = 2048
set_option maxRecDepth 65536 in
set_option maxHeartbeats 40000000 in
theorem rm5 (l : Launch) (Z : State) (a0 : Array Value) (hw : ∀ d ∈ tables_1, d.before a0 Z = true) (ws : List Jvm.Cond) (a1 : Addr) (p2 : Int32) (cl : Cell) (h0 : Heap) (n0 : Nat) (Z0 : n0 ≤ h0.size) (lo_a1 : n0 ≤ a1) (A : Arr Z h0 a1 cl .int) (S : cl.slots.size = 2048) :
    MetFree l (⟨"java/util/Arrays", "fill", "([II)V"⟩ : MethodName) (head1 (Jvm.Cond.code (⟨"java/util/Arrays", "fill", "([II)V"⟩ : MethodName) jdk_65_method_103_code 4 none :: ws) ({ frames := 0, cells := 0, slots := 0, locals := 0 } : Room)) (fun a U => a = #[(.ref a1), (.int p2)] ∧ Z.Warmed39 U.vm ∧ U.heap = h0) (fun _ _ _ _ _ => True) (fun _ U o U' => ∃ rv rL, o = .returned rv ∧ Q_rm5 Z h0 n0 a1 rv U'.heap rL ∧ FrameEnd U o U' rL ({ frames := 0, cells := 0, slots := 0, locals := 0 } : Room).cells ({ frames := 0, cells := 0, slots := 0, locals := 0 } : Room).slots) := by
  refine own_met (y := (⟨"java/util/Arrays", "fill", "([II)V"⟩ : MethodName)) (Q := Q_rm5 Z h0 n0 a1) (own := "java/util/Arrays") rfl pn_5 ?_
  intro p e s m below meth c s₁ C e0 X0
  obtain ⟨hx, hby, hml, hown, hnm, hret, hlk, hZ⟩ := C
  have N0 := Fr.nil n0
  rw [ef_5]
  show own_Goes _ _ _ _ _ _ _ s₁ (mkF m 0 #[.val (.ref a1), .val (.int p2), .unset, .unset] [])
  refine own_go (fun _ k => XS.iconst X0.here hx rfl (hb hby d5_0) k) ?_
  show own_Goes _ _ _ _ _ _ _ s₁ (mkF m 1 #[.val (.ref a1), .val (.int p2), .unset, .unset] [(.int (0 : Int32))])
  refine own_go (fun _ k => XS.istoreN X0.here hx rfl (hb hby d5_1) rfl (l' := #[.val (.ref a1), .val (.int p2), .val (.int (0 : Int32)), .unset]) rfl k) ?_
  show own_Goes _ _ _ _ _ _ _ s₁ (mkF m 2 #[.val (.ref a1), .val (.int p2), .val (.int (0 : Int32)), .unset] [])
  refine own_go (fun _ k => XS.aloadN X0.here hx rfl (hb hby d5_2) rfl rfl k) ?_
  show own_Goes _ _ _ _ _ _ _ s₁ (mkF m 3 #[.val (.ref a1), .val (.int p2), .val (.int (0 : Int32)), .unset] [(.ref a1)])
  refine own_go (fun t k => X0.arraylength hx (by rw [e0]; exact A.1) (State.isArrayOf_alike hZ.alike A.2.1) (g := (mkF m 3 #[.val (.ref a1), .val (.int p2), .val (.int (0 : Int32)), .unset] [(.ref a1)])) rfl rfl (hb hby d5_3) t k) ?_
  rw [show cl.slots.size.toInt32 = (2048 : Int32) from by rw [S]; rfl]
  show own_Goes _ _ _ _ _ _ _ s₁ (mkF m 4 #[.val (.ref a1), .val (.int p2), .val (.int (0 : Int32)), .unset] [(.int (2048 : Int32))])
  refine own_go (fun _ k => XS.istoreN X0.here hx rfl (hb hby d5_4) rfl (l' := #[.val (.ref a1), .val (.int p2), .val (.int (0 : Int32)), .val (.int (2048 : Int32))]) rfl k) ?_
  show own_Goes _ _ _ _ _ _ _ s₁ (mkF m 5 #[.val (.ref a1), .val (.int p2), .val (.int (0 : Int32)), .val (.int (2048 : Int32))] [])
  exact loop5 a1 p2 n0 lo_a1 ⟨hx, hby, hml, hown, hnm, hret, hlk, hZ⟩ 2048 0 _ _ _ cl rfl X0 e0 N0 A S (Keep.refl _ _)
set_option maxRecDepth 65536 in
set_option maxHeartbeats 40000000 in
theorem loop6 {p : Program} {l : Launch} {e : Env} {s : State} {m : MethodId} {args : Array Value} {below : List Frame} {meth : Method} {c : Code} {Z : State} {h0 : Heap} (a1 : Addr) (p2 : Int32) (n0 : Nat) (lo_a1 : n0 ≤ a1) (C : own_Ctx Z (⟨"java/util/Arrays", "fill", "([ZZ)V"⟩ : MethodName) "java/util/Arrays" jdk_65_method_111_code 4 none p s m meth c) :
    ∀ (k i : Nat) (T : State) (h : Heap) (locs : List Loc) (cl : Cell), i + k = 2048 → Stand p l e ({ frames := 0, cells := 0, slots := 0, locals := 0 } : Room) s m args below meth c T locs 0 0 → T.heap = h → Fr n0 locs → Arr Z h a1 cl .boolean → cl.slots.size = 2048 → Keep h0 h [a1] →
      own_Goes p e below s (fun v h L => v = none ∧ Fr n0 L ∧ Keep h0 h [a1] ∧ ∃ cl' : Cell, Arr Z h a1 cl' .boolean ∧ cl'.slots.size = 2048) 0 0 T (mkF m 5 #[.val (.ref a1), .val (.int p2), .val (.int (Int32.ofNat i)), .val (.int (2048 : Int32))] []) := by
  obtain ⟨hx, hby, hml, hown, hnm, hret, hlk, hZ⟩ := C
  intro k
  induction k with
  | zero =>
    intro i T h locs cl hik X0 e0 N0 A S Kp
    refine own_go (fun _ k => XS.iloadN X0.here hx rfl (hb hby d6_5) rfl k) ?_
    show own_Goes _ _ _ _ _ _ _ T (mkF m 6 #[.val (.ref a1), .val (.int p2), .val (.int (Int32.ofNat i)), .val (.int (2048 : Int32))] [(.int (Int32.ofNat i))])
    refine own_go (fun _ k => XS.iloadN X0.here hx rfl (hb hby d6_6) rfl k) ?_
    show own_Goes _ _ _ _ _ _ _ T (mkF m 7 #[.val (.ref a1), .val (.int p2), .val (.int (Int32.ofNat i)), .val (.int (2048 : Int32))] [(.int (2048 : Int32)), (.int (Int32.ofNat i))])
    refine own_go (fun _ k => XS.icmpYes X0.here hx rfl (pc0 := 7) (pc' := 20) rfl (hb hby d6_7) rfl (flt (own_nlt hik)).2.1 (by decide) (by decide) k) ?_
    show own_Goes _ _ _ _ _ _ _ T (mkF m 20 #[.val (.ref a1), .val (.int p2), .val (.int (Int32.ofNat i)), .val (.int (2048 : Int32))] [])
    exact own_retV X0 hx hlk hret (hb hby d6_20) (by decide) (by decide) (by rw [e0]; exact ⟨rfl, N0, Kp, cl, A, S⟩)
  | succ k ih =>
    intro i T h locs cl hik X0 e0 N0 A S Kp
    refine own_go (fun _ k => XS.iloadN X0.here hx rfl (hb hby d6_5) rfl k) ?_
    show own_Goes _ _ _ _ _ _ _ T (mkF m 6 #[.val (.ref a1), .val (.int p2), .val (.int (Int32.ofNat i)), .val (.int (2048 : Int32))] [(.int (Int32.ofNat i))])
    refine own_go (fun _ k => XS.iloadN X0.here hx rfl (hb hby d6_6) rfl k) ?_
    show own_Goes _ _ _ _ _ _ _ T (mkF m 7 #[.val (.ref a1), .val (.int p2), .val (.int (Int32.ofNat i)), .val (.int (2048 : Int32))] [(.int (2048 : Int32)), (.int (Int32.ofNat i))])
    refine own_go (fun _ k => XS.icmpNo X0.here hx rfl (hb hby d6_7) rfl (tlt (own_lt hik)).2.1 k) ?_
    show own_Goes _ _ _ _ _ _ _ T (mkF m 10 #[.val (.ref a1), .val (.int p2), .val (.int (Int32.ofNat i)), .val (.int (2048 : Int32))] [])
    refine own_go (fun _ k => XS.aloadN X0.here hx rfl (hb hby d6_10) rfl rfl k) ?_
    show own_Goes _ _ _ _ _ _ _ T (mkF m 11 #[.val (.ref a1), .val (.int p2), .val (.int (Int32.ofNat i)), .val (.int (2048 : Int32))] [(.ref a1)])
    refine own_go (fun _ k => XS.iloadN X0.here hx rfl (hb hby d6_11) rfl k) ?_
    show own_Goes _ _ _ _ _ _ _ T (mkF m 12 #[.val (.ref a1), .val (.int p2), .val (.int (Int32.ofNat i)), .val (.int (2048 : Int32))] [(.int (Int32.ofNat i)), (.ref a1)])
    refine own_go (fun _ k => XS.iloadN X0.here hx rfl (hb hby d6_12) rfl k) ?_
    show own_Goes _ _ _ _ _ _ _ T (mkF m 13 #[.val (.ref a1), .val (.int p2), .val (.int (Int32.ofNat i)), .val (.int (2048 : Int32))] [(.int p2), (.int (Int32.ofNat i)), (.ref a1)])
    obtain ⟨T1, h1, X1, e1, W1, st1⟩ := stZ X0 hx hZ e0 A (j := Int32.ofNat i) (own_in hik S) (g := (mkF m 13 #[.val (.ref a1), .val (.int p2), .val (.int (Int32.ofNat i)), .val (.int (2048 : Int32))] [(.int p2), (.int (Int32.ofNat i)), (.ref a1)])) rfl rfl (hb hby d6_13)
    have N1 := Fr.snoc X1 N0 lo_a1
    refine own_go st1 ?_
    show own_Goes _ _ _ _ _ _ _ T1 (mkF m 14 #[.val (.ref a1), .val (.int p2), .val (.int (Int32.ofNat i)), .val (.int (2048 : Int32))] [])
    refine own_go (fun _ k => XS.iinc X1.here hx rfl (hb hby d6_14) rfl (l' := #[.val (.ref a1), .val (.int p2), .val (.int (Int32.ofNat (i + 1))), .val (.int (2048 : Int32))]) (by rw [← own_one]; rfl) k) ?_
    show own_Goes _ _ _ _ _ _ _ T1 (mkF m 17 #[.val (.ref a1), .val (.int p2), .val (.int (Int32.ofNat (i + 1))), .val (.int (2048 : Int32))] [])
    refine own_go (fun _ k => XS.goto X1.here hx rfl (pc0 := 17) (pc' := 5) rfl (hb hby d6_17) (by decide) (by decide) k) ?_
    show own_Goes _ _ _ _ _ _ _ T1 (mkF m 5 #[.val (.ref a1), .val (.int p2), .val (.int (Int32.ofNat (i + 1))), .val (.int (2048 : Int32))] [])
    exact ih (i + 1) T1 h1 _ _ (by omega) X1 e1 N1 (A.same W1) ((sz_set _ _ _).trans S) (Kp.wr W1 (Or.inl (List.mem_singleton.mpr rfl)))
def Q_rm6 (Z : State) (h0 : Heap) (n0 : Nat) (a1 : Addr) (v : Option Value) (h : Heap) (L : List Loc) : Prop := v = none ∧ Fr n0 L ∧ Keep h0 h [a1] ∧ ∃ cl' : Cell, Arr Z h a1 cl' .boolean ∧ cl'.slots.size = 2048
set_option maxRecDepth 65536 in
set_option maxHeartbeats 40000000 in
theorem rm6 (l : Launch) (Z : State) (a0 : Array Value) (hw : ∀ d ∈ tables_1, d.before a0 Z = true) (ws : List Jvm.Cond) (a1 : Addr) (p2 : Int32) (cl : Cell) (h0 : Heap) (n0 : Nat) (Z0 : n0 ≤ h0.size) (lo_a1 : n0 ≤ a1) (A : Arr Z h0 a1 cl .boolean) (S : cl.slots.size = 2048) :
    MetFree l (⟨"java/util/Arrays", "fill", "([ZZ)V"⟩ : MethodName) (head1 (Jvm.Cond.code (⟨"java/util/Arrays", "fill", "([ZZ)V"⟩ : MethodName) jdk_65_method_111_code 4 none :: ws) ({ frames := 0, cells := 0, slots := 0, locals := 0 } : Room)) (fun a U => a = #[(.ref a1), (.int p2)] ∧ Z.Warmed39 U.vm ∧ U.heap = h0) (fun _ _ _ _ _ => True) (fun _ U o U' => ∃ rv rL, o = .returned rv ∧ Q_rm6 Z h0 n0 a1 rv U'.heap rL ∧ FrameEnd U o U' rL ({ frames := 0, cells := 0, slots := 0, locals := 0 } : Room).cells ({ frames := 0, cells := 0, slots := 0, locals := 0 } : Room).slots) := by
  refine own_met (y := (⟨"java/util/Arrays", "fill", "([ZZ)V"⟩ : MethodName)) (Q := Q_rm6 Z h0 n0 a1) (own := "java/util/Arrays") rfl pn_6 ?_
  intro p e s m below meth c s₁ C e0 X0
  obtain ⟨hx, hby, hml, hown, hnm, hret, hlk, hZ⟩ := C
  have N0 := Fr.nil n0
  rw [ef_6]
  show own_Goes _ _ _ _ _ _ _ s₁ (mkF m 0 #[.val (.ref a1), .val (.int p2), .unset, .unset] [])
  refine own_go (fun _ k => XS.iconst X0.here hx rfl (hb hby d6_0) k) ?_
  show own_Goes _ _ _ _ _ _ _ s₁ (mkF m 1 #[.val (.ref a1), .val (.int p2), .unset, .unset] [(.int (0 : Int32))])
  refine own_go (fun _ k => XS.istoreN X0.here hx rfl (hb hby d6_1) rfl (l' := #[.val (.ref a1), .val (.int p2), .val (.int (0 : Int32)), .unset]) rfl k) ?_
  show own_Goes _ _ _ _ _ _ _ s₁ (mkF m 2 #[.val (.ref a1), .val (.int p2), .val (.int (0 : Int32)), .unset] [])
  refine own_go (fun _ k => XS.aloadN X0.here hx rfl (hb hby d6_2) rfl rfl k) ?_
  show own_Goes _ _ _ _ _ _ _ s₁ (mkF m 3 #[.val (.ref a1), .val (.int p2), .val (.int (0 : Int32)), .unset] [(.ref a1)])
  refine own_go (fun t k => X0.arraylength hx (by rw [e0]; exact A.1) (State.isArrayOf_alike hZ.alike A.2.1) (g := (mkF m 3 #[.val (.ref a1), .val (.int p2), .val (.int (0 : Int32)), .unset] [(.ref a1)])) rfl rfl (hb hby d6_3) t k) ?_
  rw [show cl.slots.size.toInt32 = (2048 : Int32) from by rw [S]; rfl]
  show own_Goes _ _ _ _ _ _ _ s₁ (mkF m 4 #[.val (.ref a1), .val (.int p2), .val (.int (0 : Int32)), .unset] [(.int (2048 : Int32))])
  refine own_go (fun _ k => XS.istoreN X0.here hx rfl (hb hby d6_4) rfl (l' := #[.val (.ref a1), .val (.int p2), .val (.int (0 : Int32)), .val (.int (2048 : Int32))]) rfl k) ?_
  show own_Goes _ _ _ _ _ _ _ s₁ (mkF m 5 #[.val (.ref a1), .val (.int p2), .val (.int (0 : Int32)), .val (.int (2048 : Int32))] [])
  exact loop6 a1 p2 n0 lo_a1 ⟨hx, hby, hml, hown, hnm, hret, hlk, hZ⟩ 2048 0 _ _ _ cl rfl X0 e0 N0 A S (Keep.refl _ _)
def Q_rm4 (Z : State) (h0 : Heap) (n0 : Nat) (a1 : Addr) (u v : Int64) (r : Option Value) (h : Heap) (L : List Loc) : Prop := r = none ∧ Fr n0 L ∧ n0 ≤ h.size ∧ own_K Z h n0 a1 u v
set_option maxRecDepth 65536 in
set_option maxHeartbeats 40000000 in
theorem rm4 (l : Launch) (Z : State) (a0 : Array Value) (hw : ∀ d ∈ tables_1, d.before a0 Z = true) (ws : List Jvm.Cond) (a1 : Addr) (u v : Int64) (h0 : Heap) (n0 : Nat) (Z0 : n0 ≤ h0.size) (KK : own_K Z h0 n0 a1 u v) :
    MetFree l (⟨"com/example/vaxwire/vaxwire/store/OwnKeyChanges", "clear", "()V"⟩ : MethodName) (head1 (Jvm.Cond.code (⟨"com/example/vaxwire/vaxwire/store/OwnKeyChanges", "clear", "()V"⟩ : MethodName) prog_159_method_12_code 1 none :: ws) ({ frames := 1, cells := 0, slots := 0, locals := 15 } : Room)) (fun a U => a = #[(.ref a1)] ∧ Z.Warmed39 U.vm ∧ U.heap = h0) (fun _ _ _ _ _ => True) (fun _ U o U' => ∃ rv rL, o = .returned rv ∧ Q_rm4 Z h0 n0 a1 u v rv U'.heap rL ∧ FrameEnd U o U' rL ({ frames := 1, cells := 0, slots := 0, locals := 15 } : Room).cells ({ frames := 1, cells := 0, slots := 0, locals := 15 } : Room).slots) := by
  refine own_met (y := (⟨"com/example/vaxwire/vaxwire/store/OwnKeyChanges", "clear", "()V"⟩ : MethodName)) (Q := Q_rm4 Z h0 n0 a1 u v) (own := "com/example/vaxwire/vaxwire/store/OwnKeyChanges") rfl pn_4 ?_
  intro p e s m below meth c s₁ C e0 X0
  obtain ⟨hx, hby, hml, hown, hnm, hret, hlk, hZ⟩ := C
  have N0 := Fr.nil n0
  rw [ef_4]
  obtain ⟨E_a1, F_up, F_mv, lo_a1, p9, a3, a4, cl, ck, F_ct, F_la, F_to, A_3, sz3, A_4, sz4, lo_a3, lo_a4, ne_a1_a3, ne_a1_a4, ne_a3_a4⟩ := KK
  show own_Goes _ _ _ _ _ _ _ s₁ (mkF m 0 #[.val (.ref a1)] [])
  refine own_go (fun _ k => XS.aloadN X0.here hx rfl (hb hby d4_0) rfl rfl k) ?_
  show own_Goes _ _ _ _ _ _ _ s₁ (mkF m 1 #[.val (.ref a1)] [(.ref a1)])
  obtain ⟨T1, X1, e1, st1⟩ := getF X0 hx hZ hown (host := "") (Or.inl (hw _ (List.mem_of_getElem? (i := 25) rfl))) Via.refl e0 F_la (g := (mkF m 1 #[.val (.ref a1)] [(.ref a1)])) rfl rfl (hb hby d4_1)
  refine own_go st1 ?_
  show own_Goes _ _ _ _ _ _ _ T1 (mkF m 4 #[.val (.ref a1)] [(.ref a3)])
  refine own_go (fun _ k => XS.iconst X1.here hx rfl (hb hby d4_4) k) ?_
  show own_Goes _ _ _ _ _ _ _ T1 (mkF m 5 #[.val (.ref a1)] [(.int (0 : Int32)), (.ref a3)])
  obtain ⟨_, _, ⟨T2, L2, k2, n2⟩, -, X2, ⟨Lc2, hQ2, l2, y2, z2⟩, st2⟩ := Jvm.LawKit.callS X1 hx (y := (⟨"java/util/Arrays", "fill", "([II)V"⟩ : MethodName)) hown (mvT hZ (hw _ (List.mem_of_getElem? (i := 39) rfl))) (mvT hZ (hw _ (List.mem_of_getElem? (i := 40) rfl))) (mvT hZ (hw _ (List.mem_of_getElem? (i := 41) rfl))) (mvT hZ (hw _ (List.mem_of_getElem? (i := 42) rfl))) (by decide) (backOf (W := 0) (rm5 l Z a0 hw [] a3 (0 : Int32) cl h0 n0 Z0 lo_a3 A_3 sz3) hZ (hw _ (List.mem_of_getElem? (i := 42) rfl)) (hw _ (List.mem_of_getElem? (i := 41) rfl)) (by decide) (by decide)) (g := (mkF m 5 #[.val (.ref a1)] [(.int (0 : Int32)), (.ref a3)])) rfl (by rw [hml]; rfl) (argsL := [(.ref a3), (.int (0 : Int32))]) (rest := []) (lenOf pd_0 rfl) rfl (by show 2 * 0 + _ ≤ _; exact Nat.le_of_eq rfl) (hb hby d4_5) (fun _ _ => ⟨rfl, e1, (by decide : 0 + 0 ≤ _), (by decide : 0 + 0 ≤ _)⟩)
  dsimp only [Pt.U, Pt.locs, Pt.cells, Pt.slots] at X2 l2 y2 z2 st2 hQ2
  subst l2 y2 z2
  obtain ⟨rfl, N2q, K2, cl2, A2, S2⟩ := hQ2
  have N2 := Fr.app N0 N2q
  refine own_go st2 ?_
  show own_Goes _ _ _ _ _ _ _ T2 (mkF m 8 #[.val (.ref a1)] [])
  have E_a1_2 : Exa Z T2.heap a1 "com/example/vaxwire/vaxwire/store/OwnKeyChanges" := E_a1.keep K2
  have F_up_2 : Fld Z T2.heap a1 "com/example/vaxwire/vaxwire/store/OwnKeyChanges" "upTo" "J" (.long u) := F_up.keep K2 (ninS ne_a1_a3 nin0)
  have F_mv_2 : Fld Z T2.heap a1 "com/example/vaxwire/vaxwire/store/OwnKeyChanges" "moves" "J" (.long v) := F_mv.keep K2 (ninS ne_a1_a3 nin0)
  have F_ct_2 : Fld Z T2.heap a1 "com/example/vaxwire/vaxwire/store/OwnKeyChanges" "count" "I" (.int p9) := F_ct.keep K2 (ninS ne_a1_a3 nin0)
  have F_la_2 : Fld Z T2.heap a1 "com/example/vaxwire/vaxwire/store/OwnKeyChanges" "last" "[I" (.ref a3) := F_la.keep K2 (ninS ne_a1_a3 nin0)
  have F_to_2 : Fld Z T2.heap a1 "com/example/vaxwire/vaxwire/store/OwnKeyChanges" "takesOut" "[Z" (.ref a4) := F_to.keep K2 (ninS ne_a1_a3 nin0)
  have A_4_2 : Arr Z T2.heap a4 ck .boolean := (⟨K2.2.1 _ _ A_4.1 (ninS (Ne.symm ne_a3_a4) nin0), A_4.2⟩ : Arr Z T2.heap a4 ck .boolean)
  have Zs2 : n0 ≤ T2.heap.size := Nat.le_trans Z0 K2.1
  refine own_go (fun _ k => XS.aloadN X2.here hx rfl (hb hby d4_8) rfl rfl k) ?_
  show own_Goes _ _ _ _ _ _ _ T2 (mkF m 9 #[.val (.ref a1)] [(.ref a1)])
  obtain ⟨T3, X3, e3, st3⟩ := getF X2 hx hZ hown (host := "") (Or.inl (hw _ (List.mem_of_getElem? (i := 27) rfl))) Via.refl rfl F_to_2 (g := (mkF m 9 #[.val (.ref a1)] [(.ref a1)])) rfl rfl (hb hby d4_9)
  refine own_go st3 ?_
  show own_Goes _ _ _ _ _ _ _ T3 (mkF m 12 #[.val (.ref a1)] [(.ref a4)])
  refine own_go (fun _ k => XS.iconst X3.here hx rfl (hb hby d4_12) k) ?_
  show own_Goes _ _ _ _ _ _ _ T3 (mkF m 13 #[.val (.ref a1)] [(.int (0 : Int32)), (.ref a4)])
  obtain ⟨_, _, ⟨T4, L4, k4, n4⟩, -, X4, ⟨Lc4, hQ4, l4, y4, z4⟩, st4⟩ := Jvm.LawKit.callS X3 hx (y := (⟨"java/util/Arrays", "fill", "([ZZ)V"⟩ : MethodName)) hown (mvT hZ (hw _ (List.mem_of_getElem? (i := 43) rfl))) (mvT hZ (hw _ (List.mem_of_getElem? (i := 44) rfl))) (mvT hZ (hw _ (List.mem_of_getElem? (i := 41) rfl))) (mvT hZ (hw _ (List.mem_of_getElem? (i := 45) rfl))) (by decide) (backOf (W := 0) (rm6 l Z a0 hw [] a4 (0 : Int32) ck T2.heap n0 Zs2 lo_a4 A_4_2 sz4) hZ (hw _ (List.mem_of_getElem? (i := 45) rfl)) (hw _ (List.mem_of_getElem? (i := 41) rfl)) (by decide) (by decide)) (g := (mkF m 13 #[.val (.ref a1)] [(.int (0 : Int32)), (.ref a4)])) rfl (by rw [hml]; rfl) (argsL := [(.ref a4), (.int (0 : Int32))]) (rest := []) (lenOf pd_1 rfl) rfl (by show 2 * 0 + _ ≤ _; exact Nat.le_of_eq rfl) (hb hby d4_13) (fun _ _ => ⟨rfl, e3, (by decide : 0 + 0 + 0 ≤ _), (by decide : 0 + 0 + 0 ≤ _)⟩)
  dsimp only [Pt.U, Pt.locs, Pt.cells, Pt.slots] at X4 l4 y4 z4 st4 hQ4
  subst l4 y4 z4
  obtain ⟨rfl, N4q, K4, cl4, A4, S4⟩ := hQ4
  have N4 := Fr.app N2 N4q
  refine own_go st4 ?_
  show own_Goes _ _ _ _ _ _ _ T4 (mkF m 16 #[.val (.ref a1)] [])
  have E_a1_4 : Exa Z T4.heap a1 "com/example/vaxwire/vaxwire/store/OwnKeyChanges" := E_a1_2.keep K4
  have F_up_4 : Fld Z T4.heap a1 "com/example/vaxwire/vaxwire/store/OwnKeyChanges" "upTo" "J" (.long u) := F_up_2.keep K4 (ninS ne_a1_a4 nin0)
  have F_mv_4 : Fld Z T4.heap a1 "com/example/vaxwire/vaxwire/store/OwnKeyChanges" "moves" "J" (.long v) := F_mv_2.keep K4 (ninS ne_a1_a4 nin0)
  have F_ct_4 : Fld Z T4.heap a1 "com/example/vaxwire/vaxwire/store/OwnKeyChanges" "count" "I" (.int p9) := F_ct_2.keep K4 (ninS ne_a1_a4 nin0)
  have F_la_4 : Fld Z T4.heap a1 "com/example/vaxwire/vaxwire/store/OwnKeyChanges" "last" "[I" (.ref a3) := F_la_2.keep K4 (ninS ne_a1_a4 nin0)
  have F_to_4 : Fld Z T4.heap a1 "com/example/vaxwire/vaxwire/store/OwnKeyChanges" "takesOut" "[Z" (.ref a4) := F_to_2.keep K4 (ninS ne_a1_a4 nin0)
  have A_3_4 : Arr Z T4.heap a3 cl2 .int := (⟨K4.2.1 _ _ A2.1 (ninS ne_a3_a4 nin0), A2.2⟩ : Arr Z T4.heap a3 cl2 .int)
  have Zs4 : n0 ≤ T4.heap.size := Nat.le_trans Zs2 K4.1
  refine own_go (fun _ k => XS.aloadN X4.here hx rfl (hb hby d4_16) rfl rfl k) ?_
  show own_Goes _ _ _ _ _ _ _ T4 (mkF m 17 #[.val (.ref a1)] [(.ref a1)])
  refine own_go (fun _ k => XS.iconst X4.here hx rfl (hb hby d4_17) k) ?_
  show own_Goes _ _ _ _ _ _ _ T4 (mkF m 18 #[.val (.ref a1)] [(.int (0 : Int32)), (.ref a1)])
  obtain ⟨T5, h5, X5, e5, W5, st5⟩ := putF X4 hx hZ hown (host := "") (Or.inl (hw _ (List.mem_of_getElem? (i := 46) rfl))) Via.refl rfl F_ct_4 E_a1_4 (Or.inl (hw _ (List.mem_of_getElem? (i := 47) rfl))) (hw _ (List.mem_of_getElem? (i := 1) rfl)) (ty := .int) (by decide) rfl rfl (g := (mkF m 18 #[.val (.ref a1)] [(.int (0 : Int32)), (.ref a1)])) rfl rfl (hb hby d4_18)
  have F_ct_5 : Fld Z h5 a1 "com/example/vaxwire/vaxwire/store/OwnKeyChanges" "count" "I" (.int (0 : Int32)) := F_ct_4.same W5
  have N5 := Fr.snoc X5 N4 lo_a1
  have E_a1_5 : Exa Z h5 a1 "com/example/vaxwire/vaxwire/store/OwnKeyChanges" := E_a1_4.wr W5
  have F_up_5 : Fld Z h5 a1 "com/example/vaxwire/vaxwire/store/OwnKeyChanges" "upTo" "J" (.long u) := F_up_4.other W5 (Or.inr (slot_ne (Or.inl (hw _ (List.mem_of_getElem? (i := 11) rfl))) (Or.inl (hw _ (List.mem_of_getElem? (i := 47) rfl))) (by decide) (t := .long) (t' := .int) (by decide) (by decide)))
  have F_mv_5 : Fld Z h5 a1 "com/example/vaxwire/vaxwire/store/OwnKeyChanges" "moves" "J" (.long v) := F_mv_4.other W5 (Or.inr (slot_ne (Or.inl (hw _ (List.mem_of_getElem? (i := 13) rfl))) (Or.inl (hw _ (List.mem_of_getElem? (i := 47) rfl))) (by decide) (t := .long) (t' := .int) (by decide) (by decide)))
  have F_la_5 : Fld Z h5 a1 "com/example/vaxwire/vaxwire/store/OwnKeyChanges" "last" "[I" (.ref a3) := F_la_4.other W5 (Or.inr (slot_ne (Or.inl (hw _ (List.mem_of_getElem? (i := 26) rfl))) (Or.inl (hw _ (List.mem_of_getElem? (i := 47) rfl))) (by decide) (t := (.array .int)) (t' := .int) (by decide) (by decide)))
  have F_to_5 : Fld Z h5 a1 "com/example/vaxwire/vaxwire/store/OwnKeyChanges" "takesOut" "[Z" (.ref a4) := F_to_4.other W5 (Or.inr (slot_ne (Or.inl (hw _ (List.mem_of_getElem? (i := 28) rfl))) (Or.inl (hw _ (List.mem_of_getElem? (i := 47) rfl))) (by decide) (t := (.array .boolean)) (t' := .int) (by decide) (by decide)))
  have A_3_5 : Arr Z h5 a3 cl2 .int := A_3_4.other W5 (Ne.symm ne_a1_a3)
  have A_4_5 : Arr Z h5 a4 cl4 .boolean := A4.other W5 (Ne.symm ne_a1_a4)
  have Zs5 : n0 ≤ h5.size := Nat.le_trans Zs4 (Keep.of_wr W5).1
  refine own_go st5 ?_
  show own_Goes _ _ _ _ _ _ _ T5 (mkF m 21 #[.val (.ref a1)] [])
  exact own_retV X5 hx hlk hret (hb hby d4_21) (by decide) (by decide) (by rw [e5]; exact ⟨rfl, N5, Zs5, ⟨E_a1_5, F_up_5, F_mv_5, lo_a1, _, _, _, _, _, F_ct_5, F_la_5, F_to_5, A_3_5, S2, A_4_5, S4, lo_a3, lo_a4, ne_a1_a3, ne_a1_a4, ne_a3_a4⟩⟩)
def Q_rm_knownUpTo (Z : State) (h0 : Heap) (n0 : Nat) (a1 : Addr) (q1 q2 : Int64) (r : Option Value) (h : Heap) (L : List Loc) : Prop := r = none ∧ Fr n0 L ∧ n0 ≤ h.size ∧ own_K Z h n0 a1 q1 q2
set_option maxRecDepth 65536 in
set_option maxHeartbeats 40000000 in
theorem rm_knownUpTo (l : Launch) (Z : State) (a0 : Array Value) (hw : ∀ d ∈ tables_1, d.before a0 Z = true) (ws : List Jvm.Cond) (a1 : Addr) (u v : Int64) (q1 q2 : Int64) (h0 : Heap) (n0 : Nat) (Z0 : n0 ≤ h0.size) (KK : own_K Z h0 n0 a1 u v) :
    MetFree l (⟨"com/example/vaxwire/vaxwire/store/OwnKeyChanges", "knownUpTo", "(JJ)V"⟩ : MethodName) (head1 (Jvm.Cond.code (⟨"com/example/vaxwire/vaxwire/store/OwnKeyChanges", "knownUpTo", "(JJ)V"⟩ : MethodName) prog_159_method_2_code 5 none :: ws) ({ frames := 2, cells := 0, slots := 0, locals := 27 } : Room)) (fun a U => a = #[(.ref a1), (.long q1), (.long q2)] ∧ Z.Warmed39 U.vm ∧ U.heap = h0) (fun _ _ _ _ _ => True) (fun _ U o U' => ∃ rv rL, o = .returned rv ∧ Q_rm_knownUpTo Z h0 n0 a1 q1 q2 rv U'.heap rL ∧ FrameEnd U o U' rL ({ frames := 2, cells := 0, slots := 0, locals := 27 } : Room).cells ({ frames := 2, cells := 0, slots := 0, locals := 27 } : Room).slots) := by
  refine own_met (y := (⟨"com/example/vaxwire/vaxwire/store/OwnKeyChanges", "knownUpTo", "(JJ)V"⟩ : MethodName)) (Q := Q_rm_knownUpTo Z h0 n0 a1 q1 q2) (own := "com/example/vaxwire/vaxwire/store/OwnKeyChanges") rfl pn_3 ?_
  intro p e s m below meth c s₁ C e0 X0
  obtain ⟨hx, hby, hml, hown, hnm, hret, hlk, hZ⟩ := C
  have N0 := Fr.nil n0
  rw [ef_3]
  have E_a1 := KK.1
  show own_Goes _ _ _ _ _ _ _ s₁ (mkF m 0 #[.val (.ref a1), .val (.long q1), .second, .val (.long q2), .second] [])
  refine own_go (fun _ k => XS.aloadN X0.here hx rfl (hb hby d3_0) rfl rfl k) ?_
  show own_Goes _ _ _ _ _ _ _ s₁ (mkF m 1 #[.val (.ref a1), .val (.long q1), .second, .val (.long q2), .second] [(.ref a1)])
  obtain ⟨cq1, zq1, zr1⟩ := E_a1.cell
  obtain ⟨_, _, ⟨T1, L1, k1, n1⟩, -, X1, ⟨Lc1, hQ1, l1, y1, z1⟩, st1⟩ := X0.privateBack hx (y := (⟨"com/example/vaxwire/vaxwire/store/OwnKeyChanges", "clear", "()V"⟩ : MethodName)) hown (mvT hZ (hw _ (List.mem_of_getElem? (i := 35) rfl))) (mvT hZ (hw _ (List.mem_of_getElem? (i := 36) rfl))) (own_selP (y := (⟨"com/example/vaxwire/vaxwire/store/OwnKeyChanges", "clear", "()V"⟩ : MethodName)) rfl (mvT hZ (hw _ (List.mem_of_getElem? (i := 1) rfl))) (mvT hZ (hw _ (List.mem_of_getElem? (i := 36) rfl))) (Cond.privateMethod_at (mvP hZ (hw _ (List.mem_of_getElem? (i := 37) rfl)) (args := #[]))) (by decide)) (Cond.privateMethod_at (mvP hZ (hw _ (List.mem_of_getElem? (i := 37) rfl)) (args := #[]))) (mvT hZ (hw _ (List.mem_of_getElem? (i := 38) rfl))) (by decide) (backOf (W := 0) (rm4 l Z a0 hw [] a1 u v h0 n0 Z0 KK) hZ (hw _ (List.mem_of_getElem? (i := 38) rfl)) (hw _ (List.mem_of_getElem? (i := 2) rfl)) (by decide) (by decide)) (g := (mkF m 1 #[.val (.ref a1), .val (.long q1), .second, .val (.long q2), .second] [(.ref a1)])) rfl (by rw [hml]; rfl) (Steps.refl _) (a := a1) (by rw [e0]; exact zq1) zr1 (argsL := []) (rest := []) (lenOf pd_2 rfl) rfl (by show 2 * 0 + _ ≤ _; exact Nat.le_of_eq rfl) (hb hby d3_1) (fun _ _ => ⟨rfl, e0, (by decide : 0 + 0 ≤ _), (by decide : 0 + 0 ≤ _)⟩)
  dsimp only [Pt.U, Pt.locs, Pt.cells, Pt.slots] at X1 l1 y1 z1 st1 hQ1
  subst l1 y1 z1
  obtain ⟨rfl, N1q, Zs1, KK1⟩ := hQ1
  have N1 := Fr.app N0 N1q
  refine own_goS st1 ?_
  show own_Goes _ _ _ _ _ _ _ T1 (mkF m 4 #[.val (.ref a1), .val (.long q1), .second, .val (.long q2), .second] [])
  obtain ⟨E_a1, F_up, F_mv, lo_a1, p9, a3, a4, cl, ck, F_ct, F_la, F_to, A_3, sz3, A_4, sz4, lo_a3, lo_a4, ne_a1_a3, ne_a1_a4, ne_a3_a4⟩ := KK1
  refine own_go (fun _ k => XS.aloadN X1.here hx rfl (hb hby d3_4) rfl rfl k) ?_
  show own_Goes _ _ _ _ _ _ _ T1 (mkF m 5 #[.val (.ref a1), .val (.long q1), .second, .val (.long q2), .second] [(.ref a1)])
  refine own_go (fun _ k => XS.lloadN X1.here hx rfl (hb hby d3_5) rfl k) ?_
  show own_Goes _ _ _ _ _ _ _ T1 (mkF m 6 #[.val (.ref a1), .val (.long q1), .second, .val (.long q2), .second] [(.long q1), (.ref a1)])
  obtain ⟨T2, h2, X2, e2, W2, st2⟩ := putF X1 hx hZ hown (host := "") (Or.inl (hw _ (List.mem_of_getElem? (i := 10) rfl))) Via.refl rfl F_up E_a1 (Or.inl (hw _ (List.mem_of_getElem? (i := 11) rfl))) (hw _ (List.mem_of_getElem? (i := 1) rfl)) (ty := .long) (by decide) rfl rfl (g := (mkF m 6 #[.val (.ref a1), .val (.long q1), .second, .val (.long q2), .second] [(.long q1), (.ref a1)])) rfl rfl (hb hby d3_6)
  have F_up_2 : Fld Z h2 a1 "com/example/vaxwire/vaxwire/store/OwnKeyChanges" "upTo" "J" (.long q1) := F_up.same W2
  have N2 := Fr.snoc X2 N1 lo_a1
  have E_a1_2 : Exa Z h2 a1 "com/example/vaxwire/vaxwire/store/OwnKeyChanges" := E_a1.wr W2
  have F_mv_2 : Fld Z h2 a1 "com/example/vaxwire/vaxwire/store/OwnKeyChanges" "moves" "J" (.long v) := F_mv.other W2 (Or.inr (slot_ne (Or.inl (hw _ (List.mem_of_getElem? (i := 13) rfl))) (Or.inl (hw _ (List.mem_of_getElem? (i := 11) rfl))) (by decide) (t := .long) (t' := .long) (by decide) (by decide)))
  have F_ct_2 : Fld Z h2 a1 "com/example/vaxwire/vaxwire/store/OwnKeyChanges" "count" "I" (.int p9) := F_ct.other W2 (Or.inr (slot_ne (Or.inl (hw _ (List.mem_of_getElem? (i := 47) rfl))) (Or.inl (hw _ (List.mem_of_getElem? (i := 11) rfl))) (by decide) (t := .int) (t' := .long) (by decide) (by decide)))
  have F_la_2 : Fld Z h2 a1 "com/example/vaxwire/vaxwire/store/OwnKeyChanges" "last" "[I" (.ref a3) := F_la.other W2 (Or.inr (slot_ne (Or.inl (hw _ (List.mem_of_getElem? (i := 26) rfl))) (Or.inl (hw _ (List.mem_of_getElem? (i := 11) rfl))) (by decide) (t := (.array .int)) (t' := .long) (by decide) (by decide)))
  have F_to_2 : Fld Z h2 a1 "com/example/vaxwire/vaxwire/store/OwnKeyChanges" "takesOut" "[Z" (.ref a4) := F_to.other W2 (Or.inr (slot_ne (Or.inl (hw _ (List.mem_of_getElem? (i := 28) rfl))) (Or.inl (hw _ (List.mem_of_getElem? (i := 11) rfl))) (by decide) (t := (.array .boolean)) (t' := .long) (by decide) (by decide)))
  have A_3_2 : Arr Z h2 a3 cl .int := A_3.other W2 (Ne.symm ne_a1_a3)
  have A_4_2 : Arr Z h2 a4 ck .boolean := A_4.other W2 (Ne.symm ne_a1_a4)
  have Zs2 : n0 ≤ h2.size := Nat.le_trans Zs1 (Keep.of_wr W2).1
  refine own_go st2 ?_
  show own_Goes _ _ _ _ _ _ _ T2 (mkF m 9 #[.val (.ref a1), .val (.long q1), .second, .val (.long q2), .second] [])
  refine own_go (fun _ k => XS.aloadN X2.here hx rfl (hb hby d3_9) rfl rfl k) ?_
  show own_Goes _ _ _ _ _ _ _ T2 (mkF m 10 #[.val (.ref a1), .val (.long q1), .second, .val (.long q2), .second] [(.ref a1)])
  refine own_go (fun _ k => XS.lloadN X2.here hx rfl (hb hby d3_10) rfl k) ?_
  show own_Goes _ _ _ _ _ _ _ T2 (mkF m 11 #[.val (.ref a1), .val (.long q1), .second, .val (.long q2), .second] [(.long q2), (.ref a1)])
  obtain ⟨T3, h3, X3, e3, W3, st3⟩ := putF X2 hx hZ hown (host := "") (Or.inl (hw _ (List.mem_of_getElem? (i := 12) rfl))) Via.refl e2 F_mv_2 E_a1_2 (Or.inl (hw _ (List.mem_of_getElem? (i := 13) rfl))) (hw _ (List.mem_of_getElem? (i := 1) rfl)) (ty := .long) (by decide) rfl rfl (g := (mkF m 11 #[.val (.ref a1), .val (.long q1), .second, .val (.long q2), .second] [(.long q2), (.ref a1)])) rfl rfl (hb hby d3_11)
  have F_mv_3 : Fld Z h3 a1 "com/example/vaxwire/vaxwire/store/OwnKeyChanges" "moves" "J" (.long q2) := F_mv_2.same W3
  have N3 := Fr.snoc X3 N2 lo_a1
  have E_a1_3 : Exa Z h3 a1 "com/example/vaxwire/vaxwire/store/OwnKeyChanges" := E_a1_2.wr W3
  have F_ct_3 : Fld Z h3 a1 "com/example/vaxwire/vaxwire/store/OwnKeyChanges" "count" "I" (.int p9) := F_ct_2.other W3 (Or.inr (slot_ne (Or.inl (hw _ (List.mem_of_getElem? (i := 47) rfl))) (Or.inl (hw _ (List.mem_of_getElem? (i := 13) rfl))) (by decide) (t := .int) (t' := .long) (by decide) (by decide)))
  have F_la_3 : Fld Z h3 a1 "com/example/vaxwire/vaxwire/store/OwnKeyChanges" "last" "[I" (.ref a3) := F_la_2.other W3 (Or.inr (slot_ne (Or.inl (hw _ (List.mem_of_getElem? (i := 26) rfl))) (Or.inl (hw _ (List.mem_of_getElem? (i := 13) rfl))) (by decide) (t := (.array .int)) (t' := .long) (by decide) (by decide)))
  have F_to_3 : Fld Z h3 a1 "com/example/vaxwire/vaxwire/store/OwnKeyChanges" "takesOut" "[Z" (.ref a4) := F_to_2.other W3 (Or.inr (slot_ne (Or.inl (hw _ (List.mem_of_getElem? (i := 28) rfl))) (Or.inl (hw _ (List.mem_of_getElem? (i := 13) rfl))) (by decide) (t := (.array .boolean)) (t' := .long) (by decide) (by decide)))
  have A_3_3 : Arr Z h3 a3 cl .int := A_3_2.other W3 (Ne.symm ne_a1_a3)
  have A_4_3 : Arr Z h3 a4 ck .boolean := A_4_2.other W3 (Ne.symm ne_a1_a4)
  have F_up_3 : Fld Z h3 a1 "com/example/vaxwire/vaxwire/store/OwnKeyChanges" "upTo" "J" (.long q1) := F_up_2.other W3 (Or.inr (slot_ne (Or.inl (hw _ (List.mem_of_getElem? (i := 11) rfl))) (Or.inl (hw _ (List.mem_of_getElem? (i := 13) rfl))) (by decide) (t := .long) (t' := .long) (by decide) (by decide)))
  have Zs3 : n0 ≤ h3.size := Nat.le_trans Zs2 (Keep.of_wr W3).1
  refine own_go st3 ?_
  show own_Goes _ _ _ _ _ _ _ T3 (mkF m 14 #[.val (.ref a1), .val (.long q1), .second, .val (.long q2), .second] [])
  exact own_retV X3 hx hlk hret (hb hby d3_14) (by decide) (by decide) (by rw [e3]; exact ⟨rfl, N3, Zs3, ⟨E_a1_3, F_up_3, F_mv_3, lo_a1, _, _, _, _, _, F_ct_3, F_la_3, F_to_3, A_3_3, sz3, A_4_3, sz4, lo_a3, lo_a4, ne_a1_a3, ne_a1_a4, ne_a3_a4⟩⟩)
def Q_rm_forget (Z : State) (h0 : Heap) (n0 : Nat) (a1 : Addr) (v : Int64) (r : Option Value) (h : Heap) (L : List Loc) : Prop := r = none ∧ Fr n0 L ∧ n0 ≤ h.size ∧ own_K Z h n0 a1 (-1) v
set_option maxRecDepth 65536 in
set_option maxHeartbeats 40000000 in
theorem rm_forget (l : Launch) (Z : State) (a0 : Array Value) (hw : ∀ d ∈ tables_1, d.before a0 Z = true) (ws : List Jvm.Cond) (a1 : Addr) (u v : Int64)  (h0 : Heap) (n0 : Nat) (Z0 : n0 ≤ h0.size) (KK : own_K Z h0 n0 a1 u v) :
    MetFree l (⟨"com/example/vaxwire/vaxwire/store/OwnKeyChanges", "forget", "()V"⟩ : MethodName) (head1 (Jvm.Cond.code (⟨"com/example/vaxwire/vaxwire/store/OwnKeyChanges", "forget", "()V"⟩ : MethodName) prog_159_method_3_code 1 none :: ws) ({ frames := 2, cells := 0, slots := 0, locals := 27 } : Room)) (fun a U => a = #[(.ref a1)] ∧ Z.Warmed39 U.vm ∧ U.heap = h0) (fun _ _ _ _ _ => True) (fun _ U o U' => ∃ rv rL, o = .returned rv ∧ Q_rm_forget Z h0 n0 a1 v rv U'.heap rL ∧ FrameEnd U o U' rL ({ frames := 2, cells := 0, slots := 0, locals := 27 } : Room).cells ({ frames := 2, cells := 0, slots := 0, locals := 27 } : Room).slots) := by
  refine own_met (y := (⟨"com/example/vaxwire/vaxwire/store/OwnKeyChanges", "forget", "()V"⟩ : MethodName)) (Q := Q_rm_forget Z h0 n0 a1 v) (own := "com/example/vaxwire/vaxwire/store/OwnKeyChanges") rfl pn_7 ?_
  intro p e s m below meth c s₁ C e0 X0
  obtain ⟨hx, hby, hml, hown, hnm, hret, hlk, hZ⟩ := C
  have N0 := Fr.nil n0
  rw [ef_7]
  have E_a1 := KK.1
  show own_Goes _ _ _ _ _ _ _ s₁ (mkF m 0 #[.val (.ref a1)] [])
  refine own_go (fun _ k => XS.aloadN X0.here hx rfl (hb hby d7_0) rfl rfl k) ?_
  show own_Goes _ _ _ _ _ _ _ s₁ (mkF m 1 #[.val (.ref a1)] [(.ref a1)])
  obtain ⟨cq1, zq1, zr1⟩ := E_a1.cell
  obtain ⟨_, _, ⟨T1, L1, k1, n1⟩, -, X1, ⟨Lc1, hQ1, l1, y1, z1⟩, st1⟩ := X0.privateBack hx (y := (⟨"com/example/vaxwire/vaxwire/store/OwnKeyChanges", "clear", "()V"⟩ : MethodName)) hown (mvT hZ (hw _ (List.mem_of_getElem? (i := 35) rfl))) (mvT hZ (hw _ (List.mem_of_getElem? (i := 36) rfl))) (own_selP (y := (⟨"com/example/vaxwire/vaxwire/store/OwnKeyChanges", "clear", "()V"⟩ : MethodName)) rfl (mvT hZ (hw _ (List.mem_of_getElem? (i := 1) rfl))) (mvT hZ (hw _ (List.mem_of_getElem? (i := 36) rfl))) (Cond.privateMethod_at (mvP hZ (hw _ (List.mem_of_getElem? (i := 37) rfl)) (args := #[]))) (by decide)) (Cond.privateMethod_at (mvP hZ (hw _ (List.mem_of_getElem? (i := 37) rfl)) (args := #[]))) (mvT hZ (hw _ (List.mem_of_getElem? (i := 38) rfl))) (by decide) (backOf (W := 0) (rm4 l Z a0 hw [] a1 u v h0 n0 Z0 KK) hZ (hw _ (List.mem_of_getElem? (i := 38) rfl)) (hw _ (List.mem_of_getElem? (i := 2) rfl)) (by decide) (by decide)) (g := (mkF m 1 #[.val (.ref a1)] [(.ref a1)])) rfl (by rw [hml]; rfl) (Steps.refl _) (a := a1) (by rw [e0]; exact zq1) zr1 (argsL := []) (rest := []) (lenOf pd_2 rfl) rfl (by show 2 * 0 + _ ≤ _; exact Nat.le_of_eq rfl) (hb hby d7_1) (fun _ _ => ⟨rfl, e0, (by decide : 0 + 0 ≤ _), (by decide : 0 + 0 ≤ _)⟩)
  dsimp only [Pt.U, Pt.locs, Pt.cells, Pt.slots] at X1 l1 y1 z1 st1 hQ1
  subst l1 y1 z1
  obtain ⟨rfl, N1q, Zs1, KK1⟩ := hQ1
  have N1 := Fr.app N0 N1q
  refine own_goS st1 ?_
  show own_Goes _ _ _ _ _ _ _ T1 (mkF m 4 #[.val (.ref a1)] [])
  obtain ⟨E_a1, F_up, F_mv, lo_a1, p9, a3, a4, cl, ck, F_ct, F_la, F_to, A_3, sz3, A_4, sz4, lo_a3, lo_a4, ne_a1_a3, ne_a1_a4, ne_a3_a4⟩ := KK1
  refine own_go (fun _ k => XS.aloadN X1.here hx rfl (hb hby d7_4) rfl rfl k) ?_
  show own_Goes _ _ _ _ _ _ _ T1 (mkF m 5 #[.val (.ref a1)] [(.ref a1)])
  refine own_go (fun t k => X1.ldc2Long hx hown (mvT hZ (hw _ (List.mem_of_getElem? (i := 9) rfl))) (g := (mkF m 5 #[.val (.ref a1)] [(.ref a1)])) rfl (hb hby d7_5) t k) ?_
  show own_Goes _ _ _ _ _ _ _ T1 (mkF m 8 #[.val (.ref a1)] [(.long (-1 : Int64)), (.ref a1)])
  obtain ⟨T2, h2, X2, e2, W2, st2⟩ := putF X1 hx hZ hown (host := "") (Or.inl (hw _ (List.mem_of_getElem? (i := 10) rfl))) Via.refl rfl F_up E_a1 (Or.inl (hw _ (List.mem_of_getElem? (i := 11) rfl))) (hw _ (List.mem_of_getElem? (i := 1) rfl)) (ty := .long) (by decide) rfl rfl (g := (mkF m 8 #[.val (.ref a1)] [(.long (-1 : Int64)), (.ref a1)])) rfl rfl (hb hby d7_8)
  have F_up_2 : Fld Z h2 a1 "com/example/vaxwire/vaxwire/store/OwnKeyChanges" "upTo" "J" (.long (-1 : Int64)) := F_up.same W2
  have N2 := Fr.snoc X2 N1 lo_a1
  have E_a1_2 : Exa Z h2 a1 "com/example/vaxwire/vaxwire/store/OwnKeyChanges" := E_a1.wr W2
  have F_mv_2 : Fld Z h2 a1 "com/example/vaxwire/vaxwire/store/OwnKeyChanges" "moves" "J" (.long v) := F_mv.other W2 (Or.inr (slot_ne (Or.inl (hw _ (List.mem_of_getElem? (i := 13) rfl))) (Or.inl (hw _ (List.mem_of_getElem? (i := 11) rfl))) (by decide) (t := .long) (t' := .long) (by decide) (by decide)))
  have F_ct_2 : Fld Z h2 a1 "com/example/vaxwire/vaxwire/store/OwnKeyChanges" "count" "I" (.int p9) := F_ct.other W2 (Or.inr (slot_ne (Or.inl (hw _ (List.mem_of_getElem? (i := 47) rfl))) (Or.inl (hw _ (List.mem_of_getElem? (i := 11) rfl))) (by decide) (t := .int) (t' := .long) (by decide) (by decide)))
  have F_la_2 : Fld Z h2 a1 "com/example/vaxwire/vaxwire/store/OwnKeyChanges" "last" "[I" (.ref a3) := F_la.other W2 (Or.inr (slot_ne (Or.inl (hw _ (List.mem_of_getElem? (i := 26) rfl))) (Or.inl (hw _ (List.mem_of_getElem? (i := 11) rfl))) (by decide) (t := (.array .int)) (t' := .long) (by decide) (by decide)))
  have F_to_2 : Fld Z h2 a1 "com/example/vaxwire/vaxwire/store/OwnKeyChanges" "takesOut" "[Z" (.ref a4) := F_to.other W2 (Or.inr (slot_ne (Or.inl (hw _ (List.mem_of_getElem? (i := 28) rfl))) (Or.inl (hw _ (List.mem_of_getElem? (i := 11) rfl))) (by decide) (t := (.array .boolean)) (t' := .long) (by decide) (by decide)))
  have A_3_2 : Arr Z h2 a3 cl .int := A_3.other W2 (Ne.symm ne_a1_a3)
  have A_4_2 : Arr Z h2 a4 ck .boolean := A_4.other W2 (Ne.symm ne_a1_a4)
  have Zs2 : n0 ≤ h2.size := Nat.le_trans Zs1 (Keep.of_wr W2).1
  refine own_go st2 ?_
  show own_Goes _ _ _ _ _ _ _ T2 (mkF m 11 #[.val (.ref a1)] [])
  exact own_retV X2 hx hlk hret (hb hby d7_11) (by decide) (by decide) (by rw [e2]; exact ⟨rfl, N2, Zs2, ⟨E_a1_2, F_up_2, F_mv_2, lo_a1, _, _, _, _, _, F_ct_2, F_la_2, F_to_2, A_3_2, sz3, A_4_2, sz4, lo_a3, lo_a4, ne_a1_a3, ne_a1_a4, ne_a3_a4⟩⟩)
def Q_rm_committed (Z : State) (h0 : Heap) (n0 : Nat) (a1 : Addr) (u v q1 : Int64) (r : Option Value) (h : Heap) (L : List Loc) : Prop := r = none ∧ Fr n0 L ∧ n0 ≤ h.size ∧ own_K Z h n0 a1 (own_c u q1) v
set_option maxRecDepth 65536 in
set_option maxHeartbeats 40000000 in
theorem rm_committed (l : Launch) (Z : State) (a0 : Array Value) (hw : ∀ d ∈ tables_1, d.before a0 Z = true) (ws : List Jvm.Cond) (a1 : Addr) (u v q1 : Int64) (h0 : Heap) (n0 : Nat) (Z0 : n0 ≤ h0.size) (KK : own_K Z h0 n0 a1 u v) :
    MetFree l (⟨"com/example/vaxwire/vaxwire/store/OwnKeyChanges", "committed", "(J)V"⟩ : MethodName) (head1 (Jvm.Cond.code (⟨"com/example/vaxwire/vaxwire/store/OwnKeyChanges", "committed", "(J)V"⟩ : MethodName) prog_159_method_6_code 3 none :: ws) ({ frames := 0, cells := 0, slots := 0, locals := 0 } : Room)) (fun a U => a = #[(.ref a1), (.long q1)] ∧ Z.Warmed39 U.vm ∧ U.heap = h0) (fun _ _ _ _ _ => True) (fun _ U o U' => ∃ rv rL, o = .returned rv ∧ Q_rm_committed Z h0 n0 a1 u v q1 rv U'.heap rL ∧ FrameEnd U o U' rL ({ frames := 0, cells := 0, slots := 0, locals := 0 } : Room).cells ({ frames := 0, cells := 0, slots := 0, locals := 0 } : Room).slots) := by
  refine own_met (y := (⟨"com/example/vaxwire/vaxwire/store/OwnKeyChanges", "committed", "(J)V"⟩ : MethodName)) (Q := Q_rm_committed Z h0 n0 a1 u v q1) (own := "com/example/vaxwire/vaxwire/store/OwnKeyChanges") rfl pn_9 ?_
  intro p e s m below meth c s₁ C e0 X0
  obtain ⟨hx, hby, hml, hown, hnm, hret, hlk, hZ⟩ := C
  have N0 := Fr.nil n0
  rw [ef_9]
  obtain ⟨E_a1, F_up, F_mv, lo_a1, p9, a3, a4, cl, ck, F_ct, F_la, F_to, A_3, sz3, A_4, sz4, lo_a3, lo_a4, ne_a1_a3, ne_a1_a4, ne_a3_a4⟩ := KK
  show own_Goes _ _ _ _ _ _ _ s₁ (mkF m 0 #[.val (.ref a1), .val (.long q1), .second] [])
  refine own_go (fun _ k => XS.aloadN X0.here hx rfl (hb hby d9_0) rfl rfl k) ?_
  show own_Goes _ _ _ _ _ _ _ s₁ (mkF m 1 #[.val (.ref a1), .val (.long q1), .second] [(.ref a1)])
  obtain ⟨T1, X1, e1, st1⟩ := getF X0 hx hZ hown (host := "") (Or.inl (hw _ (List.mem_of_getElem? (i := 10) rfl))) Via.refl e0 F_up (g := (mkF m 1 #[.val (.ref a1), .val (.long q1), .second] [(.ref a1)])) rfl rfl (hb hby d9_1)
  refine own_go st1 ?_
  show own_Goes _ _ _ _ _ _ _ T1 (mkF m 4 #[.val (.ref a1), .val (.long q1), .second] [(.long u)])
  refine own_go (fun _ k => XS.lconst X1.here hx rfl (hb hby d9_4) k) ?_
  show own_Goes _ _ _ _ _ _ _ T1 (mkF m 5 #[.val (.ref a1), .val (.long q1), .second] [(.long (0 : Int64)), (.long u)])
  refine own_go (fun _ k => XS.lcmp X1.here hx rfl (hb hby d9_5) rfl k) ?_
  show own_Goes _ _ _ _ _ _ _ T1 (mkF m 6 #[.val (.ref a1), .val (.long q1), .second] [(.int (lcmpW u (0 : Int64)))])
  by_cases hc6 : u < (0 : Int64)
  · refine own_go (fun _ k => XS.ifYes X1.here hx rfl (pc0 := 6) (pc' := 14) rfl (hb hby d9_6) rfl ((if0 _ _).trans (tlt ((lw_lt _ _).mpr hc6)).1) (by decide) (by decide) k) ?_
    show own_Goes _ _ _ _ _ _ _ T1 (mkF m 14 #[.val (.ref a1), .val (.long q1), .second] [])
    exact own_retV X1 hx hlk hret (hb hby d9_14) (by decide) (by decide) (by rw [e1]; exact ⟨rfl, N0, Z0, own_at (by rw [own_c, if_pos hc6]) ⟨E_a1, F_up, F_mv, lo_a1, _, _, _, _, _, F_ct, F_la, F_to, A_3, sz3, A_4, sz4, lo_a3, lo_a4, ne_a1_a3, ne_a1_a4, ne_a3_a4⟩⟩)
  · refine own_go (fun _ k => XS.ifNo X1.here hx rfl (hb hby d9_6) rfl ((if0 _ _).trans (flt (fun q => hc6 ((lw_lt _ _).mp q))).1) k) ?_
    show own_Goes _ _ _ _ _ _ _ T1 (mkF m 9 #[.val (.ref a1), .val (.long q1), .second] [])
    refine own_go (fun _ k => XS.aloadN X1.here hx rfl (hb hby d9_9) rfl rfl k) ?_
    show own_Goes _ _ _ _ _ _ _ T1 (mkF m 10 #[.val (.ref a1), .val (.long q1), .second] [(.ref a1)])
    refine own_go (fun _ k => XS.lloadN X1.here hx rfl (hb hby d9_10) rfl k) ?_
    show own_Goes _ _ _ _ _ _ _ T1 (mkF m 11 #[.val (.ref a1), .val (.long q1), .second] [(.long q1), (.ref a1)])
    obtain ⟨T2, h2, X2, e2, W2, st2⟩ := putF X1 hx hZ hown (host := "") (Or.inl (hw _ (List.mem_of_getElem? (i := 10) rfl))) Via.refl e1 F_up E_a1 (Or.inl (hw _ (List.mem_of_getElem? (i := 11) rfl))) (hw _ (List.mem_of_getElem? (i := 1) rfl)) (ty := .long) (by decide) rfl rfl (g := (mkF m 11 #[.val (.ref a1), .val (.long q1), .second] [(.long q1), (.ref a1)])) rfl rfl (hb hby d9_11)
    have F_up_2 : Fld Z h2 a1 "com/example/vaxwire/vaxwire/store/OwnKeyChanges" "upTo" "J" (.long q1) := F_up.same W2
    have N2 := Fr.snoc X2 N0 lo_a1
    have E_a1_2 : Exa Z h2 a1 "com/example/vaxwire/vaxwire/store/OwnKeyChanges" := E_a1.wr W2
    have F_mv_2 : Fld Z h2 a1 "com/example/vaxwire/vaxwire/store/OwnKeyChanges" "moves" "J" (.long v) := F_mv.other W2 (Or.inr (slot_ne (Or.inl (hw _ (List.mem_of_getElem? (i := 13) rfl))) (Or.inl (hw _ (List.mem_of_getElem? (i := 11) rfl))) (by decide) (t := .long) (t' := .long) (by decide) (by decide)))
    have F_ct_2 : Fld Z h2 a1 "com/example/vaxwire/vaxwire/store/OwnKeyChanges" "count" "I" (.int p9) := F_ct.other W2 (Or.inr (slot_ne (Or.inl (hw _ (List.mem_of_getElem? (i := 47) rfl))) (Or.inl (hw _ (List.mem_of_getElem? (i := 11) rfl))) (by decide) (t := .int) (t' := .long) (by decide) (by decide)))
    have F_la_2 : Fld Z h2 a1 "com/example/vaxwire/vaxwire/store/OwnKeyChanges" "last" "[I" (.ref a3) := F_la.other W2 (Or.inr (slot_ne (Or.inl (hw _ (List.mem_of_getElem? (i := 26) rfl))) (Or.inl (hw _ (List.mem_of_getElem? (i := 11) rfl))) (by decide) (t := (.array .int)) (t' := .long) (by decide) (by decide)))
    have F_to_2 : Fld Z h2 a1 "com/example/vaxwire/vaxwire/store/OwnKeyChanges" "takesOut" "[Z" (.ref a4) := F_to.other W2 (Or.inr (slot_ne (Or.inl (hw _ (List.mem_of_getElem? (i := 28) rfl))) (Or.inl (hw _ (List.mem_of_getElem? (i := 11) rfl))) (by decide) (t := (.array .boolean)) (t' := .long) (by decide) (by decide)))
    have A_3_2 : Arr Z h2 a3 cl .int := A_3.other W2 (Ne.symm ne_a1_a3)
    have A_4_2 : Arr Z h2 a4 ck .boolean := A_4.other W2 (Ne.symm ne_a1_a4)
    have Zs2 : n0 ≤ h2.size := Nat.le_trans Z0 (Keep.of_wr W2).1
    refine own_go st2 ?_
    show own_Goes _ _ _ _ _ _ _ T2 (mkF m 14 #[.val (.ref a1), .val (.long q1), .second] [])
    exact own_retV X2 hx hlk hret (hb hby d9_14) (by decide) (by decide) (by rw [e2]; exact ⟨rfl, N2, Zs2, own_at (by rw [own_c, if_neg hc6]) ⟨E_a1_2, F_up_2, F_mv_2, lo_a1, _, _, _, _, _, F_ct_2, F_la_2, F_to_2, A_3_2, sz3, A_4_2, sz4, lo_a3, lo_a4, ne_a1_a3, ne_a1_a4, ne_a3_a4⟩⟩)
def Q_rm_accountsFor (Z : State) (h0 : Heap) (n0 : Nat) (u v q1 q2 : Int64) (r : Option Value) (h : Heap) (L : List Loc) : Prop := r = some (.int (own_acc u v q1 q2)) ∧ Fr n0 L ∧ h = h0
set_option maxRecDepth 65536 in
set_option maxHeartbeats 40000000 in
theorem rm_accountsFor (l : Launch) (Z : State) (a0 : Array Value) (hw : ∀ d ∈ tables_1, d.before a0 Z = true) (ws : List Jvm.Cond) (a1 : Addr) (u v q1 q2 : Int64) (h0 : Heap) (n0 : Nat) (Z0 : n0 ≤ h0.size) (KK : own_K Z h0 n0 a1 u v) :
    MetFree l (⟨"com/example/vaxwire/vaxwire/store/OwnKeyChanges", "accountsFor", "(JJ)Z"⟩ : MethodName) (head1 (Jvm.Cond.code (⟨"com/example/vaxwire/vaxwire/store/OwnKeyChanges", "accountsFor", "(JJ)Z"⟩ : MethodName) prog_159_method_4_code 5 (some .boolean) :: ws) ({ frames := 0, cells := 0, slots := 0, locals := 0 } : Room)) (fun a U => a = #[(.ref a1), (.long q1), (.long q2)] ∧ Z.Warmed39 U.vm ∧ U.heap = h0) (fun _ _ _ _ _ => True) (fun _ U o U' => ∃ rv rL, o = .returned rv ∧ Q_rm_accountsFor Z h0 n0 u v q1 q2 rv U'.heap rL ∧ FrameEnd U o U' rL ({ frames := 0, cells := 0, slots := 0, locals := 0 } : Room).cells ({ frames := 0, cells := 0, slots := 0, locals := 0 } : Room).slots) := by
  refine own_met (y := (⟨"com/example/vaxwire/vaxwire/store/OwnKeyChanges", "accountsFor", "(JJ)Z"⟩ : MethodName)) (Q := Q_rm_accountsFor Z h0 n0 u v q1 q2) (own := "com/example/vaxwire/vaxwire/store/OwnKeyChanges") rfl pn_8 ?_
  intro p e s m below meth c s₁ C e0 X0
  obtain ⟨hx, hby, hml, hown, hnm, hret, hlk, hZ⟩ := C
  have N0 := Fr.nil n0
  rw [ef_8]
  obtain ⟨E_a1, F_up, F_mv, lo_a1, p9, a3, a4, cl, ck, F_ct, F_la, F_to, A_3, sz3, A_4, sz4, lo_a3, lo_a4, ne_a1_a3, ne_a1_a4, ne_a3_a4⟩ := KK
  show own_Goes _ _ _ _ _ _ _ s₁ (mkF m 0 #[.val (.ref a1), .val (.long q1), .second, .val (.long q2), .second] [])
  refine own_go (fun _ k => XS.aloadN X0.here hx rfl (hb hby d8_0) rfl rfl k) ?_
  show own_Goes _ _ _ _ _ _ _ s₁ (mkF m 1 #[.val (.ref a1), .val (.long q1), .second, .val (.long q2), .second] [(.ref a1)])
  obtain ⟨T1, X1, e1, st1⟩ := getF X0 hx hZ hown (host := "") (Or.inl (hw _ (List.mem_of_getElem? (i := 10) rfl))) Via.refl e0 F_up (g := (mkF m 1 #[.val (.ref a1), .val (.long q1), .second, .val (.long q2), .second] [(.ref a1)])) rfl rfl (hb hby d8_1)
  refine own_go st1 ?_
  show own_Goes _ _ _ _ _ _ _ T1 (mkF m 4 #[.val (.ref a1), .val (.long q1), .second, .val (.long q2), .second] [(.long u)])
  refine own_go (fun _ k => XS.lconst X1.here hx rfl (hb hby d8_4) k) ?_
  show own_Goes _ _ _ _ _ _ _ T1 (mkF m 5 #[.val (.ref a1), .val (.long q1), .second, .val (.long q2), .second] [(.long (0 : Int64)), (.long u)])
  refine own_go (fun _ k => XS.lcmp X1.here hx rfl (hb hby d8_5) rfl k) ?_
  show own_Goes _ _ _ _ _ _ _ T1 (mkF m 6 #[.val (.ref a1), .val (.long q1), .second, .val (.long q2), .second] [(.int (lcmpW u (0 : Int64)))])
  by_cases hc6 : u < (0 : Int64)
  · refine own_go (fun _ k => XS.ifYes X1.here hx rfl (pc0 := 6) (pc' := 31) rfl (hb hby d8_6) rfl ((if0 _ _).trans (tlt ((lw_lt _ _).mpr hc6)).1) (by decide) (by decide) k) ?_
    show own_Goes _ _ _ _ _ _ _ T1 (mkF m 31 #[.val (.ref a1), .val (.long q1), .second, .val (.long q2), .second] [])
    refine own_go (fun _ k => XS.iconst X1.here hx rfl (hb hby d8_31) k) ?_
    show own_Goes _ _ _ _ _ _ _ T1 (mkF m 32 #[.val (.ref a1), .val (.long q1), .second, .val (.long q2), .second] [(.int (0 : Int32))])
    exact own_retN X1 hx (t := .boolean) hlk hret (by simp) (hb hby d8_32) (by decide) (by decide) (by rw [e1]; exact ⟨by rw [own_acc, if_pos hc6] <;> rfl, N0, rfl⟩)
  · refine own_go (fun _ k => XS.ifNo X1.here hx rfl (hb hby d8_6) rfl ((if0 _ _).trans (flt (fun q => hc6 ((lw_lt _ _).mp q))).1) k) ?_
    show own_Goes _ _ _ _ _ _ _ T1 (mkF m 9 #[.val (.ref a1), .val (.long q1), .second, .val (.long q2), .second] [])
    refine own_go (fun _ k => XS.aloadN X1.here hx rfl (hb hby d8_9) rfl rfl k) ?_
    show own_Goes _ _ _ _ _ _ _ T1 (mkF m 10 #[.val (.ref a1), .val (.long q1), .second, .val (.long q2), .second] [(.ref a1)])
    obtain ⟨T2, X2, e2, st2⟩ := getF X1 hx hZ hown (host := "") (Or.inl (hw _ (List.mem_of_getElem? (i := 10) rfl))) Via.refl e1 F_up (g := (mkF m 10 #[.val (.ref a1), .val (.long q1), .second, .val (.long q2), .second] [(.ref a1)])) rfl rfl (hb hby d8_10)
    refine own_go st2 ?_
    show own_Goes _ _ _ _ _ _ _ T2 (mkF m 13 #[.val (.ref a1), .val (.long q1), .second, .val (.long q2), .second] [(.long u)])
    refine own_go (fun _ k => XS.lloadN X2.here hx rfl (hb hby d8_13) rfl k) ?_
    show own_Goes _ _ _ _ _ _ _ T2 (mkF m 14 #[.val (.ref a1), .val (.long q1), .second, .val (.long q2), .second] [(.long q1), (.long u)])
    refine own_go (fun _ k => XS.lcmp X2.here hx rfl (hb hby d8_14) rfl k) ?_
    show own_Goes _ _ _ _ _ _ _ T2 (mkF m 15 #[.val (.ref a1), .val (.long q1), .second, .val (.long q2), .second] [(.int (lcmpW u q1))])
    by_cases hc15 : u = q1
    · refine own_go (fun _ k => XS.ifNo X2.here hx rfl (hb hby d8_15) rfl ((if0 _ _).trans (teq ((lw_eq _ _).mpr hc15)).2) k) ?_
      show own_Goes _ _ _ _ _ _ _ T2 (mkF m 18 #[.val (.ref a1), .val (.long q1), .second, .val (.long q2), .second] [])
      refine own_go (fun _ k => XS.aloadN X2.here hx rfl (hb hby d8_18) rfl rfl k) ?_
      show own_Goes _ _ _ _ _ _ _ T2 (mkF m 19 #[.val (.ref a1), .val (.long q1), .second, .val (.long q2), .second] [(.ref a1)])
      obtain ⟨T3, X3, e3, st3⟩ := getF X2 hx hZ hown (host := "") (Or.inl (hw _ (List.mem_of_getElem? (i := 12) rfl))) Via.refl e2 F_mv (g := (mkF m 19 #[.val (.ref a1), .val (.long q1), .second, .val (.long q2), .second] [(.ref a1)])) rfl rfl (hb hby d8_19)
      refine own_go st3 ?_
      show own_Goes _ _ _ _ _ _ _ T3 (mkF m 22 #[.val (.ref a1), .val (.long q1), .second, .val (.long q2), .second] [(.long v)])
      refine own_go (fun _ k => XS.lloadN X3.here hx rfl (hb hby d8_22) rfl k) ?_
      show own_Goes _ _ _ _ _ _ _ T3 (mkF m 23 #[.val (.ref a1), .val (.long q1), .second, .val (.long q2), .second] [(.long q2), (.long v)])
      refine own_go (fun _ k => XS.lcmp X3.here hx rfl (hb hby d8_23) rfl k) ?_
      show own_Goes _ _ _ _ _ _ _ T3 (mkF m 24 #[.val (.ref a1), .val (.long q1), .second, .val (.long q2), .second] [(.int (lcmpW v q2))])
      by_cases hc24 : v = q2
      · refine own_go (fun _ k => XS.ifNo X3.here hx rfl (hb hby d8_24) rfl ((if0 _ _).trans (teq ((lw_eq _ _).mpr hc24)).2) k) ?_
        show own_Goes _ _ _ _ _ _ _ T3 (mkF m 27 #[.val (.ref a1), .val (.long q1), .second, .val (.long q2), .second] [])
        refine own_go (fun _ k => XS.iconst X3.here hx rfl (hb hby d8_27) k) ?_
        show own_Goes _ _ _ _ _ _ _ T3 (mkF m 28 #[.val (.ref a1), .val (.long q1), .second, .val (.long q2), .second] [(.int (1 : Int32))])
        refine own_go (fun _ k => XS.goto X3.here hx rfl (pc0 := 28) (pc' := 32) rfl (hb hby d8_28) (by decide) (by decide) k) ?_
        show own_Goes _ _ _ _ _ _ _ T3 (mkF m 32 #[.val (.ref a1), .val (.long q1), .second, .val (.long q2), .second] [(.int (1 : Int32))])
        exact own_retN X3 hx (t := .boolean) hlk hret (by simp) (hb hby d8_32) (by decide) (by decide) (by rw [e3]; exact ⟨by rw [own_acc, if_neg hc6, if_pos hc15, if_pos hc24] <;> rfl, N0, rfl⟩)
      · refine own_go (fun _ k => XS.ifYes X3.here hx rfl (pc0 := 24) (pc' := 31) rfl (hb hby d8_24) rfl ((if0 _ _).trans (feq (fun q => hc24 ((lw_eq _ _).mp q))).2) (by decide) (by decide) k) ?_
        show own_Goes _ _ _ _ _ _ _ T3 (mkF m 31 #[.val (.ref a1), .val (.long q1), .second, .val (.long q2), .second] [])
        refine own_go (fun _ k => XS.iconst X3.here hx rfl (hb hby d8_31) k) ?_
        show own_Goes _ _ _ _ _ _ _ T3 (mkF m 32 #[.val (.ref a1), .val (.long q1), .second, .val (.long q2), .second] [(.int (0 : Int32))])
        exact own_retN X3 hx (t := .boolean) hlk hret (by simp) (hb hby d8_32) (by decide) (by decide) (by rw [e3]; exact ⟨by rw [own_acc, if_neg hc6, if_pos hc15, if_neg hc24] <;> rfl, N0, rfl⟩)
    · refine own_go (fun _ k => XS.ifYes X2.here hx rfl (pc0 := 15) (pc' := 31) rfl (hb hby d8_15) rfl ((if0 _ _).trans (feq (fun q => hc15 ((lw_eq _ _).mp q))).2) (by decide) (by decide) k) ?_
      show own_Goes _ _ _ _ _ _ _ T2 (mkF m 31 #[.val (.ref a1), .val (.long q1), .second, .val (.long q2), .second] [])
      refine own_go (fun _ k => XS.iconst X2.here hx rfl (hb hby d8_31) k) ?_
      show own_Goes _ _ _ _ _ _ _ T2 (mkF m 32 #[.val (.ref a1), .val (.long q1), .second, .val (.long q2), .second] [(.int (0 : Int32))])
      exact own_retN X2 hx (t := .boolean) hlk hret (by simp) (hb hby d8_32) (by decide) (by decide) (by rw [e2]; exact ⟨by rw [own_acc, if_neg hc6, if_neg hc15] <;> rfl, N0, rfl⟩)
set_option maxRecDepth 65536 in
set_option maxHeartbeats 40000000 in
theorem seg151 {p : Program} {l : Launch} {e : Env} {s : State} {m : MethodId} {args : Array Value} {below : List Frame} {meth : Method} {c : Code} {s₁ : State} {locs : List Loc} {Z : State} {a0 : Array Value} {h0 : Heap} (q0 q2 q4 q6 q8 u v : Int64) (p10 p12 : Int32) (a1 : Addr) (xx yy : Int64)
    (hw : ∀ d ∈ tables_1, d.before a0 Z = true) (C : own_Ctx Z x "com/example/vaxwire/vaxwire/store/OwnKeyChangesAccountsForPinLaw" code maxLocals ret p s m meth c) (X0 : Stand p l e room_1 s m args below meth c s₁ locs 7 8201) (e0 : s₁.heap = h0) (n0 : Nat) (Z0 : n0 ≤ h0.size) (N0 : Fr n0 locs) (KK : own_K Z h0 n0 a1 u v) :
    own_Goes p e below s (fun v h L => v = some (.int 1) ∧ Fr n0 L) room_1.cells room_1.slots s₁ (mkF m 151 #[.val (.long q0), .second, .val (.long q2), .second, .val (.long q4), .second, .val (.long q6), .second, .val (.long q8), .second, .val (.int p10), .val (.ref a1), .val (.int p12), .val (.long u), .second, .val (.long v), .second, .val (.long xx), .second, .val (.long yy), .second, .unset] []) := by
  obtain ⟨hx, hby, hml, hown, hnm, hret, hlk, hZ⟩ := C
  refine own_go (fun _ k => XS.lload X0.here hx rfl (hb hby at_151) rfl k) ?_
  show own_Goes _ _ _ _ _ _ _ s₁ (mkF m 153 #[.val (.long q0), .second, .val (.long q2), .second, .val (.long q4), .second, .val (.long q6), .second, .val (.long q8), .second, .val (.int p10), .val (.ref a1), .val (.int p12), .val (.long u), .second, .val (.long v), .second, .val (.long xx), .second, .val (.long yy), .second, .unset] [(.long u)])
  refine own_go (fun _ k => XS.lconst X0.here hx rfl (hb hby at_153) k) ?_
  show own_Goes _ _ _ _ _ _ _ s₁ (mkF m 154 #[.val (.long q0), .second, .val (.long q2), .second, .val (.long q4), .second, .val (.long q6), .second, .val (.long q8), .second, .val (.int p10), .val (.ref a1), .val (.int p12), .val (.long u), .second, .val (.long v), .second, .val (.long xx), .second, .val (.long yy), .second, .unset] [(.long (0 : Int64)), (.long u)])
  refine own_go (fun _ k => XS.lcmp X0.here hx rfl (hb hby at_154) rfl k) ?_
  show own_Goes _ _ _ _ _ _ _ s₁ (mkF m 155 #[.val (.long q0), .second, .val (.long q2), .second, .val (.long q4), .second, .val (.long q6), .second, .val (.long q8), .second, .val (.int p10), .val (.ref a1), .val (.int p12), .val (.long u), .second, .val (.long v), .second, .val (.long xx), .second, .val (.long yy), .second, .unset] [(.int (lcmpW u (0 : Int64)))])
  by_cases hc155 : u < (0 : Int64)
  · refine own_go (fun _ k => XS.ifNo X0.here hx rfl (hb hby at_155) rfl ((if0 _ _).trans (tlt ((lw_lt _ _).mpr hc155)).2.1) k) ?_
    show own_Goes _ _ _ _ _ _ _ s₁ (mkF m 158 #[.val (.long q0), .second, .val (.long q2), .second, .val (.long q4), .second, .val (.long q6), .second, .val (.long q8), .second, .val (.int p10), .val (.ref a1), .val (.int p12), .val (.long u), .second, .val (.long v), .second, .val (.long xx), .second, .val (.long yy), .second, .unset] [])
    refine own_go (fun _ k => XS.iconst X0.here hx rfl (hb hby at_158) k) ?_
    show own_Goes _ _ _ _ _ _ _ s₁ (mkF m 159 #[.val (.long q0), .second, .val (.long q2), .second, .val (.long q4), .second, .val (.long q6), .second, .val (.long q8), .second, .val (.int p10), .val (.ref a1), .val (.int p12), .val (.long u), .second, .val (.long v), .second, .val (.long xx), .second, .val (.long yy), .second, .unset] [(.int (0 : Int32))])
    refine own_go (fun _ k => XS.istore X0.here hx rfl (hb hby at_159) rfl (l' := #[.val (.long q0), .second, .val (.long q2), .second, .val (.long q4), .second, .val (.long q6), .second, .val (.long q8), .second, .val (.int p10), .val (.ref a1), .val (.int p12), .val (.long u), .second, .val (.long v), .second, .val (.long xx), .second, .val (.long yy), .second, .val (.int (0 : Int32))]) rfl k) ?_
    show own_Goes _ _ _ _ _ _ _ s₁ (mkF m 161 #[.val (.long q0), .second, .val (.long q2), .second, .val (.long q4), .second, .val (.long q6), .second, .val (.long q8), .second, .val (.int p10), .val (.ref a1), .val (.int p12), .val (.long u), .second, .val (.long v), .second, .val (.long xx), .second, .val (.long yy), .second, .val (.int (0 : Int32))] [])
    refine own_go (fun _ k => XS.goto X0.here hx rfl (pc0 := 161) (pc' := 187) rfl (hb hby at_161) (by decide) (by decide) k) ?_
    show own_Goes _ _ _ _ _ _ _ s₁ (mkF m 187 #[.val (.long q0), .second, .val (.long q2), .second, .val (.long q4), .second, .val (.long q6), .second, .val (.long q8), .second, .val (.int p10), .val (.ref a1), .val (.int p12), .val (.long u), .second, .val (.long v), .second, .val (.long xx), .second, .val (.long yy), .second, .val (.int (0 : Int32))] [])
    refine own_go (fun _ k => XS.aload X0.here hx rfl (hb hby at_187) rfl rfl k) ?_
    show own_Goes _ _ _ _ _ _ _ s₁ (mkF m 189 #[.val (.long q0), .second, .val (.long q2), .second, .val (.long q4), .second, .val (.long q6), .second, .val (.long q8), .second, .val (.int p10), .val (.ref a1), .val (.int p12), .val (.long u), .second, .val (.long v), .second, .val (.long xx), .second, .val (.long yy), .second, .val (.int (0 : Int32))] [(.ref a1)])
    refine own_go (fun _ k => XS.lload X0.here hx rfl (hb hby at_189) rfl k) ?_
    show own_Goes _ _ _ _ _ _ _ s₁ (mkF m 191 #[.val (.long q0), .second, .val (.long q2), .second, .val (.long q4), .second, .val (.long q6), .second, .val (.long q8), .second, .val (.int p10), .val (.ref a1), .val (.int p12), .val (.long u), .second, .val (.long v), .second, .val (.long xx), .second, .val (.long yy), .second, .val (.int (0 : Int32))] [(.long xx), (.ref a1)])
    refine own_go (fun _ k => XS.lload X0.here hx rfl (hb hby at_191) rfl k) ?_
    show own_Goes _ _ _ _ _ _ _ s₁ (mkF m 193 #[.val (.long q0), .second, .val (.long q2), .second, .val (.long q4), .second, .val (.long q6), .second, .val (.long q8), .second, .val (.int p10), .val (.ref a1), .val (.int p12), .val (.long u), .second, .val (.long v), .second, .val (.long xx), .second, .val (.long yy), .second, .val (.int (0 : Int32))] [(.long yy), (.long xx), (.ref a1)])
    obtain ⟨cq1, kq1, zq1a, zq1b, zq1c⟩ := isOf hZ e0 KK.1
    obtain ⟨_, _, ⟨T1, L1, k1, n1⟩, -, X1, ⟨Lc1, hQ1, l1, y1, z1⟩, st1⟩ := X0.virtualBack hx (y := (⟨"com/example/vaxwire/vaxwire/store/OwnKeyChanges", "accountsFor", "(JJ)Z"⟩ : MethodName)) (z := (⟨"com/example/vaxwire/vaxwire/store/OwnKeyChanges", "accountsFor", "(JJ)Z"⟩ : MethodName)) hown (mvT hZ (hw _ (List.mem_of_getElem? (i := 53) rfl))) (mvT hZ (hw _ (List.mem_of_getElem? (i := 54) rfl))) (notFace_of_selects (args := #[]) (mvT hZ (hw _ (List.mem_of_getElem? (i := 56) rfl)))) (mvT hZ (hw _ (List.mem_of_getElem? (i := 56) rfl))) (mvT hZ (hw _ (List.mem_of_getElem? (i := 55) rfl))) (by decide) (backOf (W := 0) (rm_accountsFor l Z a0 hw [] a1 u v xx yy h0 n0 Z0 KK) hZ (hw _ (List.mem_of_getElem? (i := 57) rfl)) (hw _ (List.mem_of_getElem? (i := 2) rfl)) (by decide) (by decide)) zq1a zq1c (g := (mkF m 193 #[.val (.long q0), .second, .val (.long q2), .second, .val (.long q4), .second, .val (.long q6), .second, .val (.long q8), .second, .val (.int p10), .val (.ref a1), .val (.int p12), .val (.long u), .second, .val (.long v), .second, .val (.long xx), .second, .val (.long yy), .second, .val (.int (0 : Int32))] [(.long yy), (.long xx), (.ref a1)])) rfl (by rw [hml]; rfl) (Steps.refl _) (argsL := [(.long xx), (.long yy)]) (rest := []) (lenOf pd_3 rfl) rfl (by show 2 * 0 + _ ≤ _; exact Nat.le_of_eq rfl) (hb hby at_193) (fun _ _ => ⟨rfl, e0, (by decide : 7 + 0 ≤ _), (by decide : 8201 + 0 ≤ _)⟩)
    dsimp only [Pt.U, Pt.locs, Pt.cells, Pt.slots] at X1 l1 y1 z1 st1 hQ1
    subst l1 y1 z1
    obtain ⟨rfl, N1q, e1⟩ := hQ1
    have N1 := Fr.app N0 N1q
    refine own_goS st1 ?_
    show own_Goes _ _ _ _ _ _ _ T1 (mkF m 196 #[.val (.long q0), .second, .val (.long q2), .second, .val (.long q4), .second, .val (.long q6), .second, .val (.long q8), .second, .val (.int p10), .val (.ref a1), .val (.int p12), .val (.long u), .second, .val (.long v), .second, .val (.long xx), .second, .val (.long yy), .second, .val (.int (0 : Int32))] [(.int (own_acc u v xx yy))])
    refine own_go (fun _ k => XS.iload X1.here hx rfl (hb hby at_196) rfl k) ?_
    show own_Goes _ _ _ _ _ _ _ T1 (mkF m 198 #[.val (.long q0), .second, .val (.long q2), .second, .val (.long q4), .second, .val (.long q6), .second, .val (.long q8), .second, .val (.int p10), .val (.ref a1), .val (.int p12), .val (.long u), .second, .val (.long v), .second, .val (.long xx), .second, .val (.long yy), .second, .val (.int (0 : Int32))] [(.int (0 : Int32)), (.int (own_acc u v xx yy))])
    refine own_go (fun _ k => XS.icmpNo X1.here hx rfl (hb hby at_198) rfl (teq (by rw [own_acc, if_pos hc155] : (own_acc u v xx yy) = (0 : Int32))).2 k) ?_
    show own_Goes _ _ _ _ _ _ _ T1 (mkF m 201 #[.val (.long q0), .second, .val (.long q2), .second, .val (.long q4), .second, .val (.long q6), .second, .val (.long q8), .second, .val (.int p10), .val (.ref a1), .val (.int p12), .val (.long u), .second, .val (.long v), .second, .val (.long xx), .second, .val (.long yy), .second, .val (.int (0 : Int32))] [])
    refine own_go (fun _ k => XS.iconst X1.here hx rfl (hb hby at_201) k) ?_
    show own_Goes _ _ _ _ _ _ _ T1 (mkF m 202 #[.val (.long q0), .second, .val (.long q2), .second, .val (.long q4), .second, .val (.long q6), .second, .val (.long q8), .second, .val (.int p10), .val (.ref a1), .val (.int p12), .val (.long u), .second, .val (.long v), .second, .val (.long xx), .second, .val (.long yy), .second, .val (.int (0 : Int32))] [(.int (1 : Int32))])
    refine own_go (fun _ k => XS.goto X1.here hx rfl (pc0 := 202) (pc' := 206) rfl (hb hby at_202) (by decide) (by decide) k) ?_
    show own_Goes _ _ _ _ _ _ _ T1 (mkF m 206 #[.val (.long q0), .second, .val (.long q2), .second, .val (.long q4), .second, .val (.long q6), .second, .val (.long q8), .second, .val (.int p10), .val (.ref a1), .val (.int p12), .val (.long u), .second, .val (.long v), .second, .val (.long xx), .second, .val (.long yy), .second, .val (.int (0 : Int32))] [(.int (1 : Int32))])
    exact own_retN X1 hx (t := .boolean) hlk hret (by simp) (hb hby at_206) (by decide) (by decide) ⟨rfl, N1⟩
  · refine own_go (fun _ k => XS.ifYes X0.here hx rfl (pc0 := 155) (pc' := 164) rfl (hb hby at_155) rfl ((if0 _ _).trans (flt (fun q => hc155 ((lw_lt _ _).mp q))).2.1) (by decide) (by decide) k) ?_
    show own_Goes _ _ _ _ _ _ _ s₁ (mkF m 164 #[.val (.long q0), .second, .val (.long q2), .second, .val (.long q4), .second, .val (.long q6), .second, .val (.long q8), .second, .val (.int p10), .val (.ref a1), .val (.int p12), .val (.long u), .second, .val (.long v), .second, .val (.long xx), .second, .val (.long yy), .second, .unset] [])
    refine own_go (fun _ k => XS.lload X0.here hx rfl (hb hby at_164) rfl k) ?_
    show own_Goes _ _ _ _ _ _ _ s₁ (mkF m 166 #[.val (.long q0), .second, .val (.long q2), .second, .val (.long q4), .second, .val (.long q6), .second, .val (.long q8), .second, .val (.int p10), .val (.ref a1), .val (.int p12), .val (.long u), .second, .val (.long v), .second, .val (.long xx), .second, .val (.long yy), .second, .unset] [(.long xx)])
    refine own_go (fun _ k => XS.lload X0.here hx rfl (hb hby at_166) rfl k) ?_
    show own_Goes _ _ _ _ _ _ _ s₁ (mkF m 168 #[.val (.long q0), .second, .val (.long q2), .second, .val (.long q4), .second, .val (.long q6), .second, .val (.long q8), .second, .val (.int p10), .val (.ref a1), .val (.int p12), .val (.long u), .second, .val (.long v), .second, .val (.long xx), .second, .val (.long yy), .second, .unset] [(.long u), (.long xx)])
    refine own_go (fun _ k => XS.lcmp X0.here hx rfl (hb hby at_168) rfl k) ?_
    show own_Goes _ _ _ _ _ _ _ s₁ (mkF m 169 #[.val (.long q0), .second, .val (.long q2), .second, .val (.long q4), .second, .val (.long q6), .second, .val (.long q8), .second, .val (.int p10), .val (.ref a1), .val (.int p12), .val (.long u), .second, .val (.long v), .second, .val (.long xx), .second, .val (.long yy), .second, .unset] [(.int (lcmpW xx u))])
    by_cases hc169 : xx = u
    · refine own_go (fun _ k => XS.ifNo X0.here hx rfl (hb hby at_169) rfl ((if0 _ _).trans (teq ((lw_eq _ _).mpr hc169)).2) k) ?_
      show own_Goes _ _ _ _ _ _ _ s₁ (mkF m 172 #[.val (.long q0), .second, .val (.long q2), .second, .val (.long q4), .second, .val (.long q6), .second, .val (.long q8), .second, .val (.int p10), .val (.ref a1), .val (.int p12), .val (.long u), .second, .val (.long v), .second, .val (.long xx), .second, .val (.long yy), .second, .unset] [])
      refine own_go (fun _ k => XS.lload X0.here hx rfl (hb hby at_172) rfl k) ?_
      show own_Goes _ _ _ _ _ _ _ s₁ (mkF m 174 #[.val (.long q0), .second, .val (.long q2), .second, .val (.long q4), .second, .val (.long q6), .second, .val (.long q8), .second, .val (.int p10), .val (.ref a1), .val (.int p12), .val (.long u), .second, .val (.long v), .second, .val (.long xx), .second, .val (.long yy), .second, .unset] [(.long yy)])
      refine own_go (fun _ k => XS.lload X0.here hx rfl (hb hby at_174) rfl k) ?_
      show own_Goes _ _ _ _ _ _ _ s₁ (mkF m 176 #[.val (.long q0), .second, .val (.long q2), .second, .val (.long q4), .second, .val (.long q6), .second, .val (.long q8), .second, .val (.int p10), .val (.ref a1), .val (.int p12), .val (.long u), .second, .val (.long v), .second, .val (.long xx), .second, .val (.long yy), .second, .unset] [(.long v), (.long yy)])
      refine own_go (fun _ k => XS.lcmp X0.here hx rfl (hb hby at_176) rfl k) ?_
      show own_Goes _ _ _ _ _ _ _ s₁ (mkF m 177 #[.val (.long q0), .second, .val (.long q2), .second, .val (.long q4), .second, .val (.long q6), .second, .val (.long q8), .second, .val (.int p10), .val (.ref a1), .val (.int p12), .val (.long u), .second, .val (.long v), .second, .val (.long xx), .second, .val (.long yy), .second, .unset] [(.int (lcmpW yy v))])
      by_cases hc177 : yy = v
      · refine own_go (fun _ k => XS.ifNo X0.here hx rfl (hb hby at_177) rfl ((if0 _ _).trans (teq ((lw_eq _ _).mpr hc177)).2) k) ?_
        show own_Goes _ _ _ _ _ _ _ s₁ (mkF m 180 #[.val (.long q0), .second, .val (.long q2), .second, .val (.long q4), .second, .val (.long q6), .second, .val (.long q8), .second, .val (.int p10), .val (.ref a1), .val (.int p12), .val (.long u), .second, .val (.long v), .second, .val (.long xx), .second, .val (.long yy), .second, .unset] [])
        refine own_go (fun _ k => XS.iconst X0.here hx rfl (hb hby at_180) k) ?_
        show own_Goes _ _ _ _ _ _ _ s₁ (mkF m 181 #[.val (.long q0), .second, .val (.long q2), .second, .val (.long q4), .second, .val (.long q6), .second, .val (.long q8), .second, .val (.int p10), .val (.ref a1), .val (.int p12), .val (.long u), .second, .val (.long v), .second, .val (.long xx), .second, .val (.long yy), .second, .unset] [(.int (1 : Int32))])
        refine own_go (fun _ k => XS.goto X0.here hx rfl (pc0 := 181) (pc' := 185) rfl (hb hby at_181) (by decide) (by decide) k) ?_
        show own_Goes _ _ _ _ _ _ _ s₁ (mkF m 185 #[.val (.long q0), .second, .val (.long q2), .second, .val (.long q4), .second, .val (.long q6), .second, .val (.long q8), .second, .val (.int p10), .val (.ref a1), .val (.int p12), .val (.long u), .second, .val (.long v), .second, .val (.long xx), .second, .val (.long yy), .second, .unset] [(.int (1 : Int32))])
        refine own_go (fun _ k => XS.istore X0.here hx rfl (hb hby at_185) rfl (l' := #[.val (.long q0), .second, .val (.long q2), .second, .val (.long q4), .second, .val (.long q6), .second, .val (.long q8), .second, .val (.int p10), .val (.ref a1), .val (.int p12), .val (.long u), .second, .val (.long v), .second, .val (.long xx), .second, .val (.long yy), .second, .val (.int (1 : Int32))]) rfl k) ?_
        show own_Goes _ _ _ _ _ _ _ s₁ (mkF m 187 #[.val (.long q0), .second, .val (.long q2), .second, .val (.long q4), .second, .val (.long q6), .second, .val (.long q8), .second, .val (.int p10), .val (.ref a1), .val (.int p12), .val (.long u), .second, .val (.long v), .second, .val (.long xx), .second, .val (.long yy), .second, .val (.int (1 : Int32))] [])
        refine own_go (fun _ k => XS.aload X0.here hx rfl (hb hby at_187) rfl rfl k) ?_
        show own_Goes _ _ _ _ _ _ _ s₁ (mkF m 189 #[.val (.long q0), .second, .val (.long q2), .second, .val (.long q4), .second, .val (.long q6), .second, .val (.long q8), .second, .val (.int p10), .val (.ref a1), .val (.int p12), .val (.long u), .second, .val (.long v), .second, .val (.long xx), .second, .val (.long yy), .second, .val (.int (1 : Int32))] [(.ref a1)])
        refine own_go (fun _ k => XS.lload X0.here hx rfl (hb hby at_189) rfl k) ?_
        show own_Goes _ _ _ _ _ _ _ s₁ (mkF m 191 #[.val (.long q0), .second, .val (.long q2), .second, .val (.long q4), .second, .val (.long q6), .second, .val (.long q8), .second, .val (.int p10), .val (.ref a1), .val (.int p12), .val (.long u), .second, .val (.long v), .second, .val (.long xx), .second, .val (.long yy), .second, .val (.int (1 : Int32))] [(.long xx), (.ref a1)])
        refine own_go (fun _ k => XS.lload X0.here hx rfl (hb hby at_191) rfl k) ?_
        show own_Goes _ _ _ _ _ _ _ s₁ (mkF m 193 #[.val (.long q0), .second, .val (.long q2), .second, .val (.long q4), .second, .val (.long q6), .second, .val (.long q8), .second, .val (.int p10), .val (.ref a1), .val (.int p12), .val (.long u), .second, .val (.long v), .second, .val (.long xx), .second, .val (.long yy), .second, .val (.int (1 : Int32))] [(.long yy), (.long xx), (.ref a1)])
        obtain ⟨cq2, kq2, zq2a, zq2b, zq2c⟩ := isOf hZ e0 KK.1
        obtain ⟨_, _, ⟨T2, L2, k2, n2⟩, -, X2, ⟨Lc2, hQ2, l2, y2, z2⟩, st2⟩ := X0.virtualBack hx (y := (⟨"com/example/vaxwire/vaxwire/store/OwnKeyChanges", "accountsFor", "(JJ)Z"⟩ : MethodName)) (z := (⟨"com/example/vaxwire/vaxwire/store/OwnKeyChanges", "accountsFor", "(JJ)Z"⟩ : MethodName)) hown (mvT hZ (hw _ (List.mem_of_getElem? (i := 53) rfl))) (mvT hZ (hw _ (List.mem_of_getElem? (i := 54) rfl))) (notFace_of_selects (args := #[]) (mvT hZ (hw _ (List.mem_of_getElem? (i := 56) rfl)))) (mvT hZ (hw _ (List.mem_of_getElem? (i := 56) rfl))) (mvT hZ (hw _ (List.mem_of_getElem? (i := 55) rfl))) (by decide) (backOf (W := 0) (rm_accountsFor l Z a0 hw [] a1 u v xx yy h0 n0 Z0 KK) hZ (hw _ (List.mem_of_getElem? (i := 57) rfl)) (hw _ (List.mem_of_getElem? (i := 2) rfl)) (by decide) (by decide)) zq2a zq2c (g := (mkF m 193 #[.val (.long q0), .second, .val (.long q2), .second, .val (.long q4), .second, .val (.long q6), .second, .val (.long q8), .second, .val (.int p10), .val (.ref a1), .val (.int p12), .val (.long u), .second, .val (.long v), .second, .val (.long xx), .second, .val (.long yy), .second, .val (.int (1 : Int32))] [(.long yy), (.long xx), (.ref a1)])) rfl (by rw [hml]; rfl) (Steps.refl _) (argsL := [(.long xx), (.long yy)]) (rest := []) (lenOf pd_3 rfl) rfl (by show 2 * 0 + _ ≤ _; exact Nat.le_of_eq rfl) (hb hby at_193) (fun _ _ => ⟨rfl, e0, (by decide : 7 + 0 ≤ _), (by decide : 8201 + 0 ≤ _)⟩)
        dsimp only [Pt.U, Pt.locs, Pt.cells, Pt.slots] at X2 l2 y2 z2 st2 hQ2
        subst l2 y2 z2
        obtain ⟨rfl, N2q, e2⟩ := hQ2
        have N2 := Fr.app N0 N2q
        refine own_goS st2 ?_
        show own_Goes _ _ _ _ _ _ _ T2 (mkF m 196 #[.val (.long q0), .second, .val (.long q2), .second, .val (.long q4), .second, .val (.long q6), .second, .val (.long q8), .second, .val (.int p10), .val (.ref a1), .val (.int p12), .val (.long u), .second, .val (.long v), .second, .val (.long xx), .second, .val (.long yy), .second, .val (.int (1 : Int32))] [(.int (own_acc u v xx yy))])
        refine own_go (fun _ k => XS.iload X2.here hx rfl (hb hby at_196) rfl k) ?_
        show own_Goes _ _ _ _ _ _ _ T2 (mkF m 198 #[.val (.long q0), .second, .val (.long q2), .second, .val (.long q4), .second, .val (.long q6), .second, .val (.long q8), .second, .val (.int p10), .val (.ref a1), .val (.int p12), .val (.long u), .second, .val (.long v), .second, .val (.long xx), .second, .val (.long yy), .second, .val (.int (1 : Int32))] [(.int (1 : Int32)), (.int (own_acc u v xx yy))])
        refine own_go (fun _ k => XS.icmpNo X2.here hx rfl (hb hby at_198) rfl (teq (by rw [own_acc, if_neg hc155, if_pos hc169.symm, if_pos hc177.symm] : (own_acc u v xx yy) = (1 : Int32))).2 k) ?_
        show own_Goes _ _ _ _ _ _ _ T2 (mkF m 201 #[.val (.long q0), .second, .val (.long q2), .second, .val (.long q4), .second, .val (.long q6), .second, .val (.long q8), .second, .val (.int p10), .val (.ref a1), .val (.int p12), .val (.long u), .second, .val (.long v), .second, .val (.long xx), .second, .val (.long yy), .second, .val (.int (1 : Int32))] [])
        refine own_go (fun _ k => XS.iconst X2.here hx rfl (hb hby at_201) k) ?_
        show own_Goes _ _ _ _ _ _ _ T2 (mkF m 202 #[.val (.long q0), .second, .val (.long q2), .second, .val (.long q4), .second, .val (.long q6), .second, .val (.long q8), .second, .val (.int p10), .val (.ref a1), .val (.int p12), .val (.long u), .second, .val (.long v), .second, .val (.long xx), .second, .val (.long yy), .second, .val (.int (1 : Int32))] [(.int (1 : Int32))])
        refine own_go (fun _ k => XS.goto X2.here hx rfl (pc0 := 202) (pc' := 206) rfl (hb hby at_202) (by decide) (by decide) k) ?_
        show own_Goes _ _ _ _ _ _ _ T2 (mkF m 206 #[.val (.long q0), .second, .val (.long q2), .second, .val (.long q4), .second, .val (.long q6), .second, .val (.long q8), .second, .val (.int p10), .val (.ref a1), .val (.int p12), .val (.long u), .second, .val (.long v), .second, .val (.long xx), .second, .val (.long yy), .second, .val (.int (1 : Int32))] [(.int (1 : Int32))])
        exact own_retN X2 hx (t := .boolean) hlk hret (by simp) (hb hby at_206) (by decide) (by decide) ⟨rfl, N2⟩
      · refine own_go (fun _ k => XS.ifYes X0.here hx rfl (pc0 := 177) (pc' := 184) rfl (hb hby at_177) rfl ((if0 _ _).trans (feq (fun q => hc177 ((lw_eq _ _).mp q))).2) (by decide) (by decide) k) ?_
        show own_Goes _ _ _ _ _ _ _ s₁ (mkF m 184 #[.val (.long q0), .second, .val (.long q2), .second, .val (.long q4), .second, .val (.long q6), .second, .val (.long q8), .second, .val (.int p10), .val (.ref a1), .val (.int p12), .val (.long u), .second, .val (.long v), .second, .val (.long xx), .second, .val (.long yy), .second, .unset] [])
        refine own_go (fun _ k => XS.iconst X0.here hx rfl (hb hby at_184) k) ?_
        show own_Goes _ _ _ _ _ _ _ s₁ (mkF m 185 #[.val (.long q0), .second, .val (.long q2), .second, .val (.long q4), .second, .val (.long q6), .second, .val (.long q8), .second, .val (.int p10), .val (.ref a1), .val (.int p12), .val (.long u), .second, .val (.long v), .second, .val (.long xx), .second, .val (.long yy), .second, .unset] [(.int (0 : Int32))])
        refine own_go (fun _ k => XS.istore X0.here hx rfl (hb hby at_185) rfl (l' := #[.val (.long q0), .second, .val (.long q2), .second, .val (.long q4), .second, .val (.long q6), .second, .val (.long q8), .second, .val (.int p10), .val (.ref a1), .val (.int p12), .val (.long u), .second, .val (.long v), .second, .val (.long xx), .second, .val (.long yy), .second, .val (.int (0 : Int32))]) rfl k) ?_
        show own_Goes _ _ _ _ _ _ _ s₁ (mkF m 187 #[.val (.long q0), .second, .val (.long q2), .second, .val (.long q4), .second, .val (.long q6), .second, .val (.long q8), .second, .val (.int p10), .val (.ref a1), .val (.int p12), .val (.long u), .second, .val (.long v), .second, .val (.long xx), .second, .val (.long yy), .second, .val (.int (0 : Int32))] [])
        refine own_go (fun _ k => XS.aload X0.here hx rfl (hb hby at_187) rfl rfl k) ?_
        show own_Goes _ _ _ _ _ _ _ s₁ (mkF m 189 #[.val (.long q0), .second, .val (.long q2), .second, .val (.long q4), .second, .val (.long q6), .second, .val (.long q8), .second, .val (.int p10), .val (.ref a1), .val (.int p12), .val (.long u), .second, .val (.long v), .second, .val (.long xx), .second, .val (.long yy), .second, .val (.int (0 : Int32))] [(.ref a1)])
        refine own_go (fun _ k => XS.lload X0.here hx rfl (hb hby at_189) rfl k) ?_
        show own_Goes _ _ _ _ _ _ _ s₁ (mkF m 191 #[.val (.long q0), .second, .val (.long q2), .second, .val (.long q4), .second, .val (.long q6), .second, .val (.long q8), .second, .val (.int p10), .val (.ref a1), .val (.int p12), .val (.long u), .second, .val (.long v), .second, .val (.long xx), .second, .val (.long yy), .second, .val (.int (0 : Int32))] [(.long xx), (.ref a1)])
        refine own_go (fun _ k => XS.lload X0.here hx rfl (hb hby at_191) rfl k) ?_
        show own_Goes _ _ _ _ _ _ _ s₁ (mkF m 193 #[.val (.long q0), .second, .val (.long q2), .second, .val (.long q4), .second, .val (.long q6), .second, .val (.long q8), .second, .val (.int p10), .val (.ref a1), .val (.int p12), .val (.long u), .second, .val (.long v), .second, .val (.long xx), .second, .val (.long yy), .second, .val (.int (0 : Int32))] [(.long yy), (.long xx), (.ref a1)])
        obtain ⟨cq3, kq3, zq3a, zq3b, zq3c⟩ := isOf hZ e0 KK.1
        obtain ⟨_, _, ⟨T3, L3, k3, n3⟩, -, X3, ⟨Lc3, hQ3, l3, y3, z3⟩, st3⟩ := X0.virtualBack hx (y := (⟨"com/example/vaxwire/vaxwire/store/OwnKeyChanges", "accountsFor", "(JJ)Z"⟩ : MethodName)) (z := (⟨"com/example/vaxwire/vaxwire/store/OwnKeyChanges", "accountsFor", "(JJ)Z"⟩ : MethodName)) hown (mvT hZ (hw _ (List.mem_of_getElem? (i := 53) rfl))) (mvT hZ (hw _ (List.mem_of_getElem? (i := 54) rfl))) (notFace_of_selects (args := #[]) (mvT hZ (hw _ (List.mem_of_getElem? (i := 56) rfl)))) (mvT hZ (hw _ (List.mem_of_getElem? (i := 56) rfl))) (mvT hZ (hw _ (List.mem_of_getElem? (i := 55) rfl))) (by decide) (backOf (W := 0) (rm_accountsFor l Z a0 hw [] a1 u v xx yy h0 n0 Z0 KK) hZ (hw _ (List.mem_of_getElem? (i := 57) rfl)) (hw _ (List.mem_of_getElem? (i := 2) rfl)) (by decide) (by decide)) zq3a zq3c (g := (mkF m 193 #[.val (.long q0), .second, .val (.long q2), .second, .val (.long q4), .second, .val (.long q6), .second, .val (.long q8), .second, .val (.int p10), .val (.ref a1), .val (.int p12), .val (.long u), .second, .val (.long v), .second, .val (.long xx), .second, .val (.long yy), .second, .val (.int (0 : Int32))] [(.long yy), (.long xx), (.ref a1)])) rfl (by rw [hml]; rfl) (Steps.refl _) (argsL := [(.long xx), (.long yy)]) (rest := []) (lenOf pd_3 rfl) rfl (by show 2 * 0 + _ ≤ _; exact Nat.le_of_eq rfl) (hb hby at_193) (fun _ _ => ⟨rfl, e0, (by decide : 7 + 0 ≤ _), (by decide : 8201 + 0 ≤ _)⟩)
        dsimp only [Pt.U, Pt.locs, Pt.cells, Pt.slots] at X3 l3 y3 z3 st3 hQ3
        subst l3 y3 z3
        obtain ⟨rfl, N3q, e3⟩ := hQ3
        have N3 := Fr.app N0 N3q
        refine own_goS st3 ?_
        show own_Goes _ _ _ _ _ _ _ T3 (mkF m 196 #[.val (.long q0), .second, .val (.long q2), .second, .val (.long q4), .second, .val (.long q6), .second, .val (.long q8), .second, .val (.int p10), .val (.ref a1), .val (.int p12), .val (.long u), .second, .val (.long v), .second, .val (.long xx), .second, .val (.long yy), .second, .val (.int (0 : Int32))] [(.int (own_acc u v xx yy))])
        refine own_go (fun _ k => XS.iload X3.here hx rfl (hb hby at_196) rfl k) ?_
        show own_Goes _ _ _ _ _ _ _ T3 (mkF m 198 #[.val (.long q0), .second, .val (.long q2), .second, .val (.long q4), .second, .val (.long q6), .second, .val (.long q8), .second, .val (.int p10), .val (.ref a1), .val (.int p12), .val (.long u), .second, .val (.long v), .second, .val (.long xx), .second, .val (.long yy), .second, .val (.int (0 : Int32))] [(.int (0 : Int32)), (.int (own_acc u v xx yy))])
        refine own_go (fun _ k => XS.icmpNo X3.here hx rfl (hb hby at_198) rfl (teq (by rw [own_acc, if_neg hc155, if_pos hc169.symm, if_neg (fun q => hc177 q.symm)] : (own_acc u v xx yy) = (0 : Int32))).2 k) ?_
        show own_Goes _ _ _ _ _ _ _ T3 (mkF m 201 #[.val (.long q0), .second, .val (.long q2), .second, .val (.long q4), .second, .val (.long q6), .second, .val (.long q8), .second, .val (.int p10), .val (.ref a1), .val (.int p12), .val (.long u), .second, .val (.long v), .second, .val (.long xx), .second, .val (.long yy), .second, .val (.int (0 : Int32))] [])
        refine own_go (fun _ k => XS.iconst X3.here hx rfl (hb hby at_201) k) ?_
        show own_Goes _ _ _ _ _ _ _ T3 (mkF m 202 #[.val (.long q0), .second, .val (.long q2), .second, .val (.long q4), .second, .val (.long q6), .second, .val (.long q8), .second, .val (.int p10), .val (.ref a1), .val (.int p12), .val (.long u), .second, .val (.long v), .second, .val (.long xx), .second, .val (.long yy), .second, .val (.int (0 : Int32))] [(.int (1 : Int32))])
        refine own_go (fun _ k => XS.goto X3.here hx rfl (pc0 := 202) (pc' := 206) rfl (hb hby at_202) (by decide) (by decide) k) ?_
        show own_Goes _ _ _ _ _ _ _ T3 (mkF m 206 #[.val (.long q0), .second, .val (.long q2), .second, .val (.long q4), .second, .val (.long q6), .second, .val (.long q8), .second, .val (.int p10), .val (.ref a1), .val (.int p12), .val (.long u), .second, .val (.long v), .second, .val (.long xx), .second, .val (.long yy), .second, .val (.int (0 : Int32))] [(.int (1 : Int32))])
        exact own_retN X3 hx (t := .boolean) hlk hret (by simp) (hb hby at_206) (by decide) (by decide) ⟨rfl, N3⟩
    · refine own_go (fun _ k => XS.ifYes X0.here hx rfl (pc0 := 169) (pc' := 184) rfl (hb hby at_169) rfl ((if0 _ _).trans (feq (fun q => hc169 ((lw_eq _ _).mp q))).2) (by decide) (by decide) k) ?_
      show own_Goes _ _ _ _ _ _ _ s₁ (mkF m 184 #[.val (.long q0), .second, .val (.long q2), .second, .val (.long q4), .second, .val (.long q6), .second, .val (.long q8), .second, .val (.int p10), .val (.ref a1), .val (.int p12), .val (.long u), .second, .val (.long v), .second, .val (.long xx), .second, .val (.long yy), .second, .unset] [])
      refine own_go (fun _ k => XS.iconst X0.here hx rfl (hb hby at_184) k) ?_
      show own_Goes _ _ _ _ _ _ _ s₁ (mkF m 185 #[.val (.long q0), .second, .val (.long q2), .second, .val (.long q4), .second, .val (.long q6), .second, .val (.long q8), .second, .val (.int p10), .val (.ref a1), .val (.int p12), .val (.long u), .second, .val (.long v), .second, .val (.long xx), .second, .val (.long yy), .second, .unset] [(.int (0 : Int32))])
      refine own_go (fun _ k => XS.istore X0.here hx rfl (hb hby at_185) rfl (l' := #[.val (.long q0), .second, .val (.long q2), .second, .val (.long q4), .second, .val (.long q6), .second, .val (.long q8), .second, .val (.int p10), .val (.ref a1), .val (.int p12), .val (.long u), .second, .val (.long v), .second, .val (.long xx), .second, .val (.long yy), .second, .val (.int (0 : Int32))]) rfl k) ?_
      show own_Goes _ _ _ _ _ _ _ s₁ (mkF m 187 #[.val (.long q0), .second, .val (.long q2), .second, .val (.long q4), .second, .val (.long q6), .second, .val (.long q8), .second, .val (.int p10), .val (.ref a1), .val (.int p12), .val (.long u), .second, .val (.long v), .second, .val (.long xx), .second, .val (.long yy), .second, .val (.int (0 : Int32))] [])
      refine own_go (fun _ k => XS.aload X0.here hx rfl (hb hby at_187) rfl rfl k) ?_
      show own_Goes _ _ _ _ _ _ _ s₁ (mkF m 189 #[.val (.long q0), .second, .val (.long q2), .second, .val (.long q4), .second, .val (.long q6), .second, .val (.long q8), .second, .val (.int p10), .val (.ref a1), .val (.int p12), .val (.long u), .second, .val (.long v), .second, .val (.long xx), .second, .val (.long yy), .second, .val (.int (0 : Int32))] [(.ref a1)])
      refine own_go (fun _ k => XS.lload X0.here hx rfl (hb hby at_189) rfl k) ?_
      show own_Goes _ _ _ _ _ _ _ s₁ (mkF m 191 #[.val (.long q0), .second, .val (.long q2), .second, .val (.long q4), .second, .val (.long q6), .second, .val (.long q8), .second, .val (.int p10), .val (.ref a1), .val (.int p12), .val (.long u), .second, .val (.long v), .second, .val (.long xx), .second, .val (.long yy), .second, .val (.int (0 : Int32))] [(.long xx), (.ref a1)])
      refine own_go (fun _ k => XS.lload X0.here hx rfl (hb hby at_191) rfl k) ?_
      show own_Goes _ _ _ _ _ _ _ s₁ (mkF m 193 #[.val (.long q0), .second, .val (.long q2), .second, .val (.long q4), .second, .val (.long q6), .second, .val (.long q8), .second, .val (.int p10), .val (.ref a1), .val (.int p12), .val (.long u), .second, .val (.long v), .second, .val (.long xx), .second, .val (.long yy), .second, .val (.int (0 : Int32))] [(.long yy), (.long xx), (.ref a1)])
      obtain ⟨cq4, kq4, zq4a, zq4b, zq4c⟩ := isOf hZ e0 KK.1
      obtain ⟨_, _, ⟨T4, L4, k4, n4⟩, -, X4, ⟨Lc4, hQ4, l4, y4, z4⟩, st4⟩ := X0.virtualBack hx (y := (⟨"com/example/vaxwire/vaxwire/store/OwnKeyChanges", "accountsFor", "(JJ)Z"⟩ : MethodName)) (z := (⟨"com/example/vaxwire/vaxwire/store/OwnKeyChanges", "accountsFor", "(JJ)Z"⟩ : MethodName)) hown (mvT hZ (hw _ (List.mem_of_getElem? (i := 53) rfl))) (mvT hZ (hw _ (List.mem_of_getElem? (i := 54) rfl))) (notFace_of_selects (args := #[]) (mvT hZ (hw _ (List.mem_of_getElem? (i := 56) rfl)))) (mvT hZ (hw _ (List.mem_of_getElem? (i := 56) rfl))) (mvT hZ (hw _ (List.mem_of_getElem? (i := 55) rfl))) (by decide) (backOf (W := 0) (rm_accountsFor l Z a0 hw [] a1 u v xx yy h0 n0 Z0 KK) hZ (hw _ (List.mem_of_getElem? (i := 57) rfl)) (hw _ (List.mem_of_getElem? (i := 2) rfl)) (by decide) (by decide)) zq4a zq4c (g := (mkF m 193 #[.val (.long q0), .second, .val (.long q2), .second, .val (.long q4), .second, .val (.long q6), .second, .val (.long q8), .second, .val (.int p10), .val (.ref a1), .val (.int p12), .val (.long u), .second, .val (.long v), .second, .val (.long xx), .second, .val (.long yy), .second, .val (.int (0 : Int32))] [(.long yy), (.long xx), (.ref a1)])) rfl (by rw [hml]; rfl) (Steps.refl _) (argsL := [(.long xx), (.long yy)]) (rest := []) (lenOf pd_3 rfl) rfl (by show 2 * 0 + _ ≤ _; exact Nat.le_of_eq rfl) (hb hby at_193) (fun _ _ => ⟨rfl, e0, (by decide : 7 + 0 ≤ _), (by decide : 8201 + 0 ≤ _)⟩)
      dsimp only [Pt.U, Pt.locs, Pt.cells, Pt.slots] at X4 l4 y4 z4 st4 hQ4
      subst l4 y4 z4
      obtain ⟨rfl, N4q, e4⟩ := hQ4
      have N4 := Fr.app N0 N4q
      refine own_goS st4 ?_
      show own_Goes _ _ _ _ _ _ _ T4 (mkF m 196 #[.val (.long q0), .second, .val (.long q2), .second, .val (.long q4), .second, .val (.long q6), .second, .val (.long q8), .second, .val (.int p10), .val (.ref a1), .val (.int p12), .val (.long u), .second, .val (.long v), .second, .val (.long xx), .second, .val (.long yy), .second, .val (.int (0 : Int32))] [(.int (own_acc u v xx yy))])
      refine own_go (fun _ k => XS.iload X4.here hx rfl (hb hby at_196) rfl k) ?_
      show own_Goes _ _ _ _ _ _ _ T4 (mkF m 198 #[.val (.long q0), .second, .val (.long q2), .second, .val (.long q4), .second, .val (.long q6), .second, .val (.long q8), .second, .val (.int p10), .val (.ref a1), .val (.int p12), .val (.long u), .second, .val (.long v), .second, .val (.long xx), .second, .val (.long yy), .second, .val (.int (0 : Int32))] [(.int (0 : Int32)), (.int (own_acc u v xx yy))])
      refine own_go (fun _ k => XS.icmpNo X4.here hx rfl (hb hby at_198) rfl (teq (by rw [own_acc, if_neg hc155, if_neg (fun q => hc169 q.symm)] : (own_acc u v xx yy) = (0 : Int32))).2 k) ?_
      show own_Goes _ _ _ _ _ _ _ T4 (mkF m 201 #[.val (.long q0), .second, .val (.long q2), .second, .val (.long q4), .second, .val (.long q6), .second, .val (.long q8), .second, .val (.int p10), .val (.ref a1), .val (.int p12), .val (.long u), .second, .val (.long v), .second, .val (.long xx), .second, .val (.long yy), .second, .val (.int (0 : Int32))] [])
      refine own_go (fun _ k => XS.iconst X4.here hx rfl (hb hby at_201) k) ?_
      show own_Goes _ _ _ _ _ _ _ T4 (mkF m 202 #[.val (.long q0), .second, .val (.long q2), .second, .val (.long q4), .second, .val (.long q6), .second, .val (.long q8), .second, .val (.int p10), .val (.ref a1), .val (.int p12), .val (.long u), .second, .val (.long v), .second, .val (.long xx), .second, .val (.long yy), .second, .val (.int (0 : Int32))] [(.int (1 : Int32))])
      refine own_go (fun _ k => XS.goto X4.here hx rfl (pc0 := 202) (pc' := 206) rfl (hb hby at_202) (by decide) (by decide) k) ?_
      show own_Goes _ _ _ _ _ _ _ T4 (mkF m 206 #[.val (.long q0), .second, .val (.long q2), .second, .val (.long q4), .second, .val (.long q6), .second, .val (.long q8), .second, .val (.int p10), .val (.ref a1), .val (.int p12), .val (.long u), .second, .val (.long v), .second, .val (.long xx), .second, .val (.long yy), .second, .val (.int (0 : Int32))] [(.int (1 : Int32))])
      exact own_retN X4 hx (t := .boolean) hlk hret (by simp) (hb hby at_206) (by decide) (by decide) ⟨rfl, N4⟩
set_option maxRecDepth 65536 in
set_option maxHeartbeats 40000000 in
theorem seg133 {p : Program} {l : Launch} {e : Env} {s : State} {m : MethodId} {args : Array Value} {below : List Frame} {meth : Method} {c : Code} {s₁ : State} {locs : List Loc} {Z : State} {a0 : Array Value} {h0 : Heap} (q0 q2 q4 q6 q8 u v : Int64) (p10 p12 : Int32) (a1 : Addr) (xx : Int64)
    (hw : ∀ d ∈ tables_1, d.before a0 Z = true) (C : own_Ctx Z x "com/example/vaxwire/vaxwire/store/OwnKeyChangesAccountsForPinLaw" code maxLocals ret p s m meth c) (X0 : Stand p l e room_1 s m args below meth c s₁ locs 7 8201) (e0 : s₁.heap = h0) (n0 : Nat) (Z0 : n0 ≤ h0.size) (N0 : Fr n0 locs) (KK : own_K Z h0 n0 a1 u v) :
    own_Goes p e below s (fun v h L => v = some (.int 1) ∧ Fr n0 L) room_1.cells room_1.slots s₁ (mkF m 133 #[.val (.long q0), .second, .val (.long q2), .second, .val (.long q4), .second, .val (.long q6), .second, .val (.long q8), .second, .val (.int p10), .val (.ref a1), .val (.int p12), .val (.long u), .second, .val (.long v), .second, .val (.long xx), .second, .unset, .unset, .unset] []) := by
  obtain ⟨hx, hby, hml, hown, hnm, hret, hlk, hZ⟩ := C
  refine own_go (fun _ k => XS.iload X0.here hx rfl (hb hby at_133) rfl k) ?_
  show own_Goes _ _ _ _ _ _ _ s₁ (mkF m 135 #[.val (.long q0), .second, .val (.long q2), .second, .val (.long q4), .second, .val (.long q6), .second, .val (.long q8), .second, .val (.int p10), .val (.ref a1), .val (.int p12), .val (.long u), .second, .val (.long v), .second, .val (.long xx), .second, .unset, .unset, .unset] [(.int p10)])
  refine own_go (fun _ k => XS.iconst X0.here hx rfl (hb hby at_135) k) ?_
  show own_Goes _ _ _ _ _ _ _ s₁ (mkF m 136 #[.val (.long q0), .second, .val (.long q2), .second, .val (.long q4), .second, .val (.long q6), .second, .val (.long q8), .second, .val (.int p10), .val (.ref a1), .val (.int p12), .val (.long u), .second, .val (.long v), .second, .val (.long xx), .second, .unset, .unset, .unset] [(.int (3 : Int32)), (.int p10)])
  refine own_go (fun _ k => XS.iushr X0.here hx rfl (hb hby at_136) rfl k) ?_
  show own_Goes _ _ _ _ _ _ _ s₁ (mkF m 137 #[.val (.long q0), .second, .val (.long q2), .second, .val (.long q4), .second, .val (.long q6), .second, .val (.long q8), .second, .val (.int p10), .val (.ref a1), .val (.int p12), .val (.long u), .second, .val (.long v), .second, .val (.long xx), .second, .unset, .unset, .unset] [(.int ((p10.toUInt32 >>> ((3 : Int32) &&& 31).toUInt32).toInt32))])
  refine own_go (fun _ k => XS.iconst X0.here hx rfl (hb hby at_137) k) ?_
  show own_Goes _ _ _ _ _ _ _ s₁ (mkF m 138 #[.val (.long q0), .second, .val (.long q2), .second, .val (.long q4), .second, .val (.long q6), .second, .val (.long q8), .second, .val (.int p10), .val (.ref a1), .val (.int p12), .val (.long u), .second, .val (.long v), .second, .val (.long xx), .second, .unset, .unset, .unset] [(.int (1 : Int32)), (.int ((p10.toUInt32 >>> ((3 : Int32) &&& 31).toUInt32).toInt32))])
  refine own_go (fun _ k => XS.iand X0.here hx rfl (hb hby at_138) rfl k) ?_
  show own_Goes _ _ _ _ _ _ _ s₁ (mkF m 139 #[.val (.long q0), .second, .val (.long q2), .second, .val (.long q4), .second, .val (.long q6), .second, .val (.long q8), .second, .val (.int p10), .val (.ref a1), .val (.int p12), .val (.long u), .second, .val (.long v), .second, .val (.long xx), .second, .unset, .unset, .unset] [(.int (((p10.toUInt32 >>> ((3 : Int32) &&& 31).toUInt32).toInt32) &&& (1 : Int32)))])
  by_cases hc139 : (((p10.toUInt32 >>> ((3 : Int32) &&& 31).toUInt32).toInt32) &&& (1 : Int32)) = (0 : Int32)
  · refine own_go (fun _ k => XS.ifYes X0.here hx rfl (pc0 := 139) (pc' := 147) rfl (hb hby at_139) rfl ((if0 _ _).trans (teq hc139).1) (by decide) (by decide) k) ?_
    show own_Goes _ _ _ _ _ _ _ s₁ (mkF m 147 #[.val (.long q0), .second, .val (.long q2), .second, .val (.long q4), .second, .val (.long q6), .second, .val (.long q8), .second, .val (.int p10), .val (.ref a1), .val (.int p12), .val (.long u), .second, .val (.long v), .second, .val (.long xx), .second, .unset, .unset, .unset] [])
    refine own_go (fun _ k => XS.lload X0.here hx rfl (hb hby at_147) rfl k) ?_
    show own_Goes _ _ _ _ _ _ _ s₁ (mkF m 149 #[.val (.long q0), .second, .val (.long q2), .second, .val (.long q4), .second, .val (.long q6), .second, .val (.long q8), .second, .val (.int p10), .val (.ref a1), .val (.int p12), .val (.long u), .second, .val (.long v), .second, .val (.long xx), .second, .unset, .unset, .unset] [(.long q8)])
    refine own_go (fun _ k => XS.lstore X0.here hx rfl (hb hby at_149) rfl (l' := #[.val (.long q0), .second, .val (.long q2), .second, .val (.long q4), .second, .val (.long q6), .second, .val (.long q8), .second, .val (.int p10), .val (.ref a1), .val (.int p12), .val (.long u), .second, .val (.long v), .second, .val (.long xx), .second, .val (.long q8), .second, .unset]) rfl k) ?_
    show own_Goes _ _ _ _ _ _ _ s₁ (mkF m 151 #[.val (.long q0), .second, .val (.long q2), .second, .val (.long q4), .second, .val (.long q6), .second, .val (.long q8), .second, .val (.int p10), .val (.ref a1), .val (.int p12), .val (.long u), .second, .val (.long v), .second, .val (.long xx), .second, .val (.long q8), .second, .unset] [])
    exact seg151 q0 q2 q4 q6 q8 u v p10 p12 a1 xx q8 hw ⟨hx, hby, hml, hown, hnm, hret, hlk, hZ⟩ X0 e0 n0 Z0 N0 KK
  · refine own_go (fun _ k => XS.ifNo X0.here hx rfl (hb hby at_139) rfl ((if0 _ _).trans (feq hc139).1) k) ?_
    show own_Goes _ _ _ _ _ _ _ s₁ (mkF m 142 #[.val (.long q0), .second, .val (.long q2), .second, .val (.long q4), .second, .val (.long q6), .second, .val (.long q8), .second, .val (.int p10), .val (.ref a1), .val (.int p12), .val (.long u), .second, .val (.long v), .second, .val (.long xx), .second, .unset, .unset, .unset] [])
    refine own_go (fun _ k => XS.lload X0.here hx rfl (hb hby at_142) rfl k) ?_
    show own_Goes _ _ _ _ _ _ _ s₁ (mkF m 144 #[.val (.long q0), .second, .val (.long q2), .second, .val (.long q4), .second, .val (.long q6), .second, .val (.long q8), .second, .val (.int p10), .val (.ref a1), .val (.int p12), .val (.long u), .second, .val (.long v), .second, .val (.long xx), .second, .unset, .unset, .unset] [(.long v)])
    refine own_go (fun _ k => XS.goto X0.here hx rfl (pc0 := 144) (pc' := 149) rfl (hb hby at_144) (by decide) (by decide) k) ?_
    show own_Goes _ _ _ _ _ _ _ s₁ (mkF m 149 #[.val (.long q0), .second, .val (.long q2), .second, .val (.long q4), .second, .val (.long q6), .second, .val (.long q8), .second, .val (.int p10), .val (.ref a1), .val (.int p12), .val (.long u), .second, .val (.long v), .second, .val (.long xx), .second, .unset, .unset, .unset] [(.long v)])
    refine own_go (fun _ k => XS.lstore X0.here hx rfl (hb hby at_149) rfl (l' := #[.val (.long q0), .second, .val (.long q2), .second, .val (.long q4), .second, .val (.long q6), .second, .val (.long q8), .second, .val (.int p10), .val (.ref a1), .val (.int p12), .val (.long u), .second, .val (.long v), .second, .val (.long xx), .second, .val (.long v), .second, .unset]) rfl k) ?_
    show own_Goes _ _ _ _ _ _ _ s₁ (mkF m 151 #[.val (.long q0), .second, .val (.long q2), .second, .val (.long q4), .second, .val (.long q6), .second, .val (.long q8), .second, .val (.int p10), .val (.ref a1), .val (.int p12), .val (.long u), .second, .val (.long v), .second, .val (.long xx), .second, .val (.long v), .second, .unset] [])
    exact seg151 q0 q2 q4 q6 q8 u v p10 p12 a1 xx v hw ⟨hx, hby, hml, hown, hnm, hret, hlk, hZ⟩ X0 e0 n0 Z0 N0 KK
set_option maxRecDepth 65536 in
set_option maxHeartbeats 40000000 in
theorem seg115 {p : Program} {l : Launch} {e : Env} {s : State} {m : MethodId} {args : Array Value} {below : List Frame} {meth : Method} {c : Code} {s₁ : State} {locs : List Loc} {Z : State} {a0 : Array Value} {h0 : Heap} (q0 q2 q4 q6 q8 u v : Int64) (p10 p12 : Int32) (a1 : Addr)
    (hw : ∀ d ∈ tables_1, d.before a0 Z = true) (C : own_Ctx Z x "com/example/vaxwire/vaxwire/store/OwnKeyChangesAccountsForPinLaw" code maxLocals ret p s m meth c) (X0 : Stand p l e room_1 s m args below meth c s₁ locs 7 8201) (e0 : s₁.heap = h0) (n0 : Nat) (Z0 : n0 ≤ h0.size) (N0 : Fr n0 locs) (KK : own_K Z h0 n0 a1 u v) :
    own_Goes p e below s (fun v h L => v = some (.int 1) ∧ Fr n0 L) room_1.cells room_1.slots s₁ (mkF m 115 #[.val (.long q0), .second, .val (.long q2), .second, .val (.long q4), .second, .val (.long q6), .second, .val (.long q8), .second, .val (.int p10), .val (.ref a1), .val (.int p12), .val (.long u), .second, .val (.long v), .second, .unset, .unset, .unset, .unset, .unset] []) := by
  obtain ⟨hx, hby, hml, hown, hnm, hret, hlk, hZ⟩ := C
  refine own_go (fun _ k => XS.iload X0.here hx rfl (hb hby at_115) rfl k) ?_
  show own_Goes _ _ _ _ _ _ _ s₁ (mkF m 117 #[.val (.long q0), .second, .val (.long q2), .second, .val (.long q4), .second, .val (.long q6), .second, .val (.long q8), .second, .val (.int p10), .val (.ref a1), .val (.int p12), .val (.long u), .second, .val (.long v), .second, .unset, .unset, .unset, .unset, .unset] [(.int p10)])
  refine own_go (fun _ k => XS.iconst X0.here hx rfl (hb hby at_117) k) ?_
  show own_Goes _ _ _ _ _ _ _ s₁ (mkF m 118 #[.val (.long q0), .second, .val (.long q2), .second, .val (.long q4), .second, .val (.long q6), .second, .val (.long q8), .second, .val (.int p10), .val (.ref a1), .val (.int p12), .val (.long u), .second, .val (.long v), .second, .unset, .unset, .unset, .unset, .unset] [(.int (2 : Int32)), (.int p10)])
  refine own_go (fun _ k => XS.iushr X0.here hx rfl (hb hby at_118) rfl k) ?_
  show own_Goes _ _ _ _ _ _ _ s₁ (mkF m 119 #[.val (.long q0), .second, .val (.long q2), .second, .val (.long q4), .second, .val (.long q6), .second, .val (.long q8), .second, .val (.int p10), .val (.ref a1), .val (.int p12), .val (.long u), .second, .val (.long v), .second, .unset, .unset, .unset, .unset, .unset] [(.int ((p10.toUInt32 >>> ((2 : Int32) &&& 31).toUInt32).toInt32))])
  refine own_go (fun _ k => XS.iconst X0.here hx rfl (hb hby at_119) k) ?_
  show own_Goes _ _ _ _ _ _ _ s₁ (mkF m 120 #[.val (.long q0), .second, .val (.long q2), .second, .val (.long q4), .second, .val (.long q6), .second, .val (.long q8), .second, .val (.int p10), .val (.ref a1), .val (.int p12), .val (.long u), .second, .val (.long v), .second, .unset, .unset, .unset, .unset, .unset] [(.int (1 : Int32)), (.int ((p10.toUInt32 >>> ((2 : Int32) &&& 31).toUInt32).toInt32))])
  refine own_go (fun _ k => XS.iand X0.here hx rfl (hb hby at_120) rfl k) ?_
  show own_Goes _ _ _ _ _ _ _ s₁ (mkF m 121 #[.val (.long q0), .second, .val (.long q2), .second, .val (.long q4), .second, .val (.long q6), .second, .val (.long q8), .second, .val (.int p10), .val (.ref a1), .val (.int p12), .val (.long u), .second, .val (.long v), .second, .unset, .unset, .unset, .unset, .unset] [(.int (((p10.toUInt32 >>> ((2 : Int32) &&& 31).toUInt32).toInt32) &&& (1 : Int32)))])
  by_cases hc121 : (((p10.toUInt32 >>> ((2 : Int32) &&& 31).toUInt32).toInt32) &&& (1 : Int32)) = (0 : Int32)
  · refine own_go (fun _ k => XS.ifYes X0.here hx rfl (pc0 := 121) (pc' := 129) rfl (hb hby at_121) rfl ((if0 _ _).trans (teq hc121).1) (by decide) (by decide) k) ?_
    show own_Goes _ _ _ _ _ _ _ s₁ (mkF m 129 #[.val (.long q0), .second, .val (.long q2), .second, .val (.long q4), .second, .val (.long q6), .second, .val (.long q8), .second, .val (.int p10), .val (.ref a1), .val (.int p12), .val (.long u), .second, .val (.long v), .second, .unset, .unset, .unset, .unset, .unset] [])
    refine own_go (fun _ k => XS.lload X0.here hx rfl (hb hby at_129) rfl k) ?_
    show own_Goes _ _ _ _ _ _ _ s₁ (mkF m 131 #[.val (.long q0), .second, .val (.long q2), .second, .val (.long q4), .second, .val (.long q6), .second, .val (.long q8), .second, .val (.int p10), .val (.ref a1), .val (.int p12), .val (.long u), .second, .val (.long v), .second, .unset, .unset, .unset, .unset, .unset] [(.long q6)])
    refine own_go (fun _ k => XS.lstore X0.here hx rfl (hb hby at_131) rfl (l' := #[.val (.long q0), .second, .val (.long q2), .second, .val (.long q4), .second, .val (.long q6), .second, .val (.long q8), .second, .val (.int p10), .val (.ref a1), .val (.int p12), .val (.long u), .second, .val (.long v), .second, .val (.long q6), .second, .unset, .unset, .unset]) rfl k) ?_
    show own_Goes _ _ _ _ _ _ _ s₁ (mkF m 133 #[.val (.long q0), .second, .val (.long q2), .second, .val (.long q4), .second, .val (.long q6), .second, .val (.long q8), .second, .val (.int p10), .val (.ref a1), .val (.int p12), .val (.long u), .second, .val (.long v), .second, .val (.long q6), .second, .unset, .unset, .unset] [])
    exact seg133 q0 q2 q4 q6 q8 u v p10 p12 a1 q6 hw ⟨hx, hby, hml, hown, hnm, hret, hlk, hZ⟩ X0 e0 n0 Z0 N0 KK
  · refine own_go (fun _ k => XS.ifNo X0.here hx rfl (hb hby at_121) rfl ((if0 _ _).trans (feq hc121).1) k) ?_
    show own_Goes _ _ _ _ _ _ _ s₁ (mkF m 124 #[.val (.long q0), .second, .val (.long q2), .second, .val (.long q4), .second, .val (.long q6), .second, .val (.long q8), .second, .val (.int p10), .val (.ref a1), .val (.int p12), .val (.long u), .second, .val (.long v), .second, .unset, .unset, .unset, .unset, .unset] [])
    refine own_go (fun _ k => XS.lload X0.here hx rfl (hb hby at_124) rfl k) ?_
    show own_Goes _ _ _ _ _ _ _ s₁ (mkF m 126 #[.val (.long q0), .second, .val (.long q2), .second, .val (.long q4), .second, .val (.long q6), .second, .val (.long q8), .second, .val (.int p10), .val (.ref a1), .val (.int p12), .val (.long u), .second, .val (.long v), .second, .unset, .unset, .unset, .unset, .unset] [(.long u)])
    refine own_go (fun _ k => XS.goto X0.here hx rfl (pc0 := 126) (pc' := 131) rfl (hb hby at_126) (by decide) (by decide) k) ?_
    show own_Goes _ _ _ _ _ _ _ s₁ (mkF m 131 #[.val (.long q0), .second, .val (.long q2), .second, .val (.long q4), .second, .val (.long q6), .second, .val (.long q8), .second, .val (.int p10), .val (.ref a1), .val (.int p12), .val (.long u), .second, .val (.long v), .second, .unset, .unset, .unset, .unset, .unset] [(.long u)])
    refine own_go (fun _ k => XS.lstore X0.here hx rfl (hb hby at_131) rfl (l' := #[.val (.long q0), .second, .val (.long q2), .second, .val (.long q4), .second, .val (.long q6), .second, .val (.long q8), .second, .val (.int p10), .val (.ref a1), .val (.int p12), .val (.long u), .second, .val (.long v), .second, .val (.long u), .second, .unset, .unset, .unset]) rfl k) ?_
    show own_Goes _ _ _ _ _ _ _ s₁ (mkF m 133 #[.val (.long q0), .second, .val (.long q2), .second, .val (.long q4), .second, .val (.long q6), .second, .val (.long q8), .second, .val (.int p10), .val (.ref a1), .val (.int p12), .val (.long u), .second, .val (.long v), .second, .val (.long u), .second, .unset, .unset, .unset] [])
    exact seg133 q0 q2 q4 q6 q8 u v p10 p12 a1 u hw ⟨hx, hby, hml, hown, hnm, hret, hlk, hZ⟩ X0 e0 n0 Z0 N0 KK
set_option maxRecDepth 65536 in
set_option maxHeartbeats 40000000 in
theorem seg9 {p : Program} {l : Launch} {e : Env} {s : State} {m : MethodId} {args : Array Value} {below : List Frame} {meth : Method} {c : Code} {s₁ : State} {locs : List Loc} {Z : State} {a0 : Array Value} {h0 : Heap} (q0 q2 q4 q6 q8 : Int64) (p10 : Int32) (a1 : Addr)
    (hw : ∀ d ∈ tables_1, d.before a0 Z = true) (C : own_Ctx Z x "com/example/vaxwire/vaxwire/store/OwnKeyChangesAccountsForPinLaw" code maxLocals ret p s m meth c) (X0 : Stand p l e room_1 s m args below meth c s₁ locs 7 8201) (e0 : s₁.heap = h0) (n0 : Nat) (Z0 : n0 ≤ h0.size) (N0 : Fr n0 locs) (KK : own_K Z h0 n0 a1 (-1) (-1)) :
    own_Goes p e below s (fun v h L => v = some (.int 1) ∧ Fr n0 L) room_1.cells room_1.slots s₁ (mkF m 9 #[.val (.long q0), .second, .val (.long q2), .second, .val (.long q4), .second, .val (.long q6), .second, .val (.long q8), .second, .val (.int p10), .val (.ref a1), .unset, .unset, .unset, .unset, .unset, .unset, .unset, .unset, .unset, .unset] []) := by
  obtain ⟨hx, hby, hml, hown, hnm, hret, hlk, hZ⟩ := C
  refine own_go (fun _ k => XS.iload X0.here hx rfl (hb hby at_9) rfl k) ?_
  show own_Goes _ _ _ _ _ _ _ s₁ (mkF m 11 #[.val (.long q0), .second, .val (.long q2), .second, .val (.long q4), .second, .val (.long q6), .second, .val (.long q8), .second, .val (.int p10), .val (.ref a1), .unset, .unset, .unset, .unset, .unset, .unset, .unset, .unset, .unset, .unset] [(.int p10)])
  refine own_go (fun _ k => XS.iconst X0.here hx rfl (hb hby at_11) k) ?_
  show own_Goes _ _ _ _ _ _ _ s₁ (mkF m 12 #[.val (.long q0), .second, .val (.long q2), .second, .val (.long q4), .second, .val (.long q6), .second, .val (.long q8), .second, .val (.int p10), .val (.ref a1), .unset, .unset, .unset, .unset, .unset, .unset, .unset, .unset, .unset, .unset] [(.int (3 : Int32)), (.int p10)])
  refine own_go (fun _ k => XS.iand X0.here hx rfl (hb hby at_12) rfl k) ?_
  show own_Goes _ _ _ _ _ _ _ s₁ (mkF m 13 #[.val (.long q0), .second, .val (.long q2), .second, .val (.long q4), .second, .val (.long q6), .second, .val (.long q8), .second, .val (.int p10), .val (.ref a1), .unset, .unset, .unset, .unset, .unset, .unset, .unset, .unset, .unset, .unset] [(.int (p10 &&& (3 : Int32)))])
  refine own_go (fun _ k => XS.istore X0.here hx rfl (hb hby at_13) rfl (l' := #[.val (.long q0), .second, .val (.long q2), .second, .val (.long q4), .second, .val (.long q6), .second, .val (.long q8), .second, .val (.int p10), .val (.ref a1), .val (.int (p10 &&& (3 : Int32))), .unset, .unset, .unset, .unset, .unset, .unset, .unset, .unset, .unset]) rfl k) ?_
  show own_Goes _ _ _ _ _ _ _ s₁ (mkF m 15 #[.val (.long q0), .second, .val (.long q2), .second, .val (.long q4), .second, .val (.long q6), .second, .val (.long q8), .second, .val (.int p10), .val (.ref a1), .val (.int (p10 &&& (3 : Int32))), .unset, .unset, .unset, .unset, .unset, .unset, .unset, .unset, .unset] [])
  refine own_go (fun t k => X0.ldc2Long hx hown (mvT hZ (hw _ (List.mem_of_getElem? (i := 29) rfl))) (g := (mkF m 15 #[.val (.long q0), .second, .val (.long q2), .second, .val (.long q4), .second, .val (.long q6), .second, .val (.long q8), .second, .val (.int p10), .val (.ref a1), .val (.int (p10 &&& (3 : Int32))), .unset, .unset, .unset, .unset, .unset, .unset, .unset, .unset, .unset] [])) rfl (hb hby at_15) t k) ?_
  show own_Goes _ _ _ _ _ _ _ s₁ (mkF m 18 #[.val (.long q0), .second, .val (.long q2), .second, .val (.long q4), .second, .val (.long q6), .second, .val (.long q8), .second, .val (.int p10), .val (.ref a1), .val (.int (p10 &&& (3 : Int32))), .unset, .unset, .unset, .unset, .unset, .unset, .unset, .unset, .unset] [(.long (-1 : Int64))])
  refine own_go (fun _ k => XS.lstore X0.here hx rfl (hb hby at_18) rfl (l' := #[.val (.long q0), .second, .val (.long q2), .second, .val (.long q4), .second, .val (.long q6), .second, .val (.long q8), .second, .val (.int p10), .val (.ref a1), .val (.int (p10 &&& (3 : Int32))), .val (.long (-1 : Int64)), .second, .unset, .unset, .unset, .unset, .unset, .unset, .unset]) rfl k) ?_
  show own_Goes _ _ _ _ _ _ _ s₁ (mkF m 20 #[.val (.long q0), .second, .val (.long q2), .second, .val (.long q4), .second, .val (.long q6), .second, .val (.long q8), .second, .val (.int p10), .val (.ref a1), .val (.int (p10 &&& (3 : Int32))), .val (.long (-1 : Int64)), .second, .unset, .unset, .unset, .unset, .unset, .unset, .unset] [])
  refine own_go (fun t k => X0.ldc2Long hx hown (mvT hZ (hw _ (List.mem_of_getElem? (i := 29) rfl))) (g := (mkF m 20 #[.val (.long q0), .second, .val (.long q2), .second, .val (.long q4), .second, .val (.long q6), .second, .val (.long q8), .second, .val (.int p10), .val (.ref a1), .val (.int (p10 &&& (3 : Int32))), .val (.long (-1 : Int64)), .second, .unset, .unset, .unset, .unset, .unset, .unset, .unset] [])) rfl (hb hby at_20) t k) ?_
  show own_Goes _ _ _ _ _ _ _ s₁ (mkF m 23 #[.val (.long q0), .second, .val (.long q2), .second, .val (.long q4), .second, .val (.long q6), .second, .val (.long q8), .second, .val (.int p10), .val (.ref a1), .val (.int (p10 &&& (3 : Int32))), .val (.long (-1 : Int64)), .second, .unset, .unset, .unset, .unset, .unset, .unset, .unset] [(.long (-1 : Int64))])
  refine own_go (fun _ k => XS.lstore X0.here hx rfl (hb hby at_23) rfl (l' := #[.val (.long q0), .second, .val (.long q2), .second, .val (.long q4), .second, .val (.long q6), .second, .val (.long q8), .second, .val (.int p10), .val (.ref a1), .val (.int (p10 &&& (3 : Int32))), .val (.long (-1 : Int64)), .second, .val (.long (-1 : Int64)), .second, .unset, .unset, .unset, .unset, .unset]) rfl k) ?_
  show own_Goes _ _ _ _ _ _ _ s₁ (mkF m 25 #[.val (.long q0), .second, .val (.long q2), .second, .val (.long q4), .second, .val (.long q6), .second, .val (.long q8), .second, .val (.int p10), .val (.ref a1), .val (.int (p10 &&& (3 : Int32))), .val (.long (-1 : Int64)), .second, .val (.long (-1 : Int64)), .second, .unset, .unset, .unset, .unset, .unset] [])
  refine own_go (fun _ k => XS.iload X0.here hx rfl (hb hby at_25) rfl k) ?_
  show own_Goes _ _ _ _ _ _ _ s₁ (mkF m 27 #[.val (.long q0), .second, .val (.long q2), .second, .val (.long q4), .second, .val (.long q6), .second, .val (.long q8), .second, .val (.int p10), .val (.ref a1), .val (.int (p10 &&& (3 : Int32))), .val (.long (-1 : Int64)), .second, .val (.long (-1 : Int64)), .second, .unset, .unset, .unset, .unset, .unset] [(.int (p10 &&& (3 : Int32)))])
  refine own_go (fun _ k => XS.iconst X0.here hx rfl (hb hby at_27) k) ?_
  show own_Goes _ _ _ _ _ _ _ s₁ (mkF m 28 #[.val (.long q0), .second, .val (.long q2), .second, .val (.long q4), .second, .val (.long q6), .second, .val (.long q8), .second, .val (.int p10), .val (.ref a1), .val (.int (p10 &&& (3 : Int32))), .val (.long (-1 : Int64)), .second, .val (.long (-1 : Int64)), .second, .unset, .unset, .unset, .unset, .unset] [(.int (1 : Int32)), (.int (p10 &&& (3 : Int32)))])
  by_cases hc28 : (p10 &&& (3 : Int32)) = (1 : Int32)
  · refine own_go (fun _ k => XS.icmpNo X0.here hx rfl (hb hby at_28) rfl (teq hc28).2 k) ?_
    show own_Goes _ _ _ _ _ _ _ s₁ (mkF m 31 #[.val (.long q0), .second, .val (.long q2), .second, .val (.long q4), .second, .val (.long q6), .second, .val (.long q8), .second, .val (.int p10), .val (.ref a1), .val (.int (p10 &&& (3 : Int32))), .val (.long (-1 : Int64)), .second, .val (.long (-1 : Int64)), .second, .unset, .unset, .unset, .unset, .unset] [])
    refine own_go (fun _ k => XS.aload X0.here hx rfl (hb hby at_31) rfl rfl k) ?_
    show own_Goes _ _ _ _ _ _ _ s₁ (mkF m 33 #[.val (.long q0), .second, .val (.long q2), .second, .val (.long q4), .second, .val (.long q6), .second, .val (.long q8), .second, .val (.int p10), .val (.ref a1), .val (.int (p10 &&& (3 : Int32))), .val (.long (-1 : Int64)), .second, .val (.long (-1 : Int64)), .second, .unset, .unset, .unset, .unset, .unset] [(.ref a1)])
    refine own_go (fun _ k => XS.lloadN X0.here hx rfl (hb hby at_33) rfl k) ?_
    show own_Goes _ _ _ _ _ _ _ s₁ (mkF m 34 #[.val (.long q0), .second, .val (.long q2), .second, .val (.long q4), .second, .val (.long q6), .second, .val (.long q8), .second, .val (.int p10), .val (.ref a1), .val (.int (p10 &&& (3 : Int32))), .val (.long (-1 : Int64)), .second, .val (.long (-1 : Int64)), .second, .unset, .unset, .unset, .unset, .unset] [(.long q0), (.ref a1)])
    refine own_go (fun _ k => XS.lloadN X0.here hx rfl (hb hby at_34) rfl k) ?_
    show own_Goes _ _ _ _ _ _ _ s₁ (mkF m 35 #[.val (.long q0), .second, .val (.long q2), .second, .val (.long q4), .second, .val (.long q6), .second, .val (.long q8), .second, .val (.int p10), .val (.ref a1), .val (.int (p10 &&& (3 : Int32))), .val (.long (-1 : Int64)), .second, .val (.long (-1 : Int64)), .second, .unset, .unset, .unset, .unset, .unset] [(.long q2), (.long q0), (.ref a1)])
    obtain ⟨cq1, kq1, zq1a, zq1b, zq1c⟩ := isOf hZ e0 KK.1
    obtain ⟨_, _, ⟨T1, L1, k1, n1⟩, -, X1, ⟨Lc1, hQ1, l1, y1, z1⟩, st1⟩ := X0.virtualBack hx (y := (⟨"com/example/vaxwire/vaxwire/store/OwnKeyChanges", "knownUpTo", "(JJ)V"⟩ : MethodName)) (z := (⟨"com/example/vaxwire/vaxwire/store/OwnKeyChanges", "knownUpTo", "(JJ)V"⟩ : MethodName)) hown (mvT hZ (hw _ (List.mem_of_getElem? (i := 30) rfl))) (mvT hZ (hw _ (List.mem_of_getElem? (i := 31) rfl))) (notFace_of_selects (args := #[]) (mvT hZ (hw _ (List.mem_of_getElem? (i := 33) rfl)))) (mvT hZ (hw _ (List.mem_of_getElem? (i := 33) rfl))) (mvT hZ (hw _ (List.mem_of_getElem? (i := 32) rfl))) (by decide) (backOf (W := 0) (rm_knownUpTo l Z a0 hw [] a1 (-1 : Int64) (-1 : Int64) q0 q2 h0 n0 Z0 KK) hZ (hw _ (List.mem_of_getElem? (i := 34) rfl)) (hw _ (List.mem_of_getElem? (i := 2) rfl)) (by decide) (by decide)) zq1a zq1c (g := (mkF m 35 #[.val (.long q0), .second, .val (.long q2), .second, .val (.long q4), .second, .val (.long q6), .second, .val (.long q8), .second, .val (.int p10), .val (.ref a1), .val (.int (p10 &&& (3 : Int32))), .val (.long (-1 : Int64)), .second, .val (.long (-1 : Int64)), .second, .unset, .unset, .unset, .unset, .unset] [(.long q2), (.long q0), (.ref a1)])) rfl (by rw [hml]; rfl) (Steps.refl _) (argsL := [(.long q0), (.long q2)]) (rest := []) (lenOf pd_4 rfl) rfl (by show 2 * 0 + _ ≤ _; exact Nat.le_of_eq rfl) (hb hby at_35) (fun _ _ => ⟨rfl, e0, (by decide : 7 + 0 ≤ _), (by decide : 8201 + 0 ≤ _)⟩)
    dsimp only [Pt.U, Pt.locs, Pt.cells, Pt.slots] at X1 l1 y1 z1 st1 hQ1
    subst l1 y1 z1
    obtain ⟨rfl, N1q, Zs1, KK1⟩ := hQ1
    have N1 := Fr.app N0 N1q
    refine own_goS st1 ?_
    show own_Goes _ _ _ _ _ _ _ T1 (mkF m 38 #[.val (.long q0), .second, .val (.long q2), .second, .val (.long q4), .second, .val (.long q6), .second, .val (.long q8), .second, .val (.int p10), .val (.ref a1), .val (.int (p10 &&& (3 : Int32))), .val (.long (-1 : Int64)), .second, .val (.long (-1 : Int64)), .second, .unset, .unset, .unset, .unset, .unset] [])
    refine own_go (fun _ k => XS.lloadN X1.here hx rfl (hb hby at_38) rfl k) ?_
    show own_Goes _ _ _ _ _ _ _ T1 (mkF m 39 #[.val (.long q0), .second, .val (.long q2), .second, .val (.long q4), .second, .val (.long q6), .second, .val (.long q8), .second, .val (.int p10), .val (.ref a1), .val (.int (p10 &&& (3 : Int32))), .val (.long (-1 : Int64)), .second, .val (.long (-1 : Int64)), .second, .unset, .unset, .unset, .unset, .unset] [(.long q0)])
    refine own_go (fun _ k => XS.lstore X1.here hx rfl (hb hby at_39) rfl (l' := #[.val (.long q0), .second, .val (.long q2), .second, .val (.long q4), .second, .val (.long q6), .second, .val (.long q8), .second, .val (.int p10), .val (.ref a1), .val (.int (p10 &&& (3 : Int32))), .val (.long q0), .second, .val (.long (-1 : Int64)), .second, .unset, .unset, .unset, .unset, .unset]) rfl k) ?_
    show own_Goes _ _ _ _ _ _ _ T1 (mkF m 41 #[.val (.long q0), .second, .val (.long q2), .second, .val (.long q4), .second, .val (.long q6), .second, .val (.long q8), .second, .val (.int p10), .val (.ref a1), .val (.int (p10 &&& (3 : Int32))), .val (.long q0), .second, .val (.long (-1 : Int64)), .second, .unset, .unset, .unset, .unset, .unset] [])
    refine own_go (fun _ k => XS.lloadN X1.here hx rfl (hb hby at_41) rfl k) ?_
    show own_Goes _ _ _ _ _ _ _ T1 (mkF m 42 #[.val (.long q0), .second, .val (.long q2), .second, .val (.long q4), .second, .val (.long q6), .second, .val (.long q8), .second, .val (.int p10), .val (.ref a1), .val (.int (p10 &&& (3 : Int32))), .val (.long q0), .second, .val (.long (-1 : Int64)), .second, .unset, .unset, .unset, .unset, .unset] [(.long q2)])
    refine own_go (fun _ k => XS.lstore X1.here hx rfl (hb hby at_42) rfl (l' := #[.val (.long q0), .second, .val (.long q2), .second, .val (.long q4), .second, .val (.long q6), .second, .val (.long q8), .second, .val (.int p10), .val (.ref a1), .val (.int (p10 &&& (3 : Int32))), .val (.long q0), .second, .val (.long q2), .second, .unset, .unset, .unset, .unset, .unset]) rfl k) ?_
    show own_Goes _ _ _ _ _ _ _ T1 (mkF m 44 #[.val (.long q0), .second, .val (.long q2), .second, .val (.long q4), .second, .val (.long q6), .second, .val (.long q8), .second, .val (.int p10), .val (.ref a1), .val (.int (p10 &&& (3 : Int32))), .val (.long q0), .second, .val (.long q2), .second, .unset, .unset, .unset, .unset, .unset] [])
    refine own_go (fun _ k => XS.goto X1.here hx rfl (pc0 := 44) (pc' := 115) rfl (hb hby at_44) (by decide) (by decide) k) ?_
    show own_Goes _ _ _ _ _ _ _ T1 (mkF m 115 #[.val (.long q0), .second, .val (.long q2), .second, .val (.long q4), .second, .val (.long q6), .second, .val (.long q8), .second, .val (.int p10), .val (.ref a1), .val (.int (p10 &&& (3 : Int32))), .val (.long q0), .second, .val (.long q2), .second, .unset, .unset, .unset, .unset, .unset] [])
    exact seg115 q0 q2 q4 q6 q8 q0 q2 p10 (p10 &&& (3 : Int32)) a1 hw ⟨hx, hby, hml, hown, hnm, hret, hlk, hZ⟩ X1 rfl n0 Zs1 N1 KK1
  · refine own_go (fun _ k => XS.icmpYes X0.here hx rfl (pc0 := 28) (pc' := 47) rfl (hb hby at_28) rfl (feq hc28).2 (by decide) (by decide) k) ?_
    show own_Goes _ _ _ _ _ _ _ s₁ (mkF m 47 #[.val (.long q0), .second, .val (.long q2), .second, .val (.long q4), .second, .val (.long q6), .second, .val (.long q8), .second, .val (.int p10), .val (.ref a1), .val (.int (p10 &&& (3 : Int32))), .val (.long (-1 : Int64)), .second, .val (.long (-1 : Int64)), .second, .unset, .unset, .unset, .unset, .unset] [])
    refine own_go (fun _ k => XS.iload X0.here hx rfl (hb hby at_47) rfl k) ?_
    show own_Goes _ _ _ _ _ _ _ s₁ (mkF m 49 #[.val (.long q0), .second, .val (.long q2), .second, .val (.long q4), .second, .val (.long q6), .second, .val (.long q8), .second, .val (.int p10), .val (.ref a1), .val (.int (p10 &&& (3 : Int32))), .val (.long (-1 : Int64)), .second, .val (.long (-1 : Int64)), .second, .unset, .unset, .unset, .unset, .unset] [(.int (p10 &&& (3 : Int32)))])
    refine own_go (fun _ k => XS.iconst X0.here hx rfl (hb hby at_49) k) ?_
    show own_Goes _ _ _ _ _ _ _ s₁ (mkF m 50 #[.val (.long q0), .second, .val (.long q2), .second, .val (.long q4), .second, .val (.long q6), .second, .val (.long q8), .second, .val (.int p10), .val (.ref a1), .val (.int (p10 &&& (3 : Int32))), .val (.long (-1 : Int64)), .second, .val (.long (-1 : Int64)), .second, .unset, .unset, .unset, .unset, .unset] [(.int (2 : Int32)), (.int (p10 &&& (3 : Int32)))])
    by_cases hc50 : (p10 &&& (3 : Int32)) = (2 : Int32)
    · refine own_go (fun _ k => XS.icmpNo X0.here hx rfl (hb hby at_50) rfl (teq hc50).2 k) ?_
      show own_Goes _ _ _ _ _ _ _ s₁ (mkF m 53 #[.val (.long q0), .second, .val (.long q2), .second, .val (.long q4), .second, .val (.long q6), .second, .val (.long q8), .second, .val (.int p10), .val (.ref a1), .val (.int (p10 &&& (3 : Int32))), .val (.long (-1 : Int64)), .second, .val (.long (-1 : Int64)), .second, .unset, .unset, .unset, .unset, .unset] [])
      refine own_go (fun _ k => XS.aload X0.here hx rfl (hb hby at_53) rfl rfl k) ?_
      show own_Goes _ _ _ _ _ _ _ s₁ (mkF m 55 #[.val (.long q0), .second, .val (.long q2), .second, .val (.long q4), .second, .val (.long q6), .second, .val (.long q8), .second, .val (.int p10), .val (.ref a1), .val (.int (p10 &&& (3 : Int32))), .val (.long (-1 : Int64)), .second, .val (.long (-1 : Int64)), .second, .unset, .unset, .unset, .unset, .unset] [(.ref a1)])
      refine own_go (fun _ k => XS.lloadN X0.here hx rfl (hb hby at_55) rfl k) ?_
      show own_Goes _ _ _ _ _ _ _ s₁ (mkF m 56 #[.val (.long q0), .second, .val (.long q2), .second, .val (.long q4), .second, .val (.long q6), .second, .val (.long q8), .second, .val (.int p10), .val (.ref a1), .val (.int (p10 &&& (3 : Int32))), .val (.long (-1 : Int64)), .second, .val (.long (-1 : Int64)), .second, .unset, .unset, .unset, .unset, .unset] [(.long q0), (.ref a1)])
      refine own_go (fun _ k => XS.lloadN X0.here hx rfl (hb hby at_56) rfl k) ?_
      show own_Goes _ _ _ _ _ _ _ s₁ (mkF m 57 #[.val (.long q0), .second, .val (.long q2), .second, .val (.long q4), .second, .val (.long q6), .second, .val (.long q8), .second, .val (.int p10), .val (.ref a1), .val (.int (p10 &&& (3 : Int32))), .val (.long (-1 : Int64)), .second, .val (.long (-1 : Int64)), .second, .unset, .unset, .unset, .unset, .unset] [(.long q2), (.long q0), (.ref a1)])
      obtain ⟨cq2, kq2, zq2a, zq2b, zq2c⟩ := isOf hZ e0 KK.1
      obtain ⟨_, _, ⟨T2, L2, k2, n2⟩, -, X2, ⟨Lc2, hQ2, l2, y2, z2⟩, st2⟩ := X0.virtualBack hx (y := (⟨"com/example/vaxwire/vaxwire/store/OwnKeyChanges", "knownUpTo", "(JJ)V"⟩ : MethodName)) (z := (⟨"com/example/vaxwire/vaxwire/store/OwnKeyChanges", "knownUpTo", "(JJ)V"⟩ : MethodName)) hown (mvT hZ (hw _ (List.mem_of_getElem? (i := 30) rfl))) (mvT hZ (hw _ (List.mem_of_getElem? (i := 31) rfl))) (notFace_of_selects (args := #[]) (mvT hZ (hw _ (List.mem_of_getElem? (i := 33) rfl)))) (mvT hZ (hw _ (List.mem_of_getElem? (i := 33) rfl))) (mvT hZ (hw _ (List.mem_of_getElem? (i := 32) rfl))) (by decide) (backOf (W := 0) (rm_knownUpTo l Z a0 hw [] a1 (-1 : Int64) (-1 : Int64) q0 q2 h0 n0 Z0 KK) hZ (hw _ (List.mem_of_getElem? (i := 34) rfl)) (hw _ (List.mem_of_getElem? (i := 2) rfl)) (by decide) (by decide)) zq2a zq2c (g := (mkF m 57 #[.val (.long q0), .second, .val (.long q2), .second, .val (.long q4), .second, .val (.long q6), .second, .val (.long q8), .second, .val (.int p10), .val (.ref a1), .val (.int (p10 &&& (3 : Int32))), .val (.long (-1 : Int64)), .second, .val (.long (-1 : Int64)), .second, .unset, .unset, .unset, .unset, .unset] [(.long q2), (.long q0), (.ref a1)])) rfl (by rw [hml]; rfl) (Steps.refl _) (argsL := [(.long q0), (.long q2)]) (rest := []) (lenOf pd_4 rfl) rfl (by show 2 * 0 + _ ≤ _; exact Nat.le_of_eq rfl) (hb hby at_57) (fun _ _ => ⟨rfl, e0, (by decide : 7 + 0 ≤ _), (by decide : 8201 + 0 ≤ _)⟩)
      dsimp only [Pt.U, Pt.locs, Pt.cells, Pt.slots] at X2 l2 y2 z2 st2 hQ2
      subst l2 y2 z2
      obtain ⟨rfl, N2q, Zs2, KK2⟩ := hQ2
      have N2 := Fr.app N0 N2q
      refine own_goS st2 ?_
      show own_Goes _ _ _ _ _ _ _ T2 (mkF m 60 #[.val (.long q0), .second, .val (.long q2), .second, .val (.long q4), .second, .val (.long q6), .second, .val (.long q8), .second, .val (.int p10), .val (.ref a1), .val (.int (p10 &&& (3 : Int32))), .val (.long (-1 : Int64)), .second, .val (.long (-1 : Int64)), .second, .unset, .unset, .unset, .unset, .unset] [])
      refine own_go (fun _ k => XS.aload X2.here hx rfl (hb hby at_60) rfl rfl k) ?_
      show own_Goes _ _ _ _ _ _ _ T2 (mkF m 62 #[.val (.long q0), .second, .val (.long q2), .second, .val (.long q4), .second, .val (.long q6), .second, .val (.long q8), .second, .val (.int p10), .val (.ref a1), .val (.int (p10 &&& (3 : Int32))), .val (.long (-1 : Int64)), .second, .val (.long (-1 : Int64)), .second, .unset, .unset, .unset, .unset, .unset] [(.ref a1)])
      obtain ⟨cq3, kq3, zq3a, zq3b, zq3c⟩ := isOf hZ rfl KK2.1
      obtain ⟨_, _, ⟨T3, L3, k3, n3⟩, -, X3, ⟨Lc3, hQ3, l3, y3, z3⟩, st3⟩ := X2.virtualBack hx (y := (⟨"com/example/vaxwire/vaxwire/store/OwnKeyChanges", "forget", "()V"⟩ : MethodName)) (z := (⟨"com/example/vaxwire/vaxwire/store/OwnKeyChanges", "forget", "()V"⟩ : MethodName)) hown (mvT hZ (hw _ (List.mem_of_getElem? (i := 48) rfl))) (mvT hZ (hw _ (List.mem_of_getElem? (i := 49) rfl))) (notFace_of_selects (args := #[]) (mvT hZ (hw _ (List.mem_of_getElem? (i := 51) rfl)))) (mvT hZ (hw _ (List.mem_of_getElem? (i := 51) rfl))) (mvT hZ (hw _ (List.mem_of_getElem? (i := 50) rfl))) (by decide) (backOf (W := 0) (rm_forget l Z a0 hw [] a1 q0 q2  T2.heap n0 Zs2 KK2) hZ (hw _ (List.mem_of_getElem? (i := 52) rfl)) (hw _ (List.mem_of_getElem? (i := 2) rfl)) (by decide) (by decide)) zq3a zq3c (g := (mkF m 62 #[.val (.long q0), .second, .val (.long q2), .second, .val (.long q4), .second, .val (.long q6), .second, .val (.long q8), .second, .val (.int p10), .val (.ref a1), .val (.int (p10 &&& (3 : Int32))), .val (.long (-1 : Int64)), .second, .val (.long (-1 : Int64)), .second, .unset, .unset, .unset, .unset, .unset] [(.ref a1)])) rfl (by rw [hml]; rfl) (Steps.refl _) (argsL := []) (rest := []) (lenOf pd_2 rfl) rfl (by show 2 * 0 + _ ≤ _; exact Nat.le_of_eq rfl) (hb hby at_62) (fun _ _ => ⟨rfl, rfl, (by decide : 7 + 0 + 0 ≤ _), (by decide : 8201 + 0 + 0 ≤ _)⟩)
      dsimp only [Pt.U, Pt.locs, Pt.cells, Pt.slots] at X3 l3 y3 z3 st3 hQ3
      subst l3 y3 z3
      obtain ⟨rfl, N3q, Zs3, KK3⟩ := hQ3
      have N3 := Fr.app N2 N3q
      refine own_goS st3 ?_
      show own_Goes _ _ _ _ _ _ _ T3 (mkF m 65 #[.val (.long q0), .second, .val (.long q2), .second, .val (.long q4), .second, .val (.long q6), .second, .val (.long q8), .second, .val (.int p10), .val (.ref a1), .val (.int (p10 &&& (3 : Int32))), .val (.long (-1 : Int64)), .second, .val (.long (-1 : Int64)), .second, .unset, .unset, .unset, .unset, .unset] [])
      refine own_go (fun t k => X3.ldc2Long hx hown (mvT hZ (hw _ (List.mem_of_getElem? (i := 29) rfl))) (g := (mkF m 65 #[.val (.long q0), .second, .val (.long q2), .second, .val (.long q4), .second, .val (.long q6), .second, .val (.long q8), .second, .val (.int p10), .val (.ref a1), .val (.int (p10 &&& (3 : Int32))), .val (.long (-1 : Int64)), .second, .val (.long (-1 : Int64)), .second, .unset, .unset, .unset, .unset, .unset] [])) rfl (hb hby at_65) t k) ?_
      show own_Goes _ _ _ _ _ _ _ T3 (mkF m 68 #[.val (.long q0), .second, .val (.long q2), .second, .val (.long q4), .second, .val (.long q6), .second, .val (.long q8), .second, .val (.int p10), .val (.ref a1), .val (.int (p10 &&& (3 : Int32))), .val (.long (-1 : Int64)), .second, .val (.long (-1 : Int64)), .second, .unset, .unset, .unset, .unset, .unset] [(.long (-1 : Int64))])
      refine own_go (fun _ k => XS.lstore X3.here hx rfl (hb hby at_68) rfl (l' := #[.val (.long q0), .second, .val (.long q2), .second, .val (.long q4), .second, .val (.long q6), .second, .val (.long q8), .second, .val (.int p10), .val (.ref a1), .val (.int (p10 &&& (3 : Int32))), .val (.long (-1 : Int64)), .second, .val (.long (-1 : Int64)), .second, .unset, .unset, .unset, .unset, .unset]) rfl k) ?_
      show own_Goes _ _ _ _ _ _ _ T3 (mkF m 70 #[.val (.long q0), .second, .val (.long q2), .second, .val (.long q4), .second, .val (.long q6), .second, .val (.long q8), .second, .val (.int p10), .val (.ref a1), .val (.int (p10 &&& (3 : Int32))), .val (.long (-1 : Int64)), .second, .val (.long (-1 : Int64)), .second, .unset, .unset, .unset, .unset, .unset] [])
      refine own_go (fun _ k => XS.lloadN X3.here hx rfl (hb hby at_70) rfl k) ?_
      show own_Goes _ _ _ _ _ _ _ T3 (mkF m 71 #[.val (.long q0), .second, .val (.long q2), .second, .val (.long q4), .second, .val (.long q6), .second, .val (.long q8), .second, .val (.int p10), .val (.ref a1), .val (.int (p10 &&& (3 : Int32))), .val (.long (-1 : Int64)), .second, .val (.long (-1 : Int64)), .second, .unset, .unset, .unset, .unset, .unset] [(.long q2)])
      refine own_go (fun _ k => XS.lstore X3.here hx rfl (hb hby at_71) rfl (l' := #[.val (.long q0), .second, .val (.long q2), .second, .val (.long q4), .second, .val (.long q6), .second, .val (.long q8), .second, .val (.int p10), .val (.ref a1), .val (.int (p10 &&& (3 : Int32))), .val (.long (-1 : Int64)), .second, .val (.long q2), .second, .unset, .unset, .unset, .unset, .unset]) rfl k) ?_
      show own_Goes _ _ _ _ _ _ _ T3 (mkF m 73 #[.val (.long q0), .second, .val (.long q2), .second, .val (.long q4), .second, .val (.long q6), .second, .val (.long q8), .second, .val (.int p10), .val (.ref a1), .val (.int (p10 &&& (3 : Int32))), .val (.long (-1 : Int64)), .second, .val (.long q2), .second, .unset, .unset, .unset, .unset, .unset] [])
      refine own_go (fun _ k => XS.goto X3.here hx rfl (pc0 := 73) (pc' := 115) rfl (hb hby at_73) (by decide) (by decide) k) ?_
      show own_Goes _ _ _ _ _ _ _ T3 (mkF m 115 #[.val (.long q0), .second, .val (.long q2), .second, .val (.long q4), .second, .val (.long q6), .second, .val (.long q8), .second, .val (.int p10), .val (.ref a1), .val (.int (p10 &&& (3 : Int32))), .val (.long (-1 : Int64)), .second, .val (.long q2), .second, .unset, .unset, .unset, .unset, .unset] [])
      exact seg115 q0 q2 q4 q6 q8 (-1 : Int64) q2 p10 (p10 &&& (3 : Int32)) a1 hw ⟨hx, hby, hml, hown, hnm, hret, hlk, hZ⟩ X3 rfl n0 Zs3 N3 KK3
    · refine own_go (fun _ k => XS.icmpYes X0.here hx rfl (pc0 := 50) (pc' := 76) rfl (hb hby at_50) rfl (feq hc50).2 (by decide) (by decide) k) ?_
      show own_Goes _ _ _ _ _ _ _ s₁ (mkF m 76 #[.val (.long q0), .second, .val (.long q2), .second, .val (.long q4), .second, .val (.long q6), .second, .val (.long q8), .second, .val (.int p10), .val (.ref a1), .val (.int (p10 &&& (3 : Int32))), .val (.long (-1 : Int64)), .second, .val (.long (-1 : Int64)), .second, .unset, .unset, .unset, .unset, .unset] [])
      refine own_go (fun _ k => XS.iload X0.here hx rfl (hb hby at_76) rfl k) ?_
      show own_Goes _ _ _ _ _ _ _ s₁ (mkF m 78 #[.val (.long q0), .second, .val (.long q2), .second, .val (.long q4), .second, .val (.long q6), .second, .val (.long q8), .second, .val (.int p10), .val (.ref a1), .val (.int (p10 &&& (3 : Int32))), .val (.long (-1 : Int64)), .second, .val (.long (-1 : Int64)), .second, .unset, .unset, .unset, .unset, .unset] [(.int (p10 &&& (3 : Int32)))])
      refine own_go (fun _ k => XS.iconst X0.here hx rfl (hb hby at_78) k) ?_
      show own_Goes _ _ _ _ _ _ _ s₁ (mkF m 79 #[.val (.long q0), .second, .val (.long q2), .second, .val (.long q4), .second, .val (.long q6), .second, .val (.long q8), .second, .val (.int p10), .val (.ref a1), .val (.int (p10 &&& (3 : Int32))), .val (.long (-1 : Int64)), .second, .val (.long (-1 : Int64)), .second, .unset, .unset, .unset, .unset, .unset] [(.int (3 : Int32)), (.int (p10 &&& (3 : Int32)))])
      by_cases hc79 : (p10 &&& (3 : Int32)) = (3 : Int32)
      · refine own_go (fun _ k => XS.icmpNo X0.here hx rfl (hb hby at_79) rfl (teq hc79).2 k) ?_
        show own_Goes _ _ _ _ _ _ _ s₁ (mkF m 82 #[.val (.long q0), .second, .val (.long q2), .second, .val (.long q4), .second, .val (.long q6), .second, .val (.long q8), .second, .val (.int p10), .val (.ref a1), .val (.int (p10 &&& (3 : Int32))), .val (.long (-1 : Int64)), .second, .val (.long (-1 : Int64)), .second, .unset, .unset, .unset, .unset, .unset] [])
        refine own_go (fun _ k => XS.aload X0.here hx rfl (hb hby at_82) rfl rfl k) ?_
        show own_Goes _ _ _ _ _ _ _ s₁ (mkF m 84 #[.val (.long q0), .second, .val (.long q2), .second, .val (.long q4), .second, .val (.long q6), .second, .val (.long q8), .second, .val (.int p10), .val (.ref a1), .val (.int (p10 &&& (3 : Int32))), .val (.long (-1 : Int64)), .second, .val (.long (-1 : Int64)), .second, .unset, .unset, .unset, .unset, .unset] [(.ref a1)])
        refine own_go (fun _ k => XS.lloadN X0.here hx rfl (hb hby at_84) rfl k) ?_
        show own_Goes _ _ _ _ _ _ _ s₁ (mkF m 85 #[.val (.long q0), .second, .val (.long q2), .second, .val (.long q4), .second, .val (.long q6), .second, .val (.long q8), .second, .val (.int p10), .val (.ref a1), .val (.int (p10 &&& (3 : Int32))), .val (.long (-1 : Int64)), .second, .val (.long (-1 : Int64)), .second, .unset, .unset, .unset, .unset, .unset] [(.long q0), (.ref a1)])
        refine own_go (fun _ k => XS.lloadN X0.here hx rfl (hb hby at_85) rfl k) ?_
        show own_Goes _ _ _ _ _ _ _ s₁ (mkF m 86 #[.val (.long q0), .second, .val (.long q2), .second, .val (.long q4), .second, .val (.long q6), .second, .val (.long q8), .second, .val (.int p10), .val (.ref a1), .val (.int (p10 &&& (3 : Int32))), .val (.long (-1 : Int64)), .second, .val (.long (-1 : Int64)), .second, .unset, .unset, .unset, .unset, .unset] [(.long q2), (.long q0), (.ref a1)])
        obtain ⟨cq4, kq4, zq4a, zq4b, zq4c⟩ := isOf hZ e0 KK.1
        obtain ⟨_, _, ⟨T4, L4, k4, n4⟩, -, X4, ⟨Lc4, hQ4, l4, y4, z4⟩, st4⟩ := X0.virtualBack hx (y := (⟨"com/example/vaxwire/vaxwire/store/OwnKeyChanges", "knownUpTo", "(JJ)V"⟩ : MethodName)) (z := (⟨"com/example/vaxwire/vaxwire/store/OwnKeyChanges", "knownUpTo", "(JJ)V"⟩ : MethodName)) hown (mvT hZ (hw _ (List.mem_of_getElem? (i := 30) rfl))) (mvT hZ (hw _ (List.mem_of_getElem? (i := 31) rfl))) (notFace_of_selects (args := #[]) (mvT hZ (hw _ (List.mem_of_getElem? (i := 33) rfl)))) (mvT hZ (hw _ (List.mem_of_getElem? (i := 33) rfl))) (mvT hZ (hw _ (List.mem_of_getElem? (i := 32) rfl))) (by decide) (backOf (W := 0) (rm_knownUpTo l Z a0 hw [] a1 (-1 : Int64) (-1 : Int64) q0 q2 h0 n0 Z0 KK) hZ (hw _ (List.mem_of_getElem? (i := 34) rfl)) (hw _ (List.mem_of_getElem? (i := 2) rfl)) (by decide) (by decide)) zq4a zq4c (g := (mkF m 86 #[.val (.long q0), .second, .val (.long q2), .second, .val (.long q4), .second, .val (.long q6), .second, .val (.long q8), .second, .val (.int p10), .val (.ref a1), .val (.int (p10 &&& (3 : Int32))), .val (.long (-1 : Int64)), .second, .val (.long (-1 : Int64)), .second, .unset, .unset, .unset, .unset, .unset] [(.long q2), (.long q0), (.ref a1)])) rfl (by rw [hml]; rfl) (Steps.refl _) (argsL := [(.long q0), (.long q2)]) (rest := []) (lenOf pd_4 rfl) rfl (by show 2 * 0 + _ ≤ _; exact Nat.le_of_eq rfl) (hb hby at_86) (fun _ _ => ⟨rfl, e0, (by decide : 7 + 0 ≤ _), (by decide : 8201 + 0 ≤ _)⟩)
        dsimp only [Pt.U, Pt.locs, Pt.cells, Pt.slots] at X4 l4 y4 z4 st4 hQ4
        subst l4 y4 z4
        obtain ⟨rfl, N4q, Zs4, KK4⟩ := hQ4
        have N4 := Fr.app N0 N4q
        refine own_goS st4 ?_
        show own_Goes _ _ _ _ _ _ _ T4 (mkF m 89 #[.val (.long q0), .second, .val (.long q2), .second, .val (.long q4), .second, .val (.long q6), .second, .val (.long q8), .second, .val (.int p10), .val (.ref a1), .val (.int (p10 &&& (3 : Int32))), .val (.long (-1 : Int64)), .second, .val (.long (-1 : Int64)), .second, .unset, .unset, .unset, .unset, .unset] [])
        refine own_go (fun _ k => XS.aload X4.here hx rfl (hb hby at_89) rfl rfl k) ?_
        show own_Goes _ _ _ _ _ _ _ T4 (mkF m 91 #[.val (.long q0), .second, .val (.long q2), .second, .val (.long q4), .second, .val (.long q6), .second, .val (.long q8), .second, .val (.int p10), .val (.ref a1), .val (.int (p10 &&& (3 : Int32))), .val (.long (-1 : Int64)), .second, .val (.long (-1 : Int64)), .second, .unset, .unset, .unset, .unset, .unset] [(.ref a1)])
        refine own_go (fun _ k => XS.lload X4.here hx rfl (hb hby at_91) rfl k) ?_
        show own_Goes _ _ _ _ _ _ _ T4 (mkF m 93 #[.val (.long q0), .second, .val (.long q2), .second, .val (.long q4), .second, .val (.long q6), .second, .val (.long q8), .second, .val (.int p10), .val (.ref a1), .val (.int (p10 &&& (3 : Int32))), .val (.long (-1 : Int64)), .second, .val (.long (-1 : Int64)), .second, .unset, .unset, .unset, .unset, .unset] [(.long q4), (.ref a1)])
        obtain ⟨cq5, kq5, zq5a, zq5b, zq5c⟩ := isOf hZ rfl KK4.1
        obtain ⟨_, _, ⟨T5, L5, k5, n5⟩, -, X5, ⟨Lc5, hQ5, l5, y5, z5⟩, st5⟩ := X4.virtualBack hx (y := (⟨"com/example/vaxwire/vaxwire/store/OwnKeyChanges", "committed", "(J)V"⟩ : MethodName)) (z := (⟨"com/example/vaxwire/vaxwire/store/OwnKeyChanges", "committed", "(J)V"⟩ : MethodName)) hown (mvT hZ (hw _ (List.mem_of_getElem? (i := 58) rfl))) (mvT hZ (hw _ (List.mem_of_getElem? (i := 59) rfl))) (notFace_of_selects (args := #[]) (mvT hZ (hw _ (List.mem_of_getElem? (i := 61) rfl)))) (mvT hZ (hw _ (List.mem_of_getElem? (i := 61) rfl))) (mvT hZ (hw _ (List.mem_of_getElem? (i := 60) rfl))) (by decide) (backOf (W := 0) (rm_committed l Z a0 hw [] a1 q0 q2 q4 T4.heap n0 Zs4 KK4) hZ (hw _ (List.mem_of_getElem? (i := 62) rfl)) (hw _ (List.mem_of_getElem? (i := 2) rfl)) (by decide) (by decide)) zq5a zq5c (g := (mkF m 93 #[.val (.long q0), .second, .val (.long q2), .second, .val (.long q4), .second, .val (.long q6), .second, .val (.long q8), .second, .val (.int p10), .val (.ref a1), .val (.int (p10 &&& (3 : Int32))), .val (.long (-1 : Int64)), .second, .val (.long (-1 : Int64)), .second, .unset, .unset, .unset, .unset, .unset] [(.long q4), (.ref a1)])) rfl (by rw [hml]; rfl) (Steps.refl _) (argsL := [(.long q4)]) (rest := []) (lenOf pd_5 rfl) rfl (by show 2 * 0 + _ ≤ _; exact Nat.le_of_eq rfl) (hb hby at_93) (fun _ _ => ⟨rfl, rfl, (by decide : 7 + 0 + 0 ≤ _), (by decide : 8201 + 0 + 0 ≤ _)⟩)
        dsimp only [Pt.U, Pt.locs, Pt.cells, Pt.slots] at X5 l5 y5 z5 st5 hQ5
        subst l5 y5 z5
        obtain ⟨rfl, N5q, Zs5, KK5⟩ := hQ5
        have N5 := Fr.app N4 N5q
        refine own_goS st5 ?_
        show own_Goes _ _ _ _ _ _ _ T5 (mkF m 96 #[.val (.long q0), .second, .val (.long q2), .second, .val (.long q4), .second, .val (.long q6), .second, .val (.long q8), .second, .val (.int p10), .val (.ref a1), .val (.int (p10 &&& (3 : Int32))), .val (.long (-1 : Int64)), .second, .val (.long (-1 : Int64)), .second, .unset, .unset, .unset, .unset, .unset] [])
        refine own_go (fun _ k => XS.lloadN X5.here hx rfl (hb hby at_96) rfl k) ?_
        show own_Goes _ _ _ _ _ _ _ T5 (mkF m 97 #[.val (.long q0), .second, .val (.long q2), .second, .val (.long q4), .second, .val (.long q6), .second, .val (.long q8), .second, .val (.int p10), .val (.ref a1), .val (.int (p10 &&& (3 : Int32))), .val (.long (-1 : Int64)), .second, .val (.long (-1 : Int64)), .second, .unset, .unset, .unset, .unset, .unset] [(.long q0)])
        refine own_go (fun _ k => XS.lconst X5.here hx rfl (hb hby at_97) k) ?_
        show own_Goes _ _ _ _ _ _ _ T5 (mkF m 98 #[.val (.long q0), .second, .val (.long q2), .second, .val (.long q4), .second, .val (.long q6), .second, .val (.long q8), .second, .val (.int p10), .val (.ref a1), .val (.int (p10 &&& (3 : Int32))), .val (.long (-1 : Int64)), .second, .val (.long (-1 : Int64)), .second, .unset, .unset, .unset, .unset, .unset] [(.long (0 : Int64)), (.long q0)])
        refine own_go (fun _ k => XS.lcmp X5.here hx rfl (hb hby at_98) rfl k) ?_
        show own_Goes _ _ _ _ _ _ _ T5 (mkF m 99 #[.val (.long q0), .second, .val (.long q2), .second, .val (.long q4), .second, .val (.long q6), .second, .val (.long q8), .second, .val (.int p10), .val (.ref a1), .val (.int (p10 &&& (3 : Int32))), .val (.long (-1 : Int64)), .second, .val (.long (-1 : Int64)), .second, .unset, .unset, .unset, .unset, .unset] [(.int (lcmpW q0 (0 : Int64)))])
        by_cases hc99 : q0 < (0 : Int64)
        · refine own_go (fun _ k => XS.ifYes X5.here hx rfl (pc0 := 99) (pc' := 109) rfl (hb hby at_99) rfl ((if0 _ _).trans (tlt ((lw_lt _ _).mpr hc99)).1) (by decide) (by decide) k) ?_
          show own_Goes _ _ _ _ _ _ _ T5 (mkF m 109 #[.val (.long q0), .second, .val (.long q2), .second, .val (.long q4), .second, .val (.long q6), .second, .val (.long q8), .second, .val (.int p10), .val (.ref a1), .val (.int (p10 &&& (3 : Int32))), .val (.long (-1 : Int64)), .second, .val (.long (-1 : Int64)), .second, .unset, .unset, .unset, .unset, .unset] [])
          refine own_go (fun _ k => XS.lloadN X5.here hx rfl (hb hby at_109) rfl k) ?_
          show own_Goes _ _ _ _ _ _ _ T5 (mkF m 110 #[.val (.long q0), .second, .val (.long q2), .second, .val (.long q4), .second, .val (.long q6), .second, .val (.long q8), .second, .val (.int p10), .val (.ref a1), .val (.int (p10 &&& (3 : Int32))), .val (.long (-1 : Int64)), .second, .val (.long (-1 : Int64)), .second, .unset, .unset, .unset, .unset, .unset] [(.long q0)])
          refine own_go (fun _ k => XS.lstore X5.here hx rfl (hb hby at_110) rfl (l' := #[.val (.long q0), .second, .val (.long q2), .second, .val (.long q4), .second, .val (.long q6), .second, .val (.long q8), .second, .val (.int p10), .val (.ref a1), .val (.int (p10 &&& (3 : Int32))), .val (.long q0), .second, .val (.long (-1 : Int64)), .second, .unset, .unset, .unset, .unset, .unset]) rfl k) ?_
          show own_Goes _ _ _ _ _ _ _ T5 (mkF m 112 #[.val (.long q0), .second, .val (.long q2), .second, .val (.long q4), .second, .val (.long q6), .second, .val (.long q8), .second, .val (.int p10), .val (.ref a1), .val (.int (p10 &&& (3 : Int32))), .val (.long q0), .second, .val (.long (-1 : Int64)), .second, .unset, .unset, .unset, .unset, .unset] [])
          refine own_go (fun _ k => XS.lloadN X5.here hx rfl (hb hby at_112) rfl k) ?_
          show own_Goes _ _ _ _ _ _ _ T5 (mkF m 113 #[.val (.long q0), .second, .val (.long q2), .second, .val (.long q4), .second, .val (.long q6), .second, .val (.long q8), .second, .val (.int p10), .val (.ref a1), .val (.int (p10 &&& (3 : Int32))), .val (.long q0), .second, .val (.long (-1 : Int64)), .second, .unset, .unset, .unset, .unset, .unset] [(.long q2)])
          refine own_go (fun _ k => XS.lstore X5.here hx rfl (hb hby at_113) rfl (l' := #[.val (.long q0), .second, .val (.long q2), .second, .val (.long q4), .second, .val (.long q6), .second, .val (.long q8), .second, .val (.int p10), .val (.ref a1), .val (.int (p10 &&& (3 : Int32))), .val (.long q0), .second, .val (.long q2), .second, .unset, .unset, .unset, .unset, .unset]) rfl k) ?_
          show own_Goes _ _ _ _ _ _ _ T5 (mkF m 115 #[.val (.long q0), .second, .val (.long q2), .second, .val (.long q4), .second, .val (.long q6), .second, .val (.long q8), .second, .val (.int p10), .val (.ref a1), .val (.int (p10 &&& (3 : Int32))), .val (.long q0), .second, .val (.long q2), .second, .unset, .unset, .unset, .unset, .unset] [])
          exact seg115 q0 q2 q4 q6 q8 q0 q2 p10 (p10 &&& (3 : Int32)) a1 hw ⟨hx, hby, hml, hown, hnm, hret, hlk, hZ⟩ X5 rfl n0 Zs5 N5 (own_at (by rw [own_c, if_pos hc99]) KK5)
        · refine own_go (fun _ k => XS.ifNo X5.here hx rfl (hb hby at_99) rfl ((if0 _ _).trans (flt (fun q => hc99 ((lw_lt _ _).mp q))).1) k) ?_
          show own_Goes _ _ _ _ _ _ _ T5 (mkF m 102 #[.val (.long q0), .second, .val (.long q2), .second, .val (.long q4), .second, .val (.long q6), .second, .val (.long q8), .second, .val (.int p10), .val (.ref a1), .val (.int (p10 &&& (3 : Int32))), .val (.long (-1 : Int64)), .second, .val (.long (-1 : Int64)), .second, .unset, .unset, .unset, .unset, .unset] [])
          refine own_go (fun _ k => XS.lload X5.here hx rfl (hb hby at_102) rfl k) ?_
          show own_Goes _ _ _ _ _ _ _ T5 (mkF m 104 #[.val (.long q0), .second, .val (.long q2), .second, .val (.long q4), .second, .val (.long q6), .second, .val (.long q8), .second, .val (.int p10), .val (.ref a1), .val (.int (p10 &&& (3 : Int32))), .val (.long (-1 : Int64)), .second, .val (.long (-1 : Int64)), .second, .unset, .unset, .unset, .unset, .unset] [(.long q4)])
          refine own_go (fun _ k => XS.lstore X5.here hx rfl (hb hby at_104) rfl (l' := #[.val (.long q0), .second, .val (.long q2), .second, .val (.long q4), .second, .val (.long q6), .second, .val (.long q8), .second, .val (.int p10), .val (.ref a1), .val (.int (p10 &&& (3 : Int32))), .val (.long q4), .second, .val (.long (-1 : Int64)), .second, .unset, .unset, .unset, .unset, .unset]) rfl k) ?_
          show own_Goes _ _ _ _ _ _ _ T5 (mkF m 106 #[.val (.long q0), .second, .val (.long q2), .second, .val (.long q4), .second, .val (.long q6), .second, .val (.long q8), .second, .val (.int p10), .val (.ref a1), .val (.int (p10 &&& (3 : Int32))), .val (.long q4), .second, .val (.long (-1 : Int64)), .second, .unset, .unset, .unset, .unset, .unset] [])
          refine own_go (fun _ k => XS.goto X5.here hx rfl (pc0 := 106) (pc' := 112) rfl (hb hby at_106) (by decide) (by decide) k) ?_
          show own_Goes _ _ _ _ _ _ _ T5 (mkF m 112 #[.val (.long q0), .second, .val (.long q2), .second, .val (.long q4), .second, .val (.long q6), .second, .val (.long q8), .second, .val (.int p10), .val (.ref a1), .val (.int (p10 &&& (3 : Int32))), .val (.long q4), .second, .val (.long (-1 : Int64)), .second, .unset, .unset, .unset, .unset, .unset] [])
          refine own_go (fun _ k => XS.lloadN X5.here hx rfl (hb hby at_112) rfl k) ?_
          show own_Goes _ _ _ _ _ _ _ T5 (mkF m 113 #[.val (.long q0), .second, .val (.long q2), .second, .val (.long q4), .second, .val (.long q6), .second, .val (.long q8), .second, .val (.int p10), .val (.ref a1), .val (.int (p10 &&& (3 : Int32))), .val (.long q4), .second, .val (.long (-1 : Int64)), .second, .unset, .unset, .unset, .unset, .unset] [(.long q2)])
          refine own_go (fun _ k => XS.lstore X5.here hx rfl (hb hby at_113) rfl (l' := #[.val (.long q0), .second, .val (.long q2), .second, .val (.long q4), .second, .val (.long q6), .second, .val (.long q8), .second, .val (.int p10), .val (.ref a1), .val (.int (p10 &&& (3 : Int32))), .val (.long q4), .second, .val (.long q2), .second, .unset, .unset, .unset, .unset, .unset]) rfl k) ?_
          show own_Goes _ _ _ _ _ _ _ T5 (mkF m 115 #[.val (.long q0), .second, .val (.long q2), .second, .val (.long q4), .second, .val (.long q6), .second, .val (.long q8), .second, .val (.int p10), .val (.ref a1), .val (.int (p10 &&& (3 : Int32))), .val (.long q4), .second, .val (.long q2), .second, .unset, .unset, .unset, .unset, .unset] [])
          exact seg115 q0 q2 q4 q6 q8 q4 q2 p10 (p10 &&& (3 : Int32)) a1 hw ⟨hx, hby, hml, hown, hnm, hret, hlk, hZ⟩ X5 rfl n0 Zs5 N5 (own_at (by rw [own_c, if_neg hc99]) KK5)
      · refine own_go (fun _ k => XS.icmpYes X0.here hx rfl (pc0 := 79) (pc' := 115) rfl (hb hby at_79) rfl (feq hc79).2 (by decide) (by decide) k) ?_
        show own_Goes _ _ _ _ _ _ _ s₁ (mkF m 115 #[.val (.long q0), .second, .val (.long q2), .second, .val (.long q4), .second, .val (.long q6), .second, .val (.long q8), .second, .val (.int p10), .val (.ref a1), .val (.int (p10 &&& (3 : Int32))), .val (.long (-1 : Int64)), .second, .val (.long (-1 : Int64)), .second, .unset, .unset, .unset, .unset, .unset] [])
        exact seg115 q0 q2 q4 q6 q8 (-1 : Int64) (-1 : Int64) p10 (p10 &&& (3 : Int32)) a1 hw ⟨hx, hby, hml, hown, hnm, hret, hlk, hZ⟩ X0 e0 n0 Z0 N0 KK
def Q_rm0 (Z : State) (h0 : Heap) (n0 : Nat)  (v : Option Value) (h : Heap) (L : List Loc) : Prop := v = some (.int 1) ∧ Fr n0 L
set_option maxRecDepth 65536 in
set_option maxHeartbeats 40000000 in
theorem rm0 (l : Launch) (Z : State) (a0 : Array Value) (hw : ∀ d ∈ tables_1, d.before a0 Z = true) (ws : List Jvm.Cond) (q0 q2 q4 q6 q8 : Int64) (p10 : Int32) (h0 : Heap) (n0 : Nat) (Z0 : n0 ≤ h0.size) :
    MetFree l x (head1 (Jvm.Cond.code x code maxLocals ret :: ws) room_1) (fun a U => a = #[(.long q0), (.long q2), (.long q4), (.long q6), (.long q8), (.int p10)] ∧ Z.Warmed39 U.vm ∧ U.heap = h0) (fun _ _ _ _ _ => True) (fun _ U o U' => ∃ rv rL, o = .returned rv ∧ Q_rm0 Z h0 n0  rv U'.heap rL ∧ FrameEnd U o U' rL room_1.cells room_1.slots) := by
  refine own_met (y := x) (Q := Q_rm0 Z h0 n0 ) (own := "com/example/vaxwire/vaxwire/store/OwnKeyChangesAccountsForPinLaw") rfl pn_0 ?_
  intro p e s m below meth c s₁ C e0 X0
  obtain ⟨hx, hby, hml, hown, hnm, hret, hlk, hZ⟩ := C
  have N0 := Fr.nil n0
  rw [ef_0]
  show own_Goes _ _ _ _ _ _ _ s₁ (mkF m 0 #[.val (.long q0), .second, .val (.long q2), .second, .val (.long q4), .second, .val (.long q6), .second, .val (.long q8), .second, .val (.int p10), .unset, .unset, .unset, .unset, .unset, .unset, .unset, .unset, .unset, .unset, .unset] [])
  obtain ⟨T1, h1, X1, e1, E1, A1, D1, -, st1⟩ := newO X0 hx hZ hown (hw _ (List.mem_of_getElem? (i := 0) rfl)) (hw _ (List.mem_of_getElem? (i := 1) rfl)) (hw _ (List.mem_of_getElem? (i := 2) rfl)) e0 (g := (mkF m 0 #[.val (.long q0), .second, .val (.long q2), .second, .val (.long q4), .second, .val (.long q6), .second, .val (.long q8), .second, .val (.int p10), .unset, .unset, .unset, .unset, .unset, .unset, .unset, .unset, .unset, .unset, .unset] [])) rfl (hb hby at_0) (by decide) (by decide)
  obtain ⟨b1, g1⟩ : ∃ z, z = h0.size := ⟨_, rfl⟩
  rw [← g1] at A1 D1 st1
  have lo_b1 : n0 ≤ b1 := Nat.le_trans Z0 (Nat.le_of_eq g1.symm)
  have Zs1 : n0 ≤ h1.size := Nat.le_trans Z0 E1.1
  have F_upTo_b1 : Fld Z h1 b1 "com/example/vaxwire/vaxwire/store/OwnKeyChanges" "upTo" "J" (.long (0 : Int64)) := D1 (Or.inl (hw _ (List.mem_of_getElem? (i := 11) rfl))) (ty := .long) (by decide)
  have F_moves_b1 : Fld Z h1 b1 "com/example/vaxwire/vaxwire/store/OwnKeyChanges" "moves" "J" (.long (0 : Int64)) := D1 (Or.inl (hw _ (List.mem_of_getElem? (i := 13) rfl))) (ty := .long) (by decide)
  have F_numbers_b1 : Fld Z h1 b1 "com/example/vaxwire/vaxwire/store/OwnKeyChanges" "numbers" "[J" .null := D1 (Or.inl (hw _ (List.mem_of_getElem? (i := 16) rfl))) (ty := (.array .long)) (by decide)
  have F_patients_b1 : Fld Z h1 b1 "com/example/vaxwire/vaxwire/store/OwnKeyChanges" "patients" "[J" .null := D1 (Or.inl (hw _ (List.mem_of_getElem? (i := 18) rfl))) (ty := (.array .long)) (by decide)
  have F_files_b1 : Fld Z h1 b1 "com/example/vaxwire/vaxwire/store/OwnKeyChanges" "files" "[Z" .null := D1 (Or.inl (hw _ (List.mem_of_getElem? (i := 21) rfl))) (ty := (.array .boolean)) (by decide)
  have F_before_b1 : Fld Z h1 b1 "com/example/vaxwire/vaxwire/store/OwnKeyChanges" "before" "[I" .null := D1 (Or.inl (hw _ (List.mem_of_getElem? (i := 24) rfl))) (ty := (.array .int)) (by decide)
  have F_last_b1 : Fld Z h1 b1 "com/example/vaxwire/vaxwire/store/OwnKeyChanges" "last" "[I" .null := D1 (Or.inl (hw _ (List.mem_of_getElem? (i := 26) rfl))) (ty := (.array .int)) (by decide)
  have F_takesOut_b1 : Fld Z h1 b1 "com/example/vaxwire/vaxwire/store/OwnKeyChanges" "takesOut" "[Z" .null := D1 (Or.inl (hw _ (List.mem_of_getElem? (i := 28) rfl))) (ty := (.array .boolean)) (by decide)
  have F_count_b1 : Fld Z h1 b1 "com/example/vaxwire/vaxwire/store/OwnKeyChanges" "count" "I" (.int (0 : Int32)) := D1 (Or.inl (hw _ (List.mem_of_getElem? (i := 47) rfl))) (ty := .int) (by decide)
  refine own_go st1 ?_
  show own_Goes _ _ _ _ _ _ _ T1 (mkF m 3 #[.val (.long q0), .second, .val (.long q2), .second, .val (.long q4), .second, .val (.long q6), .second, .val (.long q8), .second, .val (.int p10), .unset, .unset, .unset, .unset, .unset, .unset, .unset, .unset, .unset, .unset, .unset] [(.ref b1)])
  refine own_go (fun _ k => XS.dup X1.here hx rfl (hb hby at_3) rfl rfl k) ?_
  show own_Goes _ _ _ _ _ _ _ T1 (mkF m 4 #[.val (.long q0), .second, .val (.long q2), .second, .val (.long q4), .second, .val (.long q6), .second, .val (.long q8), .second, .val (.int p10), .unset, .unset, .unset, .unset, .unset, .unset, .unset, .unset, .unset, .unset, .unset] [(.ref b1), (.ref b1)])
  obtain ⟨_, _, ⟨T2, L2, k2, n2⟩, -, X2, ⟨Lc2, hQ2, l2, y2, z2⟩, st2⟩ := X1.specialBack hx (y := (⟨"com/example/vaxwire/vaxwire/store/OwnKeyChanges", "<init>", "()V"⟩ : MethodName)) rfl hown (mvT hZ (hw _ (List.mem_of_getElem? (i := 3) rfl))) (mvT hZ (hw _ (List.mem_of_getElem? (i := 4) rfl))) (mvT hZ (hw _ (List.mem_of_getElem? (i := 5) rfl))) (by decide) (backOf (W := 1) (rm1 l Z a0 hw [] b1 h1 n0 Zs1 A1 F_upTo_b1 F_moves_b1 F_numbers_b1 F_patients_b1 F_files_b1 F_before_b1 F_last_b1 F_takesOut_b1 F_count_b1 lo_b1) hZ (hw _ (List.mem_of_getElem? (i := 5) rfl)) (hw _ (List.mem_of_getElem? (i := 2) rfl)) (by decide) (by decide)) (g := (mkF m 4 #[.val (.long q0), .second, .val (.long q2), .second, .val (.long q4), .second, .val (.long q6), .second, .val (.long q8), .second, .val (.int p10), .unset, .unset, .unset, .unset, .unset, .unset, .unset, .unset, .unset, .unset, .unset] [(.ref b1), (.ref b1)])) rfl (by rw [hml]; rfl) (Steps.refl _) (a := b1) (argsL := []) (rest := [(.ref b1)]) (lenOf pd_2 rfl) rfl (by show 2 * 0 + _ ≤ _; exact Nat.le_of_eq rfl) (hb hby at_4) (fun _ _ => ⟨rfl, e1, (by decide : 0 + 1 + 6 ≤ _), (by decide : 0 + 9 + 8192 ≤ _)⟩)
  dsimp only [Pt.U, Pt.locs, Pt.cells, Pt.slots] at X2 l2 y2 z2 st2 hQ2
  subst l2 y2 z2
  obtain ⟨rfl, N2q, Zs2, KK2⟩ := hQ2
  have N2 := Fr.app N0 N2q
  refine own_goS st2 ?_
  show own_Goes _ _ _ _ _ _ _ T2 (mkF m 7 #[.val (.long q0), .second, .val (.long q2), .second, .val (.long q4), .second, .val (.long q6), .second, .val (.long q8), .second, .val (.int p10), .unset, .unset, .unset, .unset, .unset, .unset, .unset, .unset, .unset, .unset, .unset] [(.ref b1)])
  refine own_go (fun _ k => XS.astore X2.here hx rfl (hb hby at_7) rfl rfl (l' := #[.val (.long q0), .second, .val (.long q2), .second, .val (.long q4), .second, .val (.long q6), .second, .val (.long q8), .second, .val (.int p10), .val (.ref b1), .unset, .unset, .unset, .unset, .unset, .unset, .unset, .unset, .unset, .unset]) rfl k) ?_
  show own_Goes _ _ _ _ _ _ _ T2 (mkF m 9 #[.val (.long q0), .second, .val (.long q2), .second, .val (.long q4), .second, .val (.long q6), .second, .val (.long q8), .second, .val (.int p10), .val (.ref b1), .unset, .unset, .unset, .unset, .unset, .unset, .unset, .unset, .unset, .unset] [])
  exact seg9 q0 q2 q4 q6 q8 p10 b1 hw ⟨hx, hby, hml, hown, hnm, hret, hlk, hZ⟩ X2 rfl n0 Zs2 N2 KK2
set_option maxRecDepth 65536 in
set_option maxHeartbeats 40000000 in
theorem comes_1 {Post : Tables → Env → Array Value → State → Outcome → State → Prop} (hpost : ∀ tb e args s v u, (limb_1_1.after args s (.returned v) u = true ∧ limb_1_2.after args s (.returned v) u = true ∧ True) → FrameEnd s (.returned v) u (Jvm.fieldLocs frame_1_writes args s ++ Jvm.arrayLocs frame_1_arrays args s ++ Jvm.staticLocs frame_1_statics s) 24 16512 → Post tb e args s (.returned v) u) :
    ArmFor flags0 classFile x code maxLocals ret World_1 tables_1 room_1 Calls_1 rest_1 Pre_1 Post := by
  intro l hfl _ _ p e ha hc hk s m args below hf hA hF happ hP
  obtain ⟨hcalls, hrest, hpre⟩ := hP
  obtain ⟨-, -, -, hnamed, -, -, -, hat⟩ := (Spec.applies_iff hf).mp happ
  obtain ⟨hg, hn⟩ := and_e (Cond.before_iff.mp (show (Jvm.Cond.and given_1 narrow_1).before args s = true from hpre))
  obtain ⟨g0, gr0⟩ := and_e hg
  obtain ⟨ga0, gr1⟩ := and_e gr0
  obtain ⟨ga1, gr2⟩ := and_e gr1
  obtain ⟨ga2, gr3⟩ := and_e gr2
  obtain ⟨ga3, gr4⟩ := and_e gr3
  obtain ⟨ga4, gr5⟩ := and_e gr4
  have ga5 := gr5
  obtain ⟨w0, w1, w2, w3, w4, w5, rfl⟩ : ∃ w0 w1 w2 w3 w4 w5 : Value, args = #[w0, w1, w2, w3, w4, w5] := by
    have hs : args.size = 6 := by simpa [Cond.value, given_1] using g0
    obtain ⟨L⟩ := args
    match L, hs with
    | [w0, w1, w2, w3, w4, w5], _ => exact ⟨w0, w1, w2, w3, w4, w5, rfl⟩
  have hw := fun d (hd : d ∈ tables_1) => atoms_spec (ws := Jvm.Cond.code x code maxLocals ret :: tables_1) hat d (List.mem_cons_of_mem _ hd)
  have hfit : Fit s := fun {y c} hc i hi => by
    obtain ⟨ha, rfl⟩ := Array.getElem?_eq_some_iff.mp hc
    have q := List.all_eq_true.mp ((Array.all_eq_true_iff_forall_mem.mp hF) _ (Array.getElem_mem ha)) i (List.mem_range.mpr hi)
    simpa [Array.getElem?_eq_getElem hi] using q
  obtain ⟨i0, ei0⟩ := isL_v ga0
  obtain rfl : w0 = (.long i0) := Option.some.inj ei0
  obtain ⟨i1, ei1⟩ := isL_v ga1
  obtain rfl : w1 = (.long i1) := Option.some.inj ei1
  obtain ⟨i2, ei2⟩ := isL_v ga2
  obtain rfl : w2 = (.long i2) := Option.some.inj ei2
  obtain ⟨i3, ei3⟩ := isL_v ga3
  obtain rfl : w3 = (.long i3) := Option.some.inj ei3
  obtain ⟨i4, ei4⟩ := isL_v ga4
  obtain rfl : w4 = (.long i4) := Option.some.inj ei4
  obtain ⟨i5, ei5⟩ := is_v ga5
  obtain rfl : w5 = (.int i5) := Option.some.inj ei5
  obtain ⟨n, o, h1, h2, h3, _, L, rfl, ⟨rfl, N⟩, hq⟩ := rm0 l s _ hw tables_1 i0 i1 i2 i3 i4 i5 s.heap s.heap.size (Nat.le_refl _)  p e ha hc hk s m _ below hf ((Spec.applies_iff_loose hf).mp happ).1 ⟨rfl, State.Warmed39.refl s, rfl⟩ trivial
  refine ⟨n, _, h1, h2, h3, hpost _ _ _ _ _ _ ⟨Cond.after_iff.mpr rfl, Cond.after_iff.mpr (eq_i res_at (Term.int_eval (1)) rfl), trivial⟩ ⟨hq.1, hq.2.1, (hq.2.2.sift fun y hy => Or.inr (N y hy)).mono (by decide) (by decide)⟩⟩
theorem main_1_1 : Claimed_1_1 := comes_1 fun _ _ _ _ _ _ h hF => ⟨h.1, hF⟩
theorem main_1_2 : Claimed_1_2 := comes_1 fun _ _ _ _ _ _ h hF => ⟨h.2.1, hF⟩
end Jvm.Pilot.@@N@@
namespace Jvm.Pilot.@@N@@
open Jvm Jvm.ClassFile Sem Op Lib Jvm.Free Jvm.Stand Jvm.Pilot.@@N@@.Jvm.D
/-! MADE BY PROGRAM (witnessworld.py) out of the Statement's table words and the real class files: 14 classes; the members and pool entries that the words name. The judged class is class 1, her method 1. -/
namespace start1
open Jvm.ClassFile
def u (s : String) : CpInfo := .utf8 (stringToUtf16 s)
/-- a pool by its gaps: so many unusable entries, then the entry; so many at the end -/
def gap : Nat → List CpInfo → List CpInfo
  | 0, r => r
  | n + 1, r => .unusable :: gap n r
def poolList (es : List (Nat × CpInfo)) (last : Nat) : List CpInfo := es.foldr (fun e r => gap e.1 (e.2 :: r)) (gap last [])
def pool (es : List (Nat × CpInfo)) (last : Nat) : Array CpInfo := ⟨poolList es last⟩
def fileOf (pool : Array CpInfo) (this : Nat) (attrs : Array Attribute := #[]) (ms : Array MethodInfo := #[]) (fl : Nat := 33) (sup : Nat := 0) (ifs : Array Nat := #[]) (fds : Array FieldInfo := #[]) : ClassFile where
  minorVersion := 0
  majorVersion := 65
  constantPool := pool
  accessFlags := fl
  thisClass := this
  superClass := sup
  interfaces := ifs
  fields := fds
  methods := ms
  attributes := attrs
def plain (name : String) (sup : Option ClassId) : Class where
  name := name
  kind := .ordinary
  loader := none
  accessFlags := 33
  super := sup
  interfaces := #[]
  cf := none
  fields := #[]
  methods := #[]
  instanceTypes := #[]
  staticTypes := #[]
  resolved := #[]
  callSites := []
  init := .initialized
  statics := none
  mirror := none

def pool0 : Array CpInfo := pool [(5, u "<init>"), (0, u "()V"), (1, .class_ 10), (1, u "java/lang/Object")] 113

def k0c0 : Code := { maxStack := 0, maxLocals := 1, code := object_method_1_code, exceptionTable := #[], attributes := #[] }
def k0m0 : Method := { name := "<init>", desc := "()V", sig := { parameters := [], returnType := none }, accessFlags := 1, code := some k0c0 }
/-- java/lang/Object -/
def k0 : Class := { plain "java/lang/Object" none with
  accessFlags := 33
  interfaces := #[]
  cf := some (fileOf pool0 8 #[] #[{ accessFlags := 1, nameIndex := 5, descriptorIndex := 6, attributes := #[] }] 33 0 #[] #[])
  fields := #[]
  methods := #[k0m0]
  instanceTypes := #[]
  staticTypes := #[]
  resolved := Array.replicate 124 none
  statics := none }

def pool1 : Array CpInfo := pool [(2, .class_ 4), (0, .nameAndType 5 6), (0, u "java/lang/Object"), (0, u "<init>"), (0, u "()V"), (0, .class_ 8), (0, u "com/example/vaxwire/vaxwire/store/OwnKeyChanges"), (0, .methodref 7 3), (0, .long 18446744073709551615), (1, .methodref 7 13), (0, .nameAndType 14 15), (0, u "knownUpTo"), (0, u "(JJ)V"), (0, .methodref 7 17), (0, .nameAndType 18 6), (0, u "forget"), (0, .methodref 7 20), (0, .nameAndType 21 22), (0, u "committed"), (0, u "(J)V"), (0, .methodref 7 24), (0, .nameAndType 25 26), (0, u "accountsFor"), (0, u "(JJ)Z"), (0, .class_ 28), (0, u "com/example/vaxwire/vaxwire/store/OwnKeyChangesAccountsForPinLaw"), (2, u "law"), (0, u "(JJJJJI)Z")] 3

def k1m0 : Method := { name := "<init>", desc := "()V", sig := { parameters := [], returnType := none }, accessFlags := 1, code := none }
def k1c1 : Code := { maxStack := 5, maxLocals := 22, code := code, exceptionTable := #[], attributes := #[] }
def k1m1 : Method := { name := "law", desc := "(JJJJJI)Z", sig := { parameters := [.long, .long, .long, .long, .long, .int], returnType := some .boolean }, accessFlags := 9, code := some k1c1 }
/-- com/example/vaxwire/vaxwire/store/OwnKeyChangesAccountsForPinLaw -/
def k1 : Class := { plain "com/example/vaxwire/vaxwire/store/OwnKeyChangesAccountsForPinLaw" (some 0) with
  accessFlags := 49
  interfaces := #[]
  cf := some (fileOf pool1 27 #[] #[{ accessFlags := 1, nameIndex := 5, descriptorIndex := 6, attributes := #[] }, { accessFlags := 9, nameIndex := 31, descriptorIndex := 32, attributes := #[] }] 49 2 #[] #[])
  fields := #[]
  methods := #[k1m0, k1m1]
  instanceTypes := #[]
  staticTypes := #[]
  resolved := Array.replicate 36 none
  statics := none }

def pool2 : Array CpInfo := pool [(1, .methodref 2 3), (0, .class_ 4), (0, .nameAndType 5 6), (0, u "java/lang/Object"), (0, u "<init>"), (0, u "()V"), (0, .long 18446744073709551615), (1, .fieldref 10 11), (0, .class_ 12), (0, .nameAndType 13 14), (0, u "com/example/vaxwire/vaxwire/store/OwnKeyChanges"), (0, u "upTo"), (0, u "J"), (0, .fieldref 10 16), (0, .nameAndType 17 14), (0, u "moves"), (0, .fieldref 10 19), (0, .nameAndType 20 21), (0, u "numbers"), (0, u "[J"), (0, .fieldref 10 23), (0, .nameAndType 24 21), (0, u "patients"), (0, .fieldref 10 26), (0, .nameAndType 27 28), (0, u "files"), (0, u "[Z"), (0, .fieldref 10 30), (0, .nameAndType 31 32), (0, u "before"), (0, u "[I"), (0, .fieldref 10 34), (0, .nameAndType 35 32), (0, u "last"), (0, .fieldref 10 37), (0, .nameAndType 38 28), (0, u "takesOut"), (0, .methodref 10 40), (0, .nameAndType 41 6), (0, u "clear"), (0, .fieldref 10 43), (0, .nameAndType 44 45), (0, u "count"), (0, u "I"), (7, .class_ 54), (0, u "com/example/vaxwire/vaxwire/store/OwnKeyChanges$1"), (6, .class_ 63), (1, u "java/util/Arrays"), (8, .methodref 61 73), (0, .nameAndType 74 75), (0, u "fill"), (0, u "([II)V"), (0, .methodref 61 77), (0, .nameAndType 74 78), (0, u "([ZZ)V"), (0, u "FIRST_CAPACITY"), (4, u "knownUpTo"), (0, u "(JJ)V"), (0, u "forget"), (0, u "accountsFor"), (0, u "(JJ)Z"), (3, u "committed"), (0, u "(J)V")] 15

def k2c0 : Code := { maxStack := 3, maxLocals := 1, code := prog_159_method_1_code, exceptionTable := #[], attributes := #[] }
def k2m0 : Method := { name := "<init>", desc := "()V", sig := { parameters := [], returnType := none }, accessFlags := 0, code := some k2c0 }
def k2c1 : Code := { maxStack := 3, maxLocals := 5, code := prog_159_method_2_code, exceptionTable := #[], attributes := #[] }
def k2m1 : Method := { name := "knownUpTo", desc := "(JJ)V", sig := { parameters := [.long, .long], returnType := none }, accessFlags := 0, code := some k2c1 }
def k2c2 : Code := { maxStack := 3, maxLocals := 1, code := prog_159_method_3_code, exceptionTable := #[], attributes := #[] }
def k2m2 : Method := { name := "forget", desc := "()V", sig := { parameters := [], returnType := none }, accessFlags := 0, code := some k2c2 }
def k2c3 : Code := { maxStack := 4, maxLocals := 5, code := prog_159_method_4_code, exceptionTable := #[], attributes := #[] }
def k2m3 : Method := { name := "accountsFor", desc := "(JJ)Z", sig := { parameters := [.long, .long], returnType := some .boolean }, accessFlags := 0, code := some k2c3 }
def k2c4 : Code := { maxStack := 4, maxLocals := 3, code := prog_159_method_6_code, exceptionTable := #[], attributes := #[] }
def k2m4 : Method := { name := "committed", desc := "(J)V", sig := { parameters := [.long], returnType := none }, accessFlags := 0, code := some k2c4 }
def k2c5 : Code := { maxStack := 2, maxLocals := 1, code := prog_159_method_12_code, exceptionTable := #[], attributes := #[] }
def k2m5 : Method := { name := "clear", desc := "()V", sig := { parameters := [], returnType := none }, accessFlags := 2, code := some k2c5 }
/-- com/example/vaxwire/vaxwire/store/OwnKeyChanges -/
def k2 : Class := { plain "com/example/vaxwire/vaxwire/store/OwnKeyChanges" (some 0) with
  accessFlags := 48
  interfaces := #[]
  cf := some (fileOf pool2 10 #[.nestMembers #[53]] #[{ accessFlags := 0, nameIndex := 5, descriptorIndex := 6, attributes := #[] }, { accessFlags := 0, nameIndex := 84, descriptorIndex := 85, attributes := #[] }, { accessFlags := 0, nameIndex := 86, descriptorIndex := 6, attributes := #[] }, { accessFlags := 0, nameIndex := 87, descriptorIndex := 88, attributes := #[] }, { accessFlags := 0, nameIndex := 92, descriptorIndex := 93, attributes := #[] }, { accessFlags := 2, nameIndex := 41, descriptorIndex := 6, attributes := #[] }] 48 2 #[] #[{ accessFlags := 26, nameIndex := 79, descriptorIndex := 45, attributes := #[] }, { accessFlags := 2, nameIndex := 13, descriptorIndex := 14, attributes := #[] }, { accessFlags := 2, nameIndex := 17, descriptorIndex := 14, attributes := #[] }, { accessFlags := 2, nameIndex := 20, descriptorIndex := 21, attributes := #[] }, { accessFlags := 2, nameIndex := 24, descriptorIndex := 21, attributes := #[] }, { accessFlags := 2, nameIndex := 27, descriptorIndex := 28, attributes := #[] }, { accessFlags := 2, nameIndex := 31, descriptorIndex := 32, attributes := #[] }, { accessFlags := 2, nameIndex := 44, descriptorIndex := 45, attributes := #[] }, { accessFlags := 2, nameIndex := 35, descriptorIndex := 32, attributes := #[] }, { accessFlags := 2, nameIndex := 38, descriptorIndex := 28, attributes := #[] }])
  fields := #[{ name := "FIRST_CAPACITY", type := .int, accessFlags := 26, slot := 0, constantValue := 0 }, { name := "upTo", type := .long, accessFlags := 2, slot := 0, constantValue := 0 }, { name := "moves", type := .long, accessFlags := 2, slot := 1, constantValue := 0 }, { name := "numbers", type := (.array .long), accessFlags := 2, slot := 2, constantValue := 0 }, { name := "patients", type := (.array .long), accessFlags := 2, slot := 3, constantValue := 0 }, { name := "files", type := (.array .boolean), accessFlags := 2, slot := 4, constantValue := 0 }, { name := "before", type := (.array .int), accessFlags := 2, slot := 5, constantValue := 0 }, { name := "count", type := .int, accessFlags := 2, slot := 6, constantValue := 0 }, { name := "last", type := (.array .int), accessFlags := 2, slot := 7, constantValue := 0 }, { name := "takesOut", type := (.array .boolean), accessFlags := 2, slot := 8, constantValue := 0 }]
  methods := #[k2m0, k2m1, k2m2, k2m3, k2m4, k2m5]
  instanceTypes := #[.long, .long, (.array .long), (.array .long), (.array .boolean), (.array .int), .int, (.array .int), (.array .boolean)]
  staticTypes := #[.int]
  resolved := Array.replicate 109 none
  statics := none }

def pool3 : Array CpInfo := pool [(2, .class_ 4), (1, u "java/lang/Object"), (0, u "<init>"), (0, u "()V"), (7, .class_ 16), (1, u "java/util/Arrays"), (57, .class_ 76), (1, u "java/util/Arrays$NaturalOrder"), (36, .class_ 115), (1, u "java/util/Arrays$LegacyMergeSort"), (1, u "Z"), (257, .class_ 376), (0, u "java/util/Arrays$ArrayList"), (68, u "$assertionsDisabled"), (269, u "MIN_ARRAY_SORT_GRAN"), (0, u "I"), (2, u "INSERTIONSORT_THRESHOLD"), (120, u "fill"), (4, u "([II)V"), (6, u "([ZZ)V"), (122, .class_ 976), (0, u "java/util/Arrays$ArrayItr")] 52

def k3m0 : Method := { name := "<init>", desc := "()V", sig := { parameters := [], returnType := none }, accessFlags := 2, code := none }
def k3c1 : Code := { maxStack := 3, maxLocals := 4, code := jdk_65_method_103_code, exceptionTable := #[], attributes := #[] }
def k3m1 : Method := { name := "fill", desc := "([II)V", sig := { parameters := [(.array .int), .int], returnType := none }, accessFlags := 9, code := some k3c1 }
def k3c2 : Code := { maxStack := 3, maxLocals := 4, code := jdk_65_method_111_code, exceptionTable := #[], attributes := #[] }
def k3m2 : Method := { name := "fill", desc := "([ZZ)V", sig := { parameters := [(.array .boolean), .boolean], returnType := none }, accessFlags := 9, code := some k3c2 }
/-- java/util/Arrays -/
def k3 : Class := { plain "java/util/Arrays" (some 0) with
  accessFlags := 49
  interfaces := #[]
  cf := some (fileOf pool3 14 #[.nestMembers #[975, 375, 113, 74]] #[{ accessFlags := 2, nameIndex := 5, descriptorIndex := 6, attributes := #[] }, { accessFlags := 9, nameIndex := 840, descriptorIndex := 845, attributes := #[] }, { accessFlags := 9, nameIndex := 840, descriptorIndex := 852, attributes := #[] }] 49 2 #[] #[{ accessFlags := 26, nameIndex := 715, descriptorIndex := 716, attributes := #[] }, { accessFlags := 26, nameIndex := 719, descriptorIndex := 716, attributes := #[] }, { accessFlags := 4120, nameIndex := 445, descriptorIndex := 117, attributes := #[] }])
  fields := #[{ name := "MIN_ARRAY_SORT_GRAN", type := .int, accessFlags := 26, slot := 0, constantValue := 0 }, { name := "INSERTIONSORT_THRESHOLD", type := .int, accessFlags := 26, slot := 1, constantValue := 0 }, { name := "$assertionsDisabled", type := .boolean, accessFlags := 4120, slot := 2, constantValue := 0 }]
  methods := #[k3m0, k3m1, k3m2]
  instanceTypes := #[]
  staticTypes := #[.int, .int, .boolean]
  resolved := Array.replicate 1029 none
  statics := none }

def pool4 : Array CpInfo := pool [(1, u "java/lang/Cloneable"), (0, .class_ 1), (0, u "java/lang/Object"), (0, .class_ 3)] 3

/-- java/lang/Cloneable -/
def k4 : Class := { plain "java/lang/Cloneable" (some 0) with
  accessFlags := 1537
  interfaces := #[]
  cf := some (fileOf pool4 2 #[] #[] 1537 4 #[] #[])
  fields := #[]
  methods := #[]
  instanceTypes := #[]
  staticTypes := #[]
  resolved := Array.replicate 8 none
  statics := none }

def pool5 : Array CpInfo := pool [(1, u "java/io/Serializable"), (0, .class_ 1), (0, u "java/lang/Object"), (0, .class_ 3)] 3

/-- java/io/Serializable -/
def k5 : Class := { plain "java/io/Serializable" (some 0) with
  accessFlags := 1537
  interfaces := #[]
  cf := some (fileOf pool5 2 #[] #[] 1537 4 #[] #[])
  fields := #[]
  methods := #[]
  instanceTypes := #[]
  staticTypes := #[]
  resolved := Array.replicate 8 none
  statics := none }

/-- the primitive boolean -/
def k6 : Class := { plain "boolean" none with kind := .primitive 'Z', accessFlags := 0x411 }
/-- [Z -/
def k7 : Class := { plain "[Z" (some 0) with kind := .array 6 .boolean, interfaces := #[4, 5], accessFlags := 1041 }

/-- the primitive byte -/
def k8 : Class := { plain "byte" none with kind := .primitive 'B', accessFlags := 0x411 }
/-- [B -/
def k9 : Class := { plain "[B" (some 0) with kind := .array 8 .byte, interfaces := #[4, 5], accessFlags := 1041 }

/-- the primitive int -/
def k10 : Class := { plain "int" none with kind := .primitive 'I', accessFlags := 0x411 }
/-- [I -/
def k11 : Class := { plain "[I" (some 0) with kind := .array 10 .int, interfaces := #[4, 5], accessFlags := 1041 }

/-- the primitive long -/
def k12 : Class := { plain "long" none with kind := .primitive 'J', accessFlags := 0x411 }
/-- [J -/
def k13 : Class := { plain "[J" (some 0) with kind := .array 12 .long, interfaces := #[4, 5], accessFlags := 1041 }

def heap : Heap := #[]
def classes : Array Class := #[k0, k1, k2, k3, k4, k5, k6, k7, k8, k9, k10, k11, k12, k13]
def interned : List (Array UInt16 × Addr) := []
def slotsUsed : Nat := 0
def theMethod : MethodId := ⟨1, 1⟩
def args0 : Array Value := #[.long 5, .long 6, .long 7, .long 8, .long 9, .int 7]
def aboutOver (below : List Frame) : State where
  vm := { classes := classes, interned := interned.toArray }
  heap := heap
  slotsUsed := slotsUsed
  threads := #[{ frames := .invoking theMethod args0 :: below }]
def below0 : List Frame := [.native { method := ⟨0, 0⟩, args := #[] }]
def about1 : State := aboutOver below0
def p0 : Program := .bare "" "" ""
def e0 : Env := launch0.env 0 0 0
theorem w_frames : about1.frames = Frame.invoking theMethod args0 :: below0 := rfl
set_option maxRecDepth 65536 in
theorem w_args : argsFit about1.vm theMethod args0 = true := by decide +kernel
set_option maxRecDepth 65536 in
theorem w_heap : heapFits about1 = true := by decide +kernel
set_option maxRecDepth 65536 in
theorem w_runnable : about1.curStatus? = some .runnable := by decide +kernel
set_option maxRecDepth 65536 in
theorem w_alone : about1.alone = true := by decide +kernel
set_option maxRecDepth 65536 in
theorem w_named : about1.methodNamed? x = some theMethod := by decide +kernel
set_option maxRecDepth 65536 in
theorem w_hears : about1.hears theMethod below0 = true := by decide +kernel
set_option maxRecDepth 65536 in
theorem w_ripe : about1.ripe theMethod args0 below0 = true := by decide +kernel
theorem w_running : about1.status = .running := rfl
set_option maxRecDepth 65536 in
theorem w_room : about1.hasRoom e0.platform room_1 = true :=
  launch0.hasRoom_least _ room_1 (by decide +kernel) (by decide +kernel) (by decide +kernel) (by decide +kernel) (by decide +kernel) (by decide +kernel)
theorem allAtoms_all (ts : List Jvm.Cond) (a : Array Jvm.Value) (st : Jvm.State) : (allAtoms ts).before a st = ts.all (fun c => c.before a st) := by
  induction ts with
  | nil => rfl
  | cons c t ih =>
    show (Jvm.Cond.and c (allAtoms t)).before a st = _
    rw [Jvm.Cond.before_and, ih, List.all_cons]
def words1 : List Jvm.Cond := Jvm.Cond.code x code maxLocals ret :: tables_1
/-- a 'code' word, met by the world's own term for the bytes: nothing is compared byte by byte -/
theorem code_word {y : MethodName} {bytes : ByteArray} {mx : Nat} {rt : Option FieldType} {a : Array Value} {s : State} {m : MethodId} {meth : Method} {c : Code} (h1 : s.methodNamed? y = some m) (h2 : s.vm.method? m = some meth) (h3 : meth.code = some c) (h4 : c.code = bytes)
    (h5 : (c.maxLocals == mx && c.exceptionTable.isEmpty && decide (c.maxStack ≤ mostOperands) && decide (meth.sig.returnType = rt) && !meth.locks && decide (parseMethodDescriptor y.desc = some meth.sig)) = true) : (Jvm.Cond.code y bytes mx rt).before a s = true := by
  simp only [Bool.and_eq_true, beq_iff_eq, Bool.not_eq_true', decide_eq_true_eq] at h5
  obtain ⟨⟨⟨⟨⟨g1, g2⟩, g3⟩, g4⟩, g5⟩, g6⟩ := h5
  simp [Cond.before, Cond.holds, Cond.value, h1, h2, h3, h4, g1, g2, g3, g4, g5, g6]
def isCode : Jvm.Cond → Bool
  | .code _ _ _ _ => true
  | _ => false
theorem all_split {L : List Jvm.Cond} {P : Jvm.Cond → Bool} (h1 : L.all (fun c => isCode c || P c) = true) (h2 : ∀ c ∈ L.filter isCode, P c = true) : L.all P = true := by
  refine List.all_eq_true.mpr fun c hc => ?_
  have h := List.all_eq_true.mp h1 c hc
  rcases Bool.eq_false_or_eq_true (isCode c) with hi | hi
  · exact h2 c (List.mem_filter.mpr ⟨hc, hi⟩)
  · simpa [hi] using h
set_option maxRecDepth 65536 in
theorem w_c0 : (Jvm.Cond.code x code maxLocals ret).before args0 about1 = true := code_word (m := ⟨1, 1⟩) (meth := k1m1) (c := k1c1) (by decide +kernel) rfl rfl rfl (by decide +kernel)
set_option maxRecDepth 65536 in
theorem w_c1 : (Jvm.Cond.code ({ cls := "com/example/vaxwire/vaxwire/store/OwnKeyChanges", name := "<init>", desc := "()V" } : Jvm.MethodName) prog_159_method_1_code (1 : Nat) (Option.none : Option Jvm.ClassFile.FieldType)).before args0 about1 = true := code_word (m := ⟨2, 0⟩) (meth := k2m0) (c := k2c0) (by decide +kernel) rfl rfl rfl (by decide +kernel)
set_option maxRecDepth 65536 in
theorem w_c2 : (Jvm.Cond.code ({ cls := "java/lang/Object", name := "<init>", desc := "()V" } : Jvm.MethodName) object_method_1_code (1 : Nat) (Option.none : Option Jvm.ClassFile.FieldType)).before args0 about1 = true := code_word (m := ⟨0, 0⟩) (meth := k0m0) (c := k0c0) (by decide +kernel) rfl rfl rfl (by decide +kernel)
set_option maxRecDepth 65536 in
theorem w_c3 : (Jvm.Cond.code ({ cls := "com/example/vaxwire/vaxwire/store/OwnKeyChanges", name := "knownUpTo", desc := "(JJ)V" } : Jvm.MethodName) prog_159_method_2_code (5 : Nat) (Option.none : Option Jvm.ClassFile.FieldType)).before args0 about1 = true := code_word (m := ⟨2, 1⟩) (meth := k2m1) (c := k2c1) (by decide +kernel) rfl rfl rfl (by decide +kernel)
set_option maxRecDepth 65536 in
theorem w_c4 : (Jvm.Cond.code ({ cls := "com/example/vaxwire/vaxwire/store/OwnKeyChanges", name := "clear", desc := "()V" } : Jvm.MethodName) prog_159_method_12_code (1 : Nat) (Option.none : Option Jvm.ClassFile.FieldType)).before args0 about1 = true := code_word (m := ⟨2, 5⟩) (meth := k2m5) (c := k2c5) (by decide +kernel) rfl rfl rfl (by decide +kernel)
set_option maxRecDepth 65536 in
theorem w_c5 : (Jvm.Cond.code ({ cls := "java/util/Arrays", name := "fill", desc := "([II)V" } : Jvm.MethodName) jdk_65_method_103_code (4 : Nat) (Option.none : Option Jvm.ClassFile.FieldType)).before args0 about1 = true := code_word (m := ⟨3, 1⟩) (meth := k3m1) (c := k3c1) (by decide +kernel) rfl rfl rfl (by decide +kernel)
set_option maxRecDepth 65536 in
theorem w_c6 : (Jvm.Cond.code ({ cls := "java/util/Arrays", name := "fill", desc := "([ZZ)V" } : Jvm.MethodName) jdk_65_method_111_code (4 : Nat) (Option.none : Option Jvm.ClassFile.FieldType)).before args0 about1 = true := code_word (m := ⟨3, 2⟩) (meth := k3m2) (c := k3c2) (by decide +kernel) rfl rfl rfl (by decide +kernel)
set_option maxRecDepth 65536 in
theorem w_c7 : (Jvm.Cond.code ({ cls := "com/example/vaxwire/vaxwire/store/OwnKeyChanges", name := "forget", desc := "()V" } : Jvm.MethodName) prog_159_method_3_code (1 : Nat) (Option.none : Option Jvm.ClassFile.FieldType)).before args0 about1 = true := code_word (m := ⟨2, 2⟩) (meth := k2m2) (c := k2c2) (by decide +kernel) rfl rfl rfl (by decide +kernel)
set_option maxRecDepth 65536 in
theorem w_c8 : (Jvm.Cond.code ({ cls := "com/example/vaxwire/vaxwire/store/OwnKeyChanges", name := "accountsFor", desc := "(JJ)Z" } : Jvm.MethodName) prog_159_method_4_code (5 : Nat) (Option.some Jvm.ClassFile.FieldType.boolean)).before args0 about1 = true := code_word (m := ⟨2, 3⟩) (meth := k2m3) (c := k2c3) (by decide +kernel) rfl rfl rfl (by decide +kernel)
set_option maxRecDepth 65536 in
theorem w_c9 : (Jvm.Cond.code ({ cls := "com/example/vaxwire/vaxwire/store/OwnKeyChanges", name := "committed", desc := "(J)V" } : Jvm.MethodName) prog_159_method_6_code (3 : Nat) (Option.none : Option Jvm.ClassFile.FieldType)).before args0 about1 = true := code_word (m := ⟨2, 4⟩) (meth := k2m4) (c := k2c4) (by decide +kernel) rfl rfl rfl (by decide +kernel)
def codes1 : List Jvm.Cond := [Jvm.Cond.code x code maxLocals ret, Jvm.Cond.code ({ cls := "com/example/vaxwire/vaxwire/store/OwnKeyChanges", name := "<init>", desc := "()V" } : Jvm.MethodName) prog_159_method_1_code (1 : Nat) (Option.none : Option Jvm.ClassFile.FieldType), Jvm.Cond.code ({ cls := "java/lang/Object", name := "<init>", desc := "()V" } : Jvm.MethodName) object_method_1_code (1 : Nat) (Option.none : Option Jvm.ClassFile.FieldType), Jvm.Cond.code ({ cls := "com/example/vaxwire/vaxwire/store/OwnKeyChanges", name := "knownUpTo", desc := "(JJ)V" } : Jvm.MethodName) prog_159_method_2_code (5 : Nat) (Option.none : Option Jvm.ClassFile.FieldType), Jvm.Cond.code ({ cls := "com/example/vaxwire/vaxwire/store/OwnKeyChanges", name := "clear", desc := "()V" } : Jvm.MethodName) prog_159_method_12_code (1 : Nat) (Option.none : Option Jvm.ClassFile.FieldType), Jvm.Cond.code ({ cls := "java/util/Arrays", name := "fill", desc := "([II)V" } : Jvm.MethodName) jdk_65_method_103_code (4 : Nat) (Option.none : Option Jvm.ClassFile.FieldType), Jvm.Cond.code ({ cls := "java/util/Arrays", name := "fill", desc := "([ZZ)V" } : Jvm.MethodName) jdk_65_method_111_code (4 : Nat) (Option.none : Option Jvm.ClassFile.FieldType), Jvm.Cond.code ({ cls := "com/example/vaxwire/vaxwire/store/OwnKeyChanges", name := "forget", desc := "()V" } : Jvm.MethodName) prog_159_method_3_code (1 : Nat) (Option.none : Option Jvm.ClassFile.FieldType), Jvm.Cond.code ({ cls := "com/example/vaxwire/vaxwire/store/OwnKeyChanges", name := "accountsFor", desc := "(JJ)Z" } : Jvm.MethodName) prog_159_method_4_code (5 : Nat) (Option.some Jvm.ClassFile.FieldType.boolean), Jvm.Cond.code ({ cls := "com/example/vaxwire/vaxwire/store/OwnKeyChanges", name := "committed", desc := "(J)V" } : Jvm.MethodName) prog_159_method_6_code (3 : Nat) (Option.none : Option Jvm.ClassFile.FieldType)]
set_option maxRecDepth 65536 in
theorem codes_eq : words1.filter isCode = codes1 := rfl
theorem w_codes : ∀ c ∈ words1.filter isCode, c.before args0 about1 = true := by
  rw [codes_eq]
  intro c hc
  simp only [codes1, List.mem_cons, List.not_mem_nil, or_false] at hc
  rcases hc with rfl | rfl | rfl | rfl | rfl | rfl | rfl | rfl | rfl | rfl
  · exact w_c0
  · exact w_c1
  · exact w_c2
  · exact w_c3
  · exact w_c4
  · exact w_c5
  · exact w_c6
  · exact w_c7
  · exact w_c8
  · exact w_c9
set_option maxRecDepth 65536 in
theorem w_t1 : (words1.take 24).all (fun c => isCode c || c.before args0 about1) = true := by decide +kernel
set_option maxRecDepth 65536 in
theorem w_t2 : ((words1.drop 24).take 24).all (fun c => isCode c || c.before args0 about1) = true := by decide +kernel
set_option maxRecDepth 65536 in
theorem w_t3 : ((words1.drop 24).drop 24).all (fun c => isCode c || c.before args0 about1) = true := by decide +kernel
theorem w_tables : (allAtoms (Jvm.Cond.code x code maxLocals ret :: tables_1)).before args0 about1 = true := by
  rw [allAtoms_all]
  show words1.all (fun c => c.before args0 about1) = true
  refine all_split ?_ w_codes
  rw [← List.take_append_drop 24 words1, List.all_append, w_t1, ← List.take_append_drop 24 (words1.drop 24), List.all_append, w_t2, w_t3]
  rfl
set_option maxRecDepth 65536 in
theorem w_case : (Jvm.Cond.and given_1 narrow_1).before args0 about1 = true := by decide +kernel
theorem w_applies : (headSpec (Jvm.Cond.code x code maxLocals ret :: tables_1) room_1).applies x e0.platform about1 = true :=
  (Spec.applies_iff w_frames).mpr ⟨w_running, w_runnable, w_alone, w_named, w_hears, w_ripe, w_room, w_tables⟩
theorem atStart : AtStart classFile x code maxLocals ret World_1 tables_1 room_1 Calls_1 rest_1 Pre_1 launch0 p0 e0 about1 theMethod args0 below0 :=
  ⟨lists_1, trivial, launch0.admits_env _ _ _, launch0.least_env, fairChoices_fair.cas, fairChoices_fair.clock, w_frames, w_args, w_heap, w_applies, trivial, trivial, w_case⟩
end start1
theorem witness_1 : WitnessClaimed_1 := ⟨start1.p0, start1.e0, start1.about1, start1.theMethod, start1.args0, start1.below0, start1.atStart⟩
end Jvm.Pilot.@@N@@
